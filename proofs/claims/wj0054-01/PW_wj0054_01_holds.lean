import PyProof.Rows.All
import Wide.All
import OpenK.AllK
import Wide.FinOn
import PyProof.DictWalks
import PyProof.WalksEnum
import PyProof.EnumMake
import PySem.Challenge.RW_wj0054_01
set_option maxRecDepth 100000
set_option maxHeartbeats 8000000
set_option Elab.async false
namespace Mine
open PySem PySem.W PyProof.Rows
noncomputable def fnOfS : Option Stmt → Option (Arguments × List Stmt × Scope)
  | some (.FunctionDef _ a b _ _ _ sc _ _ _) => some (a, b, sc)
  | _ => none
noncomputable def fnAt (i : Nat) : Option (Arguments × List Stmt × Scope) := fnOfS PySem.Challenge.rw_wj0054_01.prog.main.body[i]?
noncomputable def mtAt (i j : Nat) : Option (Arguments × List Stmt × Scope) := match PySem.Challenge.rw_wj0054_01.prog.main.body[i]? with
  | some (.ClassDef _ _ _ b _ _ _ _ _ _ _) => fnOfS b[j]?
  | _ => none
noncomputable def Heard (_ : Option (Arguments × List Stmt × Scope)) : Type := Params → Frag
noncomputable def K : Params → Frag := by
  refine (?i38 : Params → Frag)
  refine (?h38 : Heard (some (?p38, ?b38, ?s38)))
  refine (?g38 : Heard (fnAt 1))
  refine (?i63 : Params → Frag)
  refine (?h63 : Heard (some (?p63, ?b63, ?s63)))
  refine (?g63 : Heard (mtAt 5 0))
  refine (?i70 : Params → Frag)
  refine (?h70 : Heard (some (?p70, ?b70, ?s70)))
  refine (?g70 : Heard (mtAt 5 1))
  refine (?i77 : Params → Frag)
  refine (?h77 : Heard (some (?p77, ?b77, ?s77)))
  refine (?g77 : Heard (mtAt 5 2))
  refine (?i84 : Params → Frag)
  refine (?h84 : Heard (some (?p84, ?b84, ?s84)))
  refine (?g84 : Heard (mtAt 5 3))
  refine (?i89 : Params → Frag)
  refine (?h89 : Heard (some (?p89, ?b89, ?s89)))
  refine (?g89 : Heard (mtAt 5 4))
  refine (?i96 : Params → Frag)
  refine (?h96 : Heard (some (?p96, ?b96, ?s96)))
  refine (?g96 : Heard (mtAt 5 5))
  refine (?i103 : Params → Frag)
  refine (?h103 : Heard (some (?p103, ?b103, ?s103)))
  refine (?g103 : Heard (mtAt 5 6))
  refine (?i110 : Params → Frag)
  refine (?h110 : Heard (some (?p110, ?b110, ?s110)))
  refine (?g110 : Heard (mtAt 5 7))
  refine (?i118 : Params → Frag)
  refine (?h118 : Heard (some (?p118, ?b118, ?s118)))
  refine (?g118 : Heard (mtAt 5 8))
  refine (?i123 : Params → Frag)
  refine (?h123 : Heard (some (?p123, ?b123, ?s123)))
  refine (?g123 : Heard (mtAt 5 9))
  refine (?i128 : Params → Frag)
  refine (?h128 : Heard (some (?p128, ?b128, ?s128)))
  refine (?g128 : Heard (mtAt 5 10))
  refine (?i135 : Params → Frag)
  refine (?h135 : Heard (some (?p135, ?b135, ?s135)))
  refine (?g135 : Heard (mtAt 5 11))
  refine (?i142 : Params → Frag)
  refine (?h142 : Heard (some (?p142, ?b142, ?s142)))
  refine (?g142 : Heard (mtAt 5 12))
  refine (?i147 : Params → Frag)
  refine (?h147 : Heard (some (?p147, ?b147, ?s147)))
  refine (?g147 : Heard (mtAt 5 13))
  refine (?i154 : Params → Frag)
  refine (?h154 : Heard (some (?p154, ?b154, ?s154)))
  refine (?g154 : Heard (mtAt 5 14))
  refine (?i161 : Params → Frag)
  refine (?h161 : Heard (some (?p161, ?b161, ?s161)))
  refine (?g161 : Heard (mtAt 5 15))
  refine (?i168 : Params → Frag)
  refine (?h168 : Heard (some (?p168, ?b168, ?s168)))
  refine (?g168 : Heard (mtAt 5 16))
  refine (?i182 : Params → Frag)
  refine (?h182 : Heard (some (?p182, ?b182, ?s182)))
  refine (?g182 : Heard (fnAt 7))
  refine (?i196 : Params → Frag)
  refine (?h196 : Heard (some (?p196, ?b196, ?s196)))
  refine (?g196 : Heard (mtAt 9 0))
  refine (?i203 : Params → Frag)
  refine (?h203 : Heard (some (?p203, ?b203, ?s203)))
  refine (?g203 : Heard (mtAt 9 1))
  refine (?i210 : Params → Frag)
  refine (?h210 : Heard (some (?p210, ?b210, ?s210)))
  refine (?g210 : Heard (mtAt 9 2))
  refine (?i217 : Params → Frag)
  refine (?h217 : Heard (some (?p217, ?b217, ?s217)))
  refine (?g217 : Heard (mtAt 9 3))
  refine (?i231 : Params → Frag)
  refine (?h231 : Heard (some (?p231, ?b231, ?s231)))
  refine (?g231 : Heard (fnAt 11))
  refine (?i238 : Params → Frag)
  refine (?h238 : Heard (some (?p238, ?b238, ?s238)))
  refine (?g238 : Heard (fnAt 12))
  refine (?i245 : Params → Frag)
  refine (?h245 : Heard (some (?p245, ?b245, ?s245)))
  refine (?g245 : Heard (fnAt 13))
  refine (?i250 : Params → Frag)
  refine (?h250 : Heard (some (?p250, ?b250, ?s250)))
  refine (?g250 : Heard (fnAt 15))
  refine (?i257 : Params → Frag)
  refine (?h257 : Heard (some (?p257, ?b257, ?s257)))
  refine (?g257 : Heard (fnAt 16))
  refine (?i262 : Params → Frag)
  refine (?h262 : Heard (some (?p262, ?b262, ?s262)))
  refine (?g262 : Heard (fnAt 17))
  refine (?i269 : Params → Frag)
  refine (?h269 : Heard (some (?p269, ?b269, ?s269)))
  refine (?g269 : Heard (fnAt 18))
  refine (?i276 : Params → Frag)
  refine (?h276 : Heard (some (?p276, ?b276, ?s276)))
  refine (?g276 : Heard (fnAt 19))
  refine (?i283 : Params → Frag)
  refine (?h283 : Heard (some (?p283, ?b283, ?s283)))
  refine (?g283 : Heard (fnAt 20))
  refine (?i290 : Params → Frag)
  refine (?h290 : Heard (some (?p290, ?b290, ?s290)))
  refine (?g290 : Heard (fnAt 21))
  refine (?i295 : Params → Frag)
  refine (?h295 : Heard (some (?p295, ?b295, ?s295)))
  refine (?g295 : Heard (fnAt 22))
  refine (?i302 : Params → Frag)
  refine (?h302 : Heard (some (?p302, ?b302, ?s302)))
  refine (?g302 : Heard (fnAt 23))
  refine (?i307 : Params → Frag)
  refine (?h307 : Heard (some (?p307, ?b307, ?s307)))
  refine (?g307 : Heard (fnAt 24))
  refine (?_ : Params → Frag)
  exact fun P =>
(nat_lit 3, Obj.mk (Value.type "dict") Option.none (Data.dict #[DictEntry.mk (PyData.keyHash P (Str.ofString "__name__")) (Value.str (Str.ofString "__name__") 165) (Value.str (Str.ofString "law_wj0054_01") 606), DictEntry.mk (PyData.keyHash P (Str.ofString "__doc__")) (Value.str (Str.ofString "__doc__") 166) Value.none, DictEntry.mk (PyData.keyHash P (Str.ofString "__package__")) (Value.str (Str.ofString "__package__") 167) Value.none, DictEntry.mk (PyData.keyHash P (Str.ofString "__loader__")) (Value.str (Str.ofString "__loader__") 168) (Value.builtin "__main__.__loader__#opaque"), DictEntry.mk (PyData.keyHash P (Str.ofString "__spec__")) (Value.str (Str.ofString "__spec__") 169) Value.none, DictEntry.mk (PyData.keyHash P (Str.ofString "__annotations__")) (Value.str (Str.ofString "__annotations__") 170) (Value.ref 6), DictEntry.mk (PyData.keyHash P (Str.ofString "__builtins__")) (Value.str (Str.ofString "__builtins__") 171) (Value.ref 4), DictEntry.mk (PyData.keyHash P (Str.ofString "__file__")) (Value.str (Str.ofString "__file__") 173) (Value.str (Str.ofString "/claim/cut.py") 172), DictEntry.mk (PyData.keyHash P (Str.ofString "__cached__")) (Value.str (Str.ofString "__cached__") 174) Value.none, DictEntry.mk (PyData.keyHash P (Str.ofString "_sre")) (Value.str (Str.ofString "_sre") 275) (Value.ref 12), DictEntry.mk (PyData.keyHash P (Str.ofString "_wall")) (Value.str (Str.ofString "_wall") 288) (Value.ref 38), DictEntry.mk (PyData.keyHash P (Str.ofString "_name_disallowed_re")) (Value.str (Str.ofString "_name_disallowed_re") 316) (Value.ref 43), DictEntry.mk (PyData.keyHash P (Str.ofString "_value_disallowed_re")) (Value.str (Str.ofString "_value_disallowed_re") 350) (Value.ref 48), DictEntry.mk (PyData.keyHash P (Str.ofString "Headers")) (Value.str (Str.ofString "Headers") 507) (Value.ref 171), DictEntry.mk (PyData.keyHash P (Str.ofString "Int2AP")) (Value.str (Str.ofString "Int2AP") 519) (Value.ref 182), DictEntry.mk (PyData.keyHash P (Str.ofString "_netrclex")) (Value.str (Str.ofString "_netrclex") 579) (Value.ref 220), DictEntry.mk (PyData.keyHash P (Str.ofString "add")) (Value.str (Str.ofString "add") 589) (Value.ref 231), DictEntry.mk (PyData.keyHash P (Str.ofString "and_")) (Value.str (Str.ofString "and_") 597) (Value.ref 238), DictEntry.mk (PyData.keyHash P (Str.ofString "lshift")) (Value.str (Str.ofString "lshift") 605) (Value.ref 245), DictEntry.mk (PyData.keyHash P (Str.ofString "_law_cells")) (Value.str (Str.ofString "_law_cells") 613) (Value.ref 250), DictEntry.mk (PyData.keyHash P (Str.ofString "_law_letters")) (Value.str (Str.ofString "_law_letters") 620) (Value.ref 257), DictEntry.mk (PyData.keyHash P (Str.ofString "_law_spelled")) (Value.str (Str.ofString "_law_spelled") 626) (Value.ref 262), DictEntry.mk (PyData.keyHash P (Str.ofString "_law_lexer")) (Value.str (Str.ofString "_law_lexer") 636) (Value.ref 269), DictEntry.mk (PyData.keyHash P (Str.ofString "_law_number")) (Value.str (Str.ofString "_law_number") 645) (Value.ref 276), DictEntry.mk (PyData.keyHash P (Str.ofString "_law_times")) (Value.str (Str.ofString "_law_times") 658) (Value.ref 283), DictEntry.mk (PyData.keyHash P (Str.ofString "_law_product")) (Value.str (Str.ofString "_law_product") 668) (Value.ref 290), DictEntry.mk (PyData.keyHash P (Str.ofString "_law_rows")) (Value.str (Str.ofString "_law_rows") 674) (Value.ref 295), DictEntry.mk (PyData.keyHash P (Str.ofString "_law_ways")) (Value.str (Str.ofString "_law_ways") 691) (Value.ref 302), DictEntry.mk (PyData.keyHash P (Str.ofString "law")) (Value.str (Str.ofString "law") 697) (Value.ref 307)] 29) #[]) ::
(nat_lit 32, Obj.mk (Value.type "tuple") Option.none (Data.seq #[]) #[]) ::
(nat_lit 34, Obj.mk (Value.type "tuple") Option.none (Data.seq #[Value.str (Str.ofString "k") 285]) #[]) ::
(nat_lit 35, Obj.mk (Value.type "tuple") Option.none (Data.seq #[]) #[]) ::
(nat_lit 37, Obj.mk (Value.type "code") Option.none (Data.fields #[Value.str (Str.ofString "_wall") 282, Value.str (Str.ofString "_wall") 283, Value.str (Str.ofString "/claim/cut.py") 284, Value.int 2 0, Value.int 1 0, Value.int 0 0, Value.int 0 0, Value.int 3 0, Value.ref 32, Value.bool Bool.true, Value.int 276 0, Value.ref 33, Value.none, Value.ref 34, Value.ref 35, Value.ref 36, Value.int 286 0, Value.int 2 0, Value.str (Str.ofString "/claim/cut.py") 287]) #[]) ::
(nat_lit 38, Obj.mk (Value.type "function") Option.none (Data.func (FuncData.mk (Str.ofString "_wall") (Str.ofString "_wall") ?p38 (FuncBody.stmts ?b38) ?s38 3 [] Value.none Value.none Value.none (Value.str (Str.ofString "__main__") 164) Option.none (Value.ref 37) Value.none 0)) #[]) ::
(nat_lit 42, Obj.mk (Value.type "tuple") Option.none (Data.seq #[Value.int 14 0, Value.int 10 0, Value.int 4 0, Value.int 1 0, Value.int 1 0, Value.int 22 0, Value.int 0 0, Value.int 31 0, Value.int 16 0, Value.int 127 0, Value.int 0 0, Value.int 13 0, Value.int 7 0, Value.int 22 0, Value.int 0 0, Value.int 31 0, Value.int 16 0, Value.int 127 0, Value.int 0 0, Value.int 1 0]) #[]) ::
(nat_lit 43, Obj.mk (Value.type "re.Pattern") Option.none (Data.fields #[Value.str (Str.ofString "[\\x00-\\x1F\\x7F]") 292, Value.int 32 315, Value.int 0 0, Value.none, Value.none, Value.ref 42, Value.int 0 0]) #[]) ::
(nat_lit 47, Obj.mk (Value.type "tuple") Option.none (Data.seq #[Value.int 14 0, Value.int 14 0, Value.int 4 0, Value.int 1 0, Value.int 1 0, Value.int 9 0, Value.int 4294966783 0, Value.int 0 0, Value.int 0 0, Value.int 2147483648 0, Value.int 0 0, Value.int 0 0, Value.int 0 0, Value.int 0 0, Value.int 0 0, Value.int 13 0, Value.int 11 0, Value.int 9 0, Value.int 4294966783 0, Value.int 0 0, Value.int 0 0, Value.int 2147483648 0, Value.int 0 0, Value.int 0 0, Value.int 0 0, Value.int 0 0, Value.int 0 0, Value.int 1 0]) #[]) ::
(nat_lit 48, Obj.mk (Value.type "re.Pattern") Option.none (Data.fields #[Value.str (Str.ofString "[\\x00-\\x08\\x0A-\\x1F\\x7F]") 318, Value.int 32 349, Value.int 0 0, Value.none, Value.none, Value.ref 47, Value.int 0 0]) #[]) ::
(nat_lit 56, Obj.mk (Value.type "tuple") Option.none (Data.seq #[Value.none]) #[]) ::
(nat_lit 57, Obj.mk (Value.type "tuple") Option.none (Data.seq #[]) #[]) ::
(nat_lit 59, Obj.mk (Value.type "tuple") Option.none (Data.seq #[Value.str (Str.ofString "self") 366, Value.str (Str.ofString "headers") 367, Value.str (Str.ofString "k") 368, Value.str (Str.ofString "v") 369]) #[]) ::
(nat_lit 60, Obj.mk (Value.type "tuple") Option.none (Data.seq #[]) #[]) ::
(nat_lit 62, Obj.mk (Value.type "code") Option.none (Data.fields #[Value.str (Str.ofString "__init__") 363, Value.str (Str.ofString "Headers.__init__") 364, Value.str (Str.ofString "/claim/cut.py") 365, Value.int 10 0, Value.int 2 0, Value.int 0 0, Value.int 0 0, Value.int 3 0, Value.ref 57, Value.bool Bool.true, Value.int 276 0, Value.ref 58, Value.none, Value.ref 59, Value.ref 60, Value.ref 61, Value.int 370 0, Value.int 10 0, Value.str (Str.ofString "/claim/cut.py") 371]) #[]) ::
(nat_lit 63, Obj.mk (Value.type "function") Option.none (Data.func (FuncData.mk (Str.ofString "__init__") (Str.ofString "Headers.__init__") ?p63 (FuncBody.stmts ?b63) ?s63 3 [] (Value.ref 56) Value.none Value.none (Value.str (Str.ofString "cpy313.wsgiref.headers") 289) Option.none (Value.ref 62) Value.none 0)) #[]) ::
(nat_lit 64, Obj.mk (Value.type "tuple") Option.none (Data.seq #[]) #[]) ::
(nat_lit 66, Obj.mk (Value.type "tuple") Option.none (Data.seq #[Value.str (Str.ofString "self") 376, Value.str (Str.ofString "value") 377, Value.str (Str.ofString "name") 378, Value.str (Str.ofString "regex") 379]) #[]) ::
(nat_lit 67, Obj.mk (Value.type "tuple") Option.none (Data.seq #[]) #[]) ::
(nat_lit 69, Obj.mk (Value.type "code") Option.none (Data.fields #[Value.str (Str.ofString "_convert_string_type") 373, Value.str (Str.ofString "Headers._convert_string_type") 374, Value.str (Str.ofString "/claim/cut.py") 375, Value.int 20 0, Value.int 2 0, Value.int 0 0, Value.int 1 0, Value.int 3 0, Value.ref 64, Value.bool Bool.true, Value.int 276 0, Value.ref 65, Value.none, Value.ref 66, Value.ref 67, Value.ref 68, Value.int 380 0, Value.int 20 0, Value.str (Str.ofString "/claim/cut.py") 381]) #[]) ::
(nat_lit 70, Obj.mk (Value.type "function") Option.none (Data.func (FuncData.mk (Str.ofString "_convert_string_type") (Str.ofString "Headers._convert_string_type") ?p70 (FuncBody.stmts ?b70) ?s70 3 [] Value.none Value.none Value.none (Value.str (Str.ofString "cpy313.wsgiref.headers") 289) Option.none (Value.ref 69) Value.none 0)) #[]) ::
(nat_lit 71, Obj.mk (Value.type "tuple") Option.none (Data.seq #[]) #[]) ::
(nat_lit 73, Obj.mk (Value.type "tuple") Option.none (Data.seq #[Value.str (Str.ofString "self") 386]) #[]) ::
(nat_lit 74, Obj.mk (Value.type "tuple") Option.none (Data.seq #[]) #[]) ::
(nat_lit 76, Obj.mk (Value.type "code") Option.none (Data.fields #[Value.str (Str.ofString "__len__") 383, Value.str (Str.ofString "Headers.__len__") 384, Value.str (Str.ofString "/claim/cut.py") 385, Value.int 28 0, Value.int 1 0, Value.int 0 0, Value.int 0 0, Value.int 3 0, Value.ref 71, Value.bool Bool.true, Value.int 276 0, Value.ref 72, Value.none, Value.ref 73, Value.ref 74, Value.ref 75, Value.int 387 0, Value.int 28 0, Value.str (Str.ofString "/claim/cut.py") 388]) #[]) ::
(nat_lit 77, Obj.mk (Value.type "function") Option.none (Data.func (FuncData.mk (Str.ofString "__len__") (Str.ofString "Headers.__len__") ?p77 (FuncBody.stmts ?b77) ?s77 3 [] Value.none Value.none Value.none (Value.str (Str.ofString "cpy313.wsgiref.headers") 289) Option.none (Value.ref 76) Value.none 0)) #[]) ::
(nat_lit 78, Obj.mk (Value.type "tuple") Option.none (Data.seq #[]) #[]) ::
(nat_lit 80, Obj.mk (Value.type "tuple") Option.none (Data.seq #[Value.str (Str.ofString "self") 393, Value.str (Str.ofString "name") 394, Value.str (Str.ofString "val") 395]) #[]) ::
(nat_lit 81, Obj.mk (Value.type "tuple") Option.none (Data.seq #[]) #[]) ::
(nat_lit 83, Obj.mk (Value.type "code") Option.none (Data.fields #[Value.str (Str.ofString "__setitem__") 390, Value.str (Str.ofString "Headers.__setitem__") 391, Value.str (Str.ofString "/claim/cut.py") 392, Value.int 31 0, Value.int 3 0, Value.int 0 0, Value.int 0 0, Value.int 3 0, Value.ref 78, Value.bool Bool.true, Value.int 276 0, Value.ref 79, Value.none, Value.ref 80, Value.ref 81, Value.ref 82, Value.int 396 0, Value.int 31 0, Value.str (Str.ofString "/claim/cut.py") 397]) #[]) ::
(nat_lit 84, Obj.mk (Value.type "function") Option.none (Data.func (FuncData.mk (Str.ofString "__setitem__") (Str.ofString "Headers.__setitem__") ?p84 (FuncBody.stmts ?b84) ?s84 3 [] Value.none Value.none Value.none (Value.str (Str.ofString "cpy313.wsgiref.headers") 289) Option.none (Value.ref 83) Value.none 0)) #[]) ::
(nat_lit 85, Obj.mk (Value.type "tuple") Option.none (Data.seq #[]) #[]) ::
(nat_lit 88, Obj.mk (Value.type "code") Option.none (Data.fields #[Value.str (Str.ofString "__delitem__") 399, Value.str (Str.ofString "Headers.__delitem__") 400, Value.str (Str.ofString "/claim/cut.py") 401, Value.int 35 0, Value.int 2 0, Value.int 0 0, Value.int 0 0, Value.int 3 0, Value.ref 85, Value.bool Bool.true, Value.int 276 0, Value.ref 86, Value.none, Value.none, Value.none, Value.ref 87, Value.int 402 0, Value.int 35 0, Value.str (Str.ofString "/claim/cut.py") 403]) #[]) ::
(nat_lit 89, Obj.mk (Value.type "function") Option.none (Data.func (FuncData.mk (Str.ofString "__delitem__") (Str.ofString "Headers.__delitem__") ?p89 (FuncBody.stmts ?b89) ?s89 3 [] Value.none Value.none Value.none (Value.str (Str.ofString "cpy313.wsgiref.headers") 289) Option.none (Value.ref 88) Value.none 0)) #[]) ::
(nat_lit 90, Obj.mk (Value.type "tuple") Option.none (Data.seq #[]) #[]) ::
(nat_lit 92, Obj.mk (Value.type "tuple") Option.none (Data.seq #[Value.str (Str.ofString "self") 408, Value.str (Str.ofString "name") 409]) #[]) ::
(nat_lit 93, Obj.mk (Value.type "tuple") Option.none (Data.seq #[]) #[]) ::
(nat_lit 95, Obj.mk (Value.type "code") Option.none (Data.fields #[Value.str (Str.ofString "__getitem__") 405, Value.str (Str.ofString "Headers.__getitem__") 406, Value.str (Str.ofString "/claim/cut.py") 407, Value.int 39 0, Value.int 2 0, Value.int 0 0, Value.int 0 0, Value.int 3 0, Value.ref 90, Value.bool Bool.true, Value.int 276 0, Value.ref 91, Value.none, Value.ref 92, Value.ref 93, Value.ref 94, Value.int 410 0, Value.int 39 0, Value.str (Str.ofString "/claim/cut.py") 411]) #[]) ::
(nat_lit 96, Obj.mk (Value.type "function") Option.none (Data.func (FuncData.mk (Str.ofString "__getitem__") (Str.ofString "Headers.__getitem__") ?p96 (FuncBody.stmts ?b96) ?s96 3 [] Value.none Value.none Value.none (Value.str (Str.ofString "cpy313.wsgiref.headers") 289) Option.none (Value.ref 95) Value.none 0)) #[]) ::
(nat_lit 97, Obj.mk (Value.type "tuple") Option.none (Data.seq #[]) #[]) ::
(nat_lit 99, Obj.mk (Value.type "tuple") Option.none (Data.seq #[Value.str (Str.ofString "self") 416, Value.str (Str.ofString "name") 417]) #[]) ::
(nat_lit 100, Obj.mk (Value.type "tuple") Option.none (Data.seq #[]) #[]) ::
(nat_lit 102, Obj.mk (Value.type "code") Option.none (Data.fields #[Value.str (Str.ofString "__contains__") 413, Value.str (Str.ofString "Headers.__contains__") 414, Value.str (Str.ofString "/claim/cut.py") 415, Value.int 42 0, Value.int 2 0, Value.int 0 0, Value.int 0 0, Value.int 3 0, Value.ref 97, Value.bool Bool.true, Value.int 276 0, Value.ref 98, Value.none, Value.ref 99, Value.ref 100, Value.ref 101, Value.int 418 0, Value.int 42 0, Value.str (Str.ofString "/claim/cut.py") 419]) #[]) ::
(nat_lit 103, Obj.mk (Value.type "function") Option.none (Data.func (FuncData.mk (Str.ofString "__contains__") (Str.ofString "Headers.__contains__") ?p103 (FuncBody.stmts ?b103) ?s103 3 [] Value.none Value.none Value.none (Value.str (Str.ofString "cpy313.wsgiref.headers") 289) Option.none (Value.ref 102) Value.none 0)) #[]) ::
(nat_lit 104, Obj.mk (Value.type "tuple") Option.none (Data.seq #[]) #[]) ::
(nat_lit 106, Obj.mk (Value.type "tuple") Option.none (Data.seq #[Value.str (Str.ofString "self") 424, Value.str (Str.ofString "name") 425]) #[]) ::
(nat_lit 107, Obj.mk (Value.type "tuple") Option.none (Data.seq #[]) #[]) ::
(nat_lit 109, Obj.mk (Value.type "code") Option.none (Data.fields #[Value.str (Str.ofString "get_all") 421, Value.str (Str.ofString "Headers.get_all") 422, Value.str (Str.ofString "/claim/cut.py") 423, Value.int 45 0, Value.int 2 0, Value.int 0 0, Value.int 0 0, Value.int 3 0, Value.ref 104, Value.bool Bool.true, Value.int 276 0, Value.ref 105, Value.none, Value.ref 106, Value.ref 107, Value.ref 108, Value.int 426 0, Value.int 45 0, Value.str (Str.ofString "/claim/cut.py") 427]) #[]) ::
(nat_lit 110, Obj.mk (Value.type "function") Option.none (Data.func (FuncData.mk (Str.ofString "get_all") (Str.ofString "Headers.get_all") ?p110 (FuncBody.stmts ?b110) ?s110 3 [] Value.none Value.none Value.none (Value.str (Str.ofString "cpy313.wsgiref.headers") 289) Option.none (Value.ref 109) Value.none 0)) #[]) ::
(nat_lit 111, Obj.mk (Value.type "tuple") Option.none (Data.seq #[Value.none]) #[]) ::
(nat_lit 112, Obj.mk (Value.type "tuple") Option.none (Data.seq #[]) #[]) ::
(nat_lit 114, Obj.mk (Value.type "tuple") Option.none (Data.seq #[Value.str (Str.ofString "self") 432, Value.str (Str.ofString "name") 433, Value.str (Str.ofString "default") 434, Value.str (Str.ofString "k") 435, Value.str (Str.ofString "v") 436]) #[]) ::
(nat_lit 115, Obj.mk (Value.type "tuple") Option.none (Data.seq #[]) #[]) ::
(nat_lit 117, Obj.mk (Value.type "code") Option.none (Data.fields #[Value.str (Str.ofString "get") 429, Value.str (Str.ofString "Headers.get") 430, Value.str (Str.ofString "/claim/cut.py") 431, Value.int 48 0, Value.int 3 0, Value.int 0 0, Value.int 0 0, Value.int 3 0, Value.ref 112, Value.bool Bool.true, Value.int 276 0, Value.ref 113, Value.none, Value.ref 114, Value.ref 115, Value.ref 116, Value.int 437 0, Value.int 48 0, Value.str (Str.ofString "/claim/cut.py") 438]) #[]) ::
(nat_lit 118, Obj.mk (Value.type "function") Option.none (Data.func (FuncData.mk (Str.ofString "get") (Str.ofString "Headers.get") ?p118 (FuncBody.stmts ?b118) ?s118 3 [] (Value.ref 111) Value.none Value.none (Value.str (Str.ofString "cpy313.wsgiref.headers") 289) Option.none (Value.ref 117) Value.none 0)) #[]) ::
(nat_lit 119, Obj.mk (Value.type "tuple") Option.none (Data.seq #[]) #[]) ::
(nat_lit 122, Obj.mk (Value.type "code") Option.none (Data.fields #[Value.str (Str.ofString "keys") 440, Value.str (Str.ofString "Headers.keys") 441, Value.str (Str.ofString "/claim/cut.py") 442, Value.int 55 0, Value.int 1 0, Value.int 0 0, Value.int 0 0, Value.int 3 0, Value.ref 119, Value.bool Bool.true, Value.int 276 0, Value.ref 120, Value.none, Value.none, Value.none, Value.ref 121, Value.int 443 0, Value.int 55 0, Value.str (Str.ofString "/claim/cut.py") 444]) #[]) ::
(nat_lit 123, Obj.mk (Value.type "function") Option.none (Data.func (FuncData.mk (Str.ofString "keys") (Str.ofString "Headers.keys") ?p123 (FuncBody.stmts ?b123) ?s123 3 [] Value.none Value.none Value.none (Value.str (Str.ofString "cpy313.wsgiref.headers") 289) Option.none (Value.ref 122) Value.none 0)) #[]) ::
(nat_lit 124, Obj.mk (Value.type "tuple") Option.none (Data.seq #[]) #[]) ::
(nat_lit 127, Obj.mk (Value.type "code") Option.none (Data.fields #[Value.str (Str.ofString "values") 446, Value.str (Str.ofString "Headers.values") 447, Value.str (Str.ofString "/claim/cut.py") 448, Value.int 58 0, Value.int 1 0, Value.int 0 0, Value.int 0 0, Value.int 3 0, Value.ref 124, Value.bool Bool.true, Value.int 276 0, Value.ref 125, Value.none, Value.none, Value.none, Value.ref 126, Value.int 449 0, Value.int 58 0, Value.str (Str.ofString "/claim/cut.py") 450]) #[]) ::
(nat_lit 128, Obj.mk (Value.type "function") Option.none (Data.func (FuncData.mk (Str.ofString "values") (Str.ofString "Headers.values") ?p128 (FuncBody.stmts ?b128) ?s128 3 [] Value.none Value.none Value.none (Value.str (Str.ofString "cpy313.wsgiref.headers") 289) Option.none (Value.ref 127) Value.none 0)) #[]) ::
(nat_lit 129, Obj.mk (Value.type "tuple") Option.none (Data.seq #[]) #[]) ::
(nat_lit 131, Obj.mk (Value.type "tuple") Option.none (Data.seq #[Value.str (Str.ofString "self") 455]) #[]) ::
(nat_lit 132, Obj.mk (Value.type "tuple") Option.none (Data.seq #[]) #[]) ::
(nat_lit 134, Obj.mk (Value.type "code") Option.none (Data.fields #[Value.str (Str.ofString "items") 452, Value.str (Str.ofString "Headers.items") 453, Value.str (Str.ofString "/claim/cut.py") 454, Value.int 61 0, Value.int 1 0, Value.int 0 0, Value.int 0 0, Value.int 3 0, Value.ref 129, Value.bool Bool.true, Value.int 276 0, Value.ref 130, Value.none, Value.ref 131, Value.ref 132, Value.ref 133, Value.int 456 0, Value.int 61 0, Value.str (Str.ofString "/claim/cut.py") 457]) #[]) ::
(nat_lit 135, Obj.mk (Value.type "function") Option.none (Data.func (FuncData.mk (Str.ofString "items") (Str.ofString "Headers.items") ?p135 (FuncBody.stmts ?b135) ?s135 3 [] Value.none Value.none Value.none (Value.str (Str.ofString "cpy313.wsgiref.headers") 289) Option.none (Value.ref 134) Value.none 0)) #[]) ::
(nat_lit 136, Obj.mk (Value.type "tuple") Option.none (Data.seq #[]) #[]) ::
(nat_lit 138, Obj.mk (Value.type "tuple") Option.none (Data.seq #[Value.str (Str.ofString "self") 462]) #[]) ::
(nat_lit 139, Obj.mk (Value.type "tuple") Option.none (Data.seq #[]) #[]) ::
(nat_lit 141, Obj.mk (Value.type "code") Option.none (Data.fields #[Value.str (Str.ofString "__repr__") 459, Value.str (Str.ofString "Headers.__repr__") 460, Value.str (Str.ofString "/claim/cut.py") 461, Value.int 64 0, Value.int 1 0, Value.int 0 0, Value.int 0 0, Value.int 3 0, Value.ref 136, Value.bool Bool.true, Value.int 276 0, Value.ref 137, Value.none, Value.ref 138, Value.ref 139, Value.ref 140, Value.int 463 0, Value.int 64 0, Value.str (Str.ofString "/claim/cut.py") 464]) #[]) ::
(nat_lit 142, Obj.mk (Value.type "function") Option.none (Data.func (FuncData.mk (Str.ofString "__repr__") (Str.ofString "Headers.__repr__") ?p142 (FuncBody.stmts ?b142) ?s142 3 [] Value.none Value.none Value.none (Value.str (Str.ofString "cpy313.wsgiref.headers") 289) Option.none (Value.ref 141) Value.none 0)) #[]) ::
(nat_lit 143, Obj.mk (Value.type "tuple") Option.none (Data.seq #[]) #[]) ::
(nat_lit 146, Obj.mk (Value.type "code") Option.none (Data.fields #[Value.str (Str.ofString "__str__") 466, Value.str (Str.ofString "Headers.__str__") 467, Value.str (Str.ofString "/claim/cut.py") 468, Value.int 67 0, Value.int 1 0, Value.int 0 0, Value.int 0 0, Value.int 3 0, Value.ref 143, Value.bool Bool.true, Value.int 276 0, Value.ref 144, Value.none, Value.none, Value.none, Value.ref 145, Value.int 469 0, Value.int 67 0, Value.str (Str.ofString "/claim/cut.py") 470]) #[]) ::
(nat_lit 147, Obj.mk (Value.type "function") Option.none (Data.func (FuncData.mk (Str.ofString "__str__") (Str.ofString "Headers.__str__") ?p147 (FuncBody.stmts ?b147) ?s147 3 [] Value.none Value.none Value.none (Value.str (Str.ofString "cpy313.wsgiref.headers") 289) Option.none (Value.ref 146) Value.none 0)) #[]) ::
(nat_lit 148, Obj.mk (Value.type "tuple") Option.none (Data.seq #[]) #[]) ::
(nat_lit 150, Obj.mk (Value.type "tuple") Option.none (Data.seq #[Value.str (Str.ofString "self") 475]) #[]) ::
(nat_lit 151, Obj.mk (Value.type "tuple") Option.none (Data.seq #[]) #[]) ::
(nat_lit 153, Obj.mk (Value.type "code") Option.none (Data.fields #[Value.str (Str.ofString "__bytes__") 472, Value.str (Str.ofString "Headers.__bytes__") 473, Value.str (Str.ofString "/claim/cut.py") 474, Value.int 70 0, Value.int 1 0, Value.int 0 0, Value.int 0 0, Value.int 3 0, Value.ref 148, Value.bool Bool.true, Value.int 276 0, Value.ref 149, Value.none, Value.ref 150, Value.ref 151, Value.ref 152, Value.int 476 0, Value.int 70 0, Value.str (Str.ofString "/claim/cut.py") 477]) #[]) ::
(nat_lit 154, Obj.mk (Value.type "function") Option.none (Data.func (FuncData.mk (Str.ofString "__bytes__") (Str.ofString "Headers.__bytes__") ?p154 (FuncBody.stmts ?b154) ?s154 3 [] Value.none Value.none Value.none (Value.str (Str.ofString "cpy313.wsgiref.headers") 289) Option.none (Value.ref 153) Value.none 0)) #[]) ::
(nat_lit 155, Obj.mk (Value.type "tuple") Option.none (Data.seq #[]) #[]) ::
(nat_lit 157, Obj.mk (Value.type "tuple") Option.none (Data.seq #[Value.str (Str.ofString "self") 482, Value.str (Str.ofString "name") 483, Value.str (Str.ofString "value") 484, Value.str (Str.ofString "result") 485]) #[]) ::
(nat_lit 158, Obj.mk (Value.type "tuple") Option.none (Data.seq #[]) #[]) ::
(nat_lit 160, Obj.mk (Value.type "code") Option.none (Data.fields #[Value.str (Str.ofString "setdefault") 479, Value.str (Str.ofString "Headers.setdefault") 480, Value.str (Str.ofString "/claim/cut.py") 481, Value.int 73 0, Value.int 3 0, Value.int 0 0, Value.int 0 0, Value.int 3 0, Value.ref 155, Value.bool Bool.true, Value.int 276 0, Value.ref 156, Value.none, Value.ref 157, Value.ref 158, Value.ref 159, Value.int 486 0, Value.int 73 0, Value.str (Str.ofString "/claim/cut.py") 487]) #[]) ::
(nat_lit 161, Obj.mk (Value.type "function") Option.none (Data.func (FuncData.mk (Str.ofString "setdefault") (Str.ofString "Headers.setdefault") ?p161 (FuncBody.stmts ?b161) ?s161 3 [] Value.none Value.none Value.none (Value.str (Str.ofString "cpy313.wsgiref.headers") 289) Option.none (Value.ref 160) Value.none 0)) #[]) ::
(nat_lit 162, Obj.mk (Value.type "tuple") Option.none (Data.seq #[]) #[]) ::
(nat_lit 164, Obj.mk (Value.type "tuple") Option.none (Data.seq #[Value.str (Str.ofString "self") 492, Value.str (Str.ofString "_name") 493, Value.str (Str.ofString "_value") 494, Value.str (Str.ofString "_params") 495]) #[]) ::
(nat_lit 165, Obj.mk (Value.type "tuple") Option.none (Data.seq #[]) #[]) ::
(nat_lit 167, Obj.mk (Value.type "code") Option.none (Data.fields #[Value.str (Str.ofString "add_header") 489, Value.str (Str.ofString "Headers.add_header") 490, Value.str (Str.ofString "/claim/cut.py") 491, Value.int 81 0, Value.int 3 0, Value.int 0 0, Value.int 0 0, Value.int 11 0, Value.ref 162, Value.bool Bool.true, Value.int 276 0, Value.ref 163, Value.none, Value.ref 164, Value.ref 165, Value.ref 166, Value.int 496 0, Value.int 81 0, Value.str (Str.ofString "/claim/cut.py") 497]) #[]) ::
(nat_lit 168, Obj.mk (Value.type "function") Option.none (Data.func (FuncData.mk (Str.ofString "add_header") (Str.ofString "Headers.add_header") ?p168 (FuncBody.stmts ?b168) ?s168 3 [] Value.none Value.none Value.none (Value.str (Str.ofString "cpy313.wsgiref.headers") 289) Option.none (Value.ref 167) Value.none 0)) #[]) ::
(nat_lit 169, Obj.mk (Value.type "tuple") Option.none (Data.seq #[Value.str (Str.ofString "_headers") 499]) #[]) ::
(nat_lit 170, Obj.mk (Value.type "dict") Option.none (Data.dict #[DictEntry.mk (PyData.keyHash P (Str.ofString "__module__")) (Value.str (Str.ofString "__module__") 358) (Value.str (Str.ofString "cpy313.wsgiref.headers") 289), DictEntry.mk (PyData.keyHash P (Str.ofString "__firstlineno__")) (Value.str (Str.ofString "__firstlineno__") 362) (Value.int 8 361), DictEntry.mk (PyData.keyHash P (Str.ofString "__init__")) (Value.str (Str.ofString "__init__") 372) (Value.ref 63), DictEntry.mk (PyData.keyHash P (Str.ofString "_convert_string_type")) (Value.str (Str.ofString "_convert_string_type") 382) (Value.ref 70), DictEntry.mk (PyData.keyHash P (Str.ofString "__len__")) (Value.str (Str.ofString "__len__") 389) (Value.ref 77), DictEntry.mk (PyData.keyHash P (Str.ofString "__setitem__")) (Value.str (Str.ofString "__setitem__") 398) (Value.ref 84), DictEntry.mk (PyData.keyHash P (Str.ofString "__delitem__")) (Value.str (Str.ofString "__delitem__") 404) (Value.ref 89), DictEntry.mk (PyData.keyHash P (Str.ofString "__getitem__")) (Value.str (Str.ofString "__getitem__") 412) (Value.ref 96), DictEntry.mk (PyData.keyHash P (Str.ofString "__contains__")) (Value.str (Str.ofString "__contains__") 420) (Value.ref 103), DictEntry.mk (PyData.keyHash P (Str.ofString "get_all")) (Value.str (Str.ofString "get_all") 428) (Value.ref 110), DictEntry.mk (PyData.keyHash P (Str.ofString "get")) (Value.str (Str.ofString "get") 439) (Value.ref 118), DictEntry.mk (PyData.keyHash P (Str.ofString "keys")) (Value.str (Str.ofString "keys") 445) (Value.ref 123), DictEntry.mk (PyData.keyHash P (Str.ofString "values")) (Value.str (Str.ofString "values") 451) (Value.ref 128), DictEntry.mk (PyData.keyHash P (Str.ofString "items")) (Value.str (Str.ofString "items") 458) (Value.ref 135), DictEntry.mk (PyData.keyHash P (Str.ofString "__repr__")) (Value.str (Str.ofString "__repr__") 465) (Value.ref 142), DictEntry.mk (PyData.keyHash P (Str.ofString "__str__")) (Value.str (Str.ofString "__str__") 471) (Value.ref 147), DictEntry.mk (PyData.keyHash P (Str.ofString "__bytes__")) (Value.str (Str.ofString "__bytes__") 478) (Value.ref 154), DictEntry.mk (PyData.keyHash P (Str.ofString "setdefault")) (Value.str (Str.ofString "setdefault") 488) (Value.ref 161), DictEntry.mk (PyData.keyHash P (Str.ofString "add_header")) (Value.str (Str.ofString "add_header") 498) (Value.ref 168), DictEntry.mk (PyData.keyHash P (Str.ofString "__static_attributes__")) (Value.str (Str.ofString "__static_attributes__") 500) (Value.ref 169), DictEntry.mk (PyData.keyHash P (Str.ofString "__dict__")) (Value.str (Str.ofString "__dict__") 502) (Value.ref 172), DictEntry.mk (PyData.keyHash P (Str.ofString "__weakref__")) (Value.str (Str.ofString "__weakref__") 504) (Value.ref 173), DictEntry.mk (PyData.keyHash P (Str.ofString "__doc__")) (Value.str (Str.ofString "__doc__") 505) Value.none] 4) #[]) ::
(nat_lit 171, Obj.mk (Value.type "type") Option.none (Data.cls (ClassData.mk (Str.ofString "Headers") [Value.type "object"] [Value.ref 171, Value.type "object"] 170 (Str.ofString "Headers") Bool.true [] [] Bool.false Option.none Bool.false)) #[Option.none, Option.none, Option.some (Value.str (Str.ofString "Headers") 351), Option.some (Value.str (Str.ofString "Headers") 359), Option.some (Value.builtin "object.__new__"), Option.some (Value.bool Bool.true)]) ::
(nat_lit 172, Obj.mk (Value.type "getset_descriptor") Option.none (Data.fields #[Value.str (Str.ofString "__dict__") 501, Value.ref 171, Value.builtin "function.__dict__", Value.builtin "function.__dict__#set"]) #[]) ::
(nat_lit 173, Obj.mk (Value.type "getset_descriptor") Option.none (Data.fields #[Value.str (Str.ofString "__weakref__") 503, Value.ref 171, Value.builtin "ExceptionGroup.__weakref__", Value.none]) #[]) ::
(nat_lit 176, Obj.mk (Value.type "tuple") Option.none (Data.seq #[]) #[]) ::
(nat_lit 178, Obj.mk (Value.type "tuple") Option.none (Data.seq #[Value.str (Str.ofString "num") 513, Value.str (Str.ofString "val") 514, Value.str (Str.ofString "AP") 515, Value.str (Str.ofString "mod") 516]) #[]) ::
(nat_lit 179, Obj.mk (Value.type "tuple") Option.none (Data.seq #[]) #[]) ::
(nat_lit 181, Obj.mk (Value.type "code") Option.none (Data.fields #[Value.str (Str.ofString "Int2AP") 510, Value.str (Str.ofString "Int2AP") 511, Value.str (Str.ofString "/claim/cut.py") 512, Value.int 84 0, Value.int 1 0, Value.int 0 0, Value.int 0 0, Value.int 3 0, Value.ref 176, Value.bool Bool.true, Value.int 276 0, Value.ref 177, Value.none, Value.ref 178, Value.ref 179, Value.ref 180, Value.int 517 0, Value.int 84 0, Value.str (Str.ofString "/claim/cut.py") 518]) #[]) ::
(nat_lit 182, Obj.mk (Value.type "function") Option.none (Data.func (FuncData.mk (Str.ofString "Int2AP") (Str.ofString "Int2AP") ?p182 (FuncBody.stmts ?b182) ?s182 3 [] Value.none Value.none Value.none (Value.str (Str.ofString "cpy313.imaplib") 508) Option.none (Value.ref 181) Value.none 0)) #[]) ::
(nat_lit 190, Obj.mk (Value.type "tuple") Option.none (Data.seq #[]) #[]) ::
(nat_lit 192, Obj.mk (Value.type "tuple") Option.none (Data.seq #[Value.str (Str.ofString "self") 537, Value.str (Str.ofString "fp") 538]) #[]) ::
(nat_lit 193, Obj.mk (Value.type "tuple") Option.none (Data.seq #[]) #[]) ::
(nat_lit 195, Obj.mk (Value.type "code") Option.none (Data.fields #[Value.str (Str.ofString "__init__") 534, Value.str (Str.ofString "_netrclex.__init__") 535, Value.str (Str.ofString "/claim/cut.py") 536, Value.int 95 0, Value.int 2 0, Value.int 0 0, Value.int 0 0, Value.int 3 0, Value.ref 190, Value.bool Bool.true, Value.int 276 0, Value.ref 191, Value.none, Value.ref 192, Value.ref 193, Value.ref 194, Value.int 539 0, Value.int 95 0, Value.str (Str.ofString "/claim/cut.py") 540]) #[]) ::
(nat_lit 196, Obj.mk (Value.type "function") Option.none (Data.func (FuncData.mk (Str.ofString "__init__") (Str.ofString "_netrclex.__init__") ?p196 (FuncBody.stmts ?b196) ?s196 3 [] Value.none Value.none Value.none (Value.str (Str.ofString "cpy313.netrc") 520) Option.none (Value.ref 195) Value.none 0)) #[]) ::
(nat_lit 197, Obj.mk (Value.type "tuple") Option.none (Data.seq #[]) #[]) ::
(nat_lit 199, Obj.mk (Value.type "tuple") Option.none (Data.seq #[Value.str (Str.ofString "self") 545, Value.str (Str.ofString "ch") 546]) #[]) ::
(nat_lit 200, Obj.mk (Value.type "tuple") Option.none (Data.seq #[]) #[]) ::
(nat_lit 202, Obj.mk (Value.type "code") Option.none (Data.fields #[Value.str (Str.ofString "_read_char") 542, Value.str (Str.ofString "_netrclex._read_char") 543, Value.str (Str.ofString "/claim/cut.py") 544, Value.int 101 0, Value.int 1 0, Value.int 0 0, Value.int 0 0, Value.int 3 0, Value.ref 197, Value.bool Bool.true, Value.int 276 0, Value.ref 198, Value.none, Value.ref 199, Value.ref 200, Value.ref 201, Value.int 547 0, Value.int 101 0, Value.str (Str.ofString "/claim/cut.py") 548]) #[]) ::
(nat_lit 203, Obj.mk (Value.type "function") Option.none (Data.func (FuncData.mk (Str.ofString "_read_char") (Str.ofString "_netrclex._read_char") ?p203 (FuncBody.stmts ?b203) ?s203 3 [] Value.none Value.none Value.none (Value.str (Str.ofString "cpy313.netrc") 520) Option.none (Value.ref 202) Value.none 0)) #[]) ::
(nat_lit 204, Obj.mk (Value.type "tuple") Option.none (Data.seq #[]) #[]) ::
(nat_lit 206, Obj.mk (Value.type "tuple") Option.none (Data.seq #[Value.str (Str.ofString "self") 553, Value.str (Str.ofString "token") 554, Value.str (Str.ofString "fiter") 555, Value.str (Str.ofString "ch") 556]) #[]) ::
(nat_lit 207, Obj.mk (Value.type "tuple") Option.none (Data.seq #[]) #[]) ::
(nat_lit 209, Obj.mk (Value.type "code") Option.none (Data.fields #[Value.str (Str.ofString "get_token") 550, Value.str (Str.ofString "_netrclex.get_token") 551, Value.str (Str.ofString "/claim/cut.py") 552, Value.int 107 0, Value.int 1 0, Value.int 0 0, Value.int 0 0, Value.int 3 0, Value.ref 204, Value.bool Bool.true, Value.int 276 0, Value.ref 205, Value.none, Value.ref 206, Value.ref 207, Value.ref 208, Value.int 557 0, Value.int 107 0, Value.str (Str.ofString "/claim/cut.py") 558]) #[]) ::
(nat_lit 210, Obj.mk (Value.type "function") Option.none (Data.func (FuncData.mk (Str.ofString "get_token") (Str.ofString "_netrclex.get_token") ?p210 (FuncBody.stmts ?b210) ?s210 3 [] Value.none Value.none Value.none (Value.str (Str.ofString "cpy313.netrc") 520) Option.none (Value.ref 209) Value.none 0)) #[]) ::
(nat_lit 211, Obj.mk (Value.type "tuple") Option.none (Data.seq #[]) #[]) ::
(nat_lit 213, Obj.mk (Value.type "tuple") Option.none (Data.seq #[Value.str (Str.ofString "self") 563, Value.str (Str.ofString "token") 564]) #[]) ::
(nat_lit 214, Obj.mk (Value.type "tuple") Option.none (Data.seq #[]) #[]) ::
(nat_lit 216, Obj.mk (Value.type "code") Option.none (Data.fields #[Value.str (Str.ofString "push_token") 560, Value.str (Str.ofString "_netrclex.push_token") 561, Value.str (Str.ofString "/claim/cut.py") 562, Value.int 134 0, Value.int 2 0, Value.int 0 0, Value.int 0 0, Value.int 3 0, Value.ref 211, Value.bool Bool.true, Value.int 276 0, Value.ref 212, Value.none, Value.ref 213, Value.ref 214, Value.ref 215, Value.int 565 0, Value.int 134 0, Value.str (Str.ofString "/claim/cut.py") 566]) #[]) ::
(nat_lit 217, Obj.mk (Value.type "function") Option.none (Data.func (FuncData.mk (Str.ofString "push_token") (Str.ofString "_netrclex.push_token") ?p217 (FuncBody.stmts ?b217) ?s217 3 [] Value.none Value.none Value.none (Value.str (Str.ofString "cpy313.netrc") 520) Option.none (Value.ref 216) Value.none 0)) #[]) ::
(nat_lit 218, Obj.mk (Value.type "tuple") Option.none (Data.seq #[Value.str (Str.ofString "instream") 568, Value.str (Str.ofString "lineno") 569, Value.str (Str.ofString "pushback") 570, Value.str (Str.ofString "whitespace") 571]) #[]) ::
(nat_lit 219, Obj.mk (Value.type "dict") Option.none (Data.dict #[DictEntry.mk (PyData.keyHash P (Str.ofString "__module__")) (Value.str (Str.ofString "__module__") 529) (Value.str (Str.ofString "cpy313.netrc") 520), DictEntry.mk (PyData.keyHash P (Str.ofString "__firstlineno__")) (Value.str (Str.ofString "__firstlineno__") 533) (Value.int 93 532), DictEntry.mk (PyData.keyHash P (Str.ofString "__init__")) (Value.str (Str.ofString "__init__") 541) (Value.ref 196), DictEntry.mk (PyData.keyHash P (Str.ofString "_read_char")) (Value.str (Str.ofString "_read_char") 549) (Value.ref 203), DictEntry.mk (PyData.keyHash P (Str.ofString "get_token")) (Value.str (Str.ofString "get_token") 559) (Value.ref 210), DictEntry.mk (PyData.keyHash P (Str.ofString "push_token")) (Value.str (Str.ofString "push_token") 567) (Value.ref 217), DictEntry.mk (PyData.keyHash P (Str.ofString "__static_attributes__")) (Value.str (Str.ofString "__static_attributes__") 572) (Value.ref 218), DictEntry.mk (PyData.keyHash P (Str.ofString "__dict__")) (Value.str (Str.ofString "__dict__") 574) (Value.ref 221), DictEntry.mk (PyData.keyHash P (Str.ofString "__weakref__")) (Value.str (Str.ofString "__weakref__") 576) (Value.ref 222), DictEntry.mk (PyData.keyHash P (Str.ofString "__doc__")) (Value.str (Str.ofString "__doc__") 577) Value.none] 4) #[]) ::
(nat_lit 220, Obj.mk (Value.type "type") Option.none (Data.cls (ClassData.mk (Str.ofString "_netrclex") [Value.type "object"] [Value.ref 220, Value.type "object"] 219 (Str.ofString "_netrclex") Bool.true [] [] Bool.false Option.none Bool.false)) #[Option.none, Option.none, Option.some (Value.str (Str.ofString "_netrclex") 522), Option.some (Value.str (Str.ofString "_netrclex") 530), Option.some (Value.builtin "object.__new__"), Option.some (Value.bool Bool.true)]) ::
(nat_lit 221, Obj.mk (Value.type "getset_descriptor") Option.none (Data.fields #[Value.str (Str.ofString "__dict__") 573, Value.ref 220, Value.builtin "function.__dict__", Value.builtin "function.__dict__#set"]) #[]) ::
(nat_lit 222, Obj.mk (Value.type "getset_descriptor") Option.none (Data.fields #[Value.str (Str.ofString "__weakref__") 575, Value.ref 220, Value.builtin "ExceptionGroup.__weakref__", Value.none]) #[]) ::
(nat_lit 225, Obj.mk (Value.type "tuple") Option.none (Data.seq #[]) #[]) ::
(nat_lit 227, Obj.mk (Value.type "tuple") Option.none (Data.seq #[Value.str (Str.ofString "a") 585, Value.str (Str.ofString "b") 586]) #[]) ::
(nat_lit 228, Obj.mk (Value.type "tuple") Option.none (Data.seq #[]) #[]) ::
(nat_lit 230, Obj.mk (Value.type "code") Option.none (Data.fields #[Value.str (Str.ofString "add") 582, Value.str (Str.ofString "add") 583, Value.str (Str.ofString "/claim/cut.py") 584, Value.int 137 0, Value.int 2 0, Value.int 0 0, Value.int 0 0, Value.int 3 0, Value.ref 225, Value.bool Bool.true, Value.int 276 0, Value.ref 226, Value.none, Value.ref 227, Value.ref 228, Value.ref 229, Value.int 587 0, Value.int 137 0, Value.str (Str.ofString "/claim/cut.py") 588]) #[]) ::
(nat_lit 231, Obj.mk (Value.type "function") Option.none (Data.func (FuncData.mk (Str.ofString "add") (Str.ofString "add") ?p231 (FuncBody.stmts ?b231) ?s231 3 [] Value.none Value.none Value.none (Value.str (Str.ofString "cpy313.operator") 580) Option.none (Value.ref 230) Value.none 0)) #[]) ::
(nat_lit 232, Obj.mk (Value.type "tuple") Option.none (Data.seq #[]) #[]) ::
(nat_lit 234, Obj.mk (Value.type "tuple") Option.none (Data.seq #[Value.str (Str.ofString "a") 593, Value.str (Str.ofString "b") 594]) #[]) ::
(nat_lit 235, Obj.mk (Value.type "tuple") Option.none (Data.seq #[]) #[]) ::
(nat_lit 237, Obj.mk (Value.type "code") Option.none (Data.fields #[Value.str (Str.ofString "and_") 590, Value.str (Str.ofString "and_") 591, Value.str (Str.ofString "/claim/cut.py") 592, Value.int 139 0, Value.int 2 0, Value.int 0 0, Value.int 0 0, Value.int 3 0, Value.ref 232, Value.bool Bool.true, Value.int 276 0, Value.ref 233, Value.none, Value.ref 234, Value.ref 235, Value.ref 236, Value.int 595 0, Value.int 139 0, Value.str (Str.ofString "/claim/cut.py") 596]) #[]) ::
(nat_lit 238, Obj.mk (Value.type "function") Option.none (Data.func (FuncData.mk (Str.ofString "and_") (Str.ofString "and_") ?p238 (FuncBody.stmts ?b238) ?s238 3 [] Value.none Value.none Value.none (Value.str (Str.ofString "cpy313.operator") 580) Option.none (Value.ref 237) Value.none 0)) #[]) ::
(nat_lit 239, Obj.mk (Value.type "tuple") Option.none (Data.seq #[]) #[]) ::
(nat_lit 241, Obj.mk (Value.type "tuple") Option.none (Data.seq #[Value.str (Str.ofString "a") 601, Value.str (Str.ofString "b") 602]) #[]) ::
(nat_lit 242, Obj.mk (Value.type "tuple") Option.none (Data.seq #[]) #[]) ::
(nat_lit 244, Obj.mk (Value.type "code") Option.none (Data.fields #[Value.str (Str.ofString "lshift") 598, Value.str (Str.ofString "lshift") 599, Value.str (Str.ofString "/claim/cut.py") 600, Value.int 141 0, Value.int 2 0, Value.int 0 0, Value.int 0 0, Value.int 3 0, Value.ref 239, Value.bool Bool.true, Value.int 276 0, Value.ref 240, Value.none, Value.ref 241, Value.ref 242, Value.ref 243, Value.int 603 0, Value.int 141 0, Value.str (Str.ofString "/claim/cut.py") 604]) #[]) ::
(nat_lit 245, Obj.mk (Value.type "function") Option.none (Data.func (FuncData.mk (Str.ofString "lshift") (Str.ofString "lshift") ?p245 (FuncBody.stmts ?b245) ?s245 3 [] Value.none Value.none Value.none (Value.str (Str.ofString "cpy313.operator") 580) Option.none (Value.ref 244) Value.none 0)) #[]) ::
(nat_lit 246, Obj.mk (Value.type "tuple") Option.none (Data.seq #[]) #[]) ::
(nat_lit 249, Obj.mk (Value.type "code") Option.none (Data.fields #[Value.str (Str.ofString "_law_cells") 608, Value.str (Str.ofString "_law_cells") 609, Value.str (Str.ofString "/claim/cut.py") 610, Value.int 144 0, Value.int 1 0, Value.int 0 0, Value.int 0 0, Value.int 3 0, Value.ref 246, Value.bool Bool.true, Value.int 276 0, Value.ref 247, Value.none, Value.none, Value.none, Value.ref 248, Value.int 611 0, Value.int 144 0, Value.str (Str.ofString "/claim/cut.py") 612]) #[]) ::
(nat_lit 250, Obj.mk (Value.type "function") Option.none (Data.func (FuncData.mk (Str.ofString "_law_cells") (Str.ofString "_law_cells") ?p250 (FuncBody.stmts ?b250) ?s250 3 [] Value.none Value.none Value.none (Value.str (Str.ofString "law_wj0054_01") 606) Option.none (Value.ref 249) Value.none 0)) #[]) ::
(nat_lit 251, Obj.mk (Value.type "tuple") Option.none (Data.seq #[]) #[]) ::
(nat_lit 253, Obj.mk (Value.type "tuple") Option.none (Data.seq #[Value.str (Str.ofString "number") 617]) #[]) ::
(nat_lit 254, Obj.mk (Value.type "tuple") Option.none (Data.seq #[]) #[]) ::
(nat_lit 256, Obj.mk (Value.type "code") Option.none (Data.fields #[Value.str (Str.ofString "_law_letters") 614, Value.str (Str.ofString "_law_letters") 615, Value.str (Str.ofString "/claim/cut.py") 616, Value.int 149 0, Value.int 1 0, Value.int 0 0, Value.int 0 0, Value.int 3 0, Value.ref 251, Value.bool Bool.true, Value.int 276 0, Value.ref 252, Value.none, Value.ref 253, Value.ref 254, Value.ref 255, Value.int 618 0, Value.int 149 0, Value.str (Str.ofString "/claim/cut.py") 619]) #[]) ::
(nat_lit 257, Obj.mk (Value.type "function") Option.none (Data.func (FuncData.mk (Str.ofString "_law_letters") (Str.ofString "_law_letters") ?p257 (FuncBody.stmts ?b257) ?s257 3 [] Value.none Value.none Value.none (Value.str (Str.ofString "law_wj0054_01") 606) Option.none (Value.ref 256) Value.none 0)) #[]) ::
(nat_lit 258, Obj.mk (Value.type "tuple") Option.none (Data.seq #[]) #[]) ::
(nat_lit 261, Obj.mk (Value.type "code") Option.none (Data.fields #[Value.str (Str.ofString "_law_spelled") 621, Value.str (Str.ofString "_law_spelled") 622, Value.str (Str.ofString "/claim/cut.py") 623, Value.int 151 0, Value.int 2 0, Value.int 0 0, Value.int 0 0, Value.int 3 0, Value.ref 258, Value.bool Bool.true, Value.int 276 0, Value.ref 259, Value.none, Value.none, Value.none, Value.ref 260, Value.int 624 0, Value.int 151 0, Value.str (Str.ofString "/claim/cut.py") 625]) #[]) ::
(nat_lit 262, Obj.mk (Value.type "function") Option.none (Data.func (FuncData.mk (Str.ofString "_law_spelled") (Str.ofString "_law_spelled") ?p262 (FuncBody.stmts ?b262) ?s262 3 [] Value.none Value.none Value.none (Value.str (Str.ofString "law_wj0054_01") 606) Option.none (Value.ref 261) Value.none 0)) #[]) ::
(nat_lit 263, Obj.mk (Value.type "tuple") Option.none (Data.seq #[]) #[]) ::
(nat_lit 265, Obj.mk (Value.type "tuple") Option.none (Data.seq #[Value.str (Str.ofString "page") 630, Value.str (Str.ofString "_law_read_on") 631, Value.str (Str.ofString "tape") 632]) #[]) ::
(nat_lit 266, Obj.mk (Value.type "tuple") Option.none (Data.seq #[Value.str (Str.ofString "signs") 633]) #[]) ::
(nat_lit 268, Obj.mk (Value.type "code") Option.none (Data.fields #[Value.str (Str.ofString "_law_lexer") 627, Value.str (Str.ofString "_law_lexer") 628, Value.str (Str.ofString "/claim/cut.py") 629, Value.int 159 0, Value.int 1 0, Value.int 0 0, Value.int 0 0, Value.int 3 0, Value.ref 263, Value.bool Bool.true, Value.int 276 0, Value.ref 264, Value.none, Value.ref 265, Value.ref 266, Value.ref 267, Value.int 634 0, Value.int 159 0, Value.str (Str.ofString "/claim/cut.py") 635]) #[]) ::
(nat_lit 269, Obj.mk (Value.type "function") Option.none (Data.func (FuncData.mk (Str.ofString "_law_lexer") (Str.ofString "_law_lexer") ?p269 (FuncBody.stmts ?b269) ?s269 3 [] Value.none Value.none Value.none (Value.str (Str.ofString "law_wj0054_01") 606) Option.none (Value.ref 268) Value.none 0)) #[]) ::
(nat_lit 270, Obj.mk (Value.type "tuple") Option.none (Data.seq #[]) #[]) ::
(nat_lit 272, Obj.mk (Value.type "tuple") Option.none (Data.seq #[Value.str (Str.ofString "word") 640, Value.str (Str.ofString "number") 641, Value.str (Str.ofString "sign") 642]) #[]) ::
(nat_lit 273, Obj.mk (Value.type "tuple") Option.none (Data.seq #[]) #[]) ::
(nat_lit 275, Obj.mk (Value.type "code") Option.none (Data.fields #[Value.str (Str.ofString "_law_number") 637, Value.str (Str.ofString "_law_number") 638, Value.str (Str.ofString "/claim/cut.py") 639, Value.int 167 0, Value.int 1 0, Value.int 0 0, Value.int 0 0, Value.int 3 0, Value.ref 270, Value.bool Bool.true, Value.int 276 0, Value.ref 271, Value.none, Value.ref 272, Value.ref 273, Value.ref 274, Value.int 643 0, Value.int 167 0, Value.str (Str.ofString "/claim/cut.py") 644]) #[]) ::
(nat_lit 276, Obj.mk (Value.type "function") Option.none (Data.func (FuncData.mk (Str.ofString "_law_number") (Str.ofString "_law_number") ?p276 (FuncBody.stmts ?b276) ?s276 3 [] Value.none Value.none Value.none (Value.str (Str.ofString "law_wj0054_01") 606) Option.none (Value.ref 275) Value.none 0)) #[]) ::
(nat_lit 277, Obj.mk (Value.type "tuple") Option.none (Data.seq #[]) #[]) ::
(nat_lit 279, Obj.mk (Value.type "tuple") Option.none (Data.seq #[Value.str (Str.ofString "lexer") 649, Value.str (Str.ofString "table") 650, Value.str (Str.ofString "root") 651, Value.str (Str.ofString "name") 652, Value.str (Str.ofString "word") 653, Value.str (Str.ofString "made") 654, Value.str (Str.ofString "k") 655]) #[]) ::
(nat_lit 280, Obj.mk (Value.type "tuple") Option.none (Data.seq #[]) #[]) ::
(nat_lit 282, Obj.mk (Value.type "code") Option.none (Data.fields #[Value.str (Str.ofString "_law_times") 646, Value.str (Str.ofString "_law_times") 647, Value.str (Str.ofString "/claim/cut.py") 648, Value.int 172 0, Value.int 2 0, Value.int 0 0, Value.int 0 0, Value.int 3 0, Value.ref 277, Value.bool Bool.true, Value.int 276 0, Value.ref 278, Value.none, Value.ref 279, Value.ref 280, Value.ref 281, Value.int 656 0, Value.int 172 0, Value.str (Str.ofString "/claim/cut.py") 657]) #[]) ::
(nat_lit 283, Obj.mk (Value.type "function") Option.none (Data.func (FuncData.mk (Str.ofString "_law_times") (Str.ofString "_law_times") ?p283 (FuncBody.stmts ?b283) ?s283 3 [] Value.none Value.none Value.none (Value.str (Str.ofString "law_wj0054_01") 606) Option.none (Value.ref 282) Value.none 0)) #[]) ::
(nat_lit 284, Obj.mk (Value.type "tuple") Option.none (Data.seq #[]) #[]) ::
(nat_lit 286, Obj.mk (Value.type "tuple") Option.none (Data.seq #[Value.str (Str.ofString "lexer") 662, Value.str (Str.ofString "count") 663, Value.str (Str.ofString "table") 664, Value.str (Str.ofString "k") 665]) #[]) ::
(nat_lit 287, Obj.mk (Value.type "tuple") Option.none (Data.seq #[]) #[]) ::
(nat_lit 289, Obj.mk (Value.type "code") Option.none (Data.fields #[Value.str (Str.ofString "_law_product") 659, Value.str (Str.ofString "_law_product") 660, Value.str (Str.ofString "/claim/cut.py") 661, Value.int 186 0, Value.int 2 0, Value.int 0 0, Value.int 0 0, Value.int 3 0, Value.ref 284, Value.bool Bool.true, Value.int 276 0, Value.ref 285, Value.none, Value.ref 286, Value.ref 287, Value.ref 288, Value.int 666 0, Value.int 186 0, Value.str (Str.ofString "/claim/cut.py") 667]) #[]) ::
(nat_lit 290, Obj.mk (Value.type "function") Option.none (Data.func (FuncData.mk (Str.ofString "_law_product") (Str.ofString "_law_product") ?p290 (FuncBody.stmts ?b290) ?s290 3 [] Value.none Value.none Value.none (Value.str (Str.ofString "law_wj0054_01") 606) Option.none (Value.ref 289) Value.none 0)) #[]) ::
(nat_lit 291, Obj.mk (Value.type "tuple") Option.none (Data.seq #[]) #[]) ::
(nat_lit 294, Obj.mk (Value.type "code") Option.none (Data.fields #[Value.str (Str.ofString "_law_rows") 669, Value.str (Str.ofString "_law_rows") 670, Value.str (Str.ofString "/claim/cut.py") 671, Value.int 191 0, Value.int 2 0, Value.int 0 0, Value.int 0 0, Value.int 3 0, Value.ref 291, Value.bool Bool.true, Value.int 276 0, Value.ref 292, Value.none, Value.none, Value.none, Value.ref 293, Value.int 672 0, Value.int 191 0, Value.str (Str.ofString "/claim/cut.py") 673]) #[]) ::
(nat_lit 295, Obj.mk (Value.type "function") Option.none (Data.func (FuncData.mk (Str.ofString "_law_rows") (Str.ofString "_law_rows") ?p295 (FuncBody.stmts ?b295) ?s295 3 [] Value.none Value.none Value.none (Value.str (Str.ofString "law_wj0054_01") 606) Option.none (Value.ref 294) Value.none 0)) #[]) ::
(nat_lit 296, Obj.mk (Value.type "tuple") Option.none (Data.seq #[]) #[]) ::
(nat_lit 298, Obj.mk (Value.type "tuple") Option.none (Data.seq #[Value.str (Str.ofString "rows") 678, Value.str (Str.ofString "ways") 679, Value.str (Str.ofString "row") 680, Value.str (Str.ofString "further") 681, Value.str (Str.ofString "taken") 682, Value.str (Str.ofString "total") 683, Value.str (Str.ofString "many") 684, Value.str (Str.ofString "column") 685, Value.str (Str.ofString "x") 686, Value.str (Str.ofString "spent") 687, Value.str (Str.ofString "told") 688]) #[]) ::
(nat_lit 299, Obj.mk (Value.type "tuple") Option.none (Data.seq #[]) #[]) ::
(nat_lit 301, Obj.mk (Value.type "code") Option.none (Data.fields #[Value.str (Str.ofString "_law_ways") 675, Value.str (Str.ofString "_law_ways") 676, Value.str (Str.ofString "/claim/cut.py") 677, Value.int 195 0, Value.int 1 0, Value.int 0 0, Value.int 0 0, Value.int 3 0, Value.ref 296, Value.bool Bool.true, Value.int 276 0, Value.ref 297, Value.none, Value.ref 298, Value.ref 299, Value.ref 300, Value.int 689 0, Value.int 195 0, Value.str (Str.ofString "/claim/cut.py") 690]) #[]) ::
(nat_lit 302, Obj.mk (Value.type "function") Option.none (Data.func (FuncData.mk (Str.ofString "_law_ways") (Str.ofString "_law_ways") ?p302 (FuncBody.stmts ?b302) ?s302 3 [] Value.none Value.none Value.none (Value.str (Str.ofString "law_wj0054_01") 606) Option.none (Value.ref 301) Value.none 0)) #[]) ::
(nat_lit 303, Obj.mk (Value.type "tuple") Option.none (Data.seq #[]) #[]) ::
(nat_lit 306, Obj.mk (Value.type "code") Option.none (Data.fields #[Value.str (Str.ofString "law") 692, Value.str (Str.ofString "law") 693, Value.str (Str.ofString "/claim/cut.py") 694, Value.int 211 0, Value.int 1 0, Value.int 0 0, Value.int 0 0, Value.int 3 0, Value.ref 303, Value.bool Bool.true, Value.int 276 0, Value.ref 304, Value.none, Value.none, Value.none, Value.ref 305, Value.int 695 0, Value.int 211 0, Value.str (Str.ofString "/claim/cut.py") 696]) #[]) ::
(nat_lit 307, Obj.mk (Value.type "function") Option.none (Data.func (FuncData.mk (Str.ofString "law") (Str.ofString "law") ?p307 (FuncBody.stmts ?b307) ?s307 3 [] Value.none Value.none Value.none (Value.str (Str.ofString "law_wj0054_01") 606) Option.none (Value.ref 306) Value.none 0)) #[]) :: []

open PySem PySem.W PyProof.Rows
noncomputable abbrev Kas : List Addr := [3, 32, 34, 35, 37, 38, 42, 43, 47, 48, 56, 57, 59, 60, 62, 63, 64, 66, 67, 69, 70, 71, 73, 74, 76, 77, 78, 80, 81, 83, 84, 85, 88, 89, 90, 92, 93, 95, 96, 97, 99, 100, 102, 103, 104, 106, 107, 109, 110, 111, 112, 114, 115, 117, 118, 119, 122, 123, 124, 127, 128, 129, 131, 132, 134, 135, 136, 138, 139, 141, 142, 143, 146, 147, 148, 150, 151, 153, 154, 155, 157, 158, 160, 161, 162, 164, 165, 167, 168, 169, 170, 171, 172, 173, 176, 178, 179, 181, 182, 190, 192, 193, 195, 196, 197, 199, 200, 202, 203, 204, 206, 207, 209, 210, 211, 213, 214, 216, 217, 218, 219, 220, 221, 222, 225, 227, 228, 230, 231, 232, 234, 235, 237, 238, 239, 241, 242, 244, 245, 246, 249, 250, 251, 253, 254, 256, 257, 258, 261, 262, 263, 265, 266, 268, 269, 270, 272, 273, 275, 276, 277, 279, 280, 282, 283, 284, 286, 287, 289, 290, 291, 294, 295, 296, 298, 299, 301, 302, 303, 306, 307]
theorem Kis : ∀ P, Kas = (K P).map (·.1) := fun _ => by kernel_rfl
noncomputable def q : Program := view PySem.Challenge.rw_wj0054_01.prog [0, 1, 3, 4, 5, 7, 9, 11, 12, 13, 15, 16, 17, 18, 19, 20, 21, 22, 23, 24]
theorem said : PySem.Challenge.rw_wj0054_01.wellSaid = true := by
  rw [PySem.W.Fast.te9446332074065402090]
  kernel_rfl
noncomputable abbrev loose : List Str := [Str.ofString "_name_disallowed_re", Str.ofString "_value_disallowed_re"]
noncomputable abbrev pg : Program := PySem.Challenge.rw_wj0054_01.row.toRowW.prog
noncomputable def s0 (w : World) : Shared := (fencedOpening treeTable pg w 3516).getD {}
noncomputable def o0 (w : World) (a : Nat) : Obj := ((s0 w).heap.objs[a]?).getD default
noncomputable def kat (P : Params) (a : Nat) : Obj := ((K P).lookup a).getD default
noncomputable def hid (P : Params) (a : Nat) : Obj := match (kat P a).data with
  | .func f => { cls := .none, dict := none, data := .func { f with globals := 0, closure := [], defaults := .none, kwdefaults := .none, doc := .none, pyModule := .none, annotations := none, code := .none, closureTuple := .none, builtins := 0 }, slots := #[] }
  | _ => default
noncomputable def bd : List Stmt := behindTheImports pg
noncomputable def ev : Env := { scope := pg.main.scope, locals := 3, globals := 3, cells := [], code := .ref 30, frame := some 31 }
noncomputable abbrev p0 : Pos := ⟨0, 0, 0, 0⟩
noncomputable abbrev m0 (w : World) : Nat := (s0 w).heap.objs.size
noncomputable abbrev an (w : World) : Option Value := (s0 w).heap.nsMap mainGlobals "__annotations__"
noncomputable def th : Thread := ⟨denote treeTable (.body bd ev), .body bd ev, p0, [topFrame p0]⟩
noncomputable def sa (w : World) : Shared := ((topGo treeTable pg w (m0 w) (an w) 12 (s0 w) (topStub pg)).getD ({}, topStub pg)).1
noncomputable def sb (w : World) : Shared := ((segRun treeTable pg w (m0 w) (an w) 1 1 (sa w) (blockOf bd ev (.body bd ev) p0 [topFrame p0])).getD (.next, {}, .body bd ev, p0)).2.1
noncomputable def h3 (w : World) (P : Params) : Heap := Heap.mk (Array.mk (
o0 w 0 ::
o0 w 1 ::
o0 w 2 ::
Obj.mk (Value.type "dict") Option.none (Data.dict #[DictEntry.mk (PyData.keyHash P (Str.ofString "__name__")) (Value.str (Str.ofString "__name__") 165) (Value.str (Str.ofString "cpy313.wsgiref.headers") 289), DictEntry.mk (PyData.keyHash P (Str.ofString "__doc__")) (Value.str (Str.ofString "__doc__") 166) Value.none, DictEntry.mk (PyData.keyHash P (Str.ofString "__package__")) (Value.str (Str.ofString "__package__") 167) Value.none, DictEntry.mk (PyData.keyHash P (Str.ofString "__loader__")) (Value.str (Str.ofString "__loader__") 168) (Value.builtin "__main__.__loader__#opaque"), DictEntry.mk (PyData.keyHash P (Str.ofString "__spec__")) (Value.str (Str.ofString "__spec__") 169) Value.none, DictEntry.mk (PyData.keyHash P (Str.ofString "__annotations__")) (Value.str (Str.ofString "__annotations__") 170) (Value.ref 6), DictEntry.mk (PyData.keyHash P (Str.ofString "__builtins__")) (Value.str (Str.ofString "__builtins__") 171) (Value.ref 4), DictEntry.mk (PyData.keyHash P (Str.ofString "__file__")) (Value.str (Str.ofString "__file__") 173) (Value.str (Str.ofString "/claim/cut.py") 172), DictEntry.mk (PyData.keyHash P (Str.ofString "__cached__")) (Value.str (Str.ofString "__cached__") 174) Value.none, DictEntry.mk (PyData.keyHash P (Str.ofString "_sre")) (Value.str (Str.ofString "_sre") 275) (Value.ref 12), DictEntry.mk (PyData.keyHash P (Str.ofString "_wall")) (Value.str (Str.ofString "_wall") 288) (Value.ref 38), DictEntry.mk (PyData.keyHash P (Str.ofString "_name_disallowed_re")) (Value.str (Str.ofString "_name_disallowed_re") 316) (Value.ref 43), DictEntry.mk (PyData.keyHash P (Str.ofString "_value_disallowed_re")) (Value.str (Str.ofString "_value_disallowed_re") 350) (Value.ref 48)] 13) #[] ::
o0 w 4 ::
o0 w 5 ::
o0 w 6 ::
o0 w 7 ::
o0 w 8 ::
o0 w 9 ::
o0 w 10 ::
o0 w 11 ::
o0 w 12 ::
o0 w 13 ::
o0 w 14 ::
o0 w 15 ::
o0 w 16 ::
o0 w 17 ::
o0 w 18 ::
o0 w 19 ::
o0 w 20 ::
o0 w 21 ::
o0 w 22 ::
o0 w 23 ::
o0 w 24 ::
o0 w 25 ::
o0 w 26 ::
o0 w 27 ::
Obj.mk (Value.type "tuple") Option.none (kat P 32).data #[] ::
Obj.mk Value.none Option.none (Data.fields #[Value.int 2 0, Value.int 0 0, Value.ref 37]) #[] ::
Obj.mk (Value.type "code") Option.none (Data.fields #[Value.str (Str.ofString "<module>") 277, Value.str (Str.ofString "<module>") 278, Value.str (Str.ofString "/claim/cut.py") 279, Value.int 1 0, Value.int 0 0, Value.int 0 0, Value.int 0 0, Value.int 0 0, Value.ref 28, Value.bool Bool.false, Value.int 276 0, Value.ref 29, Value.none, Value.none, Value.none, Value.none, Value.int 280 0, Value.int 1 0, Value.str (Str.ofString "/claim/cut.py") 281]) #[] ::
Obj.mk (Value.type "frame") Option.none Data.plain #[Option.some (Value.ref 30), Option.some (Value.ref 3), Option.some (Value.ref 3), Option.none, Option.some (Value.str (Str.ofString "__main__") 164), Option.none, Option.some (Value.ref 0)] ::
kat P 32 ::
Obj.mk Value.none Option.none (Data.fields #[]) #[] ::
kat P 34 ::
kat P 35 ::
hid P 38 ::
kat P 37 ::
kat P 38 ::
Obj.mk (Value.type "list") Option.none (Data.seq #[Value.int 14 294, Value.int 10 295, Value.int 4 296, Value.int 1 297, Value.int 1 298, Value.int 22 299, Value.int 0 300, Value.int 31 301, Value.int 16 302, Value.int 127 303, Value.int 0 304, Value.int 13 305, Value.int 7 306, Value.int 22 307, Value.int 0 308, Value.int 31 309, Value.int 16 310, Value.int 127 311, Value.int 0 312, Value.int 1 313]) #[] ::
Obj.mk (Value.type "dict") Option.none (Data.dict #[]) #[] ::
Obj.mk (Value.type "tuple") Option.none (Data.seq #[Value.none]) #[] ::
kat P 42 ::
kat P 43 ::
Obj.mk (Value.type "list") Option.none (Data.seq #[Value.int 14 320, Value.int 14 321, Value.int 4 322, Value.int 1 323, Value.int 1 324, Value.int 9 325, Value.int 4294966783 326, Value.int 0 327, Value.int 0 328, Value.int 2147483648 329, Value.int 0 330, Value.int 0 331, Value.int 0 332, Value.int 0 333, Value.int 0 334, Value.int 13 335, Value.int 11 336, Value.int 9 337, Value.int 4294966783 338, Value.int 0 339, Value.int 0 340, Value.int 2147483648 341, Value.int 0 342, Value.int 0 343, Value.int 0 344, Value.int 0 345, Value.int 0 346, Value.int 1 347]) #[] ::
Obj.mk (Value.type "dict") Option.none (Data.dict #[]) #[] ::
Obj.mk (Value.type "tuple") Option.none (Data.seq #[Value.none]) #[] ::
kat P 47 ::
kat P 48 :: [])) (Life.mk [] [] [] 0 [] [] Bool.false #[] [] 0 Bool.false Bool.false Bool.false 0 [2000, 10, 10] Bool.false 0 Bool.true [] [] 0 Bool.false)
noncomputable def h4 (w : World) (P : Params) : Heap := Heap.mk (Array.mk (
o0 w 0 ::
o0 w 1 ::
o0 w 2 ::
Obj.mk (Value.type "dict") Option.none (Data.dict #[DictEntry.mk (PyData.keyHash P (Str.ofString "__name__")) (Value.str (Str.ofString "__name__") 165) (Value.str (Str.ofString "cpy313.wsgiref.headers") 289), DictEntry.mk (PyData.keyHash P (Str.ofString "__doc__")) (Value.str (Str.ofString "__doc__") 166) Value.none, DictEntry.mk (PyData.keyHash P (Str.ofString "__package__")) (Value.str (Str.ofString "__package__") 167) Value.none, DictEntry.mk (PyData.keyHash P (Str.ofString "__loader__")) (Value.str (Str.ofString "__loader__") 168) (Value.builtin "__main__.__loader__#opaque"), DictEntry.mk (PyData.keyHash P (Str.ofString "__spec__")) (Value.str (Str.ofString "__spec__") 169) Value.none, DictEntry.mk (PyData.keyHash P (Str.ofString "__annotations__")) (Value.str (Str.ofString "__annotations__") 170) (Value.ref 6), DictEntry.mk (PyData.keyHash P (Str.ofString "__builtins__")) (Value.str (Str.ofString "__builtins__") 171) (Value.ref 4), DictEntry.mk (PyData.keyHash P (Str.ofString "__file__")) (Value.str (Str.ofString "__file__") 173) (Value.str (Str.ofString "/claim/cut.py") 172), DictEntry.mk (PyData.keyHash P (Str.ofString "__cached__")) (Value.str (Str.ofString "__cached__") 174) Value.none, DictEntry.mk (PyData.keyHash P (Str.ofString "_sre")) (Value.str (Str.ofString "_sre") 275) (Value.ref 12), DictEntry.mk (PyData.keyHash P (Str.ofString "_wall")) (Value.str (Str.ofString "_wall") 288) (Value.ref 38), DictEntry.mk (PyData.keyHash P (Str.ofString "_name_disallowed_re")) (Value.str (Str.ofString "_name_disallowed_re") 316) (Value.ref 43), DictEntry.mk (PyData.keyHash P (Str.ofString "_value_disallowed_re")) (Value.str (Str.ofString "_value_disallowed_re") 350) (Value.ref 48), DictEntry.mk (PyData.keyHash P (Str.ofString "Headers")) (Value.str (Str.ofString "Headers") 507) (Value.ref 171)] 14) #[] ::
o0 w 4 ::
o0 w 5 ::
o0 w 6 ::
o0 w 7 ::
o0 w 8 ::
o0 w 9 ::
o0 w 10 ::
o0 w 11 ::
o0 w 12 ::
o0 w 13 ::
o0 w 14 ::
o0 w 15 ::
o0 w 16 ::
o0 w 17 ::
o0 w 18 ::
o0 w 19 ::
o0 w 20 ::
o0 w 21 ::
o0 w 22 ::
o0 w 23 ::
o0 w 24 ::
o0 w 25 ::
o0 w 26 ::
o0 w 27 ::
Obj.mk (Value.type "tuple") Option.none (kat P 32).data #[] ::
Obj.mk Value.none Option.none (Data.fields #[Value.int 2 0, Value.int 0 0, Value.ref 37, Value.int 8 0, Value.int 0 0, Value.ref 54]) #[] ::
Obj.mk (Value.type "code") Option.none (Data.fields #[Value.str (Str.ofString "<module>") 277, Value.str (Str.ofString "<module>") 278, Value.str (Str.ofString "/claim/cut.py") 279, Value.int 1 0, Value.int 0 0, Value.int 0 0, Value.int 0 0, Value.int 0 0, Value.ref 28, Value.bool Bool.false, Value.int 276 0, Value.ref 29, Value.none, Value.none, Value.none, Value.none, Value.int 280 0, Value.int 1 0, Value.str (Str.ofString "/claim/cut.py") 281]) #[] ::
Obj.mk (Value.type "frame") Option.none Data.plain #[Option.some (Value.ref 30), Option.some (Value.ref 3), Option.some (Value.ref 3), Option.none, Option.some (Value.str (Str.ofString "__main__") 164), Option.none, Option.some (Value.ref 0)] ::
kat P 32 ::
Obj.mk Value.none Option.none (Data.fields #[]) #[] ::
kat P 34 ::
kat P 35 ::
hid P 38 ::
kat P 37 ::
kat P 38 ::
Obj.mk (Value.type "list") Option.none (Data.seq #[Value.int 14 294, Value.int 10 295, Value.int 4 296, Value.int 1 297, Value.int 1 298, Value.int 22 299, Value.int 0 300, Value.int 31 301, Value.int 16 302, Value.int 127 303, Value.int 0 304, Value.int 13 305, Value.int 7 306, Value.int 22 307, Value.int 0 308, Value.int 31 309, Value.int 16 310, Value.int 127 311, Value.int 0 312, Value.int 1 313]) #[] ::
Obj.mk (Value.type "dict") Option.none (Data.dict #[]) #[] ::
Obj.mk (Value.type "tuple") Option.none (kat P 56).data #[] ::
kat P 42 ::
kat P 43 ::
Obj.mk (Value.type "list") Option.none (Data.seq #[Value.int 14 320, Value.int 14 321, Value.int 4 322, Value.int 1 323, Value.int 1 324, Value.int 9 325, Value.int 4294966783 326, Value.int 0 327, Value.int 0 328, Value.int 2147483648 329, Value.int 0 330, Value.int 0 331, Value.int 0 332, Value.int 0 333, Value.int 0 334, Value.int 13 335, Value.int 11 336, Value.int 9 337, Value.int 4294966783 338, Value.int 0 339, Value.int 0 340, Value.int 2147483648 341, Value.int 0 342, Value.int 0 343, Value.int 0 344, Value.int 0 345, Value.int 0 346, Value.int 1 347]) #[] ::
Obj.mk (Value.type "dict") Option.none (Data.dict #[]) #[] ::
Obj.mk (Value.type "tuple") Option.none (kat P 56).data #[] ::
kat P 47 ::
kat P 48 ::
Obj.mk (Value.type "tuple") Option.none (kat P 32).data #[] ::
Obj.mk (Value.type "builtin_function_or_method") Option.none (Data.fields #[Value.builtin "type.__prepare__", Value.type "type"]) #[] ::
Obj.mk (Value.type "dict") Option.none (Data.dict #[DictEntry.mk (PyData.keyHash P (Str.ofString "__module__")) (Value.str (Str.ofString "__module__") 358) (Value.str (Str.ofString "cpy313.wsgiref.headers") 289), DictEntry.mk (PyData.keyHash P (Str.ofString "__qualname__")) (Value.str (Str.ofString "__qualname__") 360) (Value.str (Str.ofString "Headers") 359), DictEntry.mk (PyData.keyHash P (Str.ofString "__firstlineno__")) (Value.str (Str.ofString "__firstlineno__") 362) (Value.int 8 361), DictEntry.mk (PyData.keyHash P (Str.ofString "__init__")) (Value.str (Str.ofString "__init__") 372) (Value.ref 63), DictEntry.mk (PyData.keyHash P (Str.ofString "_convert_string_type")) (Value.str (Str.ofString "_convert_string_type") 382) (Value.ref 70), DictEntry.mk (PyData.keyHash P (Str.ofString "__len__")) (Value.str (Str.ofString "__len__") 389) (Value.ref 77), DictEntry.mk (PyData.keyHash P (Str.ofString "__setitem__")) (Value.str (Str.ofString "__setitem__") 398) (Value.ref 84), DictEntry.mk (PyData.keyHash P (Str.ofString "__delitem__")) (Value.str (Str.ofString "__delitem__") 404) (Value.ref 89), DictEntry.mk (PyData.keyHash P (Str.ofString "__getitem__")) (Value.str (Str.ofString "__getitem__") 412) (Value.ref 96), DictEntry.mk (PyData.keyHash P (Str.ofString "__contains__")) (Value.str (Str.ofString "__contains__") 420) (Value.ref 103), DictEntry.mk (PyData.keyHash P (Str.ofString "get_all")) (Value.str (Str.ofString "get_all") 428) (Value.ref 110), DictEntry.mk (PyData.keyHash P (Str.ofString "get")) (Value.str (Str.ofString "get") 439) (Value.ref 118), DictEntry.mk (PyData.keyHash P (Str.ofString "keys")) (Value.str (Str.ofString "keys") 445) (Value.ref 123), DictEntry.mk (PyData.keyHash P (Str.ofString "values")) (Value.str (Str.ofString "values") 451) (Value.ref 128), DictEntry.mk (PyData.keyHash P (Str.ofString "items")) (Value.str (Str.ofString "items") 458) (Value.ref 135), DictEntry.mk (PyData.keyHash P (Str.ofString "__repr__")) (Value.str (Str.ofString "__repr__") 465) (Value.ref 142), DictEntry.mk (PyData.keyHash P (Str.ofString "__str__")) (Value.str (Str.ofString "__str__") 471) (Value.ref 147), DictEntry.mk (PyData.keyHash P (Str.ofString "__bytes__")) (Value.str (Str.ofString "__bytes__") 478) (Value.ref 154), DictEntry.mk (PyData.keyHash P (Str.ofString "setdefault")) (Value.str (Str.ofString "setdefault") 488) (Value.ref 161), DictEntry.mk (PyData.keyHash P (Str.ofString "add_header")) (Value.str (Str.ofString "add_header") 498) (Value.ref 168), DictEntry.mk (PyData.keyHash P (Str.ofString "__static_attributes__")) (Value.str (Str.ofString "__static_attributes__") 500) (Value.ref 169)] 21) #[] ::
Obj.mk (Value.type "tuple") Option.none (kat P 32).data #[] ::
Obj.mk Value.none Option.none (Data.fields #[Value.int 10 0, Value.int 4 0, Value.ref 62, Value.int 20 0, Value.int 4 0, Value.ref 69, Value.int 28 0, Value.int 4 0, Value.ref 76, Value.int 31 0, Value.int 4 0, Value.ref 83, Value.int 35 0, Value.int 4 0, Value.ref 88, Value.int 39 0, Value.int 4 0, Value.ref 95, Value.int 42 0, Value.int 4 0, Value.ref 102, Value.int 45 0, Value.int 4 0, Value.ref 109, Value.int 48 0, Value.int 4 0, Value.ref 117, Value.int 55 0, Value.int 4 0, Value.ref 122, Value.int 58 0, Value.int 4 0, Value.ref 127, Value.int 61 0, Value.int 4 0, Value.ref 134, Value.int 64 0, Value.int 4 0, Value.ref 141, Value.int 67 0, Value.int 4 0, Value.ref 146, Value.int 70 0, Value.int 4 0, Value.ref 153, Value.int 73 0, Value.int 4 0, Value.ref 160, Value.int 81 0, Value.int 4 0, Value.ref 167]) #[] ::
Obj.mk (Value.type "code") Option.none (Data.fields #[Value.str (Str.ofString "Headers") 353, Value.str (Str.ofString "Headers") 354, Value.str (Str.ofString "/claim/cut.py") 355, Value.int 8 0, Value.int 0 0, Value.int 0 0, Value.int 0 0, Value.int 0 0, Value.ref 52, Value.bool Bool.false, Value.int 276 0, Value.ref 53, Value.none, Value.none, Value.none, Value.none, Value.int 356 0, Value.int 8 0, Value.str (Str.ofString "/claim/cut.py") 357]) #[] ::
Obj.mk (Value.type "frame") Option.none Data.plain #[Option.some (Value.ref 54), Option.some (Value.ref 3), Option.some (Value.ref 51), Option.none, Option.some (Value.str (Str.ofString "cpy313.wsgiref.headers") 289), Option.none, Option.some (Value.ref 0)] ::
kat P 56 ::
kat P 57 ::
Obj.mk Value.none Option.none (Data.fields #[]) #[] ::
kat P 59 ::
kat P 60 ::
hid P 63 ::
kat P 62 ::
kat P 63 ::
kat P 64 ::
Obj.mk Value.none Option.none (Data.fields #[]) #[] ::
kat P 66 ::
kat P 67 ::
hid P 70 ::
kat P 69 ::
kat P 70 ::
kat P 71 ::
Obj.mk Value.none Option.none (Data.fields #[]) #[] ::
kat P 73 ::
kat P 74 ::
hid P 77 ::
kat P 76 ::
kat P 77 ::
kat P 78 ::
Obj.mk Value.none Option.none (Data.fields #[]) #[] ::
kat P 80 ::
kat P 81 ::
hid P 84 ::
kat P 83 ::
kat P 84 ::
kat P 85 ::
Obj.mk Value.none Option.none (Data.fields #[]) #[] ::
hid P 89 ::
kat P 88 ::
kat P 89 ::
kat P 90 ::
Obj.mk Value.none Option.none (Data.fields #[]) #[] ::
kat P 92 ::
kat P 93 ::
hid P 96 ::
kat P 95 ::
kat P 96 ::
kat P 97 ::
Obj.mk Value.none Option.none (Data.fields #[]) #[] ::
kat P 99 ::
kat P 100 ::
hid P 103 ::
kat P 102 ::
kat P 103 ::
kat P 104 ::
Obj.mk Value.none Option.none (Data.fields #[]) #[] ::
kat P 106 ::
kat P 107 ::
hid P 110 ::
kat P 109 ::
kat P 110 ::
kat P 111 ::
kat P 112 ::
Obj.mk Value.none Option.none (Data.fields #[]) #[] ::
kat P 114 ::
kat P 115 ::
hid P 118 ::
kat P 117 ::
kat P 118 ::
kat P 119 ::
Obj.mk Value.none Option.none (Data.fields #[]) #[] ::
hid P 123 ::
kat P 122 ::
kat P 123 ::
kat P 124 ::
Obj.mk Value.none Option.none (Data.fields #[]) #[] ::
hid P 128 ::
kat P 127 ::
kat P 128 ::
kat P 129 ::
Obj.mk Value.none Option.none (Data.fields #[]) #[] ::
kat P 131 ::
kat P 132 ::
hid P 135 ::
kat P 134 ::
kat P 135 ::
kat P 136 ::
Obj.mk Value.none Option.none (Data.fields #[]) #[] ::
kat P 138 ::
kat P 139 ::
hid P 142 ::
kat P 141 ::
kat P 142 ::
kat P 143 ::
Obj.mk Value.none Option.none (Data.fields #[]) #[] ::
hid P 147 ::
kat P 146 ::
kat P 147 ::
kat P 148 ::
Obj.mk Value.none Option.none (Data.fields #[]) #[] ::
kat P 150 ::
kat P 151 ::
hid P 154 ::
kat P 153 ::
kat P 154 ::
kat P 155 ::
Obj.mk Value.none Option.none (Data.fields #[]) #[] ::
kat P 157 ::
kat P 158 ::
hid P 161 ::
kat P 160 ::
kat P 161 ::
kat P 162 ::
Obj.mk Value.none Option.none (Data.fields #[]) #[] ::
kat P 164 ::
kat P 165 ::
hid P 168 ::
kat P 167 ::
kat P 168 ::
kat P 169 ::
kat P 170 ::
kat P 171 ::
kat P 172 ::
kat P 173 ::
Obj.mk (Value.type "super") Option.none (Data.fields #[Value.ref 171, Value.ref 171, Value.ref 171]) #[] ::
Obj.mk (Value.type "builtin_function_or_method") Option.none (Data.fields #[Value.builtin "object.__init_subclass__", Value.ref 171]) #[] :: [])) (Life.mk [] [] [] 0 [] [] Bool.false #[] [] 0 Bool.false Bool.false Bool.false 0 [2000, 10, 10] Bool.false 0 Bool.true [] [] 0 Bool.false)
noncomputable def h8 (w : World) (P : Params) : Heap := Heap.mk (Array.mk (
o0 w 0 ::
o0 w 1 ::
o0 w 2 ::
Obj.mk (Value.type "dict") Option.none (Data.dict #[DictEntry.mk (PyData.keyHash P (Str.ofString "__name__")) (Value.str (Str.ofString "__name__") 165) (Value.str (Str.ofString "cpy313.netrc") 520), DictEntry.mk (PyData.keyHash P (Str.ofString "__doc__")) (Value.str (Str.ofString "__doc__") 166) Value.none, DictEntry.mk (PyData.keyHash P (Str.ofString "__package__")) (Value.str (Str.ofString "__package__") 167) Value.none, DictEntry.mk (PyData.keyHash P (Str.ofString "__loader__")) (Value.str (Str.ofString "__loader__") 168) (Value.builtin "__main__.__loader__#opaque"), DictEntry.mk (PyData.keyHash P (Str.ofString "__spec__")) (Value.str (Str.ofString "__spec__") 169) Value.none, DictEntry.mk (PyData.keyHash P (Str.ofString "__annotations__")) (Value.str (Str.ofString "__annotations__") 170) (Value.ref 6), DictEntry.mk (PyData.keyHash P (Str.ofString "__builtins__")) (Value.str (Str.ofString "__builtins__") 171) (Value.ref 4), DictEntry.mk (PyData.keyHash P (Str.ofString "__file__")) (Value.str (Str.ofString "__file__") 173) (Value.str (Str.ofString "/claim/cut.py") 172), DictEntry.mk (PyData.keyHash P (Str.ofString "__cached__")) (Value.str (Str.ofString "__cached__") 174) Value.none, DictEntry.mk (PyData.keyHash P (Str.ofString "_sre")) (Value.str (Str.ofString "_sre") 275) (Value.ref 12), DictEntry.mk (PyData.keyHash P (Str.ofString "_wall")) (Value.str (Str.ofString "_wall") 288) (Value.ref 38), DictEntry.mk (PyData.keyHash P (Str.ofString "_name_disallowed_re")) (Value.str (Str.ofString "_name_disallowed_re") 316) (Value.ref 43), DictEntry.mk (PyData.keyHash P (Str.ofString "_value_disallowed_re")) (Value.str (Str.ofString "_value_disallowed_re") 350) (Value.ref 48), DictEntry.mk (PyData.keyHash P (Str.ofString "Headers")) (Value.str (Str.ofString "Headers") 507) (Value.ref 171), DictEntry.mk (PyData.keyHash P (Str.ofString "Int2AP")) (Value.str (Str.ofString "Int2AP") 519) (Value.ref 182), DictEntry.mk (PyData.keyHash P (Str.ofString "_netrclex")) (Value.str (Str.ofString "_netrclex") 579) (Value.ref 220)] 16) #[] ::
o0 w 4 ::
o0 w 5 ::
o0 w 6 ::
o0 w 7 ::
o0 w 8 ::
o0 w 9 ::
o0 w 10 ::
o0 w 11 ::
o0 w 12 ::
o0 w 13 ::
o0 w 14 ::
o0 w 15 ::
o0 w 16 ::
o0 w 17 ::
o0 w 18 ::
o0 w 19 ::
o0 w 20 ::
o0 w 21 ::
o0 w 22 ::
o0 w 23 ::
o0 w 24 ::
o0 w 25 ::
o0 w 26 ::
o0 w 27 ::
Obj.mk (Value.type "tuple") Option.none (kat P 32).data #[] ::
Obj.mk Value.none Option.none (Data.fields #[Value.int 2 0, Value.int 0 0, Value.ref 37, Value.int 8 0, Value.int 0 0, Value.ref 54, Value.int 84 0, Value.int 0 0, Value.ref 181, Value.int 93 0, Value.int 0 0, Value.ref 188]) #[] ::
Obj.mk (Value.type "code") Option.none (Data.fields #[Value.str (Str.ofString "<module>") 277, Value.str (Str.ofString "<module>") 278, Value.str (Str.ofString "/claim/cut.py") 279, Value.int 1 0, Value.int 0 0, Value.int 0 0, Value.int 0 0, Value.int 0 0, Value.ref 28, Value.bool Bool.false, Value.int 276 0, Value.ref 29, Value.none, Value.none, Value.none, Value.none, Value.int 280 0, Value.int 1 0, Value.str (Str.ofString "/claim/cut.py") 281]) #[] ::
Obj.mk (Value.type "frame") Option.none Data.plain #[Option.some (Value.ref 30), Option.some (Value.ref 3), Option.some (Value.ref 3), Option.none, Option.some (Value.str (Str.ofString "__main__") 164), Option.none, Option.some (Value.ref 0)] ::
kat P 32 ::
Obj.mk Value.none Option.none (Data.fields #[]) #[] ::
kat P 34 ::
kat P 35 ::
hid P 38 ::
kat P 37 ::
kat P 38 ::
Obj.mk (Value.type "list") Option.none (Data.seq #[Value.int 14 294, Value.int 10 295, Value.int 4 296, Value.int 1 297, Value.int 1 298, Value.int 22 299, Value.int 0 300, Value.int 31 301, Value.int 16 302, Value.int 127 303, Value.int 0 304, Value.int 13 305, Value.int 7 306, Value.int 22 307, Value.int 0 308, Value.int 31 309, Value.int 16 310, Value.int 127 311, Value.int 0 312, Value.int 1 313]) #[] ::
Obj.mk (Value.type "dict") Option.none (Data.dict #[]) #[] ::
Obj.mk (Value.type "tuple") Option.none (kat P 56).data #[] ::
kat P 42 ::
kat P 43 ::
Obj.mk (Value.type "list") Option.none (Data.seq #[Value.int 14 320, Value.int 14 321, Value.int 4 322, Value.int 1 323, Value.int 1 324, Value.int 9 325, Value.int 4294966783 326, Value.int 0 327, Value.int 0 328, Value.int 2147483648 329, Value.int 0 330, Value.int 0 331, Value.int 0 332, Value.int 0 333, Value.int 0 334, Value.int 13 335, Value.int 11 336, Value.int 9 337, Value.int 4294966783 338, Value.int 0 339, Value.int 0 340, Value.int 2147483648 341, Value.int 0 342, Value.int 0 343, Value.int 0 344, Value.int 0 345, Value.int 0 346, Value.int 1 347]) #[] ::
Obj.mk (Value.type "dict") Option.none (Data.dict #[]) #[] ::
Obj.mk (Value.type "tuple") Option.none (kat P 56).data #[] ::
kat P 47 ::
kat P 48 ::
Obj.mk (Value.type "tuple") Option.none (kat P 32).data #[] ::
Obj.mk (Value.type "builtin_function_or_method") Option.none (Data.fields #[Value.builtin "type.__prepare__", Value.type "type"]) #[] ::
Obj.mk (Value.type "dict") Option.none (Data.dict #[DictEntry.mk (PyData.keyHash P (Str.ofString "__module__")) (Value.str (Str.ofString "__module__") 358) (Value.str (Str.ofString "cpy313.wsgiref.headers") 289), DictEntry.mk (PyData.keyHash P (Str.ofString "__qualname__")) (Value.str (Str.ofString "__qualname__") 360) (Value.str (Str.ofString "Headers") 359), DictEntry.mk (PyData.keyHash P (Str.ofString "__firstlineno__")) (Value.str (Str.ofString "__firstlineno__") 362) (Value.int 8 361), DictEntry.mk (PyData.keyHash P (Str.ofString "__init__")) (Value.str (Str.ofString "__init__") 372) (Value.ref 63), DictEntry.mk (PyData.keyHash P (Str.ofString "_convert_string_type")) (Value.str (Str.ofString "_convert_string_type") 382) (Value.ref 70), DictEntry.mk (PyData.keyHash P (Str.ofString "__len__")) (Value.str (Str.ofString "__len__") 389) (Value.ref 77), DictEntry.mk (PyData.keyHash P (Str.ofString "__setitem__")) (Value.str (Str.ofString "__setitem__") 398) (Value.ref 84), DictEntry.mk (PyData.keyHash P (Str.ofString "__delitem__")) (Value.str (Str.ofString "__delitem__") 404) (Value.ref 89), DictEntry.mk (PyData.keyHash P (Str.ofString "__getitem__")) (Value.str (Str.ofString "__getitem__") 412) (Value.ref 96), DictEntry.mk (PyData.keyHash P (Str.ofString "__contains__")) (Value.str (Str.ofString "__contains__") 420) (Value.ref 103), DictEntry.mk (PyData.keyHash P (Str.ofString "get_all")) (Value.str (Str.ofString "get_all") 428) (Value.ref 110), DictEntry.mk (PyData.keyHash P (Str.ofString "get")) (Value.str (Str.ofString "get") 439) (Value.ref 118), DictEntry.mk (PyData.keyHash P (Str.ofString "keys")) (Value.str (Str.ofString "keys") 445) (Value.ref 123), DictEntry.mk (PyData.keyHash P (Str.ofString "values")) (Value.str (Str.ofString "values") 451) (Value.ref 128), DictEntry.mk (PyData.keyHash P (Str.ofString "items")) (Value.str (Str.ofString "items") 458) (Value.ref 135), DictEntry.mk (PyData.keyHash P (Str.ofString "__repr__")) (Value.str (Str.ofString "__repr__") 465) (Value.ref 142), DictEntry.mk (PyData.keyHash P (Str.ofString "__str__")) (Value.str (Str.ofString "__str__") 471) (Value.ref 147), DictEntry.mk (PyData.keyHash P (Str.ofString "__bytes__")) (Value.str (Str.ofString "__bytes__") 478) (Value.ref 154), DictEntry.mk (PyData.keyHash P (Str.ofString "setdefault")) (Value.str (Str.ofString "setdefault") 488) (Value.ref 161), DictEntry.mk (PyData.keyHash P (Str.ofString "add_header")) (Value.str (Str.ofString "add_header") 498) (Value.ref 168), DictEntry.mk (PyData.keyHash P (Str.ofString "__static_attributes__")) (Value.str (Str.ofString "__static_attributes__") 500) (Value.ref 169)] 21) #[] ::
Obj.mk (Value.type "tuple") Option.none (kat P 32).data #[] ::
Obj.mk Value.none Option.none (Data.fields #[Value.int 10 0, Value.int 4 0, Value.ref 62, Value.int 20 0, Value.int 4 0, Value.ref 69, Value.int 28 0, Value.int 4 0, Value.ref 76, Value.int 31 0, Value.int 4 0, Value.ref 83, Value.int 35 0, Value.int 4 0, Value.ref 88, Value.int 39 0, Value.int 4 0, Value.ref 95, Value.int 42 0, Value.int 4 0, Value.ref 102, Value.int 45 0, Value.int 4 0, Value.ref 109, Value.int 48 0, Value.int 4 0, Value.ref 117, Value.int 55 0, Value.int 4 0, Value.ref 122, Value.int 58 0, Value.int 4 0, Value.ref 127, Value.int 61 0, Value.int 4 0, Value.ref 134, Value.int 64 0, Value.int 4 0, Value.ref 141, Value.int 67 0, Value.int 4 0, Value.ref 146, Value.int 70 0, Value.int 4 0, Value.ref 153, Value.int 73 0, Value.int 4 0, Value.ref 160, Value.int 81 0, Value.int 4 0, Value.ref 167]) #[] ::
Obj.mk (Value.type "code") Option.none (Data.fields #[Value.str (Str.ofString "Headers") 353, Value.str (Str.ofString "Headers") 354, Value.str (Str.ofString "/claim/cut.py") 355, Value.int 8 0, Value.int 0 0, Value.int 0 0, Value.int 0 0, Value.int 0 0, Value.ref 52, Value.bool Bool.false, Value.int 276 0, Value.ref 53, Value.none, Value.none, Value.none, Value.none, Value.int 356 0, Value.int 8 0, Value.str (Str.ofString "/claim/cut.py") 357]) #[] ::
Obj.mk (Value.type "frame") Option.none Data.plain #[Option.some (Value.ref 54), Option.some (Value.ref 3), Option.some (Value.ref 51), Option.none, Option.some (Value.str (Str.ofString "cpy313.wsgiref.headers") 289), Option.none, Option.some (Value.ref 0)] ::
kat P 56 ::
kat P 57 ::
Obj.mk Value.none Option.none (Data.fields #[]) #[] ::
kat P 59 ::
kat P 60 ::
hid P 63 ::
kat P 62 ::
kat P 63 ::
kat P 64 ::
Obj.mk Value.none Option.none (Data.fields #[]) #[] ::
kat P 66 ::
kat P 67 ::
hid P 70 ::
kat P 69 ::
kat P 70 ::
kat P 71 ::
Obj.mk Value.none Option.none (Data.fields #[]) #[] ::
kat P 73 ::
kat P 74 ::
hid P 77 ::
kat P 76 ::
kat P 77 ::
kat P 78 ::
Obj.mk Value.none Option.none (Data.fields #[]) #[] ::
kat P 80 ::
kat P 81 ::
hid P 84 ::
kat P 83 ::
kat P 84 ::
kat P 85 ::
Obj.mk Value.none Option.none (Data.fields #[]) #[] ::
hid P 89 ::
kat P 88 ::
kat P 89 ::
kat P 90 ::
Obj.mk Value.none Option.none (Data.fields #[]) #[] ::
kat P 92 ::
kat P 93 ::
hid P 96 ::
kat P 95 ::
kat P 96 ::
kat P 97 ::
Obj.mk Value.none Option.none (Data.fields #[]) #[] ::
kat P 99 ::
kat P 100 ::
hid P 103 ::
kat P 102 ::
kat P 103 ::
kat P 104 ::
Obj.mk Value.none Option.none (Data.fields #[]) #[] ::
kat P 106 ::
kat P 107 ::
hid P 110 ::
kat P 109 ::
kat P 110 ::
kat P 111 ::
kat P 112 ::
Obj.mk Value.none Option.none (Data.fields #[]) #[] ::
kat P 114 ::
kat P 115 ::
hid P 118 ::
kat P 117 ::
kat P 118 ::
kat P 119 ::
Obj.mk Value.none Option.none (Data.fields #[]) #[] ::
hid P 123 ::
kat P 122 ::
kat P 123 ::
kat P 124 ::
Obj.mk Value.none Option.none (Data.fields #[]) #[] ::
hid P 128 ::
kat P 127 ::
kat P 128 ::
kat P 129 ::
Obj.mk Value.none Option.none (Data.fields #[]) #[] ::
kat P 131 ::
kat P 132 ::
hid P 135 ::
kat P 134 ::
kat P 135 ::
kat P 136 ::
Obj.mk Value.none Option.none (Data.fields #[]) #[] ::
kat P 138 ::
kat P 139 ::
hid P 142 ::
kat P 141 ::
kat P 142 ::
kat P 143 ::
Obj.mk Value.none Option.none (Data.fields #[]) #[] ::
hid P 147 ::
kat P 146 ::
kat P 147 ::
kat P 148 ::
Obj.mk Value.none Option.none (Data.fields #[]) #[] ::
kat P 150 ::
kat P 151 ::
hid P 154 ::
kat P 153 ::
kat P 154 ::
kat P 155 ::
Obj.mk Value.none Option.none (Data.fields #[]) #[] ::
kat P 157 ::
kat P 158 ::
hid P 161 ::
kat P 160 ::
kat P 161 ::
kat P 162 ::
Obj.mk Value.none Option.none (Data.fields #[]) #[] ::
kat P 164 ::
kat P 165 ::
hid P 168 ::
kat P 167 ::
kat P 168 ::
kat P 169 ::
kat P 170 ::
kat P 171 ::
kat P 172 ::
kat P 173 ::
Obj.mk (Value.type "super") Option.none (Data.fields #[Value.ref 171, Value.ref 171, Value.ref 171]) #[] ::
Obj.mk (Value.type "builtin_function_or_method") Option.none (Data.fields #[Value.builtin "object.__init_subclass__", Value.ref 171]) #[] ::
kat P 176 ::
Obj.mk Value.none Option.none (Data.fields #[]) #[] ::
kat P 178 ::
kat P 179 ::
hid P 182 ::
kat P 181 ::
kat P 182 ::
Obj.mk (Value.type "tuple") Option.none (kat P 32).data #[] ::
Obj.mk (Value.type "builtin_function_or_method") Option.none (Data.fields #[Value.builtin "type.__prepare__", Value.type "type"]) #[] ::
Obj.mk (Value.type "dict") Option.none (Data.dict #[DictEntry.mk (PyData.keyHash P (Str.ofString "__module__")) (Value.str (Str.ofString "__module__") 529) (Value.str (Str.ofString "cpy313.netrc") 520), DictEntry.mk (PyData.keyHash P (Str.ofString "__qualname__")) (Value.str (Str.ofString "__qualname__") 531) (Value.str (Str.ofString "_netrclex") 530), DictEntry.mk (PyData.keyHash P (Str.ofString "__firstlineno__")) (Value.str (Str.ofString "__firstlineno__") 533) (Value.int 93 532), DictEntry.mk (PyData.keyHash P (Str.ofString "__init__")) (Value.str (Str.ofString "__init__") 541) (Value.ref 196), DictEntry.mk (PyData.keyHash P (Str.ofString "_read_char")) (Value.str (Str.ofString "_read_char") 549) (Value.ref 203), DictEntry.mk (PyData.keyHash P (Str.ofString "get_token")) (Value.str (Str.ofString "get_token") 559) (Value.ref 210), DictEntry.mk (PyData.keyHash P (Str.ofString "push_token")) (Value.str (Str.ofString "push_token") 567) (Value.ref 217), DictEntry.mk (PyData.keyHash P (Str.ofString "__static_attributes__")) (Value.str (Str.ofString "__static_attributes__") 572) (Value.ref 218)] 8) #[] ::
Obj.mk (Value.type "tuple") Option.none (kat P 32).data #[] ::
Obj.mk Value.none Option.none (Data.fields #[Value.int 95 0, Value.int 4 0, Value.ref 195, Value.int 101 0, Value.int 4 0, Value.ref 202, Value.int 107 0, Value.int 4 0, Value.ref 209, Value.int 134 0, Value.int 4 0, Value.ref 216]) #[] ::
Obj.mk (Value.type "code") Option.none (Data.fields #[Value.str (Str.ofString "_netrclex") 524, Value.str (Str.ofString "_netrclex") 525, Value.str (Str.ofString "/claim/cut.py") 526, Value.int 93 0, Value.int 0 0, Value.int 0 0, Value.int 0 0, Value.int 0 0, Value.ref 186, Value.bool Bool.false, Value.int 276 0, Value.ref 187, Value.none, Value.none, Value.none, Value.none, Value.int 527 0, Value.int 93 0, Value.str (Str.ofString "/claim/cut.py") 528]) #[] ::
Obj.mk (Value.type "frame") Option.none Data.plain #[Option.some (Value.ref 188), Option.some (Value.ref 3), Option.some (Value.ref 185), Option.none, Option.some (Value.str (Str.ofString "cpy313.netrc") 520), Option.none, Option.some (Value.ref 0)] ::
kat P 190 ::
Obj.mk Value.none Option.none (Data.fields #[]) #[] ::
kat P 192 ::
kat P 193 ::
hid P 196 ::
kat P 195 ::
kat P 196 ::
kat P 197 ::
Obj.mk Value.none Option.none (Data.fields #[]) #[] ::
kat P 199 ::
kat P 200 ::
hid P 203 ::
kat P 202 ::
kat P 203 ::
kat P 204 ::
Obj.mk Value.none Option.none (Data.fields #[]) #[] ::
kat P 206 ::
kat P 207 ::
hid P 210 ::
kat P 209 ::
kat P 210 ::
kat P 211 ::
Obj.mk Value.none Option.none (Data.fields #[]) #[] ::
kat P 213 ::
kat P 214 ::
hid P 217 ::
kat P 216 ::
kat P 217 ::
kat P 218 ::
kat P 219 ::
kat P 220 ::
kat P 221 ::
kat P 222 ::
Obj.mk (Value.type "super") Option.none (Data.fields #[Value.ref 220, Value.ref 220, Value.ref 220]) #[] ::
Obj.mk (Value.type "builtin_function_or_method") Option.none (Data.fields #[Value.builtin "object.__init_subclass__", Value.ref 220]) #[] :: [])) (Life.mk [] [] [] 0 [] [] Bool.false #[] [] 0 Bool.false Bool.false Bool.false 0 [2000, 10, 10] Bool.false 0 Bool.true [] [] 0 Bool.false)
noncomputable def h9 (w : World) (P : Params) : Heap := Heap.mk (Array.mk (
o0 w 0 ::
o0 w 1 ::
o0 w 2 ::
kat P 3 ::
o0 w 4 ::
o0 w 5 ::
o0 w 6 ::
o0 w 7 ::
o0 w 8 ::
o0 w 9 ::
o0 w 10 ::
o0 w 11 ::
o0 w 12 ::
o0 w 13 ::
o0 w 14 ::
o0 w 15 ::
o0 w 16 ::
o0 w 17 ::
o0 w 18 ::
o0 w 19 ::
o0 w 20 ::
o0 w 21 ::
o0 w 22 ::
o0 w 23 ::
o0 w 24 ::
o0 w 25 ::
o0 w 26 ::
o0 w 27 ::
Obj.mk (Value.type "tuple") Option.none (kat P 32).data #[] ::
Obj.mk Value.none Option.none (Data.fields #[Value.int 2 0, Value.int 0 0, Value.ref 37, Value.int 8 0, Value.int 0 0, Value.ref 54, Value.int 84 0, Value.int 0 0, Value.ref 181, Value.int 93 0, Value.int 0 0, Value.ref 188, Value.int 137 0, Value.int 0 0, Value.ref 230, Value.int 139 0, Value.int 0 0, Value.ref 237, Value.int 141 0, Value.int 0 0, Value.ref 244, Value.int 144 0, Value.int 0 0, Value.ref 249, Value.int 149 0, Value.int 0 0, Value.ref 256, Value.int 151 0, Value.int 0 0, Value.ref 261, Value.int 159 0, Value.int 0 0, Value.ref 268, Value.int 167 0, Value.int 0 0, Value.ref 275, Value.int 172 0, Value.int 0 0, Value.ref 282, Value.int 186 0, Value.int 0 0, Value.ref 289, Value.int 191 0, Value.int 0 0, Value.ref 294, Value.int 195 0, Value.int 0 0, Value.ref 301, Value.int 211 0, Value.int 0 0, Value.ref 306]) #[] ::
Obj.mk (Value.type "code") Option.none (Data.fields #[Value.str (Str.ofString "<module>") 277, Value.str (Str.ofString "<module>") 278, Value.str (Str.ofString "/claim/cut.py") 279, Value.int 1 0, Value.int 0 0, Value.int 0 0, Value.int 0 0, Value.int 0 0, Value.ref 28, Value.bool Bool.false, Value.int 276 0, Value.ref 29, Value.none, Value.none, Value.none, Value.none, Value.int 280 0, Value.int 1 0, Value.str (Str.ofString "/claim/cut.py") 281]) #[] ::
Obj.mk (Value.type "frame") Option.none Data.plain #[Option.some (Value.ref 30), Option.some (Value.ref 3), Option.some (Value.ref 3), Option.none, Option.some (Value.str (Str.ofString "__main__") 164), Option.none, Option.some (Value.ref 0)] ::
kat P 32 ::
Obj.mk Value.none Option.none (Data.fields #[]) #[] ::
kat P 34 ::
kat P 35 ::
hid P 38 ::
kat P 37 ::
kat P 38 ::
Obj.mk (Value.type "list") Option.none (Data.seq #[Value.int 14 294, Value.int 10 295, Value.int 4 296, Value.int 1 297, Value.int 1 298, Value.int 22 299, Value.int 0 300, Value.int 31 301, Value.int 16 302, Value.int 127 303, Value.int 0 304, Value.int 13 305, Value.int 7 306, Value.int 22 307, Value.int 0 308, Value.int 31 309, Value.int 16 310, Value.int 127 311, Value.int 0 312, Value.int 1 313]) #[] ::
Obj.mk (Value.type "dict") Option.none (Data.dict #[]) #[] ::
Obj.mk (Value.type "tuple") Option.none (kat P 56).data #[] ::
kat P 42 ::
kat P 43 ::
Obj.mk (Value.type "list") Option.none (Data.seq #[Value.int 14 320, Value.int 14 321, Value.int 4 322, Value.int 1 323, Value.int 1 324, Value.int 9 325, Value.int 4294966783 326, Value.int 0 327, Value.int 0 328, Value.int 2147483648 329, Value.int 0 330, Value.int 0 331, Value.int 0 332, Value.int 0 333, Value.int 0 334, Value.int 13 335, Value.int 11 336, Value.int 9 337, Value.int 4294966783 338, Value.int 0 339, Value.int 0 340, Value.int 2147483648 341, Value.int 0 342, Value.int 0 343, Value.int 0 344, Value.int 0 345, Value.int 0 346, Value.int 1 347]) #[] ::
Obj.mk (Value.type "dict") Option.none (Data.dict #[]) #[] ::
Obj.mk (Value.type "tuple") Option.none (kat P 56).data #[] ::
kat P 47 ::
kat P 48 ::
Obj.mk (Value.type "tuple") Option.none (kat P 32).data #[] ::
Obj.mk (Value.type "builtin_function_or_method") Option.none (Data.fields #[Value.builtin "type.__prepare__", Value.type "type"]) #[] ::
Obj.mk (Value.type "dict") Option.none (Data.dict #[DictEntry.mk (PyData.keyHash P (Str.ofString "__module__")) (Value.str (Str.ofString "__module__") 358) (Value.str (Str.ofString "cpy313.wsgiref.headers") 289), DictEntry.mk (PyData.keyHash P (Str.ofString "__qualname__")) (Value.str (Str.ofString "__qualname__") 360) (Value.str (Str.ofString "Headers") 359), DictEntry.mk (PyData.keyHash P (Str.ofString "__firstlineno__")) (Value.str (Str.ofString "__firstlineno__") 362) (Value.int 8 361), DictEntry.mk (PyData.keyHash P (Str.ofString "__init__")) (Value.str (Str.ofString "__init__") 372) (Value.ref 63), DictEntry.mk (PyData.keyHash P (Str.ofString "_convert_string_type")) (Value.str (Str.ofString "_convert_string_type") 382) (Value.ref 70), DictEntry.mk (PyData.keyHash P (Str.ofString "__len__")) (Value.str (Str.ofString "__len__") 389) (Value.ref 77), DictEntry.mk (PyData.keyHash P (Str.ofString "__setitem__")) (Value.str (Str.ofString "__setitem__") 398) (Value.ref 84), DictEntry.mk (PyData.keyHash P (Str.ofString "__delitem__")) (Value.str (Str.ofString "__delitem__") 404) (Value.ref 89), DictEntry.mk (PyData.keyHash P (Str.ofString "__getitem__")) (Value.str (Str.ofString "__getitem__") 412) (Value.ref 96), DictEntry.mk (PyData.keyHash P (Str.ofString "__contains__")) (Value.str (Str.ofString "__contains__") 420) (Value.ref 103), DictEntry.mk (PyData.keyHash P (Str.ofString "get_all")) (Value.str (Str.ofString "get_all") 428) (Value.ref 110), DictEntry.mk (PyData.keyHash P (Str.ofString "get")) (Value.str (Str.ofString "get") 439) (Value.ref 118), DictEntry.mk (PyData.keyHash P (Str.ofString "keys")) (Value.str (Str.ofString "keys") 445) (Value.ref 123), DictEntry.mk (PyData.keyHash P (Str.ofString "values")) (Value.str (Str.ofString "values") 451) (Value.ref 128), DictEntry.mk (PyData.keyHash P (Str.ofString "items")) (Value.str (Str.ofString "items") 458) (Value.ref 135), DictEntry.mk (PyData.keyHash P (Str.ofString "__repr__")) (Value.str (Str.ofString "__repr__") 465) (Value.ref 142), DictEntry.mk (PyData.keyHash P (Str.ofString "__str__")) (Value.str (Str.ofString "__str__") 471) (Value.ref 147), DictEntry.mk (PyData.keyHash P (Str.ofString "__bytes__")) (Value.str (Str.ofString "__bytes__") 478) (Value.ref 154), DictEntry.mk (PyData.keyHash P (Str.ofString "setdefault")) (Value.str (Str.ofString "setdefault") 488) (Value.ref 161), DictEntry.mk (PyData.keyHash P (Str.ofString "add_header")) (Value.str (Str.ofString "add_header") 498) (Value.ref 168), DictEntry.mk (PyData.keyHash P (Str.ofString "__static_attributes__")) (Value.str (Str.ofString "__static_attributes__") 500) (Value.ref 169)] 21) #[] ::
Obj.mk (Value.type "tuple") Option.none (kat P 32).data #[] ::
Obj.mk Value.none Option.none (Data.fields #[Value.int 10 0, Value.int 4 0, Value.ref 62, Value.int 20 0, Value.int 4 0, Value.ref 69, Value.int 28 0, Value.int 4 0, Value.ref 76, Value.int 31 0, Value.int 4 0, Value.ref 83, Value.int 35 0, Value.int 4 0, Value.ref 88, Value.int 39 0, Value.int 4 0, Value.ref 95, Value.int 42 0, Value.int 4 0, Value.ref 102, Value.int 45 0, Value.int 4 0, Value.ref 109, Value.int 48 0, Value.int 4 0, Value.ref 117, Value.int 55 0, Value.int 4 0, Value.ref 122, Value.int 58 0, Value.int 4 0, Value.ref 127, Value.int 61 0, Value.int 4 0, Value.ref 134, Value.int 64 0, Value.int 4 0, Value.ref 141, Value.int 67 0, Value.int 4 0, Value.ref 146, Value.int 70 0, Value.int 4 0, Value.ref 153, Value.int 73 0, Value.int 4 0, Value.ref 160, Value.int 81 0, Value.int 4 0, Value.ref 167]) #[] ::
Obj.mk (Value.type "code") Option.none (Data.fields #[Value.str (Str.ofString "Headers") 353, Value.str (Str.ofString "Headers") 354, Value.str (Str.ofString "/claim/cut.py") 355, Value.int 8 0, Value.int 0 0, Value.int 0 0, Value.int 0 0, Value.int 0 0, Value.ref 52, Value.bool Bool.false, Value.int 276 0, Value.ref 53, Value.none, Value.none, Value.none, Value.none, Value.int 356 0, Value.int 8 0, Value.str (Str.ofString "/claim/cut.py") 357]) #[] ::
Obj.mk (Value.type "frame") Option.none Data.plain #[Option.some (Value.ref 54), Option.some (Value.ref 3), Option.some (Value.ref 51), Option.none, Option.some (Value.str (Str.ofString "cpy313.wsgiref.headers") 289), Option.none, Option.some (Value.ref 0)] ::
kat P 56 ::
kat P 57 ::
Obj.mk Value.none Option.none (Data.fields #[]) #[] ::
kat P 59 ::
kat P 60 ::
hid P 63 ::
kat P 62 ::
kat P 63 ::
kat P 64 ::
Obj.mk Value.none Option.none (Data.fields #[]) #[] ::
kat P 66 ::
kat P 67 ::
hid P 70 ::
kat P 69 ::
kat P 70 ::
kat P 71 ::
Obj.mk Value.none Option.none (Data.fields #[]) #[] ::
kat P 73 ::
kat P 74 ::
hid P 77 ::
kat P 76 ::
kat P 77 ::
kat P 78 ::
Obj.mk Value.none Option.none (Data.fields #[]) #[] ::
kat P 80 ::
kat P 81 ::
hid P 84 ::
kat P 83 ::
kat P 84 ::
kat P 85 ::
Obj.mk Value.none Option.none (Data.fields #[]) #[] ::
hid P 89 ::
kat P 88 ::
kat P 89 ::
kat P 90 ::
Obj.mk Value.none Option.none (Data.fields #[]) #[] ::
kat P 92 ::
kat P 93 ::
hid P 96 ::
kat P 95 ::
kat P 96 ::
kat P 97 ::
Obj.mk Value.none Option.none (Data.fields #[]) #[] ::
kat P 99 ::
kat P 100 ::
hid P 103 ::
kat P 102 ::
kat P 103 ::
kat P 104 ::
Obj.mk Value.none Option.none (Data.fields #[]) #[] ::
kat P 106 ::
kat P 107 ::
hid P 110 ::
kat P 109 ::
kat P 110 ::
kat P 111 ::
kat P 112 ::
Obj.mk Value.none Option.none (Data.fields #[]) #[] ::
kat P 114 ::
kat P 115 ::
hid P 118 ::
kat P 117 ::
kat P 118 ::
kat P 119 ::
Obj.mk Value.none Option.none (Data.fields #[]) #[] ::
hid P 123 ::
kat P 122 ::
kat P 123 ::
kat P 124 ::
Obj.mk Value.none Option.none (Data.fields #[]) #[] ::
hid P 128 ::
kat P 127 ::
kat P 128 ::
kat P 129 ::
Obj.mk Value.none Option.none (Data.fields #[]) #[] ::
kat P 131 ::
kat P 132 ::
hid P 135 ::
kat P 134 ::
kat P 135 ::
kat P 136 ::
Obj.mk Value.none Option.none (Data.fields #[]) #[] ::
kat P 138 ::
kat P 139 ::
hid P 142 ::
kat P 141 ::
kat P 142 ::
kat P 143 ::
Obj.mk Value.none Option.none (Data.fields #[]) #[] ::
hid P 147 ::
kat P 146 ::
kat P 147 ::
kat P 148 ::
Obj.mk Value.none Option.none (Data.fields #[]) #[] ::
kat P 150 ::
kat P 151 ::
hid P 154 ::
kat P 153 ::
kat P 154 ::
kat P 155 ::
Obj.mk Value.none Option.none (Data.fields #[]) #[] ::
kat P 157 ::
kat P 158 ::
hid P 161 ::
kat P 160 ::
kat P 161 ::
kat P 162 ::
Obj.mk Value.none Option.none (Data.fields #[]) #[] ::
kat P 164 ::
kat P 165 ::
hid P 168 ::
kat P 167 ::
kat P 168 ::
kat P 169 ::
kat P 170 ::
kat P 171 ::
kat P 172 ::
kat P 173 ::
Obj.mk (Value.type "super") Option.none (Data.fields #[Value.ref 171, Value.ref 171, Value.ref 171]) #[] ::
Obj.mk (Value.type "builtin_function_or_method") Option.none (Data.fields #[Value.builtin "object.__init_subclass__", Value.ref 171]) #[] ::
kat P 176 ::
Obj.mk Value.none Option.none (Data.fields #[]) #[] ::
kat P 178 ::
kat P 179 ::
hid P 182 ::
kat P 181 ::
kat P 182 ::
Obj.mk (Value.type "tuple") Option.none (kat P 32).data #[] ::
Obj.mk (Value.type "builtin_function_or_method") Option.none (Data.fields #[Value.builtin "type.__prepare__", Value.type "type"]) #[] ::
Obj.mk (Value.type "dict") Option.none (Data.dict #[DictEntry.mk (PyData.keyHash P (Str.ofString "__module__")) (Value.str (Str.ofString "__module__") 529) (Value.str (Str.ofString "cpy313.netrc") 520), DictEntry.mk (PyData.keyHash P (Str.ofString "__qualname__")) (Value.str (Str.ofString "__qualname__") 531) (Value.str (Str.ofString "_netrclex") 530), DictEntry.mk (PyData.keyHash P (Str.ofString "__firstlineno__")) (Value.str (Str.ofString "__firstlineno__") 533) (Value.int 93 532), DictEntry.mk (PyData.keyHash P (Str.ofString "__init__")) (Value.str (Str.ofString "__init__") 541) (Value.ref 196), DictEntry.mk (PyData.keyHash P (Str.ofString "_read_char")) (Value.str (Str.ofString "_read_char") 549) (Value.ref 203), DictEntry.mk (PyData.keyHash P (Str.ofString "get_token")) (Value.str (Str.ofString "get_token") 559) (Value.ref 210), DictEntry.mk (PyData.keyHash P (Str.ofString "push_token")) (Value.str (Str.ofString "push_token") 567) (Value.ref 217), DictEntry.mk (PyData.keyHash P (Str.ofString "__static_attributes__")) (Value.str (Str.ofString "__static_attributes__") 572) (Value.ref 218)] 8) #[] ::
Obj.mk (Value.type "tuple") Option.none (kat P 32).data #[] ::
Obj.mk Value.none Option.none (Data.fields #[Value.int 95 0, Value.int 4 0, Value.ref 195, Value.int 101 0, Value.int 4 0, Value.ref 202, Value.int 107 0, Value.int 4 0, Value.ref 209, Value.int 134 0, Value.int 4 0, Value.ref 216]) #[] ::
Obj.mk (Value.type "code") Option.none (Data.fields #[Value.str (Str.ofString "_netrclex") 524, Value.str (Str.ofString "_netrclex") 525, Value.str (Str.ofString "/claim/cut.py") 526, Value.int 93 0, Value.int 0 0, Value.int 0 0, Value.int 0 0, Value.int 0 0, Value.ref 186, Value.bool Bool.false, Value.int 276 0, Value.ref 187, Value.none, Value.none, Value.none, Value.none, Value.int 527 0, Value.int 93 0, Value.str (Str.ofString "/claim/cut.py") 528]) #[] ::
Obj.mk (Value.type "frame") Option.none Data.plain #[Option.some (Value.ref 188), Option.some (Value.ref 3), Option.some (Value.ref 185), Option.none, Option.some (Value.str (Str.ofString "cpy313.netrc") 520), Option.none, Option.some (Value.ref 0)] ::
kat P 190 ::
Obj.mk Value.none Option.none (Data.fields #[]) #[] ::
kat P 192 ::
kat P 193 ::
hid P 196 ::
kat P 195 ::
kat P 196 ::
kat P 197 ::
Obj.mk Value.none Option.none (Data.fields #[]) #[] ::
kat P 199 ::
kat P 200 ::
hid P 203 ::
kat P 202 ::
kat P 203 ::
kat P 204 ::
Obj.mk Value.none Option.none (Data.fields #[]) #[] ::
kat P 206 ::
kat P 207 ::
hid P 210 ::
kat P 209 ::
kat P 210 ::
kat P 211 ::
Obj.mk Value.none Option.none (Data.fields #[]) #[] ::
kat P 213 ::
kat P 214 ::
hid P 217 ::
kat P 216 ::
kat P 217 ::
kat P 218 ::
kat P 219 ::
kat P 220 ::
kat P 221 ::
kat P 222 ::
Obj.mk (Value.type "super") Option.none (Data.fields #[Value.ref 220, Value.ref 220, Value.ref 220]) #[] ::
Obj.mk (Value.type "builtin_function_or_method") Option.none (Data.fields #[Value.builtin "object.__init_subclass__", Value.ref 220]) #[] ::
kat P 225 ::
Obj.mk Value.none Option.none (Data.fields #[]) #[] ::
kat P 227 ::
kat P 228 ::
hid P 231 ::
kat P 230 ::
kat P 231 ::
kat P 232 ::
Obj.mk Value.none Option.none (Data.fields #[]) #[] ::
kat P 234 ::
kat P 235 ::
hid P 238 ::
kat P 237 ::
kat P 238 ::
kat P 239 ::
Obj.mk Value.none Option.none (Data.fields #[]) #[] ::
kat P 241 ::
kat P 242 ::
hid P 245 ::
kat P 244 ::
kat P 245 ::
kat P 246 ::
Obj.mk Value.none Option.none (Data.fields #[]) #[] ::
hid P 250 ::
kat P 249 ::
kat P 250 ::
kat P 251 ::
Obj.mk Value.none Option.none (Data.fields #[]) #[] ::
kat P 253 ::
kat P 254 ::
hid P 257 ::
kat P 256 ::
kat P 257 ::
kat P 258 ::
Obj.mk Value.none Option.none (Data.fields #[]) #[] ::
hid P 262 ::
kat P 261 ::
kat P 262 ::
kat P 263 ::
Obj.mk Value.none Option.none (Data.fields #[]) #[] ::
kat P 265 ::
kat P 266 ::
hid P 269 ::
kat P 268 ::
kat P 269 ::
kat P 270 ::
Obj.mk Value.none Option.none (Data.fields #[]) #[] ::
kat P 272 ::
kat P 273 ::
hid P 276 ::
kat P 275 ::
kat P 276 ::
kat P 277 ::
Obj.mk Value.none Option.none (Data.fields #[]) #[] ::
kat P 279 ::
kat P 280 ::
hid P 283 ::
kat P 282 ::
kat P 283 ::
kat P 284 ::
Obj.mk Value.none Option.none (Data.fields #[]) #[] ::
kat P 286 ::
kat P 287 ::
hid P 290 ::
kat P 289 ::
kat P 290 ::
kat P 291 ::
Obj.mk Value.none Option.none (Data.fields #[]) #[] ::
hid P 295 ::
kat P 294 ::
kat P 295 ::
kat P 296 ::
Obj.mk Value.none Option.none (Data.fields #[]) #[] ::
kat P 298 ::
kat P 299 ::
hid P 302 ::
kat P 301 ::
kat P 302 ::
kat P 303 ::
Obj.mk Value.none Option.none (Data.fields #[]) #[] ::
hid P 307 ::
kat P 306 ::
kat P 307 :: [])) (Life.mk [] [] [] 0 [] [] Bool.false #[] [] 0 Bool.false Bool.false Bool.false 0 [2000, 10, 10] Bool.false 0 Bool.true [] [] 0 Bool.false)
noncomputable def s9 (w : World) : Shared := ⟨h9 w w.params, #[], ⟨0, 0, 0, 0⟩, 698, (s0 w).os⟩
noncomputable def s3 (w : World) : Shared := ⟨h3 w w.params, #[], ⟨0, 0, 0, 0⟩, 351, (s0 w).os⟩
noncomputable def s4 (w : World) : Shared := ⟨h4 w w.params, #[], ⟨0, 0, 0, 0⟩, 508, (s0 w).os⟩
noncomputable def s8 (w : World) : Shared := ⟨h8 w w.params, #[], ⟨0, 0, 0, 0⟩, 580, (s0 w).os⟩
noncomputable abbrev p3 : Pos := ⟨7, 0, 7, 20⟩
noncomputable abbrev p4 : Pos := ⟨8, 0, 82, 16⟩
noncomputable abbrev p8 : Pos := ⟨93, 0, 135, 35⟩
theorem open_is (w : World) : fencedOpening treeTable pg w 3516 = some (s0 w) := by
  have h : (fencedOpening treeTable pg w 3516).isSome = true := by
    revert w
    intro w
    unfold fencedOpening
    rw [PySem.W.Fast.te10274390034422433532, PySem.W.Fast.te14289696077712309145, PySem.W.Fast.te1435165496053646825, PySem.W.Fast.te14364793385576792824]
    kernel_rfl
  unfold s0
  cases e : fencedOpening treeTable pg w 3516 with
  | none => rw [e] at h; cases h
  | some s => rfl
theorem ns_is : ∀ w, ((s0 w).heap.isNs mainGlobals && (s0 w).gens.size == 0) = true := by
  intro w
  unfold s0 fencedOpening
  rw [PySem.W.Fast.te10274390034422433532, PySem.W.Fast.te14289696077712309145, PySem.W.Fast.te1435165496053646825, PySem.W.Fast.te14364793385576792824]
  kernel_rfl
theorem go_A : ∀ w, (topGo treeTable pg w (m0 w) (an w) 12 (s0 w) (topStub pg), segRun treeTable pg w (m0 w) (an w) 1 1 (sa w) (blockOf bd ev (.body bd ev) p0 [topFrame p0]), segRun treeTable pg w (m0 w) (an w) 1 300 (sb w) (piecesOf (bd.take 4) ev (.body bd ev) p0 [topFrame p0])) =
    (some (sa w, th), some (.next, sb w, .body bd ev, p0), some (.next, s3 w, .body bd ev, p3)) := by
  intro w
  unfold s3 h3 o0 sb sa m0 an s0 fencedOpening th
  rw [PySem.W.Fast.te14374325043358763698, PySem.W.Fast.te15667345088766844465, PySem.W.Fast.te11892475500146522536, PySem.W.Fast.te10274390034422433532, PySem.W.Fast.te14289696077712309145, PySem.W.Fast.te1435165496053646825, PySem.W.Fast.te14364793385576792824, PySem.W.Fast.te8920871248978507458]
  kernel_rfl
theorem go_4 : ∀ w, segRun treeTable pg w (m0 w) (an w) 1 1000 (s3 w) (piecesOf ((bd.drop 4).take 1) ev (.body bd ev) p3 [topFrame p0]) = some (.next, s4 w, .body bd ev, p4) := by
  intro w
  unfold s4 h4 s3 h3 o0 m0 an s0 fencedOpening
  rw [PySem.W.Fast.te14374325043358763698, PySem.W.Fast.te10274390034422433532, PySem.W.Fast.te14289696077712309145, PySem.W.Fast.te1435165496053646825, PySem.W.Fast.te14364793385576792824, PySem.W.Fast.te8920871248978507458]
  kernel_rfl
theorem go_8 : ∀ w, segRun treeTable pg w (m0 w) (an w) 1 500 (s4 w) (piecesOf (((bd.drop 4).drop 1).take 4) ev (.body bd ev) p4 [topFrame p0]) = some (.next, s8 w, .body bd ev, p8) := by
  intro w
  unfold s8 h8 s4 h4 o0 m0 an s0 fencedOpening
  rw [PySem.W.Fast.te14374325043358763698, PySem.W.Fast.te10274390034422433532, PySem.W.Fast.te14289696077712309145, PySem.W.Fast.te1435165496053646825, PySem.W.Fast.te14364793385576792824, PySem.W.Fast.te8920871248978507458]
  kernel_rfl
noncomputable abbrev Xq : Shared → Bool := fun s => xlAt q [] s && recOk PySem.Challenge.rw_wj0054_01.row.records s
theorem go_9 : ∀ w, topRun treeTable pg w (m0 w) (an w) 600 (s8 w) (restOf (((bd.drop 4).drop 1).drop 4) ev (.body bd ev) p8 [topFrame p0]) = some (s9 w) := by
  intro w
  unfold s9 h9 s8 h8 o0 m0 an s0 fencedOpening
  rw [PySem.W.Fast.te14082659384304107361, PySem.W.Fast.te10274390034422433532, PySem.W.Fast.te14289696077712309145, PySem.W.Fast.te1435165496053646825, PySem.W.Fast.te14364793385576792824, PySem.W.Fast.te8920871248978507458]
  kernel_rfl
theorem look_a : ∀ w, (staticsOk (importedModules pg.main.body) (s0 w).heap (s9 w).heap && namesBound pg (s9 w).heap && gensDone (s9 w) && laidKept (s0 w).heap (s9 w).heap) = true := by
  intro w
  unfold s9 h9 o0 s0 fencedOpening
  rw [PySem.W.Fast.te10274390034422433532, PySem.W.Fast.te14289696077712309145, PySem.W.Fast.te1435165496053646825, PySem.W.Fast.te14364793385576792824, PySem.W.Fast.te5923862056798008813]
  kernel_rfl
theorem look_b : ∀ w, openSeen q loose (importedModules pg.main.body) Xq true (s9 w) = openGood q loose := by
  intro w
  unfold s9 h9 o0 s0 fencedOpening
  rw [PySem.W.Fast.te10274390034422433532, PySem.W.Fast.te14289696077712309145, PySem.W.Fast.te1435165496053646825, PySem.W.Fast.te4187177175401517315, PySem.W.Fast.te14364793385576792824, PySem.W.Fast.te5923862056798008813]
  kernel_rfl
theorem look_c : ∀ w, (kmHook K Kas Kis [264]).obs (s9 w) = (kmHook K Kas Kis [264]).val w := by
  intro w
  unfold s9 h9 o0 s0 fencedOpening
  rw [PySem.W.Fast.te10274390034422433532, PySem.W.Fast.te14289696077712309145, PySem.W.Fast.te1435165496053646825, PySem.W.Fast.te14364793385576792824]
  kernel_rfl
theorem left : LeftO PySem.Challenge.rw_wj0054_01.row.toRowW.prog q loose (fun s => xlAt q [] s && recOk PySem.Challenge.rw_wj0054_01.row.records s) (kmHook K Kas Kis [264]).obs (kmHook K Kas Kis [264]).val 3516 := by
  intro w
  obtain ⟨qa, q2⟩ := Prod.mk.inj (go_A w)
  obtain ⟨qb, qc⟩ := Prod.mk.inj q2
  have r8 := piece_app (l := ((bd.drop 4).drop 1).take 4) (rest := ((bd.drop 4).drop 1).drop 4) (go_8 w) (go_9 w)
  rw [List.take_append_drop] at r8
  have r4 := piece_app (l := (bd.drop 4).take 1) (rest := (bd.drop 4).drop 1) (go_4 w) r8
  rw [List.take_append_drop] at r4
  have r3 := piece_app (l := bd.take 4) (rest := bd.drop 4) qc r4
  rw [List.take_append_drop] at r3
  have ra := go_top qa (piece_block qb r3)
  have r := topRun_mono 1103 _ _ _ _ ra
  unfold openEnds
  rw [open_is w]
  rw [Option.bind_some]
  unfold topFrom
  rw [ns_is w]
  dsimp only
  rw [r, Option.bind_some, look_a w]
  exact congrArg some (Prod.ext (look_b w) (look_c w))

open PySem PySem.W PyProof.Rows
theorem six {a b c x y z : Int} (h1 : a ≤ b) (h2 : b ≤ c) (h : (a = x ∧ b = y ∧ c = z) ∨ (a = x ∧ b = z ∧ c = y) ∨ (a = y ∧ b = x ∧ c = z) ∨ (a = y ∧ b = z ∧ c = x) ∨ (a = z ∧ b = x ∧ c = y) ∨ (a = z ∧ b = y ∧ c = x)) :
    min (0 + z) (min (0 + y) (0 + x)) = a ∧ min (min (0 + y) (0 + x) + z) (0 + x + y) = a + b ∧ 0 + x + y + z = a + b + c := by
  have h3 := Int.le_trans h1 h2
  rw [Int.zero_add, Int.zero_add, Int.zero_add]
  rcases h with ⟨rfl, rfl, rfl⟩ | ⟨rfl, rfl, rfl⟩ | ⟨rfl, rfl, rfl⟩ | ⟨rfl, rfl, rfl⟩ | ⟨rfl, rfl, rfl⟩ | ⟨rfl, rfl, rfl⟩
  · rw [Int.min_eq_right h1, Int.min_eq_right h3]
    exact ⟨rfl, Int.min_eq_right (Int.add_le_add_left h2 a), rfl⟩
  · rw [Int.min_eq_right h3, Int.min_eq_right h1]
    exact ⟨rfl, Int.min_eq_left (Int.add_le_add_left h2 a), Int.add_right_comm ..⟩
  · rw [Int.min_eq_left h1, Int.min_eq_right h3, Int.add_comm b a]
    exact ⟨rfl, Int.min_eq_right (Int.add_le_add_left h2 a), rfl⟩
  · rw [Int.min_eq_left h3, Int.min_eq_right h1, Int.add_comm c a]
    exact ⟨rfl, Int.min_eq_left (Int.add_le_add_left h2 a), Int.add_right_comm ..⟩
  · rw [Int.min_eq_right h2, Int.min_eq_left h1, Int.add_comm b a, Int.add_comm (b + c) a, ← Int.add_assoc, Int.add_comm a b]
    exact ⟨rfl, Int.min_eq_left (Int.add_le_add_left h3 b), rfl⟩
  · rw [Int.min_eq_left h2, Int.min_eq_left h1, Int.add_comm b a, Int.add_comm (c + b) a, ← Int.add_assoc, Int.add_comm c b]
    exact ⟨rfl, (congrArg (min · _) (Int.add_comm a b)).trans ((Int.min_eq_left (Int.add_le_add_left h3 b)).trans (Int.add_comm b a)), Int.add_right_comm ..⟩
theorem fmc {α : Type} {P : α → Prop} {a : α} {l : List α} (h : P a) (t : ∀ x ∈ l, P x) : ∀ x ∈ a :: l, P x := List.forall_mem_cons.mpr ⟨h, t⟩
theorem sub_keep {α : Type} {a : α} {l big : List α} (h : ∀ q ∈ l, q ∈ big) : ∀ q ∈ a :: l, q ∈ a :: big := List.forall_mem_cons.mpr ⟨.head _, fun q hq => .tail _ (h q hq)⟩
theorem nameX_Lr {M : Model} {A : Around} {E : Value → Shared → Prop} {s : Shared} {h₀ : Heap} {L a : Addr} {m : Str → Option Value} {cn : Str} {cs : Scope} {ccd : Value} {cl : List (Str × Addr)} {x : Str} {pos : Pos} {v : Value} {Q : Value → Shared → Prop}
    (F : Fr h₀ L s.heap m) (hk : .function = cs.kind) (hx : some .local = (envX cn cs L a ccd cl).kindOf x) (hv : some v = m x) (h : Q v s) (hd : (x == ("__debug__" : Str)) = false := by decide) :
    wpAny M A (eval (.Name x pos) (envX cn cs L a ccd cl)) Q E s := nameX_L F hv.symm h hk.symm hx.symm hd
theorem storeX_Lr {M : Model} {A : Around} {E : Value → Shared → Prop} {s : Shared} {h₀ : Heap} {L a : Addr} {m : Str → Option Value} {cn : Str} {cs : Scope} {ccd : Value} {cl : List (Str × Addr)} {x : Str} {v : Value} {Q : Unit → Shared → Prop} {news : List (Addr × Obj)}
    (F : Fr h₀ L s.heap m) (N : News h₀ L s.heap news) (hk : .function = cs.kind) (hx : some .local = (envX cn cs L a ccd cl).kindOf x)
    (h : ∀ h', Fr h₀ L h' (fun y => if y = x then some v else m y) → News h₀ L h' news → Q () { s with heap := h', toks := s.toks + 1 }) :
    wpAny M A (storeName (envX cn cs L a ccd cl) x v) Q E s := storeX_L F N h hk.symm hx.symm
theorem sub_drop {α : Type} {a : α} {l big : List α} (h : ∀ q ∈ l, q ∈ big) : ∀ q ∈ l, q ∈ a :: big := fun q hq => .tail _ (h q hq)
noncomputable def SpecK (dp un : Nat) (w : World) (f : Addr) (args : List Value) (kw : List (Str × Value)) (news : List (Addr × Obj)) (Post : Value → List (Addr × Obj) → Prop) : Prop :=
  ∀ (p : Program) (loose : List Str) (mean : ExcName → Option Value) (mg mb : Str → Option Value) (cn : Str) (cs : Scope) (a : Addr) (ccd : Value) (cl : List (Str × Addr)) (outer : List Env) (A₀ : Around) (base h₀ : Heap) (L : Addr) (m : Str → Option Value) (s : Shared) (Q E : Value → Shared → Prop),
    Below A₀ base outer h₀ → Fr h₀ L s.heap m → (Mine.K w.params).In h₀ → News h₀ L s.heap news → Top p loose mean mg mb h₀ → cs.kind = .function →
    (∀ v news' h' tk', Post v news' → Fr h₀ L h' m → News h₀ L h' news' → Q v { s with heap := h', toks := tk' }) →
    wpAny (model PySem.Challenge.rw_wj0054_01.row.prog w) (ktrTop dp un none cn cs L a ccd cl outer) (call (.ref f) args kw) Q E s
theorem SpecK.use {dp un : Nat} {w : World} {f : Addr} {args : List Value} {kw : List (Str × Value)} {news : List (Addr × Obj)} {Post : Value → List (Addr × Obj) → Prop} (C : SpecK dp un w f args kw news Post)
    {p : Program} {loose : List Str} {mean : ExcName → Option Value} {mg mb : Str → Option Value} {cn : Str} {cs : Scope} {a : Addr} {ccd : Value} {cl : List (Str × Addr)} {outer : List Env} {A A₀ : Around} {base h₀ : Heap} {L : Addr} {m : Str → Option Value} {s : Shared} {Q E : Value → Shared → Prop}
    (B : Below A₀ base outer h₀) (F : Fr h₀ L s.heap m) (X : (Mine.K w.params).In h₀) (N : News h₀ L s.heap news) (T : Top p loose mean mg mb h₀)
    (hA : A.frames = some (envX cn cs L a ccd cl :: outer)) (hk : cs.kind = .function) (hh : A.handled = none) (hdp : A.depth ≤ dp) (hun : A.units ≤ un)
    (h : ∀ v news' h' tk', Post v news' → Fr h₀ L h' m → News h₀ L h' news' → Q v { s with heap := h', toks := tk' }) :
    wpAny (model PySem.Challenge.rw_wj0054_01.row.prog w) A (call (.ref f) args kw) Q E s := fun Γ q hΓ =>
  C p loose mean mg mb cn cs a ccd cl outer A₀ base h₀ L m s Q E B F X N T hk h Γ q ⟨hΓ.1.trans hh, Nat.le_trans hΓ.2.1 hdp, fun l e => hΓ.2.2.1 l (hA.trans e), fun _ e => (nomatch e), Nat.le_trans hΓ.2.2.2.2 hun⟩
noncomputable abbrev Spec (w : World) (f : Addr) (args : List Value) (news : List (Addr × Obj)) (Post : Value → List (Addr × Obj) → Prop) : Prop := SpecK 800 6000 w f args [] news Post

open PySem PySem.W PyProof.Rows
local macro_rules | `(tactic| walk_at $s:str) => `(tactic| k_extra $s)
noncomputable def apc (m : Int) : UInt8 := UInt8.ofNat (65 + m.toNat)
noncomputable def ApInv (n0 num : Int) (val : Array UInt8) : Prop := 0 ≤ n0 ∧ n0 < 256 ∧ ((num = n0 ∧ val = #[]) ∨ (num = n0 / 16 ∧ 0 < n0 ∧ val = #[apc (n0 % 16)]) ∨ (num = 0 ∧ 16 ≤ n0 ∧ val = #[apc (n0/16), apc (n0 % 16)]))
noncomputable def apB (n : Int) : Array UInt8 := if n = 0 then #[] else if n < 16 then #[apc n] else #[apc (n / 16), apc (n % 16)]
theorem fdm (n : Int) : n.fdiv 16 = n / 16 ∧ n.fmod 16 = n % 16 := ⟨Int.fdiv_eq_ediv_of_nonneg _ (by decide), Int.fmod_eq_emod_of_nonneg _ (by decide)⟩
theorem ApInv.start {n : Int} (h0 : 0 ≤ n) (h1 : n < 256) : ApInv n n #[] := ⟨h0, h1, .inl ⟨rfl, rfl⟩⟩
theorem ApInv.pos {n0 num : Int} {val : Array UInt8} (h : ApInv n0 num val) : 0 ≤ num ∧ val.size ≤ 2 := by
  obtain ⟨a, b, h⟩ := h
  rcases h with ⟨e, f⟩ | ⟨e, f, g⟩ | ⟨e, f, g⟩ <;> subst_vars <;> simp <;> omega
theorem ApInv.step {n0 num : Int} {val : Array UInt8} (h : ApInv n0 num val) (hn : num ≠ 0) : ApInv n0 (num.fdiv 16) (#[apc (num.fmod 16)] ++ val) := by
  obtain ⟨a, b, h⟩ := h
  rw [(fdm num).1, (fdm num).2]
  refine ⟨a, b, ?_⟩
  rcases h with ⟨e, f⟩ | ⟨e, f, g⟩ | ⟨e, f, g⟩
  · subst e f; exact .inr (.inl ⟨rfl, by omega, by simp⟩)
  · subst e g
    have h1 : n0 / 16 / 16 = 0 := by omega
    have h2 : n0 / 16 % 16 = n0 / 16 := by omega
    exact .inr (.inr ⟨h1, by omega, by rw [h2]; rfl⟩)
  · exact absurd e hn
theorem ApInv.last {n0 num : Int} {val : Array UInt8} (h : ApInv n0 num val) (hn : num = 0) : val = apB n0 := by
  obtain ⟨a, b, h⟩ := h
  unfold apB
  rcases h with ⟨e, f⟩ | ⟨e, f, g⟩ | ⟨e, f, g⟩
  · rw [if_pos (by omega)]; exact f
  · rw [if_neg (by omega), if_pos (by omega), g, show n0 % 16 = n0 by omega]
  · rw [if_neg (by omega), if_neg (by omega)]; exact g
noncomputable abbrev apL : Array UInt8 := #[65, 66, 67, 68, 69, 70, 71, 72, 73, 74, 75, 76, 77, 78, 79, 80]
theorem ap_all {m : Int} (h0 : 0 ≤ m) (h1 : m < 16) : KBy.whole apL (some m) (some (m + 1)) = false ∧ KBy.picked apL (some m) (some (m + 1)) = #[apc m] := by
  have H : ∀ n : Fin 16, KBy.whole apL (some (n.val : Int)) (some ((n.val : Int) + 1)) = false ∧ KBy.picked apL (some (n.val : Int)) (some ((n.val : Int) + 1)) = #[apc (n.val : Int)] := by decide +kernel
  obtain ⟨n, rfl⟩ := Int.eq_ofNat_of_zero_le h0
  exact H ⟨n, Int.ofNat_lt.mp h1⟩
section
variable {prog : Program} {w : World} {A : Around} {E : Value → Shared → Prop} {s : Shared} {value slice : PySem.Expr} {t u1 u2 : Tok} {h₀ : Heap} {L : Addr} {m : PySem.Str → Option Value} {news : List (Addr × Obj)} {i : Int} {Q : Value → Shared → Prop}
theorem ap_slice (hF : Fr h₀ L s.heap m) (hN : News h₀ L s.heap news) (h0 : 0 ≤ i) (h1 : i < 16)
    (h : ∀ h' t' k, Fr h₀ L h' m → News h₀ L h' news → Q (.bytes #[apc i] t') { s with heap := h', toks := k })
    (hs : subscripted slice false (.bytes apL t) (.ref s.heap.objs.size) = operate [.ref s.heap.objs.size, .bytes apL t] (getItem (.bytes apL t) (.ref s.heap.objs.size)) := by with_unfolding_all rfl)
    (ht : ∀ r, letTemporaryGo value (.bytes apL t) r = pure () := by intro _; with_unfolding_all rfl) :
    wpAny (model prog w) A (subscriptTail value slice (.bytes apL t) (.ref s.heap.objs.size)) Q E { s with heap := s.heap.push { cls := .type "slice", data := .fields #[.int i u1, .int (i + 1) u2, .none] } } := by
  obtain ⟨e1, e2⟩ := ap_all h0 h1
  exact KBy.slice_N hF hN (IsPart.int _ _) (IsPart.int _ _) e1 (by rw [e2]; show 1 ≤ _; omega) (by rw [e2]; exact h) hs ht
theorem ap_add {n0 num : Int} {val : Array UInt8} {c : UInt8} {t1 t2 : Tok} (hz : ApInv n0 num val) (h : ∀ t k, Q (.bytes (#[c] ++ val) t) { s with toks := k }) : wpAny (model prog w) A (binaryOp .Add (.bytes #[c] t1) (.bytes val t2)) Q E s := by
  have := hz.pos
  exact KBy.add_bytes (by show 1 + val.size ≤ _; omega) h
end
theorem rowsA1 : True := by
  k_with_none
  k_with "storeName" => (k_here; k_dflt (refine' storeX_Lr ?F ?N ?a ?b ?_; (case a => exact rfl); (case b => exact rfl); (case F => k_asm); (case N => k_asm); k_whole; intro _ _ _; (try k_sweep)))
  k_with "eval Name" => (k_here; k_dflt (refine' nameX_Lr ?F ?a ?b ?v ?_; (case a => exact rfl); (case b => exact rfl); (case F => k_asm); (case v => exact rfl); k_whole))
  k_with "execs cons" => (refine wpAny_execs_cons ?_; (try k_fold))
  k_with "subscriptTail" => (k_here; (with_reducible show wpAny _ _ (subscriptTail _ (Expr.Slice _ _ none _) (Value.bytes _ _) (Value.ref _)) _ _ _); (with_reducible rename Fr _ _ _ _ => F'); (with_reducible rename News _ _ _ _ => N'); (refine ap_slice (s := ⟨_, _, _, _, _⟩) F' N' (by kby_idx) (by kby_idx) ?_); intro _ _ _ _ _)
  k_with "binaryOp Add bytes bytes" => (k_here; refine ap_add (by assumption) ?_; intro _ _)
  k_with "exec While Name" => k_while_given ["num!"] (fun n₀ _ num val => ApInv n₀ num val) (fun _ _ num _ => num.toNat) "num" "val"
  trivial
noncomputable def StrP (x : Str) (news : List (Addr × Obj)) (v : Value) (news' : List (Addr × Obj)) : Prop := (∃ t, v = .str x t) ∧ news' = news
noncomputable def IntP (x : Int) (news : List (Addr × Obj)) (v : Value) (news' : List (Addr × Obj)) : Prop := (∃ t, v = .int x t) ∧ news' = news
noncomputable def BytesP (x : Array UInt8) (news : List (Addr × Obj)) (v : Value) (news' : List (Addr × Obj)) : Prop := (∃ t, v = .bytes x t) ∧ news' = news
section
variable {h₀ h' : Heap} {L : Addr} {m : Str → Option Value} {s : Shared} {Q : Value → Shared → Prop} {tk' : Nat} {t : Tok} {news : List (Addr × Obj)}
theorem fin_str {x y : Str} (hret : ∀ v news' h' tk', StrP x news v news' → Fr h₀ L h' m → News h₀ L h' news' → Q v { s with heap := h', toks := tk' })
    (e : y = x) (F : Fr h₀ L h' m) (N : News h₀ L h' news) : Q (.str y t) { heap := h', gens := s.gens, drawn := s.drawn, toks := tk', os := s.os } := hret _ _ _ _ ⟨⟨t, by rw [e]⟩, rfl⟩ F N
theorem fin_int {x y : Int} (hret : ∀ v news' h' tk', IntP x news v news' → Fr h₀ L h' m → News h₀ L h' news' → Q v { s with heap := h', toks := tk' })
    (e : y = x) (F : Fr h₀ L h' m) (N : News h₀ L h' news) : Q (.int y t) { heap := h', gens := s.gens, drawn := s.drawn, toks := tk', os := s.os } := hret _ _ _ _ ⟨⟨t, by rw [e]⟩, rfl⟩ F N
theorem fin_bytes {x y : Array UInt8} (hret : ∀ v news' h' tk', BytesP x news v news' → Fr h₀ L h' m → News h₀ L h' news' → Q v { s with heap := h', toks := tk' })
    (e : y = x) (F : Fr h₀ L h' m) (N : News h₀ L h' news) : Q (.bytes y t) { heap := h', gens := s.gens, drawn := s.drawn, toks := tk', os := s.os } := hret _ _ _ _ ⟨⟨t, by rw [e]⟩, rfl⟩ F N
end
theorem int2ap (w : World) (n : Int) (tk : Tok) (news : List (Addr × Obj)) (h0 : 0 ≤ n) (h1 : n < 256) :
   Spec w 182 [.int n tk] news (BytesP (apB n) news) := by
  unfold Spec SpecK
  k_fill
  intro p loose mean mg mb cn cs a ccd cl outer A₀ base h₀ L m s Q E B F X N T hk hret
  refine wpAny_call ?_
  w_strict (k_dflt cell_enter)
  k_with "state" => (first | exact ApInv.start (by split <;> omega) (by split <;> omega) | exact ApInv.step (by assumption) (by assumption))
  k_with "measure" => (have hp := ApInv.pos (by assumption); rw [(fdm _).1]; omega)
  k_steps
  rename ApInv _ _ _ => hI
  refine fin_bytes hret ?e ?F ?N <;> try assumption
  rw [hI.last (by assumption), show (if n < 0 then -n else n) = n by split <;> omega]

noncomputable def numOf (l : List Int) : Int := l.foldl (fun (a : Int) (c : Int) => 16 * a + c - 65) 0
theorem numOf_snoc (l : List Int) (c : Int) : numOf (l ++ [c]) = 16 * numOf l + c - 65 := by simp [numOf]
theorem number (w : World) (x : Str) (tk : Tok) (news : List (Addr × Obj)) :
   Spec w 276 [.str x tk] news (IntP (numOf (KStt.codes x)) news) := by
  unfold Spec SpecK
  k_fill
  intro p loose mean mg mb cn cs a ccd cl outer A₀ base h₀ L m s Q E B F X N T hk hret
  refine wpAny_call ?_
  w_strict (k_dflt cell_enter)
  k_with "pyIter str" => k_state (fun pre n => n = numOf pre) "number"
  k_with "state" => (first | rfl | (rw [numOf_snoc]; omega))
  k_steps
  refine fin_int hret ?e ?F ?N <;> assumption

@[irreducible] noncomputable def Lw (n : Int) : Str := if n = 0 then ⟨#[]⟩ else if n < 16 then ⟨#[65 + n.toNat]⟩ else ⟨#[65 + (n / 16).toNat, 65 + (n % 16).toNat]⟩
noncomputable def lettersOf (n : Int) : Str := Txt.lstripChars ((⟨#[(65 + n.fdiv 16).toNat]⟩ : Str) ++ (⟨#[(65 + n.fmod 16).toNat]⟩ : Str)) (Str.ofString "A")
theorem below_all {P : Int → Prop} (k : Nat) (h : ∀ i : Fin k, P (i.val : Int)) (n : Int) (h0 : 0 ≤ n) (h1 : n < k) : P n := by
  have := h ⟨n.toNat, by omega⟩
  simpa [Int.toNat_of_nonneg h0] using this
theorem letters_is {n : Int} (h0 : 0 ≤ n) (h1 : n < 151) : lettersOf n = Lw n :=
  below_all (P := fun n => lettersOf n = Lw n) 151 (by decide +kernel) n h0 h1
theorem numOf_Lw {n : Int} (h0 : 0 ≤ n) (h1 : n < 151) : numOf (KStt.codes (Lw n)) = n :=
  below_all (P := fun n => numOf (KStt.codes (Lw n)) = n) 151 (by decide +kernel) n h0 h1
theorem letters (w : World) (n : Int) (tk : Tok) (news : List (Addr × Obj)) (h0 : 0 ≤ n) (h1 : n < 151) :
   Spec w 257 [.int n tk] news (StrP (Lw n) news) := by
  unfold Spec SpecK
  k_fill
  intro p loose mean mg mb cn cs a ccd cl outer A₀ base h₀ L m s Q E B F X N T hk hret
  refine wpAny_call ?_
  w_strict (k_dflt cell_enter)
  k_steps
  refine fin_str hret (letters_is h0 h1) ?F ?N <;> assumption

open PySem PySem.W PyProof.Rows
section
variable {prog : Program} {w : World} {A : Around} {E : Value → Shared → Prop} {s₁ : Shared} {h₀ : Heap} {L : Addr} {m : Str → Option Value} {news : List (Addr × Obj)}
theorem paired_strs {f : Nat → Str} : ∀ {vs ys : List Value} {cs : List Nat}, Paired (fun v r => ∃ c u t, v = Value.str ⟨#[c]⟩ u ∧ r = Value.str (f c) t) vs ys → (∀ (i : Nat) (v : Value), vs[i]? = some v → ∃ c u, cs[i]? = some c ∧ v = Value.str ⟨#[c]⟩ u) → vs.length = cs.length → StrsAre ys (cs.map f)
  | [], _, [], .nil, _, _ => .nil
  | v :: vs, r :: ys, c :: cs, .cons h hr, ha, hl => by
    obtain ⟨c1, u1, e1, e2⟩ := ha 0 v rfl
    obtain ⟨c2, u2, t2, e3, e4⟩ := h
    cases e1
    subst e2 e4
    cases e3
    exact .cons _ _ (paired_strs hr (fun i v hi => ha (i + 1) v (by simpa using hi)) (by simpa using hl))
  | _ :: _, _, [], _, _, hl => by simp at hl
  | [], _, _ :: _, _, _, hl => by simp at hl
theorem src_signs1 {env : Env} {elt : Expr} {x : Str} {scope : Scope} {Q : Value → Shared → Prop} {y : Str} {t : Tok} {f : Nat → Str}
    (hh : A.handled = none) (F : Fr h₀ L s₁.heap m) (N : News h₀ L s₁.heap news) (hsz : y.cps.size ≤ sizeLine)
    (g2 : ∀ C c u s₂ m₂ E', s₂.heap.Ns (compEnv scope C env).locals m₂ → m₂ x = some (.str ⟨#[c]⟩ u) → wpAny (model prog w) A (eval elt (compEnv scope C env)) (fun r s₃ => (∃ t, r = .str (f c) t) ∧ Keeps s₂ s₃) E' s₂)
    (g3 : ∀ D (ys : List Value) h' tk, Fr h₀ L h' m → News h₀ L h' news → h'.IsList D ys.toArray → StrsAre ys (y.cps.toList.map f) → Q (.ref D) { s₁ with heap := h', toks := tk }) :
    wpAny (model prog w) A (pyIter (.str y t)) (CompPost prog w A env scope x [] elt Q) E s₁ := by
  unfold CompPost
  refine wpAny_pyIter_str fun o St W hst => ?_
  refine ⟨fun _ => true, fun v r => ∃ c u t, v = .str ⟨#[c]⟩ u ∧ r = .str (f c) t, s₁.heap.objs.size, [s₁.heap.objs.size], [s₁.heap.objs.size], y.cps.size, SignAt y, St, rfl, W A hh, hsz, hst, ?_, ⟨?_, ?_⟩, ?_⟩
  · intro b hb
    rw [List.mem_singleton.mp hb]
    show _ < (s₁.heap.push o).objs.size
    rw [Heap.size_push]; exact Nat.lt_succ_self _
  · intro C i v s₃ m₃ E' _ _ _ _ _
    exact wpAny_pure ⟨rfl, _, _, rfl, fun _ _ e => e⟩
  · intro C i v s₃ m₃ E' hP _ hn hm _ _
    obtain ⟨c, u, _, rfl⟩ := hP
    exact wpAny_mono (g2 C c u s₃ m₃ E' hn hm) (fun r s₄ h => ⟨let ⟨t, e⟩ := h.1; ⟨c, u, t, rfl, e⟩, h.2⟩) fun _ _ e => e
  · intro D h' tk ys vs hnew hlD hplD hlen hP hF hk
    have up : ∀ b o', s₁.heap.get? b = some o' → h'.get? b = some o' := fun b o' e => hk b o' (old_not_new e) (Heap.get?_push_of_some _ e)
    rw [List.filter_eq_self.mpr (fun _ _ => rfl)] at hF
    refine g3 D ys.toList h' tk (F.keeps up) (N.grown up) (by rw [Array.toArray_toList]; exact hlD) (paired_strs hF (fun i v hi => ?_) (by rw [hlen]; simp))
    obtain ⟨c, u, e1, e2⟩ := hP i v hi
    exact ⟨c, u, by simpa using e1, e2⟩
end
noncomputable def escOf (x : Str) : Str := Txt.join (Str.ofString "") (x.cps.toList.map fun c => Str.ofString "\\" ++ (⟨#[c]⟩ : Str))
theorem esc_fit {x : Str} (h : x.length ≤ 2) : ((x.cps.toList.map fun c => Str.ofString "\\" ++ (⟨#[c]⟩ : Str)).map (·.length)).sum + (x.cps.toList.map fun c => Str.ofString "\\" ++ (⟨#[c]⟩ : Str)).length * (Str.ofString "").length ≤ 16777216 := by
  obtain ⟨⟨l⟩⟩ := x
  match l, h with
  | [], _ => decide
  | [c], _ => show 2 + 1 * 0 ≤ _; omega
  | [c, d], _ => show (2 + (2 + 0)) + 2 * 0 ≤ _; omega
  | _ :: _ :: _ :: _, h => exact absurd h (by show ¬ (_ + 1 + 1 + 1 ≤ 2); omega)
theorem rowsA2 : True := by
  k_with_none
  k_with "storeName" => (k_here; k_dflt (refine' storeX_Lr ?F ?N ?a ?b ?_; (case a => exact rfl); (case b => exact rfl); (case F => k_asm); (case N => k_asm); k_whole; intro _ _ _; (try k_sweep)))
  k_with "eval Name" => (k_here; k_dflt (refine' nameX_Lr ?F ?a ?b ?v ?_; (case a => exact rfl); (case b => exact rfl); (case F => k_asm); (case v => exact rfl); k_whole))
  k_with "execs cons" => (refine wpAny_execs_cons ?_; (try k_fold))
  k_with "pyIter str" => k_dflt ((rename Fr _ _ _ _ => F'); (rename News _ _ _ _ => N'); refine src_signs1 (f := fun c => Str.ofString "\\" ++ (⟨#[c]⟩ : Str)) (by with_unfolding_all rfl) F' N' ?hsz ?g2 ?g3; (case hsz => exact Nat.le_trans (by assumption) (by decide)); (case' g3 => intros); (case g2 => (intros; (repeat' (first | exact ⟨⟨_, rfl⟩, _, _, rfl, fun _ _ e => e⟩ | walk1)))))
  k_with "call builtin:str.join" => k_dflt (refine join_list (by assumption) (by assumption) (esc_fit (by assumption)) ?_; intro _ _)
  trivial
@[irreducible] noncomputable def spellOf (x : Str) (way : Int) : Str := if way = 1 then Str.ofString "\"" ++ x ++ Str.ofString "\"" else if way = 2 then escOf x else if way = 3 then Str.ofString "\"\\" ++ x ++ Str.ofString "\"" else x
theorem spelled (w : World) (x : Str) (way : Int) (tk tk2 : Tok) (news : List (Addr × Obj)) (hx : x.length ≤ 2) :
   Spec w 262 [.str x tk, .int way tk2] news (StrP (spellOf x way) news) := by
  unfold Spec SpecK
  k_fill
  intro p loose mean mg mb cn cs a ccd cl outer A₀ base h₀ L m s Q E B F X N T hk hret
  refine wpAny_call ?_
  w_strict (k_dflt cell_enter)
  k_steps
  all_goals (refine fin_str hret ?e ?F ?N; (case F => assumption); (case N => assumption); (case e => simp_all [spellOf, escOf]))

open PySem PySem.W PyProof.Rows PySem.Calls
theorem plainAttrs_rep : PlainAttrs "re.Pattern" :=
  ⟨⟨"object.__getattribute__", by rw [typeLookup_type, builtinLookup_eq_fast]; kernel_rfl, by decide +kernel⟩, by rw [typeLookup_type, builtinLookup_eq_fast]; kernel_rfl⟩
theorem slot_rep_search : Slot "re.Pattern" "search" "re.Pattern.search" :=
  .of (owner := "re.Pattern") (n := "search") (by rw [typeLookup_type, builtinLookup_eq_fast]; kernel_rfl) (by decide +kernel) (by decide +kernel) (by decide +kernel)
    (by first | exact .inl (by decide +kernel) | exact .inr (by decide +kernel)) (by rw [isSubtype_type]; kernel_rfl)
theorem type_rep_search : typeOf (.builtin "re.Pattern.search") = pure (.type "method_descriptor") := by show builtinType _ = _; rw [builtinType_eq_fast]; kernel_rfl
theorem entry_rep_search : entryFor table "re.Pattern.search" = some Builtin.«re.Pattern.search» := entryFor_of_tree (by kernel_rfl)
theorem owner_rep : Manifest.owners.lookup (String.ofList ['n', 'r', 'e', 't', 't', 'a', 'P', '.', 'e', 'r'].reverse) = some Manifest.«sig_re_Pattern» := by kernel_rfl
theorem args_rep_search (a b : Value) : argsOk "re.Pattern.search" ⟨[a, b], []⟩ := by
  unfold argsOk; rw [signature?_of (id := "re.Pattern.search") (n := ['h', 'c', 'r', 'a', 'e', 's']) (o := ['n', 'r', 'e', 't', 't', 'a', 'P', '.', 'e', 'r']) (by kernel_rfl) owner_rep]; kernel_rfl
open PySem.Builtin PySem.Builtin.Re in
noncomputable def failsM (m : Sre.M) : Bool := match reDrive (2 ^ 64) (m) with
  | .pure m => (match m.outcome with | some .failed => true | _ => false)
  | .rule _ k => (match k () with | .pure m => (match m.outcome with | some .failed => true | _ => false) | _ => false)
  | _ => false
section
open PySem.Builtin PySem.Builtin.Re
variable {prog : Program} {w : World} {A : Around} {E : Value → Shared → Prop} {s : Shared} {Q : Value → Shared → Prop}
theorem failed_runs {m : Sre.M} {Q : Option Sre.M → Shared → Prop} (hf : failsM m = true) (h : Q none s) : wpAny (model prog w) A (reRunToEnd m) Q E s := by
  have go : wpAny (model prog w) A (reDrive (2 ^ 64) m) (fun m s' => s' = s ∧ ∃ o, m.outcome = some o ∧ o = .failed) E s := by
    unfold failsM at hf
    split at hf
    · rename_i m' e
      rw [e]
      split at hf
      · rename_i e'; exact wpAny_pure ⟨rfl, _, e', rfl⟩
      · cases hf
    · rename_i tag k e
      rw [e]
      split at hf
      · rename_i m' e2
        split at hf
        · rename_i e'
          refine X.x_rule ?_
          rw [e2]; exact wpAny_pure ⟨rfl, _, e', rfl⟩
        · cases hf
      · cases hf
    · cases hf
  unfold reRunToEnd
  refine wpAny_bind (wpAny_mono go (fun m' s' hm => ?_) fun _ _ e => e)
  obtain ⟨rfl, o, ho, rfl⟩ := hm
  have loop : ∀ (l : List Nat) (Q : PUnit → Shared → Prop), Q ⟨⟩ s' → wpAny (model prog w) A (forIn l PUnit.unit fun i _ => do
      if m'.seen.has i = true then do rule (Sre.names.getD i ""); pure (ForInStep.yield PUnit.unit) else pure (ForInStep.yield PUnit.unit)) Q E s' := by
    intro l
    induction l with
    | nil => intro Q hQ; exact wpAny_pure hQ
    | cons a l ih =>
      intro Q hQ
      rw [List.forIn_cons]
      refine wpAny_bind ?_
      split
      · exact wpAny_bind (wpAny_rule (wpAny_pure (ih Q hQ)))
      · exact wpAny_pure (ih Q hQ)
  refine wpAny_bind (loop _ _ ?_)
  rw [ho]
  exact wpAny_pure h
noncomputable def reCode (its : Array Value) : Array Nat := (its.map reRawOf).map (·.toNat)
theorem search_none {p c : Addr} {d d' : Option Addr} {sl sl' : Array (Option Value)} {f0 f1 f2 f3 f4 f6 : Value} {its : Array Value} {n : Nat} {x : Str} {t : Tok}
    (ho : s.heap.get? p = some ⟨.type "re.Pattern", d, .fields #[f0, f1, f2, f3, f4, .ref c, f6], sl⟩) (hd : d = none) (h6 : reRawNat f6 = 0)
    (hc : s.heap.get? c = some ⟨.type "tuple", d', .seq its n, sl'⟩)
    (hf : failsM (Sre.forSearch (reCode its) x.cps (reRawNat f2) (min (0 : Int).toNat x.cps.size) (min ((2 ^ 63 - 1 : Int)).toNat x.cps.size) false) = true) (h : Q .none s) :
    wpAny (model prog w) A (call (.builtin "re.Pattern.search") [.ref p, .str x t]) Q E s := by
  refine wpAny_call_entry slot_rep_search ⟨_, ho, rfl⟩ entry_rep_search ?_ (args_rep_search _ _)
  show wpAny _ _ (reTarget "re.Pattern.search" "search" ⟨[.ref p, .str x t], []⟩ >>= fun t => _) _ _ _
  refine wpAny_bind ?_
  unfold reTarget
  have e : reNamed "re.Pattern.search" "search" ["string", "pos", "endpos"] 1 [.str x t] [] = pure [some (.str x t), none, none] := by rfl
  dsimp only
  rw [e]
  refine wpAny_bind (wpAny_pure ?_)
  dsimp only
  refine wpAny_bind (wpAny_pure ?_)
  refine wpAny_bind (wpAny_pure ?_)
  refine wpAny_bind (wpAny_fieldsOf ho rfl ?_)
  refine wpAny_bind (wpAny_of_eq (a := (x.cps, 0)) (by rfl) ?_)
  dsimp only
  have g6 : (#[f0, f1, f2, f3, f4, Value.ref c, f6] : Array Value).getD 6 .none = f6 := rfl
  rw [g6, h6]
  refine wpAny_ite (W.ite_neg (by decide) ?_)
  refine wpAny_ite (W.ite_neg (by decide) ?_)
  refine wpAny_bind (wpAny_of_eq (a := ()) (by rfl) ?_)
  refine wpAny_bind ?_
  unfold reRawItems
  refine wpAny_bind (wpAny_seqItems hc rfl ?_)
  refine wpAny_pure ?_
  refine wpAny_pure ?_
  unfold reAnswer
  refine wpAny_bind (failed_runs hf ?_)
  exact wpAny_pure ⟨_, rfl, h⟩
end

open PySem PySem.W PyProof.Rows PySem.Calls PySem.Builtin PySem.Builtin.Re
@[irreducible] noncomputable def Nm (k : Nat) : Str := ⟨(List.replicate k 120).toArray⟩
noncomputable def codeN : Array Nat := #[14, 10, 4, 1, 1, 22, 0, 31, 16, 127, 0, 13, 7, 22, 0, 31, 16, 127, 0, 1]
noncomputable def codeV : Array Nat := #[14, 14, 4, 1, 1, 9, 4294966783, 0, 0, 2147483648, 0, 0, 0, 0, 0, 13, 11, 9, 4294966783, 0, 0, 2147483648, 0, 0, 0, 0, 0, 1]
@[irreducible] noncomputable def quietBy (code : Array Nat) (x : Str) : Bool := failsM (Sre.forSearch code x.cps 0 (min (0 : Int).toNat x.cps.size) (min ((2 ^ 63 - 1 : Int)).toNat x.cps.size) false)
theorem quiet_words {n : Int} (h0 : 0 ≤ n) (h1 : n < 151) : quietBy codeV (Lw n) = true :=
  below_all (P := fun n => quietBy codeV (Lw n) = true) 151 (by decide +kernel) n h0 h1
theorem quiet_names : ∀ {k : Nat}, k < 5 → quietBy codeN (Nm k) = true
  | 0, _ => by decide +kernel
  | 1, _ => by decide +kernel
  | 2, _ => by decide +kernel
  | 3, _ => by decide +kernel
  | 4, _ => by decide +kernel
theorem lower_names : ∀ {k : Nat}, k < 5 → Txt.lower (Nm k) = Nm k
  | 0, _ => by decide +kernel
  | 1, _ => by decide +kernel
  | 2, _ => by decide +kernel
  | 3, _ => by decide +kernel
  | 4, _ => by decide +kernel
theorem nm_inj {i j : Nat} (h : Nm i = Nm j) : i = j := by
  have := congrArg (fun x : Str => x.cps.size) h
  simpa [Nm] using this

open PySem PySem.W PyProof.Rows PySem.Calls PySem.Builtin PySem.Builtin.Re
section
variable {prog : Program} {w : World} {A : Around} {E : Value → Shared → Prop} {s : Shared} {K : Frag}
theorem re_method {p : Addr} {fs : Array Value} {pl : Sem Bool} {Q : Value × List Value → Shared → Prop} (X : K.In s.heap) (hl : K.lookup p = some ⟨.type "re.Pattern", none, .fields fs, #[]⟩) (h : Q (.builtin "re.Pattern.search", [.ref p]) s) :
    wpAny (model prog w) A (getMethod (.ref p) "search" pl) Q E s :=
  getMethod_builtin ⟨_, X _ _ hl, rfl⟩ plainAttrs_rep slot_rep_search type_rep_search (fun a e => by cases e; exact ⟨_, X _ _ hl, rfl⟩) h
theorem re_search {p c : Addr} {f0 f1 f3 f4 f6 : Value} {n : Nat} {its : Array Value} {x : Str} {t : Tok} {Q : Value → Shared → Prop} (X : K.In s.heap)
    (hl : K.lookup p = some ⟨.type "re.Pattern", none, .fields #[f0, f1, .int 0 0, f3, f4, .ref c, f6], #[]⟩) (h6 : reRawNat f6 = 0) (hc : K.lookup c = some ⟨.type "tuple", none, .seq its n, #[]⟩)
    {code : Array Nat} (he : reCode its = code) (hq : quietBy code x = true) (h : Q .none s) : wpAny (model prog w) A (call (.builtin "re.Pattern.search") [.ref p, .str x t]) Q E s :=
  by subst he; unfold quietBy at hq; exact search_none (X _ _ hl) rfl h6 (X _ _ hc) hq h
end
theorem rowsH2 : True := by
  k_with_none
  k_with "storeName" => (k_here; k_dflt (refine' storeX_Lr ?F ?N ?a ?b ?_; (case a => exact rfl); (case b => exact rfl); (case F => k_asm); (case N => k_asm); k_whole; intro _ _ _; (try k_sweep)))
  k_with "eval Name" => (k_here; k_dflt (refine' nameX_Lr ?F ?a ?b ?v ?_; (case a => exact rfl); (case b => exact rfl); (case F => k_asm); (case v => exact rfl); k_whole))
  k_with "execs cons" => (refine wpAny_execs_cons ?_; (try k_fold))
  k_with "getMethod ref" => (k_here; k_dflt (refine' re_method ?k1 ?k2 ?_; (case k1 => k_in); (case k2 => k_is); k_whole))
  k_with "call builtin:re.Pattern.search" => (k_here; (with_reducible show wpAny _ _ (call (Value.builtin _) [Value.ref 43, _]) _ _ _); k_dflt (refine' re_search (code := codeN) ?k1 ?k2 ?k3 ?k4 ?k6 ?k5 ?_; (case k1 => k_in); (case k2 => k_is); (case k3 => rfl); (case k4 => k_is); (case k6 => decide +kernel); (case k5 => assumption); k_whole))
  k_with "call builtin:re.Pattern.search" => (k_here; (with_reducible show wpAny _ _ (call (Value.builtin _) [Value.ref 48, _]) _ _ _); k_dflt (refine' re_search (code := codeV) ?k1 ?k2 ?k3 ?k4 ?k6 ?k5 ?_; (case k1 => k_in); (case k2 => k_is); (case k3 => rfl); (case k4 => k_is); (case k6 => decide +kernel); (case k5 => assumption); k_whole))
  trivial
theorem convN (w : World) (x : Str) (hq : quietBy codeN x = true) (me : Value) (t : Tok) (news : List (Addr × Obj)) :
   SpecK 800 6000 w 70 [me, .str x t] [(Str.ofString "name", .bool true)] news (StrP x news) := by
  unfold SpecK
  k_fill
  intro p loose mean mg mb cn cs a ccd cl outer A₀ base h₀ L m s Q E B F X N T hk hret
  refine wpAny_call ?_
  w_strict (k_dflt cell_enter)
  k_steps
  refine fin_str hret rfl ?F ?N <;> assumption
theorem convV (w : World) (x : Str) (hq : quietBy codeV x = true) (me : Value) (t : Tok) (news : List (Addr × Obj)) :
   SpecK 800 6000 w 70 [me, .str x t] [(Str.ofString "name", .bool false)] news (StrP x news) := by
  unfold SpecK
  k_fill
  intro p loose mean mg mb cn cs a ccd cl outer A₀ base h₀ L m s Q E B F X N T hk hret
  refine wpAny_call ?_
  w_strict (k_dflt cell_enter)
  k_steps
  refine fin_str hret rfl ?F ?N <;> assumption

open PySem PySem.W PyProof.Rows PySem.Calls

noncomputable abbrev roof (dp un : Nat) (envs : List Env) : Around := { handled := none, depth := dp, frames := some envs, guards := none, units := un }
noncomputable def SpecG (dp un : Nat) (w : World) (f : Addr) (args : List Value) (kw : List (Str × Value)) (small : List (Addr × Obj)) (Post : Value → List (Addr × Obj) → Prop) : Prop :=
  ∀ (p : Program) (loose : List Str) (mean : ExcName → Option Value) (mg mb : Str → Option Value) (envs : List Env) (base g : Heap) (s : Shared) (Q E : Value → Shared → Prop),
    g = hideAll s.heap (small.map (·.1)) → (∀ p ∈ small, s.heap.get? p.1 = some p.2) → Below (roof dp un envs) base envs g → (Mine.K w.params).In g → Top p loose mean mg mb g →
    (∀ v small' L' m' h' tk', Post v small' → Fr g L' h' m' → News g L' h' small' → Q v { s with heap := h', toks := tk' }) →
    wpAny (model PySem.Challenge.rw_wj0054_01.row.prog w) (roof dp un envs) (call (.ref f) args kw) Q E s
noncomputable def AllNe (rest : List (Addr × Obj)) (x : Addr) : Prop := match rest with
  | [] => True
  | p :: r => @Ne Nat x p.1 ∧ AllNe r x
noncomputable def NewApart (rest : List (Addr × Obj)) : List (Addr × Obj) → Prop
  | [] => True
  | q :: r => AllNe rest q.1 ∧ NewApart rest r
theorem allNe_of {rest : List (Addr × Obj)} {x : Addr} (h : ∀ p ∈ rest, p.1 ≠ x) : AllNe rest x := by
  induction rest with
  | nil => trivial
  | cons p r ih => exact ⟨fun e => h p (.head _) e.symm, ih fun q hq => h q (.tail _ hq)⟩
theorem SpecG.use {dp un : Nat} {w : World} {f : Addr} {args : List Value} {kw : List (Str × Value)} {small : List (Addr × Obj)} {Post : Value → List (Addr × Obj) → Prop} (C : SpecG dp un w f args kw small Post)
    (rest : List (Addr × Obj)) {p : Program} {loose : List Str} {mean : ExcName → Option Value} {mg mb : Str → Option Value} {env : Env} {outer : List Env} {A A₀ : Around} {base h₀ : Heap} {L : Addr} {m : Str → Option Value} {s : Shared} {Q E : Value → Shared → Prop} {big : List (Addr × Obj)}
    (B : Below A₀ base outer h₀) (F : Fr h₀ L s.heap m) (X : (Mine.K w.params).In h₀) (N : News h₀ L s.heap big) (T : Top p loose mean mg mb h₀)
    (hA : A.frames = some (env :: outer)) (hf : env.frame = some L) (hke : env.scope.kind = .function) (hh : A.handled = none) (hdp : A.depth ≤ dp) (hun : A.units ≤ un)
    (hs : ∀ p ∈ small, p ∈ big) (hr : ∀ p ∈ rest, p ∈ big) (hne : ∀ p ∈ rest, ∀ q ∈ small, p.1 ≠ q.1)
    (h : ∀ v small' h' tk', Post v small' → Fr h₀ L h' m → News h₀ L h' (small' ++ rest) → NewApart rest small' → Q v { s with heap := h', toks := tk' }) :
    wpAny (model PySem.Challenge.rw_wj0054_01.row.prog w) A (call (.ref f) args kw) Q E s := by
  have Ns : News h₀ L s.heap small := fun p hp => N p (hs p hp)
  have hA' : (roof dp un (env :: outer)).frames = some (env :: outer) := rfl
  obtain ⟨FG, BG, st, _⟩ := groundX (R := fun _ _ => True) (A := roof dp un (env :: outer)) B F Ns hA' hf hke
  have main : wpAny (model PySem.Challenge.rw_wj0054_01.row.prog w) (roof dp un (env :: outer)) (call (.ref f) args kw) Q E s := by
    refine C p loose mean mg mb (env :: outer) base _ s Q E rfl (fun p hp => (Ns p hp).1) BG (X.keeps st) (T.keeps st) fun v small' L' m' h' tk' hp F' N' => ?_
    have gr : ∀ q ∈ rest, (hideAll s.heap (small.map (·.1))).get? q.1 = some q.2 := fun q hq => hideAll_get _ (N q (hr q hq)).1 fun hm => by
      obtain ⟨z, hz, e⟩ := List.mem_map.mp hm
      exact hne q hq z hz e.symm
    obtain ⟨oL, es, ep, hL, hLd, hLk, hLf⟩ := FG.ns
    refine h v small' h' tk' hp ⟨⟨oL, es, ep, F'.keep L oL hL, hLd, hLk, hLf⟩, fun b o e => F'.keep b o (st b o e), F.above⟩ (fun q hq => ?_) ?_
    · rcases List.mem_append.mp hq with hq | hq
      · refine ⟨(N' q hq).1, fun e => ?_, ?_⟩
        · have := (N' q hq).2.2; rw [e, hL] at this; cases this
        · cases z : h₀.get? q.1 with
          | none => rfl
          | some o => have := (N' q hq).2.2; rw [st _ _ z] at this; cases this
      · exact ⟨F'.keep _ _ (gr q hq), (N q (hr q hq)).2⟩
    · clear hp
      induction small' with
      | nil => trivial
      | cons z zs ih =>
        refine ⟨allNe_of fun q hq e => ?_, ih fun q hq => N' q (.tail _ hq)⟩
        have := (N' z (.head _)).2.2
        rw [← e, gr q hq] at this; cases this
  exact fun Γ q hΓ => main Γ q ⟨hΓ.1.trans hh, Nat.le_trans hΓ.2.1 hdp, fun l e => hΓ.2.2.1 l (hA.trans e), fun _ e => (nomatch e), Nat.le_trans hΓ.2.2.2.2 hun⟩
noncomputable def LeaveS (g : Heap) (R : Value → List (Addr × Obj) → Shared → Prop) (v : Value) (s' : Shared) : Prop :=
  ∃ L' m' small', Fr g L' s'.heap m' ∧ News g L' s'.heap small' ∧ R v small' s'
theorem leaveS_ {g : Heap} {R : Value → List (Addr × Obj) → Shared → Prop} {v : Value} {s' : Shared} {L' : Addr} {m' : Str → Option Value} {small' : List (Addr × Obj)} (F' : Fr g L' s'.heap m') (N' : News g L' s'.heap small') (h : R v small' s') : LeaveS g R v s' := ⟨L', m', small', F', N', h⟩
theorem call_S {prog : Program} {w : World} {dp un : Nat} {envs : List Env} {s : Shared} {g base : Heap} {small : List (Addr × Obj)} {K : Frag} {Post : Value → List (Addr × Obj) → Prop} {Q E : Value → Shared → Prop}
    {p : Program} {loose : List Str} {mean : ExcName → Option Value} {mg mb : Str → Option Value}
    {name qual : Str} {params : Arguments} {body : List Stmt} {scope : Scope} {dV kV doc pm cdv ct oc : Value} {an od : Option Addr} {osl : Array (Option Value)} {f : Addr} {args : List Value} {kw : List (Str × Value)} {binds : List (Str × Value)}
    (hg : g = hideAll s.heap (small.map (·.1))) (hsm : ∀ p ∈ small, s.heap.get? p.1 = some p.2) (_B : Below (roof dp un envs) base envs g) (X : K.In g) (T : Top p loose mean mg mb g)
    (hret : ∀ v small' L' m' h' tk', Post v small' → Fr g L' h' m' → News g L' h' small' → Q v { s with heap := h', toks := tk' })
    (ho : K.lookup f = some ⟨oc, od, .func (fnOf name qual params body scope dV kV doc pm an cdv ct), osl⟩) (hcd : codeIn K cdv qual = true) (hroom : dp < recursionLimit)
    (hbind : BindsTo s (fnOf name qual params body scope dV kV doc pm an cdv ct) ⟨args, kw⟩ binds) (hloc : ∀ y ∈ binds, scope.names.lookup y.1 = some .local)
    (h : ∀ L' h₁, Fr g L' h₁ (fun y => binds.reverse.lookup y) → News g L' h₁ small →
      wpAny (model prog w) ((roof dp un envs).deeper (envOf qual scope L' f cdv)) (execs body (envOf qual scope L' f cdv))
        (fun fl s' => LeaveS g (fun v small' s' => Post v small' ∧ s'.gens = s.gens ∧ s'.drawn = s.drawn ∧ s'.os = s.os) (match fl with | .ret v => v | _ => .none) s')
        (fun _ _ => False)
        { s with heap := h₁, toks := s.toks + binds.length })
    (hco : scope.isCoroutine = false) (hgen : scope.isGenerator = false) (hk : scope.kind = .function)
    (hcell : ∀ x ∈ scope.names, x.2 ≠ .cell) : wpAny (model prog w) (roof dp un envs) (call (.ref f) args kw) Q E s := by
  subst hg
  have gs : ∀ {b : Addr} {o : Obj}, (hideAll s.heap (small.map (·.1))).get? b = some o → s.heap.get? b = some o := fun e => of_hideAll _ e
  have hcd' := codeRec_of X hcd
  refine wpAny_call (codeAny_call_def (fd := fnOf name qual params body scope dV kV doc pm an cdv ct) (body := body) (binds := binds) hroom (gs (X _ _ ho)) rfl (T.nolimit.keeps fun b o e => gs e) ?_ rfl hbind hcell hloc (fun h₁ hns hk₁ => ?_) hco hgen hk)
  · obtain ⟨a, o, vs, r, e1, e2, e3, e4⟩ := hcd'
    exact ⟨a, o, vs, r, e1, gs e2, e3, e4⟩
  · refine wpAny_mono (h s.heap.objs.size h₁ ⟨hns, fun b o e => hk₁ b o (gs e), Nat.le_of_eq (hideAll_size _ _)⟩
      (fun q hq => ⟨hk₁ _ _ (hsm q hq), Nat.ne_of_lt (Heap.lt_size (hsm q hq)), hideAll_none _ (List.mem_map_of_mem hq)⟩)) (fun fl s' hl => ?_) fun _ _ y => y.elim
    obtain ⟨L', m', small', F', N', hp, e1, e2, e3⟩ := hl
    have := hret _ small' L' m' s'.heap s'.toks hp F' N'
    rw [← e1, ← e2, ← e3] at this
    exact this

open PySem PySem.W PyProof.Rows PySem.Calls
section
variable {prog : Program} {w : World} {A : Around} {E : Value → Shared → Prop} {s : Shared} {env : Env} {h₀ : Heap} {target : Expr} {body : List Stmt} {Q : Flow → Shared → Prop}
noncomputable def StepJ (h₀ : Heap) (L I : Addr) (oI : Obj) (J : (Str → Option Value) → List (Addr × Obj) → Prop) (s₁ : Shared) (Q : Flow → Shared → Prop) (f : Flow) (s₂ : Shared) : Prop := match f with
  | .ret v => Q (.ret v) s₂
  | .brk => Q .next s₂
  | _ => ∃ h' tk m' n', s₂ = { s₁ with heap := h', toks := tk } ∧ Fr h₀ L h' m' ∧ News h₀ L h' ((I, oI) :: n') ∧ (∀ p ∈ n', p.1 ≠ I) ∧ J m' n'
theorem turnsJ {I ax : Addr} {lo : Obj} {n : Nat} {P Md : Nat → Value → Heap → Prop} {St : Nat → Heap → Prop} {news : List (Addr × Obj)} {m₀ : Str → Option Value} {icls : String}
    (W : KTurns prog w A target I [I, ax] [I] n P Md St) (F : Fr h₀ env.locals s.heap m₀) (N : News h₀ env.locals s.heap news) (st : St 0 s.heap) (hI : ∀ p ∈ news, p.1 ≠ I) (hIn : h₀.get? I = none) (hL : env.locals ≠ I) (hax : (ax, lo) ∈ news)
    (ho : ∀ i h, St i h → ∃ o, h.get? I = some o ∧ o.cls = .type icls)
    (J : Nat → (Str → Option Value) → List (Addr × Obj) → Prop) (hJ : ∀ i m' n', J i m' n' → (ax, lo) ∈ n') (start : J 0 m₀ news)
    (step : ∀ i v m₁ n₁ h₁ tk₁ oI, i < n → P i v h₁ → J i m₁ n₁ → (∀ p ∈ n₁, p.1 ≠ I) → oI.cls = .type icls → Fr h₀ env.locals h₁ m₁ → News h₀ env.locals h₁ ((I, oI) :: n₁) →
      wpAny (model prog w) A (assign target env v) (fun _ s₃ => wpAny (model prog w) A (execs body env) (StepJ h₀ env.locals I oI (J (i + 1)) { s with heap := h₁, toks := tk₁ } Q) E s₃) E { s with heap := h₁, toks := tk₁ })
    (done : ∀ m' n' h' tk, J n m' n' → Fr h₀ env.locals h' m' → News h₀ env.locals h' n' → Q .next { s with heap := h', toks := tk }) :
    TurnsAt prog w A h₀ env target body Q E (.ref I) s := by
  have hax' := N _ hax
  refine ⟨I, _, _, n, P, Md, St, m₀, news, J, rfl, W, ?_, ?_, ?_, st, F, N, start, ?_, ?_⟩
  · intro hm
    rcases List.mem_cons.mp hm with e | hm
    · exact hL e
    · exact hax'.2.1 (List.mem_singleton.mp hm).symm
  · intro b hb
    rw [List.mem_singleton.mp hb]; exact hIn
  · intro p hp hm
    exact hI p hp (List.mem_singleton.mp hm)
  · intro i v m₁ n₁ h₁ tk₁ own hi hP hj hoff ho1 ho2 ho3 st₁ F₁ N₁
    obtain ⟨oI, hoI, hc⟩ := ho _ _ st₁
    have hIn1 : (I, oI) ∈ own := ho3 I (List.mem_cons_self ..) hIn oI hoI
    have hoff1 : ∀ p ∈ n₁, p.1 ≠ I := fun p hp e => hoff p hp (List.mem_singleton.mpr e)
    refine wpAny_mono (step i v m₁ n₁ h₁ tk₁ oI hi hP hj hoff1 hc F₁ (fun p hp => ?_)) (fun _ s₃ h₃ => wpAny_mono h₃ (fun f s₄ h₄ => ?_) fun _ _ e => e) fun _ _ e => e
    · rcases List.mem_cons.mp hp with rfl | hp
      · exact N₁ _ (List.mem_append_left _ hIn1)
      · exact N₁ _ (List.mem_append_right _ hp)
    · have fin : (∃ h' tk m' n', s₄ = { s with heap := h', toks := tk } ∧ Fr h₀ env.locals h' m' ∧ News h₀ env.locals h' ((I, oI) :: n') ∧ (∀ p ∈ n', p.1 ≠ I) ∧ J (i + 1) m' n') → LoopStepU h₀ env.locals [I] own (J (i + 1)) { s with heap := h₁, toks := tk₁ } .next s₄ := by
        rintro ⟨h', tk, m', n', rfl, F', N', ha, hj'⟩
        refine ⟨rfl, h', tk, m', n', rfl, F', fun p hp => ?_, fun p hp hm => ha p hp (List.mem_singleton.mp hm), hj'⟩
        rcases List.mem_append.mp hp with hp | hp
        · have h1 := ho2 p hp
          have h2 := ho1 p hp
          rcases List.mem_cons.mp h2 with e | e
          · have : p = (I, oI) := by
              obtain ⟨a, o⟩ := p
              dsimp only at e h1; subst e
              rw [hoI] at h1; rw [Option.some.inj h1]
            rw [this]; exact N' _ (List.mem_cons_self ..)
          · have e := List.mem_singleton.mp e
            have h3 := (N₁ _ (List.mem_append_right _ (hJ _ _ _ hj))).1
            have : p = (ax, lo) := by
              obtain ⟨a, o⟩ := p
              dsimp only at e h1 h3; subst e
              rw [h3] at h1; rw [Option.some.inj h1]
            rw [this]; exact N' _ (List.mem_cons_of_mem _ (hJ _ _ _ hj'))
        · exact N' _ (List.mem_cons_of_mem _ hp)
      cases f with
      | ret v => exact h₄
      | brk => exact h₄
      | next => exact fin h₄
      | cont => exact fin h₄
  · intro h' tk m' n' F' N' _ hj
    exact done m' n' h' tk hj F' N'
theorem iterJ_list {ax : Addr} {lo : Obj} {vs : List Value} {c : Nat} {m₀ : Str → Option Value} {news : List (Addr × Obj)}
    (hh : A.handled = none) (F : Fr h₀ env.locals s.heap m₀) (N : News h₀ env.locals s.heap news) (hm : (ax, lo) ∈ news) (hc : lo.cls = .type "list") (hd : lo.data = .seq vs.toArray c)
    (J : Nat → (Str → Option Value) → List (Addr × Obj) → Prop) (hJ : ∀ i m' n', J i m' n' → (ax, lo) ∈ n') (start : J 0 m₀ news)
    (step : ∀ I i v m₁ n₁ h₁ tk₁ oI, (∀ p ∈ news, p.1 < I) → i < vs.length → vs[i]? = some v → J i m₁ n₁ → (∀ p ∈ n₁, p.1 ≠ I) → oI.cls = .type "list_iterator" → Fr h₀ env.locals h₁ m₁ → News h₀ env.locals h₁ ((I, oI) :: n₁) →
      wpAny (model prog w) A (assign target env v) (fun _ s₃ => wpAny (model prog w) A (execs body env) (StepJ h₀ env.locals I oI (J (i + 1)) { s with heap := h₁, toks := tk₁ } Q) E s₃) E { s with heap := h₁, toks := tk₁ })
    (done : ∀ m' n' h' tk, J vs.length m' n' → Fr h₀ env.locals h' m' → News h₀ env.locals h' n' → Q .next { s with heap := h', toks := tk }) :
    wpAny (model prog w) A (pyIter (.ref ax)) (fun it s₂ => TurnsAt prog w A h₀ env target body Q E it s₂) E s := by
  have hax := N _ hm
  have hl : s.heap.IsList ax vs.toArray := ⟨lo, hax.1, hc, c, hd⟩
  have hlt : ax < s.heap.objs.size := Heap.lt_size hax.1
  have hne : ax ≠ s.heap.objs.size := Nat.ne_of_lt hlt
  have hlt' : ∀ p ∈ news, p.1 < s.heap.objs.size := fun p hp => Heap.lt_size (N p hp).1
  refine wpAny_pyIter_list hl ?_
  have W := KTurns.ofWalks (target := target) (Walks.list (prog := prog) (w := w) hh s.heap.objs.size ax hne vs.toArray) fun i v s Q E st q => letGo_listiter st.1 q
  have hz : vs.toArray.size = vs.length := by simp
  rw [hz] at W
  refine turnsJ (icls := "list_iterator") W (F.push _) (fun p hp => ⟨Heap.get?_push_of_some _ (N p hp).1, (N p hp).2⟩) ⟨⟨_, Heap.get?_push_size _ rfl, rfl, rfl⟩, hl.at fun o e => Heap.get?_push_of_some _ e⟩
    (fun p hp e => absurd (hlt' p hp) (e ▸ Nat.lt_irrefl _)) (next_is_new F) (fun e => absurd F.ns.lt (e ▸ Nat.lt_irrefl _)) hm (fun i h st => by obtain ⟨it, hit, hic, _⟩ := st.1; exact ⟨it, hit, hic⟩) J hJ start
    (fun i v m₁ n₁ h₁ tk₁ oI hi hP hj hoff hc F₁ N₁ => step _ i v m₁ n₁ h₁ tk₁ oI hlt' hi (by have hP' : vs.toArray[i]? = some v := hP; simpa using hP') hj hoff hc F₁ N₁) done
theorem iterJ_keys {K : Type} [DecidableEq K] {knd : KeyKind prog w K} {d : Addr} {od : Obj} {kvs : List (K × Value)} {m₀ : Str → Option Value} {news : List (Addr × Obj)}
    (hh : A.handled = none) (F : Fr h₀ env.locals s.heap m₀) (N : News h₀ env.locals s.heap news) (hm : (d, od) ∈ news) (hd : od.IsDictOf knd kvs) (lo : (d == sysModules) = false)
    (J : Nat → (Str → Option Value) → List (Addr × Obj) → Prop) (hJ : ∀ i m' n', J i m' n' → (d, od) ∈ n') (start : J 0 m₀ news)
    (step : ∀ I i k x v m₁ n₁ h₁ tk₁ oI, (∀ p ∈ news, p.1 < I) → i < kvs.length → kvs[i]? = some (k, x) → knd.is k v = true → J i m₁ n₁ → (∀ p ∈ n₁, p.1 ≠ I) → oI.cls = .type "dict_keyiterator" → Fr h₀ env.locals h₁ m₁ → News h₀ env.locals h₁ ((I, oI) :: n₁) →
      wpAny (model prog w) A (assign target env v) (fun _ s₃ => wpAny (model prog w) A (execs body env) (StepJ h₀ env.locals I oI (J (i + 1)) { s with heap := h₁, toks := tk₁ } Q) E s₃) E { s with heap := h₁, toks := tk₁ })
    (done : ∀ m' n' h' tk, J kvs.length m' n' → Fr h₀ env.locals h' m' → News h₀ env.locals h' n' → Q .next { s with heap := h', toks := tk }) :
    wpAny (model prog w) A (pyIter (.ref d)) (fun it s₂ => TurnsAt prog w A h₀ env target body Q E it s₂) E s := by
  have hax := N _ hm
  obtain ⟨ep, hat⟩ := (Heap.dictOf_iff.mpr ⟨od, hax.1, hd⟩ : s.heap.DictOf knd d kvs).dictAt
  have hne : d ≠ s.heap.objs.size := Nat.ne_of_lt hat.lt_size
  have hlt' : ∀ p ∈ news, p.1 < s.heap.objs.size := fun p hp => Heap.lt_size (N p hp).1
  refine wpAny_pyIter_dict lo hat ?_
  have W := KTurns.ofWalks (target := target) (Walks.dictKeys (prog := prog) (w := w) (knd := knd) hh s.heap.objs.size d hne kvs ep) fun i v s Q E st q => letGo_keyiter st.1 q
  refine turnsJ (icls := "dict_keyiterator") W (F.push _) (fun p hp => ⟨Heap.get?_push_of_some _ (N p hp).1, (N p hp).2⟩) ⟨⟨_, Heap.get?_push_size _ rfl, rfl, rfl⟩, hat.push _⟩
    (fun p hp e => absurd (hlt' p hp) (e ▸ Nat.lt_irrefl _)) (next_is_new F) (fun e => absurd F.ns.lt (e ▸ Nat.lt_irrefl _)) hm (fun i h st => by obtain ⟨⟨oi, g, c, _⟩, _⟩ := st; exact ⟨oi, g, c⟩) J hJ start
    (fun i v m₁ n₁ h₁ tk₁ oI hi hP hj hoff hc F₁ N₁ => by obtain ⟨k, x, hx, hk⟩ := hP; exact step _ i k x v m₁ n₁ h₁ tk₁ oI hlt' hi hx hk hj hoff hc F₁ N₁) done
end

open PySem PySem.W PyProof.Rows PySem.Calls
section
variable {prog : Program} {w : World} {A : Around} {E : Value → Shared → Prop} {s : Shared} {env : Env} {h₀ : Heap} {target : Expr} {body : List Stmt} {Q : Flow → Shared → Prop}
noncomputable def StepE (h₀ : Heap) (L e it : Addr) (oe oi : Obj) (J : (Str → Option Value) → List (Addr × Obj) → Prop) (s₁ : Shared) (Q : Flow → Shared → Prop) (f : Flow) (s₂ : Shared) : Prop := match f with
  | .ret v => Q (.ret v) s₂
  | .brk => Q .next s₂
  | _ => ∃ h' tk m' n', s₂ = { s₁ with heap := h', toks := tk } ∧ Fr h₀ L h' m' ∧ News h₀ L h' ((e, oe) :: (it, oi) :: n') ∧ (∀ p ∈ n', p.1 ≠ e ∧ p.1 ≠ it) ∧ J m' n'
theorem iterJ_enum {elts : List Expr} {kk : Nat} {tp : Pos} {l : Addr} {lo : Obj} {vs : List Value} {c : Nat} {m₀ : Str → Option Value} {news : List (Addr × Obj)}
    (hh : A.handled = none) (F : Fr h₀ env.locals s.heap m₀) (N : News h₀ env.locals s.heap news) (hm : (l, lo) ∈ news) (hc : lo.cls = .type "list") (hd : lo.data = .seq vs.toArray c)
    (J : Nat → (Str → Option Value) → List (Addr × Obj) → Prop) (hJ : ∀ i m' n', J i m' n' → (l, lo) ∈ n') (start : J 0 m₀ news)
    (step : ∀ e it i v T t m₁ n₁ h₁ tk₁ oe oi, i < vs.length → vs[i]? = some v → IsTup h₁ T #[.int (i : Int) t, v] → J i m₁ n₁ → (∀ p ∈ n₁, p.1 ≠ e ∧ p.1 ≠ it) → Fr h₀ env.locals h₁ m₁ → News h₀ env.locals h₁ ((e, oe) :: (it, oi) :: n₁) →
      wpAny (model prog w) A (assign (.Tuple elts kk tp) env (.ref T)) (fun _ s₃ => wpAny (model prog w) A (execs body env) (StepE h₀ env.locals e it oe oi (J (i + 1)) { s with heap := h₁, toks := tk₁ } Q) E s₃) E { s with heap := h₁, toks := tk₁ })
    (done : ∀ m' n' h' tk, J vs.length m' n' → Fr h₀ env.locals h' m' → News h₀ env.locals h' n' → Q .next { s with heap := h', toks := tk }) :
    wpAny (model prog w) A (call (.type "enumerate") [.ref l]) (fun xv s₁ => wpAny (model prog w) A (pyIter xv) (fun it s₂ => TurnsAt prog w A h₀ env (.Tuple elts kk tp) body Q E it s₂) E s₁) E s := by
  have hax := N _ hm
  have hL : s.heap.IsList l vs.toArray := ⟨lo, hax.1, hc, c, hd⟩
  have hlt : @LT.lt Nat _ l s.heap.objs.size := Heap.lt_size hax.1
  refine call_enumerate_list hL fun h' hE hI hsz hkp => ?_
  refine wpAny_pyIter_enum hE ?_
  have new : ∀ a : Addr, @LE.le Nat _ s.heap.objs.size a → h₀.get? a = none ∧ a ≠ env.locals := fun a ha => by
    refine ⟨?_, fun e => ?_⟩
    · cases e : h₀.get? a with
      | none => rfl
      | some o => exact absurd (Heap.lt_size (F.keep a o e)) (Nat.not_lt.mpr ha)
    · rw [e] at ha; exact absurd F.ns.lt (Nat.not_lt.mpr ha)
  have f1 := new s.heap.objs.size (Nat.le_refl _)
  have f2 := new (s.heap.objs.size + 1) (Nat.le_succ _)
  have W := KTurns.ofWalksU (elts := elts) (k := kk) (pos := tp) (WalksT.enumerate (prog := prog) (w := w) hh (s.heap.objs.size + 1) s.heap.objs.size l (Nat.succ_ne_self _) (Nat.ne_of_lt (Nat.lt_succ_of_lt hlt)) (Nat.ne_of_lt hlt) vs.toArray).toU
  have hn : vs.toArray.size = vs.length := by simp
  rw [hn] at W
  have two : ∀ b, b ∈ [s.heap.objs.size + 1, s.heap.objs.size] → b = s.heap.objs.size + 1 ∨ b = s.heap.objs.size := fun b hb => by simpa using hb
  refine ⟨s.heap.objs.size + 1, _, _, vs.length, _, _, _, m₀, news, J, rfl, W, ?_, ?_, ?_, ?_, F.keeps hkp, N.grown hkp, start, ?_, ?_⟩
  · intro hb
    have hb' : env.locals = s.heap.objs.size + 1 ∨ env.locals = s.heap.objs.size ∨ env.locals = l := by simpa using hb
    rcases hb' with e | e | e
    · exact f2.2 e.symm
    · exact f1.2 e.symm
    · exact hax.2.1 e.symm
  · intro b hb
    rcases two b hb with rfl | rfl
    · exact f2.1
    · exact f1.1
  · intro p hp hb
    have := Heap.lt_size (N p hp).1
    rcases two _ hb with e | e
    · rw [e] at this; exact absurd (Nat.lt_trans (Nat.lt_succ_self _) this) (Nat.lt_irrefl _)
    · rw [e] at this; exact absurd this (Nat.lt_irrefl _)
  · exact ⟨⟨.none, hE⟩, hI, hL.at fun o e => hkp _ o e⟩
  · rintro i v m₁ n₁ h₁ tk₁ own hi ⟨T, vals, rfl, ⟨t, vi, hvi, rfl⟩, hT⟩ hj hoff ho1 ho2 ho3 st₁ F₁ N₁
    obtain ⟨⟨old, he⟩, ⟨oi, hoi, _⟩, _⟩ := st₁
    obtain ⟨oe, hoe⟩ : ∃ oe, h₁.get? (s.heap.objs.size + 1) = some oe := ⟨_, he⟩
    have m1 := ho3 (s.heap.objs.size + 1) (.head _) f2.1 oe hoe
    have m2 := ho3 s.heap.objs.size (.tail _ (.head _)) f1.1 oi hoi
    have hoff1 : ∀ p ∈ n₁, p.1 ≠ s.heap.objs.size + 1 ∧ p.1 ≠ s.heap.objs.size := fun p hp => ⟨fun e => hoff p hp (by rw [e]; exact .head _), fun e => hoff p hp (by rw [e]; exact .tail _ (.head _))⟩
    refine wpAny_mono (step _ _ i vi T t m₁ n₁ h₁ tk₁ oe oi hi (by simpa using hvi) hT hj hoff1 F₁ (fun p hp => ?_)) (fun _ s₃ h₃ => wpAny_mono h₃ (fun f s₄ h₄ => ?_) fun _ _ e => e) fun _ _ e => e
    · rcases List.mem_cons.mp hp with rfl | hp
      · exact N₁ _ (List.mem_append_left _ m1)
      rcases List.mem_cons.mp hp with rfl | hp
      · exact N₁ _ (List.mem_append_left _ m2)
      · exact N₁ _ (List.mem_append_right _ hp)
    · have fin : (∃ h' tk m' n', s₄ = { s with heap := h', toks := tk } ∧ Fr h₀ env.locals h' m' ∧ News h₀ env.locals h' ((s.heap.objs.size + 1, oe) :: (s.heap.objs.size, oi) :: n') ∧ (∀ p ∈ n', p.1 ≠ s.heap.objs.size + 1 ∧ p.1 ≠ s.heap.objs.size) ∧ J (i + 1) m' n') → LoopStepU h₀ env.locals [s.heap.objs.size + 1, s.heap.objs.size] own (J (i + 1)) { s with heap := h₁, toks := tk₁ } .next s₄ := by
        rintro ⟨h', tk, m', n', rfl, F', N', ha, hj'⟩
        refine ⟨rfl, h', tk, m', n', rfl, F', fun p hp => ?_, fun p hp hm => ?_, hj'⟩
        · rcases List.mem_append.mp hp with hp | hp
          · have h1 := ho2 p hp
            have h2 := ho1 p hp
            have h2' : p.1 = s.heap.objs.size + 1 ∨ p.1 = s.heap.objs.size ∨ p.1 = l := by simpa using h2
            obtain ⟨a, o⟩ := p
            dsimp only at h1 h2'
            rcases h2' with rfl | rfl | rfl
            · rw [hoe] at h1; cases h1; exact N' _ (.head _)
            · rw [hoi] at h1; cases h1; exact N' _ (.tail _ (.head _))
            · have h3 := (N₁ _ (List.mem_append_right _ (hJ _ _ _ hj))).1
              rw [h3] at h1; cases h1
              exact N' _ (.tail _ (.tail _ (hJ _ _ _ hj')))
          · exact N' _ (.tail _ (.tail _ hp))
        · rcases two _ hm with e | e
          · exact (ha p hp).1 e
          · exact (ha p hp).2 e
      cases f with
      | ret v => exact h₄
      | brk => exact h₄
      | next => exact fin h₄
      | cont => exact fin h₄
  · intro h' tk m' n' F' N' _ hj
    exact done m' n' h' tk hj F' N'
end

open PySem PySem.W PyProof.Rows PySem.Calls PySem.Builtin PySem.Builtin.Re
noncomputable abbrev tupO (a b : Value) : Obj := { cls := .type "tuple", data := .seq #[a, b] }
noncomputable abbrev hdrD (w : World) (tk : Tok) (l : Addr) : Obj := dictOf [{ hash := PyData.keyHash w.params (Str.ofString "_headers"), key := .str (Str.ofString "_headers") tk, val := .ref l }] 1
theorem nm_len (k : Nat) : (Nm k).length = k := by unfold Nm Str.length; simp
theorem in_of_hide {K : Frag} {h g : Heap} {l : List Addr} (hg : g = hideAll h l) (X : K.In g) : K.In h := fun b o e => of_hideAll l (hg ▸ X b o e)
theorem lower_nm {prog : Program} {w : World} {A : Around} {E : Value → Shared → Prop} {s : Shared} {Q : Value → Shared → Prop} {k : Nat} {t : Tok} (hk : k < 5) (h : ∀ t' k', Q (.str (Nm k) t') { s with toks := k' }) :
    wpAny (model prog w) A (call (.builtin "str.lower") [.str (Nm k) t]) Q E s :=
  SC.lower (by rw [lower_names hk, nm_len]; unfold Builtin.Str.tooLong; simp [sizeLine_eq]; omega) (by rw [lower_names hk]; exact h _ _)
theorem nm_eq (i j : Nat) : (Nm i = Nm j) = (i = j) := propext ⟨nm_inj, fun h => by rw [h]⟩
noncomputable def GetP (es : List (Nat × Int)) (q : Nat) (v : Value) : Prop := match es with
  | [] => v = .none
  | e :: r => if e.1 = q then ∃ t, v = .str (Lw e.2) t else GetP r q v
noncomputable def EntIn (tab : List (Addr × Obj)) (rs : List Value) (es : List (Nat × Int)) : Prop := rs.length = es.length ∧ ∀ (i : Nat) (r : Value), rs[i]? = some r → ∃ (e : Nat × Int) (T : Addr) (t u : Tok), es[i]? = some e ∧ r = .ref T ∧ (T, tupO (.str (Nm e.1) t) (.str (Lw e.2) u)) ∈ tab
theorem entIn_nil {tab : List (Addr × Obj)} : EntIn tab [] [] := ⟨rfl, fun i r h => by simp at h⟩
theorem entIn_cons {tab : List (Addr × Obj)} {T : Addr} {e : Nat × Int} {t u : Tok} {rs : List Value} {es : List (Nat × Int)} (hm : (T, tupO (.str (Nm e.1) t) (.str (Lw e.2) u)) ∈ tab) (h : EntIn tab rs es) : EntIn tab (.ref T :: rs) (e :: es) :=
  ⟨by simp [h.1], fun i r hr => by
    cases i with
    | zero => simp at hr; subst hr; exact ⟨e, T, t, u, rfl, rfl, hm⟩
    | succ i => exact h.2 i r (by simpa using hr)⟩
theorem dup_3 {g h : Heap} {L : Addr} {tab : List (Addr × Obj)} {a b c : Addr × Obj} (N : News g L h tab) (ha : a ∈ tab) (hb : b ∈ tab) (hc : c ∈ tab) : News g L h (a :: b :: c :: tab) := fun q hq => N q (by
  rcases List.mem_cons.mp hq with rfl | hq
  · exact ha
  rcases List.mem_cons.mp hq with rfl | hq
  · exact hb
  rcases List.mem_cons.mp hq with rfl | hq
  · exact hc
  · exact hq)
theorem say_1' {m : Str → Option Value} {a : Str} {x : Option Value} (h1 : m a = x) : m = fun q => if q = a then x else m q := funext fun q => by
  by_cases h : q = a
  · rw [if_pos h, h, h1]
  · rw [if_neg h]
theorem getP_drop {es : List (Nat × Int)} {q i : Nat} {e : Nat × Int} (he : es[i]? = some e) (h : ∀ v, GetP (es.drop i) q v → GetP es q v) : (e.1 = q → ∀ t, GetP es q (.str (Lw e.2) t)) ∧ (e.1 ≠ q → ∀ v, GetP (es.drop (i + 1)) q v → GetP es q v) := by
  obtain ⟨hi, hv⟩ := List.getElem?_eq_some_iff.mp he
  rw [List.drop_eq_getElem_cons hi, hv] at h
  exact ⟨fun e1 t => h _ (by unfold GetP; rw [if_pos e1]; exact ⟨t, rfl⟩), fun e1 v hv => h v (by unfold GetP; rw [if_neg e1]; exact hv)⟩
theorem rowsH4 : True := by
  k_with_none
  k_with "storeName" => (k_here; k_dflt (refine' storeX_Lr ?F ?N ?a ?b ?_; (case a => exact rfl); (case b => exact rfl); (case F => k_asm); (case N => k_asm); k_whole; intro _ _ _; (try k_sweep)))
  k_with "eval Name" => (k_here; k_dflt (refine' nameX_Lr ?F ?a ?b ?v ?_; (case a => exact rfl); (case b => exact rfl); (case F => k_asm); (case v => exact rfl); k_whole))
  k_with "execs cons" => (refine wpAny_execs_cons ?_; (try k_fold))
  k_with "sub" => first | exact List.forall_mem_nil _ | exact fun _ h9 => h9 | ((first | refine' sub_keep ?_ | refine' sub_drop ?_); k_extra "sub")
  k_with "tb_start" => (unfold SpecG; k_fill; intro _ _ _ _ _ _ _ _ _ _ _ hg9 hs9; (try dsimp only [hdrD, tupO] at hg9 hs9); revert hg9 hs9; intro _ _ _ _ _ _; k_dflt (refine' call_S ?k1 ?k2 ?k3 ?k4 ?k5 ?k10 ?k6 ?k7 ?k8 ?k9 ?kB ?_ ?c2 ?c3 ?c4 ?c5; (case k1 => k_asm); (case k2 => k_asm); (case k3 => k_asm); (case k4 => k_asm); (case k5 => k_asm); (case k10 => k_asm); (case k6 => k_is); (case k7 => k_is); (case k8 => decide); (case k9 => first | exact BindsTo.of_eq rfl | exact binds_K (by k_in) rfl (by k_is) rfl rfl rfl | exact binds_K (in_of_hide (by assumption) (by assumption)) rfl (by k_is) rfl rfl rfl); (case c5 => decide); (case kB => exact locs rfl); (case c2 => exact rfl); (case c3 => exact rfl); (case c4 => exact rfl); k_whole; intro _ _ _ _; (try dsimp only); (try k_fold)))
  k_with "tb_rel" => first | (k_extra "sub"; done) | exact List.forall_mem_nil _ | (refine' fmc ?sa ?sb; (case sa => k_mem); (case sb => k_extra "tb_rel"))
  k_with "call ref" => (k_here; (with_reducible show wpAny _ _ (call (Value.ref 70) [_, Value.str _ _] _) _ _ _); k_dflt ((show wpAny _ _ (call (Value.ref 70) [_, Value.str _ _] [(Str.ofString "name", Value.bool true)]) _ _ _); refine' SpecK.use (convN _ _ ?q _ _ _) ?B ?F ?X ?N ?T ?hA ?hK ?hh ?hd ?hu ?_; (case hA => exact rfl); (case B => k_asm); (case F => k_asm); (case X => k_asm); (case N => k_asm); (case T => k_asm); (case hK => first | rfl | assumption); (case hh => rfl); (case hd => exact Nat.le_of_ble_eq_true rfl); (case hu => exact Nat.le_of_ble_eq_true rfl); (case q => first | assumption | exact quiet_names (by assumption) | decide +kernel); k_whole; (rintro v' news' h' tk' ⟨⟨t', e1'⟩, e2'⟩ F' N'); subst e1'; subst e2'; (try k_sweep)))
  k_with "call ref" => (k_here; (with_reducible show wpAny _ _ (call (Value.ref 70) [_, Value.str _ _] _) _ _ _); k_dflt ((show wpAny _ _ (call (Value.ref 70) [_, Value.str _ _] [(Str.ofString "name", Value.bool false)]) _ _ _); refine' SpecK.use (convV _ _ ?q _ _ _) ?B ?F ?X ?N ?T ?hA ?hK ?hh ?hd ?hu ?_; (case hA => exact rfl); (case B => k_asm); (case F => k_asm); (case X => k_asm); (case N => k_asm); (case T => k_asm); (case hK => first | rfl | assumption); (case hh => rfl); (case hd => exact Nat.le_of_ble_eq_true rfl); (case hu => exact Nat.le_of_ble_eq_true rfl); (case q => first | assumption | exact quiet_words (by assumption) (by assumption) | decide +kernel); k_whole; (rintro v' news' h' tk' ⟨⟨t', e1'⟩, e2'⟩ F' N'); subst e1'; subst e2'; (try k_sweep)))
  k_with "call builtin:str.lower" => (k_here; k_dflt ((show wpAny _ _ (call (Value.builtin "str.lower") [Value.str (Nm _) _]) _ _ _); refine lower_nm (by assumption) ?_; intro _ _))
  k_with "exec For Tuple Attribute" => (k_here; (rename Fr _ _ _ _ => lF'); (with_unfolding_all refine' For_turns lF' ?_; k_whole))
  trivial
theorem get_g (w : World) (x dx l : Addr) (tkh tq : Tok) (c : Nat) (q : Nat) (hq : q < 5) (rs : List Value) (es : List (Nat × Int)) (tab : List (Addr × Obj)) (hent : EntIn tab rs es) (hk : ∀ e ∈ es, e.1 < 5) (h1 : (x, instObj 171 dx) ∈ tab) (h2 : (dx, hdrD w tkh l) ∈ tab) (h3 : (l, W.listOf rs.toArray c) ∈ tab) :
    SpecG 700 5000 w 118 [.ref x, .str (Nm q) tq] [] tab (fun v small' => GetP es q v ∧ small' = tab) := by
  k_with "pyIter ref" => (k_here; (with_reducible show wpAny _ _ (pyIter (Value.ref l)) _ _ _); k_dflt (refine' iterJ_list (ax := l) (lo := W.listOf rs.toArray c) (vs := rs) (c := c) ?hh ?F ?N ?m rfl rfl (fun i m' n' => n' = (x, instObj 171 dx) :: (dx, hdrD w tkh l) :: (l, W.listOf rs.toArray c) :: tab ∧ m' (Str.ofString "default") = some .none ∧ (∃ t, m' (Str.ofString "name") = some (.str (Nm q) t)) ∧ ∀ v, GetP (es.drop i) q v → GetP es q v) ?hJ ?st ?step ?done; (case hh => exact rfl); (case F => k_asm); (case N => k_asm); (case m => k_mem); (case hJ => (rintro i m' n' ⟨rfl, _⟩; exact .tail _ (.tail _ (.head _)))); (case st => exact ⟨rfl, rfl, ⟨_, rfl⟩, fun v h => h⟩); (case' step => (rintro I i v m1 n1 h1' tk1 oI hIl hi hv ⟨rfl, ed, ⟨tn, en⟩, hJ⟩ hoff ho F' N'; (obtain ⟨e, T, t, u, he, rfl, hmT⟩ := hent.2 i v hv); (have hke := hk e (List.mem_of_getElem? he)); (have hG := getP_drop he hJ); (rw [say_1' en] at F'); (replace N' := dup_3 (c := (T, tupO (.str (Nm e.1) t) (.str (Lw e.2) u))) N' (.tail _ (.head _)) (.head _) (.tail _ (.tail _ (.tail _ (.tail _ hmT))))); (try k_sweep))); (case' done => (rintro m' n' h' tk' ⟨rfl, ed, ⟨tn, en⟩, hJ⟩ F' N'; (have hJ0 : GetP es q .none := hJ _ (by rw [hent.1, List.drop_length]; rfl)); (rw [say_1' ed] at F'); (try k_sweep)))))
  (unfold SpecG; k_fill; intro p loose mean mg mb envs base g s Q E hg hsm B X T hret; k_dflt (refine' call_S ?k1 ?k2 ?k3 ?k4 ?k5 ?k10 ?k6 ?k7 ?k8 ?k9 ?kB ?_ ?c2 ?c3 ?c4 ?c5; (case k1 => k_asm); (case k2 => k_asm); (case k3 => k_asm); (case k4 => k_asm); (case k5 => k_asm); (case k10 => k_asm); (case k6 => k_is); (case k7 => k_is); (case k8 => decide); (case k9 => first | exact BindsTo.of_eq rfl | exact binds_K (by k_in) rfl (by k_is) rfl rfl rfl | exact binds_K (in_of_hide (by assumption) (by assumption)) rfl (by k_is) rfl rfl rfl); (case c5 => decide); (case kB => exact locs rfl); (case c2 => exact rfl); (case c3 => exact rfl); (case c4 => exact rfl); k_whole; intro L' h' F' N'; (replace N' := dup_3 N' h1 h2 h3); (try dsimp only); (try k_fold)))
  k_steps
  · k_dflt (show LeaveS _ _ _ _)
    rename News _ _ _ _ => N9
    exact leaveS_ (by k_asm) (fun z hz => N9 z (.tail _ (.tail _ (.tail _ hz)))) ⟨⟨hJ0, rfl⟩, rfl, rfl, rfl⟩
  · dsimp only [StepJ]
    show LeaveS _ _ _ _
    rename News _ _ _ _ => N9
    exact leaveS_ (by k_asm) (fun z hz => N9 z (.tail _ (.tail _ (.tail _ (.tail _ (.tail _ (.tail _ (.tail _ hz)))))))) ⟨⟨hG.1 (by simp_all [nm_eq]) _, rfl⟩, rfl, rfl, rfl⟩
  · rename News _ _ _ _ => N9
    k_dflt (refine' ⟨_, _, _, (x, instObj 171 dx) :: (dx, hdrD w tkh l) :: (l, W.listOf rs.toArray c) :: tab, rfl, ?F, ?N, hoff, rfl, ?e1, ⟨tn, ?e2⟩, ?e3⟩)
    case F => k_asm
    case N => exact fun z hz => N9 z (.tail _ (.tail _ (.tail _ hz)))
    case e1 => exact (if_neg (by decide)).trans ((if_neg (by decide)).trans ((if_neg (by decide)).trans ed))
    case e2 => exact (if_neg (by decide)).trans ((if_neg (by decide)).trans (if_pos rfl))
    case e3 => exact hG.2 (by simp_all [nm_eq])

theorem clrCL : True := by
  k_with_none
  trivial
open PySem PySem.W PyProof.Rows PySem.Calls PySem.Builtin
local macro_rules | `(tactic| k_in) => `(tactic| k_extra "k_in")
theorem mod5 {prog : Program} {w : World} {A : Around} {E : Value → Shared → Prop} {s : Shared} {Q : Value → Shared → Prop} {i : Nat} {t u : Tok} (k : ∀ t' k', Q (.int ((i : Int) % 5) t') { s with toks := k' }) : wpAny (model prog w) A (binaryOp .Mod (.int (i : Int) t) (.int 5 u)) Q E s := by
  refine PyProof.Rows.mod_int' (by decide) ?_
  rw [Int.fmod_eq_emod_of_nonneg _ (by decide)]
  exact k _ _
theorem mod120 {prog : Program} {w : World} {A : Around} {E : Value → Shared → Prop} {s : Shared} {Q : Value → Shared → Prop} {k : Int} {t u : Tok} (h : ∀ t' k', Q (.int (k.fmod 120) t') { s with toks := k' }) : wpAny (model prog w) A (binaryOp .Mod (.int k t) (.int 120 u)) Q E s :=
  PyProof.Rows.mod_int' (by decide) (h _ _)
theorem off1_mem {D : Addr} : ∀ {l : List (Addr × Obj)}, LCg.Off1 D l → ∀ p ∈ l, p.1 ≠ D
  | [], _, _, h => nomatch h
  | _ :: _, x, p, h => by
    rcases List.mem_cons.mp h with rfl | h
    · exact x.1
    · exact off1_mem x.2 p h
theorem len5 {ns : List Int} (h : ns.length = 5) : ∃ a b c d e, ns = [a, b, c, d, e] := by
  match ns, h with
  | [a, b, c, d, e], _ => exact ⟨a, b, c, d, e, rfl⟩
theorem ints5 {ys : List Value} {a b c d e : Int} (h : IntsAre ys [a, b, c, d, e]) : ∃ t0 t1 t2 t3 t4, ys = [.int a t0, .int b t1, .int c t2, .int d t3, .int e t4] := by
  cases h with
  | cons _ t0 h => cases h with
    | cons _ t1 h => cases h with
      | cons _ t2 h => cases h with
        | cons _ t3 h => cases h with
          | cons _ t4 h => cases h; exact ⟨t0, t1, t2, t3, t4, rfl⟩
theorem say_1 {m : Str → Option Value} {a : Str} {x : Option Value} (h1 : m a = x) : m = fun q => if q = a then x else m q := funext fun q => by
  split
  · rename_i e; rw [e]; exact h1
  · rfl
noncomputable def CellsJ (l D : Addr) (lo : Obj) (rest : List (Addr × Obj)) (m' : Str → Option Value) (n' : List (Addr × Obj)) : Prop :=
  ∃ (u : Str → Option Value) (vs : List Value) (ns : List Int) (c : Nat), m' = (fun q => if q = Str.ofString "cells" then some (.ref l) else u q) ∧ n' = (D, lo) :: (l, W.listOf vs.toArray c) :: rest ∧ IntsAre vs ns ∧ ns.length = 5
theorem cellsJ_mk {l D : Addr} {lo : Obj} {rest : List (Addr × Obj)} {m : Str → Option Value} {vs : List Value} {ns : List Int} {c : Nat} (hm : m (Str.ofString "cells") = some (.ref l)) (hi : IntsAre vs ns) (hl : ns.length = 5) : CellsJ l D lo rest m ((D, lo) :: (l, W.listOf vs.toArray c) :: rest) :=
  ⟨m, vs, ns, c, say_1 hm, rfl, hi, hl⟩
theorem cells_iter {prog : Program} {w : World} {A : Around} {E : Value → Shared → Prop} {s : Shared} {env : Env} {h₀ : Heap} {body : List Stmt} {Q : Flow → Shared → Prop} {elts : List Expr} {kk : Nat} {tp : Pos} {l D : Addr} {ws : List Value} {xs : List Int} {c' : Nat} {m₀ : Str → Option Value} {rest : List (Addr × Obj)} {v0 v1 v2 v3 v4 : Value} {c : Nat}
    (hh : A.handled = none) (F : Fr h₀ env.locals s.heap m₀) (N : News h₀ env.locals s.heap ((D, W.listOf ws.toArray c') :: (l, W.listOf #[v0, v1, v2, v3, v4] c) :: rest)) (hm : m₀ (Str.ofString "cells") = some (.ref l)) {ns₀ : List Int} (hi0 : IntsAre [v0, v1, v2, v3, v4] ns₀) (hl0 : ns₀.length = 5) (hi : IntsAre ws xs) (hlD : @LT.lt Nat _ l D) (hlr : ∀ p ∈ rest, p.1 < l)
    (step : ∀ e it (i : Nat) x tx T t (u : Str → Option Value) (vs : List Value) (ns : List Int) (c : Nat) h₁ tk₁ oe oi, (∀ p ∈ (D, W.listOf ws.toArray c') :: (l, W.listOf vs.toArray c) :: rest, p.1 ≠ e ∧ p.1 ≠ it) → (∀ vs' : List Value, Upd l (W.listOf vs.toArray c) (W.listOf vs'.toArray c) ((e, oe) :: (it, oi) :: (D, W.listOf ws.toArray c') :: (l, W.listOf vs.toArray c) :: rest) ((e, oe) :: (it, oi) :: (D, W.listOf ws.toArray c') :: (l, W.listOf vs'.toArray c) :: rest)) →
      IsTup h₁ T #[.int (i : Int) t, .int x tx] → IntsAre vs ns → ns.length = 5 → Fr h₀ env.locals h₁ (fun q => if q = Str.ofString "cells" then some (.ref l) else u q) →
      News h₀ env.locals h₁ ((e, oe) :: (it, oi) :: (D, W.listOf ws.toArray c') :: (l, W.listOf vs.toArray c) :: rest) →
      wpAny (model prog w) A (assign (.Tuple elts kk tp) env (.ref T)) (fun _ s₃ => wpAny (model prog w) A (execs body env) (StepE h₀ env.locals e it oe oi (CellsJ l D (W.listOf ws.toArray c') rest) { s with heap := h₁, toks := tk₁ } Q) E s₃) E { s with heap := h₁, toks := tk₁ })
    (done : ∀ (u : Str → Option Value) (vs : List Value) (ns : List Int) (c : Nat) h' tk, IntsAre vs ns → ns.length = 5 → Fr h₀ env.locals h' (fun q => if q = Str.ofString "cells" then some (.ref l) else u q) → News h₀ env.locals h' ((D, W.listOf ws.toArray c') :: (l, W.listOf vs.toArray c) :: rest) → Q .next { s with heap := h', toks := tk }) :
    wpAny (model prog w) A (call (.type "enumerate") [.ref D]) (fun xv s₁ => wpAny (model prog w) A (pyIter xv) (fun it s₂ => TurnsAt prog w A h₀ env (.Tuple elts kk tp) body Q E it s₂) E s₁) E s := by
  refine iterJ_enum hh F N (.head _) rfl rfl (fun _ m' n' => CellsJ l D (W.listOf ws.toArray c') rest m' n') ?_ (cellsJ_mk (vs := [v0, v1, v2, v3, v4]) hm hi0 hl0) ?_ ?_
  · rintro _ _ _ ⟨_, _, _, _, -, rfl, -⟩; exact .head _
  · rintro e it i v T t m₁ n₁ h₁ tk₁ oe oi _ hv hT ⟨u, vs, ns, c, rfl, rfl, hi1, hl1⟩ hof F₁ N₁
    obtain ⟨x, tx, rfl, _⟩ := IntsAre.at hi i v hv
    have hle := hof (l, W.listOf vs.toArray c) (.tail _ (.head _))
    exact step e it i x tx T t u vs ns c h₁ tk₁ oe oi hof (fun vs' => .tail (Ne.symm hle.1) (.tail (Ne.symm hle.2) (.tail (Nat.ne_of_gt hlD) (.head fun p hp => Nat.ne_of_lt (hlr p hp))))) hT hi1 hl1 F₁ N₁
  · rintro m' n' h' tk ⟨u, vs, ns, c, rfl, rfl, hi1, hl1⟩ F' N'
    exact done u vs ns c h' tk hi1 hl1 F' N'
theorem fmod_in (n : Int) : 0 ≤ n.fmod 120 ∧ n.fmod 120 < 120 := by
  rw [Int.fmod_eq_emod_of_nonneg _ (by decide)]; omega
theorem cells_w (w : World) (a : Addr) (vs : List Value) (ns : List Int) (hi : IntsAre vs ns)
    {p : Program} {loose : List Str} {mean : ExcName → Option Value} {mg mb : Str → Option Value} {env : Env} {outer : List Env} {A A₀ : Around} {base h₀ : Heap} {L : Addr} {m : Str → Option Value} {s : Shared} {Q E : Value → Shared → Prop} {news : List (Addr × Obj)}
    (B : Below A₀ base outer h₀) (F : Fr h₀ L s.heap m) (X0 : (Mine.K w.params).In h₀) (N : News h₀ L s.heap news) (T : Top p loose mean mg mb h₀)
    (hA : A.frames = some (env :: outer)) (hf : env.frame = some L) (hke : env.scope.kind = .function) (hh : A.handled = none) (hdp : A.depth ≤ 400) (hun : A.units ≤ 2000) (hl : h₀.IsList a vs.toArray) (hsz : ns.length ≤ 63)
    (h : ∀ D d0 d1 d2 d3 d4 t0 t1 t2 t3 t4 h' tk', (∀ p ∈ news, p.1 ≠ D) → (0 ≤ d0 ∧ d0 < 120) → (0 ≤ d1 ∧ d1 < 120) → (0 ≤ d2 ∧ d2 < 120) → (0 ≤ d3 ∧ d3 < 120) → (0 ≤ d4 ∧ d4 < 120) → Fr h₀ L h' m → News h₀ L h' ((D, LCg.lst [.int d0 t0, .int d1 t1, .int d2 t2, .int d3 t3, .int d4 t4]) :: news) → Q (.ref D) { s with heap := h', toks := tk' }) :
    wpAny (model PySem.Challenge.rw_wj0054_01.row.prog w) A (call (.ref 250) [.ref a] []) Q E s := by
  have main : wpAny (model PySem.Challenge.rw_wj0054_01.row.prog w) (roof 400 2000 (env :: outer)) (call (.ref 250) [.ref a] []) Q E s := by
    have hA' : (roof 400 2000 (env :: outer)).frames = some (env :: outer) := rfl
    clear hA hh hdp hun A
    revert T N X0 F B
    k_fill
    intro B F X0 N T
    refine wpAny_call ?_
    k_with_none
    k_with "storeName" => (k_here; k_dflt (refine' storeX_Lr ?F ?N ?a ?b ?_; (case a => exact rfl); (case b => exact rfl); (case F => k_asm); (case N => k_asm); k_whole; intro _ _ _; (try k_sweep)))
    k_with "eval Name" => (k_here; k_dflt (refine' nameX_Lr ?F ?a ?b ?v ?_; (case a => exact rfl); (case b => exact rfl); (case F => k_asm); (case v => exact rfl); k_whole))
    k_with "execs cons" => (refine wpAny_execs_cons ?_; (try k_fold))
    k_with "k_in" => (refine' Frag.In.keeps ?X (Fr.keep ?F); (case F => with_reducible assumption); (case X => with_reducible assumption))
    k_with "exec For Tuple Call" => (k_here; (rename Fr _ _ _ _ => lF'); (with_unfolding_all refine' For_turns lF' ?_; k_whole))
    k_with "call type:enumerate" => (k_here; (have hnl' := ‹∀ p ∈ news, p.1 < _›); k_dflt (refine' cells_iter ?hh ?F ?N ?hm ?hi0 ?hl0 ?hi ?hD ?hr ?cS ?cD; (case hh => exact rfl); (case F => k_asm); (case N => k_asm); (case hm => exact rfl); (case hi0 => exact .cons _ _ (.cons _ _ (.cons _ _ (.cons _ _ (.cons _ _ .nil))))); (case hl0 => exact rfl); (case hi => assumption); (case hr => assumption); (case hD => exact And.left (by assumption)); k_whole; (case' cS => (intro e1 it1 i1 x1 tx1 T1 t1 u1 vs1 ns1 c1 h1 tk1 oe1 oi1 hof1 hU1 hT1 hi1 hl1 F1 N1; (have hq0 : (0 : Int) ≤ (i1 : Int) % 5 := by omega); (have hq1 : (i1 : Int) % 5 < ns1.length := by omega); (have hq2 : (i1 : Int) % 5 < 2 ^ 63 := by omega))); (case' cD => (intro u1 vs9 ns9 c9 h9 tk9 hi9 hl9 F9 N9))))
    k_with "binaryOp Mod int int" => (k_here; (with_reducible show wpAny _ _ (binaryOp _ (Value.int (Nat.cast _) _) (Value.int 5 _)) _ _ _); k_dflt (refine' mod5 ?_; intro _ _))
    k_with "binaryOp Mod int int" => (k_here; (with_reducible show wpAny _ _ (binaryOp _ (Value.int _ _) (Value.int 120 _)) _ _ _); k_dflt (refine' mod120 ?_; intro _ _))
    k_with "assign Tuple" => (k_here; k_dflt (refine' unpackN_ ?F ?N hT1 ?k1 ?k2 ?k3 ?_; (case F => k_asm); (case N => k_asm); (case k1 => exact rfl); (case k2 => exact rfl); (case k3 => exact rfl); k_whole); intro h' F' N'; (try k_sweep))
    k_with "subscriptTail" => (k_here; (with_reducible show wpAny _ _ (subscriptTail _ _ (Value.ref _) (Value.int _ _)) _ _ _); k_dflt (refine' ksa_sub ?N ?m hi1 hq0 hq1 hq2 ?_; (case N => k_asm); (case m => k_mem); intro t9))
    k_with "setItem ref int" => (k_here; k_dflt (refine' ksa_set ?F ?N (hU1 _) hi1 hq0 hq1 hq2 ?_; (case F => k_asm); (case N => k_asm); intro h' F' N' hi2 hl2 _))
    k_with "eval ListComp" => (k_here; k_dflt (refine' LCg.ListComp_U ?F ?a ?b ?c ?d ?e ?_; (case F => k_asm); (case a => exact rfl); (case b => decide); (case c => exact rfl); (case d => decide); (case e => exact rfl)))
    k_with "CompSrc" => (k_here; k_dflt (refine' LCg.CompSrc.ledger ?hh ?F ?N ?m ?z ?_; (case hh => exact rfl); (case F => k_asm); (case N => k_asm); (case m => k_mem); (case z => (rw [List.size_toArray, hi9.length, hl9, sizeLine_eq]; decide)); intro g9; refine' kcf_list (fun k => k.fmod 120) hi9 ?tu ?fi; (case' tu => (intro k' t' I' oI' C' oC' D' m' ys' h' tk' E' hk' hC' hx' F' N' off' ne' hMark'; clear ne' hMark')); (case' fi => (unfold KPfDone; intro ysF hiF))))
    k_with "CompEnd" => (k_dflt (refine' LCg.CompEnd.intro ?F ?N _ ?sub ?off ?S ?_; (case F => k_asm); (case N => k_asm); (case off => assumption); (case sub => exact fun p hp => hp); (case S => exact Or.inr ⟨_, by k_mem, rfl, _, rfl⟩)))
    k_with "KCfEl" => (k_dflt (exact kcf_el rfl rfl rfl))
    k_with "FinE" => k_dflt ((unfold LCg.FinE); intro D9 h' tk' F' N' o1')
    k_with "StepE" => (k_dflt (refine' ⟨_, _, _, _, rfl, ?F, ?N, ?hof, ?hj⟩; (case F => k_asm); (case N => k_asm); (case hj => exact cellsJ_mk rfl hi2 (hl2.trans hl1)); (case hof => (intro p hp; (rcases List.mem_cons.mp hp with rfl | hp); (exact hof1 _ (.head _)); (rcases List.mem_cons.mp hp with rfl | hp); (exact hof1 (_, W.listOf vs1.toArray c1) (.tail _ (.head _))); (exact hof1 p (.tail _ (.tail _ hp)))))))
    k_dflt (refine' code_defG ?k1 ?k2 ?k3 ?k4 ?k5 ?kA ?kF ?kK ?k6 ?k7 ?k8 ?k9 ?kB ?_ ?c2 ?c3 ?c4 ?c5; (case kA => exact hA'); (case kF => exact hf); (case kK => exact hke); (case k1 => k_asm); (case k2 => k_asm); (case k3 => k_asm); (case k4 => k_asm); (case k5 => k_asm); (case k6 => k_is); (case k7 => k_is); (case k8 => k_room); (case k9 => exact BindsTo.of_eq rfl); (case kB => exact locs rfl); (case c2 => exact rfl); (case c3 => exact rfl); (case c4 => exact rfl); (case c5 => decide); k_whole; intro g' L' h' FG' F' N' B' X' T' hG'; (have hl' := hl.at (fun o e => FG'.keep a o e)); (try dsimp only); (try k_fold))
    k_steps
    all_goals (
      obtain ⟨a0, a1, a2, a3, a4, rfl⟩ := len5 hl9
      obtain ⟨q0, q1, q2, q3, q4, rfl⟩ := ints5 hiF
      refine' h D9 _ _ _ _ _ q0 q1 q2 q3 q4 _ _ (fun p hp => off1_mem o1' p (.tail _ (.tail _ hp))) (fmod_in a0) (fmod_in a1) (fmod_in a2) (fmod_in a3) (fmod_in a4) ?kF ?kN
      case kF => k_asm
      case kN => (refine' cb_drop (by k_asm) ?_; exact fmc (.head _) (fun p hp => .tail _ (.tail _ (.tail _ hp)))))
  exact fun Γ q hΓ => main Γ q ⟨hΓ.1.trans hh, Nat.le_trans hΓ.2.1 hdp, fun l e => hΓ.2.2.1 l (hA.trans e), fun _ e => (nomatch e), Nat.le_trans hΓ.2.2.2.2 hun⟩

open PySem PySem.W PyProof.Rows PySem.Calls
noncomputable abbrev okRet (Q E : Value → Shared → Prop) : Result → Shared → Prop := fun r s' => match r with | .ok (.ret v) => Q v s' | .ok _ => False | .error e => E e s'
noncomputable def SpecC (dp un : Nat) (w : World) (f : Addr) (args : List Value) (kw : List (Str × Value)) (small : List (Addr × Obj)) (Post : Value → List (Addr × Obj) → Prop) : Prop :=
  ∀ (p : Program) (loose : List Str) (mean : ExcName → Option Value) (mg mb : Str → Option Value) (envs : List Env) (base g : Heap) (s : Shared) (Q E : Value → Shared → Prop),
    g = hideAll s.heap (small.map (·.1)) → (∀ p ∈ small, s.heap.get? p.1 = some p.2) → Below (roof dp un envs) base envs g → (Mine.K w.params).In g → Top p loose mean mg mb g →
    (∀ v small' L' m' h' tk', Post v small' → Fr g L' h' m' → News g L' h' small' → Q v { s with heap := h', toks := tk' }) →
    codeAny (model PySem.Challenge.rw_wj0054_01.row.prog w) (roof dp un envs) (.call (.ref f) ⟨args, kw⟩) (okRet Q E) s
theorem SpecC.toG {dp un : Nat} {w : World} {f : Addr} {args : List Value} {kw : List (Str × Value)} {small : List (Addr × Obj)} {Post : Value → List (Addr × Obj) → Prop} (C : SpecC dp un w f args kw small Post) : SpecG dp un w f args kw small Post :=
  fun p loose mean mg mb envs base g s Q E a b c d e f => wpAny_call (C p loose mean mg mb envs base g s Q E a b c d e f)
theorem SpecC.use {dp un : Nat} {w : World} {f : Addr} {args : List Value} {kw : List (Str × Value)} {small : List (Addr × Obj)} {Post : Value → List (Addr × Obj) → Prop} (C : SpecC dp un w f args kw small Post)
    (rest : List (Addr × Obj)) {p : Program} {loose : List Str} {mean : ExcName → Option Value} {mg mb : Str → Option Value} {env : Env} {outer : List Env} {A A₀ : Around} {base h₀ : Heap} {L : Addr} {m : Str → Option Value} {s : Shared} {Q E : Value → Shared → Prop} {big : List (Addr × Obj)}
    (B : Below A₀ base outer h₀) (F : Fr h₀ L s.heap m) (X : (Mine.K w.params).In h₀) (N : News h₀ L s.heap big) (T : Top p loose mean mg mb h₀)
    (hA : A.frames = some (env :: outer)) (hf : env.frame = some L) (hke : env.scope.kind = .function) (hh : A.handled = none) (hdp : A.depth ≤ dp) (hun : A.units ≤ un)
    (hs : ∀ p ∈ small, p ∈ big) (hr : ∀ p ∈ rest, p ∈ big) (hne : ∀ p ∈ rest, ∀ q ∈ small, p.1 ≠ q.1)
    (h : ∀ v small' h' tk', Post v small' → Fr h₀ L h' m → News h₀ L h' (small' ++ rest) → NewApart rest small' → Q v { s with heap := h', toks := tk' }) :
    codeAny (model PySem.Challenge.rw_wj0054_01.row.prog w) A (.call (.ref f) ⟨args, kw⟩) (okRet Q E) s := by
  have Ns : News h₀ L s.heap small := fun p hp => N p (hs p hp)
  have hA' : (roof dp un (env :: outer)).frames = some (env :: outer) := rfl
  obtain ⟨FG, BG, st, _⟩ := groundX (R := fun _ _ => True) (A := roof dp un (env :: outer)) B F Ns hA' hf hke
  have main : codeAny (model PySem.Challenge.rw_wj0054_01.row.prog w) (roof dp un (env :: outer)) (.call (.ref f) ⟨args, kw⟩) (okRet Q E) s := by
    refine C p loose mean mg mb (env :: outer) base _ s Q E rfl (fun p hp => (Ns p hp).1) BG (X.keeps st) (T.keeps st) fun v small' L' m' h' tk' hp F' N' => ?_
    have gr : ∀ q ∈ rest, (hideAll s.heap (small.map (·.1))).get? q.1 = some q.2 := fun q hq => hideAll_get _ (N q (hr q hq)).1 fun hm => by
      obtain ⟨z, hz, e⟩ := List.mem_map.mp hm
      exact hne q hq z hz e.symm
    obtain ⟨oL, es, ep, hL, hLd, hLk, hLf⟩ := FG.ns
    refine h v small' h' tk' hp ⟨⟨oL, es, ep, F'.keep L oL hL, hLd, hLk, hLf⟩, fun b o e => F'.keep b o (st b o e), F.above⟩ (fun q hq => ?_) ?_
    · rcases List.mem_append.mp hq with hq | hq
      · refine ⟨(N' q hq).1, fun e => ?_, ?_⟩
        · have := (N' q hq).2.2; rw [e, hL] at this; cases this
        · cases z : h₀.get? q.1 with
          | none => rfl
          | some o => have := (N' q hq).2.2; rw [st _ _ z] at this; cases this
      · exact ⟨F'.keep _ _ (gr q hq), (N q (hr q hq)).2⟩
    · clear hp
      induction small' with
      | nil => trivial
      | cons z zs ih =>
        refine ⟨allNe_of fun q hq e => ?_, ih fun q hq => N' q (.tail _ hq)⟩
        have := (N' z (.head _)).2.2
        rw [← e, gr q hq] at this; cases this
  exact fun Γ q hc hΓ => main Γ q hc ⟨hΓ.1.trans hh, Nat.le_trans hΓ.2.1 hdp, fun l e => hΓ.2.2.1 l (hA.trans e), fun _ e => (nomatch e), Nat.le_trans hΓ.2.2.2.2 hun⟩
theorem call_C {prog : Program} {w : World} {dp un : Nat} {envs : List Env} {s : Shared} {g base : Heap} {small : List (Addr × Obj)} {K : Frag} {Post : Value → List (Addr × Obj) → Prop} {Q E : Value → Shared → Prop}
    {p : Program} {loose : List Str} {mean : ExcName → Option Value} {mg mb : Str → Option Value}
    {name qual : Str} {params : Arguments} {body : List Stmt} {scope : Scope} {dV kV doc pm cdv ct oc : Value} {an od : Option Addr} {osl : Array (Option Value)} {f : Addr} {args : List Value} {kw : List (Str × Value)} {binds : List (Str × Value)}
    (hg : g = hideAll s.heap (small.map (·.1))) (hsm : ∀ p ∈ small, s.heap.get? p.1 = some p.2) (_B : Below (roof dp un envs) base envs g) (X : K.In g) (T : Top p loose mean mg mb g)
    (hret : ∀ v small' L' m' h' tk', Post v small' → Fr g L' h' m' → News g L' h' small' → Q v { s with heap := h', toks := tk' })
    (ho : K.lookup f = some ⟨oc, od, .func (fnOf name qual params body scope dV kV doc pm an cdv ct), osl⟩) (hcd : codeIn K cdv qual = true) (hroom : dp < recursionLimit)
    (hbind : BindsTo s (fnOf name qual params body scope dV kV doc pm an cdv ct) ⟨args, kw⟩ binds) (hloc : ∀ y ∈ binds, scope.names.lookup y.1 = some .local)
    (h : ∀ L' h₁, Fr g L' h₁ (fun y => binds.reverse.lookup y) → News g L' h₁ small →
      wpAny (model prog w) ((roof dp un envs).deeper (envOf qual scope L' f cdv)) (execs body (envOf qual scope L' f cdv))
        (fun fl s' => LeaveS g (fun v small' s' => Post v small' ∧ s'.gens = s.gens ∧ s'.drawn = s.drawn ∧ s'.os = s.os) (match fl with | .ret v => v | _ => .none) s')
        (fun _ _ => False)
        { s with heap := h₁, toks := s.toks + binds.length })
    (hco : scope.isCoroutine = false) (hgen : scope.isGenerator = false) (hk : scope.kind = .function)
    (hcell : ∀ x ∈ scope.names, x.2 ≠ .cell) : codeAny (model prog w) (roof dp un envs) (.call (.ref f) ⟨args, kw⟩) (okRet Q E) s := by
  subst hg
  have gs : ∀ {b : Addr} {o : Obj}, (hideAll s.heap (small.map (·.1))).get? b = some o → s.heap.get? b = some o := fun e => of_hideAll _ e
  have hcd' := codeRec_of X hcd
  refine codeAny_call_def (fd := fnOf name qual params body scope dV kV doc pm an cdv ct) (body := body) (binds := binds) hroom (gs (X _ _ ho)) rfl (T.nolimit.keeps fun b o e => gs e) ?_ rfl hbind hcell hloc (fun h₁ hns hk₁ => ?_) hco hgen hk
  · obtain ⟨a, o, vs, r, e1, e2, e3, e4⟩ := hcd'
    exact ⟨a, o, vs, r, e1, gs e2, e3, e4⟩
  · refine wpAny_mono (h s.heap.objs.size h₁ ⟨hns, fun b o e => hk₁ b o (gs e), Nat.le_of_eq (hideAll_size _ _)⟩
      (fun q hq => ⟨hk₁ _ _ (hsm q hq), Nat.ne_of_lt (Heap.lt_size (hsm q hq)), hideAll_none _ (List.mem_map_of_mem hq)⟩)) (fun fl s' hl => ?_) fun _ _ y => y.elim
    obtain ⟨L', m', small', F', N', hp, e1, e2, e3⟩ := hl
    have := hret _ small' L' m' s'.heap s'.toks hp F' N'
    rw [← e1, ← e2, ← e3] at this
    exact this

open PySem PySem.W PyProof.Rows PySem.Calls PySem.Builtin PySem.Builtin.Re
noncomputable def Differ (i j : Nat) : Prop := i ≠ j
section
variable {M : Model} {A : Around} {E : Value → Shared → Prop} {s : Shared} {K : Frag} {x C L f : Addr} {h₀ : Heap} {m : Str → Option Value} {ox : Obj} {od : Option Obj} {i : Value}
theorem del_own {Q : Unit → Shared → Prop} (X : K.In s.heap) (I : InstAt s.heap x ox C od) (hq : noSeq K C = true) (hs : findIn K (.ref C) "__delitem__" = some (some (.ref f))) (hf : isFn K (.ref f) = true)
    (h : wpAny M A (call (.ref f) [.ref x, i]) (fun _ s' => Q () s') E s) : wpAny M A (delItem (.ref x) i) Q E s := by
  unfold delItem sequenceKey
  refine wpAny_holding (wpAny_bind (wpAny_bind (I.type.here ?_)))
  refine wpAny_bind ((anyM_none X hq).here ?_)
  rw [if_pos (show (!false) = true from rfl)]
  exact wpAny_pure (wpAny_bind (special_fn X I hs (beq_iff_eq.mp hf) (wpAny_mono h (fun _ _ z => wpAny_pure z) fun _ _ z => z)))
end
section
variable {prog : Program} {w : World} {A : Around} {E : Value → Shared → Prop} {s : Shared} {Q : Value → Shared → Prop}
theorem nm_ne_t {i j : Nat} {t u : Tok} (hn : Differ i j) (h : Q (.bool true) s) : wpAny (model prog w) A (compareOp .NotEq (.str (Nm i) t) (.str (Nm j) u)) Q E s := by
  refine PyProof.Rows.ne_str ?_
  rw [show (Nm i != Nm j) = true from bne_iff_ne.mpr fun e => hn (nm_inj e)]; exact h
theorem nm_ne_f {i : Nat} {t u : Tok} (h : Q (.bool false) s) : wpAny (model prog w) A (compareOp .NotEq (.str (Nm i) t) (.str (Nm i) u)) Q E s := by
  refine PyProof.Rows.ne_str ?_
  rw [show (Nm i != Nm i) = false from by simp]; exact h
end

open PySem PySem.W PyProof.Rows PySem.Calls PySem.Builtin PySem.Builtin.Re
noncomputable def NoneP (led : List (Addr × Obj)) (v : Value) (small' : List (Addr × Obj)) : Prop := v = .none ∧ small' = led
theorem SpecG.mono {dp un : Nat} {w : World} {f : Addr} {args : List Value} {kw : List (Str × Value)} {small : List (Addr × Obj)} {Post Post' : Value → List (Addr × Obj) → Prop} (C : SpecG dp un w f args kw small Post)
    (h : ∀ v l, Post v l → Post' v l) : SpecG dp un w f args kw small Post' := fun p loose mean mg mb envs base g s Q E a b c d e k => C p loose mean mg mb envs base g s Q E a b c d e fun v sm L m h' tk hp => k v sm L m h' tk (h _ _ hp)

open PySem PySem.W PyProof.Rows PySem.Calls PySem.Builtin PySem.Builtin.List
section
variable {prog : Program} {w : World} {A : Around} {E : Value → Shared → Prop} {s : Shared} {h₀ : Heap} {L l D S : Addr} {m : Str → Option Value} {xs ys : Array Value} {n n' : Nat}
theorem store_all {Q : Unit → Shared → Prop} (ho : s.heap.get? l = some (listOf xs n)) (hD : s.heap.get? D = some (listOf ys n')) (hS : s.heap.get? S = some { cls := .type "slice", data := .fields #[.none, .none, .none] })
    (hne : l ≠ D) (hz : xs.size + ys.size ≤ 1000) (hQ : ∀ h', h' = s.heap.update l (Obj.mapSeq fun z => z.extract 0 0 ++ ys ++ z.extract xs.size) → Q () { s with heap := h' }) : wpAny (model prog w) A (setItem (.ref l) (.ref S) (.ref D)) Q E s := by
  have hl : s.heap.IsList l xs := PySem.IsL.isList (n := n) ho
  have hT : s.TypeIs (.ref S) "slice" := ⟨_, hS, rfl⟩
  have gi : ∀ {A : Around} {a : Addr} {zs : Array Value} {k : Nat} {Q : Array Value → Shared → Prop}, s.heap.get? a = some (listOf zs k) → Q zs s → wpAny (model prog w) A (listItems (.ref a)) Q E s := fun ho h => by
    unfold listItems
    exact wpAny_bind (wpAny_seqItems ho rfl (wpAny_pure h))
  unfold setItem
  refine wpAny_holding ?_
  refine wpAny_bind (wpAny_sequenceKey hl.typeIs (by decide) ?_)
  refine wpAny_bind (wpAny_callSpecial?_slot (name := Str.ofString "__setitem__") hl.typeIs slot_list_setitem
    (wpAny_call_entry slot_list_setitem hl.typeIs entry_list_setitem ?_ (args_list_setitem _ _ _)))
  show wpAny _ _ (listSubscript? (.ref S) >>= _) _ _ s
  refine wpAny_bind ?_
  unfold listSubscript?
  refine wpAny_bind (wpAny_specialOf hT slice_no_index (wpAny_pure ?_))
  refine wpAny_bind (wpAny_typeOf hT ?_)
  refine wpAny_ite (W.ite_neg (by decide) ?_)
  refine wpAny_bind ?_
  unfold listSliceParts
  refine wpAny_bind (wpAny_field (x := .none) hS rfl rfl ?_)
  refine wpAny_bind (wpAny_of_eq (a := Value.none) rfl ?_)
  refine wpAny_ite (W.ite_neg (by decide) ?_)
  refine wpAny_bind (wpAny_field (x := .none) hS rfl rfl ?_)
  refine wpAny_bind (wpAny_of_eq (a := Value.none) rfl ?_)
  refine wpAny_bind (wpAny_field (x := .none) hS rfl rfl ?_)
  refine wpAny_bind (wpAny_of_eq (a := Value.none) rfl ?_)
  refine wpAny_pure ?_
  dsimp only
  have hsr : listSameRef (.ref l) (.ref D) = false := by
    show (l == D) = false
    exact beq_eq_false_iff_ne.mpr hne
  refine wpAny_ite (W.ite_neg (by rw [hsr]; decide) ?_)
  refine wpAny_bind ?_
  unfold listAllItems
  have hDT : s.TypeIs (.ref D) "list" := ⟨_, hD, rfl⟩
  refine wpAny_bind (wpAny_typeOf hDT ?_)
  refine wpAny_ite (W.ite_pos (by decide) ?_)
  refine gi hD ?_
  refine wpAny_bind (gi ho ?_)
  have hb : sliceIndices .none .none .none xs.size = pure (0, (xs.size : Int), 1) := by
    have := sliceIndices_raw none none none xs.size (fun e => nomatch e)
    refine this.trans ?_
    rfl
  rw [hb]
  refine wpAny_bind (wpAny_pure ?_)
  dsimp only
  refine wpAny_ite (W.ite_pos (by decide) ?_)
  refine wpAny_bind (wpAny_rule ?_)
  refine wpAny_ite (W.ite_neg (by unfold listTooLong; rw [sizeLine_eq]; simp; omega) ?_)
  refine wpAny_bind (wpAny_updateSeq ho rfl ?_ (by rw [sizeLine_eq]; omega) ?_)
  · refine wpAny_bind (wpAny_letGo ?_)
    have e : (Obj.mapSeq fun z => z.extract 0 (Int.toNat 0) ++ ys ++ z.extract (Max.max 0 (xs.size : Int)).toNat) = Obj.mapSeq fun z => z.extract 0 0 ++ ys ++ z.extract xs.size := by
      rw [show (Max.max 0 (xs.size : Int)).toNat = xs.size by omega]; rfl
    refine wpAny_pure ⟨_, rfl, wpAny_pure ?_⟩
    have h2 := hQ (s.heap.update l (Obj.mapSeq fun z => z.extract 0 (Int.toNat 0) ++ ys ++ z.extract (Max.max 0 (xs.size : Int)).toNat)) (by rw [e])
    exact h2
  · rw [sizeLine_eq]; simp; omega
theorem store_K {news news' : List (Addr × Obj)} {Q : Unit → Shared → Prop} (F : Fr h₀ L s.heap m) (N : News h₀ L s.heap news) (hD : (D, listOf ys n') ∈ news)
    (U : Upd l (listOf xs n) (listOf ys (if ys.size == xs.size then n else n + 1)) news news') (hne : @Ne Nat l D) (hz : xs.size + ys.size ≤ 1000)
    (h : ∀ h', Fr h₀ L h' m → News h₀ L h' news' → Q () { s with heap := h' }) :
    wpAny (model prog w) A (setItem (.ref l) (.ref s.heap.objs.size) (.ref D)) Q E { s with heap := s.heap.push { cls := .type "slice", data := .fields #[.none, .none, .none] } } := by
  obtain ⟨pre, post, e1, e2, h1, h2⟩ := U.split
  subst e1 e2
  have F1 := F.push (o := { cls := .type "slice", data := .fields #[.none, .none, .none] })
  have N1 := News.pushKeep N { cls := .type "slice", data := .fields #[.none, .none, .none] }
  have hl1 := (N1 _ (List.mem_append.mpr (.inr (.head _)))).1
  refine store_all (s := { s with heap := s.heap.push { cls := .type "slice", data := .fields #[.none, .none, .none] } }) hl1 (N1 _ hD).1 (Heap.get?_push_size _ rfl) hne hz fun h' e => ?_
  subst e
  have fx : (fun z : Array Value => z.extract 0 0 ++ ys ++ z.extract xs.size) xs = ys := by simp
  have N2 := ki_turn (fun z : Array Value => z.extract 0 0 ++ ys ++ z.extract xs.size) N1 h1 h2 fx rfl
  refine h _ ?_ N2
  exact (news_upd (f := Obj.mapSeq fun z : Array Value => z.extract 0 0 ++ ys ++ z.extract xs.size) F1 N1 h1 h2 rfl rfl).1
end

open PySem PySem.W PyProof.Rows PySem.Calls PySem.Builtin
inductive SignsAre : List Value → List Nat → Prop
  | nil : SignsAre [] []
  | cons (c : Nat) (u : Tok) {vs : List Value} {cs : List Nat} : SignsAre vs cs → SignsAre (.str ⟨#[c]⟩ u :: vs) (c :: cs)
theorem signsAre_of : ∀ (vs : List Value) (cs : List Nat), vs.length = cs.length → (∀ (j : Nat) (v : Value), vs[j]? = some v → ∃ c u, cs[j]? = some c ∧ v = Value.str ⟨#[c]⟩ u) → SignsAre vs cs
  | [], [], _, _ => .nil
  | v :: vs, c :: cs, hl, h => by
    obtain ⟨c', u, e1, e2⟩ := h 0 v rfl
    cases e1
    subst e2
    exact .cons _ _ (signsAre_of vs cs (by simpa using hl) fun j v' hj => h (j + 1) v' (by simpa using hj))
  | [], _ :: _, hl, _ => by simp at hl
  | _ :: _, [], hl, _ => by simp at hl
theorem SignsAre.length {vs : List Value} {cs : List Nat} (h : SignsAre vs cs) : vs.length = cs.length := by induction h <;> simp_all
section
variable {prog : Program} {w : World} {A : Around} {E : Value → Shared → Prop} {s : Shared} {h₀ : Heap} {L : Addr} {m : Str → Option Value} {news : List (Addr × Obj)} {Q : Value → Shared → Prop}
theorem list_text {x : Str} {t : Tok} (hh : A.handled = none) (F : Fr h₀ L s.heap m) (N : News h₀ L s.heap news) (hz : x.cps.size ≤ sizeLine)
    (h : ∀ sg h' tk vs c', Fr h₀ L h' m → News h₀ L h' ((sg, listOf vs.toArray c') :: news) → (∀ p ∈ news, p.1 < sg) → SignsAre vs x.cps.toList → Q (.ref sg) { s with heap := h', toks := tk }) :
    wpAny (model prog w) A (call (.type "list") [.str x t]) Q E s := by
  refine call_list_str hh x t (hn := hz) fun h' tk acc' c' hk hS' hacc => ?_
  refine h _ h' tk acc'.toList c' (F.keeps hk) (fun p hp => ?_) (fun p hp => Heap.lt_size (N p hp).1) (signsAre_of _ _ (by simp [hacc.1]) fun j v hv => ?_)
  · rcases List.mem_cons.mp hp with rfl | hp
    · refine ⟨by simpa using hS', fun e => ?_, ?_⟩
      · obtain ⟨oL, es, ep, hL, _⟩ := F.ns
        have := Heap.lt_size hL
        rw [← show s.heap.objs.size = L from e] at this
        exact absurd this (Nat.lt_irrefl _)
      · cases e : h₀.get? s.heap.objs.size with
        | none => rfl
        | some o => exact absurd (Heap.lt_size (F.keep _ _ e)) (Nat.lt_irrefl _)
    · exact ⟨hk _ _ (N p hp).1, (N p hp).2⟩
  · obtain ⟨c, u, hc, rfl⟩ := hacc.2 j v (by simpa using hv)
    exact ⟨c, u, by simpa using hc, rfl⟩
end

open PySem PySem.W PyProof.Rows PySem.Calls PySem.Builtin PySem.Builtin.ObjectAttr
theorem slot_fn_setattr : Slot "function" "__setattr__" "object.__setattr__" :=
  .of (owner := "object") (n := "__setattr__") (by rw [typeLookup_type, builtinLookup_eq_fast]; kernel_rfl) (by decide +kernel) (by decide +kernel) (by decide +kernel)
    (by first | exact .inl (by decide +kernel) | exact .inr (by decide +kernel)) (by rw [isSubtype_type]; kernel_rfl)
theorem entry_osa : entryFor table "object.__setattr__" = some Builtin.«object.__setattr__» := entryFor_of_tree (by kernel_rfl)
theorem fn_read_none : typeLookup (.type "function") "read" = pure none := by rw [typeLookup_type, builtinLookup_eq_fast]; kernel_rfl
theorem fn_mro : mroOf (.type "function") = pure [.type "function", .type "object"] := by rw [mroOf_type]; kernel_rfl
theorem fn_refuse (self : Value) : refuseLoop self "__setattr__" [.type "function", .type "object"] = pure () := by
  kernel_rfl
section
variable {prog : Program} {w : World} {A : Around} {E : Value → Shared → Prop} {s : Shared} {x : Addr} {fd : FuncData} {sl : Array (Option Value)} {v : Value} {Q : Unit → Shared → Prop}
theorem fn_store (hx : s.heap.get? x = some ⟨.type "function", none, .func fd, sl⟩)
    (h : ∀ h' tk' od, h'.get? x = some ⟨.type "function", some s.heap.objs.size, .func fd, sl⟩ → h'.get? s.heap.objs.size = some od → LCg.NsObj od (fun y => if y = Str.ofString "read" then some v else none) →
      (∀ b o, b ≠ x → s.heap.get? b = some o → h'.get? b = some o) → Q () { s with heap := h', toks := tk' }) :
    wpAny (model prog w) A (setAttr (.ref x) (Str.ofString "read") v) Q E s := by
  have hT : s.TypeIs (.ref x) "function" := ⟨_, hx, rfl⟩
  unfold setAttr
  refine wpAny_bind (wpAny_mkText ?_)
  have hT1 : ({ s with toks := s.toks + 1 } : Shared).TypeIs (.ref x) "function" := ⟨_, hx, rfl⟩
  refine wpAny_bind (wpAny_callSpecial?_slot (name := Str.ofString "__setattr__") hT1 slot_fn_setattr
    (wpAny_call_entry slot_fn_setattr hT1 entry_osa ?_ (F.args_object_setattr_3 _ _ _)))
  show wpAny _ _ (Builtin.«object.__setattr__» ⟨[.ref x, .str (Str.ofString "read") s.toks, v], []⟩) _ _ _
  unfold Builtin.«object.__setattr__»
  dsimp only
  refine wpAny_ite (W.ite_neg (by decide) ?_)
  rw [refuse_eq]
  refine wpAny_bind (wpAny_bind (wpAny_typeOf hT1 ?_))
  rw [fn_mro]
  refine wpAny_bind (wpAny_pure ?_)
  rw [fn_refuse]
  refine wpAny_pure ?_
  refine wpAny_bind (wpAny_of_eq (a := Str.ofString "read") rfl ?_)
  refine wpAny_bind (wpAny_typeOf hT1 ?_)
  refine wpAny_bind (wpAny_of_eq (a := none) fn_read_none ?_)
  refine wpAny_bind (wpAny_of_eq (a := none) rfl ?_)
  dsimp only
  unfold storeInOwnDict
  refine wpAny_bind (wpAny_of_eq (a := ()) rfl ?_)
  refine wpAny_ite (W.ite_neg (by decide) ?_)
  refine wpAny_bind ?_
  show wpAny _ _ (instanceDict x true) _ _ _
  unfold instanceDict
  refine wpAny_bind (wpAny_loadPart hx ?_)
  dsimp only
  refine wpAny_ite (W.ite_neg (by decide) ?_)
  refine wpAny_bind (wpAny_alloc ?_)
  have hx1 : (s.heap.push { cls := .type "dict", data := .dict #[] }).get? x = some ⟨.type "function", none, .func fd, sl⟩ := Heap.get?_push_of_some _ hx
  refine wpAny_bind (wpAny_update hx1 ?_)
  refine wpAny_of_eq (a := some s.heap.objs.size) (by rfl) ?_
  dsimp only
  have hxs : x ≠ s.heap.objs.size := Nat.ne_of_lt (Heap.lt_size hx)
  have hgd : ((s.heap.push { cls := .type "dict", data := .dict #[] }).update x fun o => { cls := o.cls, dict := some s.heap.objs.size, data := o.data, slots := o.slots }).get? s.heap.objs.size
      = some { cls := .type "dict", data := .dict #[] } :=
    (Heap.get?_update_ne _ _ _ _ hxs.symm).trans (Heap.get?_push_at rfl rfl)
  have hnd : ((s.heap.push { cls := .type "dict", data := .dict #[] }).update x fun o => { cls := o.cls, dict := some s.heap.objs.size, data := o.data, slots := o.slots }).Ns s.heap.objs.size (fun _ => none) :=
    ⟨_, #[], _, hgd, rfl, fun e he => absurd he (by simp), fun _ => rfl⟩
  unfold storeInDict newKeyGuard
  refine wpAny_bind (wpAny_pure (wpAny_bind (wpAny_nsSet1 (Heap.Ns1.of_empty hnd) fun h' hn' hs => ?_)))
  obtain ⟨oD, esD, epD, hoD, hdD, hcD⟩ := hn'.count (Within.cons (Str.ofString "read") v Within.nil)
  refine wpAny_bind (wpAny_lookBehind hoD (by rw [hdD]; exact pastItsLine_dict (Nat.le_trans hcD (by rw [List.length_cons, List.length_nil, sizeLine_eq]; omega))) ?_)
  refine wpAny_pure ⟨_, rfl, wpAny_pure ?_⟩
  have hn2 : h'.Ns s.heap.objs.size (fun y => if y = Str.ofString "read" then some v else none) := by
    obtain ⟨o', es, ep, e1, e2, e3, eu, e4⟩ := hn'
    exact ⟨o', es, ep, e1, e2, e3, e4⟩
  obtain ⟨od, ho, hno⟩ := LCg.ns_obj hn2
  refine h h' _ od ?_ ho hno fun b ob hbx hb => ?_
  · refine (hs.2 x hxs).trans (Heap.get?_update_self _ hx1 rfl)
  · exact (hs.2 b (Nat.ne_of_lt (Heap.lt_size hb))).trans ((Heap.get?_update_ne _ _ _ _ hbx).trans (Heap.get?_push_of_some _ hb))
theorem fn_store_K {h₀ : Heap} {L : Addr} {m : Str → Option Value} {rest : List (Addr × Obj)} (F : Fr h₀ L s.heap m) (N : News h₀ L s.heap ((x, ⟨.type "function", none, .func fd, sl⟩) :: rest)) (hne : ∀ p ∈ rest, p.1 ≠ x)
    (h : ∀ dx od h' tk', Fr h₀ L h' m → News h₀ L h' ((dx, od) :: (x, ⟨.type "function", some dx, .func fd, sl⟩) :: rest) → LCg.NsObj od (fun y => if y = Str.ofString "read" then some v else none) → (∀ p ∈ (x, (⟨.type "function", some dx, .func fd, sl⟩ : Obj)) :: rest, p.1 < dx) → Q () { s with heap := h', toks := tk' }) :
    wpAny (model prog w) A (setAttr (.ref x) (Str.ofString "read") v) Q E s := by
  have hx := N _ (.head _)
  refine fn_store hx.1 fun h' tk' od e1 e2 e3 e4 => ?_
  obtain ⟨oL, es, ep, hL, hr⟩ := F.ns
  refine h s.heap.objs.size od h' tk' ⟨⟨oL, es, ep, e4 L oL (Ne.symm hx.2.1) hL, hr⟩, fun b o e => e4 b o (fun z => by have := hx.2.2; rw [← z] at this; rw [e] at this; cases this) (F.keep b o e), F.above⟩ ?_ e3 ?_
  · intro p hp
    rcases List.mem_cons.mp hp with rfl | hp
    · refine ⟨e2, fun z => ?_, ?_⟩
      · have z' : s.heap.objs.size = L := z
        have := Heap.lt_size hL
        rw [z'] at this
        exact Nat.lt_irrefl _ this
      · cases q : h₀.get? s.heap.objs.size with
        | none => rfl
        | some o => exact absurd (Heap.lt_size (F.keep _ _ q)) (Nat.lt_irrefl _)
    · rcases List.mem_cons.mp hp with rfl | hp
      · exact ⟨e1, hx.2⟩
      · exact ⟨e4 _ _ (hne p hp) (N p (.tail _ hp)).1, (N p (.tail _ hp)).2⟩
  · intro p hp
    rcases List.mem_cons.mp hp with rfl | hp
    · exact Heap.lt_size hx.1
    · exact Heap.lt_size (N p (.tail _ hp)).1
end

open PySem PySem.W PyProof.Rows PySem.Calls PySem.Builtin PySem.Builtin.ObjectAttr
theorem slot_fn_ga : Slot "function" "__getattribute__" "object.__getattribute__" :=
  .of (owner := "object") (n := "__getattribute__") (by rw [typeLookup_type, builtinLookup_eq_fast]; kernel_rfl) (by decide +kernel) (by decide +kernel) (by decide +kernel)
    (by first | exact .inl (by decide +kernel) | exact .inr (by decide +kernel)) (by rw [isSubtype_type]; kernel_rfl)
theorem entry_fn_ga : entryFor table "object.__getattribute__" = some Builtin.«object.__getattribute__» := entryFor_of_tree (by kernel_rfl)
theorem canon_fn_ga : (Manifest.canonical "object.__getattribute__" != "object.__getattribute__") = false := by decide +kernel
theorem fn_no_getattr : typeLookup (.type "function") "__getattr__" = pure none := by rw [typeLookup_type, builtinLookup_eq_fast]; kernel_rfl
section
variable {prog : Program} {w : World} {A : Around} {E : Value → Shared → Prop} {s : Shared} {x dx : Addr} {fd : FuncData} {sl : Array (Option Value)} {rd : Addr} {m' : Str → Option Value} {od : Obj}
theorem fn_getAttr {Q : Value → Shared → Prop} (hx : s.heap.get? x = some ⟨.type "function", some dx, .func fd, sl⟩) (hd : s.heap.get? dx = some od) (ho : LCg.NsObj od m') (hm : m' (Str.ofString "read") = some (.ref rd))
    (h : ∀ tk', Q (.ref rd) { s with toks := tk' }) : wpAny (model prog w) A (getAttr (.ref x) (Str.ofString "read") b) Q E s := by
  unfold getAttr
  refine wpAny_bind (wpAny_mkText ?_)
  have hT1 : ({ s with toks := s.toks + 1 } : Shared).TypeIs (.ref x) "function" := ⟨_, hx, rfl⟩
  unfold getAttrBy
  refine wpAny_holding (wpAny_bind (wpAny_typeOf hT1 ?_))
  rw [slot_fn_ga.lookup]
  refine wpAny_bind (wpAny_pure ?_)
  dsimp only
  refine wpAny_ite (W.ite_neg (by simp [onTheHeap]) ?_)
  unfold getAttrByItsOwn
  refine wpAny_bind (wpAny_of_eq (a := none) rfl ?_)
  refine wpAny_bind (wpAny_attempt (wpAny_holding ?_))
  rw [show callGetattribute (.ref x) (.str (Str.ofString "read") s.toks) (.builtin "object.__getattribute__") b = boundAndCalled (.builtin "object.__getattribute__") (.ref x) (.str (Str.ofString "read") s.toks) from by simp [callGetattribute, onTheHeap]]
  unfold boundAndCalled
  rw [slot_fn_ga.bind]
  refine wpAny_bind (wpAny_pure ?_)
  refine wpAny_call_entry slot_fn_ga hT1 entry_fn_ga ?_ (F.args_object_getattribute_2 _ _)
  show wpAny _ _ (Builtin.«object.__getattribute__» ⟨[.ref x, .str (Str.ofString "read") s.toks], []⟩) _ _ _
  unfold Builtin.«object.__getattribute__»
  dsimp only
  refine wpAny_bind (wpAny_of_eq (a := (.ref x, [.str (Str.ofString "read") s.toks])) rfl ?_)
  dsimp only
  refine wpAny_bind (wpAny_of_eq (a := Str.ofString "read") rfl ?_)
  refine wpAny_bind (wpAny_typeOf hT1 ?_)
  refine wpAny_bind ?_
  show wpAny _ _ (find _ _ _) _ _ _
  unfold find
  refine wpAny_bind (wpAny_of_eq (a := none) fn_read_none ?_)
  refine wpAny_bind (wpAny_of_eq (a := none) rfl ?_)
  refine wpAny_bind (wpAny_of_eq (a := none) rfl ?_)
  dsimp only
  unfold ownThenClass
  refine wpAny_bind ?_
  show wpAny _ _ (inOwnDict _ (.ref x)) _ _ _
  unfold inOwnDict
  refine wpAny_bind ?_
  show wpAny _ _ (ObjectAttr.ownDict x) _ _ _
  unfold ObjectAttr.ownDict
  refine wpAny_bind (wpAny_loadPart hx ?_)
  dsimp only
  unfold instanceDict
  refine wpAny_bind (wpAny_loadPart hx ?_)
  dsimp only
  refine wpAny_pure ?_
  show wpAny _ _ (nsGet dx _) _ _ _
  refine wpAny_nsGet (ho.ns hd) ?_
  rw [hm]
  dsimp only
  refine wpAny_bind (wpAny_rule (wpAny_pure ?_))
  dsimp only
  refine wpAny_pure ⟨_, rfl, ?_⟩
  exact wpAny_pure (h _)
theorem fn_getMethod {Q : Value × List Value → Shared → Prop} (pl : Sem Bool)
    (hx : s.heap.get? x = some ⟨.type "function", some dx, .func fd, sl⟩) (hd : s.heap.get? dx = some od) (ho : LCg.NsObj od m') (hm : m' (Str.ofString "read") = some (.ref rd))
    (h : ∀ tk', Q (.ref rd, []) { s with toks := tk' }) : wpAny (model prog w) A (getMethod (.ref x) (Str.ofString "read") pl) Q E s := by
  have hT1 : s.TypeIs (.ref x) "function" := ⟨_, hx, rfl⟩
  unfold getMethod
  dsimp only
  refine wpAny_bind (wpAny_specialOf hT1 slot_fn_ga.lookup ?_)
  dsimp only
  refine wpAny_ite (W.ite_neg (by rw [canon_fn_ga]; decide) ?_)
  refine wpAny_bind (wpAny_specialOf hT1 fn_no_getattr ?_)
  refine wpAny_ite (W.ite_neg (by decide) ?_)
  refine wpAny_bind (wpAny_specialOf hT1 fn_read_none ?_)
  dsimp only
  refine wpAny_bind (fn_getAttr hx hd ho hm fun tk' => ?_)
  exact wpAny_pure (h _)
theorem fn_getMethod_N {h₀ : Heap} {L : Addr} {news : List (Addr × Obj)} {Q : Value × List Value → Shared → Prop} {pl : Sem Bool} (N : News h₀ L s.heap news)
    (hx : (x, ⟨.type "function", some dx, .func fd, sl⟩) ∈ news) (hd : (dx, od) ∈ news) (ho : LCg.NsObj od (fun y => if y = Str.ofString "read" then some (.ref rd) else none))
    (h : ∀ tk', Q (.ref rd, []) { s with toks := tk' }) : wpAny (model prog w) A (getMethod (.ref x) (Str.ofString "read") pl) Q E s :=
  fn_getMethod pl (N _ hx).1 (N _ hd).1 ho (if_pos rfl) h
end
open PySem PySem.W PyProof.Rows PySem.Calls PySem.Builtin
section
variable {prog : Program} {w : World} {A : Around} {E : Value → Shared → Prop} {s : Shared} {h₀ : Heap} {L D : Addr} {m : Str → Option Value} {news news' : List (Addr × Obj)} {y : Value} {vs : List Value} {n : Nat}
theorem truth_signs {Q : Bool → Shared → Prop} (N : News h₀ L s.heap news) (hm : (D, W.listOf (y :: vs).toArray n) ∈ news) (hz : vs.length < 4000)
    (h : ∀ tk', Q true { s with toks := tk' }) : wpAny (model prog w) A (truthy (.ref D)) Q E s :=
  wpAny_truthy_list (items := (y :: vs).toArray) ⟨_, (N _ hm).1, rfl, _, rfl⟩ (by simp; omega) (by simpa using h _)
theorem truth_none {Q : Bool → Shared → Prop} (N : News h₀ L s.heap news) (hm : (D, W.listOf ([] : List Value).toArray n) ∈ news)
    (h : ∀ tk', Q false { s with toks := tk' }) : wpAny (model prog w) A (truthy (.ref D)) Q E s :=
  wpAny_truthy_list (items := ([] : List Value).toArray) ⟨_, (N _ hm).1, rfl, _, rfl⟩ (by simp) (by simpa using h _)
theorem pop_signs {u : Tok} {Q : Value → Shared → Prop} (F : Fr h₀ L s.heap m) (N : News h₀ L s.heap news) (U : Upd D (W.listOf (y :: vs).toArray n) (W.listOf vs.toArray (n + 1)) news news') (hz : vs.length < 4000)
    (h : ∀ h', Fr h₀ L h' m → News h₀ L h' news' → Q y { s with heap := h' }) : wpAny (model prog w) A (call (.builtin "list.pop") [.ref D, .int 0 u]) Q E s :=
  kl_popAt (k := 0) (p := []) (q := vs) (y := y) F N (by decide) (by simp [seqIndex?]) (by simp [kl_cut]) U (by simp [sizeLine_eq]; omega) h
end
open PySem PySem.W PyProof.Rows PySem.Calls PySem.Builtin
section
variable {prog : Program} {w : World} {A : Around} {E : Value → Shared → Prop} {s : Shared} {Q : Value → Shared → Prop}
theorem ch_eq_f {c d : Nat} {lit : Str} {t u : Tok} (hl : lit = ⟨#[d]⟩) (hn : c ≠ d) (h : Q (.bool false) s) : wpAny (model prog w) A (compareOp .Eq (.str ⟨#[c]⟩ t) (.str lit u)) Q E s := by
  subst hl
  refine PyProof.Rows.eq_str ?_
  rw [show ((⟨#[c]⟩ : Str) == ⟨#[d]⟩) = false from beq_eq_false_iff_ne.mpr fun e => hn (by simpa using congrArg Str.cps e)]; exact h
theorem ch_eq_t {c : Nat} {lit : Str} {t u : Tok} (hl : lit = ⟨#[c]⟩) (h : Q (.bool true) s) : wpAny (model prog w) A (compareOp .Eq (.str ⟨#[c]⟩ t) (.str lit u)) Q E s := by
  subst hl
  refine PyProof.Rows.eq_str ?_
  rw [show ((⟨#[c]⟩ : Str) == ⟨#[c]⟩) = true from by simp]; exact h
end

open PySem PySem.W PyProof.Rows PySem.Calls PySem.Builtin
noncomputable def rdFind (h : Frag) : Option (Arguments × List Stmt × Scope) := match h.lookup 269 with
  | some ⟨_, _, .func fd, _⟩ => (match fd.body with
    | .stmts (_ :: .FunctionDef _ a b _ _ _ sc _ _ _ :: _) => some (a, b, sc)
    | _ => none)
  | _ => none
noncomputable def rdParts (w : World) : { x : Arguments × List Stmt × Scope // rdFind (Mine.K w.params) = some x } := ⟨_, rfl⟩
noncomputable abbrev rdO (w : World) (ql : Str) (ce : Addr) (doc pm : Value) (c2 : Addr) (ct : Value) : Obj := fnMade (Str.ofString "_law_read_on") ql (rdParts w).1.1 (rdParts w).1.2.1 (rdParts w).1.2.2 [(Str.ofString "signs", ce)] doc pm c2 ct
noncomputable abbrev lexD (w : World) (tape l : Addr) (ln : Int) (t1 t2 t3 t4 u1 u3 : Tok) (c : Nat) : Obj := dictOf [{ hash := PyData.keyHash w.params (Str.ofString "lineno"), key := .str (Str.ofString "lineno") t1, val := .int ln u1 },
  { hash := PyData.keyHash w.params (Str.ofString "instream"), key := .str (Str.ofString "instream") t2, val := .ref tape },
  { hash := PyData.keyHash w.params (Str.ofString "whitespace"), key := .str (Str.ofString "whitespace") t3, val := .str (Str.ofString "\n\t\x0d ") u3 },
  { hash := PyData.keyHash w.params (Str.ofString "pushback"), key := .str (Str.ofString "pushback") t4, val := .ref l }] c
open PySem PySem.W PyProof.Rows PySem.Calls PySem.Builtin
structure Lx where
  (l x d dx f f2 c2 sg ce : Addr)
  (t1 t2 t3 t4 u3 tq : Tok)
  (od oc oce : Obj)
  (fd : FuncData)
  (sl : Array (Option Value))
  (ql : Str)
  (doc pm ct : Value)
  (cv : Array Value)
  (hb : Heap)
structure LexH (X : Lx) : Prop where
  gate : CodeHd X.hb 268 264
  od : LCg.NsObj X.od (fun y => if y = Str.ofString "read" then some (.ref X.f2) else none)
  cv : X.oc.data = .fields X.cv
  cq : X.cv[1]? = some (.str X.ql X.tq)
  ce : X.oce.data = .cell (some (.ref X.sg))
  o1 : @LT.lt Nat _ X.ce X.sg
  o2 : @LT.lt Nat _ X.sg X.c2
  o3 : @LT.lt Nat _ X.c2 X.f2
  o4 : @LT.lt Nat _ X.f2 X.f
  o5 : @LT.lt Nat _ X.f X.dx
  o6 : @LT.lt Nat _ X.dx X.d
  o7 : @LT.lt Nat _ X.d X.x
  o8 : @LT.lt Nat _ X.x X.l
noncomputable abbrev lexR (w : World) (X : Lx) (ln : Int) (u1 : Tok) (vs : List Value) (c3 : Nat) : List (Addr × Obj) :=
  [(X.x, instObj 220 X.d), (X.d, lexD w X.f X.l ln X.t1 X.t2 X.t3 X.t4 u1 X.u3 4), (X.dx, X.od), (X.f, ⟨.type "function", some X.dx, .func X.fd, X.sl⟩), (X.f2, rdO w X.ql X.ce X.doc X.pm X.c2 X.ct), (X.c2, X.oc), (X.sg, W.listOf vs.toArray c3), (X.ce, X.oce)]
noncomputable abbrev lexL (w : World) (X : Lx) (ln : Int) (u1 : Tok) (vs : List Value) (c3 : Nat) (pb : Array Value) (c4 : Nat) : List (Addr × Obj) :=
  (X.l, W.listOf pb c4) :: lexR w X ln u1 vs c3
open PySem PySem.W PyProof.Rows PySem.Calls PySem.Builtin
theorem lexL_le {w : World} {X : Lx} (H : LexH X) {ln : Int} {u1 : Tok} {vs : List Value} {c3 : Nat} {pb : Array Value} {c4 : Nat} : ∀ q ∈ lexL w X ln u1 vs c3 pb c4, @LE.le Nat _ X.ce q.1 ∧ @LE.le Nat _ q.1 X.l := by
  obtain ⟨_, _, _, _, _, o1, o2, o3, o4, o5, o6, o7, o8⟩ := H
  intro q hq
  simp only [List.mem_cons, List.not_mem_nil, or_false] at hq
  have a2 := Nat.lt_trans o1 o2
  have a3 := Nat.lt_trans a2 o3
  have a4 := Nat.lt_trans a3 o4
  have a5 := Nat.lt_trans a4 o5
  have a6 := Nat.lt_trans a5 o6
  have a7 := Nat.lt_trans a6 o7
  have a8 := Nat.lt_trans a7 o8
  have b7 := Nat.lt_trans o7 o8
  have b6 := Nat.lt_trans o6 b7
  have b5 := Nat.lt_trans o5 b6
  have b4 := Nat.lt_trans o4 b5
  have b3 := Nat.lt_trans o3 b4
  have b2 := Nat.lt_trans o2 b3
  rcases hq with rfl | rfl | rfl | rfl | rfl | rfl | rfl | rfl | rfl <;> (constructor <;> (first | exact Nat.le_refl _ | exact Nat.le_of_lt (by assumption)))
theorem lexL_up {w : World} {X : Lx} (H : LexH X) {ln : Int} {u1 : Tok} {vs : List Value} {c3 : Nat} {pb : Array Value} {c4 : Nat} {a : Addr} (h : @LT.lt Nat _ X.l a) : ∀ q ∈ lexL w X ln u1 vs c3 pb c4, a ≠ q.1 := fun q hq e => by
  have := (lexL_le H q hq).2
  rw [← e] at this
  exact absurd (Nat.lt_of_lt_of_le h this) (Nat.lt_irrefl _)

open PySem PySem.W PyProof.Rows PySem.Calls PySem.Builtin PySem.Builtin.Re
theorem rowsRC : True := by
  k_with_none
  k_with "storeName" => (k_here; k_dflt (refine' storeX_Lr ?F ?N ?a ?b ?_; (case a => exact rfl); (case b => exact rfl); (case F => k_asm); (case N => k_asm); k_whole; intro _ _ _; (try k_sweep)))
  k_with "eval Name" => (k_here; k_dflt (refine' nameX_Lr ?F ?a ?b ?v ?_; (case a => exact rfl); (case b => exact rfl); (case F => k_asm); (case v => exact rfl); k_whole))
  k_with "execs cons" => (refine wpAny_execs_cons ?_; (try k_fold))
  k_with "sub" => first | exact List.forall_mem_nil _ | exact fun _ h9 => h9 | ((first | refine' sub_keep ?_ | refine' sub_drop ?_); k_extra "sub")
  k_with "tb_rel" => first | (k_extra "sub"; done) | exact List.forall_mem_nil _ | (refine' fmc ?sa ?sb; (case sa => k_mem); (case sb => k_extra "tb_rel"))
  k_with "tb_start" => ((try (have HL9 := ‹LexH _›; obtain ⟨_, _, _, _, _, _, _, _, _, _, _, _, _⟩ := HL9)); unfold SpecC; k_fill; intro _ _ _ _ _ _ _ _ _ _ _ hg9 hs9; (try dsimp only [hdrD, tupO, lexL, lexR, lexD, rdO, rdParts] at hg9 hs9); revert hg9 hs9; intro _ _ _ _ _ _; k_dflt (refine' call_C ?k1 ?k2 ?k3 ?k4 ?k5 ?k10 ?k6 ?k7 ?k8 ?k9 ?kB ?_ ?c2 ?c3 ?c4 ?c5; (case k1 => k_asm); (case k2 => k_asm); (case k3 => k_asm); (case k4 => k_asm); (case k5 => k_asm); (case k10 => k_asm); (case k6 => k_is); (case k7 => k_is); (case k8 => decide); (case k9 => first | exact BindsTo.of_eq rfl | exact binds_K (by k_in) rfl (by k_is) rfl rfl rfl | exact binds_K (in_of_hide (by assumption) (by assumption)) rfl (by k_is) rfl rfl rfl); (case c5 => decide); (case kB => exact locs rfl); (case c2 => exact rfl); (case c3 => exact rfl); (case c4 => exact rfl); k_whole; intro _ _ _ _; (try dsimp only); (try k_fold)))
  k_with "LeaveS" => k_dflt (refine' leaveS_ ?k1 ?k2 ⟨⟨?_, ?ke⟩, ?kg, ?kd, ?ko⟩; (case ke => exact rfl); (case kg => exact rfl); (case kd => exact rfl); (case ko => exact rfl); (case k1 => k_asm); (case k2 => refine cb_drop (by k_asm) ?_; k_extra "tb_rel"))
  k_with "call ref" => (k_here; (with_reducible show wpAny _ _ (call (Value.ref 70) [_, Value.str _ _] _) _ _ _); k_dflt ((show wpAny _ _ (call (Value.ref 70) [_, Value.str _ _] [(Str.ofString "name", Value.bool true)]) _ _ _); refine' SpecK.use (convN _ _ ?q _ _ _) ?B ?F ?X ?N ?T ?hA ?hK ?hh ?hd ?hu ?_; (case hA => exact rfl); (case B => k_asm); (case F => k_asm); (case X => k_asm); (case N => k_asm); (case T => k_asm); (case hK => first | rfl | assumption); (case hh => rfl); (case hd => exact Nat.le_of_ble_eq_true rfl); (case hu => exact Nat.le_of_ble_eq_true rfl); (case q => first | assumption | exact quiet_names (by assumption) | decide +kernel); k_whole; (rintro v' news' h' tk' ⟨⟨t', e1'⟩, e2'⟩ F' N'); subst e1'; subst e2'; (try k_sweep)))
  k_with "call ref" => (k_here; (with_reducible show wpAny _ _ (call (Value.ref 70) [_, Value.str _ _] _) _ _ _); k_dflt ((show wpAny _ _ (call (Value.ref 70) [_, Value.str _ _] [(Str.ofString "name", Value.bool false)]) _ _ _); refine' SpecK.use (convV _ _ ?q _ _ _) ?B ?F ?X ?N ?T ?hA ?hK ?hh ?hd ?hu ?_; (case hA => exact rfl); (case B => k_asm); (case F => k_asm); (case X => k_asm); (case N => k_asm); (case T => k_asm); (case hK => first | rfl | assumption); (case hh => rfl); (case hd => exact Nat.le_of_ble_eq_true rfl); (case hu => exact Nat.le_of_ble_eq_true rfl); (case q => first | assumption | exact quiet_words (by assumption) (by assumption) | decide +kernel); k_whole; (rintro v' news' h' tk' ⟨⟨t', e1'⟩, e2'⟩ F' N'); subst e1'; subst e2'; (try k_sweep)))
  k_with "call builtin:str.lower" => (k_here; k_dflt ((show wpAny _ _ (call (Value.builtin "str.lower") [Value.str (Nm _) _]) _ _ _); refine lower_nm (by assumption) ?_; intro _ _))
  k_with "exec For Tuple Attribute" => (k_here; (rename Fr _ _ _ _ => lF'); (with_unfolding_all refine' For_turns lF' ?_; k_whole))
  k_with "getMethod ref" => (k_here; (with_reducible show wpAny _ _ (getMethod (Value.ref _) (Str.ofString "read") _) _ _ _); k_dflt (refine' fn_getMethod_N ?N ?hx ?hd ?ho ?_; (case N => k_asm); (case hx => k_mem); (case hd => k_mem); (case ho => assumption); k_whole; intro tk'; (try dsimp only); (try k_sweep)))
  k_with "truthy ref" => (k_here; (with_reducible show wpAny _ _ (truthy (Value.ref _)) _ _ _); k_dflt (first | (refine' truth_signs ?N ?m ?z ?_; (case N => k_asm); (case m => k_mem); (case z => assumption); k_whole) | (refine' truth_none ?N ?m ?_; (case N => k_asm); (case m => k_mem); k_whole)); intro tk'; (try simp only [if_true, if_false, Bool.false_eq_true]))
  k_with "call builtin:list.pop" => (k_here; (with_reducible show wpAny _ _ (call (Value.builtin "list.pop") [Value.ref _, Value.int _ _]) _ _ _); k_dflt (refine' pop_signs ?F ?N ?U ?z ?_; (case F => k_asm); (case N => k_asm); (case U => k_upd); (case z => assumption); k_whole); intro h' F' N'; (try k_sweep))
  k_with "compareOp Eq str str" => (k_here; (with_reducible show wpAny _ _ (compareOp _ (Value.str ⟨#[_]⟩ _) _) _ _ _); k_dflt (first
  | (refine' ch_eq_t ?h ?_; (case h => exact rfl))
  | (refine' ch_eq_f (d := 10) ?h ?n ?_; (case h => exact rfl); (case n => first | assumption | decide))
  | (refine' ch_eq_f (d := 34) ?h ?n ?_; (case h => exact rfl); (case n => first | assumption | decide))
  | (refine' ch_eq_f (d := 92) ?h ?n ?_; (case h => exact rfl); (case n => first | assumption | decide))))
  k_with "call builtin:iter" => (k_here; (with_reducible show wpAny _ _ (call (Value.builtin "iter") [Value.ref _, Value.str _ _]) _ _ _); k_dflt (refine' iter2_K ?F ?N ?q ?_; (case F => k_asm); (case N => k_asm); (case q => k_mem); k_whole); intro it' h' F' N' l1; (try k_lt l1); (try k_sweep))
  k_with "pyIter ref" => (k_here; (with_reducible show wpAny _ _ (pyIter (Value.ref _)) _ _ _); k_dflt (refine' pyIter_cit ?N ?i ?_; (case N => k_asm); (case i => k_mem); k_whole))
  k_with "exec For Name Name cons nil" => (k_here; k_dflt (refine' wpAny_For ?_ ?_; (case refine'_2 => (intro _; exact rfl)); k_whole))
  trivial
theorem rc_ch (w : World) (X : Lx) (HL : LexH X) (ln : Int) (u1 : Tok) (c3 c4 : Nat) (pb : Array Value) (ch : Nat) (uc : Tok) (vs : List Value) (hch : ch ≠ 10) (hvs : vs.length < 4000) :
    SpecC 800 6000 w 203 [.ref X.x] [] (lexL w X ln u1 (Value.str ⟨#[ch]⟩ uc :: vs) c3 pb c4)
      (fun v small' => (∃ c' u', small' = lexL w X ln u' vs c' pb c4) ∧ v = .str ⟨#[ch]⟩ uc) := by
  k_extra "tb_start"
  k_steps
  all_goals (try dsimp only)
  refine' leaveS_ ?k1 ?k2 ⟨⟨⟨?_, ?_, rfl⟩, rfl⟩, rfl, rfl, rfl⟩
  case k1 => k_asm
  case k2 => (refine' cb_drop ?c1 ?c2; (case c1 => k_asm); (case c2 => k_extra "tb_rel"))
theorem rc_nl (w : World) (X : Lx) (HL : LexH X) (ln : Int) (u1 : Tok) (c3 c4 : Nat) (pb : Array Value) (uc : Tok) (vs : List Value) (hvs : vs.length < 4000) :
    SpecC 800 6000 w 203 [.ref X.x] [] (lexL w X ln u1 (Value.str ⟨#[10]⟩ uc :: vs) c3 pb c4)
      (fun v small' => (∃ c' u', small' = lexL w X (ln + 1) u' vs c' pb c4) ∧ v = .str ⟨#[10]⟩ uc) := by
  k_extra "tb_start"
  k_steps
  all_goals (try dsimp only)
  refine' leaveS_ ?k1 ?k2 ⟨⟨⟨?_, ?_, rfl⟩, rfl⟩, rfl, rfl, rfl⟩
  case k1 => k_asm
  case k2 => (refine' cb_drop ?c1 ?c2; (case c1 => k_asm); (case c2 => k_extra "tb_rel"))
theorem rc_end (w : World) (X : Lx) (HL : LexH X) (ln : Int) (u1 : Tok) (c3 c4 : Nat) (pb : Array Value)  :
    SpecC 800 6000 w 203 [.ref X.x] [] (lexL w X ln u1 [] c3 pb c4)
      (fun v small' => (∃ c' u', small' = lexL w X ln u' [] c' pb c4) ∧ ∃ t', v = .str (Str.ofString "") t') := by
  k_extra "tb_start"
  k_steps
  all_goals (try dsimp only)
  refine' leaveS_ ?k1 ?k2 ⟨⟨⟨?_, ?_, rfl⟩, ⟨_, rfl⟩⟩, rfl, rfl, rfl⟩
  case k1 => k_asm
  case k2 => (refine' cb_drop ?c1 ?c2; (case c1 => k_asm); (case c2 => k_extra "tb_rel"))

open PySem PySem.W PyProof.Rows PySem.Calls PySem.Builtin
theorem slot_cit_next : Slot "callable_iterator" "__next__" "callable_iterator.__next__" :=
  .of (owner := "callable_iterator") (n := "__next__") (by rw [typeLookup_type, builtinLookup_eq_fast]; kernel_rfl) (by decide +kernel) (by decide +kernel) (by decide +kernel)
    (by first | exact .inl (by decide +kernel) | exact .inr (by decide +kernel)) (by rw [isSubtype_type]; kernel_rfl)
theorem slot_cit_iter : Slot "callable_iterator" "__iter__" "callable_iterator.__iter__" :=
  .of (owner := "callable_iterator") (n := "__iter__") (by rw [typeLookup_type, builtinLookup_eq_fast]; kernel_rfl) (by decide +kernel) (by decide +kernel) (by decide +kernel)
    (by first | exact .inl (by decide +kernel) | exact .inr (by decide +kernel)) (by rw [isSubtype_type]; kernel_rfl)
theorem entry_cit_next : entryFor table "callable_iterator.__next__" = some Builtin.«callable_iterator.__next__» := entryFor_of_tree (by kernel_rfl)
theorem entry_cit_iter : entryFor table "callable_iterator.__iter__" = entryFor table "dict_keyiterator.__iter__" := by
  rw [PySem.F.entry_dict_keyiterator_iter]
  exact entryFor_alias (id' := "dict_keyiterator.__iter__") (by kernel_rfl) (by first | rfl | decide +kernel) (by decide +kernel) (by kernel_rfl)
theorem owner_cit : Manifest.owners.lookup (String.ofList ['r','o','t','a','r','e','t','i','_','e','l','b','a','l','l','a','c'].reverse) = some Manifest.«sig_callable_iterator» := by kernel_rfl
theorem meth_call_lookup : typeLookup (.type "method") "__call__" = pure (some (.builtin "method.__call__")) := by rw [typeLookup_type, builtinLookup_eq_fast]; kernel_rfl
theorem args_iter2 (a b : Value) : argsOk "iter" ⟨[a, b], []⟩ := by unfold argsOk; kernel_rfl
theorem args_cit_next (a : Value) : argsOk "callable_iterator.__next__" ⟨[a], []⟩ := by
  unfold argsOk; rw [signature?_of (id := "callable_iterator.__next__") (n := ['_', '_', 't', 'x', 'e', 'n', '_', '_']) (o := ['r','o','t','a','r','e','t','i','_','e','l','b','a','l','l','a','c']) (by kernel_rfl) owner_cit]; kernel_rfl
theorem args_cit_iter (a : Value) : argsOk "callable_iterator.__iter__" ⟨[a], []⟩ := by
  unfold argsOk; rw [signature?_of (id := "callable_iterator.__iter__") (n := ['_', '_', 'r', 'e', 't', 'i', '_', '_']) (o := ['r','o','t','a','r','e','t','i','_','e','l','b','a','l','l','a','c']) (by kernel_rfl) owner_cit]; kernel_rfl
theorem entry_cit_iter' : entryFor table "callable_iterator.__iter__" = some Builtin.«dict_keyiterator.__iter__» := entry_cit_iter.trans PySem.F.entry_dict_keyiterator_iter
noncomputable abbrev callIt (q : Addr) (u : Tok) : Obj := { cls := .type "callable_iterator", data := .fields #[.ref q, .str (Str.ofString "") u, .bool false] }
section
variable {prog : Program} {w : World} {A : Around} {E : Value → Shared → Prop} {s : Shared} {h₀ : Heap} {L it q fA : Addr} {m : Str → Option Value} {news : List (Addr × Obj)} {u : Tok} {self : Value}
theorem iter2_K {Q : Value → Shared → Prop} (F : Fr h₀ L s.heap m) (N : News h₀ L s.heap news) (hq : (q, methodObj (.ref fA) self) ∈ news)
    (h : ∀ it h', Fr h₀ L h' m → News h₀ L h' ((it, callIt q u) :: news) → (∀ p ∈ news, p.1 < it) → Q (.ref it) { s with heap := h' }) :
    wpAny (model prog w) A (call (.builtin "iter") [.ref q, .str (Str.ofString "") u]) Q E s := by
  have hT : s.TypeIs (.ref q) "method" := ⟨_, (N _ hq).1, rfl⟩
  refine call_function_entry (by decide +kernel) (by decide +kernel) kdk_entry_iter (args_iter2 _ _) ?_
  unfold Builtin.«iter»
  refine wpAny_bind (m := someArgs "iter" 1 2 _) (wpAny_of_eq (a := [Value.ref q, Value.str (Str.ofString "") u]) (by first | rfl | kernel_rfl!) ?_)
  dsimp only
  refine wpAny_bind (wpAny_specialOf hT meth_call_lookup ?_)
  refine wpAny_ite (W.ite_neg (by simp) ?_)
  refine wpAny_bind (wpAny_rule (wpAny_bind ?_))
  show wpAny _ _ (newObj (.type "callable_iterator") (.fields _)) _ _ _
  refine wpAny_newObj_type ?_ (by size_fits)
  exact wpAny_pure ⟨_, rfl, h _ _ (F.push _) (News.push F N _ rfl) (fun r hr => Heap.lt_size (N r hr).1)⟩
theorem pyIter_cit {Q : Value → Shared → Prop} (N : News h₀ L s.heap news) (hi : (it, callIt q u) ∈ news) (h : Q (.ref it) s) : wpAny (model prog w) A (pyIter (.ref it)) Q E s := by
  have hT : s.TypeIs (.ref it) "callable_iterator" := ⟨_, (N _ hi).1, rfl⟩
  refine wpAny_pyIter_slot hT slot_cit_iter (wpAny_call_entry slot_cit_iter hT entry_cit_iter' ?_ (args_cit_iter _))
  show wpAny _ _ (ret (.ref it)) _ _ s
  exact wpAny_pure ⟨_, rfl, "callable_iterator", _, hT, slot_cit_next.lookup, h⟩
theorem wpAny_callBorrowed {f : Value} {pos : List Value} {Q : Value → Shared → Prop} (hc : codeAny (model prog w) A (.call f ⟨pos, []⟩) (okRet Q E) s) : wpAny (model prog w) A (callBorrowed f pos) Q E s := fun Γ p hΓ => by
  unfold callBorrowed
  rw [Sem.wp_call]
  refine wpCode_mono (fun r s' hr => ?_) (hc _ p rfl (hΓ.enter _ none p (by intro x; cases x)))
  cases r with
  | error e => exact hr
  | ok f => cases f <;> first | exact hr | exact hr.elim
theorem borrows {A : Around} {Q : Bool → Shared → Prop} {fo : Obj} {fd : FuncData} (hq : s.heap.get? q = some (methodObj (.ref fA) self)) (hf : s.heap.get? fA = some fo) (hd : fo.data = .func fd) (h : Q true s) : wpAny (model prog w) A (borrowsExactly (.ref q)) Q E s := by
  unfold borrowsExactly
  dsimp only
  refine wpAny_bind (wpAny_load hq ?_)
  dsimp only
  refine wpAny_ite (W.ite_pos (by decide) ?_)
  refine wpAny_bind (wpAny_load (a := fA) hf ?_)
  rw [hd]
  exact wpAny_pure h
end

open PySem PySem.W PyProof.Rows PySem.Calls PySem.Builtin
section
variable {prog : Program} {w : World} {A : Around} {E : Value → Shared → Prop} {s : Shared} {h₀ : Heap} {L it q fA : Addr} {m : Str → Option Value} {news : List (Addr × Obj)} {u : Tok} {self : Value} {fo : Obj} {fd : FuncData}
theorem next_ch {Q : Option Value → Shared → Prop} (N : News h₀ L s.heap news) (hi : (it, callIt q u) ∈ news) (hq : (q, methodObj (.ref fA) self) ∈ news) (hf : s.heap.get? fA = some fo) (hd : fo.data = .func fd)
    (h : codeAny (model prog w) A.in1 (.call (.ref fA) ⟨[self], []⟩) (okRet (fun v s' => ∃ c uc, v = .str ⟨#[c]⟩ uc ∧ s'.heap.get? it = some (callIt q u) ∧ Q (some v) s') (fun _ _ => False)) s) :
    wpAny (model prog w) A (pyNext (.ref it)) Q E s := by
  have ho := (N _ hi).1
  have hT : s.TypeIs (.ref it) "callable_iterator" := ⟨_, ho, rfl⟩
  unfold pyNext
  refine wpAny_bind (wpAny_attempt (wpAny_callSpecial?_slot (name := Str.ofString "__next__") hT slot_cit_next
    (wpAny_call_entry slot_cit_next hT entry_cit_next ?_ (args_cit_next _))))
  show wpAny _ _ (field (.ref it) 2 >>= _) _ _ s
  refine wpAny_bind (wpAny_field ho rfl (x := .bool false) rfl ?_)
  refine wpAny_ite (W.ite_neg (by decide) ?_)
  show wpAny _ _ (field (.ref it) 0 >>= _) _ _ s
  refine wpAny_bind (wpAny_field ho rfl (x := .ref q) rfl ?_)
  refine wpAny_bind (wpAny_attempt ?_)
  unfold callOutOfASlot
  refine wpAny_bind (borrows (N _ hq).1 hf hd ?_)
  rw [if_pos rfl]
  refine wpAny_callBorrowed (method_call (N _ hq).1 (codeAny_mono h ?_))
  intro r s' hr
  cases r with
  | error e => exact hr.elim
  | ok fl =>
    cases fl with
    | ret v =>
      obtain ⟨c, uc, rfl, ho', hQ⟩ := hr
      dsimp only
      show wpAny _ _ (field (.ref it) 2 >>= _) _ _ s'
      refine wpAny_bind (wpAny_field ho' rfl (x := .bool false) rfl ?_)
      refine wpAny_ite (W.ite_neg (by decide) ?_)
      show wpAny _ _ (field (.ref it) 1 >>= _) _ _ s'
      refine wpAny_bind (wpAny_field ho' rfl (x := .str (Str.ofString "") u) rfl ?_)
      refine wpAny_bind (wpAny_holding (wpAny_eqBool_str ?_))
      rw [show decide (Str.ofString "" = (⟨#[c]⟩ : Str)) = false from decide_eq_false fun e => by
        have := congrArg (fun x : Str => x.cps.size) e
        exact absurd (show (0:Nat) = 1 from this) (by decide)]
      refine wpAny_ite (W.ite_pos rfl ?_)
      exact wpAny_bind (wpAny_pure (wpAny_pure ⟨_, rfl, wpAny_pure hQ⟩))
    | next => exact hr.elim
    | cont => exact hr.elim
    | brk => exact hr.elim
theorem next_end {Q : Option Value → Shared → Prop} (hh : A.handled = none) (N : News h₀ L s.heap news) (hi : (it, callIt q u) ∈ news) (hq : (q, methodObj (.ref fA) self) ∈ news) (hf : s.heap.get? fA = some fo) (hd : fo.data = .func fd)
    (h : codeAny (model prog w) A.in1 (.call (.ref fA) ⟨[self], []⟩) (okRet (fun v s' => ∃ uc, v = .str (Str.ofString "") uc ∧ s'.heap.get? it = some (callIt q u) ∧ s'.heap.get? q = some (methodObj (.ref fA) self) ∧ s'.heap.get? fA = some fo ∧
      ∀ h', Heap.ExtBut it s'.heap h' → Q none { s' with heap := h' }) (fun _ _ => False)) s) :
    wpAny (model prog w) A (pyNext (.ref it)) Q E s := by
  have ho := (N _ hi).1
  have hT : s.TypeIs (.ref it) "callable_iterator" := ⟨_, ho, rfl⟩
  unfold pyNext
  refine wpAny_bind (wpAny_attempt (wpAny_callSpecial?_slot (name := Str.ofString "__next__") hT slot_cit_next
    (wpAny_call_entry slot_cit_next hT entry_cit_next ?_ (args_cit_next _))))
  show wpAny _ _ (field (.ref it) 2 >>= _) _ _ s
  refine wpAny_bind (wpAny_field ho rfl (x := .bool false) rfl ?_)
  refine wpAny_ite (W.ite_neg (by decide) ?_)
  show wpAny _ _ (field (.ref it) 0 >>= _) _ _ s
  refine wpAny_bind (wpAny_field ho rfl (x := .ref q) rfl ?_)
  refine wpAny_bind (wpAny_attempt ?_)
  unfold callOutOfASlot
  refine wpAny_bind (borrows (N _ hq).1 hf hd ?_)
  rw [if_pos rfl]
  refine wpAny_callBorrowed (method_call (N _ hq).1 (codeAny_mono h ?_))
  intro r s' hr
  cases r with
  | error e => exact hr.elim
  | ok fl =>
    cases fl with
    | ret v =>
      obtain ⟨uc, rfl, ho', hq', hf', hQ⟩ := hr
      dsimp only
      show wpAny _ _ (field (.ref it) 2 >>= _) _ _ s'
      refine wpAny_bind (wpAny_field ho' rfl (x := .bool false) rfl ?_)
      refine wpAny_ite (W.ite_neg (by decide) ?_)
      show wpAny _ _ (field (.ref it) 1 >>= _) _ _ s'
      refine wpAny_bind (wpAny_field ho' rfl (x := .str (Str.ofString "") u) rfl ?_)
      refine wpAny_bind (wpAny_holding (wpAny_eqBool_str ?_))
      rw [show decide (Str.ofString "" = Str.ofString "") = true from decide_eq_true rfl]
      refine wpAny_ite (W.ite_neg (by decide) ?_)
      refine wpAny_bind (wpAny_rule (wpAny_bind ?_))
      show wpAny _ _ (field (.ref it) 0 >>= _) _ _ s'
      refine wpAny_bind (wpAny_field ho' rfl (x := .ref q) rfl ?_)
      refine wpAny_bind ?_
      show wpAny _ _ (slotLetsGo _ (.ref q) _) _ _ s'
      unfold slotLetsGo
      dsimp only
      refine wpAny_bind (borrows hq' hf' hd ?_)
      refine wpAny_ite (W.ite_pos rfl (wpAny_pure ?_))
      refine wpAny_bind (wpAny_setField ho' rfl (by simp) ?_)
      have g1 := Heap.get?_update_self (fun o => o.mapFields (·.set! 0 .none)) ho' rfl
      refine wpAny_bind (wpAny_setField g1 rfl (by simp) ?_)
      have g2 := Heap.get?_update_self (fun o => o.mapFields (·.set! 1 .none)) g1 rfl
      refine wpAny_setField g2 rfl (by simp) ?_
      show wpAny _ _ (newExc (.type "StopIteration") [] >>= _) _ _ _
      refine wpAny_bind ?_
      simp only [newExc, newTuple]
      refine wpAny_bind (wpAny_newObj_type ?_ (by size_fits))
      refine wpAny_bind (m := firstArgMember _ _) (wpAny_of_eq (a := Value.none) (by first | rfl | (simp only [firstArgMember]; rfl)) ?_)
      refine wpAny_newObj_type ?_ (by size_fits)
      simp only [raiseNew]
      refine wpAny_bind (wpAny_handled ?_)
      rw [show A.in1.handled = none from hh]
      refine wpAny_bind (wpAny_pure (wpAny_throw ?_))
      refine wpAny_bind (wpAny_isInstance (T := "StopIteration") (b := true) ⟨_, Heap.get?_push_size _ rfl, rfl⟩ isSubtype_stop ?_)
      exact wpAny_pure (hQ _ (((((Heap.SameBut.update ..).trans (Heap.SameBut.update ..)).trans (Heap.SameBut.update ..)).extBut.push _).push _))
    | next => exact hr.elim
    | cont => exact hr.elim
    | brk => exact hr.elim
end

open PySem PySem.W PyProof.Rows PySem.Calls PySem.Builtin
section
variable {prog : Program} {w : World} {A : Around} {s : Shared}
noncomputable abbrev LP (prog : Program) (w : World) (A : Around) (target : Expr) (it : Value) (body : List Stmt) (env : Env) (R : Result → Shared → Prop) (f : Flow) (s : Shared) : Prop := match f with
  | .next | .cont => codeAny (model prog w) A (.forLoop target it body [] env) R s
  | .brk => R (.ok .next) s
  | .ret v => R (.ok (.ret v)) s
theorem loop_step {R : Result → Shared → Prop} {target : Expr} {it : Value} {body : List Stmt} {env : Env}
    (h : wpAny (model prog w) A (pyNext it) (fun r s₁ => match r with
      | none => R (.ok .next) s₁
      | some v => wpAny (model prog w) A (assign target env v) (fun _ s₂ => wpAny (model prog w) A (execs body env) (LP prog w A target it body env R) (fun _ _ => False) s₂) (fun _ _ => False) s₁) (fun _ _ => False) s)
    (ht : ∀ v, letOwnedTupleGo target it v = pure () := by intro _; rfl) : codeAny (model prog w) A (.forLoop target it body [] env) R s := by
  refine codeAny_of_tree ?_
  show wpAny _ _ ((forTurn target it body [] env).onRaise (fun x => do noteFrame x env; theTreesLotGoes x)) _ _ s
  refine wpAny_noted ?_
  simp only [forTurn]
  refine wpAny_bind (wpAny_standAt (wpAny_bind (wpAny_onRaise (wpAny_mono h (fun r s₁ h₁ => ?_) fun _ _ h' => h'.elim))))
  cases r with
  | none => exact wpAny_pure ⟨rfl, codeAny_block (wpAny_execs_nil h₁)⟩
  | some v =>
    refine wpAny_bind (wpAny_of_eq (ht v) ?_)
    refine wpAny_bind (wpAny_mono h₁ (fun _ s₂ h₂ => wpAny_bind (wpAny_mono h₂ (fun f s₃ h₃ => ?_) fun _ _ h' => h'.elim)) fun _ _ h' => h'.elim)
    cases f with
    | next => exact wpAny_pure ⟨rfl, h₃⟩
    | cont => exact wpAny_pure ⟨rfl, h₃⟩
    | brk => exact wpAny_pure h₃
    | ret v => exact wpAny_pure h₃
end
inductive Seg : List Nat → List Nat → Prop
  | nil : Seg [] []
  | plain {c : Nat} {r t : List Nat} (h1 : 65 ≤ c) (h2 : c < 92) : Seg r t → Seg (c :: r) (c :: t)
  | esc {c : Nat} {r t : List Nat} (h1 : 65 ≤ c) (h2 : c < 92) : Seg r t → Seg (92 :: c :: r) (c :: t)
theorem Fr.to' {h₀ h : Heap} {L : Addr} {m m' : Str → Option Value} (F : Fr h₀ L h m) (e : ∀ y, m y = m' y) : Fr h₀ L h m' := (funext e : m = m') ▸ F
section
variable {w : World} {A A₀ : Around} {s : Shared} {base h₀ : Heap} {L it q x : Addr} {m : Str → Option Value} {big small : List (Addr × Obj)} {u : Tok} {p : Program} {loose : List Str} {mean : ExcName → Option Value} {mg mb : Str → Option Value} {env : Env} {outer : List Env}
theorem fetch {c : Nat} {uc : Tok} {PS : List (Addr × Obj) → Prop} {R : Result → Shared → Prop} {target : Expr} {body : List Stmt} {dp un : Nat} {fo : Obj} {fd : FuncData}
    (C : SpecC dp un w 203 [.ref x] [] small (fun v small' => PS small' ∧ v = .str ⟨#[c]⟩ uc)) (rest : List (Addr × Obj))
    (B : Below A₀ base outer h₀) (F : Fr h₀ L s.heap m) (X : (Mine.K w.params).In h₀) (N : News h₀ L s.heap big) (T : Top p loose mean mg mb h₀)
    (hA : A.in1.frames = some (env :: outer)) (hf : env.frame = some L) (hke : env.scope.kind = .function) (hh : A.in1.handled = none) (hdp : A.in1.depth ≤ dp) (hun : A.in1.units ≤ un)
    (hi : (it, callIt q u) ∈ rest) (hq : (q, methodObj (.ref 203) (.ref x)) ∈ rest) (hfo : (Mine.K w.params).lookup 203 = some fo) (hfd : fo.data = .func fd)
    (hs : ∀ p ∈ small, p ∈ big) (hr : ∀ p ∈ rest, p ∈ big) (hne : ∀ p ∈ rest, ∀ q ∈ small, p.1 ≠ q.1)
    (h : ∀ small' h' tk', PS small' → Fr h₀ L h' m → News h₀ L h' (small' ++ rest) → NewApart rest small' →
      wpAny (model PySem.Challenge.rw_wj0054_01.row.prog w) A (assign target env (.str ⟨#[c]⟩ uc)) (fun _ s₂ => wpAny (model PySem.Challenge.rw_wj0054_01.row.prog w) A (execs body env) (LP PySem.Challenge.rw_wj0054_01.row.prog w A target (.ref it) body env R) (fun _ _ => False) s₂) (fun _ _ => False) { s with heap := h', toks := tk' })
    (ht : ∀ v, letOwnedTupleGo target (.ref it) v = pure () := by intro _; rfl) :
    codeAny (model PySem.Challenge.rw_wj0054_01.row.prog w) A (.forLoop target (.ref it) body [] env) R s := by
  refine loop_step (next_ch N (hr _ hi) (hr _ hq) ((X.keeps F.keep) _ _ hfo) hfd ?_) ht
  refine SpecC.use C rest B F X N T hA hf hke hh hdp hun hs hr hne fun v small' h' tk' hp F' N' hap => ?_
  exact ⟨c, uc, hp.2, (N' _ (List.mem_append_right _ hi)).1, by rw [hp.2]; exact h small' h' tk' hp.1 F' N' hap⟩
theorem fetch_end {PS : List (Addr × Obj) → Prop} {R : Result → Shared → Prop} {target : Expr} {body : List Stmt} {dp un : Nat} {fo : Obj} {fd : FuncData}
    (C : SpecC dp un w 203 [.ref x] [] small (fun v small' => PS small' ∧ ∃ t', v = .str (Str.ofString "") t')) (rest rest' : List (Addr × Obj))
    (B : Below A₀ base outer h₀) (F : Fr h₀ L s.heap m) (X : (Mine.K w.params).In h₀) (N : News h₀ L s.heap big) (T : Top p loose mean mg mb h₀)
    (hA : A.in1.frames = some (env :: outer)) (hf : env.frame = some L) (hke : env.scope.kind = .function) (hh : A.in1.handled = none) (hh' : A.handled = none) (hdp : A.in1.depth ≤ dp) (hun : A.in1.units ≤ un)
    (hi : (it, callIt q u) ∈ rest) (hq : (q, methodObj (.ref 203) (.ref x)) ∈ rest) (hfo : (Mine.K w.params).lookup 203 = some fo) (hfd : fo.data = .func fd)
    (hs : ∀ p ∈ small, p ∈ big) (hr : ∀ p ∈ rest, p ∈ big) (hne : ∀ p ∈ rest, ∀ q ∈ small, p.1 ≠ q.1) (hr' : ∀ p ∈ rest', p ∈ rest) (hri : ∀ p ∈ rest', p.1 ≠ it) (hsi : ∀ small', PS small' → ∀ p ∈ small', p.1 ≠ it)
    (h : ∀ small' h' tk', PS small' → Fr h₀ L h' m → News h₀ L h' (small' ++ rest') → R (.ok .next) { s with heap := h', toks := tk' })
    (ht : ∀ v, letOwnedTupleGo target (.ref it) v = pure () := by intro _; rfl) :
    codeAny (model PySem.Challenge.rw_wj0054_01.row.prog w) A (.forLoop target (.ref it) body [] env) R s := by
  have kF := (X.keeps F.keep) _ _ hfo
  refine loop_step (next_end hh' N (hr _ hi) (hr _ hq) kF hfd ?_) ht
  refine SpecC.use C rest B F X N T hA hf hke hh hdp hun hs hr hne fun v small' h' tk' hp F' N' hap => ?_
  obtain ⟨hp1, uc, rfl⟩ := hp
  have nI := N' _ (List.mem_append_right _ hi)
  refine ⟨uc, rfl, nI.1, (N' _ (List.mem_append_right _ hq)).1, (X.keeps F'.keep) _ _ hfo, fun h'' hk => ?_⟩
  have hL : L ≠ it := nI.2.1.symm
  refine h small' h'' tk' hp1 ⟨F'.ns.at' fun o e => hk _ _ hL e, fun b o e => hk _ _ (fun z => by rw [z] at e; rw [nI.2.2] at e; cases e) (F'.keep b o e), F'.above⟩ fun r hr2 => ?_
  rcases List.mem_append.mp hr2 with h2 | h2
  · exact ⟨hk _ _ (hsi _ hp1 _ h2) (N' _ (List.mem_append_left _ h2)).1, (N' _ (List.mem_append_left _ h2)).2⟩
  · exact ⟨hk _ _ (hri _ h2) (N' _ (List.mem_append_right _ (hr' _ h2))).1, (N' _ (List.mem_append_right _ (hr' _ h2))).2⟩
theorem seg_loop {prog : Program} {R : Result → Shared → Prop} {target : Expr} {body : List Stmt} {envl : Env} (M : List Nat → Tok → Option Value → Str → Option Value) (Lg : List Value → Nat → Tok → List (Addr × Obj)) (e : Nat) (rest : List Nat)
    (plain : ∀ (R : Result → Shared → Prop) cur tc chv c uc vs c3 u1 h tk, 65 ≤ c → c < 92 → cur.length < 100 → vs.length < 4000 → Fr h₀ L h (M cur tc (some chv)) → News h₀ L h (Lg (.str ⟨#[c]⟩ uc :: vs) c3 u1) →
      (∀ h' tk' tc' chv' c3' u1', Fr h₀ L h' (M (cur ++ [c]) tc' (some chv')) → News h₀ L h' (Lg vs c3' u1') → codeAny (model prog w) A (.forLoop target (.ref it) body [] envl) R { s with heap := h', toks := tk' }) →
      codeAny (model prog w) A (.forLoop target (.ref it) body [] envl) R { s with heap := h, toks := tk })
    (esc : ∀ (R : Result → Shared → Prop) cur tc chv c u0 uc vs c3 u1 h tk, 65 ≤ c → c < 92 → cur.length < 100 → vs.length < 3999 → Fr h₀ L h (M cur tc (some chv)) → News h₀ L h (Lg (.str ⟨#[92]⟩ u0 :: .str ⟨#[c]⟩ uc :: vs) c3 u1) →
      (∀ h' tk' tc' chv' c3' u1', Fr h₀ L h' (M (cur ++ [c]) tc' (some chv')) → News h₀ L h' (Lg vs c3' u1') → codeAny (model prog w) A (.forLoop target (.ref it) body [] envl) R { s with heap := h', toks := tk' }) →
      codeAny (model prog w) A (.forLoop target (.ref it) body [] envl) R { s with heap := h, toks := tk }) :
    ∀ {seg tok : List Nat}, Seg seg tok → ∀ {cur0 : List Nat} (_hc : cur0.length + tok.length < 100) (_fin : ∀ tc chv ue vs c3 u1 h tk, vs.length < 4000 → SignsAre vs rest → Fr h₀ L h (M (cur0 ++ tok) tc (some chv)) → News h₀ L h (Lg (.str ⟨#[e]⟩ ue :: vs) c3 u1) →
      codeAny (model prog w) A (.forLoop target (.ref it) body [] envl) R { s with heap := h, toks := tk }),
      ∀ tc chv vs c3 u1 h tk, SignsAre vs (seg ++ e :: rest) → (seg ++ e :: rest).length < 4000 → Fr h₀ L h (M cur0 tc (some chv)) → News h₀ L h (Lg vs c3 u1) → codeAny (model prog w) A (.forLoop target (.ref it) body [] envl) R { s with heap := h, toks := tk } := by
  intro seg tok hS
  induction hS with
  | nil =>
    intro cur0 hc fin tc chv vs c3 u1 h tk hv hl F N
    cases hv with
    | cons _ ue hv =>
      rename_i vs
      refine fin tc chv ue vs c3 u1 h tk ?_ hv (by rw [List.append_nil]; exact F) N
      have := hv.length; simp at hl; omega
  | @plain c r t h1 h2 hr ih =>
    intro cur0 hc fin tc chv vs c3 u1 h tk hv hl F N
    cases hv with
    | cons _ uc hv =>
      rename_i vs
      have hl' := hv.length
      refine plain R cur0 tc chv c uc vs c3 u1 h tk h1 h2 (by simp at hc; omega) (by simp at hl hl'; omega) F N fun h' tk' tc' chv' c3' u1' F' N' => ?_
      refine ih (cur0 := cur0 ++ [c]) (by simp at hc ⊢; omega) (fun tc chv ue vs c3 u1 h tk a b F N => fin tc chv ue vs c3 u1 h tk a b (by simpa using F) N) tc' chv' vs c3' u1' h' tk' hv (by simp at hl ⊢; omega) F' N'
  | @esc c r t h1 h2 hr ih =>
    intro cur0 hc fin tc chv vs c3 u1 h tk hv hl F N
    cases hv with
    | cons _ u0 hv =>
      cases hv with
      | cons _ uc hv =>
        rename_i vs
        have hl' := hv.length
        refine esc R cur0 tc chv c u0 uc vs c3 u1 h tk h1 h2 (by simp at hc; omega) (by simp at hl hl'; omega) F N fun h' tk' tc' chv' c3' u1' F' N' => ?_
        refine ih (cur0 := cur0 ++ [c]) (by simp at hc ⊢; omega) (fun tc chv ue vs c3 u1 h tk a b F N => fin tc chv ue vs c3 u1 h tk a b (by simpa using F) N) tc' chv' vs c3' u1' h' tk' hv (by simp at hl ⊢; omega) F' N'
noncomputable def nl (c : Nat) : Int := if c = 10 then 1 else 0
inductive WsTo : List Nat → Int → Prop
  | none : WsTo [] 0
  | tab : WsTo [9] 0
  | line : WsTo [10] 1
theorem ws_loop {prog : Program} {R : Result → Shared → Prop} {target : Expr} {body : List Stmt} {envl : Env} (M : Option Value → Str → Option Value) (Lg : List Value → Nat → Tok → Int → List (Addr × Obj)) (cs : List Nat) (n : Int)
    (start : ∀ chv vs c3 u1 h tk, SignsAre vs cs → Fr h₀ L h (M chv) → News h₀ L h (Lg vs c3 u1 n) → codeAny (model prog w) A (.forLoop target (.ref it) body [] envl) R { s with heap := h, toks := tk })
    (tab : ∀ (R : Result → Shared → Prop) uc vs c3 u1 ln h tk, vs.length < 4000 → Fr h₀ L h (M none) → News h₀ L h (Lg (.str ⟨#[9]⟩ uc :: vs) c3 u1 ln) →
      (∀ h' tk' chv' c3' u1', Fr h₀ L h' (M chv') → News h₀ L h' (Lg vs c3' u1' ln) → codeAny (model prog w) A (.forLoop target (.ref it) body [] envl) R { s with heap := h', toks := tk' }) →
      codeAny (model prog w) A (.forLoop target (.ref it) body [] envl) R { s with heap := h, toks := tk })
    (line : ∀ (R : Result → Shared → Prop) uc vs c3 u1 ln h tk, vs.length < 4000 → Fr h₀ L h (M none) → News h₀ L h (Lg (.str ⟨#[10]⟩ uc :: vs) c3 u1 ln) →
      (∀ h' tk' chv' c3' u1', Fr h₀ L h' (M chv') → News h₀ L h' (Lg vs c3' u1' (ln + 1)) → codeAny (model prog w) A (.forLoop target (.ref it) body [] envl) R { s with heap := h', toks := tk' }) →
      codeAny (model prog w) A (.forLoop target (.ref it) body [] envl) R { s with heap := h, toks := tk }) :
    ∀ {ws : List Nat} {k : Int}, WsTo ws k → ∀ vs c3 u1 ln h tk, SignsAre vs (ws ++ cs) → (ws ++ cs).length < 4000 → ln + k = n → Fr h₀ L h (M none) → News h₀ L h (Lg vs c3 u1 ln) → codeAny (model prog w) A (.forLoop target (.ref it) body [] envl) R { s with heap := h, toks := tk } := by
  intro ws k hw vs c3 u1 ln h tk hv hl hn F N
  cases hw with
  | none => exact start none vs c3 u1 h tk hv F (by rw [← hn, Int.add_zero]; exact N)
  | tab =>
    cases hv with
    | cons _ uc hv =>
      rename_i vs
      have := hv.length
      exact tab R uc vs c3 u1 ln h tk (by simp at hl this; omega) F N fun h' tk' chv' c3' u1' F' N' => start chv' vs c3' u1' h' tk' hv F' (by rw [← hn, Int.add_zero]; exact N')
  | line =>
    cases hv with
    | cons _ uc hv =>
      rename_i vs
      have := hv.length
      exact line R uc vs c3 u1 ln h tk (by simp at hl this; omega) F N fun h' tk' chv' c3' u1' F' N' => start chv' vs c3' u1' h' tk' hv F' (by rw [← hn]; exact N')
end
section
open PySem.Builtin
variable {prog : Program} {w : World} {A : Around} {E : Value → Shared → Prop} {s : Shared} {Q : Value → Shared → Prop}
theorem ws_occ : ∀ {c : Nat}, 65 ≤ c → c < 92 → (Builtin.Str.occurrences (Str.ofString "\n\t\x0d ") ⟨#[c]⟩ 0 (Str.ofString "\n\t\x0d ").length 1).isEmpty = true := fun {c} h1 h2 =>
  have : ∀ i : Fin 27, (Builtin.Str.occurrences (Str.ofString "\n\t\x0d ") ⟨#[65 + i.val]⟩ 0 (Str.ofString "\n\t\x0d ").length 1).isEmpty = true := by decide +kernel
  by have h := this ⟨c - 65, by omega⟩
     rwa [show 65 + (c - 65) = c by omega] at h
theorem ws_f {c : Nat} {t u : Tok} (h1 : 65 ≤ c) (h2 : c < 92) (h : Q (.bool false) s) : wpAny (model prog w) A (compareOp .In (.str ⟨#[c]⟩ u) (.str (Str.ofString "\n\t\x0d ") t)) Q E s :=
  PyProof.Rows.in_str (by rw [ws_occ h1 h2]; exact h)
theorem ws_lit {c : Nat} {b : Bool} {t u : Tok} (h1 : (!(Builtin.Str.occurrences (Str.ofString "\n\t\x0d ") ⟨#[c]⟩ 0 (Str.ofString "\n\t\x0d ").length 1).isEmpty) = b) (h : Q (.bool b) s) : wpAny (model prog w) A (compareOp .In (.str ⟨#[c]⟩ u) (.str (Str.ofString "\n\t\x0d ") t)) Q E s :=
  PyProof.Rows.in_str (by rw [h1]; exact h)
theorem iadd_sign {x : Str} {cur : List Nat} {c : Nat} {t u : Tok} (hx : x = ⟨cur.toArray⟩) (hl : cur.length < 100) (h : ∀ t' k', Q (.str ⟨(cur ++ [c]).toArray⟩ t') { s with toks := k' }) : wpAny (model prog w) A (inplaceOp .Add (.str x t) (.str ⟨#[c]⟩ u)) Q E s := by
  subst hx
  refine PyProof.Rows.iadd_str (fun t' k' => ?_) (by show cur.toArray.size + 1 ≤ _; rw [sizeLine_eq, List.size_toArray]; omega)
  rw [show (⟨cur.toArray⟩ : Str) ++ (⟨#[c]⟩ : Str) = ⟨(cur ++ [c]).toArray⟩ from PySem.Str.ext' (by rw [PySem.Str.cps_append]; simp)]
  exact h t' k'
end

open PySem PySem.W PyProof.Rows PySem.Calls PySem.Builtin PySem.Builtin.Re
theorem rowsGP : True := by
  k_with_none
  k_with "storeName" => (k_here; k_dflt (refine' storeX_Lr ?F ?N ?a ?b ?_; (case a => exact rfl); (case b => exact rfl); (case F => k_asm); (case N => k_asm); k_whole; intro _ _ _; (try k_sweep)))
  k_with "eval Name" => (k_here; k_dflt (refine' nameX_Lr ?F ?a ?b ?v ?_; (case a => exact rfl); (case b => exact rfl); (case F => k_asm); (case v => exact rfl); k_whole))
  k_with "execs cons" => (refine wpAny_execs_cons ?_; (try k_fold))
  k_with "sub" => first | exact List.forall_mem_nil _ | exact fun _ h9 => h9 | ((first | refine' sub_keep ?_ | refine' sub_drop ?_); k_extra "sub")
  k_with "tb_rel" => first | (k_extra "sub"; done) | exact List.forall_mem_nil _ | (refine' fmc ?sa ?sb; (case sa => k_mem); (case sb => k_extra "tb_rel"))
  k_with "tb_start" => ((try (have HL9 := ‹LexH _›; obtain ⟨_, _, _, _, _, _, _, _, _, _, _, _, _⟩ := HL9)); unfold SpecC; k_fill; intro _ _ _ _ _ _ _ _ _ _ _ hg9 hs9; (try dsimp only [hdrD, tupO, lexL, lexR, lexD, rdO, rdParts] at hg9 hs9); revert hg9 hs9; intro _ _ _ _ _ _; k_dflt (refine' call_C ?k1 ?k2 ?k3 ?k4 ?k5 ?k10 ?k6 ?k7 ?k8 ?k9 ?kB ?_ ?c2 ?c3 ?c4 ?c5; (case k1 => k_asm); (case k2 => k_asm); (case k3 => k_asm); (case k4 => k_asm); (case k5 => k_asm); (case k10 => k_asm); (case k6 => k_is); (case k7 => k_is); (case k8 => decide); (case k9 => first | exact BindsTo.of_eq rfl | exact binds_K (by k_in) rfl (by k_is) rfl rfl rfl | exact binds_K (in_of_hide (by assumption) (by assumption)) rfl (by k_is) rfl rfl rfl); (case c5 => decide); (case kB => exact locs rfl); (case c2 => exact rfl); (case c3 => exact rfl); (case c4 => exact rfl); k_whole; intro _ _ _ _; (try dsimp only); (try k_fold)))
  k_with "LeaveS" => k_dflt (refine' leaveS_ ?k1 ?k2 ⟨⟨?_, ?ke⟩, ?kg, ?kd, ?ko⟩; (case ke => exact rfl); (case kg => exact rfl); (case kd => exact rfl); (case ko => exact rfl); (case k1 => k_asm); (case k2 => refine cb_drop (by k_asm) ?_; k_extra "tb_rel"))
  k_with "call ref" => (k_here; (with_reducible show wpAny _ _ (call (Value.ref 70) [_, Value.str _ _] _) _ _ _); k_dflt ((show wpAny _ _ (call (Value.ref 70) [_, Value.str _ _] [(Str.ofString "name", Value.bool true)]) _ _ _); refine' SpecK.use (convN _ _ ?q _ _ _) ?B ?F ?X ?N ?T ?hA ?hK ?hh ?hd ?hu ?_; (case hA => exact rfl); (case B => k_asm); (case F => k_asm); (case X => k_asm); (case N => k_asm); (case T => k_asm); (case hK => first | rfl | assumption); (case hh => rfl); (case hd => exact Nat.le_of_ble_eq_true rfl); (case hu => exact Nat.le_of_ble_eq_true rfl); (case q => first | assumption | exact quiet_names (by assumption) | decide +kernel); k_whole; (rintro v' news' h' tk' ⟨⟨t', e1'⟩, e2'⟩ F' N'); subst e1'; subst e2'; (try k_sweep)))
  k_with "call ref" => (k_here; (with_reducible show wpAny _ _ (call (Value.ref 70) [_, Value.str _ _] _) _ _ _); k_dflt ((show wpAny _ _ (call (Value.ref 70) [_, Value.str _ _] [(Str.ofString "name", Value.bool false)]) _ _ _); refine' SpecK.use (convV _ _ ?q _ _ _) ?B ?F ?X ?N ?T ?hA ?hK ?hh ?hd ?hu ?_; (case hA => exact rfl); (case B => k_asm); (case F => k_asm); (case X => k_asm); (case N => k_asm); (case T => k_asm); (case hK => first | rfl | assumption); (case hh => rfl); (case hd => exact Nat.le_of_ble_eq_true rfl); (case hu => exact Nat.le_of_ble_eq_true rfl); (case q => first | assumption | exact quiet_words (by assumption) (by assumption) | decide +kernel); k_whole; (rintro v' news' h' tk' ⟨⟨t', e1'⟩, e2'⟩ F' N'); subst e1'; subst e2'; (try k_sweep)))
  k_with "call builtin:str.lower" => (k_here; k_dflt ((show wpAny _ _ (call (Value.builtin "str.lower") [Value.str (Nm _) _]) _ _ _); refine lower_nm (by assumption) ?_; intro _ _))
  k_with "exec For Tuple Attribute" => (k_here; (rename Fr _ _ _ _ => lF'); (with_unfolding_all refine' For_turns lF' ?_; k_whole))
  k_with "getMethod ref" => (k_here; (with_reducible show wpAny _ _ (getMethod (Value.ref _) (Str.ofString "read") _) _ _ _); k_dflt (refine' fn_getMethod_N ?N ?hx ?hd ?ho ?_; (case N => k_asm); (case hx => k_mem); (case hd => k_mem); (case ho => assumption); k_whole; intro tk'; (try dsimp only); (try k_sweep)))
  k_with "truthy ref" => (k_here; (with_reducible show wpAny _ _ (truthy (Value.ref _)) _ _ _); k_dflt (first | (refine' truth_signs ?N ?m ?z ?_; (case N => k_asm); (case m => k_mem); (case z => assumption); k_whole) | (refine' truth_none ?N ?m ?_; (case N => k_asm); (case m => k_mem); k_whole)); intro tk'; (try simp only [if_true, if_false, Bool.false_eq_true]))
  k_with "call builtin:list.pop" => (k_here; (with_reducible show wpAny _ _ (call (Value.builtin "list.pop") [Value.ref _, Value.int _ _]) _ _ _); k_dflt (refine' pop_signs ?F ?N ?U ?z ?_; (case F => k_asm); (case N => k_asm); (case U => k_upd); (case z => assumption); k_whole); intro h' F' N'; (try k_sweep))
  k_with "compareOp Eq str str" => (k_here; (with_reducible show wpAny _ _ (compareOp _ (Value.str ⟨#[_]⟩ _) _) _ _ _); k_dflt (first
  | (refine' ch_eq_t ?h ?_; (case h => exact rfl))
  | (refine' ch_eq_f (d := 10) ?h ?n ?_; (case h => exact rfl); (case n => first | assumption | decide))
  | (refine' ch_eq_f (d := 34) ?h ?n ?_; (case h => exact rfl); (case n => first | assumption | decide))
  | (refine' ch_eq_f (d := 92) ?h ?n ?_; (case h => exact rfl); (case n => first | assumption | decide))))
  k_with "call builtin:iter" => (k_here; (with_reducible show wpAny _ _ (call (Value.builtin "iter") [Value.ref _, Value.str _ _]) _ _ _); k_dflt (refine' iter2_K ?F ?N ?q ?_; (case F => k_asm); (case N => k_asm); (case q => k_mem); k_whole); intro it' h' F' N' l1; (try k_lt l1); (try k_sweep))
  k_with "pyIter ref" => (k_here; (with_reducible show wpAny _ _ (pyIter (Value.ref _)) _ _ _); k_dflt (refine' pyIter_cit ?N ?i ?_; (case N => k_asm); (case i => k_mem); k_whole))
  k_with "exec For Name Name cons nil" => (k_here; k_dflt (refine' wpAny_For ?_ ?_; (case refine'_2 => (intro _; exact rfl)); k_whole))
  trivial
theorem gt_p (w : World) (X : Lx) (HL : LexH X) (ln : Int) (u1 : Tok) (c3 c4 : Nat) (vs : List Value) (y : Value) (ys : List Value) (hz : ys.length < 4000) :
    SpecC 780 5800 w 210 [.ref X.x] [] (lexL w X ln u1 vs c3 (y :: ys).toArray c4)
      (fun v small' => (∃ c', small' = lexL w X ln u1 vs c3 ys.toArray c') ∧ v = y) := by
  k_extra "tb_start"
  k_steps
  all_goals (try dsimp only)
  refine' leaveS_ ?k1 ?k2 ⟨⟨⟨_, rfl⟩, rfl⟩, rfl, rfl, rfl⟩
  case k1 => k_asm
  case k2 => (refine' cb_drop ?c1 ?c2; (case c1 => k_asm); (case c2 => k_extra "tb_rel"))
theorem push (w : World) (X : Lx) (HL : LexH X) (ln : Int) (u1 : Tok) (c3 c4 : Nat) (vs : List Value) (y : Value) (ys : List Value) (hz : ys.length < 4000) :
    SpecC 780 5800 w 217 [.ref X.x, y] [] (lexL w X ln u1 vs c3 ys.toArray c4)
      (fun v small' => (∃ c', small' = lexL w X ln u1 vs c3 (ys ++ [y]).toArray c') ∧ v = .none) := by
  k_extra "tb_start"
  k_steps
  rename News _ _ _ _ => N1
  (try simp only [List.push_toArray] at N1)
  all_goals (try dsimp only)
  refine' leaveS_ ?k1 ?k2 ⟨⟨⟨_, rfl⟩, rfl⟩, rfl, rfl, rfl⟩
  case k1 => k_asm
  case k2 => (refine' cb_drop ?c1 ?c2; (case c1 => k_asm); (case c2 => k_extra "tb_rel"))

open PySem PySem.W PyProof.Rows PySem.Calls PySem.Builtin PySem.Builtin.Re
theorem rowsGT1 : True := by
  k_with_none
  k_with "storeName" => (k_here; k_dflt (refine' storeX_Lr ?F ?N ?a ?b ?_; (case a => exact rfl); (case b => exact rfl); (case F => k_asm); (case N => k_asm); k_whole; intro _ _ _; (try k_sweep)))
  k_with "eval Name" => (k_here; k_dflt (refine' nameX_Lr ?F ?a ?b ?v ?_; (case a => exact rfl); (case b => exact rfl); (case F => k_asm); (case v => exact rfl); k_whole))
  k_with "execs cons" => (refine wpAny_execs_cons ?_; (try k_fold))
  k_with "sub" => first | exact List.forall_mem_nil _ | exact fun _ h9 => h9 | ((first | refine' sub_keep ?_ | refine' sub_drop ?_); k_extra "sub")
  k_with "tb_rel" => first | (k_extra "sub"; done) | exact List.forall_mem_nil _ | (refine' fmc ?sa ?sb; (case sa => k_mem); (case sb => k_extra "tb_rel"))
  k_with "tb_start" => ((try (have HL9 := ‹LexH _›; obtain ⟨_, _, _, _, _, _, _, _, _, _, _, _, _⟩ := HL9)); unfold SpecC; k_fill; intro _ _ _ _ _ _ _ _ _ _ _ hg9 hs9; (try dsimp only [hdrD, tupO, lexL, lexR, lexD, rdO, rdParts] at hg9 hs9); revert hg9 hs9; intro _ _ _ _ _ _; k_dflt (refine' call_C ?k1 ?k2 ?k3 ?k4 ?k5 ?k10 ?k6 ?k7 ?k8 ?k9 ?kB ?_ ?c2 ?c3 ?c4 ?c5; (case k1 => k_asm); (case k2 => k_asm); (case k3 => k_asm); (case k4 => k_asm); (case k5 => k_asm); (case k10 => k_asm); (case k6 => k_is); (case k7 => k_is); (case k8 => decide); (case k9 => first | exact BindsTo.of_eq rfl | exact binds_K (by k_in) rfl (by k_is) rfl rfl rfl | exact binds_K (in_of_hide (by assumption) (by assumption)) rfl (by k_is) rfl rfl rfl); (case c5 => decide); (case kB => exact locs rfl); (case c2 => exact rfl); (case c3 => exact rfl); (case c4 => exact rfl); k_whole; intro _ _ _ _; (try dsimp only); (try k_fold)))
  k_with "LeaveS" => k_dflt (refine' leaveS_ ?k1 ?k2 ⟨⟨?_, ?ke⟩, ?kg, ?kd, ?ko⟩; (case ke => exact rfl); (case kg => exact rfl); (case kd => exact rfl); (case ko => exact rfl); (case k1 => k_asm); (case k2 => refine cb_drop (by k_asm) ?_; k_extra "tb_rel"))
  k_with "call ref" => (k_here; (with_reducible show wpAny _ _ (call (Value.ref 70) [_, Value.str _ _] _) _ _ _); k_dflt ((show wpAny _ _ (call (Value.ref 70) [_, Value.str _ _] [(Str.ofString "name", Value.bool true)]) _ _ _); refine' SpecK.use (convN _ _ ?q _ _ _) ?B ?F ?X ?N ?T ?hA ?hK ?hh ?hd ?hu ?_; (case hA => exact rfl); (case B => k_asm); (case F => k_asm); (case X => k_asm); (case N => k_asm); (case T => k_asm); (case hK => first | rfl | assumption); (case hh => rfl); (case hd => exact Nat.le_of_ble_eq_true rfl); (case hu => exact Nat.le_of_ble_eq_true rfl); (case q => first | assumption | exact quiet_names (by assumption) | decide +kernel); k_whole; (rintro v' news' h' tk' ⟨⟨t', e1'⟩, e2'⟩ F' N'); subst e1'; subst e2'; (try k_sweep)))
  k_with "call ref" => (k_here; (with_reducible show wpAny _ _ (call (Value.ref 70) [_, Value.str _ _] _) _ _ _); k_dflt ((show wpAny _ _ (call (Value.ref 70) [_, Value.str _ _] [(Str.ofString "name", Value.bool false)]) _ _ _); refine' SpecK.use (convV _ _ ?q _ _ _) ?B ?F ?X ?N ?T ?hA ?hK ?hh ?hd ?hu ?_; (case hA => exact rfl); (case B => k_asm); (case F => k_asm); (case X => k_asm); (case N => k_asm); (case T => k_asm); (case hK => first | rfl | assumption); (case hh => rfl); (case hd => exact Nat.le_of_ble_eq_true rfl); (case hu => exact Nat.le_of_ble_eq_true rfl); (case q => first | assumption | exact quiet_words (by assumption) (by assumption) | decide +kernel); k_whole; (rintro v' news' h' tk' ⟨⟨t', e1'⟩, e2'⟩ F' N'); subst e1'; subst e2'; (try k_sweep)))
  k_with "call builtin:str.lower" => (k_here; k_dflt ((show wpAny _ _ (call (Value.builtin "str.lower") [Value.str (Nm _) _]) _ _ _); refine lower_nm (by assumption) ?_; intro _ _))
  k_with "exec For Tuple Attribute" => (k_here; (rename Fr _ _ _ _ => lF'); (with_unfolding_all refine' For_turns lF' ?_; k_whole))
  k_with "getMethod ref" => (k_here; (with_reducible show wpAny _ _ (getMethod (Value.ref _) (Str.ofString "read") _) _ _ _); k_dflt (refine' fn_getMethod_N ?N ?hx ?hd ?ho ?_; (case N => k_asm); (case hx => k_mem); (case hd => k_mem); (case ho => assumption); k_whole; intro tk'; (try dsimp only); (try k_sweep)))
  k_with "truthy ref" => (k_here; (with_reducible show wpAny _ _ (truthy (Value.ref _)) _ _ _); k_dflt (first | (refine' truth_signs ?N ?m ?z ?_; (case N => k_asm); (case m => k_mem); (case z => assumption); k_whole) | (refine' truth_none ?N ?m ?_; (case N => k_asm); (case m => k_mem); k_whole)); intro tk'; (try simp only [if_true, if_false, Bool.false_eq_true]))
  k_with "call builtin:list.pop" => (k_here; (with_reducible show wpAny _ _ (call (Value.builtin "list.pop") [Value.ref _, Value.int _ _]) _ _ _); k_dflt (refine' pop_signs ?F ?N ?U ?z ?_; (case F => k_asm); (case N => k_asm); (case U => k_upd); (case z => assumption); k_whole); intro h' F' N'; (try k_sweep))
  k_with "compareOp Eq str str" => (k_here; (with_reducible show wpAny _ _ (compareOp _ (Value.str ⟨#[_]⟩ _) _) _ _ _); k_dflt (first
  | (refine' ch_eq_t ?h ?_; (case h => exact rfl))
  | (refine' ch_eq_f (d := 10) ?h ?n ?_; (case h => exact rfl); (case n => first | assumption | decide))
  | (refine' ch_eq_f (d := 34) ?h ?n ?_; (case h => exact rfl); (case n => first | assumption | decide))
  | (refine' ch_eq_f (d := 92) ?h ?n ?_; (case h => exact rfl); (case n => first | assumption | decide))))
  k_with "call builtin:iter" => (k_here; (with_reducible show wpAny _ _ (call (Value.builtin "iter") [Value.ref _, Value.str _ _]) _ _ _); k_dflt (refine' iter2_K ?F ?N ?q ?_; (case F => k_asm); (case N => k_asm); (case q => k_mem); k_whole); intro it' h1 F' N' l1b; (try k_lt l1b); (try k_sweep))
  k_with "pyIter ref" => (k_here; (with_reducible show wpAny _ _ (pyIter (Value.ref _)) _ _ _); k_dflt (refine' pyIter_cit ?N ?i ?_; (case N => k_asm); (case i => k_mem); k_whole))
  k_with "exec For Name Name cons nil" => (k_here; k_dflt (refine' wpAny_For ?_ ?_; (case refine'_2 => (intro _; exact rfl)); k_whole))
  k_with "compareOp In str str" => (k_here; k_dflt (first
  | (refine' ws_f ?a ?b ?_; (case a => assumption); (case b => assumption))
  | (refine' ws_lit (b := true) ?h ?_; (case h => decide +kernel))
  | (refine' ws_lit (b := false) ?h ?_; (case h => decide +kernel))))
  k_with "compareOp Eq str str" => (k_here; (with_reducible show wpAny _ _ (compareOp _ (Value.str ⟨#[_]⟩ _) _) _ _ _); k_dflt (first
  | (refine' ch_eq_t ?h ?_; (case h => exact rfl))
  | (refine' ch_eq_f (d := 10) ?h ?n ?_; (case h => exact rfl); (case n => first | assumption | omega))
  | (refine' ch_eq_f (d := 34) ?h ?n ?_; (case h => exact rfl); (case n => first | assumption | omega))
  | (refine' ch_eq_f (d := 92) ?h ?n ?_; (case h => exact rfl); (case n => first | assumption | omega))))
  k_with "inplaceOp Add str str" => (k_here; k_dflt (first
  | (refine' iadd_sign (cur := []) ?h ?n ?_; (case h => exact rfl); (case n => decide); intro _ _)
  | (refine' iadd_sign ?h ?n ?_; (case h => exact rfl); (case n => assumption); intro _ _)))
  k_with "call ref" => (k_here; (with_reducible show wpAny _ _ (call (Value.ref 203) _ _) _ _ _); k_dflt (refine' SpecG.use (rc_ch _ _ ?HL _ _ _ _ _ _ _ _ ?hch ?hvs).toG [(_, callIt _ _), (_, methodObj (.ref 203) (.ref _))] ?B ?F ?X ?N ?T ?hA ?hf ?hK ?hh ?hd ?hu ?hs ?hr ?hn ?_; (case HL => assumption); (case hA => exact rfl); (case hf => exact rfl); (case hK => exact rfl); (case hh => exact rfl); (case B => k_asm); (case F => k_asm); (case X => k_asm); (case N => k_asm); (case T => k_asm); (case hs => k_extra "tb_rel"); (case hd => exact Nat.le_of_ble_eq_true rfl); (case hu => exact Nat.le_of_ble_eq_true rfl); (case hr => k_extra "tb_rel"); (case hch => first | assumption | omega | decide); (case hvs => first | assumption | omega); (case hn => (refine' fmc ?na ?nb; (case na => (refine' lexL_up (by assumption) ?lt; (case lt => first | assumption | ((try dsimp only); omega)))); (case nb => (refine' fmc ?nc ?nd; (case nc => (refine' lexL_up (by assumption) ?lt; (case lt => first | assumption | ((try dsimp only); omega)))); (case nd => exact List.forall_mem_nil _))))); k_whole; intro v' sm' h' tk' hp' F' N' hA'; (obtain ⟨⟨c', u', e1'⟩, e2'⟩ := hp'); subst e1'; subst e2'; (try simp only [List.cons_append, List.nil_append] at N'); (try k_sweep)))
  trivial
theorem gt_q (w : World) (X : Lx) (HL : LexH X) (ln : Int) (u1 : Tok) (c3 c4 : Nat) (vs : List Value) (ws seg tok rest : List Nat) (k : Int) (hw : WsTo ws k) (hs : Seg seg tok) (hv : SignsAre vs (ws ++ (34 :: seg ++ 34 :: rest))) (hl : (ws ++ (34 :: seg ++ 34 :: rest)).length < 4000) (htok : tok.length < 50) :
    SpecC 780 5800 w 210 [.ref X.x] [] (lexL w X ln u1 vs c3 ([] : List Value).toArray c4)
      (fun v small' => (∃ vs' c' u', SignsAre vs' rest ∧ small' = lexL w X (ln + k) u' vs' c' ([] : List Value).toArray c4) ∧ ∃ t', v = .str ⟨tok.toArray⟩ t') := by
  k_extra "tb_start"
  k_steps
  rename_i L' h4 tk_ h3 q' h2 l1a h0 F1 N1
  have hlq : @LT.lt Nat _ X.l q' := by omega
  have hli : @LT.lt Nat _ X.l it' := by omega
  refine' ws_loop (fun chv y => if y = Str.ofString "ch" then chv else if y = Str.ofString "fiter" then some (.ref it') else if y = Str.ofString "token" then some (.str (Str.ofString "") _) else List.lookup y [(Str.ofString "self", .ref X.x)]) (fun vs c3 u1 ln => [(X.l, W.listOf ([] : List Value).toArray c4), (X.x, instObj 220 X.d), (X.d, lexD w X.f X.l ln X.t1 X.t2 X.t3 X.t4 u1 X.u3 4), (X.dx, X.od), (X.f, ⟨.type "function", some X.dx, .func X.fd, X.sl⟩), (X.f2, rdO w X.ql X.ce X.doc X.pm X.c2 X.ct), (X.c2, X.oc), (X.sg, W.listOf vs.toArray c3), (X.ce, X.oce), (it', callIt q' _), (q', methodObj (.ref 203) (.ref X.x))]) (34 :: seg ++ 34 :: rest) (ln + k) ?start ?tab ?line hw vs c3 u1 ln _ _ hv hl rfl (Fr.to' F1 (by (intro y; by_cases g0 : y = Str.ofString "ch"; (subst g0; exact rfl); by_cases g1 : y = Str.ofString "token"; (subst g1; exact rfl); by_cases g2 : y = Str.ofString "fiter"; (subst g2; exact rfl); simp only [if_neg g0, if_neg g1, if_neg g2]; first | done | exact rfl))) ?N1
  case N1 => (refine' cb_drop ?c1 ?c2; (case c1 => k_asm); (case c2 => k_extra "tb_rel"))
  case tab =>
    clear F1 N1 hv
    intro R uc vs c3 u1 ln h tk hvs F' N' hk
    (refine' fetch (rc_ch _ _ HL _ _ _ _ _ _ _ _ ?hch ?hvs) [(_, callIt _ _), (_, methodObj (.ref 203) (.ref _))] ?B ?F ?X ?N ?T ?hA ?hf ?hK ?hh ?hd ?hu ?hi ?hq ?hfo ?hfd ?hs ?hr ?hn ?_; (case hA => exact rfl); (case hf => exact rfl); (case hK => exact rfl); (case hh => exact rfl); (case B => k_asm); (case F => k_asm); (case X => k_asm); (case N => k_asm); (case T => k_asm); (case hs => k_extra "tb_rel"); (case hd => exact Nat.le_of_ble_eq_true rfl); (case hu => exact Nat.le_of_ble_eq_true rfl); (case hr => k_extra "tb_rel"); (case hfo => k_is); (case hfd => exact rfl); (case hi => k_mem); (case hq => k_mem); (case hch => first | assumption | omega | decide); (case hvs => assumption); (case hn => (refine' fmc ?na ?nb; (case na => (refine' lexL_up (by assumption) ?lt; (case lt => first | assumption | ((try dsimp only); omega)))); (case nb => (refine' fmc ?nc ?nd; (case nc => (refine' lexL_up (by assumption) ?lt; (case lt => first | assumption | ((try dsimp only); omega)))); (case nd => exact List.forall_mem_nil _))))); k_whole; intro sm' h' tk' hp' F' N' hA'; (obtain ⟨c', u', e1'⟩ := hp'); subst e1'; (try simp only [List.cons_append, List.nil_append] at N'))
    k_steps
    (refine' hk _ _ _ _ _ ?F1 ?N1; (case F1 => (refine' Fr.to' ?F2 ?e; (case F2 => k_asm); (case e => (intro y; by_cases g0 : y = Str.ofString "ch"; (subst g0; exact rfl); by_cases g1 : y = Str.ofString "token"; (subst g1; exact rfl); by_cases g2 : y = Str.ofString "fiter"; (subst g2; exact rfl); simp only [if_neg g0, if_neg g1, if_neg g2]; first | done | exact rfl)))); (case N1 => (refine' cb_drop ?c1 ?c2; (case c1 => k_asm); (case c2 => k_extra "tb_rel"))))
  case line =>
    clear F1 N1 hv
    intro R uc vs c3 u1 ln h tk hvs F' N' hk
    (refine' fetch (rc_nl _ _ HL _ _ _ _ _ _ _ ?hvs) [(_, callIt _ _), (_, methodObj (.ref 203) (.ref _))] ?B ?F ?X ?N ?T ?hA ?hf ?hK ?hh ?hd ?hu ?hi ?hq ?hfo ?hfd ?hs ?hr ?hn ?_; (case hA => exact rfl); (case hf => exact rfl); (case hK => exact rfl); (case hh => exact rfl); (case B => k_asm); (case F => k_asm); (case X => k_asm); (case N => k_asm); (case T => k_asm); (case hs => k_extra "tb_rel"); (case hd => exact Nat.le_of_ble_eq_true rfl); (case hu => exact Nat.le_of_ble_eq_true rfl); (case hr => k_extra "tb_rel"); (case hfo => k_is); (case hfd => exact rfl); (case hi => k_mem); (case hq => k_mem); (case hvs => assumption); (case hn => (refine' fmc ?na ?nb; (case na => (refine' lexL_up (by assumption) ?lt; (case lt => first | assumption | ((try dsimp only); omega)))); (case nb => (refine' fmc ?nc ?nd; (case nc => (refine' lexL_up (by assumption) ?lt; (case lt => first | assumption | ((try dsimp only); omega)))); (case nd => exact List.forall_mem_nil _))))); k_whole; intro sm' h' tk' hp' F' N' hA'; (obtain ⟨c', u', e1'⟩ := hp'); subst e1'; (try simp only [List.cons_append, List.nil_append] at N'))
    k_steps
    (refine' hk _ _ _ _ _ ?F1 ?N1; (case F1 => (refine' Fr.to' ?F2 ?e; (case F2 => k_asm); (case e => (intro y; by_cases g0 : y = Str.ofString "ch"; (subst g0; exact rfl); by_cases g1 : y = Str.ofString "token"; (subst g1; exact rfl); by_cases g2 : y = Str.ofString "fiter"; (subst g2; exact rfl); simp only [if_neg g0, if_neg g1, if_neg g2]; first | done | exact rfl)))); (case N1 => (refine' cb_drop ?c1 ?c2; (case c1 => k_asm); (case c2 => k_extra "tb_rel"))))
  case start =>
    clear F1 N1 hv
    intro chv vs c3 u1 h tk hv F' N'
    cases hv with
    | cons _ ue hv =>
      rename_i vs
      have hvl := hv.length
      have hvs : vs.length < 4000 := by simp at hl hvl; omega
      (refine' fetch (rc_ch _ _ HL _ _ _ _ _ _ _ _ ?hch ?hvs) [(_, callIt _ _), (_, methodObj (.ref 203) (.ref _))] ?B ?F ?X ?N ?T ?hA ?hf ?hK ?hh ?hd ?hu ?hi ?hq ?hfo ?hfd ?hs ?hr ?hn ?_; (case hA => exact rfl); (case hf => exact rfl); (case hK => exact rfl); (case hh => exact rfl); (case B => k_asm); (case F => k_asm); (case X => k_asm); (case N => k_asm); (case T => k_asm); (case hs => k_extra "tb_rel"); (case hd => exact Nat.le_of_ble_eq_true rfl); (case hu => exact Nat.le_of_ble_eq_true rfl); (case hr => k_extra "tb_rel"); (case hfo => k_is); (case hfd => exact rfl); (case hi => k_mem); (case hq => k_mem); (case hch => first | assumption | omega | decide); (case hvs => assumption); (case hn => (refine' fmc ?na ?nb; (case na => (refine' lexL_up (by assumption) ?lt; (case lt => first | assumption | ((try dsimp only); omega)))); (case nb => (refine' fmc ?nc ?nd; (case nc => (refine' lexL_up (by assumption) ?lt; (case lt => first | assumption | ((try dsimp only); omega)))); (case nd => exact List.forall_mem_nil _))))); k_whole; intro sm' h' tk' hp' F' N' hA'; (obtain ⟨c', u', e1'⟩ := hp'); subst e1'; (try simp only [List.cons_append, List.nil_append] at N'))
      k_steps
      rename Fr _ _ _ _ => F2
      rename News _ _ _ _ => N2
      refine' seg_loop (fun cur tc chv y => if y = Str.ofString "ch" then chv else if y = Str.ofString "token" then some (.str ⟨cur.toArray⟩ tc) else if y = Str.ofString "fiter" then some (.ref it') else List.lookup y [(Str.ofString "self", .ref X.x)]) (fun vs c3 u1 => [(X.l, W.listOf ([] : List Value).toArray c4), (X.x, instObj 220 X.d), (X.d, lexD w X.f X.l (ln + k) X.t1 X.t2 X.t3 X.t4 u1 X.u3 4), (X.dx, X.od), (X.f, ⟨.type "function", some X.dx, .func X.fd, X.sl⟩), (X.f2, rdO w X.ql X.ce X.doc X.pm X.c2 X.ct), (X.c2, X.oc), (X.sg, W.listOf vs.toArray c3), (X.ce, X.oce), (it', callIt q' _), (q', methodObj (.ref 203) (.ref X.x))]) 34 rest ?plain ?esc hs (cur0 := []) ?hc ?fin _ _ _ _ _ _ _ hv ?hl2 ?F1 ?N1
      case F1 => (refine' Fr.to' F2 ?e; (case e => (intro y; by_cases g0 : y = Str.ofString "ch"; (subst g0; exact rfl); by_cases g1 : y = Str.ofString "token"; (subst g1; exact rfl); by_cases g2 : y = Str.ofString "fiter"; (subst g2; exact rfl); simp only [if_neg g0, if_neg g1, if_neg g2]; first | done | exact rfl)))
      case N1 => (refine' cb_drop N2 ?c2; (case c2 => k_extra "tb_rel"))
      case hc => simp at htok ⊢; omega
      case hl2 => simp at hl ⊢; omega
      case plain =>
        clear F2 N2 hv hvl hvs
        intro R cur tc chv c uc vs c3 u1 h tk hc1 hc2 hcl hvs F' N' hk
        (refine' fetch (rc_ch _ _ HL _ _ _ _ _ _ _ _ ?hch ?hvs) [(_, callIt _ _), (_, methodObj (.ref 203) (.ref _))] ?B ?F ?X ?N ?T ?hA ?hf ?hK ?hh ?hd ?hu ?hi ?hq ?hfo ?hfd ?hs ?hr ?hn ?_; (case hA => exact rfl); (case hf => exact rfl); (case hK => exact rfl); (case hh => exact rfl); (case B => k_asm); (case F => k_asm); (case X => k_asm); (case N => k_asm); (case T => k_asm); (case hs => k_extra "tb_rel"); (case hd => exact Nat.le_of_ble_eq_true rfl); (case hu => exact Nat.le_of_ble_eq_true rfl); (case hr => k_extra "tb_rel"); (case hfo => k_is); (case hfd => exact rfl); (case hi => k_mem); (case hq => k_mem); (case hch => first | assumption | omega | decide); (case hvs => assumption); (case hn => (refine' fmc ?na ?nb; (case na => (refine' lexL_up (by assumption) ?lt; (case lt => first | assumption | ((try dsimp only); omega)))); (case nb => (refine' fmc ?nc ?nd; (case nc => (refine' lexL_up (by assumption) ?lt; (case lt => first | assumption | ((try dsimp only); omega)))); (case nd => exact List.forall_mem_nil _))))); k_whole; intro sm' h' tk' hp' F' N' hA'; (obtain ⟨c', u', e1'⟩ := hp'); subst e1'; (try simp only [List.cons_append, List.nil_append] at N'))
        k_steps
        (refine' hk _ _ _ _ _ _ ?F1 ?N1; (case F1 => (refine' Fr.to' ?F2 ?e; (case F2 => k_asm); (case e => (intro y; by_cases g0 : y = Str.ofString "ch"; (subst g0; exact rfl); by_cases g1 : y = Str.ofString "token"; (subst g1; exact rfl); by_cases g2 : y = Str.ofString "fiter"; (subst g2; exact rfl); simp only [if_neg g0, if_neg g1, if_neg g2]; first | done | exact rfl)))); (case N1 => (refine' cb_drop ?c1 ?c2; (case c1 => k_asm); (case c2 => k_extra "tb_rel"))))
      case esc =>
        clear F2 N2 hv hvl hvs
        intro R cur tc chv c u0 uc vs c3 u1 h tk hc1 hc2 hcl hvs F' N' hk
        have hvs1 : (Value.str ⟨#[c]⟩ uc :: vs).length < 4000 := by simp; omega
        have hvs2 : vs.length < 4000 := by omega
        (refine' fetch (rc_ch _ _ HL _ _ _ _ _ _ _ _ ?hch ?hvs) [(_, callIt _ _), (_, methodObj (.ref 203) (.ref _))] ?B ?F ?X ?N ?T ?hA ?hf ?hK ?hh ?hd ?hu ?hi ?hq ?hfo ?hfd ?hs ?hr ?hn ?_; (case hA => exact rfl); (case hf => exact rfl); (case hK => exact rfl); (case hh => exact rfl); (case B => k_asm); (case F => k_asm); (case X => k_asm); (case N => k_asm); (case T => k_asm); (case hs => k_extra "tb_rel"); (case hd => exact Nat.le_of_ble_eq_true rfl); (case hu => exact Nat.le_of_ble_eq_true rfl); (case hr => k_extra "tb_rel"); (case hfo => k_is); (case hfd => exact rfl); (case hi => k_mem); (case hq => k_mem); (case hch => first | assumption | omega | decide); (case hvs => assumption); (case hn => (refine' fmc ?na ?nb; (case na => (refine' lexL_up (by assumption) ?lt; (case lt => first | assumption | ((try dsimp only); omega)))); (case nb => (refine' fmc ?nc ?nd; (case nc => (refine' lexL_up (by assumption) ?lt; (case lt => first | assumption | ((try dsimp only); omega)))); (case nd => exact List.forall_mem_nil _))))); k_whole; intro sm' h' tk' hp' F' N' hA'; (obtain ⟨c', u', e1'⟩ := hp'); subst e1'; (try simp only [List.cons_append, List.nil_append] at N'))
        k_steps
        (refine' hk _ _ _ _ _ _ ?F1 ?N1; (case F1 => (refine' Fr.to' ?F2 ?e; (case F2 => k_asm); (case e => (intro y; by_cases g0 : y = Str.ofString "ch"; (subst g0; exact rfl); by_cases g1 : y = Str.ofString "token"; (subst g1; exact rfl); by_cases g2 : y = Str.ofString "fiter"; (subst g2; exact rfl); simp only [if_neg g0, if_neg g1, if_neg g2]; first | done | exact rfl)))); (case N1 => (refine' cb_drop ?c1 ?c2; (case c1 => k_asm); (case c2 => k_extra "tb_rel"))))
      case fin =>
        clear F2 N2 hv hvl hvs
        intro tc chv ue vs c3 u1 h tk hvs hv2 F' N'
        (refine' fetch (rc_ch _ _ HL _ _ _ _ _ _ _ _ ?hch ?hvs) [(_, callIt _ _), (_, methodObj (.ref 203) (.ref _))] ?B ?F ?X ?N ?T ?hA ?hf ?hK ?hh ?hd ?hu ?hi ?hq ?hfo ?hfd ?hs ?hr ?hn ?_; (case hA => exact rfl); (case hf => exact rfl); (case hK => exact rfl); (case hh => exact rfl); (case B => k_asm); (case F => k_asm); (case X => k_asm); (case N => k_asm); (case T => k_asm); (case hs => k_extra "tb_rel"); (case hd => exact Nat.le_of_ble_eq_true rfl); (case hu => exact Nat.le_of_ble_eq_true rfl); (case hr => k_extra "tb_rel"); (case hfo => k_is); (case hfd => exact rfl); (case hi => k_mem); (case hq => k_mem); (case hch => first | assumption | omega | decide); (case hvs => assumption); (case hn => (refine' fmc ?na ?nb; (case na => (refine' lexL_up (by assumption) ?lt; (case lt => first | assumption | ((try dsimp only); omega)))); (case nb => (refine' fmc ?nc ?nd; (case nc => (refine' lexL_up (by assumption) ?lt; (case lt => first | assumption | ((try dsimp only); omega)))); (case nd => exact List.forall_mem_nil _))))); k_whole; intro sm' h' tk' hp' F' N' hA'; (obtain ⟨c', u', e1'⟩ := hp'); subst e1'; (try simp only [List.cons_append, List.nil_append] at N'))
        k_steps
        k_dflt (show LeaveS _ _ _ _)
        all_goals (try dsimp only)
        refine' leaveS_ ?k1 ?k2 ⟨⟨⟨_, ?_, ?_, ?sv, rfl⟩, ⟨_, rfl⟩⟩, rfl, rfl, rfl⟩
        case sv => exact hv2
        case k1 => k_asm
        case k2 => (refine' cb_drop ?c1 ?c2; (case c1 => k_asm); (case c2 => k_extra "tb_rel"))

open PySem PySem.W PyProof.Rows PySem.Calls PySem.Builtin PySem.Builtin.Re
theorem rowsGT2 : True := by
  k_with_none
  k_with "storeName" => (k_here; k_dflt (refine' storeX_Lr ?F ?N ?a ?b ?_; (case a => exact rfl); (case b => exact rfl); (case F => k_asm); (case N => k_asm); k_whole; intro _ _ _; (try k_sweep)))
  k_with "eval Name" => (k_here; k_dflt (refine' nameX_Lr ?F ?a ?b ?v ?_; (case a => exact rfl); (case b => exact rfl); (case F => k_asm); (case v => exact rfl); k_whole))
  k_with "execs cons" => (refine wpAny_execs_cons ?_; (try k_fold))
  k_with "sub" => first | exact List.forall_mem_nil _ | exact fun _ h9 => h9 | ((first | refine' sub_keep ?_ | refine' sub_drop ?_); k_extra "sub")
  k_with "tb_rel" => first | (k_extra "sub"; done) | exact List.forall_mem_nil _ | (refine' fmc ?sa ?sb; (case sa => k_mem); (case sb => k_extra "tb_rel"))
  k_with "tb_start" => ((try (have HL9 := ‹LexH _›; obtain ⟨_, _, _, _, _, _, _, _, _, _, _, _, _⟩ := HL9)); unfold SpecC; k_fill; intro _ _ _ _ _ _ _ _ _ _ _ hg9 hs9; (try dsimp only [hdrD, tupO, lexL, lexR, lexD, rdO, rdParts] at hg9 hs9); revert hg9 hs9; intro _ _ _ _ _ _; k_dflt (refine' call_C ?k1 ?k2 ?k3 ?k4 ?k5 ?k10 ?k6 ?k7 ?k8 ?k9 ?kB ?_ ?c2 ?c3 ?c4 ?c5; (case k1 => k_asm); (case k2 => k_asm); (case k3 => k_asm); (case k4 => k_asm); (case k5 => k_asm); (case k10 => k_asm); (case k6 => k_is); (case k7 => k_is); (case k8 => decide); (case k9 => first | exact BindsTo.of_eq rfl | exact binds_K (by k_in) rfl (by k_is) rfl rfl rfl | exact binds_K (in_of_hide (by assumption) (by assumption)) rfl (by k_is) rfl rfl rfl); (case c5 => decide); (case kB => exact locs rfl); (case c2 => exact rfl); (case c3 => exact rfl); (case c4 => exact rfl); k_whole; intro _ _ _ _; (try dsimp only); (try k_fold)))
  k_with "LeaveS" => k_dflt (refine' leaveS_ ?k1 ?k2 ⟨⟨?_, ?ke⟩, ?kg, ?kd, ?ko⟩; (case ke => exact rfl); (case kg => exact rfl); (case kd => exact rfl); (case ko => exact rfl); (case k1 => k_asm); (case k2 => refine cb_drop (by k_asm) ?_; k_extra "tb_rel"))
  k_with "call ref" => (k_here; (with_reducible show wpAny _ _ (call (Value.ref 70) [_, Value.str _ _] _) _ _ _); k_dflt ((show wpAny _ _ (call (Value.ref 70) [_, Value.str _ _] [(Str.ofString "name", Value.bool true)]) _ _ _); refine' SpecK.use (convN _ _ ?q _ _ _) ?B ?F ?X ?N ?T ?hA ?hK ?hh ?hd ?hu ?_; (case hA => exact rfl); (case B => k_asm); (case F => k_asm); (case X => k_asm); (case N => k_asm); (case T => k_asm); (case hK => first | rfl | assumption); (case hh => rfl); (case hd => exact Nat.le_of_ble_eq_true rfl); (case hu => exact Nat.le_of_ble_eq_true rfl); (case q => first | assumption | exact quiet_names (by assumption) | decide +kernel); k_whole; (rintro v' news' h' tk' ⟨⟨t', e1'⟩, e2'⟩ F' N'); subst e1'; subst e2'; (try k_sweep)))
  k_with "call ref" => (k_here; (with_reducible show wpAny _ _ (call (Value.ref 70) [_, Value.str _ _] _) _ _ _); k_dflt ((show wpAny _ _ (call (Value.ref 70) [_, Value.str _ _] [(Str.ofString "name", Value.bool false)]) _ _ _); refine' SpecK.use (convV _ _ ?q _ _ _) ?B ?F ?X ?N ?T ?hA ?hK ?hh ?hd ?hu ?_; (case hA => exact rfl); (case B => k_asm); (case F => k_asm); (case X => k_asm); (case N => k_asm); (case T => k_asm); (case hK => first | rfl | assumption); (case hh => rfl); (case hd => exact Nat.le_of_ble_eq_true rfl); (case hu => exact Nat.le_of_ble_eq_true rfl); (case q => first | assumption | exact quiet_words (by assumption) (by assumption) | decide +kernel); k_whole; (rintro v' news' h' tk' ⟨⟨t', e1'⟩, e2'⟩ F' N'); subst e1'; subst e2'; (try k_sweep)))
  k_with "call builtin:str.lower" => (k_here; k_dflt ((show wpAny _ _ (call (Value.builtin "str.lower") [Value.str (Nm _) _]) _ _ _); refine lower_nm (by assumption) ?_; intro _ _))
  k_with "exec For Tuple Attribute" => (k_here; (rename Fr _ _ _ _ => lF'); (with_unfolding_all refine' For_turns lF' ?_; k_whole))
  k_with "getMethod ref" => (k_here; (with_reducible show wpAny _ _ (getMethod (Value.ref _) (Str.ofString "read") _) _ _ _); k_dflt (refine' fn_getMethod_N ?N ?hx ?hd ?ho ?_; (case N => k_asm); (case hx => k_mem); (case hd => k_mem); (case ho => assumption); k_whole; intro tk'; (try dsimp only); (try k_sweep)))
  k_with "truthy ref" => (k_here; (with_reducible show wpAny _ _ (truthy (Value.ref _)) _ _ _); k_dflt (first | (refine' truth_signs ?N ?m ?z ?_; (case N => k_asm); (case m => k_mem); (case z => assumption); k_whole) | (refine' truth_none ?N ?m ?_; (case N => k_asm); (case m => k_mem); k_whole)); intro tk'; (try simp only [if_true, if_false, Bool.false_eq_true]))
  k_with "call builtin:list.pop" => (k_here; (with_reducible show wpAny _ _ (call (Value.builtin "list.pop") [Value.ref _, Value.int _ _]) _ _ _); k_dflt (refine' pop_signs ?F ?N ?U ?z ?_; (case F => k_asm); (case N => k_asm); (case U => k_upd); (case z => assumption); k_whole); intro h' F' N'; (try k_sweep))
  k_with "compareOp Eq str str" => (k_here; (with_reducible show wpAny _ _ (compareOp _ (Value.str ⟨#[_]⟩ _) _) _ _ _); k_dflt (first
  | (refine' ch_eq_t ?h ?_; (case h => exact rfl))
  | (refine' ch_eq_f (d := 10) ?h ?n ?_; (case h => exact rfl); (case n => first | assumption | decide))
  | (refine' ch_eq_f (d := 34) ?h ?n ?_; (case h => exact rfl); (case n => first | assumption | decide))
  | (refine' ch_eq_f (d := 92) ?h ?n ?_; (case h => exact rfl); (case n => first | assumption | decide))))
  k_with "call builtin:iter" => (k_here; (with_reducible show wpAny _ _ (call (Value.builtin "iter") [Value.ref _, Value.str _ _]) _ _ _); k_dflt (refine' iter2_K ?F ?N ?q ?_; (case F => k_asm); (case N => k_asm); (case q => k_mem); k_whole); intro it' h1 F' N' l1b; (try k_lt l1b); (try k_sweep))
  k_with "pyIter ref" => (k_here; (with_reducible show wpAny _ _ (pyIter (Value.ref _)) _ _ _); k_dflt (refine' pyIter_cit ?N ?i ?_; (case N => k_asm); (case i => k_mem); k_whole))
  k_with "exec For Name Name cons nil" => (k_here; k_dflt (refine' wpAny_For ?_ ?_; (case refine'_2 => (intro _; exact rfl)); k_whole))
  k_with "compareOp In str str" => (k_here; k_dflt (first
  | (refine' ws_f ?a ?b ?_; (case a => assumption); (case b => assumption))
  | (refine' ws_lit (b := true) ?h ?_; (case h => decide +kernel))
  | (refine' ws_lit (b := false) ?h ?_; (case h => decide +kernel))))
  k_with "compareOp Eq str str" => (k_here; (with_reducible show wpAny _ _ (compareOp _ (Value.str ⟨#[_]⟩ _) _) _ _ _); k_dflt (first
  | (refine' ch_eq_t ?h ?_; (case h => exact rfl))
  | (refine' ch_eq_f (d := 10) ?h ?n ?_; (case h => exact rfl); (case n => first | assumption | omega))
  | (refine' ch_eq_f (d := 34) ?h ?n ?_; (case h => exact rfl); (case n => first | assumption | omega))
  | (refine' ch_eq_f (d := 92) ?h ?n ?_; (case h => exact rfl); (case n => first | assumption | omega))))
  k_with "inplaceOp Add str str" => (k_here; k_dflt (first
  | (refine' iadd_sign (cur := []) ?h ?n ?_; (case h => exact rfl); (case n => decide); intro _ _)
  | (refine' iadd_sign ?h ?n ?_; (case h => exact rfl); (case n => assumption); intro _ _)))
  k_with "call ref" => (k_here; (with_reducible show wpAny _ _ (call (Value.ref 203) _ _) _ _ _); k_dflt (refine' SpecG.use (rc_ch _ _ ?HL _ _ _ _ _ _ _ _ ?hch ?hvs).toG [(_, callIt _ _), (_, methodObj (.ref 203) (.ref _))] ?B ?F ?X ?N ?T ?hA ?hf ?hK ?hh ?hd ?hu ?hs ?hr ?hn ?_; (case HL => assumption); (case hA => exact rfl); (case hf => exact rfl); (case hK => exact rfl); (case hh => exact rfl); (case B => k_asm); (case F => k_asm); (case X => k_asm); (case N => k_asm); (case T => k_asm); (case hs => k_extra "tb_rel"); (case hd => exact Nat.le_of_ble_eq_true rfl); (case hu => exact Nat.le_of_ble_eq_true rfl); (case hr => k_extra "tb_rel"); (case hch => first | assumption | omega | decide); (case hvs => first | assumption | omega); (case hn => (refine' fmc ?na ?nb; (case na => (refine' lexL_up (by assumption) ?lt; (case lt => first | assumption | ((try dsimp only); omega)))); (case nb => (refine' fmc ?nc ?nd; (case nc => (refine' lexL_up (by assumption) ?lt; (case lt => first | assumption | ((try dsimp only); omega)))); (case nd => exact List.forall_mem_nil _))))); k_whole; intro v' sm' h' tk' hp' F' N' hA'; (obtain ⟨⟨c', u', e1'⟩, e2'⟩ := hp'); subst e1'; subst e2'; (try simp only [List.cons_append, List.nil_append] at N'); (try k_sweep)))
  trivial
theorem gt_b (w : World) (X : Lx) (HL : LexH X) (ln : Int) (u1 : Tok) (c3 c4 : Nat) (vs : List Value) (ws seg tok rest : List Nat) (k k2 : Int) (e : Nat) (hw : WsTo ws k) (hE : WsTo [e] k2) (hs : Seg seg tok) (hne : tok ≠ []) (hv : SignsAre vs (ws ++ (seg ++ e :: rest))) (hl : (ws ++ (seg ++ e :: rest)).length < 4000) (htok : tok.length < 50) :
    SpecC 780 5800 w 210 [.ref X.x] [] (lexL w X ln u1 vs c3 ([] : List Value).toArray c4)
      (fun v small' => (∃ vs' c' u' ln', SignsAre vs' rest ∧ ln' = ln + k + k2 ∧ small' = lexL w X ln' u' vs' c' ([] : List Value).toArray c4) ∧ ∃ t', v = .str ⟨tok.toArray⟩ t') := by
  k_extra "tb_start"
  k_steps
  rename_i L' h4 tk_ h3 q' h2 l1a h0 F1 N1
  have hlq : @LT.lt Nat _ X.l q' := by omega
  have hli : @LT.lt Nat _ X.l it' := by omega
  refine' ws_loop (fun chv y => if y = Str.ofString "ch" then chv else if y = Str.ofString "fiter" then some (.ref it') else if y = Str.ofString "token" then some (.str (Str.ofString "") _) else List.lookup y [(Str.ofString "self", .ref X.x)]) (fun vs c3 u1 ln => [(X.l, W.listOf ([] : List Value).toArray c4), (X.x, instObj 220 X.d), (X.d, lexD w X.f X.l ln X.t1 X.t2 X.t3 X.t4 u1 X.u3 4), (X.dx, X.od), (X.f, ⟨.type "function", some X.dx, .func X.fd, X.sl⟩), (X.f2, rdO w X.ql X.ce X.doc X.pm X.c2 X.ct), (X.c2, X.oc), (X.sg, W.listOf vs.toArray c3), (X.ce, X.oce), (it', callIt q' _), (q', methodObj (.ref 203) (.ref X.x))]) (seg ++ e :: rest) (ln + k) ?zst ?ztb ?zln hw vs c3 u1 ln _ _ hv hl rfl (Fr.to' F1 (by (intro y; by_cases g0 : y = Str.ofString "ch"; (subst g0; exact rfl); by_cases g1 : y = Str.ofString "token"; (subst g1; exact rfl); by_cases g2 : y = Str.ofString "fiter"; (subst g2; exact rfl); simp only [if_neg g0, if_neg g1, if_neg g2]; first | done | exact rfl))) ?N1
  case N1 => (refine' cb_drop ?c1 ?c2; (case c1 => k_asm); (case c2 => k_extra "tb_rel"))
  case ztb =>
    clear F1 N1 hv
    intro R uc vs c3 u1 ln h tk hvs F' N' hk
    (refine' fetch (rc_ch _ _ HL _ _ _ _ _ _ _ _ ?hch ?hvs) [(_, callIt _ _), (_, methodObj (.ref 203) (.ref _))] ?B ?F ?X ?N ?T ?hA ?hf ?hK ?hh ?hd ?hu ?hi ?hq ?hfo ?hfd ?hs ?hr ?hn ?_; (case hA => exact rfl); (case hf => exact rfl); (case hK => exact rfl); (case hh => exact rfl); (case B => k_asm); (case F => k_asm); (case X => k_asm); (case N => k_asm); (case T => k_asm); (case hs => k_extra "tb_rel"); (case hd => exact Nat.le_of_ble_eq_true rfl); (case hu => exact Nat.le_of_ble_eq_true rfl); (case hr => k_extra "tb_rel"); (case hfo => k_is); (case hfd => exact rfl); (case hi => k_mem); (case hq => k_mem); (case hch => first | assumption | omega | decide); (case hvs => assumption); (case hn => (refine' fmc ?na ?nb; (case na => (refine' lexL_up (by assumption) ?lt; (case lt => first | assumption | ((try dsimp only); omega)))); (case nb => (refine' fmc ?nc ?nd; (case nc => (refine' lexL_up (by assumption) ?lt; (case lt => first | assumption | ((try dsimp only); omega)))); (case nd => exact List.forall_mem_nil _))))); k_whole; intro sm' h' tk' hp' F' N' hA'; (obtain ⟨c', u', e1'⟩ := hp'); subst e1'; (try simp only [List.cons_append, List.nil_append] at N'))
    k_steps
    (refine' hk _ _ _ _ _ ?F1 ?N1; (case F1 => (refine' Fr.to' ?F2 ?e; (case F2 => k_asm); (case e => (intro y; by_cases g0 : y = Str.ofString "ch"; (subst g0; exact rfl); by_cases g1 : y = Str.ofString "token"; (subst g1; exact rfl); by_cases g2 : y = Str.ofString "fiter"; (subst g2; exact rfl); simp only [if_neg g0, if_neg g1, if_neg g2]; first | done | exact rfl)))); (case N1 => (refine' cb_drop ?c1 ?c2; (case c1 => k_asm); (case c2 => k_extra "tb_rel"))))
  case zln =>
    clear F1 N1 hv
    intro R uc vs c3 u1 ln h tk hvs F' N' hk
    (refine' fetch (rc_nl _ _ HL _ _ _ _ _ _ _ ?hvs) [(_, callIt _ _), (_, methodObj (.ref 203) (.ref _))] ?B ?F ?X ?N ?T ?hA ?hf ?hK ?hh ?hd ?hu ?hi ?hq ?hfo ?hfd ?hs ?hr ?hn ?_; (case hA => exact rfl); (case hf => exact rfl); (case hK => exact rfl); (case hh => exact rfl); (case B => k_asm); (case F => k_asm); (case X => k_asm); (case N => k_asm); (case T => k_asm); (case hs => k_extra "tb_rel"); (case hd => exact Nat.le_of_ble_eq_true rfl); (case hu => exact Nat.le_of_ble_eq_true rfl); (case hr => k_extra "tb_rel"); (case hfo => k_is); (case hfd => exact rfl); (case hi => k_mem); (case hq => k_mem); (case hvs => assumption); (case hn => (refine' fmc ?na ?nb; (case na => (refine' lexL_up (by assumption) ?lt; (case lt => first | assumption | ((try dsimp only); omega)))); (case nb => (refine' fmc ?nc ?nd; (case nc => (refine' lexL_up (by assumption) ?lt; (case lt => first | assumption | ((try dsimp only); omega)))); (case nd => exact List.forall_mem_nil _))))); k_whole; intro sm' h' tk' hp' F' N' hA'; (obtain ⟨c', u', e1'⟩ := hp'); subst e1'; (try simp only [List.cons_append, List.nil_append] at N'))
    k_steps
    (refine' hk _ _ _ _ _ ?F1 ?N1; (case F1 => (refine' Fr.to' ?F2 ?e; (case F2 => k_asm); (case e => (intro y; by_cases g0 : y = Str.ofString "ch"; (subst g0; exact rfl); by_cases g1 : y = Str.ofString "token"; (subst g1; exact rfl); by_cases g2 : y = Str.ofString "fiter"; (subst g2; exact rfl); simp only [if_neg g0, if_neg g1, if_neg g2]; first | done | exact rfl)))); (case N1 => (refine' cb_drop ?c1 ?c2; (case c1 => k_asm); (case c2 => k_extra "tb_rel"))))
  case zst =>
    clear F1 N1 hv
    intro chv vs c3 u1 h tk hv F' N'
    cases hs with
    | nil => exact absurd rfl hne
    | @plain c r t hc1 hc2 hr =>
      cases hv with
      | cons _ ue hv =>
      rename_i vs
      have hvl := hv.length
      have hvs : vs.length < 4000 := by simp at hl hvl; omega
      (refine' fetch (rc_ch _ _ HL _ _ _ _ _ _ _ _ ?hch ?hvs) [(_, callIt _ _), (_, methodObj (.ref 203) (.ref _))] ?B ?F ?X ?N ?T ?hA ?hf ?hK ?hh ?hd ?hu ?hi ?hq ?hfo ?hfd ?hs ?hr ?hn ?_; (case hA => exact rfl); (case hf => exact rfl); (case hK => exact rfl); (case hh => exact rfl); (case B => k_asm); (case F => k_asm); (case X => k_asm); (case N => k_asm); (case T => k_asm); (case hs => k_extra "tb_rel"); (case hd => exact Nat.le_of_ble_eq_true rfl); (case hu => exact Nat.le_of_ble_eq_true rfl); (case hr => k_extra "tb_rel"); (case hfo => k_is); (case hfd => exact rfl); (case hi => k_mem); (case hq => k_mem); (case hch => first | assumption | omega | decide); (case hvs => assumption); (case hn => (refine' fmc ?na ?nb; (case na => (refine' lexL_up (by assumption) ?lt; (case lt => first | assumption | ((try dsimp only); omega)))); (case nb => (refine' fmc ?nc ?nd; (case nc => (refine' lexL_up (by assumption) ?lt; (case lt => first | assumption | ((try dsimp only); omega)))); (case nd => exact List.forall_mem_nil _))))); k_whole; intro sm' h' tk' hp' F' N' hA'; (obtain ⟨c', u', e1'⟩ := hp'); subst e1'; (try simp only [List.cons_append, List.nil_append] at N'))
      k_steps
      rename Fr _ _ _ _ => F2
      rename News _ _ _ _ => N2
      refine' seg_loop (fun cur tc chv y => if y = Str.ofString "ch" then chv else if y = Str.ofString "token" then some (.str ⟨cur.toArray⟩ tc) else if y = Str.ofString "fiter" then some (.ref it') else List.lookup y [(Str.ofString "self", .ref X.x)]) (fun vs c3 u1 => [(X.l, W.listOf ([] : List Value).toArray c4), (X.x, instObj 220 X.d), (X.d, lexD w X.f X.l (ln + k) X.t1 X.t2 X.t3 X.t4 u1 X.u3 4), (X.dx, X.od), (X.f, ⟨.type "function", some X.dx, .func X.fd, X.sl⟩), (X.f2, rdO w X.ql X.ce X.doc X.pm X.c2 X.ct), (X.c2, X.oc), (X.sg, W.listOf vs.toArray c3), (X.ce, X.oce), (it', callIt q' _), (q', methodObj (.ref 203) (.ref X.x))]) e rest ?zpl ?zes hr (cur0 := [_]) ?hc ?zfi _ _ _ _ _ _ _ hv ?hl2 ?F1 ?N1
      case F1 => (refine' Fr.to' F2 ?e; (case e => (intro y; by_cases g0 : y = Str.ofString "ch"; (subst g0; exact rfl); by_cases g1 : y = Str.ofString "token"; (subst g1; exact rfl); by_cases g2 : y = Str.ofString "fiter"; (subst g2; exact rfl); simp only [if_neg g0, if_neg g1, if_neg g2]; first | done | exact rfl)))
      case N1 => (refine' cb_drop N2 ?c2; (case c2 => k_extra "tb_rel"))
      case hc => simp at htok ⊢; omega
      case hl2 => simp at hl ⊢; omega
      case zpl =>
        clear F2 N2 hv hvl hvs
        intro R cur tc chv c uc vs c3 u1 h tk hc1 hc2 hcl hvs F' N' hk
        (refine' fetch (rc_ch _ _ HL _ _ _ _ _ _ _ _ ?hch ?hvs) [(_, callIt _ _), (_, methodObj (.ref 203) (.ref _))] ?B ?F ?X ?N ?T ?hA ?hf ?hK ?hh ?hd ?hu ?hi ?hq ?hfo ?hfd ?hs ?hr ?hn ?_; (case hA => exact rfl); (case hf => exact rfl); (case hK => exact rfl); (case hh => exact rfl); (case B => k_asm); (case F => k_asm); (case X => k_asm); (case N => k_asm); (case T => k_asm); (case hs => k_extra "tb_rel"); (case hd => exact Nat.le_of_ble_eq_true rfl); (case hu => exact Nat.le_of_ble_eq_true rfl); (case hr => k_extra "tb_rel"); (case hfo => k_is); (case hfd => exact rfl); (case hi => k_mem); (case hq => k_mem); (case hch => first | assumption | omega | decide); (case hvs => assumption); (case hn => (refine' fmc ?na ?nb; (case na => (refine' lexL_up (by assumption) ?lt; (case lt => first | assumption | ((try dsimp only); omega)))); (case nb => (refine' fmc ?nc ?nd; (case nc => (refine' lexL_up (by assumption) ?lt; (case lt => first | assumption | ((try dsimp only); omega)))); (case nd => exact List.forall_mem_nil _))))); k_whole; intro sm' h' tk' hp' F' N' hA'; (obtain ⟨c', u', e1'⟩ := hp'); subst e1'; (try simp only [List.cons_append, List.nil_append] at N'))
        k_steps
        (refine' hk _ _ _ _ _ _ ?F1 ?N1; (case F1 => (refine' Fr.to' ?F2 ?e; (case F2 => k_asm); (case e => (intro y; by_cases g0 : y = Str.ofString "ch"; (subst g0; exact rfl); by_cases g1 : y = Str.ofString "token"; (subst g1; exact rfl); by_cases g2 : y = Str.ofString "fiter"; (subst g2; exact rfl); simp only [if_neg g0, if_neg g1, if_neg g2]; first | done | exact rfl)))); (case N1 => (refine' cb_drop ?c1 ?c2; (case c1 => k_asm); (case c2 => k_extra "tb_rel"))))
      case zes =>
        clear F2 N2 hv hvl hvs
        intro R cur tc chv c u0 uc vs c3 u1 h tk hc1 hc2 hcl hvs F' N' hk
        have hvs1 : (Value.str ⟨#[c]⟩ uc :: vs).length < 4000 := by simp; omega
        have hvs2 : vs.length < 4000 := by omega
        (refine' fetch (rc_ch _ _ HL _ _ _ _ _ _ _ _ ?hch ?hvs) [(_, callIt _ _), (_, methodObj (.ref 203) (.ref _))] ?B ?F ?X ?N ?T ?hA ?hf ?hK ?hh ?hd ?hu ?hi ?hq ?hfo ?hfd ?hs ?hr ?hn ?_; (case hA => exact rfl); (case hf => exact rfl); (case hK => exact rfl); (case hh => exact rfl); (case B => k_asm); (case F => k_asm); (case X => k_asm); (case N => k_asm); (case T => k_asm); (case hs => k_extra "tb_rel"); (case hd => exact Nat.le_of_ble_eq_true rfl); (case hu => exact Nat.le_of_ble_eq_true rfl); (case hr => k_extra "tb_rel"); (case hfo => k_is); (case hfd => exact rfl); (case hi => k_mem); (case hq => k_mem); (case hch => first | assumption | omega | decide); (case hvs => assumption); (case hn => (refine' fmc ?na ?nb; (case na => (refine' lexL_up (by assumption) ?lt; (case lt => first | assumption | ((try dsimp only); omega)))); (case nb => (refine' fmc ?nc ?nd; (case nc => (refine' lexL_up (by assumption) ?lt; (case lt => first | assumption | ((try dsimp only); omega)))); (case nd => exact List.forall_mem_nil _))))); k_whole; intro sm' h' tk' hp' F' N' hA'; (obtain ⟨c', u', e1'⟩ := hp'); subst e1'; (try simp only [List.cons_append, List.nil_append] at N'))
        k_steps
        (refine' hk _ _ _ _ _ _ ?F1 ?N1; (case F1 => (refine' Fr.to' ?F2 ?e; (case F2 => k_asm); (case e => (intro y; by_cases g0 : y = Str.ofString "ch"; (subst g0; exact rfl); by_cases g1 : y = Str.ofString "token"; (subst g1; exact rfl); by_cases g2 : y = Str.ofString "fiter"; (subst g2; exact rfl); simp only [if_neg g0, if_neg g1, if_neg g2]; first | done | exact rfl)))); (case N1 => (refine' cb_drop ?c1 ?c2; (case c1 => k_asm); (case c2 => k_extra "tb_rel"))))
      case zfi =>
        clear F2 N2 hv hvl hvs
        intro tc chv ue vs c3 u1 h tk hvs hv2 F' N'
        rcases hE with _ | _ | _
        · (refine' fetch (rc_ch _ _ HL _ _ _ _ _ _ _ _ ?hch ?hvs) [(_, callIt _ _), (_, methodObj (.ref 203) (.ref _))] ?B ?F ?X ?N ?T ?hA ?hf ?hK ?hh ?hd ?hu ?hi ?hq ?hfo ?hfd ?hs ?hr ?hn ?_; (case hA => exact rfl); (case hf => exact rfl); (case hK => exact rfl); (case hh => exact rfl); (case B => k_asm); (case F => k_asm); (case X => k_asm); (case N => k_asm); (case T => k_asm); (case hs => k_extra "tb_rel"); (case hd => exact Nat.le_of_ble_eq_true rfl); (case hu => exact Nat.le_of_ble_eq_true rfl); (case hr => k_extra "tb_rel"); (case hfo => k_is); (case hfd => exact rfl); (case hi => k_mem); (case hq => k_mem); (case hch => first | assumption | omega | decide); (case hvs => assumption); (case hn => (refine' fmc ?na ?nb; (case na => (refine' lexL_up (by assumption) ?lt; (case lt => first | assumption | ((try dsimp only); omega)))); (case nb => (refine' fmc ?nc ?nd; (case nc => (refine' lexL_up (by assumption) ?lt; (case lt => first | assumption | ((try dsimp only); omega)))); (case nd => exact List.forall_mem_nil _))))); k_whole; intro sm' h' tk' hp' F' N' hA'; (obtain ⟨c', u', e1'⟩ := hp'); subst e1'; (try simp only [List.cons_append, List.nil_append] at N'))
          k_steps
          k_dflt (show LeaveS _ _ _ _)
          all_goals (try dsimp only)
          refine' leaveS_ ?k1 ?k2 ⟨⟨⟨_, ?_, ?_, _, ?sv, ?ln, rfl⟩, ⟨_, rfl⟩⟩, rfl, rfl, rfl⟩
          case sv => exact hv2
          case k1 => k_asm
          case k2 => (refine' cb_drop ?c1 ?c2; (case c1 => k_asm); (case c2 => k_extra "tb_rel"))
          case ln => first | rfl | omega
        · (refine' fetch (rc_nl _ _ HL _ _ _ _ _ _ _ ?hvs) [(_, callIt _ _), (_, methodObj (.ref 203) (.ref _))] ?B ?F ?X ?N ?T ?hA ?hf ?hK ?hh ?hd ?hu ?hi ?hq ?hfo ?hfd ?hs ?hr ?hn ?_; (case hA => exact rfl); (case hf => exact rfl); (case hK => exact rfl); (case hh => exact rfl); (case B => k_asm); (case F => k_asm); (case X => k_asm); (case N => k_asm); (case T => k_asm); (case hs => k_extra "tb_rel"); (case hd => exact Nat.le_of_ble_eq_true rfl); (case hu => exact Nat.le_of_ble_eq_true rfl); (case hr => k_extra "tb_rel"); (case hfo => k_is); (case hfd => exact rfl); (case hi => k_mem); (case hq => k_mem); (case hvs => assumption); (case hn => (refine' fmc ?na ?nb; (case na => (refine' lexL_up (by assumption) ?lt; (case lt => first | assumption | ((try dsimp only); omega)))); (case nb => (refine' fmc ?nc ?nd; (case nc => (refine' lexL_up (by assumption) ?lt; (case lt => first | assumption | ((try dsimp only); omega)))); (case nd => exact List.forall_mem_nil _))))); k_whole; intro sm' h' tk' hp' F' N' hA'; (obtain ⟨c', u', e1'⟩ := hp'); subst e1'; (try simp only [List.cons_append, List.nil_append] at N'))
          k_steps
          k_dflt (show LeaveS _ _ _ _)
          all_goals (try dsimp only)
          refine' leaveS_ ?k1 ?k2 ⟨⟨⟨_, ?_, ?_, _, ?sv, ?ln, rfl⟩, ⟨_, rfl⟩⟩, rfl, rfl, rfl⟩
          case sv => exact hv2
          case k1 => k_asm
          case k2 => (refine' cb_drop ?c1 ?c2; (case c1 => k_asm); (case c2 => k_extra "tb_rel"))
          case ln => first | rfl | omega

    | @esc c r t hc1 hc2 hr =>
      cases hv with
      | cons _ u0 hv =>
      cases hv with
      | cons _ uc hv =>
      rename_i vs
      have hvs1 : (Value.str ⟨#[c]⟩ uc :: vs).length < 4000 := by have hvl := hv.length; simp at hl hvl ⊢; omega
      have hvl := hv.length
      have hvs : vs.length < 4000 := by simp at hl hvl; omega
      (refine' fetch (rc_ch _ _ HL _ _ _ _ _ _ _ _ ?hch ?hvs) [(_, callIt _ _), (_, methodObj (.ref 203) (.ref _))] ?B ?F ?X ?N ?T ?hA ?hf ?hK ?hh ?hd ?hu ?hi ?hq ?hfo ?hfd ?hs ?hr ?hn ?_; (case hA => exact rfl); (case hf => exact rfl); (case hK => exact rfl); (case hh => exact rfl); (case B => k_asm); (case F => k_asm); (case X => k_asm); (case N => k_asm); (case T => k_asm); (case hs => k_extra "tb_rel"); (case hd => exact Nat.le_of_ble_eq_true rfl); (case hu => exact Nat.le_of_ble_eq_true rfl); (case hr => k_extra "tb_rel"); (case hfo => k_is); (case hfd => exact rfl); (case hi => k_mem); (case hq => k_mem); (case hch => first | assumption | omega | decide); (case hvs => assumption); (case hn => (refine' fmc ?na ?nb; (case na => (refine' lexL_up (by assumption) ?lt; (case lt => first | assumption | ((try dsimp only); omega)))); (case nb => (refine' fmc ?nc ?nd; (case nc => (refine' lexL_up (by assumption) ?lt; (case lt => first | assumption | ((try dsimp only); omega)))); (case nd => exact List.forall_mem_nil _))))); k_whole; intro sm' h' tk' hp' F' N' hA'; (obtain ⟨c', u', e1'⟩ := hp'); subst e1'; (try simp only [List.cons_append, List.nil_append] at N'))
      k_steps
      rename Fr _ _ _ _ => F2
      rename News _ _ _ _ => N2
      refine' seg_loop (fun cur tc chv y => if y = Str.ofString "ch" then chv else if y = Str.ofString "token" then some (.str ⟨cur.toArray⟩ tc) else if y = Str.ofString "fiter" then some (.ref it') else List.lookup y [(Str.ofString "self", .ref X.x)]) (fun vs c3 u1 => [(X.l, W.listOf ([] : List Value).toArray c4), (X.x, instObj 220 X.d), (X.d, lexD w X.f X.l (ln + k) X.t1 X.t2 X.t3 X.t4 u1 X.u3 4), (X.dx, X.od), (X.f, ⟨.type "function", some X.dx, .func X.fd, X.sl⟩), (X.f2, rdO w X.ql X.ce X.doc X.pm X.c2 X.ct), (X.c2, X.oc), (X.sg, W.listOf vs.toArray c3), (X.ce, X.oce), (it', callIt q' _), (q', methodObj (.ref 203) (.ref X.x))]) e rest ?zpl ?zes hr (cur0 := [_]) ?hc ?zfi _ _ _ _ _ _ _ hv ?hl2 ?F1 ?N1
      case F1 => (refine' Fr.to' F2 ?e; (case e => (intro y; by_cases g0 : y = Str.ofString "ch"; (subst g0; exact rfl); by_cases g1 : y = Str.ofString "token"; (subst g1; exact rfl); by_cases g2 : y = Str.ofString "fiter"; (subst g2; exact rfl); simp only [if_neg g0, if_neg g1, if_neg g2]; first | done | exact rfl)))
      case N1 => (refine' cb_drop N2 ?c2; (case c2 => k_extra "tb_rel"))
      case hc => simp at htok ⊢; omega
      case hl2 => simp at hl ⊢; omega
      case zpl =>
        clear F2 N2 hv hvl hvs
        intro R cur tc chv c uc vs c3 u1 h tk hc1 hc2 hcl hvs F' N' hk
        (refine' fetch (rc_ch _ _ HL _ _ _ _ _ _ _ _ ?hch ?hvs) [(_, callIt _ _), (_, methodObj (.ref 203) (.ref _))] ?B ?F ?X ?N ?T ?hA ?hf ?hK ?hh ?hd ?hu ?hi ?hq ?hfo ?hfd ?hs ?hr ?hn ?_; (case hA => exact rfl); (case hf => exact rfl); (case hK => exact rfl); (case hh => exact rfl); (case B => k_asm); (case F => k_asm); (case X => k_asm); (case N => k_asm); (case T => k_asm); (case hs => k_extra "tb_rel"); (case hd => exact Nat.le_of_ble_eq_true rfl); (case hu => exact Nat.le_of_ble_eq_true rfl); (case hr => k_extra "tb_rel"); (case hfo => k_is); (case hfd => exact rfl); (case hi => k_mem); (case hq => k_mem); (case hch => first | assumption | omega | decide); (case hvs => assumption); (case hn => (refine' fmc ?na ?nb; (case na => (refine' lexL_up (by assumption) ?lt; (case lt => first | assumption | ((try dsimp only); omega)))); (case nb => (refine' fmc ?nc ?nd; (case nc => (refine' lexL_up (by assumption) ?lt; (case lt => first | assumption | ((try dsimp only); omega)))); (case nd => exact List.forall_mem_nil _))))); k_whole; intro sm' h' tk' hp' F' N' hA'; (obtain ⟨c', u', e1'⟩ := hp'); subst e1'; (try simp only [List.cons_append, List.nil_append] at N'))
        k_steps
        (refine' hk _ _ _ _ _ _ ?F1 ?N1; (case F1 => (refine' Fr.to' ?F2 ?e; (case F2 => k_asm); (case e => (intro y; by_cases g0 : y = Str.ofString "ch"; (subst g0; exact rfl); by_cases g1 : y = Str.ofString "token"; (subst g1; exact rfl); by_cases g2 : y = Str.ofString "fiter"; (subst g2; exact rfl); simp only [if_neg g0, if_neg g1, if_neg g2]; first | done | exact rfl)))); (case N1 => (refine' cb_drop ?c1 ?c2; (case c1 => k_asm); (case c2 => k_extra "tb_rel"))))
      case zes =>
        clear F2 N2 hv hvl hvs
        intro R cur tc chv c u0 uc vs c3 u1 h tk hc1 hc2 hcl hvs F' N' hk
        have hvs1 : (Value.str ⟨#[c]⟩ uc :: vs).length < 4000 := by simp; omega
        have hvs2 : vs.length < 4000 := by omega
        (refine' fetch (rc_ch _ _ HL _ _ _ _ _ _ _ _ ?hch ?hvs) [(_, callIt _ _), (_, methodObj (.ref 203) (.ref _))] ?B ?F ?X ?N ?T ?hA ?hf ?hK ?hh ?hd ?hu ?hi ?hq ?hfo ?hfd ?hs ?hr ?hn ?_; (case hA => exact rfl); (case hf => exact rfl); (case hK => exact rfl); (case hh => exact rfl); (case B => k_asm); (case F => k_asm); (case X => k_asm); (case N => k_asm); (case T => k_asm); (case hs => k_extra "tb_rel"); (case hd => exact Nat.le_of_ble_eq_true rfl); (case hu => exact Nat.le_of_ble_eq_true rfl); (case hr => k_extra "tb_rel"); (case hfo => k_is); (case hfd => exact rfl); (case hi => k_mem); (case hq => k_mem); (case hch => first | assumption | omega | decide); (case hvs => assumption); (case hn => (refine' fmc ?na ?nb; (case na => (refine' lexL_up (by assumption) ?lt; (case lt => first | assumption | ((try dsimp only); omega)))); (case nb => (refine' fmc ?nc ?nd; (case nc => (refine' lexL_up (by assumption) ?lt; (case lt => first | assumption | ((try dsimp only); omega)))); (case nd => exact List.forall_mem_nil _))))); k_whole; intro sm' h' tk' hp' F' N' hA'; (obtain ⟨c', u', e1'⟩ := hp'); subst e1'; (try simp only [List.cons_append, List.nil_append] at N'))
        k_steps
        (refine' hk _ _ _ _ _ _ ?F1 ?N1; (case F1 => (refine' Fr.to' ?F2 ?e; (case F2 => k_asm); (case e => (intro y; by_cases g0 : y = Str.ofString "ch"; (subst g0; exact rfl); by_cases g1 : y = Str.ofString "token"; (subst g1; exact rfl); by_cases g2 : y = Str.ofString "fiter"; (subst g2; exact rfl); simp only [if_neg g0, if_neg g1, if_neg g2]; first | done | exact rfl)))); (case N1 => (refine' cb_drop ?c1 ?c2; (case c1 => k_asm); (case c2 => k_extra "tb_rel"))))
      case zfi =>
        clear F2 N2 hv hvl hvs
        intro tc chv ue vs c3 u1 h tk hvs hv2 F' N'
        rcases hE with _ | _ | _
        · (refine' fetch (rc_ch _ _ HL _ _ _ _ _ _ _ _ ?hch ?hvs) [(_, callIt _ _), (_, methodObj (.ref 203) (.ref _))] ?B ?F ?X ?N ?T ?hA ?hf ?hK ?hh ?hd ?hu ?hi ?hq ?hfo ?hfd ?hs ?hr ?hn ?_; (case hA => exact rfl); (case hf => exact rfl); (case hK => exact rfl); (case hh => exact rfl); (case B => k_asm); (case F => k_asm); (case X => k_asm); (case N => k_asm); (case T => k_asm); (case hs => k_extra "tb_rel"); (case hd => exact Nat.le_of_ble_eq_true rfl); (case hu => exact Nat.le_of_ble_eq_true rfl); (case hr => k_extra "tb_rel"); (case hfo => k_is); (case hfd => exact rfl); (case hi => k_mem); (case hq => k_mem); (case hch => first | assumption | omega | decide); (case hvs => assumption); (case hn => (refine' fmc ?na ?nb; (case na => (refine' lexL_up (by assumption) ?lt; (case lt => first | assumption | ((try dsimp only); omega)))); (case nb => (refine' fmc ?nc ?nd; (case nc => (refine' lexL_up (by assumption) ?lt; (case lt => first | assumption | ((try dsimp only); omega)))); (case nd => exact List.forall_mem_nil _))))); k_whole; intro sm' h' tk' hp' F' N' hA'; (obtain ⟨c', u', e1'⟩ := hp'); subst e1'; (try simp only [List.cons_append, List.nil_append] at N'))
          k_steps
          k_dflt (show LeaveS _ _ _ _)
          all_goals (try dsimp only)
          refine' leaveS_ ?k1 ?k2 ⟨⟨⟨_, ?_, ?_, _, ?sv, ?ln, rfl⟩, ⟨_, rfl⟩⟩, rfl, rfl, rfl⟩
          case sv => exact hv2
          case k1 => k_asm
          case k2 => (refine' cb_drop ?c1 ?c2; (case c1 => k_asm); (case c2 => k_extra "tb_rel"))
          case ln => first | rfl | omega
        · (refine' fetch (rc_nl _ _ HL _ _ _ _ _ _ _ ?hvs) [(_, callIt _ _), (_, methodObj (.ref 203) (.ref _))] ?B ?F ?X ?N ?T ?hA ?hf ?hK ?hh ?hd ?hu ?hi ?hq ?hfo ?hfd ?hs ?hr ?hn ?_; (case hA => exact rfl); (case hf => exact rfl); (case hK => exact rfl); (case hh => exact rfl); (case B => k_asm); (case F => k_asm); (case X => k_asm); (case N => k_asm); (case T => k_asm); (case hs => k_extra "tb_rel"); (case hd => exact Nat.le_of_ble_eq_true rfl); (case hu => exact Nat.le_of_ble_eq_true rfl); (case hr => k_extra "tb_rel"); (case hfo => k_is); (case hfd => exact rfl); (case hi => k_mem); (case hq => k_mem); (case hvs => assumption); (case hn => (refine' fmc ?na ?nb; (case na => (refine' lexL_up (by assumption) ?lt; (case lt => first | assumption | ((try dsimp only); omega)))); (case nb => (refine' fmc ?nc ?nd; (case nc => (refine' lexL_up (by assumption) ?lt; (case lt => first | assumption | ((try dsimp only); omega)))); (case nd => exact List.forall_mem_nil _))))); k_whole; intro sm' h' tk' hp' F' N' hA'; (obtain ⟨c', u', e1'⟩ := hp'); subst e1'; (try simp only [List.cons_append, List.nil_append] at N'))
          k_steps
          k_dflt (show LeaveS _ _ _ _)
          all_goals (try dsimp only)
          refine' leaveS_ ?k1 ?k2 ⟨⟨⟨_, ?_, ?_, _, ?sv, ?ln, rfl⟩, ⟨_, rfl⟩⟩, rfl, rfl, rfl⟩
          case sv => exact hv2
          case k1 => k_asm
          case k2 => (refine' cb_drop ?c1 ?c2; (case c1 => k_asm); (case c2 => k_extra "tb_rel"))
          case ln => first | rfl | omega


open PySem PySem.W PyProof.Rows PySem.Calls PySem.Builtin PySem.Builtin.Re
theorem rowsGT3 : True := by
  k_with_none
  k_with "storeName" => (k_here; k_dflt (refine' storeX_Lr ?F ?N ?a ?b ?_; (case a => exact rfl); (case b => exact rfl); (case F => k_asm); (case N => k_asm); k_whole; intro _ _ _; (try k_sweep)))
  k_with "eval Name" => (k_here; k_dflt (refine' nameX_Lr ?F ?a ?b ?v ?_; (case a => exact rfl); (case b => exact rfl); (case F => k_asm); (case v => exact rfl); k_whole))
  k_with "execs cons" => (refine wpAny_execs_cons ?_; (try k_fold))
  k_with "sub" => first | exact List.forall_mem_nil _ | exact fun _ h9 => h9 | ((first | refine' sub_keep ?_ | refine' sub_drop ?_); k_extra "sub")
  k_with "tb_rel" => first | (k_extra "sub"; done) | exact List.forall_mem_nil _ | (refine' fmc ?sa ?sb; (case sa => k_mem); (case sb => k_extra "tb_rel"))
  k_with "tb_start" => ((try (have HL9 := ‹LexH _›; obtain ⟨_, _, _, _, _, _, _, _, _, _, _, _, _⟩ := HL9)); unfold SpecC; k_fill; intro _ _ _ _ _ _ _ _ _ _ _ hg9 hs9; (try dsimp only [hdrD, tupO, lexL, lexR, lexD, rdO, rdParts] at hg9 hs9); revert hg9 hs9; intro _ _ _ _ _ _; k_dflt (refine' call_C ?k1 ?k2 ?k3 ?k4 ?k5 ?k10 ?k6 ?k7 ?k8 ?k9 ?kB ?_ ?c2 ?c3 ?c4 ?c5; (case k1 => k_asm); (case k2 => k_asm); (case k3 => k_asm); (case k4 => k_asm); (case k5 => k_asm); (case k10 => k_asm); (case k6 => k_is); (case k7 => k_is); (case k8 => decide); (case k9 => first | exact BindsTo.of_eq rfl | exact binds_K (by k_in) rfl (by k_is) rfl rfl rfl | exact binds_K (in_of_hide (by assumption) (by assumption)) rfl (by k_is) rfl rfl rfl); (case c5 => decide); (case kB => exact locs rfl); (case c2 => exact rfl); (case c3 => exact rfl); (case c4 => exact rfl); k_whole; intro _ _ _ _; (try dsimp only); (try k_fold)))
  k_with "LeaveS" => k_dflt (refine' leaveS_ ?k1 ?k2 ⟨⟨?_, ?ke⟩, ?kg, ?kd, ?ko⟩; (case ke => exact rfl); (case kg => exact rfl); (case kd => exact rfl); (case ko => exact rfl); (case k1 => k_asm); (case k2 => refine cb_drop (by k_asm) ?_; k_extra "tb_rel"))
  k_with "call ref" => (k_here; (with_reducible show wpAny _ _ (call (Value.ref 70) [_, Value.str _ _] _) _ _ _); k_dflt ((show wpAny _ _ (call (Value.ref 70) [_, Value.str _ _] [(Str.ofString "name", Value.bool true)]) _ _ _); refine' SpecK.use (convN _ _ ?q _ _ _) ?B ?F ?X ?N ?T ?hA ?hK ?hh ?hd ?hu ?_; (case hA => exact rfl); (case B => k_asm); (case F => k_asm); (case X => k_asm); (case N => k_asm); (case T => k_asm); (case hK => first | rfl | assumption); (case hh => rfl); (case hd => exact Nat.le_of_ble_eq_true rfl); (case hu => exact Nat.le_of_ble_eq_true rfl); (case q => first | assumption | exact quiet_names (by assumption) | decide +kernel); k_whole; (rintro v' news' h' tk' ⟨⟨t', e1'⟩, e2'⟩ F' N'); subst e1'; subst e2'; (try k_sweep)))
  k_with "call ref" => (k_here; (with_reducible show wpAny _ _ (call (Value.ref 70) [_, Value.str _ _] _) _ _ _); k_dflt ((show wpAny _ _ (call (Value.ref 70) [_, Value.str _ _] [(Str.ofString "name", Value.bool false)]) _ _ _); refine' SpecK.use (convV _ _ ?q _ _ _) ?B ?F ?X ?N ?T ?hA ?hK ?hh ?hd ?hu ?_; (case hA => exact rfl); (case B => k_asm); (case F => k_asm); (case X => k_asm); (case N => k_asm); (case T => k_asm); (case hK => first | rfl | assumption); (case hh => rfl); (case hd => exact Nat.le_of_ble_eq_true rfl); (case hu => exact Nat.le_of_ble_eq_true rfl); (case q => first | assumption | exact quiet_words (by assumption) (by assumption) | decide +kernel); k_whole; (rintro v' news' h' tk' ⟨⟨t', e1'⟩, e2'⟩ F' N'); subst e1'; subst e2'; (try k_sweep)))
  k_with "call builtin:str.lower" => (k_here; k_dflt ((show wpAny _ _ (call (Value.builtin "str.lower") [Value.str (Nm _) _]) _ _ _); refine lower_nm (by assumption) ?_; intro _ _))
  k_with "exec For Tuple Attribute" => (k_here; (rename Fr _ _ _ _ => lF'); (with_unfolding_all refine' For_turns lF' ?_; k_whole))
  k_with "getMethod ref" => (k_here; (with_reducible show wpAny _ _ (getMethod (Value.ref _) (Str.ofString "read") _) _ _ _); k_dflt (refine' fn_getMethod_N ?N ?hx ?hd ?ho ?_; (case N => k_asm); (case hx => k_mem); (case hd => k_mem); (case ho => assumption); k_whole; intro tk'; (try dsimp only); (try k_sweep)))
  k_with "truthy ref" => (k_here; (with_reducible show wpAny _ _ (truthy (Value.ref _)) _ _ _); k_dflt (first | (refine' truth_signs ?N ?m ?z ?_; (case N => k_asm); (case m => k_mem); (case z => assumption); k_whole) | (refine' truth_none ?N ?m ?_; (case N => k_asm); (case m => k_mem); k_whole)); intro tk'; (try simp only [if_true, if_false, Bool.false_eq_true]))
  k_with "call builtin:list.pop" => (k_here; (with_reducible show wpAny _ _ (call (Value.builtin "list.pop") [Value.ref _, Value.int _ _]) _ _ _); k_dflt (refine' pop_signs ?F ?N ?U ?z ?_; (case F => k_asm); (case N => k_asm); (case U => k_upd); (case z => assumption); k_whole); intro h' F' N'; (try k_sweep))
  k_with "compareOp Eq str str" => (k_here; (with_reducible show wpAny _ _ (compareOp _ (Value.str ⟨#[_]⟩ _) _) _ _ _); k_dflt (first
  | (refine' ch_eq_t ?h ?_; (case h => exact rfl))
  | (refine' ch_eq_f (d := 10) ?h ?n ?_; (case h => exact rfl); (case n => first | assumption | decide))
  | (refine' ch_eq_f (d := 34) ?h ?n ?_; (case h => exact rfl); (case n => first | assumption | decide))
  | (refine' ch_eq_f (d := 92) ?h ?n ?_; (case h => exact rfl); (case n => first | assumption | decide))))
  k_with "call builtin:iter" => (k_here; (with_reducible show wpAny _ _ (call (Value.builtin "iter") [Value.ref _, Value.str _ _]) _ _ _); k_dflt (refine' iter2_K ?F ?N ?q ?_; (case F => k_asm); (case N => k_asm); (case q => k_mem); k_whole); intro it' h1 F' N' l1b; (try k_lt l1b); (try k_sweep))
  k_with "pyIter ref" => (k_here; (with_reducible show wpAny _ _ (pyIter (Value.ref _)) _ _ _); k_dflt (refine' pyIter_cit ?N ?i ?_; (case N => k_asm); (case i => k_mem); k_whole))
  k_with "exec For Name Name cons nil" => (k_here; k_dflt (refine' wpAny_For ?_ ?_; (case refine'_2 => (intro _; exact rfl)); k_whole))
  k_with "compareOp In str str" => (k_here; k_dflt (first
  | (refine' ws_f ?a ?b ?_; (case a => assumption); (case b => assumption))
  | (refine' ws_lit (b := true) ?h ?_; (case h => decide +kernel))
  | (refine' ws_lit (b := false) ?h ?_; (case h => decide +kernel))))
  k_with "compareOp Eq str str" => (k_here; (with_reducible show wpAny _ _ (compareOp _ (Value.str ⟨#[_]⟩ _) _) _ _ _); k_dflt (first
  | (refine' ch_eq_t ?h ?_; (case h => exact rfl))
  | (refine' ch_eq_f (d := 10) ?h ?n ?_; (case h => exact rfl); (case n => first | assumption | omega))
  | (refine' ch_eq_f (d := 34) ?h ?n ?_; (case h => exact rfl); (case n => first | assumption | omega))
  | (refine' ch_eq_f (d := 92) ?h ?n ?_; (case h => exact rfl); (case n => first | assumption | omega))))
  k_with "inplaceOp Add str str" => (k_here; k_dflt (first
  | (refine' iadd_sign (cur := []) ?h ?n ?_; (case h => exact rfl); (case n => decide); intro _ _)
  | (refine' iadd_sign ?h ?n ?_; (case h => exact rfl); (case n => assumption); intro _ _)))
  k_with "call ref" => (k_here; (with_reducible show wpAny _ _ (call (Value.ref 203) _ _) _ _ _); k_dflt (refine' SpecG.use (rc_ch _ _ ?HL _ _ _ _ _ _ _ _ ?hch ?hvs).toG [(_, callIt _ _), (_, methodObj (.ref 203) (.ref _))] ?B ?F ?X ?N ?T ?hA ?hf ?hK ?hh ?hd ?hu ?hs ?hr ?hn ?_; (case HL => assumption); (case hA => exact rfl); (case hf => exact rfl); (case hK => exact rfl); (case hh => exact rfl); (case B => k_asm); (case F => k_asm); (case X => k_asm); (case N => k_asm); (case T => k_asm); (case hs => k_extra "tb_rel"); (case hd => exact Nat.le_of_ble_eq_true rfl); (case hu => exact Nat.le_of_ble_eq_true rfl); (case hr => k_extra "tb_rel"); (case hch => first | assumption | omega | decide); (case hvs => first | assumption | omega); (case hn => (refine' fmc ?na ?nb; (case na => (refine' lexL_up (by assumption) ?lt; (case lt => first | assumption | ((try dsimp only); omega)))); (case nb => (refine' fmc ?nc ?nd; (case nc => (refine' lexL_up (by assumption) ?lt; (case lt => first | assumption | ((try dsimp only); omega)))); (case nd => exact List.forall_mem_nil _))))); k_whole; intro v' sm' h' tk' hp' F' N' hA'; (obtain ⟨⟨c', u', e1'⟩, e2'⟩ := hp'); subst e1'; subst e2'; (try simp only [List.cons_append, List.nil_append] at N'); (try k_sweep)))
  trivial
theorem gt_e (w : World) (X : Lx) (HL : LexH X) (ln : Int) (u1 : Tok) (c3 c4 : Nat) (vs : List Value) (ws : List Nat) (k : Int) (hw : WsTo ws k) (hv : SignsAre vs (ws ++ [])) :
    SpecC 780 5800 w 210 [.ref X.x] [] (lexL w X ln u1 vs c3 ([] : List Value).toArray c4)
      (fun v small' => (∃ vs' c' u' ln', SignsAre vs' [] ∧ ln' = ln + k ∧ small' = lexL w X ln' u' vs' c' ([] : List Value).toArray c4) ∧ ∃ t', v = .str (Str.ofString "") t') := by
  have hl : (ws ++ []).length < 4000 := by cases hw <;> decide
  k_extra "tb_start"
  k_steps
  rename_i L' h4 tk_ h3 q' h2 l1a h0 F1 N1
  have hlq : @LT.lt Nat _ X.l q' := by omega
  have hli : @LT.lt Nat _ X.l it' := by omega
  refine' ws_loop (fun chv y => if y = Str.ofString "ch" then chv else if y = Str.ofString "fiter" then some (.ref it') else if y = Str.ofString "token" then some (.str (Str.ofString "") _) else List.lookup y [(Str.ofString "self", .ref X.x)]) (fun vs c3 u1 ln => [(X.l, W.listOf ([] : List Value).toArray c4), (X.x, instObj 220 X.d), (X.d, lexD w X.f X.l ln X.t1 X.t2 X.t3 X.t4 u1 X.u3 4), (X.dx, X.od), (X.f, ⟨.type "function", some X.dx, .func X.fd, X.sl⟩), (X.f2, rdO w X.ql X.ce X.doc X.pm X.c2 X.ct), (X.c2, X.oc), (X.sg, W.listOf vs.toArray c3), (X.ce, X.oce), (it', callIt q' _), (q', methodObj (.ref 203) (.ref X.x))]) ([]) (ln + k) ?zst ?ztb ?zln hw vs c3 u1 ln _ _ hv hl rfl (Fr.to' F1 (by (intro y; by_cases g0 : y = Str.ofString "ch"; (subst g0; exact rfl); by_cases g1 : y = Str.ofString "token"; (subst g1; exact rfl); by_cases g2 : y = Str.ofString "fiter"; (subst g2; exact rfl); simp only [if_neg g0, if_neg g1, if_neg g2]; first | done | exact rfl))) ?N1
  case N1 => (refine' cb_drop ?c1 ?c2; (case c1 => k_asm); (case c2 => k_extra "tb_rel"))
  case ztb =>
    clear F1 N1 hv
    intro R uc vs c3 u1 ln h tk hvs F' N' hk
    (refine' fetch (rc_ch _ _ HL _ _ _ _ _ _ _ _ ?hch ?hvs) [(_, callIt _ _), (_, methodObj (.ref 203) (.ref _))] ?B ?F ?X ?N ?T ?hA ?hf ?hK ?hh ?hd ?hu ?hi ?hq ?hfo ?hfd ?hs ?hr ?hn ?_; (case hA => exact rfl); (case hf => exact rfl); (case hK => exact rfl); (case hh => exact rfl); (case B => k_asm); (case F => k_asm); (case X => k_asm); (case N => k_asm); (case T => k_asm); (case hs => k_extra "tb_rel"); (case hd => exact Nat.le_of_ble_eq_true rfl); (case hu => exact Nat.le_of_ble_eq_true rfl); (case hr => k_extra "tb_rel"); (case hfo => k_is); (case hfd => exact rfl); (case hi => k_mem); (case hq => k_mem); (case hch => first | assumption | omega | decide); (case hvs => assumption); (case hn => (refine' fmc ?na ?nb; (case na => (refine' lexL_up (by assumption) ?lt; (case lt => first | assumption | ((try dsimp only); omega)))); (case nb => (refine' fmc ?nc ?nd; (case nc => (refine' lexL_up (by assumption) ?lt; (case lt => first | assumption | ((try dsimp only); omega)))); (case nd => exact List.forall_mem_nil _))))); k_whole; intro sm' h' tk' hp' F' N' hA'; (obtain ⟨c', u', e1'⟩ := hp'); subst e1'; (try simp only [List.cons_append, List.nil_append] at N'))
    k_steps
    (refine' hk _ _ _ _ _ ?F1 ?N1; (case F1 => (refine' Fr.to' ?F2 ?e; (case F2 => k_asm); (case e => (intro y; by_cases g0 : y = Str.ofString "ch"; (subst g0; exact rfl); by_cases g1 : y = Str.ofString "token"; (subst g1; exact rfl); by_cases g2 : y = Str.ofString "fiter"; (subst g2; exact rfl); simp only [if_neg g0, if_neg g1, if_neg g2]; first | done | exact rfl)))); (case N1 => (refine' cb_drop ?c1 ?c2; (case c1 => k_asm); (case c2 => k_extra "tb_rel"))))
  case zln =>
    clear F1 N1 hv
    intro R uc vs c3 u1 ln h tk hvs F' N' hk
    (refine' fetch (rc_nl _ _ HL _ _ _ _ _ _ _ ?hvs) [(_, callIt _ _), (_, methodObj (.ref 203) (.ref _))] ?B ?F ?X ?N ?T ?hA ?hf ?hK ?hh ?hd ?hu ?hi ?hq ?hfo ?hfd ?hs ?hr ?hn ?_; (case hA => exact rfl); (case hf => exact rfl); (case hK => exact rfl); (case hh => exact rfl); (case B => k_asm); (case F => k_asm); (case X => k_asm); (case N => k_asm); (case T => k_asm); (case hs => k_extra "tb_rel"); (case hd => exact Nat.le_of_ble_eq_true rfl); (case hu => exact Nat.le_of_ble_eq_true rfl); (case hr => k_extra "tb_rel"); (case hfo => k_is); (case hfd => exact rfl); (case hi => k_mem); (case hq => k_mem); (case hvs => assumption); (case hn => (refine' fmc ?na ?nb; (case na => (refine' lexL_up (by assumption) ?lt; (case lt => first | assumption | ((try dsimp only); omega)))); (case nb => (refine' fmc ?nc ?nd; (case nc => (refine' lexL_up (by assumption) ?lt; (case lt => first | assumption | ((try dsimp only); omega)))); (case nd => exact List.forall_mem_nil _))))); k_whole; intro sm' h' tk' hp' F' N' hA'; (obtain ⟨c', u', e1'⟩ := hp'); subst e1'; (try simp only [List.cons_append, List.nil_append] at N'))
    k_steps
    (refine' hk _ _ _ _ _ ?F1 ?N1; (case F1 => (refine' Fr.to' ?F2 ?e; (case F2 => k_asm); (case e => (intro y; by_cases g0 : y = Str.ofString "ch"; (subst g0; exact rfl); by_cases g1 : y = Str.ofString "token"; (subst g1; exact rfl); by_cases g2 : y = Str.ofString "fiter"; (subst g2; exact rfl); simp only [if_neg g0, if_neg g1, if_neg g2]; first | done | exact rfl)))); (case N1 => (refine' cb_drop ?c1 ?c2; (case c1 => k_asm); (case c2 => k_extra "tb_rel"))))
  case zst =>
    clear F1 N1 hv
    intro chv vs c3 u1 h tk hv F' N'
    cases hv
    refine' fetch_end (rc_end _ _ HL _ _ _ _ _) [(_, callIt _ _), (_, methodObj (.ref 203) (.ref _))] [(_, methodObj (.ref 203) (.ref _))] ?B ?F ?X ?N ?T ?hA ?hf ?hK ?hh ?hh2 ?hd ?hu ?hi ?hq ?hfo ?hfd ?hs ?hr ?hn ?hr2 ?hri ?hsi ?_
    case hh2 => exact rfl
    (case hA => exact rfl)
    (case hf => exact rfl)
    (case hK => exact rfl)
    (case hh => exact rfl)
    (case B => k_asm)
    (case F => k_asm)
    (case X => k_asm)
    (case N => k_asm)
    (case T => k_asm)
    (case hs => k_extra "tb_rel")
    (case hd => exact Nat.le_of_ble_eq_true rfl)
    (case hu => exact Nat.le_of_ble_eq_true rfl)
    (case hr => k_extra "tb_rel")
    case hfo => k_is
    case hfd => exact rfl
    case hi => k_mem
    case hq => k_mem
    case hr2 => k_extra "tb_rel"
    case hri => k_all
    case hsi => (rintro sm ⟨c', u', e1⟩; subst e1; have hlt : @LT.lt Nat _ X.l it' := (by omega); exact fun p hp e2 => lexL_up HL hlt p hp e2.symm)
    (case hn => (refine' fmc ?na ?nb; (case na => (refine' lexL_up (by assumption) ?lt; (case lt => first | assumption | ((try dsimp only); omega)))); (case nb => (refine' fmc ?nc ?nd; (case nc => (refine' lexL_up (by assumption) ?lt; (case lt => first | assumption | ((try dsimp only); omega)))); (case nd => exact List.forall_mem_nil _)))))
    k_whole
    intro sm' h' tk' hp' F' N'
    (obtain ⟨c', u', e1'⟩ := hp')
    subst e1'
    (try simp only [List.cons_append, List.nil_append] at N')
    k_dflt (show wpAny _ _ _ _ _ _)
    k_steps
    k_dflt (show LeaveS _ _ _ _)
    all_goals (try dsimp only)
    refine' leaveS_ ?k1 ?k2 ⟨⟨⟨[], ?_, ?_, _, ?sv, ?ln, rfl⟩, ⟨_, rfl⟩⟩, rfl, rfl, rfl⟩
    case sv => exact .nil
    case k1 => k_asm
    case k2 => (refine' cb_drop ?c1 ?c2; (case c1 => k_asm); (case c2 => k_extra "tb_rel"))
    case ln => first | rfl | omega

open PySem PySem.W PyProof.Rows PySem.Calls PySem.Builtin
noncomputable def lexG (w : World) (X : Lx) (ln : Int) (u1 : Tok) (vs : List Value) (c3 : Nat) (ps : List Value) (c4 : Nat) : List (Addr × Obj) := lexL w X ln u1 vs c3 ps.toArray c4
theorem lexG_eq (w : World) (X : Lx) (ln : Int) (u1 : Tok) (vs : List Value) (c3 : Nat) (ps : List Value) (c4 : Nat) : lexG w X ln u1 vs c3 ps c4 = lexL w X ln u1 vs c3 ps.toArray c4 := by unfold lexG; rfl
noncomputable def lexA (X : Lx) : List Addr := [X.l, X.x, X.d, X.dx, X.f, X.f2, X.c2, X.sg, X.ce]
theorem lexG_map {w : World} {X : Lx} {ln : Int} {u1 : Tok} {vs : List Value} {c3 : Nat} {ps : List Value} {c4 : Nat} : (lexG w X ln u1 vs c3 ps c4).map (·.1) = lexA X := by rw [lexG_eq]; rfl
inductive TailOf : List (Addr × Obj) → List (Addr × Obj) → List (Addr × Obj) → Prop
  | nil {s : List (Addr × Obj)} : TailOf s [] s
  | cons {p : Addr × Obj} {big rest small : List (Addr × Obj)} : TailOf big rest small → TailOf (p :: big) (p :: rest) small
noncomputable def AllGt (b : Addr) : List (Addr × Obj) → Prop
  | [] => True
  | p :: r => @LT.lt Nat _ b p.1 ∧ AllGt b r
noncomputable def lowA : List (Addr × Obj) → Addr
  | _ :: p :: _ => p.1
  | _ => 0
noncomputable def AllGe (b : Addr) : List (Addr × Obj) → Prop
  | [] => True
  | p :: r => @LE.le Nat _ b p.1 ∧ AllGe b r
noncomputable def ChainT : Addr → List (Addr × Obj) → Prop
  | _, [] => True
  | a, p :: r => @LT.lt Nat _ a p.1 ∧ ChainT p.1 r
noncomputable def ChainH : List (Addr × Obj) → Prop
  | p :: q :: r => @LT.lt Nat _ q.1 p.1 ∧ ChainT p.1 r
  | _ => False
noncomputable def Bef (pg : List Nat) (n : Int) (vs : List Value) (ln : Int) : Prop := ∃ ws k, WsTo ws k ∧ SignsAre vs (ws ++ pg) ∧ ln + k = n ∧ (ws ++ pg).length < 4000
inductive Spelled : List Nat → List Nat → Prop
  | bare {s t : List Nat} : Seg s t → t ≠ [] → Spelled s t
  | quoted {s t : List Nat} : Seg s t → Spelled (34 :: s ++ [34]) t
theorem gt_w (w : World) (X : Lx) (HL : LexH X) (ln n : Int) (u1 : Tok) (c3 c4 : Nat) (vs : List Value) (codes tok rest : List Nat) (e : Nat) (k2 : Int) (hE : WsTo [e] k2) (hS : Spelled codes tok) (htok : tok.length < 50) (hB : Bef (codes ++ e :: rest) n vs ln) :
    SpecG 780 5800 w 210 [.ref X.x] [] (lexG w X ln u1 vs c3 [] c4)
      (fun v small' => (∃ vs' c' u' ln', Bef rest (n + k2) vs' ln' ∧ small' = lexG w X ln' u' vs' c' [] c4) ∧ ∃ t', v = .str ⟨tok.toArray⟩ t') := by
  obtain ⟨ws, k, hw, hv, hn, hl⟩ := hB
  simp only [lexG_eq]
  cases hS with
  | bare hs hne =>
    refine SpecG.mono (gt_b w X HL ln u1 c3 c4 vs ws codes tok rest k k2 e hw hE hs hne hv hl htok).toG fun v l ⟨⟨vs', c', u', ln', h1, h2, h3⟩, h4⟩ => ⟨⟨vs', c', u', ln', ⟨[], 0, .none, h1, by omega, ?_⟩, h3⟩, h4⟩
    simp at hl ⊢; omega
  | @quoted s _ hs =>
    refine SpecG.mono (gt_q w X HL ln u1 c3 c4 vs ws s tok (e :: rest) k hw hs (by simpa using hv) (by simpa using hl) htok).toG fun v l ⟨⟨vs', c', u', h1, h3⟩, h4⟩ => ⟨⟨vs', c', u', ln + k, ⟨[e], k2, hE, h1, by omega, ?_⟩, h3⟩, h4⟩
    simp at hl ⊢; omega
theorem gt_z (w : World) (X : Lx) (HL : LexH X) (ln n : Int) (u1 : Tok) (c3 c4 : Nat) (vs : List Value) (hB : Bef [] n vs ln) :
    SpecG 780 5800 w 210 [.ref X.x] [] (lexG w X ln u1 vs c3 [] c4)
      (fun v small' => (∃ vs' c' u', small' = lexG w X n u' vs' c' [] c4) ∧ ∃ t', v = .str (Str.ofString "") t') := by
  obtain ⟨ws, k, hw, hv, hn, hl⟩ := hB
  simp only [lexG_eq]
  exact SpecG.mono (gt_e w X HL ln u1 c3 c4 vs ws k hw hv).toG fun v l ⟨⟨vs', c', u', ln', h1, h2, h3⟩, h4⟩ => ⟨⟨vs', c', u', by rw [h3, h2, hn]⟩, h4⟩
theorem gt_t (w : World) (X : Lx) (HL : LexH X) (ln : Int) (u1 : Tok) (c3 c4 : Nat) (vs : List Value) (y : Value) (ys : List Value) (hz : ys.length < 4000) :
    SpecG 780 5800 w 210 [.ref X.x] [] (lexG w X ln u1 vs c3 (y :: ys) c4) (fun v small' => (∃ c', small' = lexG w X ln u1 vs c3 ys c') ∧ v = y) := by simp only [lexG_eq]; exact (gt_p w X HL ln u1 c3 c4 vs y ys hz).toG
theorem push_t (w : World) (X : Lx) (HL : LexH X) (ln : Int) (u1 : Tok) (c3 c4 : Nat) (vs : List Value) (y : Value) (ys : List Value) (hz : ys.length < 4000) :
    SpecG 780 5800 w 217 [.ref X.x, y] [] (lexG w X ln u1 vs c3 ys c4) (fun v small' => (∃ c', small' = lexG w X ln u1 vs c3 (ys ++ [y]) c') ∧ v = .none) := by simp only [lexG_eq]; exact (push w X HL ln u1 c3 c4 vs y ys hz).toG

open PySem PySem.W PyProof.Rows PySem.Calls PySem.Builtin
noncomputable def sepC : Nat → Nat
  | 0 => 9
  | 1 => 9
  | 2 => 10
  | 3 => 9
  | _ => 10
noncomputable def sepOf (k : Nat) : Str := ⟨#[sepC k]⟩
noncomputable def cellT (k : Nat) (d : Int) : Str := spellOf (Lw (d.fmod 30 + 1)) (d.fdiv 30) ++ sepOf k
noncomputable def wayC (d : Int) : List Nat := (spellOf (Lw (d.fmod 30 + 1)) (d.fdiv 30)).cps.toList
noncomputable def segB : List Nat → List Nat → Bool
  | [], [] => true
  | 92 :: c :: r, c' :: t => c == c' && decide (65 ≤ c) && decide (c < 92) && segB r t
  | c :: r, c' :: t => c == c' && decide (65 ≤ c) && decide (c < 92) && segB r t
  | _, _ => false
theorem seg_of : ∀ (s t : List Nat), segB s t = true → Seg s t := by
  intro s t
  fun_induction segB s t with
  | case1 => intro _; exact .nil
  | case2 c r c' t ih =>
    intro h
    simp only [Bool.and_eq_true, beq_iff_eq, decide_eq_true_eq] at h
    obtain ⟨⟨⟨rfl, h1⟩, h2⟩, h3⟩ := h
    exact .esc h1 h2 (ih h3)
  | case3 c r c' t _ ih =>
    intro h
    simp only [Bool.and_eq_true, beq_iff_eq, decide_eq_true_eq] at h
    obtain ⟨⟨⟨rfl, h1⟩, h2⟩, h3⟩ := h
    exact .plain h1 h2 (ih h3)
  | case4 => intro h; cases h
noncomputable def spelledB (s t : List Nat) : Bool := (segB s t && !t.isEmpty) || (s == 34 :: (s.tail.dropLast ++ [34]) && segB s.tail.dropLast t)
theorem spelled_of {s t : List Nat} (h : spelledB s t = true) : Spelled s t := by
  unfold spelledB at h
  simp only [Bool.or_eq_true, Bool.and_eq_true, beq_iff_eq] at h
  rcases h with ⟨h1, h2⟩ | ⟨h1, h2⟩
  · refine .bare (seg_of _ _ h1) fun e => ?_
    rw [e] at h2; cases h2
  · rw [h1]; exact .quoted (seg_of _ _ h2)
theorem way_all {d : Int} (h0 : 0 ≤ d) (h1 : d < 120) : Spelled (wayC d) (Lw (d.fmod 30 + 1)).cps.toList ∧ (wayC d).length ≤ 6 := by
  have h := below_all (P := fun d => (spelledB (wayC d) (Lw (d.fmod 30 + 1)).cps.toList && decide ((wayC d).length ≤ 6)) = true) 120 (by decide +kernel) d h0 h1
  simp only [Bool.and_eq_true, decide_eq_true_eq] at h
  exact ⟨spelled_of h.1, h.2⟩
theorem root_in {d : Int} (h0 : 0 ≤ d) (h1 : d < 120) : 1 ≤ d.fmod 30 + 1 ∧ d.fmod 30 + 1 < 31 ∧ 0 ≤ d.fdiv 30 ∧ d.fdiv 30 < 4 := by
  rw [Int.fmod_eq_emod_of_nonneg _ (by decide), Int.fdiv_eq_ediv_of_nonneg _ (by decide)]; omega
theorem cellT_len {k : Nat} {d : Int} (h0 : 0 ≤ d) (h1 : d < 120) : (cellT k d).length ≤ 7 := by
  have h := (way_all h0 h1).2
  unfold cellT
  rw [PySem.Str.length_append]
  unfold wayC at h
  rw [Array.length_toList] at h
  show _ + 1 ≤ 7
  unfold PySem.Str.length
  omega
noncomputable def pageOf (d0 d1 d2 d3 d4 : Int) : Str := Txt.join (Str.ofString "") [cellT 0 d0, cellT 1 d1, cellT 2 d2, cellT 3 d3, cellT 4 d4]
theorem page_codes (d0 d1 d2 d3 d4 : Int) : (pageOf d0 d1 d2 d3 d4).cps.toList = wayC d0 ++ 9 :: (wayC d1 ++ 9 :: (wayC d2 ++ 10 :: (wayC d3 ++ 9 :: (wayC d4 ++ 10 :: [])))) := by
  have e : (Str.ofString "").cps = #[] := by decide +kernel
  unfold pageOf cellT wayC sepOf
  simp [Txt.join, Builtin.Str.glued, PySem.Str.cps_append, e, sepC]
theorem page_size {d0 d1 d2 d3 d4 : Int} (h0 : 0 ≤ d0 ∧ d0 < 120) (h1 : 0 ≤ d1 ∧ d1 < 120) (h2 : 0 ≤ d2 ∧ d2 < 120) (h3 : 0 ≤ d3 ∧ d3 < 120) (h4 : 0 ≤ d4 ∧ d4 < 120) : (pageOf d0 d1 d2 d3 d4).cps.toList.length ≤ 35 := by
  rw [page_codes]
  have a0 := (way_all h0.1 h0.2).2
  have a1 := (way_all h1.1 h1.2).2
  have a2 := (way_all h2.1 h2.2).2
  have a3 := (way_all h3.1 h3.2).2
  have a4 := (way_all h4.1 h4.2).2
  simp only [List.length_append, List.length_cons, List.length_nil]
  omega
theorem page_fits {d0 d1 d2 d3 d4 : Int} (h0 : 0 ≤ d0 ∧ d0 < 120) (h1 : 0 ≤ d1 ∧ d1 < 120) (h2 : 0 ≤ d2 ∧ d2 < 120) (h3 : 0 ≤ d3 ∧ d3 < 120) (h4 : 0 ≤ d4 ∧ d4 < 120) : (pageOf d0 d1 d2 d3 d4).cps.size ≤ sizeLine := by
  have h := page_size h0 h1 h2 h3 h4
  rw [Array.length_toList] at h
  rw [sizeLine_eq]; omega
theorem join_fits {d0 d1 d2 d3 d4 : Int} (h0 : 0 ≤ d0 ∧ d0 < 120) (h1 : 0 ≤ d1 ∧ d1 < 120) (h2 : 0 ≤ d2 ∧ d2 < 120) (h3 : 0 ≤ d3 ∧ d3 < 120) (h4 : 0 ≤ d4 ∧ d4 < 120) :
    (([cellT 0 d0, cellT 1 d1, cellT 2 d2, cellT 3 d3, cellT 4 d4] : List Str).map (·.length)).sum + ([cellT 0 d0, cellT 1 d1, cellT 2 d2, cellT 3 d3, cellT 4 d4] : List Str).length * (Str.ofString "").length ≤ 16777216 := by
  have a0 := cellT_len (k := 0) h0.1 h0.2
  have a1 := cellT_len (k := 1) h1.1 h1.2
  have a2 := cellT_len (k := 2) h2.1 h2.2
  have a3 := cellT_len (k := 3) h3.1 h3.2
  have a4 := cellT_len (k := 4) h4.1 h4.2
  have e : (Str.ofString "").length = 0 := by decide +kernel
  simp only [List.map_cons, List.map_nil, List.sum_cons, List.sum_nil, e, Nat.mul_zero]
  omega
theorem bef_start {vs : List Value} {d0 d1 d2 d3 d4 : Int} (hs : SignsAre vs (pageOf d0 d1 d2 d3 d4).cps.toList) (h0 : 0 ≤ d0 ∧ d0 < 120) (h1 : 0 ≤ d1 ∧ d1 < 120) (h2 : 0 ≤ d2 ∧ d2 < 120) (h3 : 0 ≤ d3 ∧ d3 < 120) (h4 : 0 ≤ d4 ∧ d4 < 120) :
    Bef (wayC d0 ++ 9 :: (wayC d1 ++ 9 :: (wayC d2 ++ 10 :: (wayC d3 ++ 9 :: (wayC d4 ++ 10 :: []))))) 1 vs 1 := by
  have hl := page_size h0 h1 h2 h3 h4
  rw [page_codes] at hs hl
  exact ⟨[], 0, .none, by simpa using hs, rfl, by simp only [List.nil_append]; omega⟩
section
variable {prog : Program} {w : World} {A : Around} {E : Value → Shared → Prop} {s : Shared} {Q : Value → Shared → Prop} {value slice : PySem.Expr} {t u : Tok}
theorem sep_item : ∀ {i : Nat}, i < 5 → Txt.item (Str.ofString "\t\t\n\t\n") (i : Int) = sepOf i
  | 0, _ => by decide +kernel
  | 1, _ => by decide +kernel
  | 2, _ => by decide +kernel
  | 3, _ => by decide +kernel
  | 4, _ => by decide +kernel
theorem sub_sep {i : Nat} (hi : i < 5) (h : ∀ t' k', Q (.str (sepOf i) t') { s with toks := k' })
    (hs : subscripted slice false (.str (Str.ofString "\t\t\n\t\n") t) (.int (i : Int) u) = operate [.str (Str.ofString "\t\t\n\t\n") t, .int (i : Int) u] (getItem (.str (Str.ofString "\t\t\n\t\n") t) (.int (i : Int) u)) := by with_unfolding_all rfl)
    (ht : ∀ r, letTemporaryGo value (.str (Str.ofString "\t\t\n\t\n") t) r = pure () := by intro _; with_unfolding_all rfl) :
    wpAny (model prog w) A (subscriptTail value slice (.str (Str.ofString "\t\t\n\t\n") t) (.int (i : Int) u)) Q E s := by
  have e : (Str.ofString "\t\t\n\t\n").length = 5 := by decide +kernel
  refine item_str (by unfold fitsSsize; simp; omega) (by rw [e]; omega) (by rw [e]; omega) (fun _ => ?_) hs ht
  rw [sep_item hi]; exact h _ _
theorem add_cell {i : Nat} {d : Int} (h0 : 0 ≤ d) (h1 : d < 120) (h : ∀ t' k', Q (.str (cellT i d) t') { s with toks := k' }) : wpAny (model prog w) A (binaryOp .Add (.str (spellOf (Lw (d.fmod 30 + 1)) (d.fdiv 30)) t) (.str (sepOf i) u)) Q E s := by
  refine PyProof.Rows.add_str (fun t' k' => h t' k') ?_
  have := cellT_len (k := i) h0 h1
  unfold cellT at this
  rw [PySem.Str.length_append] at this
  rw [sizeLine_eq]; omega
end

open PySem PySem.W PyProof.Rows PySem.Calls
noncomputable abbrev Sums := List (Int × Int × Int)
noncomputable def look : Sums → Int → Option (Int × Int)
  | [], _ => none
  | (k, v) :: r, q => if k = q then some v else look r q
noncomputable def over : Sums → Int → Int × Int → Sums
  | [], _, _ => []
  | (k, v) :: r, q, u => if k = q then (k, u) :: over r q u else (k, v) :: over r q u
noncomputable def put (t : Sums) (q : Int) (u : Int × Int) : Sums := match look t q with
  | none => t ++ [(q, u)]
  | some _ => over t q u
noncomputable def tell (t : Sums) (q s c : Int) : Sums := match look t q with
  | none => put t q (s, c)
  | some (s', c') => if s < s' then put t q (s, c) else if s = s' then put t q (s, c' + c) else t
noncomputable def turn (taken total many : Int) (t : Sums) (col x : Int) : Sums := if Builtin.bitAnd taken col = 0 then tell t (taken + col) (total + x) many else t
noncomputable def rowOn (taken total many : Int) (row : List (Int × Int)) (t : Sums) : Sums := row.foldl (fun t p => turn taken total many t p.1 p.2) t
noncomputable def wayOn (row : List (Int × Int)) (ways t : Sums) : Sums := ways.foldl (fun t p => rowOn p.1 p.2.1 p.2.2 row t) t
noncomputable def waysOf (rows : List (List (Int × Int))) (t : Sums) : Sums := rows.foldl (fun t row => wayOn row t []) t
noncomputable def Tup (big : List (Addr × Obj)) (T : Addr) (a b : Int) : Prop := ∃ t u, (T, tupO (.int a t) (.int b u)) ∈ big
inductive SumsIn (big : List (Addr × Obj)) : List (Int × Value) → Sums → Prop
  | nil : SumsIn big [] []
  | cons {k a b : Int} {T : Addr} {kvs : List (Int × Value)} {t : Sums} : Tup big T a b → SumsIn big kvs t → SumsIn big ((k, .ref T) :: kvs) ((k, a, b) :: t)
theorem Tup.mono {big big' : List (Addr × Obj)} {T : Addr} {a b : Int} (h : ∀ p ∈ big, p ∈ big') (H : Tup big T a b) : Tup big' T a b := let ⟨t, u, m⟩ := H; ⟨t, u, h _ m⟩
theorem SumsIn.mono {big big' : List (Addr × Obj)} {kvs : List (Int × Value)} {t : Sums} (h : ∀ p ∈ big, p ∈ big') (H : SumsIn big kvs t) : SumsIn big' kvs t := by
  induction H with
  | nil => exact .nil
  | cons a _ ih => exact .cons (a.mono h) ih
theorem SumsIn.length {big : List (Addr × Obj)} {kvs : List (Int × Value)} {t : Sums} (H : SumsIn big kvs t) : kvs.length = t.length := by induction H <;> simp_all
theorem SumsIn.at {big : List (Addr × Obj)} {kvs : List (Int × Value)} {t : Sums} (H : SumsIn big kvs t) (q : Int) :
    (valueAt kvs q = none ∧ look t q = none) ∨ ∃ T a b, valueAt kvs q = some (.ref T) ∧ look t q = some (a, b) ∧ Tup big T a b := by
  induction H with
  | nil => exact .inl ⟨rfl, rfl⟩
  | @cons k a b T kvs t hT _ ih =>
    by_cases e : k = q
    · exact .inr ⟨T, a, b, by simp [valueAt, e], by simp [look, e], hT⟩
    · have e1 : valueAt ((k, Value.ref T) :: kvs) q = valueAt kvs q := by simp [valueAt, e]
      have e2 : look ((k, a, b) :: t) q = look t q := by simp [look, e]
      rw [e1, e2]; exact ih
theorem SumsIn.any {big : List (Addr × Obj)} {kvs : List (Int × Value)} {t : Sums} (H : SumsIn big kvs t) (q : Int) : kvs.any (fun kv => decide (kv.1 = q)) = (look t q).isSome := by
  induction H with
  | nil => rfl
  | @cons k a b T kvs t hT _ ih =>
    by_cases e : k = q
    · simp [look, e]
    · simp only [List.any_cons, ih, look, if_neg e, decide_eq_false e, Bool.false_or]
theorem SumsIn.over {big : List (Addr × Obj)} {kvs : List (Int × Value)} {t : Sums} (H : SumsIn big kvs t) {q a b : Int} {T : Addr} (hT : Tup big T a b) : SumsIn big (kvs.map fun kv => if kv.1 = q then (kv.1, .ref T) else kv) (over t q (a, b)) := by
  induction H with
  | nil => exact .nil
  | @cons k a b T kvs t hT' _ ih =>
    by_cases e : k = q
    · simp only [List.map_cons, Mine.over, if_pos e]; exact .cons hT ih
    · simp only [List.map_cons, Mine.over, if_neg e]; exact .cons hT' ih
theorem SumsIn.snoc {big : List (Addr × Obj)} {kvs : List (Int × Value)} {t : Sums} (H : SumsIn big kvs t) {q a b : Int} {T : Addr} (hT : Tup big T a b) : SumsIn big (kvs ++ [(q, .ref T)]) (t ++ [(q, a, b)]) := by
  induction H with
  | nil => exact .cons hT .nil
  | cons h _ ih => exact .cons h ih
theorem SumsIn.put {big : List (Addr × Obj)} {kvs : List (Int × Value)} {t : Sums} (H : SumsIn big kvs t) {q a b : Int} {T : Addr} (hT : Tup big T a b) : SumsIn big (stored kvs q (.ref T)) (put t q (a, b)) := by
  unfold stored Mine.put
  rw [H.any q]
  cases look t q with
  | none => exact H.snoc hT
  | some v => exact H.over hT
theorem tell_new {t : Sums} {q s c : Int} (h : look t q = none) : tell t q s c = put t q (s, c) := by unfold tell; rw [h]
theorem tell_lt {t : Sums} {q s c s' c' : Int} (h : look t q = some (s', c')) (hl : s < s') : tell t q s c = put t q (s, c) := by unfold tell; rw [h]; simp only [if_pos hl]
theorem tell_eq {t : Sums} {q s c s' c' : Int} (h : look t q = some (s', c')) (hl : ¬ s < s') (he : s = s') : tell t q s c = put t q (s, c' + c) := by unfold tell; rw [h]; simp only [if_neg hl, if_pos he]
theorem tell_gt {t : Sums} {q s c s' c' : Int} (h : look t q = some (s', c')) (hl : ¬ s < s') (he : ¬ s = s') : tell t q s c = t := by unfold tell; rw [h]; simp only [if_neg hl, if_neg he]
theorem over_length (t : Sums) (q : Int) (u : Int × Int) : (over t q u).length = t.length := by
  induction t with
  | nil => rfl
  | cons p t ih => obtain ⟨k, v⟩ := p; by_cases e : k = q <;> simp [over, e, ih]
theorem put_length (t : Sums) (q : Int) (u : Int × Int) : (put t q u).length ≤ t.length + 1 := by
  unfold put
  cases look t q with
  | none => simp
  | some v => simp [over_length]
theorem turn_length (a b c : Int) (t : Sums) (col x : Int) : (turn a b c t col x).length ≤ t.length + 1 := by
  unfold turn tell
  split
  · split
    · exact put_length ..
    · split
      · exact put_length ..
      · split
        · exact put_length ..
        · omega
  · omega
noncomputable def PairsIn (big : List (Addr × Obj)) (vs : List Value) (row : List (Int × Int)) : Prop := vs.length = row.length ∧ ∀ (i : Nat) (v : Value), vs[i]? = some v → ∃ T a b, v = .ref T ∧ row[i]? = some (a, b) ∧ Tup big T a b
noncomputable def RowIn (big : List (Addr × Obj)) (r : Addr) (row : List (Int × Int)) : Prop := ∃ (vs : List Value) (c : Nat), (r, W.listOf vs.toArray c) ∈ big ∧ PairsIn big vs row
noncomputable def RowsIn (big : List (Addr × Obj)) (R : Addr) (rows : List (List (Int × Int))) : Prop := ∃ (vs : List Value) (c : Nat), (R, W.listOf vs.toArray c) ∈ big ∧ vs.length = rows.length ∧ ∀ (i : Nat) (v : Value), vs[i]? = some v → ∃ r row, v = .ref r ∧ rows[i]? = some row ∧ RowIn big r row
noncomputable def Plain (big : List (Addr × Obj)) : Prop := ∀ p ∈ big, p.2.cls = .type "tuple" ∨ p.2.cls = .type "list"
theorem PairsIn.mono {big big' : List (Addr × Obj)} {vs : List Value} {row : List (Int × Int)} (h : ∀ p ∈ big, p ∈ big') (H : PairsIn big vs row) : PairsIn big' vs row :=
  ⟨H.1, fun i v hv => let ⟨T, a, b, e1, e2, e3⟩ := H.2 i v hv; ⟨T, a, b, e1, e2, e3.mono h⟩⟩
theorem RowIn.mono {big big' : List (Addr × Obj)} {r : Addr} {row : List (Int × Int)} (h : ∀ p ∈ big, p ∈ big') (H : RowIn big r row) : RowIn big' r row :=
  let ⟨vs, c, m, p⟩ := H; ⟨vs, c, h _ m, p.mono h⟩
theorem Plain.cons {big : List (Addr × Obj)} {T : Addr} {a b : Value} (H : Plain big) : Plain ((T, tupO a b) :: big) := fun p hp => by
  rcases List.mem_cons.mp hp with rfl | hp
  · exact .inl rfl
  · exact H p hp
theorem Plain.ne {g h : Heap} {L : Addr} {big rest : List (Addr × Obj)} {D : Addr} {o : Obj} (P : Plain rest) (N : News g L h big) (hs : ∀ p ∈ rest, p ∈ big) (hD : (D, o) ∈ big) (hc : o.cls ≠ .type "tuple") (hc' : o.cls ≠ .type "list") : ∀ p ∈ rest, p.1 ≠ D := fun p hp e => by
  have h1 := (N p (hs p hp)).1
  have h2 := (N _ hD).1
  rw [← e, h1] at h2
  have h3 : p.2 = o := Option.some.inj h2
  rcases P p hp with q | q
  · exact hc (h3.symm ▸ q)
  · exact hc' (h3.symm ▸ q)
theorem rowOn_take (a b c : Int) (row : List (Int × Int)) (t : Sums) (i : Nat) (col x : Int) (h : row[i]? = some (col, x)) : rowOn a b c (row.take (i + 1)) t = turn a b c (rowOn a b c (row.take i) t) col x := by
  unfold rowOn; rw [List.take_add_one, h]; simp
theorem wayOn_take (row : List (Int × Int)) (ways t : Sums) (j : Nat) (k a b : Int) (h : ways[j]? = some (k, a, b)) : wayOn row (ways.take (j + 1)) t = rowOn k a b row (wayOn row (ways.take j) t) := by
  unfold wayOn; rw [List.take_add_one, h]; simp
theorem waysOf_take (rows : List (List (Int × Int))) (t : Sums) (i : Nat) (row : List (Int × Int)) (h : rows[i]? = some row) : waysOf (rows.take (i + 1)) t = wayOn row (waysOf (rows.take i) t) [] := by
  unfold waysOf; rw [List.take_add_one, h]; simp
theorem SumsIn.get {big : List (Addr × Obj)} {kvs : List (Int × Value)} {t : Sums} (H : SumsIn big kvs t) : ∀ {i : Nat} {k : Int} {x : Value}, kvs[i]? = some (k, x) → ∃ T a b, x = .ref T ∧ t[i]? = some (k, a, b) ∧ Tup big T a b := by
  induction H with
  | nil => intro i k x h; simp at h
  | @cons k a b T kvs t hT _ ih =>
    intro i k' x h
    cases i with
    | zero => simp at h; obtain ⟨rfl, rfl⟩ := h; exact ⟨T, a, b, rfl, by simp, hT⟩
    | succ i => simpa using ih (by simpa using h)

open PySem PySem.W PyProof.Rows PySem.Calls
theorem say1 {m : Str → Option Value} {a : Str} {x : Option Value} (h1 : m a = x) : m = fun q => if q = a then x else m q := funext fun q => by
  split
  · rename_i e; rw [e]; exact h1
  · rfl
theorem say3 {m : Str → Option Value} {a b c : Str} {x y z : Option Value} (h1 : m a = x) (h2 : m b = y) (h3 : m c = z) : m = fun q => if q = a then x else if q = b then y else if q = c then z else m q :=
  (say1 h1).trans (funext fun q => by
    split
    · rfl
    · split
      · rename_i e; rw [e]; exact h2
      · split
        · rename_i e; rw [e]; exact h3
        · rfl)
theorem say6 {m : Str → Option Value} {a b c a' b' c' : Str} {x y z x' y' z' : Option Value} (h1 : m a = x) (h2 : m b = y) (h3 : m c = z) (h1' : m a' = x') (h2' : m b' = y') (h3' : m c' = z') :
    m = fun q => if q = a then x else if q = b then y else if q = c then z else if q = a' then x' else if q = b' then y' else if q = c' then z' else m q :=
  (say3 h1 h2 h3).trans (funext fun q => by
    split
    · rfl
    · split
      · rfl
      · split
        · rfl
        · split
          · rename_i e; rw [e]; exact h1'
          · split
            · rename_i e; rw [e]; exact h2'
            · split
              · rename_i e; rw [e]; exact h3'
              · rfl)
section
variable {prog : Program} {w : World} {A : Around} {E : Value → Shared → Prop} {s : Shared} {h₀ : Heap} {L : Addr} {m : Str → Option Value} {news : List (Addr × Obj)}
theorem empty_made {env : Env} {pos : Pos} {Q : Value → Shared → Prop} (F : Fr h₀ L s.heap m) (N : News h₀ L s.heap news) (hbig : h₀.NoLimit)
    (k : ∀ d h' o, Fr h₀ L h' m → News h₀ L h' ((d, o) :: news) → (d == sysModules) = false → o.IsDictOf (intKind prog w) [] → (∀ p ∈ news, @LT.lt Nat _ p.1 d) → Q (.ref d) { s with heap := h' }) : wpAny (model prog w) A (eval (.Dict [] [] pos) env) Q E s :=
  Dict_empty_made2 F N (modules_low hbig) fun h' o F' N' lo _ _ hd _ _ => k _ h' o F' N' lo hd fun p hp => Heap.lt_size (N p hp).1
theorem dict_cls {K : Type} [DecidableEq K] {knd : KeyKind prog w K} {o : Obj} {kvs : List (K × Value)} (hd : o.IsDictOf knd kvs) : o.cls = .type "dict" := let ⟨_, _, hc, _⟩ := hd; hc.1
theorem value_of_get {K : Type} [DecidableEq K] {knd : KeyKind prog w K} {o : Obj} {kvs : List (K × Value)} (hd : o.IsDictOf knd kvs) {i : Nat} {k : K} {x : Value} (h : kvs[i]? = some (k, x)) : valueAt kvs k = some x := by
  obtain ⟨_, _, -, -, -, -, hn⟩ := hd
  induction kvs generalizing i with
  | nil => simp at h
  | cons p r ih =>
    obtain ⟨k', x'⟩ := p
    simp only [List.map_cons, List.nodup_cons] at hn
    cases i with
    | zero => simp at h; obtain ⟨rfl, rfl⟩ := h; simp [valueAt]
    | succ i =>
      have h' : r[i]? = some (k, x) := by simpa using h
      have hne : k' ≠ k := fun e => hn.1 (by rw [e]; exact List.mem_map.mpr ⟨_, List.mem_of_getElem? h', rfl⟩)
      have := ih h' hn.2
      simpa [valueAt, hne] using this
end
section
variable {prog : Program} {w : World}
noncomputable def J1 (prog : Program) (w : World) (small : List (Addr × Obj)) (rows : List (List (Int × Int))) (i : Nat) (m : Str → Option Value) (n : List (Addr × Obj)) : Prop :=
  ∃ (W : Addr) (oW : Obj) (kvs : List (Int × Value)) (rest : List (Addr × Obj)) (u : Str → Option Value), m = (fun q => if q = Str.ofString "ways" then some (.ref W) else u q) ∧ n = (W, oW) :: rest ∧ Plain rest ∧ oW.IsDictOf (intKind prog w) kvs ∧ SumsIn rest kvs (waysOf (rows.take i) [(0, 0, 1)]) ∧ (∀ p ∈ small, p ∈ rest) ∧ (W == sysModules) = false
noncomputable def J2 (prog : Program) (w : World) (Fa I1 W r : Addr) (oI1 oW : Obj) (rest1 : List (Addr × Obj)) (row : List (Int × Int)) (ways : Sums) (j : Nat) (m : Str → Option Value) (n : List (Addr × Obj)) : Prop :=
  ∃ (oF : Obj) (kvs : List (Int × Value)) (rest : List (Addr × Obj)) (u : Str → Option Value), m = (fun q => if q = Str.ofString "further" then some (.ref Fa) else if q = Str.ofString "ways" then some (.ref W) else if q = Str.ofString "row" then some (.ref r) else u q) ∧ n = (Fa, oF) :: (I1, oI1) :: (W, oW) :: rest ∧ Plain rest ∧ oF.IsDictOf (intKind prog w) kvs ∧ SumsIn rest kvs (wayOn row (ways.take j) []) ∧ ∀ p ∈ rest1, p ∈ rest
noncomputable def J3 (prog : Program) (w : World) (Fa I1 I2 W r : Addr) (oI1 oI2 oW : Obj) (rest2 : List (Addr × Obj)) (k a b : Int) (tk ta tb : Tok) (row : List (Int × Int)) (t : Sums) (i : Nat) (m : Str → Option Value) (n : List (Addr × Obj)) : Prop :=
  ∃ (oF : Obj) (kvs : List (Int × Value)) (rest : List (Addr × Obj)) (u : Str → Option Value), m = (fun q => if q = Str.ofString "further" then some (.ref Fa) else if q = Str.ofString "ways" then some (.ref W) else if q = Str.ofString "row" then some (.ref r) else
      if q = Str.ofString "taken" then some (.int k tk) else if q = Str.ofString "total" then some (.int a ta) else if q = Str.ofString "many" then some (.int b tb) else u q) ∧
    n = (Fa, oF) :: (I2, oI2) :: (W, oW) :: (I1, oI1) :: rest ∧ Plain rest ∧ oF.IsDictOf (intKind prog w) kvs ∧ SumsIn rest kvs (rowOn k a b (row.take i) t) ∧ ∀ p ∈ rest2, p ∈ rest
variable {A : Around} {E : Value → Shared → Prop} {s : Shared} {h₀ : Heap} {L : Addr} {m : Str → Option Value}
theorem store3 {D2 D1 I3 Fa I2 W I1 : Addr} {t2 t1 oI3 oF oI2 oW oI1 : Obj} {rest : List (Addr × Obj)} {kvs : List (Int × Value)} {k : Int} {tk : Tok} {v : Value} {Q : Unit → Shared → Prop} (F : Fr h₀ L s.heap m)
    (N : News h₀ L s.heap ((D2, t2) :: (D1, t1) :: (I3, oI3) :: (Fa, oF) :: (I2, oI2) :: (W, oW) :: (I1, oI1) :: rest)) (hD2 : @Ne Nat Fa D2) (hD1 : @Ne Nat Fa D1) (h3 : @Ne Nat Fa I3) (h2 : @Ne Nat Fa I2) (hW : @Ne Nat Fa W) (h1 : @Ne Nat Fa I1)
    (hP : Plain rest) (hd : oF.IsDictOf (intKind prog w) kvs) (hsz : kvs.length ≤ sizeLine)
    (h : ∀ h' o', Fr h₀ L h' m → News h₀ L h' ((I3, oI3) :: (Fa, o') :: (I2, oI2) :: (W, oW) :: (I1, oI1) :: (D2, t2) :: rest) → o'.IsDictOf (intKind prog w) (stored kvs k v) → Q () { s with heap := h', toks := s.toks + 1 }) :
    wpAny (model prog w) A (setItem (.ref Fa) (.int k tk) v) Q E s := by
  have hc := dict_cls hd
  have hr := hP.ne N (fun p hp => .tail _ (.tail _ (.tail _ (.tail _ (.tail _ (.tail _ (.tail _ hp))))))) (D := Fa) (.tail _ (.tail _ (.tail _ (.head _)))) (by rw [hc]; decide) (by rw [hc]; decide)
  refine kda_set (knd := intKind prog w) F N (.tail hD2.symm (.tail hD1.symm (.tail h3.symm (.head (r := (I2, oI2) :: (W, oW) :: (I1, oI1) :: rest) fun p hp => ?_)))) hd (intKind_is _ _ _ _) hsz fun h' o' F' N' hd' => h h' o' F' (fun p hp => ?_) hd'
  · rcases List.mem_cons.mp hp with rfl | hp
    · exact h2.symm
    rcases List.mem_cons.mp hp with rfl | hp
    · exact hW.symm
    rcases List.mem_cons.mp hp with rfl | hp
    · exact h1.symm
    · exact hr p hp
  · refine N' p ?_
    simp only [List.mem_cons] at hp ⊢
    rcases hp with h | h | h | h | h | h | h
    · exact .inr (.inr (.inl h))
    · exact .inr (.inr (.inr (.inl h)))
    · exact .inr (.inr (.inr (.inr (.inl h))))
    · exact .inr (.inr (.inr (.inr (.inr (.inl h)))))
    · exact .inr (.inr (.inr (.inr (.inr (.inr (.inl h))))))
    · exact .inl h
    · exact .inr (.inr (.inr (.inr (.inr (.inr (.inr h))))))
end
theorem rowOn_length (a b c : Int) (row : List (Int × Int)) (t : Sums) : (rowOn a b c row t).length ≤ t.length + row.length := by
  unfold rowOn
  induction row generalizing t with
  | nil => simp
  | cons p r ih =>
    have h1 := ih (turn a b c t p.1 p.2)
    have h2 := turn_length a b c t p.1 p.2
    simp only [List.foldl_cons, List.length_cons]; omega
theorem wayOn_length (row : List (Int × Int)) (ways t : Sums) : (wayOn row ways t).length ≤ t.length + ways.length * row.length := by
  unfold wayOn
  induction ways generalizing t with
  | nil => simp
  | cons p r ih =>
    have h1 := ih (rowOn p.1 p.2.1 p.2.2 row t)
    have h2 := rowOn_length p.1 p.2.1 p.2.2 row t
    simp only [List.foldl_cons, List.length_cons, Nat.succ_mul]; omega
theorem waysOf_length : ∀ (rows : List (List (Int × Int))) (t : Sums), (∀ row ∈ rows, row.length ≤ 4) → (waysOf rows t).length ≤ t.length * 4 ^ rows.length
  | [], t, _ => by simp [waysOf]
  | row :: rows, t, h => by
    have h1 := waysOf_length rows (wayOn row t []) fun r hr => h r (.tail _ hr)
    have h2 := wayOn_length row t []
    have h3 := h row (.head _)
    have h4 : (wayOn row t []).length ≤ t.length * 4 := Nat.le_trans h2 (by simp only [List.length_nil, Nat.zero_add]; exact Nat.mul_le_mul (Nat.le_refl _) h3)
    show (waysOf rows (wayOn row t [])).length ≤ _
    refine Nat.le_trans h1 ?_
    rw [List.length_cons, Nat.pow_succ, Nat.mul_comm (4 ^ rows.length) 4, ← Nat.mul_assoc]
    exact Nat.mul_le_mul h4 (Nat.le_refl _)
theorem sums_fit {rows : List (List (Int × Int))} (hl : rows.length ≤ 5) (hl4 : ∀ row ∈ rows, row.length ≤ 4) {row : List (Int × Int)} (hr : row ∈ rows) (i j q : Nat) (a b c : Int) :
    (rowOn a b c (row.take q) (wayOn row ((waysOf (rows.take i) [(0, 0, 1)]).take j) [])).length ≤ sizeLine := by
  have h1 := rowOn_length a b c (row.take q) (wayOn row ((waysOf (rows.take i) [(0, 0, 1)]).take j) [])
  have h2 := wayOn_length row ((waysOf (rows.take i) [(0, 0, 1)]).take j) []
  have h3 := waysOf_length (rows.take i) [(0, 0, 1)] fun r hr => hl4 r (List.mem_of_mem_take hr)
  have h4 := hl4 row hr
  have h5 : (rows.take i).length ≤ 5 := by rw [List.length_take]; omega
  have h6 : (4 : Nat) ^ (rows.take i).length ≤ 4 ^ 5 := Nat.pow_le_pow_right (by decide) h5
  have h7 : ((waysOf (rows.take i) [(0, 0, 1)]).take j).length ≤ 1024 := by
    rw [List.length_take]
    simp only [List.length_cons, List.length_nil, Nat.zero_add, Nat.one_mul] at h3
    have : (4 : Nat) ^ 5 = 1024 := by decide
    omega
  have h8 : (row.take q).length ≤ 4 := by rw [List.length_take]; omega
  have h9 : ((waysOf (rows.take i) [(0, 0, 1)]).take j).length * row.length ≤ 1024 * 4 := Nat.mul_le_mul h7 h4
  simp only [List.length_nil] at h2
  rw [sizeLine_eq]; omega

open PySem PySem.W PyProof.Rows PySem.Calls
section
variable {prog : Program} {w : World} {A : Around} {E : Value → Shared → Prop} {s : Shared} {env : Env} {h₀ : Heap} {target : Expr} {body : List Stmt} {Q : Flow → Shared → Prop}
theorem loop1 {R W0 D' : Addr} {oW9 : Obj} {small : List (Addr × Obj)} {rows : List (List (Int × Int))} {t u : Tok} {m₀ : Str → Option Value}
    (hh : A.handled = none) (F : Fr h₀ env.locals s.heap m₀) (N : News h₀ env.locals s.heap ((D', tupO (.int 0 t) (.int 1 u)) :: (W0, oW9) :: small)) (hW : m₀ (Str.ofString "ways") = some (.ref W0)) (hP : Plain small) (hd : oW9.IsDictOf (intKind prog w) [(0, .ref D')]) (lo : (W0 == sysModules) = false) (hR : RowsIn small R rows)
    (step : ∀ I1 i1 r1 row1 vs1 c1 W1 oW1 kvs1 rest1 (u1 : Str → Option Value) h1 tk1 oI1, rows[i1]? = some row1 → (r1, W.listOf vs1.toArray c1) ∈ rest1 → PairsIn rest1 vs1 row1 → oI1.cls = .type "list_iterator" → @Ne Nat W1 I1 → Plain rest1 → oW1.IsDictOf (intKind prog w) kvs1 → SumsIn rest1 kvs1 (waysOf (rows.take i1) [(0, 0, 1)]) → (∀ p ∈ small, p ∈ rest1) → (W1 == sysModules) = false →
      Fr h₀ env.locals h1 (fun q => if q = Str.ofString "ways" then some (.ref W1) else u1 q) → News h₀ env.locals h1 ((I1, oI1) :: (W1, oW1) :: rest1) →
      wpAny (model prog w) A (assign target env (.ref r1)) (fun _ s₃ => wpAny (model prog w) A (execs body env) (StepJ h₀ env.locals I1 oI1 (J1 prog w small rows (i1 + 1)) { s with heap := h1, toks := tk1 } Q) E s₃) E { s with heap := h1, toks := tk1 })
    (done : ∀ W9 oW9 kvs9 rest9 (u9 : Str → Option Value) h9 tk9, Plain rest9 → oW9.IsDictOf (intKind prog w) kvs9 → SumsIn rest9 kvs9 (waysOf rows [(0, 0, 1)]) → (∀ p ∈ small, p ∈ rest9) → (W9 == sysModules) = false →
      Fr h₀ env.locals h9 (fun q => if q = Str.ofString "ways" then some (.ref W9) else u9 q) → News h₀ env.locals h9 ((W9, oW9) :: rest9) → Q .next { s with heap := h9, toks := tk9 }) :
    wpAny (model prog w) A (pyIter (.ref R)) (fun it s₂ => TurnsAt prog w A h₀ env target body Q E it s₂) E s := by
  obtain ⟨vsR, cR, hRm, hRl, hRi⟩ := hR
  have N' : News h₀ env.locals s.heap ((W0, oW9) :: (D', tupO (.int 0 t) (.int 1 u)) :: small) := fun p hp => N p (by
    simp only [List.mem_cons] at hp ⊢
    rcases hp with h | h | h
    · exact .inr (.inl h)
    · exact .inl h
    · exact .inr (.inr h))
  refine iterJ_list hh F N' (.tail _ (.tail _ hRm)) rfl rfl (J1 prog w small rows) ?_ ?_ ?_ ?_
  · rintro _ _ _ ⟨_, _, _, _, _, _, rfl, _, _, _, hk, _⟩
    exact .tail _ (hk _ hRm)
  · exact ⟨W0, oW9, _, _, m₀, say1 hW, rfl, hP.cons, hd, .cons ⟨t, u, .head _⟩ .nil, fun p hp => .tail _ hp, lo⟩
  · intro I i v m₁ n₁ h₁ tk₁ oI _ _ hv hJ hoff hc F₁ N₁
    obtain ⟨W1, oW1, kvs1, rest1, u1, rfl, rfl, hP1, hd1, hS1, hk1, lo1⟩ := hJ
    obtain ⟨r1, row1, rfl, hrow1, vs1, c1, hr1, hp1⟩ := hRi i v hv
    exact step I i r1 row1 vs1 c1 W1 oW1 kvs1 rest1 u1 h₁ tk₁ oI hrow1 (hk1 _ hr1) (hp1.mono hk1) hc (hoff (W1, oW1) (.head _)) hP1 hd1 hS1 hk1 lo1 F₁ N₁
  · intro m' n' h' tk hJ F' N''
    obtain ⟨W1, oW1, kvs1, rest1, u1, rfl, rfl, hP1, hd1, hS1, hk1, lo1⟩ := hJ
    rw [hRl, List.take_length] at hS1
    exact done W1 oW1 kvs1 rest1 u1 h' tk hP1 hd1 hS1 hk1 lo1 F' N''
theorem loop2 {Fa I1 W1 r1 : Addr} {oF0 oI1 oW1 : Obj} {rest1 : List (Addr × Obj)} {kvs1 : List (Int × Value)} {row : List (Int × Int)} {ways : Sums} {m₀ : Str → Option Value}
    (hh : A.handled = none) (F : Fr h₀ env.locals s.heap m₀) (N : News h₀ env.locals s.heap ((Fa, oF0) :: (I1, oI1) :: (W1, oW1) :: rest1)) (hm1 : m₀ (Str.ofString "further") = some (.ref Fa)) (hm2 : m₀ (Str.ofString "ways") = some (.ref W1)) (hm3 : m₀ (Str.ofString "row") = some (.ref r1))
    (hP : Plain rest1) (hd0 : oF0.IsDictOf (intKind prog w) []) (hd : oW1.IsDictOf (intKind prog w) kvs1) (lo : (W1 == sysModules) = false) (hS : SumsIn rest1 kvs1 ways)
    (step : ∀ I2 i2 k2 t2 T2 a2 b2 ta2 tb2 oI2 oF2 kvs2 rest2 (u2 : Str → Option Value) h2 tk2, valueAt kvs1 k2 = some (.ref T2) → (T2, tupO (.int a2 ta2) (.int b2 tb2)) ∈ rest2 → ways[i2]? = some (k2, a2, b2) → @Ne Nat Fa I2 → @Ne Nat W1 I2 → @Ne Nat I1 I2 → oI2.cls = .type "dict_keyiterator" → Plain rest2 → oF2.IsDictOf (intKind prog w) kvs2 → SumsIn rest2 kvs2 (wayOn row (ways.take i2) []) → (∀ p ∈ rest1, p ∈ rest2) →
      Fr h₀ env.locals h2 (fun q => if q = Str.ofString "further" then some (.ref Fa) else if q = Str.ofString "ways" then some (.ref W1) else if q = Str.ofString "row" then some (.ref r1) else u2 q) → News h₀ env.locals h2 ((I2, oI2) :: (Fa, oF2) :: (I1, oI1) :: (W1, oW1) :: rest2) →
      wpAny (model prog w) A (assign target env (.int k2 t2)) (fun _ s₃ => wpAny (model prog w) A (execs body env) (StepJ h₀ env.locals I2 oI2 (J2 prog w Fa I1 W1 r1 oI1 oW1 rest1 row ways (i2 + 1)) { s with heap := h2, toks := tk2 } Q) E s₃) E { s with heap := h2, toks := tk2 })
    (done : ∀ oF9 kvs9 rest9 (u9 : Str → Option Value) h9 tk9, Plain rest9 → oF9.IsDictOf (intKind prog w) kvs9 → SumsIn rest9 kvs9 (wayOn row ways []) → (∀ p ∈ rest1, p ∈ rest9) →
      Fr h₀ env.locals h9 (fun q => if q = Str.ofString "further" then some (.ref Fa) else if q = Str.ofString "ways" then some (.ref W1) else if q = Str.ofString "row" then some (.ref r1) else u9 q) → News h₀ env.locals h9 ((Fa, oF9) :: (I1, oI1) :: (W1, oW1) :: rest9) → Q .next { s with heap := h9, toks := tk9 }) :
    wpAny (model prog w) A (pyIter (.ref W1)) (fun it s₂ => TurnsAt prog w A h₀ env target body Q E it s₂) E s := by
  refine iterJ_keys hh F N (.tail _ (.tail _ (.head _))) hd lo (J2 prog w Fa I1 W1 r1 oI1 oW1 rest1 row ways) ?_ ?_ ?_ ?_
  · rintro _ _ _ ⟨_, _, _, _, _, rfl, _⟩
    exact .tail _ (.tail _ (.head _))
  · exact ⟨oF0, [], rest1, m₀, say3 hm1 hm2 hm3, rfl, hP, hd0, .nil, fun _ hp => hp⟩
  · intro I i k x v m₁ n₁ h₁ tk₁ oI _ _ hkx hk hJ hoff hc F₁ N₁
    obtain ⟨oF2, kvs2, rest2, u2, rfl, rfl, hP2, hd2, hS2, hk2⟩ := hJ
    obtain ⟨t2, rfl⟩ := Value.isInt_shape hk
    obtain ⟨T2, a2, b2, rfl, hw, ta2, tb2, hT⟩ := hS.get hkx
    exact step I i k t2 T2 a2 b2 ta2 tb2 oI oF2 kvs2 rest2 u2 h₁ tk₁ (value_of_get hd hkx) (hk2 _ hT) hw (hoff (Fa, oF2) (.head _)) (hoff (W1, oW1) (.tail _ (.tail _ (.head _)))) (hoff (I1, oI1) (.tail _ (.head _))) hc hP2 hd2 hS2 hk2 F₁ N₁
  · intro m' n' h' tk hJ F' N'
    obtain ⟨oF2, kvs2, rest2, u2, rfl, rfl, hP2, hd2, hS2, hk2⟩ := hJ
    rw [hS.length, List.take_length] at hS2
    exact done oF2 kvs2 rest2 u2 h' tk hP2 hd2 hS2 hk2 F' N'
theorem loop3 {Fa I1 I2 W1 r1 : Addr} {oF2 oI1 oI2 oW1 : Obj} {rest2 : List (Addr × Obj)} {kvs2 : List (Int × Value)} {vs1 : List Value} {c1 : Nat} {row : List (Int × Int)} {t : Sums} {k a b : Int} {tk ta tb : Tok} {m₀ : Str → Option Value}
    (hh : A.handled = none) (F : Fr h₀ env.locals s.heap m₀) (N : News h₀ env.locals s.heap ((I2, oI2) :: (Fa, oF2) :: (I1, oI1) :: (W1, oW1) :: rest2)) (hm1 : m₀ (Str.ofString "further") = some (.ref Fa)) (hm2 : m₀ (Str.ofString "ways") = some (.ref W1)) (hm3 : m₀ (Str.ofString "row") = some (.ref r1))
    (hm4 : m₀ (Str.ofString "taken") = some (.int k tk)) (hm5 : m₀ (Str.ofString "total") = some (.int a ta)) (hm6 : m₀ (Str.ofString "many") = some (.int b tb))
    (hr : (r1, W.listOf vs1.toArray c1) ∈ rest2) (hp : PairsIn rest2 vs1 row) (hP : Plain rest2) (hd : oF2.IsDictOf (intKind prog w) kvs2) (hS : SumsIn rest2 kvs2 t)
    (step : ∀ I3 i3 T3 col x tc tx oI3 oF3 kvs3 rest3 (u3 : Str → Option Value) h3 tk3, (T3, tupO (.int col tc) (.int x tx)) ∈ rest3 → row[i3]? = some (col, x) → @Ne Nat Fa I3 → @Ne Nat I2 I3 → @Ne Nat W1 I3 → @Ne Nat I1 I3 → oI3.cls = .type "list_iterator" → Plain rest3 → oF3.IsDictOf (intKind prog w) kvs3 → SumsIn rest3 kvs3 (rowOn k a b (row.take i3) t) → (∀ p ∈ rest2, p ∈ rest3) →
      Fr h₀ env.locals h3 (fun q => if q = Str.ofString "further" then some (.ref Fa) else if q = Str.ofString "ways" then some (.ref W1) else if q = Str.ofString "row" then some (.ref r1) else
        if q = Str.ofString "taken" then some (.int k tk) else if q = Str.ofString "total" then some (.int a ta) else if q = Str.ofString "many" then some (.int b tb) else u3 q) → News h₀ env.locals h3 ((I3, oI3) :: (Fa, oF3) :: (I2, oI2) :: (W1, oW1) :: (I1, oI1) :: rest3) →
      wpAny (model prog w) A (assign target env (.ref T3)) (fun _ s₃ => wpAny (model prog w) A (execs body env) (StepJ h₀ env.locals I3 oI3 (J3 prog w Fa I1 I2 W1 r1 oI1 oI2 oW1 rest2 k a b tk ta tb row t (i3 + 1)) { s with heap := h3, toks := tk3 } Q) E s₃) E { s with heap := h3, toks := tk3 })
    (done : ∀ oF9 kvs9 rest9 (u9 : Str → Option Value) h9 tk9, Plain rest9 → oF9.IsDictOf (intKind prog w) kvs9 → SumsIn rest9 kvs9 (rowOn k a b row t) → (∀ p ∈ rest2, p ∈ rest9) →
      Fr h₀ env.locals h9 (fun q => if q = Str.ofString "further" then some (.ref Fa) else if q = Str.ofString "ways" then some (.ref W1) else if q = Str.ofString "row" then some (.ref r1) else
        if q = Str.ofString "taken" then some (.int k tk) else if q = Str.ofString "total" then some (.int a ta) else if q = Str.ofString "many" then some (.int b tb) else u9 q) → News h₀ env.locals h9 ((Fa, oF9) :: (I2, oI2) :: (W1, oW1) :: (I1, oI1) :: rest9) → Q .next { s with heap := h9, toks := tk9 }) :
    wpAny (model prog w) A (pyIter (.ref r1)) (fun it s₂ => TurnsAt prog w A h₀ env target body Q E it s₂) E s := by
  have N' : News h₀ env.locals s.heap ((Fa, oF2) :: (I2, oI2) :: (W1, oW1) :: (I1, oI1) :: rest2) := fun p hp => N p (by
    simp only [List.mem_cons] at hp ⊢
    rcases hp with h | h | h | h | h
    · exact .inr (.inl h)
    · exact .inl h
    · exact .inr (.inr (.inr (.inl h)))
    · exact .inr (.inr (.inl h))
    · exact .inr (.inr (.inr (.inr h))))
  refine iterJ_list hh F N' (.tail _ (.tail _ (.tail _ (.tail _ hr)))) rfl rfl (J3 prog w Fa I1 I2 W1 r1 oI1 oI2 oW1 rest2 k a b tk ta tb row t) ?_ ?_ ?_ ?_
  · rintro _ _ _ ⟨_, _, _, _, _, rfl, _, _, _, hk⟩
    exact .tail _ (.tail _ (.tail _ (.tail _ (hk _ hr))))
  · exact ⟨oF2, kvs2, rest2, m₀, say6 hm1 hm2 hm3 hm4 hm5 hm6, rfl, hP, hd, hS, fun _ hp => hp⟩
  · intro I i v m₁ n₁ h₁ tk₁ oI _ _ hv hJ hoff hc F₁ N₁
    obtain ⟨oF3, kvs3, rest3, u3, rfl, rfl, hP3, hd3, hS3, hk3⟩ := hJ
    obtain ⟨T3, col, x, rfl, hrow, tc, tx, hT⟩ := hp.2 i v hv
    exact step I i T3 col x tc tx oI oF3 kvs3 rest3 u3 h₁ tk₁ (hk3 _ hT) hrow (hoff (Fa, oF3) (.head _)) (hoff (I2, oI2) (.tail _ (.head _))) (hoff (W1, oW1) (.tail _ (.tail _ (.head _)))) (hoff (I1, oI1) (.tail _ (.tail _ (.tail _ (.head _))))) hc hP3 hd3 hS3 hk3 F₁ N₁
  · intro m' n' h' tk' hJ F' N''
    obtain ⟨oF3, kvs3, rest3, u3, rfl, rfl, hP3, hd3, hS3, hk3⟩ := hJ
    rw [hp.1, List.take_length] at hS3
    exact done oF3 kvs3 rest3 u3 h' tk' hP3 hd3 hS3 hk3 F' N''
end
section
variable {prog : Program} {w : World} {s₁ : Shared} {h₀ h : Heap} {L : Addr} {m : Str → Option Value} {Q : Flow → Shared → Prop} {tk' : Nat}
theorem step3 {Fa I1 I2 I3 W1 r1 : Addr} {oF oI1 oI2 oI3 oW1 : Obj} {rest2 rest : List (Addr × Obj)} {kvs : List (Int × Value)} {row : List (Int × Int)} {t : Sums} {k a b col x : Int} {tk ta tb : Tok} {i : Nat} {big : List (Addr × Obj)} (F : Fr h₀ L h m) (N : News h₀ L h big)
    (hb : ∀ p ∈ (I3, oI3) :: (Fa, oF) :: (I2, oI2) :: (W1, oW1) :: (I1, oI1) :: rest, p ∈ big) (hm1 : m (Str.ofString "further") = some (.ref Fa)) (hm2 : m (Str.ofString "ways") = some (.ref W1)) (hm3 : m (Str.ofString "row") = some (.ref r1))
    (hm4 : m (Str.ofString "taken") = some (.int k tk)) (hm5 : m (Str.ofString "total") = some (.int a ta)) (hm6 : m (Str.ofString "many") = some (.int b tb)) (h1 : @Ne Nat Fa I3) (h2 : @Ne Nat I2 I3) (h3 : @Ne Nat W1 I3) (h4 : @Ne Nat I1 I3) (hc : oI3.cls = .type "list_iterator")
    (hrow : row[i]? = some (col, x)) (hP : Plain rest) (hd : oF.IsDictOf (intKind prog w) kvs) (hk : ∀ p ∈ rest2, p ∈ rest) (hS : SumsIn rest kvs (turn k a b (rowOn k a b (row.take i) t) col x)) :
    StepJ h₀ L I3 oI3 (J3 prog w Fa I1 I2 W1 r1 oI1 oI2 oW1 rest2 k a b tk ta tb row t (i + 1)) s₁ Q .next { s₁ with heap := h, toks := tk' } := by
  have N' : News h₀ L h ((I3, oI3) :: (Fa, oF) :: (I2, oI2) :: (W1, oW1) :: (I1, oI1) :: rest) := fun p hp => N p (hb p hp)
  refine ⟨h, tk', m, _, rfl, F, N', fun p hp => ?_, oF, kvs, rest, m, say6 hm1 hm2 hm3 hm4 hm5 hm6, rfl, hP, hd, by rw [rowOn_take _ _ _ _ _ _ _ _ hrow]; exact hS, hk⟩
  rcases List.mem_cons.mp hp with rfl | hp
  · exact h1
  rcases List.mem_cons.mp hp with rfl | hp
  · exact h2
  rcases List.mem_cons.mp hp with rfl | hp
  · exact h3
  rcases List.mem_cons.mp hp with rfl | hp
  · exact h4
  exact hP.ne N' (fun p hp => .tail _ (.tail _ (.tail _ (.tail _ (.tail _ hp))))) (.head _) (by rw [hc]; decide) (by rw [hc]; decide) p hp
theorem step2 {Fa I1 I2 W1 r1 : Addr} {oF oI1 oI2 oW1 : Obj} {rest1 rest : List (Addr × Obj)} {kvs : List (Int × Value)} {row : List (Int × Int)} {ways : Sums} {i : Nat} {k a b : Int} (F : Fr h₀ L h m) (N : News h₀ L h ((Fa, oF) :: (I2, oI2) :: (W1, oW1) :: (I1, oI1) :: rest))
    (hm1 : m (Str.ofString "further") = some (.ref Fa)) (hm2 : m (Str.ofString "ways") = some (.ref W1)) (hm3 : m (Str.ofString "row") = some (.ref r1)) (h1 : @Ne Nat Fa I2) (h3 : @Ne Nat W1 I2) (h4 : @Ne Nat I1 I2) (hc : oI2.cls = .type "dict_keyiterator")
    (hway : ways[i]? = some (k, a, b)) (hP : Plain rest) (hd : oF.IsDictOf (intKind prog w) kvs) (hk : ∀ p ∈ rest1, p ∈ rest) (hS : SumsIn rest kvs (rowOn k a b row (wayOn row (ways.take i) []))) :
    StepJ h₀ L I2 oI2 (J2 prog w Fa I1 W1 r1 oI1 oW1 rest1 row ways (i + 1)) s₁ Q .next { s₁ with heap := h, toks := tk' } := by
  have N' : News h₀ L h ((I2, oI2) :: (Fa, oF) :: (I1, oI1) :: (W1, oW1) :: rest) := fun p hp => N p (by
    simp only [List.mem_cons] at hp ⊢
    rcases hp with h | h | h | h | h
    · exact .inr (.inl h)
    · exact .inl h
    · exact .inr (.inr (.inr (.inl h)))
    · exact .inr (.inr (.inl h))
    · exact .inr (.inr (.inr (.inr h))))
  refine ⟨h, tk', m, _, rfl, F, N', fun p hp => ?_, oF, kvs, rest, m, say3 hm1 hm2 hm3, rfl, hP, hd, by rw [wayOn_take _ _ _ _ _ _ _ hway]; exact hS, hk⟩
  rcases List.mem_cons.mp hp with rfl | hp
  · exact h1
  rcases List.mem_cons.mp hp with rfl | hp
  · exact h4
  rcases List.mem_cons.mp hp with rfl | hp
  · exact h3
  exact hP.ne N' (fun p hp => .tail _ (.tail _ (.tail _ (.tail _ hp)))) (.head _) (by rw [hc]; decide) (by rw [hc]; decide) p hp
theorem step1 {Fa I1 W1 : Addr} {oF oI1 oW1 : Obj} {small rest : List (Addr × Obj)} {kvs : List (Int × Value)} {rows : List (List (Int × Int))} {row : List (Int × Int)} {i : Nat} (F : Fr h₀ L h m) (N : News h₀ L h ((Fa, oF) :: (I1, oI1) :: (W1, oW1) :: rest)) (hm : m (Str.ofString "ways") = some (.ref Fa))
    (h1 : @Ne Nat Fa I1) (hc : oI1.cls = .type "list_iterator") (hrow : rows[i]? = some row) (hP : Plain rest) (hd : oF.IsDictOf (intKind prog w) kvs) (lo : (Fa == sysModules) = false) (hk : ∀ p ∈ small, p ∈ rest) (hS : SumsIn rest kvs (wayOn row (waysOf (rows.take i) [(0, 0, 1)]) [])) :
    StepJ h₀ L I1 oI1 (J1 prog w small rows (i + 1)) s₁ Q .next { s₁ with heap := h, toks := tk' } := by
  have N' : News h₀ L h ((I1, oI1) :: (Fa, oF) :: rest) := fun p hp => N p (by
    simp only [List.mem_cons] at hp ⊢
    rcases hp with h | h | h
    · exact .inr (.inl h)
    · exact .inl h
    · exact .inr (.inr (.inr h)))
  refine ⟨h, tk', m, _, rfl, F, N', fun p hp => ?_, Fa, oF, kvs, rest, m, say1 hm, rfl, hP, hd, by rw [waysOf_take _ _ _ _ hrow]; exact hS, hk, lo⟩
  rcases List.mem_cons.mp hp with rfl | hp
  · exact h1
  exact hP.ne N' (fun p hp => .tail _ (.tail _ hp)) (.head _) (by rw [hc]; decide) (by rw [hc]; decide) p hp
end
theorem turn_no {k a b col x : Int} {t : Sums} (h : ¬ Builtin.bitAnd k col = 0) : turn k a b t col x = t := if_neg h
theorem turn_yes {k a b col x : Int} {t : Sums} (h : Builtin.bitAnd k col = 0) : turn k a b t col x = tell t (k + col) (a + x) b := if_pos h

open PySem PySem.W PyProof.Rows PySem.Calls
section
variable {prog : Program} {w : World} {A : Around} {E : Value → Shared → Prop} {R : Result → Shared → Prop} {s : Shared} {env : Env}
noncomputable def turnOf (ip : Pos) (target : Expr) (it : Value) (env : Env) (tail : Sem Fin) : Sem Fin := standAt ip >>= fun _ => pyNext it >>= fun r => match r with
  | none => pure (.done .next)
  | some v => letOwnedTupleGo target it v >>= fun _ => assign target env v >>= fun _ => tail
noncomputable def tailE (elt : Expr) (acc : Value) (env : Env) (c : Code) : Sem Fin := (eval elt env >>= fun x => call (.builtin "list.append") [acc, x] >>= fun _ => pure ()) >>= fun _ => again c
noncomputable def tailC (e i2 : Expr) (acc : Value) (env : Env) (c : Code) : Sem Fin := eval i2 env >>= fun x => standAt i2.pos >>= fun _ => foldedSetIterable i2 env x >>= fun x => holding [x] (pyIter x) >>= fun it => runOwn (.compStart e 1 it acc env) env >>= fun _ => again c
theorem turn1 (elt t i : Expr) (scope : Scope) (pos : Pos) (it acc : Value) (env : Env) : compTurn (.ListComp elt [⟨t, i, [], 0⟩] scope pos) 0 it acc env =
    turnOf i.pos t it env (tailE elt acc env (.compLoop (.ListComp elt [⟨t, i, [], 0⟩] scope pos) 0 it acc env)) := by rfl
theorem turn2b (elt t i t2 i2 : Expr) (scope : Scope) (pos : Pos) (it acc : Value) (env : Env) : compTurn (.ListComp elt [⟨t, i, [], 0⟩, ⟨t2, i2, [], 0⟩] scope pos) 1 it acc env =
    turnOf i2.pos t2 it env (tailE elt acc env (.compLoop (.ListComp elt [⟨t, i, [], 0⟩, ⟨t2, i2, [], 0⟩] scope pos) 1 it acc env)) := by rfl
theorem turn2a (elt t i t2 i2 : Expr) (scope : Scope) (pos : Pos) (it acc : Value) (env : Env) : compTurn (.ListComp elt [⟨t, i, [], 0⟩, ⟨t2, i2, [], 0⟩] scope pos) 0 it acc env =
    turnOf i.pos t it env (tailC (.ListComp elt [⟨t, i, [], 0⟩, ⟨t2, i2, [], 0⟩] scope pos) i2 acc env (.compLoop (.ListComp elt [⟨t, i, [], 0⟩, ⟨t2, i2, [], 0⟩] scope pos) 0 it acc env)) := by rfl
theorem comp_walk {elt : Expr} {gens : List Comprehension} {scope : Scope} {pos : Pos} {d : Nat} {I : Addr} {acc : Value} {ip : Pos} {target : Expr} {tail : Sem Fin} {fp wr : List Addr} {n : Nat} {P Md : Nat → Value → Heap → Prop} {St : Nat → Heap → Prop}
    (he : compTurn (.ListComp elt gens scope pos) d (.ref I) acc env = turnOf ip target (.ref I) env tail)
    (W : KTurns prog w A target I fp wr n P Md St) (Inv : Nat → Shared → Prop)
    (step : ∀ (N : Value → Shared → Prop) i s v h' tk', i < n → Inv i s → P i v h' → St (i + 1) h' → (∀ b o, b ∉ wr → s.heap.get? b = some o → h'.get? b = some o) →
      wpAny (model prog w) A (assign target env v) (fun _ s₂ => wpAny (model prog w) A tail (fun f s₃ => f = .again (.compLoop (.ListComp elt gens scope pos) d (.ref I) acc env) ∧ Inv (i + 1) s₃ ∧ St (i + 1) s₃.heap) N s₂) N { s with heap := h', toks := tk' })
    (done : ∀ s h' tk', Inv n s → (∀ b o, b ∉ wr → s.heap.get? b = some o → h'.get? b = some o) → R (.ok .next) { s with heap := h', toks := tk' }) :
    ∀ k i s, i + k = n → Inv i s → St i s.heap → codeAny (model prog w) A (.compLoop (.ListComp elt gens scope pos) d (.ref I) acc env) R s := by
  intro k
  induction k with
  | zero =>
    intro i s hk hI hS
    have e : i = n := by omega
    subst e
    refine codeAny_of_tree ?_
    show wpAny _ A ((compTurn (.ListComp elt gens scope pos) d (.ref I) acc env).onRaise (fun x => do noteFrame x env; theTreesLotGoes x)) _ _ s
    refine wpAny_noted ?_
    rw [he]
    exact wpAny_bind (wpAny_standAt (wpAny_bind (W.done s _ _ hS fun h' tk' hw => wpAny_pure (done s h' tk' hI hw))))
  | succ k ih =>
    intro i s hk hI hS
    refine codeAny_of_tree ?_
    show wpAny _ A ((compTurn (.ListComp elt gens scope pos) d (.ref I) acc env).onRaise (fun x => do noteFrame x env; theTreesLotGoes x)) _ _ s
    refine wpAny_noted ?_
    rw [he]
    refine wpAny_bind (wpAny_standAt (wpAny_bind (W.item i s _ _ (by omega) hS fun v h' tk' hm hw => ?_)))
    refine wpAny_bind (W.go i v { s with heap := h', toks := tk' } _ _ hm fun h'' hP hS' hw' => ?_)
    exact wpAny_bind (wpAny_mono (step _ i s v h'' tk' (by omega) hI hP hS' (fun b o hb e => hw' b o hb (hw b o hb e))) (fun _ s₂ h₂ => wpAny_mono h₂ (fun f s₃ h₃ => by obtain ⟨rfl, h3, h4⟩ := h₃; exact ⟨rfl, ih (i + 1) s₃ (by omega) h3 h4⟩) fun _ _ e => e) fun _ _ e => e)
theorem tail_el {elt : Expr} {acc : Value} {c : Code} {K : Shared → Prop} (h : wpAny (model prog w) A (eval elt env) (fun x s₄ => wpAny (model prog w) A (call (.builtin "list.append") [acc, x]) (fun _ s₅ => K s₅) E s₄) E s) :
    wpAny (model prog w) A (tailE elt acc env c) (fun f s' => f = .again c ∧ K s') E s := by
  unfold tailE
  exact wpAny_bind (wpAny_bind (wpAny_mono h (fun x s₁ h₁ => wpAny_bind (wpAny_mono h₁ (fun _ s₂ h₂ => wpAny_pure (wpAny_pure ⟨rfl, h₂⟩)) fun _ _ e => e)) fun _ _ e => e))
theorem tail_cl {e i2 : Expr} {acc : Value} {c : Code} {K : Shared → Prop} (hs : ∀ x, foldedSetIterable i2 env x = pure x)
    (h : wpAny (model prog w) A (eval i2 env) (fun x s₁ => wpAny (model prog w) A (pyIter x) (fun it s₂ => codeAny (model prog w) A (.compStart e 1 it acc env) (fun r s₃ => r = .ok .next ∧ K s₃) s₂) E s₁) E s) :
    wpAny (model prog w) A (tailC e i2 acc env c) (fun f s' => f = .again c ∧ K s') E s := by
  unfold tailC
  refine wpAny_bind (wpAny_mono h (fun x s₁ h₁ => wpAny_bind (wpAny_standAt (wpAny_bind (wpAny_of_eq (hs x) (wpAny_bind (wpAny_holding (wpAny_mono h₁ (fun it s₂ h₂ => ?_) fun _ _ e => e))))))) fun _ _ e => e)
  refine wpAny_bind (wpAny_runOwn (codeAny_mono h₂ fun r s₃ h₃ => ?_))
  obtain ⟨rfl, hK⟩ := h₃
  exact wpAny_pure ⟨rfl, hK⟩
theorem comp_start1 {elt t i t2 i2 : Expr} {scope : Scope} {pos : Pos} {it acc : Value}
    (h0 : codeAny (model prog w) A (.compLoop (.ListComp elt [⟨t, i, [], 0⟩, ⟨t2, i2, [], 0⟩] scope pos) 1 it acc env) R s)
    (h : ∀ N : Value → Shared → Prop, wpAny (model prog w) A (pyIter it) (fun it' s' => codeAny (model prog w) A (.compLoop (.ListComp elt [⟨t, i, [], 0⟩, ⟨t2, i2, [], 0⟩] scope pos) 1 it' acc env) R s') N s) :
    codeAny (model prog w) A (.compStart (.ListComp elt [⟨t, i, [], 0⟩, ⟨t2, i2, [], 0⟩] scope pos) 1 it acc env) R s := by
  refine codeAny_of_tree ?_
  show wpAny _ _ ((compStart (.ListComp elt [⟨t, i, [], 0⟩, ⟨t2, i2, [], 0⟩] scope pos) 1 it acc env).onRaise (fun x => do noteFrame x env; standAt theWindowsPlace)) _ _ s
  refine wpAny_notedAt ?_
  unfold compStart
  show wpAny _ _ (ask >>= _) _ _ s
  refine wpAny_bind (wpAny_askSetting (wpAny_ite ?_))
  split
  · first
      | exact wpAny_bind (wpAny_pure (wpAny_pure (And.intro rfl h0)))
      | exact wpAny_pure (And.intro rfl h0)
  · refine wpAny_bind (wpAny_rule ?_)
    show wpAny _ _ (standAt i2.pos >>= _) _ _ s
    exact wpAny_bind (wpAny_standAt (wpAny_bind (wpAny_mono (h _) (fun it' s' h' => wpAny_pure (And.intro rfl h')) fun _ _ x => x)))
end
section
variable {prog : Program} {w : World} {A : Around} {E : Value → Shared → Prop} {R : Result → Shared → Prop} {s s₁ : Shared} {env : Env} {h₀ : Heap} {L C D I : Addr} {m : Str → Option Value}
noncomputable def ApartC (wr : List Addr) (C D : Addr) (nw : List (Addr × Obj)) : Prop := ∀ p ∈ nw, p.1 ∉ wr ∧ p.1 ≠ C ∧ p.1 ≠ D
noncomputable def CEnd (h₀ : Heap) (L : Addr) (m : Str → Option Value) (wr : List Addr) (C D : Addr) (own : List (Addr × Obj)) (s₁ : Shared) (J : List Value → (Str → Option Value) → List (Addr × Obj) → Prop) (s₃ : Shared) : Prop :=
  ∃ h' tk' oC' m₂' ys' nw', s₃ = { s₁ with heap := h', toks := tk' } ∧ Fr h₀ L h' m ∧ News h₀ L h' (own ++ (C, oC') :: (D, LCg.lst ys') :: nw') ∧ LCg.NsObj oC' m₂' ∧ ApartC wr C D nw' ∧ J ys' m₂' nw'
theorem own_at {h : Heap} : ∀ {wr : List Addr}, (∀ b ∈ wr, ∃ o, h.get? b = some o) → ∃ own : List (Addr × Obj), own.map (·.1) = wr ∧ ∀ p ∈ own, h.get? p.1 = some p.2
  | [], _ => ⟨[], rfl, fun _ h => nomatch h⟩
  | b :: r, hw => by
    obtain ⟨o, ho⟩ := hw b (.head _)
    obtain ⟨own, e, hown⟩ := own_at fun b hb => hw b (.tail _ hb)
    exact ⟨(b, o) :: own, by simp [e], fun p hp => by rcases List.mem_cons.mp hp with rfl | hp; exact ho; exact hown p hp⟩
theorem comp_led {elt : Expr} {gens : List Comprehension} {scope : Scope} {pos : Pos} {d : Nat} {acc : Value} {ip : Pos} {target : Expr} {tail : Sem Fin} {fp wr : List Addr} {n : Nat} {P Md : Nat → Value → Heap → Prop} {St : Nat → Heap → Prop} {src : List (Addr × Obj)}
    (he : compTurn (.ListComp elt gens scope pos) d (.ref I) acc env = turnOf ip target (.ref I) env tail)
    (W : KTurns prog w A target I fp wr n P Md St)
    (hfp : ∀ b ∈ fp, b ∈ wr ∨ b ∈ src.map (·.1) ∨ ∃ o, h₀.get? b = some o) (hwo : ∀ i h, St i h → ∀ b ∈ wr, ∃ o, h.get? b = some o)
    (hw0 : ∀ b ∈ wr, h₀.get? b = none ∧ b ≠ L ∧ b ≠ C ∧ b ≠ D) (J : Nat → List Value → (Str → Option Value) → List (Addr × Obj) → Prop) (hJ : ∀ i ys m₂ nw, J i ys m₂ nw → ∀ p ∈ src, p ∈ nw)
    (step : ∀ (N : Value → Shared → Prop) i v own oC m₂ ys nw h tk, i < n → P i v h → J i ys m₂ nw → own.map (·.1) = wr → LCg.NsObj oC m₂ → Fr h₀ L h m → News h₀ L h (own ++ (C, oC) :: (D, LCg.lst ys) :: nw) → ApartC wr C D nw →
      wpAny (model prog w) A (assign target env v) (fun _ s₂ => wpAny (model prog w) A tail (fun f s₃ => f = .again (.compLoop (.ListComp elt gens scope pos) d (.ref I) acc env) ∧ CEnd h₀ L m wr C D own s₁ (J (i + 1)) s₃) N s₂) N { s₁ with heap := h, toks := tk })
    (done : ∀ oC m₂ ys nw h tk, J n ys m₂ nw → LCg.NsObj oC m₂ → Fr h₀ L h m → News h₀ L h ((C, oC) :: (D, LCg.lst ys) :: nw) → ApartC wr C D nw → R (.ok .next) { s₁ with heap := h, toks := tk })
    {oC : Obj} {m₂ : Str → Option Value} {ys : List Value} {nw : List (Addr × Obj)} {h : Heap} {tk : Nat} (st : St 0 h) (hj : J 0 ys m₂ nw) (hC : LCg.NsObj oC m₂) (F : Fr h₀ L h m) (N : News h₀ L h ((C, oC) :: (D, LCg.lst ys) :: nw)) (ap : ApartC wr C D nw) :
    codeAny (model prog w) A (.compLoop (.ListComp elt gens scope pos) d (.ref I) acc env) R { s₁ with heap := h, toks := tk } := by
  refine comp_walk he W (fun i s => ∃ oC m₂ ys nw h tk, s = { s₁ with heap := h, toks := tk } ∧ J i ys m₂ nw ∧ LCg.NsObj oC m₂ ∧ Fr h₀ L h m ∧ News h₀ L h ((C, oC) :: (D, LCg.lst ys) :: nw) ∧ ApartC wr C D nw) ?_ ?_ n 0 _ (by omega) ⟨oC, m₂, ys, nw, h, tk, rfl, hj, hC, F, N, ap⟩ st
  · rintro Ex i _ v h' tk' hi ⟨oC, m₂, ys, nw, h, tk, rfl, hj, hC, F, N, ap⟩ hP st' hk
    have kF : Fr h₀ L h' m := ⟨F.ns.at' fun o e => hk L o (fun hm => (hw0 L hm).2.1 rfl) e, fun b o e => hk b o (fun hm => by rw [(hw0 b hm).1] at e; cases e) (F.keep b o e), F.above⟩
    have kN : News h₀ L h' ((C, oC) :: (D, LCg.lst ys) :: nw) := fun p hp => by
      refine ⟨hk _ _ (fun hm => ?_) (N p hp).1, (N p hp).2⟩
      rcases List.mem_cons.mp hp with rfl | hp
      · exact (hw0 _ hm).2.2.1 rfl
      rcases List.mem_cons.mp hp with rfl | hp
      · exact (hw0 _ hm).2.2.2 rfl
      · exact (ap p hp).1 hm
    obtain ⟨own, eo, ho⟩ := own_at (hwo _ _ st')
    have kO : News h₀ L h' (own ++ (C, oC) :: (D, LCg.lst ys) :: nw) := fun p hp => by
      rcases List.mem_append.mp hp with hp | hp
      · have hm : p.1 ∈ wr := eo ▸ List.mem_map_of_mem hp
        exact ⟨ho p hp, fun e => (hw0 _ hm).2.1 e, (hw0 _ hm).1⟩
      · exact kN p hp
    refine wpAny_mono (step Ex i v own oC m₂ ys nw h' tk' hi hP hj eo hC kF kO ap) (fun _ s₂ h₂ => wpAny_mono h₂ (fun _ s₃ h₃ => ?_) fun _ _ e => e) fun _ _ e => e
    obtain ⟨ef, h₄, tk₄, oC', m₂', ys', nw', rfl, F', N', hC', ap', hj'⟩ := h₃
    refine ⟨ef, ⟨oC', m₂', ys', nw', h₄, tk₄, rfl, hj', hC', F', fun p hp => N' p (List.mem_append_right _ hp), ap'⟩, W.frame _ _ _ st' fun b hb o e => ?_⟩
    rcases hfp b hb with hm | hm | ⟨o', e'⟩
    · rw [← eo] at hm
      obtain ⟨p, hp, rfl⟩ := List.mem_map.mp hm
      rw [ho p hp] at e; cases e
      exact (N' p (List.mem_append_left _ hp)).1
    · obtain ⟨p, hp, rfl⟩ := List.mem_map.mp hm
      have h1 := (kN p (.tail _ (.tail _ (hJ _ _ _ _ hj p hp)))).1
      rw [h1] at e; cases e
      exact (N' p (List.mem_append_right _ (.tail _ (.tail _ (hJ _ _ _ _ hj' p hp))))).1
    · have h1 := kF.keep b o' e'
      rw [h1] at e; cases e
      exact F'.keep b _ e'
  · rintro _ h' tk' ⟨oC, m₂, ys, nw, h, tk, rfl, hj, hC, F, N, ap⟩ hk
    refine done oC m₂ ys nw h' tk' hj hC ⟨F.ns.at' fun o e => hk L o (fun hm => (hw0 L hm).2.1 rfl) e, fun b o e => hk b o (fun hm => by rw [(hw0 b hm).1] at e; cases e) (F.keep b o e), F.above⟩ (fun p hp => ?_) ap
    refine ⟨hk _ _ (fun hm => ?_) (N p hp).1, (N p hp).2⟩
    rcases List.mem_cons.mp hp with rfl | hp
    · exact (hw0 _ hm).2.2.1 rfl
    rcases List.mem_cons.mp hp with rfl | hp
    · exact (hw0 _ hm).2.2.2 rfl
    · exact (ap p hp).1 hm
theorem tail_led {elt : Expr} {c : Code} {own : List (Addr × Obj)} {wr : List Addr} {ys : List Value} {J : List Value → (Str → Option Value) → List (Addr × Obj) → Prop} (hD : D ∉ wr) (hCD : C ≠ D) (hown : own.map (·.1) = wr) (hsz : ys.length ≤ sizeLine)
    (h : wpAny (model prog w) A (eval elt env) (fun y s₂ => ∃ h' tk' oC' m₂' nw', s₂ = { s₁ with heap := h', toks := tk' } ∧ Fr h₀ L h' m ∧ News h₀ L h' (own ++ (C, oC') :: (D, LCg.lst ys) :: nw') ∧ LCg.NsObj oC' m₂' ∧ ApartC wr C D nw' ∧ J (ys ++ [y]) m₂' nw') E s) :
    wpAny (model prog w) A (tailE elt (.ref D) env c) (fun f s₃ => f = .again c ∧ CEnd h₀ L m wr C D own s₁ J s₃) E s := by
  refine tail_el (wpAny_mono h (fun y s₂ h₂ => ?_) fun _ _ e => e)
  obtain ⟨h', tk', oC', m₂', nw', rfl, F, N, hC, ap, hj⟩ := h₂
  have hDm := N (D, LCg.lst ys) (List.mem_append_right _ (.tail _ (.head _)))
  refine append_at (hsz := by show ys.toArray.size ≤ sizeLine; rw [List.size_toArray]; exact hsz) hDm.1 fun h₅ hs₅ hD₅ => ?_
  refine ⟨h₅, tk', oC', m₂', ys ++ [y], nw', rfl, F.change hs₅ hDm.2.1 hDm.2.2, fun p hp => ?_, hC, ap, hj⟩
  rcases List.mem_append.mp hp with hp | hp
  · have z := N p (List.mem_append_left _ hp)
    refine ⟨hs₅.extBut _ _ (fun e => hD ?_) z.1, z.2⟩
    rw [← hown, ← e]; exact List.mem_map_of_mem hp
  rcases List.mem_cons.mp hp with rfl | hp
  · have z := N _ (List.mem_append_right _ (.head _))
    exact ⟨hs₅.extBut _ _ hCD z.1, z.2⟩
  rcases List.mem_cons.mp hp with rfl | hp
  · exact ⟨hD₅.trans (congrArg some (LCg.lst_snoc ys y)), hDm.2⟩
  · have z := N p (List.mem_append_right _ (.tail _ (.tail _ hp)))
    exact ⟨hs₅.extBut _ _ (ap p hp).2.2 z.1, z.2⟩
theorem asg_name {scope : Scope} {cl : List (Str × Addr)} {x : Str} {px : Pos} {v : Value} {own rest : List (Addr × Obj)} {oC : Obj} {m₂ : Str → Option Value} {Q : Unit → Shared → Prop}
    (hx : scope.names.lookup x = some .local) (hk : scope.kind = .function) (F : Fr h₀ L s.heap m) (N : News h₀ L s.heap (own ++ (C, oC) :: rest)) (hC : LCg.NsObj oC m₂) (ho : ∀ p ∈ own, p.1 ≠ C) (hr : ∀ p ∈ rest, p.1 ≠ C)
    (h : ∀ h' oC' tk', Fr h₀ L h' m → News h₀ L h' (own ++ (C, oC') :: rest) → LCg.NsObj oC' (fun z => if z = x then some v else m₂ z) → Q () { s with heap := h', toks := tk' }) :
    wpAny (model prog w) A (assign (.Name x px) (compEnvC scope cl C env) v) Q E s := by
  have hm := N (C, oC) (List.mem_append_right _ (.head _))
  refine wpAny_assign_Name (wpAny_storeName_local (lookup_relabel_local hx) (hC.ns hm.1) (fun h' hn hs => ?_) (by simp [compEnvC, relabel, hk]))
  obtain ⟨oC', e, hC'⟩ := LCg.ns_obj hn
  refine h h' oC' _ (F.change hs hm.2.1 hm.2.2) (fun p hp => ?_) hC'
  rcases List.mem_append.mp hp with hp | hp
  · have z := N p (List.mem_append_left _ hp)
    exact ⟨hs.extBut _ _ (ho p hp) z.1, z.2⟩
  rcases List.mem_cons.mp hp with rfl | hp
  · exact ⟨e, hm.2⟩
  · have z := N p (List.mem_append_right _ (.tail _ hp))
    exact ⟨hs.extBut _ _ (hr p hp) z.1, z.2⟩
theorem asg_pair {scope : Scope} {cl : List (Str × Addr)} {x y : Str} {px py tp : Pos} {kk : Nat} {T : Addr} {v u : Value} {own rest : List (Addr × Obj)} {oC : Obj} {m₂ : Str → Option Value} {Q : Unit → Shared → Prop} (hh : A.handled = none)
    (hx : scope.names.lookup x = some .local) (hy : scope.names.lookup y = some .local) (hk : scope.kind = .function) (hT : IsTup s.heap T #[v, u]) (F : Fr h₀ L s.heap m) (N : News h₀ L s.heap (own ++ (C, oC) :: rest)) (hC : LCg.NsObj oC m₂) (ho : ∀ p ∈ own, p.1 ≠ C) (hr : ∀ p ∈ rest, p.1 ≠ C)
    (h : ∀ h' oC' tk', Fr h₀ L h' m → News h₀ L h' (own ++ (C, oC') :: rest) → LCg.NsObj oC' (fun z => if z = y then some u else if z = x then some v else m₂ z) → Q () { s with heap := h', toks := tk' }) :
    wpAny (model prog w) A (assign (.Tuple [.Name x px, .Name y py] kk tp) (compEnvC scope cl C env) (.ref T)) Q E s := by
  refine assign_Tuple_tuple hh hT rfl rfl fun h₅ he => ?_
  have up : ∀ b o, s.heap.get? b = some o → h₅.get? b = some o := fun b o e => he b o (Nat.ne_of_lt (Heap.lt_size e)) e
  refine assignInOrder_cons (asg_name (s := { s with heap := h₅ }) hx hk (F.keeps up) (N.grown up) hC ho hr fun h' oC' tk' F' N' hC' => ?_)
  refine assignInOrder_cons (asg_name hy hk F' N' hC' ho hr fun h'' oC'' tk'' F'' N'' hC'' => ?_)
  exact assignInOrder_nil (h h'' oC'' tk'' F'' N'' hC'')
end

open PySem PySem.W PyProof.Rows PySem.Calls
section
variable {prog : Program} {w : World} {A : Around} {E : Value → Shared → Prop} {s : Shared} {env : Env} {h₀ : Heap} {L : Addr} {m : Str → Option Value}
noncomputable def COut (h₀ : Heap) (L : Addr) (m : Str → Option Value) (C D : Addr) (s₂ : Shared) (Q : Value → Shared → Prop) (r : Result) (s' : Shared) : Prop :=
  r = .ok .next ∧ ∃ h' tk' oC' m₂ ys nw, s' = { s₂ with heap := h', toks := tk' } ∧ Fr h₀ L h' m ∧ News h₀ L h' ((C, oC') :: (D, LCg.lst ys) :: nw) ∧ LCg.NsObj oC' m₂ ∧ C ≠ D ∧ (∀ p ∈ nw, p.1 ≠ C) ∧
    ∀ h'', Fr h₀ L h'' m → News h₀ L h'' ((D, LCg.lst ys) :: nw) → Q (.ref D) { s₂ with heap := h'', toks := tk' }
theorem COut.post {C D : Addr} {s₂ s' : Shared} {Q : Value → Shared → Prop} {r : Result} (h : COut h₀ L m C D s₂ Q r s') : compPost (model prog w) A E none Q (.ref D) C r s' := by
  obtain ⟨rfl, h', tk', oC', m₂, ys, nw, rfl, F, N, hC, hCD, hap, k⟩ := h
  have hm := N (C, oC') (.head _)
  refine ⟨m₂, hC.ns hm.1, fun h'' hs => k h'' (F.change hs hm.2.1 hm.2.2) fun p hp => ?_⟩
  have z := N p (.tail _ hp)
  refine ⟨hs.extBut _ _ (fun e => ?_) z.1, z.2⟩
  rcases List.mem_cons.mp hp with rfl | hp
  · exact hCD e.symm
  · exact hap p hp e
noncomputable def CIn (prog : Program) (w : World) (A : Around) (h₀ : Heap) (L : Addr) (m : Str → Option Value) (e : Expr) (scope : Scope) (cl : List (Str × Addr)) (env : Env) (Q : Value → Shared → Prop) (it : Value) (s₂ : Shared) : Prop :=
  ∃ news, Fr h₀ L s₂.heap m ∧ News h₀ L s₂.heap news ∧ ∀ D C h oC, (∀ p ∈ news, p.1 < D) → s₂.heap.objs.size ≤ D → D < C → Fr h₀ L h m → News h₀ L h ((C, oC) :: (D, LCg.lst []) :: news) → LCg.NsObj oC (fun _ => none) → (∀ b o, s₂.heap.get? b = some o → h.get? b = some o) →
    codeAny (model prog w) A (.compStart e 0 it (.ref D) (compEnvC scope cl C env)) (COut h₀ L m C D s₂ Q) { s₂ with heap := h }
theorem fresh0 {h : Heap} (F : Fr h₀ L h m) {a : Addr} (ha : h.objs.size ≤ a) : h₀.get? a = none ∧ a ≠ L := by
  refine ⟨?_, fun e => ?_⟩
  · cases e : h₀.get? a with
    | none => rfl
    | some o => exact absurd (Heap.lt_size (F.keep a o e)) (Nat.not_lt.mpr ha)
  · rw [e] at ha; exact absurd F.ns.lt (Nat.not_lt.mpr ha)
theorem comp_in {elt t i : Expr} {gs : List Comprehension} {ifs : List Expr} {scope : Scope} {cl : List (Str × Addr)} {pos : Pos} {Q : Value → Shared → Prop} (_F : Fr h₀ L s.heap m)
    (hclos : closureFor scope env = pure cl) (hcell : ∀ y ∈ scope.names, y.2 ≠ .cell) (hkind : scope.kind = .function) (hnames : ∀ y ∈ scope.names, y.2 = .local → scope.names.lookup y.1 = some .local)
    (h : wpAny (model prog w) A (eval i env) (fun xv s₁ => wpAny (model prog w) A (pyIter xv) (CIn prog w A h₀ L m (.ListComp elt (⟨t, i, ifs, 0⟩ :: gs) scope pos) scope cl env Q) E s₁) E s)
    (hs : ∀ x, foldedSetIterable i env x = pure x := by intro _; rfl) :
    wpAny (model prog w) A (eval (.ListComp elt (⟨t, i, ifs, 0⟩ :: gs) scope pos) env) Q E s := by
  rw [eval_ListComp]
  refine wpAny_comprehension_free (use := none) rfl hs hclos hkind hnames (wpAny_mono h (fun xv s₁ h₁ => wpAny_mono h₁ (fun it s₂ h₂ => ?_) fun _ _ e => e) fun _ _ e => e)
  obtain ⟨news, F, N, k⟩ := h₂
  refine wpAny_newObj_type (wpAny_newFunctionEnv hcell (by intro y hy; simp at hy) (fun h₁ hns₁ hsb₁ => ?_) hkind)
  dsimp only at hns₁ hsb₁ ⊢
  generalize hH2 : s₂.heap.push { cls := .type "list", dict := none, data := .seq ([] : List Value).toArray } = H2 at hns₁ hsb₁ ⊢
  have hC : H2.objs.size = s₂.heap.objs.size + 1 := by rw [← hH2, Heap.size_push]
  have hDC : s₂.heap.objs.size < H2.objs.size := by rw [hC]; exact Nat.lt_succ_self _
  have old : ∀ b o, s₂.heap.get? b = some o → h₁.get? b = some o := fun b o e => hsb₁.extBut b o (Nat.ne_of_lt (Nat.lt_trans (Heap.lt_size e) hDC)) (Heap.get?_push_of_some _ (hH2 ▸ Heap.get?_push_of_some _ e))
  have hacc : h₁.get? s₂.heap.objs.size = some (LCg.lst []) := hsb₁.extBut _ _ (Nat.ne_of_lt hDC) (Heap.get?_push_of_some _ (hH2 ▸ Heap.get?_push_size _ rfl))
  have fD := fresh0 F (a := s₂.heap.objs.size) (Nat.le_refl _)
  have fC := fresh0 F (a := H2.objs.size) (Nat.le_of_lt hDC)
  obtain ⟨oC, heC, hoC⟩ := LCg.ns_obj hns₁
  refine codeAny_mono (k s₂.heap.objs.size H2.objs.size h₁ oC (fun p hp => Heap.lt_size (N p hp).1) (Nat.le_refl _) hDC (F.keeps old) (fun p hp => ?_) hoC old) fun r s' hr => hr.post
  rcases List.mem_cons.mp hp with rfl | hp
  · exact ⟨heC, fC.2, fC.1⟩
  rcases List.mem_cons.mp hp with rfl | hp
  · exact ⟨hacc, fD.2, fD.1⟩
  · exact ⟨old _ _ (N p hp).1, (N p hp).2⟩
noncomputable def CIn1 (prog : Program) (w : World) (A : Around) (h₀ : Heap) (L : Addr) (m : Str → Option Value) (e : Expr) (scope : Scope) (x : Str) (env : Env) (Q : Value → Shared → Prop) (it : Value) (s₂ : Shared) : Prop :=
  ∃ news, Fr h₀ L s₂.heap m ∧ News h₀ L s₂.heap news ∧ ∀ D C c h oC oc, (∀ p ∈ news, p.1 < D) → s₂.heap.objs.size ≤ D → D < C → C < c → Fr h₀ L h m → News h₀ L h ((C, oC) :: (D, LCg.lst []) :: (c, oc) :: news) → LCg.NsObj oC (fun _ => none) → oc.data = .cell none → oc.cls = .type "cell" → (∀ b o, s₂.heap.get? b = some o → h.get? b = some o) →
    codeAny (model prog w) A (.compStart e 0 it (.ref D) (compEnvC scope [(x, c)] C env)) (COut h₀ L m C D s₂ Q) { s₂ with heap := h }
theorem comp_in1 {elt t i : Expr} {gs : List Comprehension} {scope : Scope} {x : Str} {pos : Pos} {Q : Value → Shared → Prop} (_F : Fr h₀ L s.heap m)
    (hclos : closureFor scope env = pure []) (hkind : scope.kind = .function) (hnames : ∀ y ∈ scope.names, y.2 = .local → scope.names.lookup y.1 = some .local)
    (hnew : newFunctionEnv scope env.globals [] [] env.qual none .none (some env) = (alloc { cls := .type "dict", data := .dict #[] } >>= fun C => alloc { cls := .type "cell", data := .cell none } >>= fun c => pure { scope, locals := C, globals := env.globals, cells := [(x, c)], qual := env.qual, func := none, code := env.code, frame := env.frame, builtins := env.builtins }))
    (h : wpAny (model prog w) A (eval i env) (fun xv s₁ => wpAny (model prog w) A (pyIter xv) (CIn1 prog w A h₀ L m (.ListComp elt (⟨t, i, [], 0⟩ :: gs) scope pos) scope x env Q) E s₁) E s)
    (hs : ∀ x, foldedSetIterable i env x = pure x := by intro _; rfl) :
    wpAny (model prog w) A (eval (.ListComp elt (⟨t, i, [], 0⟩ :: gs) scope pos) env) Q E s := by
  rw [eval_ListComp]
  refine wpAny_comprehension_free (use := none) rfl hs hclos hkind hnames (wpAny_mono h (fun xv s₁ h₁ => wpAny_mono h₁ (fun it s₂ h₂ => ?_) fun _ _ e => e) fun _ _ e => e)
  obtain ⟨news, F, N, k⟩ := h₂
  refine wpAny_newObj_type ?_
  rw [hnew]
  refine wpAny_bind (wpAny_alloc (wpAny_bind (wpAny_alloc (wpAny_pure ?_))))
  dsimp only
  generalize hH2 : s₂.heap.push { cls := .type "list", dict := none, data := .seq ([] : List Value).toArray } = H2
  have hC : H2.objs.size = s₂.heap.objs.size + 1 := by rw [← hH2, Heap.size_push]
  generalize hH3 : H2.push { cls := .type "dict", data := .dict #[] } = H3
  have hc : H3.objs.size = s₂.heap.objs.size + 2 := by rw [← hH3, Heap.size_push, hC]
  have old2 : ∀ b o, s₂.heap.get? b = some o → H2.get? b = some o := fun b o e => hH2 ▸ Heap.get?_push_of_some _ e
  have old3 : ∀ b o, H2.get? b = some o → H3.get? b = some o := fun b o e => hH3 ▸ Heap.get?_push_of_some _ e
  have old4 : ∀ b o, H3.get? b = some o → (H3.push { cls := .type "cell", data := .cell none }).get? b = some o := fun b o e => Heap.get?_push_of_some _ e
  have old : ∀ b o, s₂.heap.get? b = some o → (H3.push { cls := .type "cell", data := .cell none }).get? b = some o := fun b o e => old4 b o (old3 b o (old2 b o e))
  have hD2 : H2.get? s₂.heap.objs.size = some (LCg.lst []) := hH2 ▸ Heap.get?_push_size _ rfl
  have hC3 : H3.get? H2.objs.size = some { cls := .type "dict", data := .dict #[] } := hH3 ▸ Heap.get?_push_size _ rfl
  have hc4 : (H3.push { cls := .type "cell", data := .cell none }).get? H3.objs.size = some { cls := .type "cell", data := .cell none } := Heap.get?_push_size _ rfl
  have fD := fresh0 F (a := s₂.heap.objs.size) (Nat.le_refl _)
  have fC := fresh0 F (a := H2.objs.size) (by rw [hC]; exact Nat.le_succ _)
  have fc := fresh0 F (a := H3.objs.size) (by rw [hc]; exact Nat.le_add_right _ _)
  refine codeAny_mono (k s₂.heap.objs.size H2.objs.size H3.objs.size _ { cls := .type "dict", data := .dict #[] } { cls := .type "cell", data := .cell none } (fun p hp => Heap.lt_size (N p hp).1) (Nat.le_refl _) (by rw [hC]; exact Nat.lt_succ_self _) (by rw [hC, hc]; exact Nat.lt_succ_self _) (F.keeps old) (fun p hp => ?_) ⟨#[], 0, rfl, ?_, ?_⟩ rfl rfl old) fun r s' hr => hr.post
  · rcases List.mem_cons.mp hp with rfl | hp
    · exact ⟨old4 _ _ hC3, fC.2, fC.1⟩
    rcases List.mem_cons.mp hp with rfl | hp
    · exact ⟨old4 _ _ (old3 _ _ hD2), fD.2, fD.1⟩
    rcases List.mem_cons.mp hp with rfl | hp
    · exact ⟨hc4, fc.2, fc.1⟩
    · exact ⟨old _ _ (N p hp).1, (N p hp).2⟩
  · intro e he; simp at he
  · intro _; rfl
end

open PySem PySem.W PyProof.Rows PySem.Calls
noncomputable def EEnd (h₀ : Heap) (L : Addr) (m : Str → Option Value) (wr : List Addr) (C D : Addr) (pre : List (Addr × Obj)) (s₁ : Shared) (J : List Value → List (Addr × Obj) → Prop) (ys : List Value) (y : Value) (s₂ : Shared) : Prop :=
  ∃ h' tk' nw', s₂ = { s₁ with heap := h', toks := tk' } ∧ Fr h₀ L h' m ∧ News h₀ L h' (pre ++ nw') ∧ ApartC wr C D nw' ∧ J (ys ++ [y]) nw'
section
variable {prog : Program} {w : World} {A : Around} {E : Value → Shared → Prop} {s : Shared} {env : Env} {h₀ : Heap} {L : Addr} {m : Str → Option Value}
theorem own_one {a : Addr} : ∀ {own : List (Addr × Obj)}, own.map (·.1) = [a] → ∃ o, own = [(a, o)]
  | [], h => by simp at h
  | [(b, o)], h => by simp at h; exact ⟨o, by rw [h]⟩
  | _ :: _ :: _, h => by simp at h
theorem own_two {a b : Addr} : ∀ {own : List (Addr × Obj)}, own.map (·.1) = [a, b] → ∃ o o', own = [(a, o), (b, o')]
  | [], h => by simp at h
  | [_], h => by simp at h
  | [(c, o), (d, o')], h => by simp at h; exact ⟨o, o', by rw [h.1, h.2]⟩
  | _ :: _ :: _ :: _, h => by simp at h
theorem apart0 {wr : List Addr} {C D : Addr} {nw : List (Addr × Obj)} (h : ∀ p ∈ nw, ∀ b ∈ wr, @LT.lt Nat _ p.1 b) (hD : ∀ p ∈ nw, @LT.lt Nat _ p.1 D) (hC : @LT.lt Nat _ D C) : ApartC wr C D nw := fun p hp =>
  ⟨fun hm => Nat.lt_irrefl _ (h p hp _ hm), Nat.ne_of_lt (Nat.lt_trans (hD p hp) hC), Nat.ne_of_lt (hD p hp)⟩
theorem enum_in {elt : Expr} {x y : Str} {px py tp pos : Pos} {kk : Nat} {iter : Expr} {scope : Scope} {cl : List (Str × Addr)} {Q : Value → Shared → Prop} {news : List (Addr × Obj)} {l : Addr} {lo : Obj} {vs : List Value} {c : Nat}
    (hh : A.handled = none) (hx : scope.names.lookup x = some .local) (hy : scope.names.lookup y = some .local) (hxy : x ≠ y) (hk : scope.kind = .function) (F : Fr h₀ L s.heap m) (N : News h₀ L s.heap news) (hl : (l, lo) ∈ news) (hc : lo.cls = .type "list") (hd : lo.data = .seq vs.toArray c) (hz : vs.length ≤ sizeLine)
    (J : Nat → List Value → List (Addr × Obj) → Prop) (hJ : ∀ i ys nw, J i ys nw → (l, lo) ∈ nw ∧ ys.length = i) (j0 : J 0 [] news)
    (step : ∀ (Ex : Value → Shared → Prop) i v e it oe oi C D oC m₂ ys nw h tk t, vs[i]? = some v → J i ys nw → LCg.NsObj oC m₂ → m₂ x = some (.int (i : Int) t) → m₂ y = some v → Fr h₀ L h m → News h₀ L h ([(e, oe), (it, oi), (C, oC), (D, LCg.lst ys)] ++ nw) → ApartC [e, it] C D nw →
      wpAny (model prog w) A (eval elt (compEnvC scope cl C env)) (EEnd h₀ L m [e, it] C D [(e, oe), (it, oi), (C, oC), (D, LCg.lst ys)] { s with heap := h, toks := tk } (J (i + 1)) ys) Ex { s with heap := h, toks := tk })
    (fin : ∀ D ys nw h tk, (∀ p ∈ news, p.1 < D) → J vs.length ys nw → Fr h₀ L h m → News h₀ L h ((D, LCg.lst ys) :: nw) → Q (.ref D) { s with heap := h, toks := tk }) :
    wpAny (model prog w) A (call (.type "enumerate") [.ref l]) (fun xv s₁ => wpAny (model prog w) A (pyIter xv) (CIn prog w A h₀ L m (.ListComp elt [⟨.Tuple [.Name x px, .Name y py] kk tp, iter, [], 0⟩] scope pos) scope cl env Q) E s₁) E s := by
  have hax := N _ hl
  have hL : s.heap.IsList l vs.toArray := ⟨lo, hax.1, hc, c, hd⟩
  have hlt : @LT.lt Nat _ l s.heap.objs.size := Heap.lt_size hax.1
  refine call_enumerate_list hL fun h' hE hI hsz hkp => ?_
  refine wpAny_pyIter_enum hE ⟨news, F.keeps hkp, N.grown hkp, fun D C h oC lD hDs hDC F' N' hC hk2 => ?_⟩
  have f1 := fresh0 F (a := s.heap.objs.size) (Nat.le_refl _)
  have f2 := fresh0 F (a := s.heap.objs.size + 1) (Nat.le_succ _)
  have g1 : @LT.lt Nat _ (s.heap.objs.size + 1) D := by
    have q : @LE.le Nat _ h'.objs.size D := hDs
    have hsz' : @Eq Nat h'.objs.size (s.heap.objs.size + 2) := hsz
    rw [hsz'] at q; exact q
  have W := KTurns.ofWalksU (elts := [.Name x px, .Name y py]) (k := kk) (pos := tp) (WalksT.enumerate (prog := prog) (w := w) hh (s.heap.objs.size + 1) s.heap.objs.size l (Nat.succ_ne_self _) (Nat.ne_of_lt (Nat.lt_succ_of_lt hlt)) (Nat.ne_of_lt hlt) vs.toArray).toU
  have hn : vs.toArray.size = vs.length := by simp
  rw [hn] at W
  have loop : codeAny (model prog w) A (.compLoop (.ListComp elt [⟨.Tuple [.Name x px, .Name y py] kk tp, iter, [], 0⟩] scope pos) 0 (.ref (s.heap.objs.size + 1)) (.ref D) (compEnvC scope cl C env)) (COut h₀ L m C D { s with heap := h' } Q) { s with heap := h, toks := s.toks } := by
    refine comp_led (src := [(l, lo)]) (s₁ := s) (turn1 ..) W ?_ ?_ ?_ (fun i ys _ nw => J i ys nw) ?_ ?_ ?_ ?_ j0 hC F' N' ?_
    · intro b hb
      have hb' : b = s.heap.objs.size + 1 ∨ b = s.heap.objs.size ∨ b = l := by simpa using hb
      rcases hb' with rfl | rfl | rfl
      · exact .inl (.head _)
      · exact .inl (.tail _ (.head _))
      · exact .inr (.inl (by simp))
    · rintro i h ⟨⟨old, he⟩, ⟨oi, hoi, _⟩, _⟩ b hb
      have hb' : b = s.heap.objs.size + 1 ∨ b = s.heap.objs.size := by simpa using hb
      rcases hb' with rfl | rfl
      · exact ⟨_, he⟩
      · exact ⟨_, hoi⟩
    · intro b hb
      have hb' : b = s.heap.objs.size + 1 ∨ b = s.heap.objs.size := by simpa using hb
      rcases hb' with rfl | rfl
      · exact ⟨f2.1, f2.2, Nat.ne_of_lt (Nat.lt_trans g1 hDC), Nat.ne_of_lt g1⟩
      · exact ⟨f1.1, f1.2, Nat.ne_of_lt (Nat.lt_trans (Nat.lt_trans (Nat.lt_succ_self _) g1) hDC), Nat.ne_of_lt (Nat.lt_trans (Nat.lt_succ_self _) g1)⟩
    · intro i ys _ nw hj p hp
      rw [List.mem_singleton.mp hp]; exact (hJ _ _ _ hj).1
    · rintro Ex i v own oC m₂ ys nw h tk hi ⟨T, vals, rfl, ⟨t, vi, hvi, rfl⟩, hT⟩ hj hown hC2 F2 N2 ap
      obtain ⟨oe, oi, rfl⟩ := own_two hown
      have hoC : ∀ p ∈ [(s.heap.objs.size + 1, oe), (s.heap.objs.size, oi)], p.1 ≠ C := fun p hp => by
        rcases List.mem_cons.mp hp with rfl | hp
        · exact Nat.ne_of_lt (Nat.lt_trans g1 hDC)
        · rw [List.mem_singleton.mp hp]; exact Nat.ne_of_lt (Nat.lt_trans (Nat.lt_trans (Nat.lt_succ_self _) g1) hDC)
      refine asg_pair hh hx hy hk hT F2 N2 hC2 hoC (fun p hp => ?_) fun h3 oC3 tk3 F3 N3 hC3 => ?_
      · rcases List.mem_cons.mp hp with rfl | hp
        · exact Nat.ne_of_lt hDC
        · exact (ap p hp).2.1
      refine tail_led (wr := [s.heap.objs.size + 1, s.heap.objs.size]) (own := [(s.heap.objs.size + 1, oe), (s.heap.objs.size, oi)]) (J := fun ys _ nw => J (i + 1) ys nw) (ys := ys) (D := D) (C := C) ?_ (Nat.ne_of_gt hDC) rfl (by rw [(hJ _ _ _ hj).2]; exact Nat.le_trans (Nat.le_of_lt hi) hz) ?_
      · intro hm
        have hb' : D = s.heap.objs.size + 1 ∨ D = s.heap.objs.size := by simpa using hm
        rcases hb' with rfl | rfl
        · exact Nat.lt_irrefl _ g1
        · exact Nat.lt_irrefl _ (Nat.lt_trans (Nat.lt_succ_self _) g1)
      refine wpAny_mono (step _ i vi _ _ oe oi C D oC3 _ ys nw h3 tk3 t (by simpa using hvi) hj hC3 (by simp [hxy]) (by simp) F3 N3 ap) (fun yv s₂ h₂ => ?_) fun _ _ e => e
      obtain ⟨h4, tk4, nw4, rfl, F4, N4, ap4, hj4⟩ := h₂
      exact ⟨h4, tk4, oC3, _, nw4, rfl, F4, N4, hC3, ap4, hj4⟩
    · intro oC m₂ ys nw h tk hj hC2 F2 N2 ap
      exact ⟨rfl, h, tk, oC, m₂, ys, nw, rfl, F2, N2, hC2, Nat.ne_of_gt hDC, fun p hp => (ap p hp).2.1, fun h'' F'' N'' => fin D ys nw h'' tk lD hj F'' N''⟩
    · exact ⟨⟨.none, hk2 _ _ hE⟩, hI.at fun o e => hk2 _ o e, hL.at fun o e => hk2 _ o (hkp _ o e)⟩
    · exact apart0 (fun p hp b hb => by
        have hb' : b = s.heap.objs.size + 1 ∨ b = s.heap.objs.size := by simpa using hb
        have := Heap.lt_size (N p hp).1
        rcases hb' with rfl | rfl
        · exact Nat.lt_succ_of_lt this
        · exact this) (fun p hp => lD p hp) hDC
  exact codeAny_compStart_list loop (wpAny_pyIter_enum (hk2 _ _ hE) loop)
end

open PySem PySem.W PyProof.Rows PySem.Calls
noncomputable def NEnd (prog : Program) (w : World) (A : Around) (h₀ : Heap) (L : Addr) (m : Str → Option Value) (wr : List Addr) (C D : Addr) (own : List (Addr × Obj)) (s₁ : Shared) (J : List Value → List (Addr × Obj) → Prop) (e : Expr) (cenv : Env) (it : Value) (s₂ : Shared) : Prop :=
  codeAny (model prog w) A (.compStart e 1 it (.ref D) cenv) (fun r s₃ => r = .ok .next ∧ CEnd h₀ L m wr C D own s₁ (fun ys _ nw => J ys nw) s₃) s₂
section
variable {prog : Program} {w : World} {A : Around} {E : Value → Shared → Prop} {s : Shared} {env : Env} {h₀ : Heap} {L : Addr} {m : Str → Option Value}
theorem inner_list {elt t1 i1 i2 : Expr} {y : Str} {py pos : Pos} {scope : Scope} {cl : List (Str × Addr)} {I C D l : Addr} {oI oC lo : Obj} {m₀ : Str → Option Value} {ys₀ vs : List Value} {c : Nat} {nw₀ : List (Addr × Obj)} {h₁ : Heap} {tk₁ : Nat} {J1 : List Value → List (Addr × Obj) → Prop}
    (hh : A.handled = none) (hy : scope.names.lookup y = some .local) (hk : scope.kind = .function) (F : Fr h₀ L h₁ m) (N : News h₀ L h₁ ([(I, oI), (C, oC), (D, LCg.lst ys₀)] ++ nw₀)) (hl : (l, lo) ∈ nw₀) (hc : lo.cls = .type "list") (hd : lo.data = .seq vs.toArray c)
    (hC : LCg.NsObj oC m₀) (hIC : @Ne Nat I C) (hID : @Ne Nat I D) (hCD : @Ne Nat C D) (fI : h₀.get? I = none ∧ I ≠ L) (ap : ApartC [I] C D nw₀)
    (J : Nat → List Value → List (Addr × Obj) → Prop) (hJ : ∀ i ys nw, J i ys nw → (l, lo) ∈ nw ∧ ys.length ≤ sizeLine) (j0 : J 0 ys₀ nw₀)
    (step : ∀ (Ex : Value → Shared → Prop) i v I2 oI2 oC m₂ ys nw h tk, vs[i]? = some v → J i ys nw → LCg.NsObj oC m₂ → m₂ y = some v → (∀ x z, x ≠ y → m₀ x = some z → m₂ x = some z) → Fr h₀ L h m → News h₀ L h ([(I2, oI2), (C, oC), (D, LCg.lst ys), (I, oI)] ++ nw) → ApartC [I2, I] C D nw →
      wpAny (model prog w) A (eval elt (compEnvC scope cl C env)) (EEnd h₀ L m [I2, I] C D [(I2, oI2), (C, oC), (D, LCg.lst ys), (I, oI)] { s with heap := h, toks := tk } (J (i + 1)) ys) Ex { s with heap := h, toks := tk })
    (fin : ∀ ys nw, J vs.length ys nw → J1 ys nw) :
    wpAny (model prog w) A (pyIter (.ref l)) (NEnd prog w A h₀ L m [I] C D [(I, oI)] s J1 (.ListComp elt [⟨t1, i1, [], 0⟩, ⟨.Name y py, i2, [], 0⟩] scope pos) (compEnvC scope cl C env)) E { s with heap := h₁, toks := tk₁ } := by
  have hax := N (l, lo) (List.mem_append_right _ hl)
  have hL : h₁.IsList l vs.toArray := ⟨lo, hax.1, hc, c, hd⟩
  have hlt : @LT.lt Nat _ l h₁.objs.size := Heap.lt_size hax.1
  refine wpAny_pyIter_list (s := { s with heap := h₁, toks := tk₁ }) hL ?_
  have up : ∀ b o, h₁.get? b = some o → (h₁.push { cls := .type "list_iterator", data := .fields #[.ref l, .int 0 0] }).get? b = some o := fun b o e => Heap.get?_push_of_some _ e
  have st0 : (h₁.push { cls := .type "list_iterator", data := .fields #[.ref l, .int 0 0] }).IsListIter h₁.objs.size l 0 := ⟨_, Heap.get?_push_size _ rfl, rfl, rfl⟩
  have f2 := fresh0 F (a := h₁.objs.size) (Nat.le_refl _)
  have lt : ∀ p ∈ [(I, oI), (C, oC), (D, LCg.lst ys₀)] ++ nw₀, @LT.lt Nat _ p.1 h₁.objs.size := fun p hp => Heap.lt_size (N p hp).1
  have lI := lt (I, oI) (.head _)
  have lC := lt (C, oC) (.tail _ (.head _))
  have lD := lt (D, LCg.lst ys₀) (.tail _ (.tail _ (.head _)))
  have W := KTurns.ofWalks (target := .Name y py) (Walks.list (prog := prog) (w := w) hh h₁.objs.size l (Nat.ne_of_lt hlt) vs.toArray) fun i v s Q E st q => letGo_listiter st.1 q
  have hn : vs.toArray.size = vs.length := by simp
  rw [hn] at W
  have loop : codeAny (model prog w) A (.compLoop (.ListComp elt [⟨t1, i1, [], 0⟩, ⟨.Name y py, i2, [], 0⟩] scope pos) 1 (.ref h₁.objs.size) (.ref D) (compEnvC scope cl C env)) (fun r s₃ => r = .ok .next ∧ CEnd h₀ L m [I] C D [(I, oI)] s (fun ys _ nw => J1 ys nw) s₃) { s with heap := h₁.push { cls := .type "list_iterator", data := .fields #[.ref l, .int 0 0] }, toks := tk₁ } := by
    refine comp_led (C := C) (D := D) (src := [(l, lo)]) (s₁ := s) (turn2b ..) W ?_ ?_ ?_ (fun i ys m₂ nw2 => ∃ nw, nw2 = (I, oI) :: nw ∧ J i ys nw ∧ (∀ x z, x ≠ y → m₀ x = some z → m₂ x = some z) ∧ ApartC [I] C D nw) ?_ ?_ ?_ ?_ ⟨nw₀, rfl, j0, fun _ _ _ e => e, ap⟩ hC (F.keeps up) (N := fun p hp => ?_) ?_
    · intro b hb
      have hb' : b = h₁.objs.size ∨ b = l := by simpa using hb
      rcases hb' with rfl | rfl
      · exact .inl (.head _)
      · exact .inr (.inl (by simp))
    · rintro i h ⟨⟨oi, hoi, _⟩, _⟩ b hb
      rw [List.mem_singleton.mp hb]; exact ⟨_, hoi⟩
    · intro b hb
      rw [List.mem_singleton.mp hb]
      exact ⟨f2.1, f2.2, Nat.ne_of_gt lC, Nat.ne_of_gt lD⟩
    · rintro i ys _ _ ⟨nw, rfl, hj, _⟩ p hp
      rw [List.mem_singleton.mp hp]; exact .tail _ (hJ _ _ _ hj).1
    · rintro Ex i v own oC m₂ ys _ h tk hi hv ⟨nw, rfl, hj, hm, ap1⟩ hown hC2 F2 N2 ap2
      obtain ⟨oI2, rfl⟩ := own_one hown
      refine asg_name hy hk F2 N2 hC2 (fun p hp => ?_) (fun p hp => ?_) fun h3 oC3 tk3 F3 N3 hC3 => ?_
      · rw [List.mem_singleton.mp hp]; exact Nat.ne_of_gt lC
      · rcases List.mem_cons.mp hp with rfl | hp
        · exact hCD.symm
        · exact (ap2 p hp).2.1
      have hm' : ∀ x z, x ≠ y → m₀ x = some z → (if x = y then some v else m₂ x) = some z := fun x z hne e => by rw [if_neg hne]; exact hm x z hne e
      refine tail_led (wr := [h₁.objs.size]) (own := [(h₁.objs.size, oI2)]) (J := fun ys m₂ nw2 => ∃ nw, nw2 = (I, oI) :: nw ∧ J (i + 1) ys nw ∧ (∀ x z, x ≠ y → m₀ x = some z → m₂ x = some z) ∧ ApartC [I] C D nw) (ys := ys) (D := D) (C := C) (fun hm => Nat.ne_of_lt lD (List.mem_singleton.mp hm)) hCD rfl (hJ _ _ _ hj).2 ?_
      refine wpAny_mono (step _ i v h₁.objs.size oI2 oC3 _ ys nw h3 tk3 (by simpa using hv) hj hC3 (by simp) hm' F3 N3 (fun p hp => ?_)) (fun yv s₂ h₂ => ?_) fun _ _ e => e
      · have q1 := ap2 p (.tail _ hp)
        have q2 := ap1 p hp
        exact ⟨fun hm => by rcases List.mem_cons.mp hm with e | hm; exact q1.1 (by rw [e]; exact .head _); exact q2.1 hm, q2.2⟩
      obtain ⟨h4, tk4, nw4, rfl, F4, N4, ap4, hj4⟩ := h₂
      refine ⟨h4, tk4, oC3, _, (I, oI) :: nw4, rfl, F4, N4, hC3, fun p hp => ?_, nw4, rfl, hj4, hm', fun p hp => ⟨fun hm => (ap4 p hp).1 (.tail _ hm), (ap4 p hp).2⟩⟩
      rcases List.mem_cons.mp hp with rfl | hp
      · exact ⟨fun hm => Nat.ne_of_lt lI (List.mem_singleton.mp hm), hIC, hID⟩
      · exact ⟨fun hm => (ap4 p hp).1 (by rw [List.mem_singleton.mp hm]; exact .head _), (ap4 p hp).2⟩
    · rintro oC m₂ ys _ h tk ⟨nw, rfl, hj, hm, ap1⟩ hC2 F2 N2 ap2
      refine ⟨rfl, h, tk, oC, m₂, ys, nw, rfl, F2, fun p hp => N2 p ?_, hC2, ap1, fin _ _ hj⟩
      simp only [List.cons_append, List.nil_append, List.mem_cons] at hp ⊢
      rcases hp with h | h | h | h
      · exact .inr (.inr (.inl h))
      · exact .inl h
      · exact .inr (.inl h)
      · exact .inr (.inr (.inr h))
    · exact ⟨st0, hL.at fun o e => up _ o e⟩
    · have hp' : p ∈ [(I, oI), (C, oC), (D, LCg.lst ys₀)] ++ nw₀ := by
        simp only [List.cons_append, List.nil_append, List.mem_cons] at hp ⊢
        rcases hp with h | h | h | h
        · exact .inr (.inl h)
        · exact .inr (.inr (.inl h))
        · exact .inl h
        · exact .inr (.inr (.inr h))
      exact ⟨up _ _ (N p hp').1, (N p hp').2⟩
    · intro p hp
      rcases List.mem_cons.mp hp with rfl | hp
      · exact ⟨fun hm => Nat.ne_of_lt lI (List.mem_singleton.mp hm), hIC, hID⟩
      · exact ⟨fun hm => Nat.ne_of_lt (lt p (List.mem_append_right _ hp)) (List.mem_singleton.mp hm), (ap p hp).2⟩
  exact comp_start1 loop fun N => wpAny_pyIter_listiter st0 loop
end

open PySem PySem.W PyProof.Rows PySem.Calls
section
variable {prog : Program} {w : World} {A : Around} {E : Value → Shared → Prop} {s : Shared} {env : Env} {h₀ : Heap} {L : Addr} {m : Str → Option Value}
theorem asg_cell {scope : Scope} {C c : Addr} {y : Str} {py : Pos} {v : Value} {v₀ : Option Value} {pre rest : List (Addr × Obj)} {oc : Obj} {Q : Unit → Shared → Prop}
    (hy : (compEnvC scope [(y, c)] C env).kindOf y = some .cell) (hk : scope.kind = .function) (F : Fr h₀ L s.heap m) (N : News h₀ L s.heap (pre ++ (c, oc) :: rest)) (hd : oc.data = .cell v₀) (hp : ∀ p ∈ pre, p.1 ≠ c) (hr : ∀ p ∈ rest, p.1 ≠ c)
    (h : ∀ h' oc', Fr h₀ L h' m → News h₀ L h' (pre ++ (c, oc') :: rest) → oc'.data = .cell (some v) → Q () { s with heap := h' }) :
    wpAny (model prog w) A (assign (.Name y py) (compEnvC scope [(y, c)] C env) v) Q E s := by
  have hm := N (c, oc) (List.mem_append_right _ (.head _))
  refine wpAny_assign_Name (wpAny_storeName_cell (c := c) (v₀ := v₀) (by simp [compEnvC, relabel, hk]) hy (by simp [compEnvC]) ⟨oc, hm.1, hd⟩ fun h' hv hs => ?_)
  obtain ⟨oc', e, hd'⟩ := hv
  refine h h' oc' (F.change hs hm.2.1 hm.2.2) (fun p hp' => ?_) hd'
  rcases List.mem_append.mp hp' with hp' | hp'
  · have z := N p (List.mem_append_left _ hp')
    exact ⟨hs.extBut _ _ (hp p hp') z.1, z.2⟩
  rcases List.mem_cons.mp hp' with rfl | hp'
  · exact ⟨e, hm.2⟩
  · have z := N p (List.mem_append_right _ (.tail _ hp'))
    exact ⟨hs.extBut _ _ (hr p hp') z.1, z.2⟩
noncomputable def CellJ (c : Addr) (J : List Value → List (Addr × Obj) → Prop) (ys : List Value) (nw' : List (Addr × Obj)) : Prop := ∃ oc v nw, nw' = (c, oc) :: nw ∧ oc.data = .cell v ∧ (∀ p ∈ nw, p.1 ≠ c) ∧ J ys nw
theorem outer_tuple {elt i1 t2 i2 : Expr} {x z y : Str} {px pz tp pos : Pos} {kk : Nat} {scope : Scope} {Q : Value → Shared → Prop} {news : List (Addr × Obj)} {l : Addr} {lo : Obj} {vs : List Value} {n : Nat} {prs : List (Value × Value)}
    (hh : A.handled = none) (hx : scope.names.lookup x = some .local) (hz : scope.names.lookup z = some .local) (hxz : x ≠ z) (hk : scope.kind = .function) (F : Fr h₀ L s.heap m) (N : News h₀ L s.heap news) (hl : (l, lo) ∈ news) (hc : lo.cls = .type "tuple") (hd : lo.data = .seq vs.toArray n)
    (hs2 : ∀ C c x, foldedSetIterable i2 (compEnvC scope [(y, c)] C env) x = pure x)
    (J : Nat → List Value → List (Addr × Obj) → Prop) (hJ : ∀ i ys nw, J i ys nw → (l, lo) ∈ nw ∧ ∀ (j : Nat) (v : Value), vs[j]? = some v → ∃ T a b, v = .ref T ∧ prs[j]? = some (a, b) ∧ (T, tupO a b) ∈ nw) (j0 : J 0 [] news)
    (step : ∀ (Ex : Value → Shared → Prop) i a b I oI C D c oC oc v₀ m₂ ys nw h tk, prs[i]? = some (a, b) → J i ys nw → LCg.NsObj oC m₂ → m₂ x = some a → m₂ z = some b → @Ne Nat I C → @Ne Nat I D → @Ne Nat C D → @Ne Nat c I → @Ne Nat c C → @Ne Nat c D → oc.data = .cell v₀ →
      Fr h₀ L h m → News h₀ L h ([(I, oI), (C, oC), (D, LCg.lst ys), (c, oc)] ++ nw) → ApartC [I] C D nw → (∀ p ∈ nw, p.1 ≠ c) →
      wpAny (model prog w) A (eval i2 (compEnvC scope [(y, c)] C env)) (fun xv s₁ => wpAny (model prog w) A (pyIter xv) (NEnd prog w A h₀ L m [I] C D [(I, oI)] s (CellJ c (J (i + 1))) (.ListComp elt [⟨.Tuple [.Name x px, .Name z pz] kk tp, i1, [], 0⟩, ⟨t2, i2, [], 0⟩] scope pos) (compEnvC scope [(y, c)] C env)) Ex s₁) Ex { s with heap := h, toks := tk })
    (fin : ∀ D ys nw h tk, J vs.length ys nw → Fr h₀ L h m → News h₀ L h ((D, LCg.lst ys) :: nw) → Q (.ref D) { s with heap := h, toks := tk }) :
    wpAny (model prog w) A (pyIter (.ref l)) (CIn1 prog w A h₀ L m (.ListComp elt [⟨.Tuple [.Name x px, .Name z pz] kk tp, i1, [], 0⟩, ⟨t2, i2, [], 0⟩] scope pos) scope y env Q) E s := by
  have hax := N _ hl
  have hL : s.heap.IsTuple l vs.toArray := ⟨lo, hax.1, hc, n, hd⟩
  have hlt : @LT.lt Nat _ l s.heap.objs.size := Heap.lt_size hax.1
  refine wpAny_pyIter_tuple hL ?_
  have up : ∀ b o, s.heap.get? b = some o → (s.heap.push { cls := .type "tuple_iterator", data := .fields #[.ref l, .int 0 0] }).get? b = some o := fun b o e => Heap.get?_push_of_some _ e
  have st0 : (s.heap.push { cls := .type "tuple_iterator", data := .fields #[.ref l, .int 0 0] }).IsTupleIter s.heap.objs.size l 0 := ⟨_, Heap.get?_push_size _ rfl, rfl, rfl⟩
  refine ⟨news, F.keeps up, N.grown up, fun D C c h oC oc lD hDs hDC hCc F' N' hC hdc hcc hk2 => ?_⟩
  have f1 := fresh0 F (a := s.heap.objs.size) (Nat.le_refl _)
  have g1 : @LT.lt Nat _ s.heap.objs.size D := by
    have q : @LE.le Nat _ (s.heap.push { cls := .type "tuple_iterator", data := .fields #[.ref l, .int 0 0] }).objs.size D := hDs
    rw [Heap.size_push] at q; exact q
  have W := KTurns.ofWalks (target := .Tuple [.Name x px, .Name z pz] kk tp) (Walks.tuple (prog := prog) (w := w) hh s.heap.objs.size l (Nat.ne_of_lt hlt) vs.toArray) fun i v s Q E st q => letGo_tupleiter st.1 q
  have hn : vs.toArray.size = vs.length := by simp
  rw [hn] at W
  have gIC := Nat.lt_trans g1 hDC
  have loop : codeAny (model prog w) A (.compLoop (.ListComp elt [⟨.Tuple [.Name x px, .Name z pz] kk tp, i1, [], 0⟩, ⟨t2, i2, [], 0⟩] scope pos) 0 (.ref s.heap.objs.size) (.ref D) (compEnvC scope [(y, c)] C env)) (COut h₀ L m C D { s with heap := s.heap.push { cls := .type "tuple_iterator", data := .fields #[.ref l, .int 0 0] } } Q) { s with heap := h, toks := s.toks } := by
    refine comp_led (src := [(l, lo)]) (s₁ := s) (turn2a ..) W ?_ ?_ ?_ (fun i ys _ nw => CellJ c (J i) ys nw) ?_ ?_ ?_ ?_ ⟨oc, none, news, rfl, hdc, fun p hp => Nat.ne_of_lt (Nat.lt_trans (lD p hp) (Nat.lt_trans hDC hCc)), j0⟩ hC F' N' ?_
    · intro b hb
      have hb' : b = s.heap.objs.size ∨ b = l := by simpa using hb
      rcases hb' with rfl | rfl
      · exact .inl (.head _)
      · exact .inr (.inl (by simp))
    · rintro i h ⟨⟨oi, hoi, _⟩, _⟩ b hb
      rw [List.mem_singleton.mp hb]; exact ⟨_, hoi⟩
    · intro b hb
      rw [List.mem_singleton.mp hb]
      exact ⟨f1.1, f1.2, Nat.ne_of_lt gIC, Nat.ne_of_lt g1⟩
    · rintro i ys _ _ ⟨_, _, nw, rfl, _, _, hj⟩ p hp
      rw [List.mem_singleton.mp hp]; exact .tail _ (hJ _ _ _ hj).1
    · rintro Ex i v own oC m₂ ys _ h tk hi hv ⟨oc, v₀, nw, rfl, hdc, hcn, hj⟩ hown hC2 F2 N2 ap
      obtain ⟨oI, rfl⟩ := own_one hown
      obtain ⟨T, a, b, rfl, hab, hT⟩ := (hJ _ _ _ hj).2 i v (by simpa using hv)
      have hTt : IsTup h T #[a, b] := ⟨_, (N2 _ (List.mem_append_right _ (.tail _ (.tail _ (.tail _ hT))))).1, rfl, _, rfl⟩
      refine asg_pair hh hx hz hk hTt F2 N2 hC2 (fun p hp => ?_) (fun p hp => ?_) fun h3 oC3 tk3 F3 N3 hC3 => ?_
      · rw [List.mem_singleton.mp hp]; exact Nat.ne_of_lt gIC
      · rcases List.mem_cons.mp hp with rfl | hp
        · exact Nat.ne_of_lt hDC
        · exact (ap p hp).2.1
      have apc := ap (c, oc) (.head _)
      exact tail_cl (hs2 C c) (step _ i a b s.heap.objs.size oI C D c oC3 oc v₀ _ ys nw h3 tk3 hab hj hC3 (by simp [hxz]) (by simp) (Nat.ne_of_lt gIC) (Nat.ne_of_lt g1) (Nat.ne_of_gt hDC) (fun e => apc.1 (List.mem_singleton.mpr e)) apc.2.1 apc.2.2 hdc F3 N3 (fun p hp => ap p (.tail _ hp)) hcn)
    · rintro oC m₂ ys _ h tk ⟨oc, v₀, nw, rfl, hdc, hcn, hj⟩ hC2 F2 N2 ap
      exact ⟨rfl, h, tk, oC, m₂, ys, _, rfl, F2, N2, hC2, Nat.ne_of_gt hDC, fun p hp => (ap p hp).2.1, fun h'' F'' N'' => fin D ys nw h'' tk hj F'' fun p hp => N'' p (by
        rcases List.mem_cons.mp hp with rfl | hp
        · exact .head _
        · exact .tail _ (.tail _ hp))⟩
    · exact ⟨st0.at fun o e => hk2 _ o e, hL.at fun o e => hk2 _ o (up _ o e)⟩
    · intro p hp
      rcases List.mem_cons.mp hp with rfl | hp
      · exact ⟨fun hm => Nat.ne_of_gt (Nat.lt_trans gIC hCc) (List.mem_singleton.mp hm), Nat.ne_of_gt hCc, Nat.ne_of_gt (Nat.lt_trans hDC hCc)⟩
      · exact apart0 (fun p hp b hb => by
          rw [List.mem_singleton.mp hb]; exact Heap.lt_size (N p hp).1) (fun p hp => lD p hp) hDC p hp
  exact codeAny_compStart_list loop (wpAny_pyIter_tupleiter (st0.at fun o e => hk2 _ o e) loop)
theorem inner_range {elt t1 i1 i2 : Expr} {y : Str} {py pos : Pos} {scope : Scope} {I C D c r : Addr} {oI oC oc : Obj} {v₀ : Option Value} {m₀ : Str → Option Value} {ys₀ : List Value} {nw₀ : List (Addr × Obj)} {h₁ : Heap} {tk₁ : Nat} {J1 : List Value → List (Addr × Obj) → Prop} {b : Int} {t u v : Tok} {n : Nat}
    (hh : A.handled = none) (hy : ∀ C, (compEnvC scope [(y, c)] C env).kindOf y = some .cell) (hk : scope.kind = .function) (hr : IsRange h₁ r 0 b 1 t u v) (hsm : Builtin.Range.small 0 b 1 = true) (hsz : Builtin.Range.rangeSize 0 b 1 = ((n : Nat) : Int))
    (F : Fr h₀ L h₁ m) (N : News h₀ L h₁ ([(I, oI), (C, oC), (D, LCg.lst ys₀), (c, oc)] ++ nw₀))
    (hC : LCg.NsObj oC m₀) (hIC : @Ne Nat I C) (hID : @Ne Nat I D) (hCD : @Ne Nat C D) (hcI : @Ne Nat c I) (hcC : @Ne Nat c C) (hcD : @Ne Nat c D) (hdc : oc.data = .cell v₀) (ap : ApartC [I] C D nw₀) (hcn : ∀ p ∈ nw₀, p.1 ≠ c)
    (J : Nat → List Value → List (Addr × Obj) → Prop) (hJ : ∀ i ys nw, i < n → J i ys nw → ys.length ≤ sizeLine) (j0 : J 0 ys₀ nw₀)
    (step : ∀ (Ex : Value → Shared → Prop) i I2 oI2 oC oc t ys nw h tk, i < n → J i ys nw → LCg.NsObj oC m₀ → oc.data = .cell (some (.int (i : Int) t)) → Fr h₀ L h m → News h₀ L h ([(I2, oI2), (C, oC), (D, LCg.lst ys), (I, oI), (c, oc)] ++ nw) → ApartC [I2, I, c] C D nw →
      wpAny (model prog w) A (eval elt (compEnvC scope [(y, c)] C env)) (EEnd h₀ L m [I2, I, c] C D [(I2, oI2), (C, oC), (D, LCg.lst ys), (I, oI), (c, oc)] { s with heap := h, toks := tk } (J (i + 1)) ys) Ex { s with heap := h, toks := tk })
    (fin : ∀ ys nw, J n ys nw → J1 ys nw) :
    wpAny (model prog w) A (pyIter (.ref r)) (NEnd prog w A h₀ L m [I] C D [(I, oI)] s (CellJ c J1) (.ListComp elt [⟨t1, i1, [], 0⟩, ⟨.Name y py, i2, [], 0⟩] scope pos) (compEnvC scope [(y, c)] C env)) E { s with heap := h₁, toks := tk₁ } := by
  refine wpAny_pyIter_range (s := { s with heap := h₁, toks := tk₁ }) hr hsm ?_
  dsimp only
  rw [hsz]
  have up : ∀ b o, h₁.get? b = some o → (h₁.push { cls := .type "range_iterator", data := .fields #[rawInt 0, rawInt (n : Int), rawInt 1] }).get? b = some o := fun b o e => Heap.get?_push_of_some _ e
  have st0 : IsRangeIter (h₁.push { cls := .type "range_iterator", data := .fields #[rawInt 0, rawInt (n : Int), rawInt 1] }) h₁.objs.size (0 + ((0 : Nat) : Int) * 1) ((n : Int) - ((0 : Nat) : Int)) 1 := by
    show Heap.get? _ _ = _
    simpa using Heap.get?_push_size _ rfl
  have f2 := fresh0 F (a := h₁.objs.size) (Nat.le_refl _)
  have lt : ∀ p ∈ [(I, oI), (C, oC), (D, LCg.lst ys₀), (c, oc)] ++ nw₀, @LT.lt Nat _ p.1 h₁.objs.size := fun p hp => Heap.lt_size (N p hp).1
  have lI := lt (I, oI) (.head _)
  have lC := lt (C, oC) (.tail _ (.head _))
  have lD := lt (D, LCg.lst ys₀) (.tail _ (.tail _ (.head _)))
  have lc := lt (c, oc) (.tail _ (.tail _ (.tail _ (.head _))))
  have W := KTurns.ofWalks (target := .Name y py) (LCg.range_walks (prog := prog) (w := w) (I := h₁.objs.size) hh 0 n) fun i v s Q E st q => by
    show wpAny _ _ (pure ()) _ _ _
    exact wpAny_pure q
  have loop : codeAny (model prog w) A (.compLoop (.ListComp elt [⟨t1, i1, [], 0⟩, ⟨.Name y py, i2, [], 0⟩] scope pos) 1 (.ref h₁.objs.size) (.ref D) (compEnvC scope [(y, c)] C env)) (fun r s₃ => r = .ok .next ∧ CEnd h₀ L m [I] C D [(I, oI)] s (fun ys _ nw => CellJ c J1 ys nw) s₃) { s with heap := h₁.push { cls := .type "range_iterator", data := .fields #[rawInt 0, rawInt (n : Int), rawInt 1] }, toks := tk₁ } := by
    refine comp_led (C := C) (D := D) (src := []) (s₁ := s) (turn2b ..) W ?_ ?_ ?_ (fun i ys m₂ nw2 => ∃ oc v₁ nw, nw2 = (I, oI) :: (c, oc) :: nw ∧ J i ys nw ∧ m₂ = m₀ ∧ ApartC [I] C D nw ∧ oc.data = .cell v₁ ∧ ∀ p ∈ nw, p.1 ≠ c) ?_ ?_ ?_ ?_ ⟨oc, v₀, nw₀, rfl, j0, rfl, ap, hdc, hcn⟩ hC (F.keeps up) (N := fun p hp => ?_) ?_
    · intro b hb
      exact .inl hb
    · intro i h st b hb
      rw [List.mem_singleton.mp hb]; exact ⟨_, st⟩
    · intro b hb
      rw [List.mem_singleton.mp hb]
      exact ⟨f2.1, f2.2, Nat.ne_of_gt lC, Nat.ne_of_gt lD⟩
    · intro _ _ _ _ _ p hp; cases hp
    · rintro Ex i v own oC m₂ ys _ h tk hi ⟨t, rfl⟩ ⟨oc, v₁, nw, rfl, hj, hm, ap1, hdc, hcn⟩ hown hC2 F2 N2 ap2
      obtain ⟨oI2, rfl⟩ := own_one hown
      have N2' : News h₀ L h ([(h₁.objs.size, oI2), (C, oC), (D, LCg.lst ys), (I, oI)] ++ (c, oc) :: nw) := N2
      refine asg_cell (hy C) hk F2 N2' hdc (fun p hp => ?_) hcn fun h3 oc3 F3 N3 hdc3 => ?_
      · simp only [List.mem_cons, List.not_mem_nil, or_false] at hp
        rcases hp with rfl | rfl | rfl | rfl
        · exact Nat.ne_of_gt lc
        · exact hcC.symm
        · exact hcD.symm
        · exact hcI.symm
      refine tail_led (wr := [h₁.objs.size]) (own := [(h₁.objs.size, oI2)]) (J := fun ys m₂ nw2 => ∃ oc v₁ nw, nw2 = (I, oI) :: (c, oc) :: nw ∧ J (i + 1) ys nw ∧ m₂ = m₀ ∧ ApartC [I] C D nw ∧ oc.data = .cell v₁ ∧ ∀ p ∈ nw, p.1 ≠ c) (ys := ys) (D := D) (C := C) (fun hm => Nat.ne_of_lt lD (List.mem_singleton.mp hm)) hCD rfl (hJ _ _ _ hi hj) ?_
      refine wpAny_mono (step _ i h₁.objs.size oI2 oC oc3 t ys nw h3 tk hi hj (hm ▸ hC2) (by rw [hdc3]; simp) F3 N3 (fun p hp => ?_)) (fun yv s₂ h₂ => ?_) fun _ _ e => e
      · have q1 := ap2 p (.tail _ (.tail _ hp))
        have q2 := ap1 p hp
        exact ⟨fun hm => by
          rcases List.mem_cons.mp hm with e | hm
          · exact q1.1 (by rw [e]; exact .head _)
          rcases List.mem_cons.mp hm with e | hm
          · exact q2.1 (by rw [e]; exact .head _)
          · exact hcn p hp (List.mem_singleton.mp hm), q2.2⟩
      obtain ⟨h4, tk4, nw4, rfl, F4, N4, ap4, hj4⟩ := h₂
      refine ⟨h4, tk4, oC, m₂, (I, oI) :: (c, oc3) :: nw4, rfl, F4, N4, hC2, fun p hp => ?_, oc3, _, nw4, rfl, hj4, hm, fun p hp => ⟨fun hm => (ap4 p hp).1 (.tail _ (by rw [List.mem_singleton.mp hm]; exact .head _)), (ap4 p hp).2⟩, hdc3, fun p hp e => (ap4 p hp).1 (by rw [e]; exact .tail _ (.tail _ (.head _)))⟩
      rcases List.mem_cons.mp hp with rfl | hp
      · exact ⟨fun hm => Nat.ne_of_lt lI (List.mem_singleton.mp hm), hIC, hID⟩
      rcases List.mem_cons.mp hp with rfl | hp
      · exact ⟨fun hm => Nat.ne_of_lt lc (List.mem_singleton.mp hm), hcC, hcD⟩
      · exact ⟨fun hm => (ap4 p hp).1 (by rw [List.mem_singleton.mp hm]; exact .head _), (ap4 p hp).2⟩
    · rintro oC m₂ ys _ h tk ⟨oc, v₁, nw, rfl, hj, hm, ap1, hdc, hcn⟩ hC2 F2 N2 ap2
      refine ⟨rfl, h, tk, oC, m₂, ys, (c, oc) :: nw, rfl, F2, fun p hp => N2 p ?_, hC2, fun p hp => ?_, oc, v₁, nw, rfl, hdc, hcn, fin _ _ hj⟩
      · simp only [List.cons_append, List.nil_append, List.mem_cons] at hp ⊢
        rcases hp with h | h | h | h
        · exact .inr (.inr (.inl h))
        · exact .inl h
        · exact .inr (.inl h)
        · exact .inr (.inr (.inr h))
      · rcases List.mem_cons.mp hp with rfl | hp
        · exact ⟨fun hm => hcI (List.mem_singleton.mp hm), hcC, hcD⟩
        · exact ap1 p hp
    · exact st0
    · have hp' : p ∈ [(I, oI), (C, oC), (D, LCg.lst ys₀), (c, oc)] ++ nw₀ := by
        simp only [List.cons_append, List.nil_append, List.mem_cons] at hp ⊢
        rcases hp with h | h | h | h
        · exact .inr (.inl h)
        · exact .inr (.inr (.inl h))
        · exact .inl h
        · exact .inr (.inr (.inr h))
      exact ⟨up _ _ (N p hp').1, (N p hp').2⟩
    · intro p hp
      rcases List.mem_cons.mp hp with rfl | hp
      · exact ⟨fun hm => Nat.ne_of_lt lI (List.mem_singleton.mp hm), hIC, hID⟩
      rcases List.mem_cons.mp hp with rfl | hp
      · exact ⟨fun hm => Nat.ne_of_lt lc (List.mem_singleton.mp hm), hcC, hcD⟩
      · exact ⟨fun hm => Nat.ne_of_lt (lt p (List.mem_append_right _ hp)) (List.mem_singleton.mp hm), (ap p hp).2⟩
  exact comp_start1 loop fun N => wpAny_pyIter_rangeiter st0 loop
end

theorem clrDE : True := by
  k_with_none
  trivial
open PySem PySem.W PyProof.Rows PySem.Calls PySem.Builtin
theorem dec_list (id : String) : ((List.range 150).map fun (k : Nat) => _codecs.runDecoder id _codecs.utf8Decoder none true (apB ((k : Int) + 1)) 0 []) = (List.range 150).map fun (k : Nat) => pure ((Lw ((k : Int) + 1)).cps, (apB ((k : Int) + 1)).size) := by kernel_rfl
theorem dec_at {n : Int} (h0 : 0 < n) (h1 : n < 151) (id : String) : _codecs.runDecoder id _codecs.utf8Decoder none true (apB n) 0 [] = pure ((Lw n).cps, (apB n).size) := by
  have h := congrArg (fun l => l[n.toNat - 1]?) (dec_list id)
  simp only [List.getElem?_map, List.getElem?_range (show n.toNat - 1 < 150 by omega), Option.map_some, Option.some.injEq] at h
  rwa [show ((n.toNat - 1 : Nat) : Int) + 1 = n by omega] at h
theorem apB_cons {n : Int} (h0 : 0 < n) : ∃ c cs, apB n = (c :: cs).toArray := by
  unfold apB
  rw [if_neg (by omega)]
  split
  · exact ⟨_, _, rfl⟩
  · exact ⟨_, _, rfl⟩
theorem Lw_len {n : Int} (h0 : 0 ≤ n) (h1 : n < 151) : (Lw n).length ≤ 2 := by
  have h := below_all (P := fun n => decide ((Lw n).length ≤ 2) = true) 151 (by decide +kernel) n h0 h1
  exact of_decide_eq_true h
section
variable {prog : Program} {w : World} {A : Around} {E : Value → Shared → Prop} {s : Shared} {Q : Value → Shared → Prop}
theorem decode_ap {n : Int} {t : Tok} (h0 : 0 < n) (h1 : n < 151) (h : ∀ t' k, Q (.str (Lw n) t') { s with toks := k }) : wpAny (model prog w) A (call (.builtin "bytes.decode") [.bytes (apB n) t]) Q E s := by
  obtain ⟨c, cs, e⟩ := apB_cons h0
  have hd := dec_at h0 h1
  rw [e] at hd ⊢
  exact KBd.decode hd (Nat.le_trans (Lw_len (Int.le_of_lt h0) h1) (by decide)) h
theorem nm_succ (k : Nat) : Nm k ++ Str.ofString "x" = Nm (k + 1) := PySem.Str.ext' (by
  rw [PySem.Str.cps_append]; unfold Nm
  show (List.replicate k 120).toArray ++ (Str.ofString "x").cps = (List.replicate (k + 1) 120).toArray
  rw [show (Str.ofString "x").cps = #[120] from by decide +kernel, List.replicate_succ', List.append_toArray])
theorem nm_add {k : Nat} {t u : Tok} (hk : k < 5) (h : ∀ t' k', Q (.str (Nm (k + 1)) t') { s with toks := k' }) : wpAny (model prog w) A (binaryOp .Add (.str (Nm k) t) (.str (Str.ofString "x") u)) Q E s := by
  refine PyProof.Rows.add_str (fun t' k' => ?_) ?_
  · rw [nm_succ]; exact h t' k'
  · rw [nm_len]; show k + 1 ≤ _; rw [sizeLine_eq]; omega
end
theorem number_w (w : World) {n : Int} (h0 : 0 ≤ n) (h1 : n < 151) (tk : Tok) (news : List (Addr × Obj)) : Spec w 276 [.str (Lw n) tk] news (IntP n news) := by
  have h := number w (Lw n) tk news
  rwa [numOf_Lw h0 h1] at h
theorem addS (w : World) (a b : Int) (ta tb : Tok) (news : List (Addr × Obj)) : Spec w 231 [.int a ta, .int b tb] news (IntP (a + b) news) := by
  unfold Spec SpecK
  k_fill
  intro p loose mean mg mb cn cs a ccd cl outer A₀ base h₀ L m s Q E B F X N T hk hret
  refine wpAny_call ?_
  w_strict (k_dflt cell_enter)
  k_with_none
  k_with "storeName" => (k_here; k_dflt (refine' storeX_Lr ?F ?N ?a ?b ?_; (case a => exact rfl); (case b => exact rfl); (case F => k_asm); (case N => k_asm); k_whole; intro _ _ _; (try k_sweep)))
  k_with "eval Name" => (k_here; k_dflt (refine' nameX_Lr ?F ?a ?b ?v ?_; (case a => exact rfl); (case b => exact rfl); (case F => k_asm); (case v => exact rfl); k_whole))
  k_with "execs cons" => (refine wpAny_execs_cons ?_; (try k_fold))
  k_steps
  refine fin_int hret rfl ?F ?N <;> assumption
theorem gt_r (w : World) (X : Lx) (HL : LexH X) (ln n : Int) (u1 : Tok) (c3 c4 : Nat) (vs : List Value) (codes rest : List Nat) (e : Nat) (k2 r : Int) (hr0 : 0 ≤ r) (hr1 : r < 151) (hE : WsTo [e] k2) (hS : Spelled codes (Lw r).cps.toList) (hB : Bef (codes ++ e :: rest) n vs ln) :
    SpecG 780 5800 w 210 [.ref X.x] [] (lexG w X ln u1 vs c3 [] c4)
      (fun v small' => (∃ vs' c' u' ln', Bef rest (n + k2) vs' ln' ∧ small' = lexG w X ln' u' vs' c' [] c4) ∧ ∃ t', v = .str (Lw r) t') := by
  have hl : (Lw r).cps.toList.length < 50 := by have := Lw_len hr0 hr1; unfold PySem.Str.length at this; simp; omega
  have h := gt_w w X HL ln n u1 c3 c4 vs codes _ rest e k2 hE hS hl hB
  rwa [Array.toArray_toList] at h
theorem int2ap_w (w : World) (n : Int) (tk : Tok) (news : List (Addr × Obj)) (h0 : 0 ≤ n) (h1 : n < 151) : Spec w 182 [.int n tk] news (BytesP (apB n) news) := int2ap w n tk news h0 (by omega)

theorem clrWV4 : True := by
  k_with_none
  trivial
open PySem PySem.W PyProof.Rows PySem.Calls PySem.Builtin
theorem andS (w : World) (a b : Int) (ta tb : Tok) (news : List (Addr × Obj)) : Spec w 238 [.int a ta, .int b tb] news (IntP (Builtin.bitAnd a b) news) := by
  unfold Spec SpecK
  k_fill
  intro p loose mean mg mb cn cs a ccd cl outer A₀ base h₀ L m s Q E B F X N T hk hret
  refine wpAny_call ?_
  w_strict (k_dflt cell_enter)
  k_with_none
  k_with "storeName" => (k_here; k_dflt (refine' storeX_Lr ?F ?N ?a ?b ?_; (case a => exact rfl); (case b => exact rfl); (case F => k_asm); (case N => k_asm); k_whole; intro _ _ _; (try k_sweep)))
  k_with "eval Name" => (k_here; k_dflt (refine' nameX_Lr ?F ?a ?b ?v ?_; (case a => exact rfl); (case b => exact rfl); (case F => k_asm); (case v => exact rfl); k_whole))
  k_with "tb_rel" => (intro p hp; (simp only [List.mem_cons] at hp ⊢); (repeat (first | (rcases hp with hp | hp; (simp only [hp, true_or, or_true]; done)) | (simp only [hp, true_or, or_true]; done) )))
  k_with "k_in" => (refine' Frag.In.keeps ?X (Fr.keep ?F); (case F => with_reducible assumption); (case X => with_reducible assumption))
  k_steps
  refine fin_int hret rfl ?F ?N <;> assumption
theorem get_told {prog : Program} {w : World} {A : Around} {E : Value → Shared → Prop} {s : Shared} {h₀ : Heap} {L d : Addr} {big rest : List (Addr × Obj)} {o : Obj} {kvs : List (Int × Value)} {t : Sums} {k : Int} {tk : Tok} {dflt : Value} {Q : Value → Shared → Prop}
    (N : News h₀ L s.heap big) (hp : (d, o) ∈ big) (hr : ∀ p ∈ rest, p ∈ big) (hd : o.IsDictOf (intKind prog w) kvs) (lo : (d == sysModules) = false) (hS : SumsIn rest kvs t)
    (h1 : look t k = none → Q dflt { s with toks := s.toks + 1 })
    (h2 : ∀ T a b ta tb, look t k = some (a, b) → News h₀ L s.heap ((T, tupO (.int a ta) (.int b tb)) :: big) → Q (.ref T) { s with toks := s.toks + 1 }) :
    wpAny (model prog w) A (call (.builtin "dict.get") [.ref d, .int k tk, dflt]) Q E s := by
  rcases hS.at k with ⟨e1, e2⟩ | ⟨T, a, b, e1, e2, ta, tb, hT⟩
  · exact kdg_get2 N hp hd lo (intKind_is _ _ _ _) none e1 (h1 e2)
  · exact kdg_get2 N hp hd lo (intKind_is _ _ _ _) (some _) e1 (h2 T a b ta tb e2 (fun p hp' => by
      rcases List.mem_cons.mp hp' with rfl | hp'
      · exact N _ (hr _ hT)
      · exact N p hp'))
theorem item_way {prog : Program} {w : World} {A : Around} {E : Value → Shared → Prop} {s : Shared} {h₀ : Heap} {L d T : Addr} {big : List (Addr × Obj)} {o ot : Obj} {kvs : List (Int × Value)} {k : Int} {tk : Tok} {value slice : PySem.Expr} {Q : Value → Shared → Prop}
    (N : News h₀ L s.heap big) (hp : (d, o) ∈ big) (hd : o.IsDictOf (intKind prog w) kvs) (hl : valueAt kvs k = some (.ref T)) (hT : (T, ot) ∈ big) (h : News h₀ L s.heap ((T, ot) :: big) → Q (.ref T) { s with toks := s.toks + 1 })
    (hs : subscripted slice false (.ref d) (.int k tk) = operate [.ref d, .int k tk] (getItem (.ref d) (.int k tk)) := by with_unfolding_all rfl) (hg : ∀ r, letTemporaryGo value (.ref d) r = pure () := by intro _; with_unfolding_all rfl) :
    wpAny (model prog w) A (subscriptTail value slice (.ref d) (.int k tk)) Q E s :=
  kda_item N hp hd (intKind_is _ _ _ _) hl (h fun p hp' => by
      rcases List.mem_cons.mp hp' with rfl | hp'
      · exact N _ hT
      · exact N p hp') hs hg
theorem item_last {prog : Program} {w : World} {A : Around} {E : Value → Shared → Prop} {s : Shared} {h₀ : Heap} {L d : Addr} {big rest : List (Addr × Obj)} {o : Obj} {kvs : List (Int × Value)} {t : Sums} {k a b : Int} {tk : Tok} {value slice : PySem.Expr} {Q : Value → Shared → Prop}
    (N : News h₀ L s.heap big) (hp : (d, o) ∈ big) (hd : o.IsDictOf (intKind prog w) kvs) (hS : SumsIn rest kvs t) (hl : look t k = some (a, b)) (h : ∀ T ta tb, (T, tupO (.int a ta) (.int b tb)) ∈ rest → Q (.ref T) { s with toks := s.toks + 1 })
    (hs : subscripted slice false (.ref d) (.int k tk) = operate [.ref d, .int k tk] (getItem (.ref d) (.int k tk)) := by with_unfolding_all rfl) (hg : ∀ r, letTemporaryGo value (.ref d) r = pure () := by intro _; with_unfolding_all rfl) :
    wpAny (model prog w) A (subscriptTail value slice (.ref d) (.int k tk)) Q E s := by
  rcases hS.at k with ⟨e1, e2⟩ | ⟨T, a', b', e1, e2, ta, tb, hT⟩
  · rw [hl] at e2; cases e2
  · rw [hl] at e2; cases e2
    exact kda_item N hp hd (intKind_is _ _ _ _) e1 (h T ta tb hT) hs hg
theorem news_sub {g h : Heap} {L : Addr} {small big : List (Addr × Obj)} (N : News g L h big) (hs : ∀ p ∈ small, p ∈ big) : News g L h small := fun p hp => N p (hs p hp)
theorem step3s {prog : Program} {w : World} {s₁ : Shared} {h₀ h : Heap} {L : Addr} {m : Str → Option Value} {Q : Flow → Shared → Prop} {tk' : Nat} {Fa I1 I2 I3 W1 r1 D : Addr} {oF oI1 oI2 oI3 oW1 : Obj} {rest2 rest : List (Addr × Obj)} {kvs : List (Int × Value)} {row : List (Int × Int)} {t : Sums} {k a b col x q sp c : Int} {tk ta tb tsp tc : Tok} {i : Nat} (F : Fr h₀ L h m) (N : News h₀ L h ((I3, oI3) :: (Fa, oF) :: (I2, oI2) :: (W1, oW1) :: (I1, oI1) :: (D, tupO (.int sp tsp) (.int c tc)) :: rest))
    (hm1 : m (Str.ofString "further") = some (.ref Fa)) (hm2 : m (Str.ofString "ways") = some (.ref W1)) (hm3 : m (Str.ofString "row") = some (.ref r1))
    (hm4 : m (Str.ofString "taken") = some (.int k tk)) (hm5 : m (Str.ofString "total") = some (.int a ta)) (hm6 : m (Str.ofString "many") = some (.int b tb)) (h1 : @Ne Nat Fa I3) (h2 : @Ne Nat I2 I3) (h3 : @Ne Nat W1 I3) (h4 : @Ne Nat I1 I3) (hc : oI3.cls = .type "list_iterator")
    (hrow : row[i]? = some (col, x)) (hP : Plain rest) (hd : oF.IsDictOf (intKind prog w) (stored kvs q (.ref D))) (hk : ∀ p ∈ rest2, p ∈ rest) (hS : SumsIn rest kvs (rowOn k a b (row.take i) t)) (hq : turn k a b (rowOn k a b (row.take i) t) col x = put (rowOn k a b (row.take i) t) q (sp, c)) :
    StepJ h₀ L I3 oI3 (J3 prog w Fa I1 I2 W1 r1 oI1 oI2 oW1 rest2 k a b tk ta tb row t (i + 1)) s₁ Q .next { s₁ with heap := h, toks := tk' } :=
  step3 (rest := (D, tupO (.int sp tsp) (.int c tc)) :: rest) F N (fun _ h => h) hm1 hm2 hm3 hm4 hm5 hm6 h1 h2 h3 h4 hc hrow hP.cons hd (fun p hp => .tail _ (hk p hp)) (by rw [hq]; exact (hS.mono fun _ h => .tail _ h).put ⟨_, _, .head _⟩)
theorem ways_w (w : World) (R : Addr) (small : List (Addr × Obj)) (rows : List (List (Int × Int))) (hP : Plain small) (hR : RowsIn small R rows) (hl : rows.length ≤ 5) (hl4 : ∀ row ∈ rows, row.length ≤ 4) (least many : Int) (hw : look (waysOf rows [(0, 0, 1)]) 31 = some (least, many)) :
    SpecG 500 3600 w 302 [.ref R] [] small (fun v small' => ∃ T t u, v = .ref T ∧ small' = (T, tupO (.int least t) (.int many u)) :: small) := by
  (unfold SpecG; k_fill; intro p loose mean mg mb envs base g s Q E hg hsm hBel hKin hTop hret)
  k_with_none
  k_with "storeName" => (k_here; k_dflt (refine' storeX_Lr ?F ?N ?a ?b ?_; (case a => exact rfl); (case b => exact rfl); (case F => k_asm); (case N => k_asm); k_whole; intro _ _ _; (try k_sweep)))
  k_with "eval Name" => (k_here; k_dflt (refine' nameX_Lr ?F ?a ?b ?v ?_; (case a => exact rfl); (case b => exact rfl); (case F => k_asm); (case v => exact rfl); k_whole))
  k_with "tb_rel" => (intro p hp; (simp only [List.mem_cons] at hp ⊢); (repeat (first | (rcases hp with hp | hp; (simp only [hp, true_or, or_true]; done)) | (simp only [hp, true_or, or_true]; done) )))
  k_with "k_in" => (refine' Frag.In.keeps ?X (Fr.keep ?F); (case F => with_reducible assumption); (case X => with_reducible assumption))
  k_with "execs cons" => (refine wpAny_execs_cons ?_; (try k_fold))
  k_with "eval Dict" => (k_here; k_dflt (refine' kdn_int ?q ?F ?N ?b ?a ?l ?e ?n ?_; (case q => rfl); (case F => k_asm); (case N => k_asm); (case b => exact Top.nolimit (by k_asm)); (case a => rfl); (case l => rfl); (case e => exact List.cons_ne_nil _ _); (case n => exact Nat.le_of_ble_eq_true rfl)); intro W0 h' oW0 F' N' lW0 loW0 hdW0)
  k_with "eval Dict nil nil" => (k_here; k_dflt (refine' empty_made ?F ?N ?b ?_; (case F => k_asm); (case N => k_asm); (case b => exact Top.nolimit (by k_asm))); intro Fa h' oF0 F' N' loF hdF lF; (have hF1 : @Ne Nat Fa I1 := Nat.ne_of_gt (lF (I1, oI1) (List.mem_cons_self ..))); (have hFW : @Ne Nat Fa W1 := Nat.ne_of_gt (lF (W1, oW1) (List.mem_cons_of_mem _ (List.mem_cons_self ..)))); (try k_sweep))
  k_with "newTuple" => (k_here; k_dflt (refine' kup_newTuple ?F ?N ?_ ?z; (case F => k_asm); (case N => k_asm); (case z => kmk_size)); intro D' h' F' N' lD'; (try (have hFD' : @Ne Nat Fa D' := Nat.ne_of_lt (lD' (Fa, oF3) (by k_dflt k_mem)))); (try k_sweep))
  k_with "KdnMade" => (k_here; k_dflt (refine' kdn_made_int ?F ?N ?U ?d ?k ?n ?_; (case F => k_asm); (case N => k_asm); (case U => exact UpdF.tail (Nat.ne_of_gt (lD' _ (List.mem_cons_self ..))) (UpdF.head fun p hp => Nat.ne_of_lt (lW0 p hp))); (case d => k_asm); (case k => rfl); (case n => exact of_decide_eq_true (by first | rfl | kernel_rfl!)); intro h' oW9 F' N' hdW9); (try dsimp only at N'))
  k_with "exec For Name Name cons nil" => (k_here; (rename Fr _ _ _ _ => lF'); (with_unfolding_all refine' For_turns lF' ?_; k_whole))
  k_with "exec For Tuple Name cons nil" => (k_here; (rename Fr _ _ _ _ => lF'); (with_unfolding_all refine' For_turns lF' ?_; k_whole))
  k_with "pyIter ref" => (k_here; (with_reducible show wpAny _ _ (pyIter (Value.ref _)) (fun it s₂ => TurnsAt _ _ _ _ _ (PySem.Expr.Name (Str.ofString "row") _) _ _ _ it s₂) _ _); k_dflt (refine' loop1 (oW9 := oW9) ?hh ?F ?N ?hW ?hP ?hd ?lo ?hR ?sT1 ?dN1; (case hh => rfl); (case F => k_asm); (case N => k_asm); (case hW => exact rfl); (case hP => assumption); (case hd => assumption); (case lo => assumption); (case hR => assumption); k_whole; (case' sT1 => (intro I1 i1 r1 row1 vs1 c1 W1 oW1 kvs1 rest1 u1 h1 tk1 oI1 hrow1 hr1 hp1 hoc1 hne1 hP1 hd1 hS1 hk1 lo1 F1 N1; (try k_fold))); (case' dN1 => (intro W9 oW9' kvs9 rest9 u9 h9 tk9 hP9 hd9 hS9 hk9 lo9 F9 N9))))
  k_with "pyIter ref" => (k_here; (with_reducible show wpAny _ _ (pyIter (Value.ref _)) (fun it s₂ => TurnsAt _ _ _ _ _ (PySem.Expr.Name (Str.ofString "taken") _) _ _ _ it s₂) _ _); k_dflt (refine' loop2 (Fa := Fa) (row := row1) ?hh ?F ?N ?hm1 ?hm2 ?hm3 ?hP ?hd0 ?hd ?lo ?hS ?sT2 ?dN2; (case hh => rfl); (case F => k_asm); (case N => k_asm); (case hm1 => exact rfl); (case hm2 => exact rfl); (case hm3 => exact rfl); (case hP => assumption); (case hd0 => assumption); (case hd => assumption); (case lo => assumption); (case hS => assumption); k_whole; (case' sT2 => (intro I2 i2 k2 t2 T2 a2 b2 ta2 tb2 oI2 oF2 kvs2 rest2 u2 h2 tk2 hva2 hT2 hw2 hFI2 hWI2 hII2 hoc2 hP2 hd2 hS2 hk2 F2 N2; (try k_fold))); (case' dN2 => (intro oF9 kvs9 rest9 u9 h9 tk9 hP9 hd9 hS9 hk9 F9 N9))))
  k_with "subscriptTail" => (k_here; (with_reducible show wpAny _ _ (subscriptTail _ _ (Value.ref _) (Value.int _ _)) _ _ _); k_dflt (refine' item_way (o := oW1) ?N ?hp ?hd ?hl ?hT ?_; (case N => k_asm); (case hp => k_mem); (case hd => assumption); (case hl => assumption); (case hT => exact .tail _ (.tail _ (.tail _ (.tail _ (by assumption)))))); intro N'; (try dsimp only [tupO] at N'); (try k_sweep))
  k_with "subscriptTail" => (k_here; (with_reducible show wpAny _ _ (subscriptTail _ (PySem.Expr.Constant _ _ _) (Value.ref _) (Value.int _ _)) _ _ _); k_dflt (refine' item_last (o := oW9') ?N ?hp ?hd ?hS ?hl ?_; (case N => k_asm); (case hp => k_mem); (case hd => assumption); (case hS => exact hS9); (case hl => exact hw)); intro T9 t9 u9 hT9)
  k_with "pyIter ref" => (k_here; (with_reducible show wpAny _ _ (pyIter (Value.ref _)) (fun it s₂ => TurnsAt _ _ _ _ _ (PySem.Expr.Tuple _ _ _) _ _ _ it s₂) _ _); k_dflt (refine' loop3 (Fa := Fa) (row := row1) (I2 := I2) (W1 := W1) (I1 := I1) ?hh ?F ?N ?hm1 ?hm2 ?hm3 ?hm4 ?hm5 ?hm6 ?hr ?hp ?hP ?hd ?hS ?sT3 ?dN3; (case hh => rfl); (case F => k_asm); (case N => exact news_sub (by k_asm) fun p hp => .tail _ hp); (case hm1 => exact rfl); (case hm2 => exact rfl); (case hm3 => exact rfl); (case hm4 => exact rfl); (case hm5 => exact rfl); (case hm6 => exact rfl); (case hr => exact hk2 _ hr1); (case hp => exact hp1.mono hk2); (case hP => assumption); (case hd => assumption); (case hS => assumption); k_whole; (case' sT3 => (intro I3 i3 T3 col3 x3 tc3 tx3 oI3 oF3 kvs3 rest3 u3 h3 tk3 hT3 hrow3 hFI3 hII3 hWI3 hJI3 hoc3 hP3 hd3 hS3 hk3 F3 N3'; (have N3 := news_sub (small := (T3, _) :: _) N3' (fmc (.tail _ (.tail _ (.tail _ (.tail _ (.tail _ hT3))))) (fun _ hp => hp))); (try dsimp only [tupO] at N3); clear N3'; (try k_fold))); (case' dN3 => (intro oF9 kvs9 rest9 u9 h9 tk9 hP9 hd9 hS9 hk9 F9 N9))))
  k_with "StepJ" => (k_dflt (refine' step3 (oF := _) ?F ?N ?hb ?hm1 ?hm2 ?hm3 ?hm4 ?hm5 ?hm6 hFI3 hII3 hWI3 hJI3 hoc3 hrow3 ?hP ?hd ?hk ?hS; (case F => k_asm); (case N => k_asm); (case hm1 => exact rfl); (case hm2 => exact rfl); (case hm3 => exact rfl); (case hm4 => exact rfl); (case hm5 => exact rfl); (case hm6 => exact rfl); (case hP => exact hP3); (case hd => exact hd3); (case hk => exact hk3); (case hS => (rw [turn_no (by assumption)]; exact hS3)); (case hb => k_extra "tb_rel")))
  k_with "StepJ" => (k_dflt (refine' step3 (oF := _) ?F ?N ?hb ?hm1 ?hm2 ?hm3 ?hm4 ?hm5 ?hm6 hFI3 hII3 hWI3 hJI3 hoc3 hrow3 ?hP ?hd ?hk ?hS; (case F => k_asm); (case N => k_asm); (case hm1 => exact rfl); (case hm2 => exact rfl); (case hm3 => exact rfl); (case hm4 => exact rfl); (case hm5 => exact rfl); (case hm6 => exact rfl); (case hP => exact hP3); (case hd => exact hd3); (case hk => exact hk3); (case hS => (rw [turn_yes (by assumption), tell_gt hlk (by omega) (by omega)]; exact hS3)); (case hb => k_extra "tb_rel")))
  k_with "StepJ" => (k_dflt (refine' step3s (oF := oF4) (oI3 := oI3) (oI2 := oI2) (oW1 := oW1) (oI1 := oI1) ?F ?N ?hm1 ?hm2 ?hm3 ?hm4 ?hm5 ?hm6 hFI3 hII3 hWI3 hJI3 hoc3 hrow3 hP3 hd4 hk3 hS3 ?hq; (case F => k_asm); (case N => k_asm); (case hm1 => exact rfl); (case hm2 => exact rfl); (case hm3 => exact rfl); (case hm4 => exact rfl); (case hm5 => exact rfl); (case hm6 => exact rfl); (case hq => (rw [turn_yes (by assumption)]; (first | exact tell_new hlk | exact tell_lt hlk (by omega) | exact tell_eq hlk (by omega) (by omega))))))
  k_with "StepJ" => (k_dflt (refine' step2 (I1 := I1) (row := row1) (oF := oF9) ?F ?N ?hm1 ?hm2 ?hm3 hFI2 hWI2 hII2 hoc2 hw2 ?hP ?hd ?hk ?hS; (case F => k_asm); (case N => k_asm); (case hm1 => exact rfl); (case hm2 => exact rfl); (case hm3 => exact rfl); (case hP => assumption); (case hd => assumption); (case hk => exact fun p hp => hk9 p (hk2 p hp)); (case hS => exact hS9)))
  k_with "StepJ" => (k_dflt (refine' step1 (oF := oF9) ?F ?N ?hm ?h1 hoc1 hrow1 ?hP ?hd ?lo ?hk ?hS; (case F => k_asm); (case N => k_asm); (case hm => exact rfl); (case h1 => assumption); (case hP => assumption); (case hd => assumption); (case lo => assumption); (case hk => exact fun p hp => hk9 p (hk1 p hp)); (case hS => exact hS9)))
  k_with "setItem ref int" => (k_here; k_dflt (refine' store3 (D2 := D') (D1 := D') (Fa := Fa) (I3 := I3) (oI3 := oI3) (oF := oF3) (I2 := I2) (oI2 := oI2) (W := W1) (oW := oW1) (I1 := I1) (oI1 := oI1) (rest := rest3) ?F ?N hFD' hFD' hFI3 hFI2 hFW hF1 hP3 hd3 ?z ?_; (case F => k_asm); (case N => exact news_sub (by k_asm) (fmc (.head _) (fmc (.head _) (by k_extra "tb_rel")))); (case z => (rw [hS3.length]; exact sums_fit hl hl4 (List.mem_of_getElem? hrow1) _ _ _ _ _ _))); intro h' oF4 F' N' hd4)
  k_with "call ref" => (k_here; (with_reducible show wpAny _ _ (call (Value.ref 231) _ _) _ _ _); k_dflt (refine' SpecK.use (addS _ _ _ _ _ _) ?B ?F ?X ?N ?T ?hA ?hK ?hh ?hd ?hu ?_; (case hA => exact rfl); (case F => k_asm); (case N => k_asm); (case B => k_asm); (case X => k_asm); (case T => k_asm); (case hK => first | rfl | assumption); (case hh => rfl); (case hd => exact Nat.le_of_ble_eq_true rfl); (case hu => exact Nat.le_of_ble_eq_true rfl); k_whole; (rintro v' news' h' tk' ⟨⟨t', e1'⟩, e2'⟩ F' N'); subst e1'; subst e2'; (try k_sweep)))
  k_with "call ref" => (k_here; (with_reducible show wpAny _ _ (call (Value.ref 238) _ _) _ _ _); k_dflt (refine' SpecK.use (andS _ _ _ _ _ _) ?B ?F ?X ?N ?T ?hA ?hK ?hh ?hd ?hu ?_; (case hA => exact rfl); (case F => k_asm); (case N => k_asm); (case B => k_asm); (case X => k_asm); (case T => k_asm); (case hK => first | rfl | assumption); (case hh => rfl); (case hd => exact Nat.le_of_ble_eq_true rfl); (case hu => exact Nat.le_of_ble_eq_true rfl); k_whole; (rintro v' news' h' tk' ⟨⟨t', e1'⟩, e2'⟩ F' N'); subst e1'; subst e2'; (try k_sweep)))
  k_with "getMethod ref" => (k_here; (with_reducible show wpAny _ _ (getMethod (Value.ref _) (Str.ofString "get") _) _ _ _); k_dflt (refine' kdg_method (knd := PySem.intKind _ _) (o := oF3) ?N ?hp ?hd ?_; (case N => k_asm); (case hp => k_mem); (case hd => assumption)))
  k_with "call builtin:dict.get" => (k_here; k_dflt (refine' get_told (o := oF3) ?N ?hp ?hr ?hd ?lo ?hS ?gT1 ?gT2; (case N => k_asm); (case hp => k_mem); (case hd => assumption); (case lo => assumption); (case hS => exact hS3); (case hr => k_extra "tb_rel"); k_whole; (case' gT1 => intro hlk); (case' gT2 => (intro T4 a4 b4 ta4 tb4 hlk N4; (try dsimp only [tupO] at N4)))))
  k_dflt (refine' call_S ?k1 ?k2 ?k3 ?k4 ?k5 ?k10 ?k6 ?k7 ?k8 ?k9 ?kB ?_ ?c2 ?c3 ?c4 ?c5; (case k1 => k_asm); (case k2 => k_asm); (case k3 => k_asm); (case k4 => k_asm); (case k5 => k_asm); (case k10 => k_asm); (case k6 => k_is); (case k7 => k_is); (case k8 => decide); (case k9 => first | exact BindsTo.of_eq rfl | exact binds_K (by k_in) rfl (by k_is) rfl rfl rfl); (case c5 => decide); (case kB => exact locs rfl); (case c2 => exact rfl); (case c3 => exact rfl); (case c4 => exact rfl); k_whole; intro L' h' F' N'; (try dsimp only); (try k_fold))
  k_steps
  all_goals (
    (try dsimp only)
    k_dflt (show LeaveS _ _ _ _)
    k_dflt (refine' leaveS_ ?k1 ?k2 ⟨⟨T9, t9, u9, rfl, rfl⟩, rfl, rfl, rfl⟩)
    case k1 => k_asm
    case k2 => exact news_sub (by k_asm) (fmc (.tail _ hT9) (fun p hp => .tail _ (hk9 p hp))))

open PySem PySem.W PyProof.Rows PySem.Calls
noncomputable def RowsV (big : List (Addr × Obj)) (vs : List Value) (rows : List (List (Int × Int))) : Prop := vs.length = rows.length ∧ ∀ (i : Nat) (v : Value), vs[i]? = some v → ∃ r row, v = .ref r ∧ rows[i]? = some row ∧ RowIn big r row
noncomputable def shiftRow (j : Nat) (xs : List Int) : List (Int × Int) := (xs.zipIdx).map fun p => (1 * 2 ^ ((p.2 : Nat) : Int).toNat * 2 ^ ((j : Nat) : Int).toNat, p.1)
theorem shiftRow_at (j : Nat) (xs : List Int) (i : Nat) (x : Int) (h : xs[i]? = some x) : (shiftRow j xs)[i]? = some (1 * 2 ^ ((i : Nat) : Int).toNat * 2 ^ ((j : Nat) : Int).toNat, x) := by
  unfold shiftRow; rw [List.getElem?_map, List.getElem?_zipIdx, h]; simp
theorem shiftRow_length (j : Nat) (xs : List Int) : (shiftRow j xs).length = xs.length := by simp [shiftRow]
theorem pow_small {i : Nat} (h : i < 4) : 0 ≤ (1 * 2 ^ ((i : Nat) : Int).toNat : Int) ∧ (1 * 2 ^ ((i : Nat) : Int).toNat : Int) < 64 := by
  match i, h with
  | 0, _ => decide
  | 1, _ => decide
  | 2, _ => decide
  | 3, _ => decide
theorem PairsIn.snoc {big : List (Addr × Obj)} {vs : List Value} {row : List (Int × Int)} {T : Addr} {a b : Int} (h : PairsIn big vs row) (hT : Tup big T a b) : PairsIn big (vs ++ [.ref T]) (row ++ [(a, b)]) := by
  refine ⟨by simp [h.1], fun i v hv => ?_⟩
  rw [List.getElem?_append] at hv
  split at hv
  · rename_i hi
    obtain ⟨T', a', b', e1, e2, e3⟩ := h.2 i v hv
    exact ⟨T', a', b', e1, by rw [List.getElem?_append_left (by rw [← h.1]; exact hi)]; exact e2, e3⟩
  · rename_i hi
    have hi0 : i - vs.length = 0 := by
      cases e : i - vs.length with
      | zero => rfl
      | succ k => rw [e] at hv; simp at hv
    rw [hi0] at hv
    simp at hv
    exact ⟨T, a, b, hv.symm, by rw [List.getElem?_append_right (by rw [← h.1]; omega), ← h.1, hi0]; rfl, hT⟩
theorem RowsV.snoc {big : List (Addr × Obj)} {vs : List Value} {rows : List (List (Int × Int))} {r : Addr} {row : List (Int × Int)} (h : RowsV big vs rows) (hr : RowIn big r row) : RowsV big (vs ++ [.ref r]) (rows ++ [row]) := by
  refine ⟨by simp [h.1], fun i v hv => ?_⟩
  rw [List.getElem?_append] at hv
  split at hv
  · rename_i hi
    obtain ⟨r', row', e1, e2, e3⟩ := h.2 i v hv
    exact ⟨r', row', e1, by rw [List.getElem?_append_left (by rw [← h.1]; exact hi)]; exact e2, e3⟩
  · rename_i hi
    have hi0 : i - vs.length = 0 := by
      cases e : i - vs.length with
      | zero => rfl
      | succ k => rw [e] at hv; simp at hv
    rw [hi0] at hv
    simp at hv
    exact ⟨r, row, hv.symm, by rw [List.getElem?_append_right (by rw [← h.1]; omega), ← h.1, hi0]; rfl, hr⟩
theorem RowsV.mono {big big' : List (Addr × Obj)} {vs : List Value} {rows : List (List (Int × Int))} (h : ∀ p ∈ big, p ∈ big') (H : RowsV big vs rows) : RowsV big' vs rows :=
  ⟨H.1, fun i v hv => let ⟨r, row, e1, e2, e3⟩ := H.2 i v hv; ⟨r, row, e1, e2, e3.mono h⟩⟩
section
variable {h₀ : Heap} {L : Addr} {m : Str → Option Value} {s : Shared}
theorem apart_new {wr : List Addr} {C D T : Addr} {pre nw : List (Addr × Obj)} {o : Obj} (hpre : ∀ b ∈ C :: D :: wr, b ∈ pre.map (·.1)) (lT : ∀ p ∈ pre ++ nw, p.1 < T) (ap : ApartC wr C D nw) : ∀ p ∈ (T, o) :: nw, p.1 ∉ wr ∧ p.1 ≠ C ∧ p.1 ≠ D := fun p hp => by
  rcases List.mem_cons.mp hp with rfl | hp
  · have key : ∀ b ∈ C :: D :: wr, b ≠ T := fun b hb e => by
      obtain ⟨q, hq, e2⟩ := List.mem_map.mp (hpre b hb)
      have := lT q (List.mem_append_left _ hq)
      rw [e2, e] at this; exact Nat.lt_irrefl _ this
    exact ⟨fun hm => key _ (.tail _ (.tail _ hm)) rfl, fun e => key C (.head _) e.symm, fun e => key D (.tail _ (.head _)) e.symm⟩
  · exact ap p hp
theorem eend_new {wr : List Addr} {C D T : Addr} {pre nwA new : List (Addr × Obj)} {o : Obj} {h' : Heap} {tk' : Nat} {J : List Value → List (Addr × Obj) → Prop} {ys : List Value} (F : Fr h₀ L h' m) (N : News h₀ L h' ((T, o) :: (pre ++ (nwA ++ new)))) (lT : ∀ p ∈ pre ++ (nwA ++ new), p.1 < T)
    (hpre : ∀ b ∈ C :: D :: wr, b ∈ pre.map (·.1)) (ap : ApartC wr C D (nwA ++ new)) (hj : (∀ q ∈ nwA, q.1 < T) → J (ys ++ [.ref T]) (nwA ++ (T, o) :: new)) : EEnd h₀ L m wr C D pre s J ys (.ref T) { s with heap := h', toks := tk' } :=
  ⟨h', tk', nwA ++ (T, o) :: new, rfl, F, fun p hp => N p (by
    simp only [List.mem_append, List.mem_cons] at hp ⊢
    rcases hp with h | h | h | h
    · exact .inr (.inl h)
    · exact .inr (.inr (.inl h))
    · exact .inl h
    · exact .inr (.inr (.inr h))), fun p hp => apart_new hpre lT ap p (by
    simp only [List.mem_append, List.mem_cons] at hp ⊢
    rcases hp with h | h | h
    · exact .inr (.inl h)
    · exact .inl h
    · exact .inr (.inr h)), hj fun q hq => lT q (List.mem_append_right _ (List.mem_append_left _ hq))⟩
end
theorem eend_row {h₀ : Heap} {L : Addr} {m : Str → Option Value} {s : Shared} {wr : List Addr} {C D T : Addr} {pre nwA new2 new3 : List (Addr × Obj)} {o : Obj} {h' : Heap} {tk' : Nat} {J : List Value → List (Addr × Obj) → Prop} {ys : List Value} (F : Fr h₀ L h' m) (N : News h₀ L h' ((T, o) :: ((pre ++ (nwA ++ new2)) ++ new3))) (lT : ∀ p ∈ pre ++ (nwA ++ new2), p.1 < T) (l3 : ∀ p ∈ new3, ∀ q ∈ pre ++ (nwA ++ new2), q.1 < p.1)
    (hpre : ∀ b ∈ C :: D :: wr, b ∈ pre.map (·.1)) (ap : ApartC wr C D (nwA ++ new2)) (hj : J (ys ++ [.ref T]) (nwA ++ (T, o) :: (new3 ++ new2))) : EEnd h₀ L m wr C D pre s J ys (.ref T) { s with heap := h', toks := tk' } :=
  ⟨h', tk', nwA ++ (T, o) :: (new3 ++ new2), rfl, F, fun p hp => N p (by
    simp only [List.mem_append, List.mem_cons] at hp ⊢
    rcases hp with h | h | h | h | h
    · exact .inr (.inl (.inl h))
    · exact .inr (.inl (.inr (.inl h)))
    · exact .inl h
    · exact .inr (.inr h)
    · exact .inr (.inl (.inr (.inr h)))), fun p hp => by
    simp only [List.mem_append, List.mem_cons] at hp
    rcases hp with h | rfl | h | h
    · exact ap p (List.mem_append_left _ h)
    · exact apart_new (o := o) hpre lT ap _ (.head _)
    · exact apart_new (o := p.2) hpre (l3 p h) ap (p.1, p.2) (.head _)
    · exact ap p (List.mem_append_right _ h), hj⟩
noncomputable def rows5 (f g : List Int) : List (List (Int × Int)) := [shiftRow 0 f, shiftRow 1 f, shiftRow 0 g, shiftRow 1 g, shiftRow 2 g]
noncomputable def cntUp : Nat → Nat
  | 0 => 0
  | 1 => 2
  | _ => 5
noncomputable def OuterJ (f g : List Int) (news : List (Addr × Obj)) (k : Nat) (ys : List Value) (nw : List (Addr × Obj)) : Prop := ∃ new, nw = news ++ new ∧ Plain new ∧ RowsV new ys ((rows5 f g).take k) ∧ ys.length = k
noncomputable def RowJ (j : Nat) (xs : List Int) (news : List (Addr × Obj)) (i : Nat) (ys : List Value) (nw : List (Addr × Obj)) : Prop := ∃ new, nw = news ++ new ∧ Plain new ∧ PairsIn new ys ((shiftRow j xs).take i) ∧ ys.length = i ∧ ∀ p ∈ new, ∀ q ∈ news, q.1 < p.1
theorem pairs_step {new : List (Addr × Obj)} {ys : List Value} {j i : Nat} {xs : List Int} {x : Int} {T : Addr} {ta tb : Tok} (hP : Plain new) (h : PairsIn new ys ((shiftRow j xs).take i)) (hx : xs[i]? = some x) :
    Plain ((T, tupO (.int (1 * 2 ^ ((i : Nat) : Int).toNat * 2 ^ ((j : Nat) : Int).toNat) ta) (.int x tb)) :: new) ∧ PairsIn ((T, tupO (.int (1 * 2 ^ ((i : Nat) : Int).toNat * 2 ^ ((j : Nat) : Int).toNat) ta) (.int x tb)) :: new) (ys ++ [.ref T]) ((shiftRow j xs).take (i + 1)) := by
  refine ⟨hP.cons, ?_⟩
  rw [List.take_add_one, shiftRow_at j xs i x hx]
  exact (h.mono fun _ h => .tail _ h).snoc ⟨ta, tb, .head _⟩
theorem OuterJ.start (f g : List Int) (news : List (Addr × Obj)) : OuterJ f g news 0 [] news := ⟨[], (List.append_nil _).symm, fun _ h => (by cases h), ⟨rfl, fun i v h => by simp at h⟩, rfl⟩
theorem RowJ.start (j : Nat) (xs : List Int) (news : List (Addr × Obj)) : RowJ j xs news 0 [] news := ⟨[], (List.append_nil _).symm, fun _ h => (by cases h), ⟨rfl, fun i v h => by simp at h⟩, rfl, fun _ h => (by cases h)⟩
theorem RowJ.next {j i : Nat} {xs : List Int} {news new : List (Addr × Obj)} {ys : List Value} {x : Int} {T : Addr} {ta tb : Tok} (hP : Plain new) (h : PairsIn new ys ((shiftRow j xs).take i)) (hl : ys.length = i) (ha : ∀ p ∈ new, ∀ q ∈ news, q.1 < p.1) (hx : xs[i]? = some x) (lT : ∀ q ∈ news, q.1 < T) :
    RowJ j xs news (i + 1) (ys ++ [.ref T]) (news ++ (T, tupO (.int (1 * 2 ^ ((i : Nat) : Int).toNat * 2 ^ ((j : Nat) : Int).toNat) ta) (.int x tb)) :: new) := by
  obtain ⟨h1, h2⟩ := pairs_step (T := T) (ta := ta) (tb := tb) hP h hx
  refine ⟨_, rfl, h1, h2, by simp [hl], fun p hp => ?_⟩
  rcases List.mem_cons.mp hp with rfl | hp
  · exact lT
  · exact ha p hp
theorem OuterJ.next {f g : List Int} {news new2 new3 : List (Addr × Obj)} {k j : Nat} {xs : List Int} {ys ys3 : List Value} {T : Addr} (hP : Plain new2) (h : RowsV new2 ys ((rows5 f g).take k)) (hl : ys.length = k) (hk : (rows5 f g)[k]? = some (shiftRow j xs)) (hP3 : Plain new3) (h3 : PairsIn new3 ys3 (shiftRow j xs)) :
    OuterJ f g news (k + 1) (ys ++ [.ref T]) (news ++ (T, LCg.lst ys3) :: (new3 ++ new2)) := by
  refine ⟨_, rfl, fun p hp => ?_, ?_, by simp [hl]⟩
  · rcases List.mem_cons.mp hp with rfl | hp
    · exact .inr rfl
    rcases List.mem_append.mp hp with hp | hp
    · exact hP3 p hp
    · exact hP p hp
  · rw [List.take_add_one, hk]
    exact (h.mono fun p hp => .tail _ (List.mem_append_right _ hp)).snoc ⟨ys3, ys3.length, .head _, h3.mono fun p hp => .tail _ (List.mem_append_left _ hp)⟩
theorem two_at {p q : Value × Value} {i : Nat} {a b : Value} (h : [p, q][i]? = some (a, b)) : (i = 0 ∧ a = p.1 ∧ b = p.2) ∨ (i = 1 ∧ a = q.1 ∧ b = q.2) := by
  match i, h with
  | 0, h => simp at h; subst h; exact .inl ⟨rfl, rfl, rfl⟩
  | 1, h => simp at h; subst h; exact .inr ⟨rfl, rfl, rfl⟩
  | i + 2, h => simp at h
theorem ints_at {vs : List Value} {xs : List Int} (h : IntsAre vs xs) {i : Nat} {v : Value} (hv : vs[i]? = some v) : ∃ x t, v = .int x t ∧ xs[i]? = some x := by
  obtain ⟨k, t, e, hk⟩ := IntsAre.at h i v hv
  exact ⟨k, t, e, hk⟩
theorem ints_at3 {a b c : Int} {ta tb tc : Tok} {i : Nat} {v : Value} (hv : [Value.int a ta, Value.int b tb, Value.int c tc][i]? = some v) : ∃ x t, v = .int x t ∧ [a, b, c][i]? = some x := ints_at (.cons _ _ (.cons _ _ (.cons _ _ .nil))) hv
theorem lt_of_at {xs : List Int} {i : Nat} {x : Int} (h : xs[i]? = some x) : i < xs.length := by
  rcases List.getElem?_eq_some_iff.mp h with ⟨h, _⟩; exact h
theorem pairs_all {new : List (Addr × Obj)} {ys : List Value} {j n : Nat} {xs : List Int} (h : PairsIn new ys ((shiftRow j xs).take n)) (hn : xs.length = n) : PairsIn new ys (shiftRow j xs) := by
  rwa [List.take_of_length_le (by rw [shiftRow_length, hn]; exact Nat.le_refl _)] at h
theorem rows5_f {f g : List Int} {j : Nat} (h : j < 2) : (rows5 f g)[0 + j]? = some (shiftRow j f) := by
  match j, h with
  | 0, _ => rfl
  | 1, _ => rfl
theorem rows5_g {f g : List Int} {j : Nat} (h : j < 3) : (rows5 f g)[2 + j]? = some (shiftRow j g) := by
  match j, h with
  | 0, _ => rfl
  | 1, _ => rfl
  | 2, _ => rfl
theorem plain_lst {R : Addr} {ys : List Value} {new : List (Addr × Obj)} (h : Plain new) : Plain ((R, LCg.lst ys) :: new) := fun p hp => by
  rcases List.mem_cons.mp hp with rfl | hp
  · exact .inr rfl
  · exact h p hp
theorem rows5_is (f0 f1 f2 f3 g0 g1 g2 : Int) : (rows5 [f0, f1, f2, f3] [g0, g1, g2]).take 5 = [[(1, f0), (2, f1), (4, f2), (8, f3)], [(2, f0), (4, f1), (8, f2), (16, f3)], [(1, g0), (2, g1), (4, g2)], [(2, g0), (4, g1), (8, g2)], [(4, g0), (8, g1), (16, g2)]] := by rfl
theorem RowsV.rowsIn {new : List (Addr × Obj)} {ys : List Value} {rows : List (List (Int × Int))} {R : Addr} (h : RowsV new ys rows) : RowsIn ((R, LCg.lst ys) :: new) R rows :=
  ⟨ys, ys.length, .head _, h.1, fun i v hv => let ⟨r, row, e1, e2, e3⟩ := h.2 i v hv; ⟨r, row, e1, e2, e3.mono fun _ h => .tail _ h⟩⟩

open PySem PySem.W PyProof.Rows PySem.Calls
theorem strs_snoc {vs : List Value} {ys : List Str} {y : Str} {t : Tok} (h : StrsAre vs ys) : StrsAre (vs ++ [.str y t]) (ys ++ [y]) := by
  induction h with
  | nil => exact .cons _ _ .nil
  | cons y t _ ih => exact .cons _ _ ih
noncomputable def TextJ (texts : List Str) (news : List (Addr × Obj)) (i : Nat) (ys : List Value) (nw : List (Addr × Obj)) : Prop := nw = news ∧ StrsAre ys (texts.take i) ∧ ys.length = i
theorem TextJ.start (texts : List Str) (news : List (Addr × Obj)) : TextJ texts news 0 [] news := ⟨rfl, .nil, rfl⟩
theorem eend_text {h₀ : Heap} {L : Addr} {m : Str → Option Value} {s : Shared} {wr : List Addr} {C D : Addr} {pre news : List (Addr × Obj)} {h' : Heap} {tk' i : Nat} {texts : List Str} {ys : List Value} {y : Str} {t : Tok} (F : Fr h₀ L h' m) (N : News h₀ L h' (pre ++ news)) (ap : ApartC wr C D news) (hs : StrsAre ys (texts.take i)) (hl : ys.length = i) (hy : texts[i]? = some y) :
    EEnd h₀ L m wr C D pre s (TextJ texts news (i + 1)) ys (.str y t) { s with heap := h', toks := tk' } :=
  ⟨h', tk', news, rfl, F, N, ap, rfl, by rw [List.take_add_one, hy]; exact strs_snoc hs, by simp [hl]⟩
theorem root_word {d : Int} (h0 : 0 ≤ d) (h1 : d < 120) : (0 ≤ d.fmod 30 + 1 ∧ d.fmod 30 + 1 < 151) ∧ (Lw (d.fmod 30 + 1)).length ≤ 2 := by
  obtain ⟨a, b, _⟩ := root_in h0 h1
  exact ⟨⟨by omega, by omega⟩, Lw_len (by omega) (by omega)⟩

theorem clrLX : True := by
  k_with_none
  trivial
open PySem PySem.W PyProof.Rows PySem.Calls PySem.Builtin PySem.Builtin.Re
theorem lexer_w (w : World) (page : Str) (tp : Tok) (hz : page.cps.size ≤ sizeLine) {b1 a1 a2 : Addr} {ob0 ob1 ob2 : Obj}
    {p : Program} {loose : List Str} {mean : ExcName → Option Value} {mg mb : Str → Option Value} {env : Env} {outer : List Env} {A A₀ : Around} {base h₀ : Heap} {L : Addr} {m : Str → Option Value} {s : Shared} {Q E : Value → Shared → Prop}
    (B : Below A₀ base outer h₀) (F : Fr h₀ L s.heap m) (X0 : (Mine.K w.params).In h₀) (N : News h₀ L s.heap [(b1, ob0), (a1, ob1), (a2, ob2), (264, tabObj #[])]) (T : Top p loose mean mg mb h₀)
    (hA : A.frames = some (env :: outer)) (hf : env.frame = some L) (hke : env.scope.kind = .function) (hh : A.handled = none) (hdp : A.depth ≤ 400) (hun : A.units ≤ 2000) (hC : CodeHd base 268 264) (hL : @LT.lt Nat _ 264 L) (hlo0 : @Ne Nat 264 b1) (hlo1 : @LT.lt Nat _ 264 a1) (hlo2 : @LT.lt Nat _ 264 a2)
    (h : ∀ X u1 vs c3 c4 ps9 h' tk', LexH X → SignsAre vs page.cps.toList → @LT.lt Nat _ b1 X.ce → @LT.lt Nat _ a1 X.ce → @LT.lt Nat _ a2 X.ce → Fr h₀ L h' m → News h₀ L h' ((b1, ob0) :: (a1, ob1) :: (a2, ob2) :: (264, tabObj ps9) :: lexG w X 1 u1 vs c3 [] c4) → Q (.ref X.x) { s with heap := h', toks := tk' }) :
    wpAny (model PySem.Challenge.rw_wj0054_01.row.prog w) A (call (.ref 269) [.str page tp] []) Q E s := by
  have main : wpAny (model PySem.Challenge.rw_wj0054_01.row.prog w) (roof 400 2000 (env :: outer)) (call (.ref 269) [.str page tp] []) Q E s := by
    have hA' : (roof 400 2000 (env :: outer)).frames = some (env :: outer) := rfl
    clear hA hh hdp hun A
    revert T N X0 F B
    k_fill
    intro B F X0 N T
    refine wpAny_call ?_
    k_with_none
    k_with "storeName" => (k_here; k_dflt (refine' storeX_Lr ?F ?N ?a ?b ?_; (case a => exact rfl); (case b => exact rfl); (case F => k_asm); (case N => k_asm); k_whole; intro _ _ _; (try k_sweep)))
    k_with "eval Name" => (k_here; k_dflt (refine' nameX_Lr ?F ?a ?b ?v ?_; (case a => exact rfl); (case b => exact rfl); (case F => k_asm); (case v => exact rfl); k_whole))
    k_with "execs cons" => (refine wpAny_execs_cons ?_; (try k_fold))
    k_with "k_in" => (refine' Frag.In.keeps ?X (Fr.keep ?F); (case F => with_reducible assumption); (case X => with_reducible assumption))
    k_with "setAttr ref ref" => (k_here; k_dflt ((show wpAny _ _ (setAttr _ (Str.ofString "read") _) _ _ _); refine' fn_store_K ?F ?N ?n ?_; (case F => k_asm); (case N => k_asm); (case n => k_all); k_whole; intro dx' od' h' tk' F' N' hO' l1; (try k_lt l1); (try k_sweep)))
    k_with "call type:list" => (k_here; (with_reducible show wpAny _ _ (call (Value.type "list") [Value.str _ _]) _ _ _); k_dflt (refine' list_text ?hh ?F ?N ?hz ?_; (case hh => rfl); (case F => k_asm); (case N => k_asm); (case hz => assumption); k_whole; intro sg' h' tk' vs' c' F' N' l1 hS'; (try k_lt l1); (try k_sweep)))
    k_dflt (refine' code_defC ?k1 ?k2 ?k3 ?k4 ?k5 ?kA ?kF ?kK ?k6 ?k7 ?k8 ?k9 ?kB ?kD ?_ ?c2 ?c3 ?c4; (case kA => exact hA'); (case kF => exact hf); (case kK => exact hke); (case k1 => k_asm); (case k2 => k_asm); (case k3 => k_asm); (case k4 => k_asm); (case k5 => k_asm); (case k6 => k_is); (case k7 => k_is); (case k8 => k_room); (case k9 => exact BindsTo.of_eq rfl); (case kB => exact rfl); (case kD => decide +kernel); (case c2 => exact rfl); (case c3 => exact rfl); (case c4 => exact rfl); k_whole; intro g' L' h' tk' cells' FG' F' N' Y' B' X' T' l1; (try k_lt l1); k_cells Y'; (try simp only [List.cons_append, List.nil_append] at N'); (try dsimp only); (try k_lift B'); (try k_fold))
    k_steps
    all_goals (
      (rename SignsAre _ _ => hS9)
      refine' h ⟨_, _, _, _, _, _, _, _, _, _, _, _, _, _, _, _, _, _, _, _, _, _, _, _, _, _⟩ _ _ _ _ _ _ _ ?H ?S ?a0 ?a1 ?a2 ?F ?N
      case S => exact hS9
      case N =>
        rw [lexG_eq]
        refine' cb_drop ?kN ?kM
        case kN => k_asm
        refine' fmc ?ma0 (fmc ?ma1 (fmc ?ma2 (fmc ?mtb (fmc ?ml (fmc ?mx (fmc ?md (fmc ?mdx (fmc ?mf (fmc ?mf2 (fmc ?mc2 (fmc ?msg (fmc ?mce (List.forall_mem_nil _)))))))))))))
        case ma0 => k_mem
        case ma1 => k_mem
        case ma2 => k_mem
        case mtb => k_mem
        case mx => k_mem
        case md => k_mem
        case ml => k_mem
        case mf => k_mem
        case mdx => k_mem
        case mf2 => k_mem
        case mc2 => k_mem
        case msg => k_mem
        case mce => k_mem
      all_goals (try dsimp only)
      case F => k_asm
      case H => refine' ⟨hC, ?_, ?_, ?_, ?_, ?_, ?_, ?_, ?_, ?_, ?_, ?_, ?_⟩ <;> (try dsimp only) <;> first | assumption | omega
      all_goals (try dsimp only)
      all_goals omega)
  exact fun Γ q hΓ => main Γ q ⟨hΓ.1.trans hh, Nat.le_trans hΓ.2.1 hdp, fun l e => hΓ.2.2.1 l (hA.trans e), fun _ e => (nomatch e), Nat.le_trans hΓ.2.2.2.2 hun⟩

open PySem PySem.W PyProof.Rows PySem.Calls PySem.Builtin PySem.Builtin.Re
theorem rowsHN : True := by
  k_with_none
  k_with "storeName" => (k_here; k_dflt (refine' storeX_Lr ?F ?N ?a ?b ?_; (case a => exact rfl); (case b => exact rfl); (case F => k_asm); (case N => k_asm); k_whole; intro _ _ _; (try k_sweep)))
  k_with "eval Name" => (k_here; k_dflt (refine' nameX_Lr ?F ?a ?b ?v ?_; (case a => exact rfl); (case b => exact rfl); (case F => k_asm); (case v => exact rfl); k_whole))
  k_with "execs cons" => (refine wpAny_execs_cons ?_; (try k_fold))
  k_with "sub" => first | exact List.forall_mem_nil _ | exact fun _ h9 => h9 | ((first | refine' sub_keep ?_ | refine' sub_drop ?_); k_extra "sub")
  k_with "tb_rel" => first | (k_extra "sub"; done) | exact List.forall_mem_nil _ | (refine' fmc ?sa ?sb; (case sa => k_mem); (case sb => k_extra "tb_rel"))
  k_with "tb_start" => (unfold SpecC; k_fill; intro _ _ _ _ _ _ _ _ _ _ _ hg9 hs9; (try dsimp only [hdrD, tupO] at hg9 hs9); revert hg9 hs9; intro _ _ _ _ _ _; k_dflt (refine' call_C ?k1 ?k2 ?k3 ?k4 ?k5 ?k10 ?k6 ?k7 ?k8 ?k9 ?kB ?_ ?c2 ?c3 ?c4 ?c5; (case k1 => k_asm); (case k2 => k_asm); (case k3 => k_asm); (case k4 => k_asm); (case k5 => k_asm); (case k10 => k_asm); (case k6 => k_is); (case k7 => k_is); (case k8 => decide); (case k9 => first | exact BindsTo.of_eq rfl | exact binds_K (by k_in) rfl (by k_is) rfl rfl rfl | exact binds_K (in_of_hide (by assumption) (by assumption)) rfl (by k_is) rfl rfl rfl); (case c5 => decide); (case kB => exact locs rfl); (case c2 => exact rfl); (case c3 => exact rfl); (case c4 => exact rfl); k_whole; intro _ _ _ _; (try dsimp only); (try k_fold)))
  k_with "LeaveS" => k_dflt (refine' leaveS_ ?k1 ?k2 ⟨⟨?_, ?ke⟩, ?kg, ?kd, ?ko⟩; (case ke => exact rfl); (case kg => exact rfl); (case kd => exact rfl); (case ko => exact rfl); (case k1 => k_asm); (case k2 => refine cb_drop (by k_asm) ?_; k_extra "tb_rel"))
  k_with "call ref" => (k_here; (with_reducible show wpAny _ _ (call (Value.ref 70) [_, Value.str _ _] _) _ _ _); k_dflt ((show wpAny _ _ (call (Value.ref 70) [_, Value.str _ _] [(Str.ofString "name", Value.bool true)]) _ _ _); refine' SpecK.use (convN _ _ ?q _ _ _) ?B ?F ?X ?N ?T ?hA ?hK ?hh ?hd ?hu ?_; (case hA => exact rfl); (case B => k_asm); (case F => k_asm); (case X => k_asm); (case N => k_asm); (case T => k_asm); (case hK => first | rfl | assumption); (case hh => rfl); (case hd => exact Nat.le_of_ble_eq_true rfl); (case hu => exact Nat.le_of_ble_eq_true rfl); (case q => first | assumption | exact quiet_names (by assumption) | decide +kernel); k_whole; (rintro v' news' h' tk' ⟨⟨t', e1'⟩, e2'⟩ F' N'); subst e1'; subst e2'; (try k_sweep)))
  k_with "call ref" => (k_here; (with_reducible show wpAny _ _ (call (Value.ref 70) [_, Value.str _ _] _) _ _ _); k_dflt ((show wpAny _ _ (call (Value.ref 70) [_, Value.str _ _] [(Str.ofString "name", Value.bool false)]) _ _ _); refine' SpecK.use (convV _ _ ?q _ _ _) ?B ?F ?X ?N ?T ?hA ?hK ?hh ?hd ?hu ?_; (case hA => exact rfl); (case B => k_asm); (case F => k_asm); (case X => k_asm); (case N => k_asm); (case T => k_asm); (case hK => first | rfl | assumption); (case hh => rfl); (case hd => exact Nat.le_of_ble_eq_true rfl); (case hu => exact Nat.le_of_ble_eq_true rfl); (case q => first | assumption | exact quiet_words (by assumption) (by assumption) | decide +kernel); k_whole; (rintro v' news' h' tk' ⟨⟨t', e1'⟩, e2'⟩ F' N'); subst e1'; subst e2'; (try k_sweep)))
  k_with "call builtin:str.lower" => (k_here; k_dflt ((show wpAny _ _ (call (Value.builtin "str.lower") [Value.str (Nm _) _]) _ _ _); refine lower_nm (by assumption) ?_; intro _ _))
  k_with "exec For Tuple Attribute" => (k_here; (rename Fr _ _ _ _ => lF'); (with_unfolding_all refine' For_turns lF' ?_; k_whole))
  trivial
theorem init_0 (w : World) (x dx : Addr) (ho : @LT.lt Nat _ dx x) :
    SpecC 690 4800 w 63 [.ref x] [] [(x, instObj 171 dx), (dx, dictOf [] 0)]
      (fun v small' => (∃ l tk c, (@LT.lt Nat _ x l) ∧ small' = [(x, instObj 171 dx), (dx, hdrD w tk l), (l, W.listOf #[] c)]) ∧ v = .none) := by
  k_extra "tb_start"
  k_steps
  all_goals (try dsimp only)
  refine' leaveS_ ?k1 ?k2 ⟨⟨⟨?_, ?_, ?_, ?_, rfl⟩, rfl⟩, rfl, rfl, rfl⟩
  case k1 => k_asm
  case k2 => (refine' cb_drop ?c1 ?c2; (case c1 => k_asm); (case c2 => k_extra "tb_rel"))
  omega
theorem init_1 (w : World) (x dx lst T0 : Addr) (c : Nat) (t0 u0 : Tok) (ho : @LT.lt Nat _ dx x) (ho1 : @LT.lt Nat _ T0 lst) (ho2 : @LT.lt Nat _ lst dx) :
    SpecC 690 4800 w 63 [.ref x, .ref lst] [] [(x, instObj 171 dx), (dx, dictOf [] 0), (lst, W.listOf #[.ref T0] c), (T0, tupO (.str (Str.ofString "") t0) (.str (Str.ofString "") u0))]
      (fun v small' => (∃ tk, small' = [(x, instObj 171 dx), (dx, hdrD w tk lst), (lst, W.listOf #[.ref T0] c), (T0, tupO (.str (Str.ofString "") t0) (.str (Str.ofString "") u0))]) ∧ v = .none) := by
  k_extra "tb_start"
  k_steps
  all_goals (try dsimp only)
  try walk_report
  refine' leaveS_ ?k1 ?k2 ⟨⟨⟨?_, rfl⟩, rfl⟩, rfl, rfl, rfl⟩
  case k1 => k_asm
  case k2 => (refine' cb_drop ?c1 ?c2; (case c1 => k_asm); (case c2 => k_extra "tb_rel"))

open PySem PySem.W PyProof.Rows PySem.Calls PySem.Builtin PySem.Builtin.Re
theorem rowsH9 : True := by
  k_with_none
  k_with "storeName" => (k_here; k_dflt (refine' storeX_Lr ?F ?N ?a ?b ?_; (case a => exact rfl); (case b => exact rfl); (case F => k_asm); (case N => k_asm); k_whole; intro _ _ _; (try k_sweep)))
  k_with "eval Name" => (k_here; k_dflt (refine' nameX_Lr ?F ?a ?b ?v ?_; (case a => exact rfl); (case b => exact rfl); (case F => k_asm); (case v => exact rfl); k_whole))
  k_with "execs cons" => (refine wpAny_execs_cons ?_; (try k_fold))
  k_with "sub" => first | exact List.forall_mem_nil _ | exact fun _ h9 => h9 | ((first | refine' sub_keep ?_ | refine' sub_drop ?_); k_extra "sub")
  k_with "ktr_rel" => first | assumption | omega | (simp; done) | decide
  k_with "tb_rel" => first | (k_extra "sub"; done) | exact List.forall_mem_nil _ | (refine' fmc ?sa ?sb; (case sa => k_mem); (case sb => k_extra "tb_rel"))
  k_with "tb_start" => (unfold SpecG; k_fill; intro _ _ _ _ _ _ _ _ _ _ _ hg9 hs9; (try dsimp only [hdrD, tupO] at hg9 hs9); revert hg9 hs9; intro _ _ _ _ _ _; k_dflt (refine' call_S ?k1 ?k2 ?k3 ?k4 ?k5 ?k10 ?k6 ?k7 ?k8 ?k9 ?kB ?_ ?c2 ?c3 ?c4 ?c5; (case k1 => k_asm); (case k2 => k_asm); (case k3 => k_asm); (case k4 => k_asm); (case k5 => k_asm); (case k10 => k_asm); (case k6 => k_is); (case k7 => k_is); (case k8 => decide); (case k9 => first | exact BindsTo.of_eq rfl | exact binds_K (by k_in) rfl (by k_is) rfl rfl rfl | exact binds_K (in_of_hide (by assumption) (by assumption)) rfl (by k_is) rfl rfl rfl); (case c5 => decide); (case kB => exact locs rfl); (case c2 => exact rfl); (case c3 => exact rfl); (case c4 => exact rfl); k_whole; intro _ _ _ _; (try dsimp only); (try k_fold)))
  k_with "LeaveS" => k_dflt (refine' leaveS_ ?k1 ?k2 ⟨⟨?_, ?ke⟩, ?kg, ?kd, ?ko⟩; (case ke => exact rfl); (case kg => exact rfl); (case kd => exact rfl); (case ko => exact rfl); (case k1 => k_asm); (case k2 => refine cb_drop (by k_asm) ?_; k_extra "tb_rel"))
  k_with "call ref" => (k_here; (with_reducible show wpAny _ _ (call (Value.ref 70) [_, Value.str _ _] _) _ _ _); k_dflt ((show wpAny _ _ (call (Value.ref 70) [_, Value.str _ _] [(Str.ofString "name", Value.bool true)]) _ _ _); refine' SpecK.use (convN _ _ ?q _ _ _) ?B ?F ?X ?N ?T ?hA ?hK ?hh ?hd ?hu ?_; (case hA => exact rfl); (case B => k_asm); (case F => k_asm); (case X => k_asm); (case N => k_asm); (case T => k_asm); (case hK => first | rfl | assumption); (case hh => rfl); (case hd => exact Nat.le_of_ble_eq_true rfl); (case hu => exact Nat.le_of_ble_eq_true rfl); (case q => first | assumption | exact quiet_names (by assumption) | decide +kernel); k_whole; (rintro v' news' h' tk' ⟨⟨t', e1'⟩, e2'⟩ F' N'); subst e1'; subst e2'; (try k_sweep)))
  k_with "call ref" => (k_here; (with_reducible show wpAny _ _ (call (Value.ref 70) [_, Value.str _ _] _) _ _ _); k_dflt ((show wpAny _ _ (call (Value.ref 70) [_, Value.str _ _] [(Str.ofString "name", Value.bool false)]) _ _ _); refine' SpecK.use (convV _ _ ?q _ _ _) ?B ?F ?X ?N ?T ?hA ?hK ?hh ?hd ?hu ?_; (case hA => exact rfl); (case B => k_asm); (case F => k_asm); (case X => k_asm); (case N => k_asm); (case T => k_asm); (case hK => first | rfl | assumption); (case hh => rfl); (case hd => exact Nat.le_of_ble_eq_true rfl); (case hu => exact Nat.le_of_ble_eq_true rfl); (case q => first | assumption | exact quiet_words (by assumption) (by assumption) | decide +kernel); k_whole; (rintro v' news' h' tk' ⟨⟨t', e1'⟩, e2'⟩ F' N'); subst e1'; subst e2'; (try k_sweep)))
  k_with "call builtin:str.lower" => (k_here; k_dflt ((show wpAny _ _ (call (Value.builtin "str.lower") [Value.str (Nm _) _]) _ _ _); refine lower_nm (by assumption) ?_; intro _ _))
  k_with "exec For Tuple Attribute" => (k_here; (rename Fr _ _ _ _ => lF'); (with_unfolding_all refine' For_turns lF' ?_; k_whole))
  k_with "delItem ref" => (k_here; k_dflt (refine' del_own ?X ?I ?hQ ?hS ?hF ?_; (case X => k_in); (case I => k_inst); (case hS => k_is); (case hF => k_is); (case hQ => k_is); k_whole))
  k_with "compareOp NotEq str str" => (k_here; k_dflt (first | with_reducible refine nm_ne_f ?_ | (with_reducible refine nm_ne_t ?h0 ?_; (case h0 => assumption))))
  k_with "compareOp Eq str str" => (k_here; k_dflt (first | with_reducible refine nm_eq_t ?_ | (with_reducible refine nm_eq_f ?h0 ?_; (case h0 => assumption))))
  k_with "setItem ref ref ref" => (k_here; (with_reducible rename Fr _ _ _ _ => F'); (with_reducible rename News _ _ _ _ => N'); k_dflt (refine' store_K (s := ⟨_, _, _, _, _⟩) F' N' ?hD ?U ?hn ?hz ?_; (case hD => k_mem); (case U => k_upd); (case hn => k_ne); (case hz => exact Nat.le_of_ble_eq_true rfl); k_whole; intro h' F' N'; (try k_sweep)))
  k_with "CompRestT" => (with_unfolding_all (refine LCt.CompRestT.succ ?_; intro v9' I' oI' C' oC' D9' m' h' tk' E' hv' hC' hx' F' N' off' ne'; (first | lcg_open hv' | (obtain ⟨t9', hv9'⟩ := hv'; subst hv9'))))
  k_with "CompEnd" => (k_dflt (refine' LCg.CompEnd.intro ?F ?N _ ?sub ?off ?S ?_; (case F => k_asm); (case N => k_asm); (case off => assumption); (case sub => exact fun p hp => hp); (case S => lcg_src)))
  trivial
theorem setitem_2 (w : World) (x dx l : Addr) (tk tq tv : Tok) (c : Nat) (q : Nat) (hq : q < 5) (nv : Int) (hv0 : 0 ≤ nv) (hv1 : nv < 151) (T0 : Addr) (k0 : Nat) (n0 : Int) (t0 u0 : Tok) (hk0 : k0 < 5) (hq0 : Differ k0 q) (T1 : Addr) (n1 : Int) (t1 u1 : Tok) (ho0 : @LT.lt Nat _ dx x) (ho1 : @LT.lt Nat _ x l) (ho2 : @LT.lt Nat _ l T0) (ho3 : @LT.lt Nat _ T0 T1) :
    SpecG 680 4500 w 84 [.ref x, .str (Nm q) tq, .str (Lw nv) tv] [] [(x, instObj 171 dx), (dx, hdrD w tk l), (l, W.listOf #[.ref T0, .ref T1] c), (T0, tupO (.str (Nm k0) t0) (.str (Lw n0) u0)), (T1, tupO (.str (Nm q) t1) (.str (Lw n1) u1))]
      (fun v small' => ∃ T c' t u, @LT.lt Nat _ T1 T ∧ small' = [(x, instObj 171 dx), (dx, hdrD w tk l), (l, W.listOf #[.ref T0, .ref T] c'), (T0, tupO (.str (Nm k0) t0) (.str (Lw n0) u0)), (T, tupO (.str (Nm q) t) (.str (Lw nv) u))]) := by
  k_extra "tb_start"
  k_steps
  all_goals (try dsimp only)
  refine' leaveS_ ?k1 ?k2 ⟨⟨?_, ?_, ?_, ?_, ?_, rfl⟩, rfl, rfl, rfl⟩
  case k1 => k_asm
  case k2 => (refine' cb_drop ?c1 ?c2; (case c1 => k_asm); (case c2 => k_extra "tb_rel"))
  omega
theorem setitem_3 (w : World) (x dx l : Addr) (tk tq tv : Tok) (c : Nat) (q : Nat) (hq : q < 5) (nv : Int) (hv0 : 0 ≤ nv) (hv1 : nv < 151) (T0 : Addr) (k0 : Nat) (n0 : Int) (t0 u0 : Tok) (hk0 : k0 < 5) (hq0 : Differ k0 q) (T1 : Addr) (k1 : Nat) (n1 : Int) (t1 u1 : Tok) (hk1 : k1 < 5) (hq1 : Differ k1 q) (T2 : Addr) (n2 : Int) (t2 u2 : Tok) (ho0 : @LT.lt Nat _ dx x) (ho1 : @LT.lt Nat _ x l) (ho2 : @LT.lt Nat _ l T0) (ho3 : @LT.lt Nat _ T0 T1) (ho4 : @LT.lt Nat _ T1 T2) :
    SpecG 680 4500 w 84 [.ref x, .str (Nm q) tq, .str (Lw nv) tv] [] [(x, instObj 171 dx), (dx, hdrD w tk l), (l, W.listOf #[.ref T0, .ref T1, .ref T2] c), (T0, tupO (.str (Nm k0) t0) (.str (Lw n0) u0)), (T1, tupO (.str (Nm k1) t1) (.str (Lw n1) u1)), (T2, tupO (.str (Nm q) t2) (.str (Lw n2) u2))]
      (fun v small' => ∃ T c' t u, @LT.lt Nat _ T2 T ∧ small' = [(x, instObj 171 dx), (dx, hdrD w tk l), (l, W.listOf #[.ref T0, .ref T1, .ref T] c'), (T0, tupO (.str (Nm k0) t0) (.str (Lw n0) u0)), (T1, tupO (.str (Nm k1) t1) (.str (Lw n1) u1)), (T, tupO (.str (Nm q) t) (.str (Lw nv) u))]) := by
  k_extra "tb_start"
  k_steps
  all_goals (try dsimp only)
  refine' leaveS_ ?k1 ?k2 ⟨⟨?_, ?_, ?_, ?_, ?_, rfl⟩, rfl, rfl, rfl⟩
  case k1 => k_asm
  case k2 => (refine' cb_drop ?c1 ?c2; (case c1 => k_asm); (case c2 => k_extra "tb_rel"))
  omega

open PySem PySem.W PyProof.Rows PySem.Calls PySem.Builtin
theorem make0 {w : World} {news : List (Addr × Obj)} {p : Program} {loose : List Str} {mean : ExcName → Option Value} {mg mb : Str → Option Value} {env : Env} {outer : List Env} {A A₀ : Around} {base h₀ : Heap} {L : Addr} {m : Str → Option Value} {s : Shared} {Q E : Value → Shared → Prop}
    (B : Below A₀ base outer h₀) (F : Fr h₀ L s.heap m) (X0 : (Mine.K w.params).In h₀) (N : News h₀ L s.heap news) (T : Top p loose mean mg mb h₀)
    (hm : makesIn (Mine.K w.params) 171 = true) (hi : findIn (Mine.K w.params) (.ref 171) "__init__" = some (some (.ref 63))) (hf : isFn (Mine.K w.params) (.ref 63) = true)
    (hA : A.frames = some (env :: outer)) (hfr : env.frame = some L) (hke : env.scope.kind = .function) (hh : A.handled = none)
    (hdp : (A.under (.builtin "type.__call__" ⟨[.ref 171], []⟩)).depth ≤ 690) (hun : (A.under (.builtin "type.__call__" ⟨[.ref 171], []⟩)).units ≤ 4800)
    (hA' : (A.under (.builtin "type.__call__" ⟨[.ref 171], []⟩)).frames = some (env :: outer)) (hh' : (A.under (.builtin "type.__call__" ⟨[.ref 171], []⟩)).handled = none)
    (h : ∀ x dx l tk c h' tk', (∀ a ∈ news.map (·.1), @LT.lt Nat _ a dx) → @LT.lt Nat _ dx x → @LT.lt Nat _ x l → Fr h₀ L h' m → News h₀ L h' ([(x, instObj 171 dx), (dx, hdrD w tk l), (l, W.listOf #[] c)] ++ news) → Q (.ref x) { s with heap := h', toks := tk' }) :
    wpAny (model PySem.Challenge.rw_wj0054_01.row.prog w) A (call (.ref 171) [] []) Q E s := by
  refine call_cls F X0 N hm hi hf fun x dx h' F' N' l1 l2 => ?_
  have lx : ∀ p ∈ news, @LT.lt Nat _ p.1 x := fun p hp => Nat.lt_trans (l1 p hp) l2
  refine codeAny_mono (SpecC.use (Q := fun v s₂ => v = .none ∧ Q (.ref x) s₂) (E := fun _ _ => False) (init_0 w x dx l2) news B F' X0 N' T hA' hfr hke hh' hdp hun (fun p hp => ?_) (fun p hp => .tail _ (.tail _ hp)) (fun p hp q hq e => ?_) fun v sm h2 tk2 hp F2 N2 hap => ?_) fun r s₂ hr => ?_
  · rcases List.mem_cons.mp hp with rfl | hp
    · exact .head _
    · rcases List.mem_cons.mp hp with rfl | hp
      · exact .tail _ (.head _)
      · cases hp
  · have a1 := l1 p hp
    have a2 := lx p hp
    simp only [List.mem_cons, List.not_mem_nil, or_false] at hq
    rcases hq with rfl | rfl
    · exact absurd (e ▸ a2) (Nat.lt_irrefl _)
    · exact absurd (e ▸ a1) (Nat.lt_irrefl _)
  · obtain ⟨⟨l, tk, c, l3, rfl⟩, rfl⟩ := hp
    refine ⟨rfl, h x dx l tk c h2 tk2 (fun a ha => ?_) l2 l3 F2 N2⟩
    obtain ⟨p, hp, rfl⟩ := List.mem_map.mp ha
    exact l1 p hp
  · cases r with
    | error e => exact hr.elim
    | ok fl => cases fl with
      | ret v => exact hr
      | next => exact hr.elim
      | cont => exact hr.elim
      | brk => exact hr.elim
noncomputable def Tab1 (w : World) (X : Lx) (x : Addr) (v0 : Int) (tab : List (Addr × Obj)) : Prop := ∃ (dx l T0 : Addr) (tk t0 u0 : Tok) (c : Nat), (@LT.lt Nat _ X.l T0 ∧ @LT.lt Nat _ T0 l ∧ @LT.lt Nat _ l dx ∧ @LT.lt Nat _ dx x) ∧ tab = [(x, instObj 171 dx), (dx, hdrD w tk l), (l, W.listOf #[.ref T0] c), (T0, tupO (.str (Nm 0) t0) (.str (Lw v0) u0))]
inductive OffL (it : Obj) (below : List Addr) : List (Addr × Obj) → Prop
  | tail {big : List (Addr × Obj)} : big.map (·.1) = below → OffL it below big
  | cons {p : Addr × Obj} {r : List (Addr × Obj)} : p.2.cls ≠ it.cls → OffL it below r → OffL it below (p :: r)

open PySem PySem.W PyProof.Rows PySem.Calls PySem.Builtin
theorem newApart_mem {rest : List (Addr × Obj)} : ∀ {l : List (Addr × Obj)}, NewApart rest l → ∀ p ∈ l, ∀ q ∈ rest, p.1 ≠ q.1
  | [], _, _, h => nomatch h
  | z :: r, a, p, hp => by
    have key : ∀ {rest : List (Addr × Obj)} {x : Addr}, AllNe rest x → ∀ q ∈ rest, x ≠ q.1 := by
      intro rest
      induction rest with
      | nil => intro x _ q hq; cases hq
      | cons y ys ih =>
        intro x h q hq
        rcases List.mem_cons.mp hq with rfl | hq
        · exact h.1
        · exact ih h.2 q hq
    rcases List.mem_cons.mp hp with rfl | hp
    · exact key a.1
    · exact newApart_mem a.2 p hp
theorem SpecG.useP {dp un : Nat} {w : World} {f : Addr} {args : List Value} {kw : List (Str × Value)} {small : List (Addr × Obj)} {Post : Value → List (Addr × Obj) → Prop} (C : SpecG dp un w f args kw small Post) (pre : List (Addr × Obj))
    {p : Program} {loose : List Str} {mean : ExcName → Option Value} {mg mb : Str → Option Value} {env : Env} {outer : List Env} {A A₀ : Around} {base h₀ : Heap} {L : Addr} {m : Str → Option Value} {s : Shared} {Q E : Value → Shared → Prop}
    (B : Below A₀ base outer h₀) (F : Fr h₀ L s.heap m) (X0 : (Mine.K w.params).In h₀) (N : News h₀ L s.heap (pre ++ small)) (T : Top p loose mean mg mb h₀)
    (hA : A.frames = some (env :: outer)) (hf : env.frame = some L) (hke : env.scope.kind = .function) (hh : A.handled = none) (hdp : A.depth ≤ dp) (hun : A.units ≤ un)
    (hne : ∀ p ∈ small, ∀ q ∈ pre, p.1 ≠ q.1)
    (h : ∀ v small' h' tk', Post v small' → Fr h₀ L h' m → News h₀ L h' (pre ++ small') → (∀ p ∈ small', ∀ q ∈ pre, p.1 ≠ q.1) → Q v { s with heap := h', toks := tk' }) :
    wpAny (model PySem.Challenge.rw_wj0054_01.row.prog w) A (call (.ref f) args kw) Q E s :=
  SpecG.use C pre B F X0 N T hA hf hke hh hdp hun (fun p hp => List.mem_append_right _ hp) (fun p hp => List.mem_append_left _ hp) (fun p hp q hq e => hne q hq p hp e.symm)
    fun v small' h' tk' hp F' N' ha => h v small' h' tk' hp F' (fun z hz => N' z (by rcases List.mem_append.mp hz with hz | hz; exact List.mem_append_right _ hz; exact List.mem_append_left _ hz)) (newApart_mem ha)
theorem unr_endP {h₀ h' : Heap} {L I : Addr} {it : Obj} {s₁ : Shared} {big : List (Addr × Obj)} {tk : Nat} {m' : Str → Option Value} {rest : (Str → Option Value) → List (Addr × Obj) → Prop} (F : Fr h₀ L h' m') (N : News h₀ L h' ((I, it) :: big))
    (hne : ∀ p ∈ big, p.1 ≠ I) (r : rest m' big) : UnrEnd h₀ L s₁ I it rest { s₁ with heap := h', toks := tk } := ⟨h', tk, m', big, rfl, F, N, hne, r⟩
theorem make1 {w : World} {news : List (Addr × Obj)} {lst T0 : Addr} {c : Nat} {t0 u0 : Tok} {p : Program} {loose : List Str} {mean : ExcName → Option Value} {mg mb : Str → Option Value} {env : Env} {outer : List Env} {A A₀ : Around} {base h₀ : Heap} {L : Addr} {m : Str → Option Value} {s : Shared} {Q E : Value → Shared → Prop}
    (B : Below A₀ base outer h₀) (F : Fr h₀ L s.heap m) (X0 : (Mine.K w.params).In h₀) (N : News h₀ L s.heap ((lst, W.listOf #[.ref T0] c) :: (T0, tupO (.str (Str.ofString "") t0) (.str (Str.ofString "") u0)) :: news)) (T : Top p loose mean mg mb h₀)
    (ho : @LT.lt Nat _ T0 lst) (hlo : ∀ a ∈ news.map (·.1), @LT.lt Nat _ a T0)
    (hm : makesIn (Mine.K w.params) 171 = true) (hi : findIn (Mine.K w.params) (.ref 171) "__init__" = some (some (.ref 63))) (hf : isFn (Mine.K w.params) (.ref 63) = true)
    (hh : A.handled = none)
    (hdp : (A.under (.builtin "type.__call__" ⟨[.ref 171, .ref lst], []⟩)).depth ≤ 690) (hun : (A.under (.builtin "type.__call__" ⟨[.ref 171, .ref lst], []⟩)).units ≤ 4800) (hfr : env.frame = some L) (hke : env.scope.kind = .function)
    (hA' : (A.under (.builtin "type.__call__" ⟨[.ref 171, .ref lst], []⟩)).frames = some (env :: outer)) (hh' : (A.under (.builtin "type.__call__" ⟨[.ref 171, .ref lst], []⟩)).handled = none)
    (h : ∀ x dx tk h' tk', @LT.lt Nat _ lst dx → @LT.lt Nat _ dx x → Fr h₀ L h' m → News h₀ L h' ([(x, instObj 171 dx), (dx, hdrD w tk lst), (lst, W.listOf #[.ref T0] c), (T0, tupO (.str (Str.ofString "") t0) (.str (Str.ofString "") u0))] ++ news) → Q (.ref x) { s with heap := h', toks := tk' }) :
    wpAny (model PySem.Challenge.rw_wj0054_01.row.prog w) A (call (.ref 171) [.ref lst] []) Q E s := by
  refine call_cls F X0 N hm hi hf fun x dx h' F' N' l1 l2 => ?_
  have ld := l1 _ (.head _)
  refine codeAny_mono (SpecC.use (Q := fun v s₂ => v = .none ∧ Q (.ref x) s₂) (E := fun _ _ => False) (init_1 w x dx lst T0 c t0 u0 l2 ho ld) news B F' X0 N' T hA' hfr hke hh' hdp hun (fun p hp => ?_) (fun p hp => .tail _ (.tail _ (.tail _ (.tail _ hp)))) (fun p hp q hq e => ?_) fun v sm h2 tk2 hp F2 N2 hap => ?_) fun r s₂ hr => ?_
  · simp only [List.mem_cons, List.not_mem_nil, or_false] at hp ⊢
    rcases hp with rfl | rfl | rfl | rfl <;> simp
  · have a1 := hlo p.1 (List.mem_map_of_mem hp)
    simp only [List.mem_cons, List.not_mem_nil, or_false] at hq
    have ld' : @LT.lt Nat _ lst dx := ld
    have l2' : @LT.lt Nat _ dx x := l2
    rcases hq with rfl | rfl | rfl | rfl <;> (have e2 : @Eq Nat _ _ := e; dsimp only at e2; omega)
  · obtain ⟨⟨tk, rfl⟩, rfl⟩ := hp
    exact ⟨rfl, h x dx tk h2 tk2 ld l2 F2 N2⟩
  · cases r with
    | error e => exact hr.elim
    | ok fl => cases fl with
      | ret v => exact hr
      | next => exact hr.elim
      | cont => exact hr.elim
      | brk => exact hr.elim

open PySem PySem.W PyProof.Rows
noncomputable def HeardB (_ : Option (Arguments × List Stmt × Scope)) : Type := List Stmt
noncomputable def HeardC (_ : Option (Arguments × List Stmt × Scope)) : Type := Scope
noncomputable def HeardF (_ : List Stmt) : Type := List Stmt
noncomputable def lawSt : List Stmt := by
  refine (?i : List Stmt)
  refine (?h : HeardB (some (?p, ?b, ?s)))
  refine (?g : HeardB (fnAt 24))
  refine (?_ : List Stmt)
  exact ?b
noncomputable def lawSc : Scope := by
  refine (?i : Scope)
  refine (?h : HeardC (some (?p, ?b, ?s)))
  refine (?g : HeardC (fnAt 24))
  refine (?_ : Scope)
  exact ?s
noncomputable def lawLoop : List Stmt := by
  refine (?i : List Stmt)
  refine (?h : HeardF (?s1 :: ?s2 :: ?s3 :: ?s4 :: ?s5 :: ?s6 :: ?r))
  refine (?g : HeardF lawSt)
  refine (?_ : List Stmt)
  exact ?r
noncomputable def lawRest : List Stmt := by
  refine (?i : List Stmt)
  refine (?h : HeardF (?f :: ?r))
  refine (?g : HeardF lawLoop)
  refine (?_ : List Stmt)
  exact ?r
noncomputable def HeardE (_ : List Stmt) : Type := Expr
noncomputable def lawTurn : List Stmt := by
  refine (?i : List Stmt)
  refine (?h : HeardF (.For ?t ?i2 ?b ?o ?p :: ?r))
  refine (?g : HeardF lawLoop)
  refine (?_ : List Stmt)
  exact ?b

open PySem PySem.W PyProof.Rows
noncomputable def timesSc : Scope := by
  refine (?i : Scope)
  refine (?h : HeardC (some (?p, ?b, ?s)))
  refine (?g : HeardC (fnAt 20))
  refine (?_ : Scope)
  exact ?s
noncomputable def timesPush : List Stmt := by
  refine (?i : List Stmt)
  refine (?h : HeardB (some (?p, ?s1 :: .For ?t ?i2 ?b ?o ?ps :: ?r, ?s)))
  refine (?g : HeardB (fnAt 20))
  refine (?_ : List Stmt)
  exact ?b
noncomputable def timesColl : List Stmt := by
  refine (?i : List Stmt)
  refine (?h : HeardB (some (?p, ?s1 :: ?s2 :: ?s3 :: .For ?t ?i2 ?b ?o ?ps :: ?r, ?s)))
  refine (?g : HeardB (fnAt 20))
  refine (?_ : List Stmt)
  exact ?b
noncomputable def HeardT (_ : Option (Arguments × List Stmt × Scope)) : Type := Expr
noncomputable def timesT1 : Expr := by
  refine (?i : Expr)
  refine (?h : HeardT (some (?p, ?s1 :: .For ?t ?i2 ?b ?o ?ps :: ?r, ?s)))
  refine (?g : HeardT (fnAt 20))
  refine (?_ : Expr)
  exact ?t

open PySem PySem.W PyProof.Rows PySem.Calls PySem.Builtin PySem.Builtin.Re
noncomputable def TabO (w : World) (x dx l : Addr) (tkh : Tok) (c : Nat) (rs : List Value) (ts : List (Addr × Obj)) : List (Addr × Obj) := (x, instObj 171 dx) :: (dx, hdrD w tkh l) :: (l, W.listOf rs.toArray c) :: ts
theorem listOf_push (rs : List Value) (x : Value) (n : Nat) : W.listOf (rs.toArray.push x) n = W.listOf (rs ++ [x]).toArray n := by rw [List.push_toArray]
theorem sub_last {a b : Addr × Obj} {c : Addr} {o o' : Obj} {t : Addr × Obj} {ts : List (Addr × Obj)} (e : o = o') : ∀ p ∈ a :: b :: (c, o') :: (ts ++ [t]), p ∈ t :: a :: b :: (c, o) :: ts := by
  subst e
  intro p hp
  simp only [List.mem_cons, List.mem_append, List.not_mem_nil, or_false] at hp ⊢
  rcases hp with h | h | h | h | h
  · exact .inr (.inl h)
  · exact .inr (.inr (.inl h))
  · exact .inr (.inr (.inr (.inl h)))
  · exact .inr (.inr (.inr (.inr h)))
  · exact .inl h
theorem newsL_sub {g h : Heap} {L : Addr} {small big : List (Addr × Obj)} (N : News g L h big) (hs : ∀ p ∈ small, p ∈ big) : News g L h small := fun p hp => N p (hs p hp)
theorem pick_all (rs : List Value) : kms_pick rs.toArray.toList none none = rs := by
  simp [kms_pick, kms_lo, kms_hi]
theorem size_rs {rs : List Value} (h : rs.length < 1000) : rs.toArray.size ≤ sizeLine := by
  rw [sizeLine_eq, List.size_toArray]; omega
theorem len_rs {rs : List Value} (h : rs.length < 1000) : (rs.toArray.size : Int) = (rs.length : Int) ∧ (rs.length : Int) ≤ 16384 := by
  rw [List.size_toArray]; omega
theorem rowsHT : True := by
  k_with_none
  k_with "storeName" => (k_here; k_dflt (refine' storeX_Lr ?F ?N ?a ?b ?_; (case a => exact rfl); (case b => exact rfl); (case F => k_asm); (case N => k_asm); k_whole; intro _ _ _; (try k_sweep)))
  k_with "eval Name" => (k_here; k_dflt (refine' nameX_Lr ?F ?a ?b ?v ?_; (case a => exact rfl); (case b => exact rfl); (case F => k_asm); (case v => exact rfl); k_whole))
  k_with "execs cons" => (refine wpAny_execs_cons ?_; (try k_fold))
  k_with "call ref" => (k_here; (with_reducible show wpAny _ _ (call (Value.ref 70) [_, Value.str _ _] _) _ _ _); k_dflt ((show wpAny _ _ (call (Value.ref 70) [_, Value.str _ _] [(Str.ofString "name", Value.bool true)]) _ _ _); refine' SpecK.use (convN _ _ ?q _ _ _) ?B ?F ?X ?N ?T ?hA ?hK ?hh ?hd ?hu ?_; (case hA => exact rfl); (case B => k_asm); (case F => k_asm); (case X => k_asm); (case N => k_asm); (case T => k_asm); (case hK => first | rfl | assumption); (case hh => rfl); (case hd => exact Nat.le_of_ble_eq_true rfl); (case hu => exact Nat.le_of_ble_eq_true rfl); (case q => first | assumption | exact quiet_names (by assumption) | decide +kernel); k_whole; (rintro v' news' h' tk' ⟨⟨t', e1'⟩, e2'⟩ F' N'); subst e1'; subst e2'; (try k_sweep)))
  k_with "call ref" => (k_here; (with_reducible show wpAny _ _ (call (Value.ref 70) [_, Value.str _ _] _) _ _ _); k_dflt ((show wpAny _ _ (call (Value.ref 70) [_, Value.str _ _] [(Str.ofString "name", Value.bool false)]) _ _ _); refine' SpecK.use (convV _ _ ?q _ _ _) ?B ?F ?X ?N ?T ?hA ?hK ?hh ?hd ?hu ?_; (case hA => exact rfl); (case B => k_asm); (case F => k_asm); (case X => k_asm); (case N => k_asm); (case T => k_asm); (case hK => first | rfl | assumption); (case hh => rfl); (case hd => exact Nat.le_of_ble_eq_true rfl); (case hu => exact Nat.le_of_ble_eq_true rfl); (case q => first | assumption | exact quiet_words (by assumption) (by assumption) | decide +kernel); k_whole; (rintro v' news' h' tk' ⟨⟨t', e1'⟩, e2'⟩ F' N'); subst e1'; subst e2'; (try k_sweep)))
  k_with "call builtin:str.lower" => (k_here; k_dflt ((show wpAny _ _ (call (Value.builtin "str.lower") [Value.str (Nm _) _]) _ _ _); refine lower_nm (by assumption) ?_; intro _ _))
  k_with "exec For Tuple Attribute" => (k_here; (rename Fr _ _ _ _ => lF'); (with_unfolding_all refine' For_turns lF' ?_; k_whole))
  trivial
theorem items_g (w : World) (x dx l : Addr) (tkh : Tok) (c : Nat) (rs : List Value) (ts : List (Addr × Obj)) (hl : rs.length < 1000) :
    SpecG 690 4800 w 135 [.ref x] [] (TabO w x dx l tkh c rs ts) (fun v sm => ∃ D c', (∀ q ∈ TabO w x dx l tkh c rs ts, @LT.lt Nat _ q.1 D) ∧ v = .ref D ∧ sm = (D, W.listOf rs.toArray c') :: TabO w x dx l tkh c rs ts) := by
  k_with "subscriptTail Name Slice ref ref" => (k_here; k_dflt (refine' kms_slice_lit (zs := rs) ?F ?N ?l ?p ?q ?e ?_ ?s ?t ?z; (case F => k_asm); (case N => k_asm); (case l => kmk_list); (case p => kmk_part); (case q => kmk_part); (case e => exact pick_all rs); (case s => with_unfolding_all rfl); (case t => kmk_pure); (case z => exact size_rs hl)); intro D' h' F' N' l1; (try k_sweep))
  (unfold SpecG; k_fill; intro p loose mean mg mb envs base g s Q E hg hsm B X T hret; k_dflt (refine' call_S ?k1 ?k2 ?k3 ?k4 ?k5 ?k10 ?k6 ?k7 ?k8 ?k9 ?kB ?_ ?c2 ?c3 ?c4 ?c5; (case k1 => k_asm); (case k2 => k_asm); (case k3 => k_asm); (case k4 => k_asm); (case k5 => k_asm); (case k10 => k_asm); (case k6 => k_is); (case k7 => k_is); (case k8 => decide); (case k9 => first | exact BindsTo.of_eq rfl | exact binds_K (by k_in) rfl (by k_is) rfl rfl rfl | exact binds_K (in_of_hide (by assumption) (by assumption)) rfl (by k_is) rfl rfl rfl); (case c5 => decide); (case kB => exact locs rfl); (case c2 => exact rfl); (case c3 => exact rfl); (case c4 => exact rfl); k_whole; intro L' h' F' N'; (try unfold TabO at N'); (try dsimp only); (try k_fold)))
  k_steps
  k_dflt (show LeaveS _ _ _ _)
  exact leaveS_ (by k_asm) (by k_asm) ⟨⟨D', 0, l1, rfl, rfl⟩, rfl, rfl, rfl⟩
theorem len_g (w : World) (x dx l : Addr) (tkh : Tok) (c : Nat) (rs : List Value) (ts : List (Addr × Obj)) (hl : rs.length < 1000) :
    SpecG 690 4800 w 77 [.ref x] [] (TabO w x dx l tkh c rs ts) (IntP rs.length (TabO w x dx l tkh c rs ts)) := by
  k_with "call builtin:len" => (k_here; (with_reducible show wpAny _ _ (call (Value.builtin "len") [Value.ref _]) _ _ _); k_dflt (refine' kun_lenL (k := (rs.length : Int)) ?k1 ?k2 ?k3 ?_; (case k1 => exact News.isList (by k_asm) (by k_mem)); (case k2 => exact (len_rs hl).1); (case k3 => exact (len_rs hl).2); k_whole))
  (unfold SpecG; k_fill; intro p loose mean mg mb envs base g s Q E hg hsm B X T hret; k_dflt (refine' call_S ?k1 ?k2 ?k3 ?k4 ?k5 ?k10 ?k6 ?k7 ?k8 ?k9 ?kB ?_ ?c2 ?c3 ?c4 ?c5; (case k1 => k_asm); (case k2 => k_asm); (case k3 => k_asm); (case k4 => k_asm); (case k5 => k_asm); (case k10 => k_asm); (case k6 => k_is); (case k7 => k_is); (case k8 => decide); (case k9 => first | exact BindsTo.of_eq rfl | exact binds_K (by k_in) rfl (by k_is) rfl rfl rfl | exact binds_K (in_of_hide (by assumption) (by assumption)) rfl (by k_is) rfl rfl rfl); (case c5 => decide); (case kB => exact locs rfl); (case c2 => exact rfl); (case c3 => exact rfl); (case c4 => exact rfl); k_whole; intro L' h' F' N'; (try unfold TabO at N'); (try dsimp only); (try k_fold)))
  k_steps
  k_dflt (show LeaveS _ _ _ _)
  exact leaveS_ (by k_asm) (by k_asm) ⟨⟨⟨_, rfl⟩, rfl⟩, rfl, rfl, rfl⟩
theorem sdO_g (w : World) (x dx l : Addr) (tkh : Tok) (c : Nat) (rs : List Value) (ts : List (Addr × Obj)) (tq tv : Tok) (k : Nat) (hk : k < 5) (v : Int) (hv0 : 0 ≤ v) (hv1 : v < 151) (es : List (Nat × Int)) (hent : EntIn (TabO w x dx l tkh c rs ts) rs es) (hke : ∀ e ∈ es, e.1 < 5) (hl : rs.length < 1000) (u : Int) (hg9 : ∀ z, GetP es k z → ∃ t, z = .str (Lw u) t) :
    SpecG 680 4500 w 161 [.ref x, .str (Nm k) tq, .str (Lw v) tv] [] (TabO w x dx l tkh c rs ts) (fun r sm => sm = TabO w x dx l tkh c rs ts ∧ ∃ t, r = .str (Lw u) t) := by
  k_with "call ref" => (k_here; (with_reducible show wpAny _ _ (call (Value.ref 118) [Value.ref _, Value.str _ _] _) _ _ _); k_dflt (refine' SpecG.use (get_g w x dx l tkh _ c k hk rs es (TabO w x dx l tkh c rs ts) hent hke (.head _) (.tail _ (.head _)) (.tail _ (.tail _ (.head _)))) [] ?B ?F ?X ?N ?T ?hA ?hf ?hK ?hh ?hd ?hu ?hs ?hr ?hn ?_; (case hA => exact rfl); (case hf => exact rfl); (case hK => exact rfl); (case hh => exact rfl); (case B => k_asm); (case F => k_asm); (case X => k_asm); (case N => k_asm); (case T => k_asm); (case hs => exact fun q hq => hq); (case hd => exact Nat.le_of_ble_eq_true rfl); (case hu => exact Nat.le_of_ble_eq_true rfl); (case hr => exact List.forall_mem_nil _); (case hn => exact List.forall_mem_nil _); k_whole; (rintro v' sm' h' tk' ⟨e1', e2'⟩ F' N' hA'); subst e2'; (obtain ⟨t9, e9⟩ := hg9 _ e1'); subst e9; (rw [List.append_nil] at N'); (try unfold TabO at N'); (try k_sweep)))
  (unfold SpecG; k_fill; intro p loose mean mg mb envs base g s Q E hg hsm B X T hret; k_dflt (refine' call_S ?k1 ?k2 ?k3 ?k4 ?k5 ?k10 ?k6 ?k7 ?k8 ?k9 ?kB ?_ ?c2 ?c3 ?c4 ?c5; (case k1 => k_asm); (case k2 => k_asm); (case k3 => k_asm); (case k4 => k_asm); (case k5 => k_asm); (case k10 => k_asm); (case k6 => k_is); (case k7 => k_is); (case k8 => decide); (case k9 => first | exact BindsTo.of_eq rfl | exact binds_K (by k_in) rfl (by k_is) rfl rfl rfl | exact binds_K (in_of_hide (by assumption) (by assumption)) rfl (by k_is) rfl rfl rfl); (case c5 => decide); (case kB => exact locs rfl); (case c2 => exact rfl); (case c3 => exact rfl); (case c4 => exact rfl); k_whole; intro L' h' F' N'; (try unfold TabO at N'); (try dsimp only); (try k_fold)))
  k_steps
  k_dflt (show LeaveS _ _ _ _)
  exact leaveS_ (by k_asm) (by k_asm) ⟨⟨rfl, t9, rfl⟩, rfl, rfl, rfl⟩
theorem sdN_g (w : World) (x dx l : Addr) (tkh : Tok) (c : Nat) (rs : List Value) (ts : List (Addr × Obj)) (tq tv : Tok) (k : Nat) (hk : k < 5) (v : Int) (hv0 : 0 ≤ v) (hv1 : v < 151) (es : List (Nat × Int)) (hent : EntIn (TabO w x dx l tkh c rs ts) rs es) (hke : ∀ e ∈ es, e.1 < 5) (hl : rs.length < 1000) (hg9 : ∀ z, GetP es k z → z = .none) (hx9 : @Ne Nat x l) (hd9 : @Ne Nat dx l) (ht9 : ∀ q ∈ ts, @Ne Nat q.1 l) :
    SpecG 680 4500 w 161 [.ref x, .str (Nm k) tq, .str (Lw v) tv] [] (TabO w x dx l tkh c rs ts) (fun r sm => (∃ T c' t u, (∀ q ∈ TabO w x dx l tkh c rs ts, @LT.lt Nat _ q.1 T) ∧ sm = TabO w x dx l tkh c' (rs ++ [.ref T]) (ts ++ [(T, tupO (.str (Nm k) t) (.str (Lw v) u))])) ∧ ∃ t, r = .str (Lw v) t) := by
  k_with "call ref" => (k_here; (with_reducible show wpAny _ _ (call (Value.ref 118) [Value.ref _, Value.str _ _] _) _ _ _); k_dflt (refine' SpecG.use (get_g w x dx l tkh _ c k hk rs es (TabO w x dx l tkh c rs ts) hent hke (.head _) (.tail _ (.head _)) (.tail _ (.tail _ (.head _)))) [] ?B ?F ?X ?N ?T ?hA ?hf ?hK ?hh ?hd ?hu ?hs ?hr ?hn ?_; (case hA => exact rfl); (case hf => exact rfl); (case hK => exact rfl); (case hh => exact rfl); (case B => k_asm); (case F => k_asm); (case X => k_asm); (case N => k_asm); (case T => k_asm); (case hs => exact fun q hq => hq); (case hd => exact Nat.le_of_ble_eq_true rfl); (case hu => exact Nat.le_of_ble_eq_true rfl); (case hr => exact List.forall_mem_nil _); (case hn => exact List.forall_mem_nil _); k_whole; (rintro v' sm' h' tk' ⟨e1', e2'⟩ F' N' hA'); subst e2'; (have e9 := hg9 _ e1'); subst e9; (rw [List.append_nil] at N'); (try unfold TabO at N'); (try k_sweep)))
  k_with "newTuple" => (k_here; k_dflt (refine' kup_newTuple ?F ?N ?_ ?z; (case F => k_asm); (case N => k_asm); (case z => kmk_size)); intro D' h' F' N' lD'; (try k_sweep))
  k_with "call builtin:list.append" => (k_here; k_dflt (refine' append_K ?k1 ?k2 (Upd.tail (p := (D', _)) (Nat.ne_of_gt (lD' _ (.tail _ (.tail _ (.head _))))) (Upd.tail (p := (x, instObj 171 dx)) hx9 (Upd.tail (p := (dx, hdrD w tkh l)) hd9 (Upd.head ht9)))) ?_ ?z; (case k1 => k_asm); (case k2 => k_asm); (case z => exact size_rs hl); k_whole); intro h' F' N'; (try k_sweep))
  (unfold SpecG; k_fill; intro p loose mean mg mb envs base g s Q E hg hsm B X T hret; k_dflt (refine' call_S ?k1 ?k2 ?k3 ?k4 ?k5 ?k10 ?k6 ?k7 ?k8 ?k9 ?kB ?_ ?c2 ?c3 ?c4 ?c5; (case k1 => k_asm); (case k2 => k_asm); (case k3 => k_asm); (case k4 => k_asm); (case k5 => k_asm); (case k10 => k_asm); (case k6 => k_is); (case k7 => k_is); (case k8 => decide); (case k9 => first | exact BindsTo.of_eq rfl | exact binds_K (by k_in) rfl (by k_is) rfl rfl rfl | exact binds_K (in_of_hide (by assumption) (by assumption)) rfl (by k_is) rfl rfl rfl); (case c5 => decide); (case kB => exact locs rfl); (case c2 => exact rfl); (case c3 => exact rfl); (case c4 => exact rfl); k_whole; intro L' h' F' N'; (try unfold TabO at N'); (try dsimp only); (try k_fold)))
  k_steps
  k_dflt (show LeaveS _ _ _ _)
  exact leaveS_ (by k_asm) (newsL_sub (by k_asm) (sub_last (listOf_push rs _ _))) ⟨⟨⟨D', _, _, _, lD', rfl⟩, _, rfl⟩, rfl, rfl, rfl⟩

open PySem PySem.W PyProof.Rows PySem.Calls PySem.Builtin
inductive RowsOk : Addr → List (Nat × Int) → List Value → List (Addr × Obj) → Prop
  | nil {b : Addr} : RowsOk b [] [] []
  | cons {b T : Addr} {k : Nat} {v : Int} {t u : Tok} {es : List (Nat × Int)} {rs : List Value} {ts : List (Addr × Obj)} : @LT.lt Nat _ b T → RowsOk T es rs ts → RowsOk b ((k, v) :: es) (.ref T :: rs) ((T, tupO (.str (Nm k) t) (.str (Lw v) u)) :: ts)
noncomputable def TabL (w : World) (X : Lx) (m : Addr) (es : List (Nat × Int)) (tab : List (Addr × Obj)) : Prop :=
  ∃ dx l rs ts tk c, @LT.lt Nat _ X.l dx ∧ @LT.lt Nat _ dx m ∧ @LT.lt Nat _ m l ∧ RowsOk l es rs ts ∧ tab = (m, instObj 171 dx) :: (dx, hdrD w tk l) :: (l, W.listOf rs.toArray c) :: ts
theorem rowsOk_gt {es : List (Nat × Int)} {b : Addr} {rs : List Value} {ts : List (Addr × Obj)} (h : RowsOk b es rs ts) : ∀ q ∈ ts, @LT.lt Nat _ b q.1 := by
  induction h with
  | nil => intro q h; cases h
  | cons hb _ ih =>
    intro q h
    rcases List.mem_cons.mp h with rfl | h
    · exact hb
    · exact Nat.lt_trans hb (ih q h)
theorem tabL_gt {w : World} {X : Lx} {m : Addr} {es : List (Nat × Int)} {tab : List (Addr × Obj)} (h : TabL w X m es tab) : ∀ q ∈ tab, @LT.lt Nat _ X.l q.1 := by
  obtain ⟨dx, l, rs, ts, tk, c, h1, h2, h3, h4, rfl⟩ := h
  intro q hq
  have g2 := Nat.lt_trans h1 h2
  have g3 := Nat.lt_trans g2 h3
  rcases List.mem_cons.mp hq with rfl | hq
  · exact g2
  rcases List.mem_cons.mp hq with rfl | hq
  · exact h1
  rcases List.mem_cons.mp hq with rfl | hq
  · exact g3
  · exact Nat.lt_trans g3 (rowsOk_gt h4 q hq)
theorem tabL_inst {w : World} {X : Lx} {m : Addr} {es : List (Nat × Int)} {tab : List (Addr × Obj)} (h : TabL w X m es tab) : ∃ dx l tk, (m, instObj 171 dx) ∈ tab ∧ (dx, hdrD w tk l) ∈ tab := by
  obtain ⟨dx, l, rs, ts, tk, c, h1, h2, h3, h4, rfl⟩ := h
  exact ⟨dx, l, tk, .head _, .tail _ (.head _)⟩
theorem rowsOk_0 {b : Addr} {rs : List Value} {ts : List (Addr × Obj)} (h : RowsOk b [] rs ts) : rs = [] ∧ ts = [] := by
  cases h; exact ⟨rfl, rfl⟩
theorem rowsOk_s {b : Addr} {k : Nat} {v : Int} {es : List (Nat × Int)} {rs : List Value} {ts : List (Addr × Obj)} (h : RowsOk b ((k, v) :: es) rs ts) : ∃ T t u rs' ts', rs = .ref T :: rs' ∧ ts = (T, tupO (.str (Nm k) t) (.str (Lw v) u)) :: ts' ∧ @LT.lt Nat _ b T ∧ RowsOk T es rs' ts' := by
  cases h with
  | cons hb hr => exact ⟨_, _, _, _, _, rfl, rfl, hb, hr⟩
theorem rowsOk_ent {es : List (Nat × Int)} {b : Addr} {rs : List Value} {ts : List (Addr × Obj)} (h : RowsOk b es rs ts) : ∀ {tab : List (Addr × Obj)}, (∀ q ∈ ts, q ∈ tab) → EntIn tab rs es := by
  induction h with
  | nil => intro tab _; exact entIn_nil
  | cons hb hr ih => intro tab hs; exact entIn_cons (hs _ (.head _)) (ih fun q hq => hs q (.tail _ hq))
theorem rowsOk_snoc {es : List (Nat × Int)} {b T : Addr} {k : Nat} {v : Int} {t u : Tok} {rs : List Value} {ts : List (Addr × Obj)} (h : RowsOk b es rs ts) : @LT.lt Nat _ b T → (∀ q ∈ ts, @LT.lt Nat _ q.1 T) → RowsOk b (es ++ [(k, v)]) (rs ++ [.ref T]) (ts ++ [(T, tupO (.str (Nm k) t) (.str (Lw v) u))]) := by
  induction h with
  | nil => intro hb _; exact .cons hb .nil
  | cons hb' hr ih => intro hb hT; exact .cons hb' (ih (hT _ (.head _)) fun q hq => hT q (.tail _ hq))
theorem rowsOk_len {es : List (Nat × Int)} {b : Addr} {rs : List Value} {ts : List (Addr × Obj)} (h : RowsOk b es rs ts) : rs.length = es.length := by
  induction h with
  | nil => rfl
  | cons _ _ ih => exact congrArg (· + 1) ih
theorem getP_no {k : Nat} {z : Value} : ∀ {es : List (Nat × Int)}, (∀ e ∈ es, e.1 ≠ k) → GetP es k z → z = .none
  | [], _, hz => hz
  | e :: r, h, hz => by
    unfold GetP at hz
    rw [if_neg (h e (.head _))] at hz
    exact getP_no (fun e he => h e (.tail _ he)) hz
theorem getP_yes {k : Nat} {u : Int} {z : Value} : ∀ {es : List (Nat × Int)}, (∀ e ∈ es, e.1 ≠ k) → GetP (es ++ [(k, u)]) k z → ∃ t, z = .str (Lw u) t
  | [], _, hz => by
    have hz : GetP [(k, u)] k z := hz
    unfold GetP at hz
    rwa [if_pos rfl] at hz
  | e :: r, h, hz => by
    have hz : GetP (e :: (r ++ [(k, u)])) k z := hz
    unfold GetP at hz
    rw [if_neg (h e (.head _))] at hz
    exact getP_yes (fun e he => h e (.tail _ he)) hz
theorem names_ok {es : List (Nat × Int)} {ks : List Nat} {k : Nat} (he : es.map (·.1) = ks) (h : (ks.all fun i => decide (i < 5) && decide (i ≠ k)) = true) : ∀ e ∈ es, e.1 < 5 ∧ e.1 ≠ k := by
  subst he
  intro e hm
  have := List.all_eq_true.mp h _ (List.mem_map_of_mem hm)
  rw [Bool.and_eq_true] at this
  exact ⟨of_decide_eq_true this.1, of_decide_eq_true this.2⟩
theorem sdN {w : World} {X : Lx} {m : Addr} {es : List (Nat × Int)} {tab : List (Addr × Obj)} {k : Nat} {v : Int} (h : TabL w X m es tab) (hes : ∀ e ∈ es, e.1 < 5 ∧ e.1 ≠ k) (hl : es.length < 1000) (hk : k < 5) (hv0 : 0 ≤ v) (hv1 : v < 151) (tq tv : Tok) :
    SpecG 680 4500 w 161 [.ref m, .str (Nm k) tq, .str (Lw v) tv] [] tab (fun r sm => TabL w X m (es ++ [(k, v)]) sm ∧ ∃ t, r = .str (Lw v) t) := by
  obtain ⟨dx, l, rs, ts, tk, c, g0, g1, g2, hr, rfl⟩ := h
  have hg := rowsOk_gt hr
  refine SpecG.mono (sdN_g w m dx l tk c rs ts tq tv k hk v hv0 hv1 es (rowsOk_ent hr fun q hq => .tail _ (.tail _ (.tail _ hq))) (fun e he => (hes e he).1) (by rw [rowsOk_len hr]; exact hl) (fun z => getP_no fun e he => (hes e he).2) (Nat.ne_of_lt g2) (Nat.ne_of_lt (Nat.lt_trans g1 g2)) (fun q hq => Nat.ne_of_gt (hg q hq))) fun r sm h => ?_
  obtain ⟨⟨T, c', t, u, hlt, rfl⟩, hr2⟩ := h
  exact ⟨⟨dx, l, _, _, tk, c', g0, g1, g2, rowsOk_snoc hr (hlt (l, _) (.tail _ (.tail _ (.head _)))) (fun q hq => hlt q (.tail _ (.tail _ (.tail _ hq)))), rfl⟩, hr2⟩
theorem sdO {w : World} {X : Lx} {m : Addr} {es : List (Nat × Int)} {tab : List (Addr × Obj)} {k : Nat} {u v : Int} (h : TabL w X m (es ++ [(k, u)]) tab) (hes : ∀ e ∈ es, e.1 < 5 ∧ e.1 ≠ k) (hl : es.length < 900) (hk : k < 5) (hv0 : 0 ≤ v) (hv1 : v < 151) (tq tv : Tok) :
    SpecG 680 4500 w 161 [.ref m, .str (Nm k) tq, .str (Lw v) tv] [] tab (fun r sm => TabL w X m (es ++ [(k, u)]) sm ∧ ∃ t, r = .str (Lw u) t) := by
  have h0 := h
  obtain ⟨dx, l, rs, ts, tk, c, g0, g1, g2, hr, rfl⟩ := h
  refine SpecG.mono (sdO_g w m dx l tk c rs ts tq tv k hk v hv0 hv1 _ (rowsOk_ent hr fun q hq => .tail _ (.tail _ (.tail _ hq))) (fun e he => ?_) (by rw [rowsOk_len hr, List.length_append]; exact Nat.lt_of_lt_of_le (Nat.add_lt_add_right hl 1) (by decide)) u (fun z => getP_yes fun e he => (hes e he).2)) fun r sm h => ?_
  · rcases List.mem_append.mp he with he | he
    · exact (hes e he).1
    · rw [List.mem_singleton.mp he]; exact hk
  · obtain ⟨rfl, hr⟩ := h
    exact ⟨h0, hr⟩
theorem get_L {w : World} {X : Lx} {m : Addr} {es : List (Nat × Int)} {tab : List (Addr × Obj)} (h : TabL w X m es tab) (hk : ∀ e ∈ es, e.1 < 5) (q : Nat) (hq : q < 5) (tq : Tok) :
    SpecG 700 5000 w 118 [.ref m, .str (Nm q) tq] [] tab (fun v sm => GetP es q v ∧ sm = tab) := by
  obtain ⟨dx, l, rs, ts, tk, c, g0, g1, g2, hr, rfl⟩ := h
  exact get_g w m dx l tk tq c q hq rs es _ (rowsOk_ent hr fun q hq => .tail _ (.tail _ (.tail _ hq))) hk (.head _) (.tail _ (.head _)) (.tail _ (.tail _ (.head _)))
theorem set_2 (w : World) {X : Lx} {m : Addr} {tab : List (Addr × Obj)} {k : Nat} {v : Int} {k0 : Nat} {n0 u : Int} (h : TabL w X m [(k0, n0), (k, u)] tab) (hk : k < 5) (hv0 : 0 ≤ v) (hv1 : v < 151) (hk0 : k0 < 5) (hq0 : Differ k0 k) (tq tv : Tok) :
    SpecG 680 4500 w 84 [.ref m, .str (Nm k) tq, .str (Lw v) tv] [] tab (fun _ sm => TabL w X m [(k0, n0), (k, v)] sm) := by
  obtain ⟨dx, l, rs, ts, tk, c, g0, g1, g2, hr, rfl⟩ := h
  obtain ⟨T0, t0, u0, rs, ts, rfl, rfl, o0, hr⟩ := rowsOk_s hr
  obtain ⟨T1, t1, u1, rs, ts, rfl, rfl, o1, hr⟩ := rowsOk_s hr
  obtain ⟨rfl, rfl⟩ := rowsOk_0 hr
  refine SpecG.mono (setitem_2 w m dx l tk tq tv c k hk v hv0 hv1 T0 k0 n0 t0 u0 hk0 hq0 T1 u t1 u1 g1 g2 o0 o1) fun r sm h => ?_
  obtain ⟨T, c', t, u', hlt, rfl⟩ := h
  exact ⟨dx, l, [.ref T0, .ref T], _, tk, c', g0, g1, g2, .cons (o0) (.cons (Nat.lt_trans o1 hlt) .nil), rfl⟩
theorem set_3 (w : World) {X : Lx} {m : Addr} {tab : List (Addr × Obj)} {k : Nat} {v : Int} {k0 k1 : Nat} {n0 n1 u : Int} (h : TabL w X m [(k0, n0), (k1, n1), (k, u)] tab) (hk : k < 5) (hv0 : 0 ≤ v) (hv1 : v < 151) (hk0 : k0 < 5) (hq0 : Differ k0 k) (hk1 : k1 < 5) (hq1 : Differ k1 k) (tq tv : Tok) :
    SpecG 680 4500 w 84 [.ref m, .str (Nm k) tq, .str (Lw v) tv] [] tab (fun _ sm => TabL w X m [(k0, n0), (k1, n1), (k, v)] sm) := by
  obtain ⟨dx, l, rs, ts, tk, c, g0, g1, g2, hr, rfl⟩ := h
  obtain ⟨T0, t0, u0, rs, ts, rfl, rfl, o0, hr⟩ := rowsOk_s hr
  obtain ⟨T1, t1, u1, rs, ts, rfl, rfl, o1, hr⟩ := rowsOk_s hr
  obtain ⟨T2, t2, u2, rs, ts, rfl, rfl, o2, hr⟩ := rowsOk_s hr
  obtain ⟨rfl, rfl⟩ := rowsOk_0 hr
  refine SpecG.mono (setitem_3 w m dx l tk tq tv c k hk v hv0 hv1 T0 k0 n0 t0 u0 hk0 hq0 T1 k1 n1 t1 u1 hk1 hq1 T2 u t2 u2 g1 g2 o0 o1 o2) fun r sm h => ?_
  obtain ⟨T, c', t, u', hlt, rfl⟩ := h
  exact ⟨dx, l, [.ref T0, .ref T1, .ref T], _, tk, c', g0, g1, g2, .cons (o0) (.cons (o1) (.cons (Nat.lt_trans o2 hlt) .nil)), rfl⟩
structure SrcOk (w : World) (X : Lx) (x : Addr) (es : List (Nat × Int)) (tab : List (Addr × Obj)) : Prop where
  inst : ∃ dx l tk, (x, instObj 171 dx) ∈ tab ∧ (dx, hdrD w tk l) ∈ tab
  gt : ∀ q ∈ tab, @LT.lt Nat _ X.l q.1
  items : ∃ rs, EntIn tab rs es ∧ SpecG 690 4800 w 135 [.ref x] [] tab (fun v sm => ∃ D c, @LT.lt Nat _ X.l D ∧ v = .ref D ∧ sm = (D, W.listOf rs.toArray c) :: tab)
  len : SpecG 690 4800 w 77 [.ref x] [] tab (IntP es.length tab)
theorem srcO {w : World} {X : Lx} {x dx l : Addr} {tk : Tok} {c : Nat} {rs : List Value} {ts : List (Addr × Obj)} {es : List (Nat × Int)} (hgt : ∀ q ∈ TabO w x dx l tk c rs ts, @LT.lt Nat _ X.l q.1) (hent : EntIn (TabO w x dx l tk c rs ts) rs es) (hl : es.length < 1000) : SrcOk w X x es (TabO w x dx l tk c rs ts) := by
  have hl2 : rs.length < 1000 := hent.1 ▸ hl
  refine ⟨⟨dx, l, tk, .head _, .tail _ (.head _)⟩, hgt, ⟨rs, hent, ?_⟩, hent.1 ▸ len_g w x dx l tk c rs ts hl2⟩
  exact SpecG.mono (items_g w x dx l tk c rs ts hl2) fun v sm h => let ⟨D, c', o', e1, e2⟩ := h; ⟨D, c', Nat.lt_trans (hgt (x, _) (.head _)) (o' (x, _) (.head _)), e1, e2⟩
theorem src_L {w : World} {X : Lx} {m : Addr} {es : List (Nat × Int)} {tab : List (Addr × Obj)} (h : TabL w X m es tab) (hl : es.length < 1000) : SrcOk w X m es tab := by
  have hg := tabL_gt h
  obtain ⟨dx, l, rs, ts, tk, c, g0, g1, g2, hr, rfl⟩ := h
  exact srcO hg (rowsOk_ent hr fun q hq => .tail _ (.tail _ (.tail _ hq))) hl
theorem src_1 {w : World} {X : Lx} {m : Addr} {tab : List (Addr × Obj)} {n0 : Int} (h : Tab1 w X m n0 tab) : SrcOk w X m [(0, n0)] tab := by
  obtain ⟨dx, l, T0, tk, t0, u0, c, ⟨h1, h2, h3, h4⟩, rfl⟩ := h
  have g2 := Nat.lt_trans h1 h2
  have g3 := Nat.lt_trans g2 h3
  exact srcO (rs := [.ref T0]) (fmc (Nat.lt_trans g3 h4) (fmc g3 (fmc g2 (fmc h1 (List.forall_mem_nil _))))) (entIn_cons (.tail _ (.tail _ (.tail _ (.head _)))) entIn_nil) (by show 1 < 1000; decide)
noncomputable def Tab2 (w : World) (X : Lx) (x : Addr) (v0 v1 : Int) (tab : List (Addr × Obj)) : Prop := TabL w X x [(1, v0), (0, v1)] tab
noncomputable def Tab3 (w : World) (X : Lx) (x : Addr) (v0 v1 v2 : Int) (tab : List (Addr × Obj)) : Prop := TabL w X x [(2, v0), (1, v1), (0, v2)] tab
noncomputable def Tab4 (w : World) (X : Lx) (x : Addr) (v0 v1 v2 v3 : Int) (tab : List (Addr × Obj)) : Prop := TabL w X x [(3, v0), (2, v1), (1, v2), (0, v3)] tab

theorem clrTP : True := by
  k_with_none
  trivial
open PySem PySem.W PyProof.Rows PySem.Calls PySem.Builtin
theorem lex_pre {w : World} {X : Lx} (H : LexH X) {ln : Int} {u1 : Tok} {vs : List Value} {c3 : Nat} {ps : List Value} {c4 : Nat} {pr : List (Addr × Obj)} (hgt : ∀ q ∈ pr, @LT.lt Nat _ X.l q.1) : ∀ p ∈ lexG w X ln u1 vs c3 ps c4, ∀ q ∈ pr, p.1 ≠ q.1 := fun p hp q hq e => by
  have h1 : @LE.le Nat _ p.1 X.l := by
    have := lexL_le H (w := w) (ln := ln) (u1 := u1) (vs := vs) (c3 := c3) (pb := ps.toArray) (c4 := c4) p (by rwa [lexG_eq] at hp)
    exact this.2
  rw [e] at h1
  exact Nat.lt_irrefl _ (Nat.lt_of_lt_of_le (hgt q hq) h1)
theorem push_turn (w : World) (X : Lx) (HL : LexH X) {ln : Int} {u1 : Tok} {c3 c4 : Nat} {vs ps : List Value} {k : Nat} {v r : Int} {tw tn tr : Tok} {pre : List (Addr × Obj)} {pr : Program} {loose : List Str} {mean : ExcName → Option Value} {mg mb : Str → Option Value} {outer : List Env} {A₀ : Around} {base g : Heap} {L f : Addr} {cd : Value} {m₀ : Str → Option Value} {s : Shared} {Q : Flow → Shared → Prop}
    (hk : k < 4) (hv0 : 0 ≤ v) (hv1 : v < 100) (hr0 : 1 ≤ r) (hr1 : r < 31) (hps : ps.length + 4 < 4000) (hgt : ∀ q ∈ pre, @LT.lt Nat _ X.l q.1)
    (B : Below A₀ base outer g) (F : Fr g L s.heap (fun y => if y = Str.ofString "word" then some (.str (Lw v) tw) else if y = Str.ofString "name" then some (.str (Nm k) tn) else if y = Str.ofString "root" then some (.int r tr) else if y = Str.ofString "lexer" then some (.ref X.x) else m₀ y)) (X0 : (Mine.K w.params).In g) (N : News g L s.heap (pre ++ lexG w X ln u1 vs c3 ps c4)) (T : Top pr loose mean mg mb g)
    (hQ : ∀ h' tk' c4' t1 t2 t3 t4, Fr g L h' (fun y => if y = Str.ofString "word" then some (.str (Lw v) tw) else if y = Str.ofString "name" then some (.str (Nm k) tn) else if y = Str.ofString "root" then some (.int r tr) else if y = Str.ofString "lexer" then some (.ref X.x) else m₀ y) → News g L h' (pre ++ lexG w X ln u1 vs c3 (ps ++ [.str (Nm (k + 1)) t1, .str (Lw v) t2, .str (Nm k) t3, .str (Lw (v + r)) t4]) c4') → Q .next { s with heap := h', toks := tk' }) :
    wpAny (model PySem.Challenge.rw_wj0054_01.row.prog w) ((roof 600 4200 outer).deeper (envOf (Str.ofString "_law_times") timesSc L f cd)) (execs timesPush (envOf (Str.ofString "_law_times") timesSc L f cd)) Q (fun _ _ => False) s := by
  have hb0 : 0 ≤ v + r ∧ v + r < 151 ∧ 0 < v + r := by omega
  have hb1 : v < 151 := by omega
  have hk5 : k < 5 := Nat.lt_succ_of_lt hk
  revert T N X0 F B
  k_fill
  intro B F X0 N T
  unfold timesPush timesSc
  k_with_none
  k_with "storeName" => (k_here; k_dflt (refine' storeX_Lr ?F ?N ?a ?b ?_; (case a => exact rfl); (case b => exact rfl); (case F => k_asm); (case N => k_asm); k_whole; intro _ _ _; (try k_sweep)))
  k_with "eval Name" => (k_here; k_dflt (refine' nameX_Lr ?F ?a ?b ?v ?_; (case a => exact rfl); (case b => exact rfl); (case F => k_asm); (case v => exact rfl); k_whole))
  k_with "execs cons" => (refine wpAny_execs_cons ?_; (try k_fold))
  k_with "k_in" => (refine' Frag.In.keeps ?X (Fr.keep ?F); (case F => with_reducible assumption); (case X => with_reducible assumption))
  k_with "call ref" => (k_here; (with_reducible show wpAny _ _ (call (Value.ref 217) _ _) _ _ _); k_dflt (refine' SpecG.useP (push_t w X HL _ _ _ _ _ _ _ ?hz) pre ?B ?F ?X ?N ?T ?hA ?hf ?hK ?hh ?hd ?hu ?hne ?_; (case F => k_asm); (case B => k_asm); (case X => k_asm); (case T => k_asm); (case hA => exact rfl); (case hf => exact rfl); (case hK => exact rfl); (case hh => exact rfl); (case hd => exact Nat.le_of_ble_eq_true rfl); (case hu => exact Nat.le_of_ble_eq_true rfl); (case N => k_asm); (case hne => exact lex_pre HL hgt); (case hz => ((try simp only [List.length_append, List.length_cons, List.length_nil]); omega)); k_whole; intro v' sm' h' tk' hp' F' N' ne9; clear ne9; (obtain ⟨⟨c', e1'⟩, e2'⟩ := hp'); subst e1'; subst e2'; (try k_sweep)))
  k_with "binaryOp Add str str" => (k_here; (with_reducible show wpAny _ _ (binaryOp _ (Value.str (Nm _) _) _) _ _ _); k_dflt (refine' nm_add ?h0 ?_; (case h0 => exact hk5); intro _ _))
  k_with "call ref" => (k_here; (with_reducible show wpAny _ _ (call (Value.ref 276) _ _) _ _ _); k_dflt (refine' SpecK.use (number_w _ ?h0 ?h1 _ _) ?B ?F ?X ?N ?T ?hA ?hK ?hh ?hd ?hu ?_; (case hA => exact rfl); (case F => k_asm); (case N => k_asm); (case B => k_asm); (case X => k_asm); (case T => k_asm); (case hK => first | rfl | assumption); (case hh => rfl); (case hd => exact Nat.le_of_ble_eq_true rfl); (case hu => exact Nat.le_of_ble_eq_true rfl); (case h0 => assumption); (case h1 => assumption); k_whole; (rintro v' news' h' tk' ⟨⟨t', e1'⟩, e2'⟩ F' N'); subst e1'; subst e2'; (try k_sweep)))
  k_with "call ref" => (k_here; (with_reducible show wpAny _ _ (call (Value.ref 231) _ _) _ _ _); k_dflt (refine' SpecK.use (addS _ _ _ _ _ _) ?B ?F ?X ?N ?T ?hA ?hK ?hh ?hd ?hu ?_; (case hA => exact rfl); (case F => k_asm); (case N => k_asm); (case B => k_asm); (case X => k_asm); (case T => k_asm); (case hK => first | rfl | assumption); (case hh => rfl); (case hd => exact Nat.le_of_ble_eq_true rfl); (case hu => exact Nat.le_of_ble_eq_true rfl);  k_whole; (rintro v' news' h' tk' ⟨⟨t', e1'⟩, e2'⟩ F' N'); subst e1'; subst e2'; (try k_sweep)))
  k_with "call ref" => (k_here; (with_reducible show wpAny _ _ (call (Value.ref 182) _ _) _ _ _); k_dflt (refine' SpecK.use (int2ap_w _ _ _ _ ?h0 ?h1) ?B ?F ?X ?N ?T ?hA ?hK ?hh ?hd ?hu ?_; (case hA => exact rfl); (case F => k_asm); (case N => k_asm); (case B => k_asm); (case X => k_asm); (case T => k_asm); (case hK => first | rfl | assumption); (case hh => rfl); (case hd => exact Nat.le_of_ble_eq_true rfl); (case hu => exact Nat.le_of_ble_eq_true rfl); (case h0 => exact hb0.1); (case h1 => exact hb0.2.1); k_whole; (rintro v' news' h' tk' ⟨⟨t', e1'⟩, e2'⟩ F' N'); subst e1'; subst e2'; (try k_sweep)))
  k_with "call builtin:bytes.decode" => (k_here; k_dflt (refine' decode_ap ?h0 ?h1 ?_; (case h0 => exact hb0.2.2); (case h1 => exact hb0.2.1); intro _ _))
  k_steps
  all_goals (
    refine' hQ _ _ _ _ _ _ _ ?kF ?kN
    case kF => k_asm
    case kN => (rename News _ _ _ _ => N9; simp only [List.append_assoc, List.cons_append, List.nil_append] at N9; exact N9))
theorem coll_dup {g h : Heap} {L : Addr} {pr mt lx : List (Addr × Obj)} {a b : Addr × Obj} (N : News g L h (pr ++ (mt ++ lx))) (ha : a ∈ mt ∧ b ∈ mt) : News g L h ((a :: b :: (pr ++ mt)) ++ lx) := fun q hq => N q (by
  simp only [List.cons_append, List.mem_cons, List.mem_append] at hq ⊢
  rcases hq with rfl | rfl | (h | h) | h
  · exact .inr (.inl ha.1)
  · exact .inr (.inl ha.2)
  · exact .inl h
  · exact .inr (.inl h)
  · exact .inr (.inr h))
theorem coll_back {g h : Heap} {L : Addr} {pr mt lx : List (Addr × Obj)} (N : News g L h (mt ++ (pr ++ lx))) : News g L h (pr ++ (mt ++ lx)) := fun q hq => N q (by
  simp only [List.mem_append] at hq ⊢
  rcases hq with h | h | h
  · exact .inr (.inl h)
  · exact .inl h
  · exact .inr (.inr h))
theorem coll_drop {g h : Heap} {L : Addr} {pr mt lx : List (Addr × Obj)} {a b : Addr × Obj} (N : News g L h ((a :: b :: (pr ++ mt)) ++ lx)) : News g L h (pr ++ (mt ++ lx)) := fun q hq => N q (by
  simp only [List.cons_append, List.mem_cons, List.mem_append] at hq ⊢
  rcases hq with h | h | h
  · exact .inr (.inr (.inl (.inl h)))
  · exact .inr (.inr (.inl (.inr h)))
  · exact .inr (.inr (.inr h)))
theorem coll_turn (w : World) (X : Lx) (HL : LexH X) {ln : Int} {u1 : Tok} {c3 c4 : Nat} {vs ps : List Value} {k : Nat} {v u : Int} {tw tn : Tok} {m : Addr} {es1 es2 : List (Nat × Int)} {pre mt : List (Addr × Obj)} {pr : Program} {loose : List Str} {mean : ExcName → Option Value} {mg mb : Str → Option Value} {outer : List Env} {A₀ : Around} {base g : Heap} {L f : Addr} {cd : Value} {m₀ : Str → Option Value} {s : Shared} {Q : Flow → Shared → Prop}
    (hk : k < 5) (hv0 : 0 ≤ v) (hv1 : v < 151) (hu0 : 0 ≤ u) (hu1 : u < 151) (hps : ps.length + 2 < 4000) (hgt : ∀ q ∈ pre, @LT.lt Nat _ X.l q.1) (hmt : ∀ q ∈ mt, @LT.lt Nat _ X.l q.1) (happ : ∀ p ∈ pre, ∀ q ∈ mt, p.1 ≠ q.1) (hin : ∃ dx l tk, (m, instObj 171 dx) ∈ mt ∧ (dx, hdrD w tk l) ∈ mt)
    (SD : ∀ t1 t2, SpecG 680 4500 w 161 [.ref m, .str (Nm k) t1, .str (Lw v) t2] [] mt (fun r sm => TabL w X m es1 sm ∧ ∃ t, r = .str (Lw u) t))
    (ST : v < u → ∀ sm t1 t2, TabL w X m es1 sm → SpecG 680 4500 w 84 [.ref m, .str (Nm k) t1, .str (Lw v) t2] [] sm (fun _ sm' => TabL w X m es2 sm'))
    (hs : ¬ v < u → es1 = es2)
    (B : Below A₀ base outer g) (F : Fr g L s.heap (fun y => if y = Str.ofString "made" then some (.ref m) else if y = Str.ofString "lexer" then some (.ref X.x) else m₀ y)) (X0 : (Mine.K w.params).In g) (N : News g L s.heap (pre ++ (mt ++ lexG w X ln u1 vs c3 (.str (Nm k) tn :: .str (Lw v) tw :: ps) c4))) (T : Top pr loose mean mg mb g)
    (hQ : ∀ h' tk' mt' c4', TabL w X m es2 mt' → (∀ p ∈ pre, ∀ q ∈ mt', p.1 ≠ q.1) → Fr g L h' (fun y => if y = Str.ofString "word" then some (.str (Lw v) tw) else if y = Str.ofString "name" then some (.str (Nm k) tn) else if y = Str.ofString "made" then some (.ref m) else if y = Str.ofString "lexer" then some (.ref X.x) else m₀ y) → News g L h' (pre ++ (mt' ++ lexG w X ln u1 vs c3 ps c4')) → Q .next { s with heap := h', toks := tk' }) :
    wpAny (model PySem.Challenge.rw_wj0054_01.row.prog w) ((roof 600 4200 outer).deeper (envOf (Str.ofString "_law_times") timesSc L f cd)) (execs timesColl (envOf (Str.ofString "_law_times") timesSc L f cd)) Q (fun _ _ => False) s := by
  obtain ⟨dx0, l0, k0, hdx0⟩ := hin
  have hgtm : ∀ q ∈ (m, instObj 171 dx0) :: (dx0, hdrD w k0 l0) :: (pre ++ mt), @LT.lt Nat _ X.l q.1 := fun q hq => by
    rcases List.mem_cons.mp hq with rfl | hq
    · exact hmt _ hdx0.1
    rcases List.mem_cons.mp hq with rfl | hq
    · exact hmt _ hdx0.2
    rcases List.mem_append.mp hq with hq | hq
    · exact hgt _ hq
    · exact hmt _ hq
  replace N := coll_dup N hdx0
  revert T N X0 F B
  k_fill
  intro B F X0 N T
  unfold timesColl timesSc
  k_with_none
  k_with "storeName" => (k_here; k_dflt (refine' storeX_Lr ?F ?N ?a ?b ?_; (case a => exact rfl); (case b => exact rfl); (case F => k_asm); (case N => k_asm); k_whole; intro _ _ _; (try k_sweep)))
  k_with "eval Name" => (k_here; k_dflt (refine' nameX_Lr ?F ?a ?b ?v ?_; (case a => exact rfl); (case b => exact rfl); (case F => k_asm); (case v => exact rfl); k_whole))
  k_with "execs cons" => (refine wpAny_execs_cons ?_; (try k_fold))
  k_with "k_in" => (refine' Frag.In.keeps ?X (Fr.keep ?F); (case F => with_reducible assumption); (case X => with_reducible assumption))
  k_with "call ref" => (k_here; (with_reducible show wpAny _ _ (call (Value.ref 210) _ _) _ _ _); k_dflt (refine' SpecG.useP (gt_t w X HL _ _ _ _ _ _ _ ?hz) ((m, instObj 171 dx0) :: (dx0, hdrD w k0 l0) :: (pre ++ mt)) ?B ?F ?X ?N ?T ?hA ?hf ?hK ?hh ?hd ?hu ?hne ?_; (case F => k_asm); (case B => k_asm); (case X => k_asm); (case T => k_asm); (case hA => exact rfl); (case hf => exact rfl); (case hK => exact rfl); (case hh => exact rfl); (case hd => exact Nat.le_of_ble_eq_true rfl); (case hu => exact Nat.le_of_ble_eq_true rfl); (case N => k_asm); (case hne => exact lex_pre HL hgtm); (case hz => ((try simp only [List.length_cons]); omega)); k_whole; intro v' sm' h' tk' hp' F' N' ne9; clear ne9; (obtain ⟨⟨c', e1'⟩, e2'⟩ := hp'); subst e1'; subst e2'; (try k_sweep)))
  k_with "call ref" => (k_here; (with_reducible show wpAny _ _ (call (Value.ref 276) _ _) _ _ _); k_dflt (refine' SpecK.use (number_w _ ?h0 ?h1 _ _) ?B ?F ?X ?N ?T ?hA ?hK ?hh ?hd ?hu ?_; (case hA => exact rfl); (case F => k_asm); (case N => k_asm); (case B => k_asm); (case X => k_asm); (case T => k_asm); (case hK => first | rfl | assumption); (case hh => rfl); (case hd => exact Nat.le_of_ble_eq_true rfl); (case hu => exact Nat.le_of_ble_eq_true rfl); (case h0 => assumption); (case h1 => assumption); k_whole; (rintro v' news' h' tk' ⟨⟨t', e1'⟩, e2'⟩ F' N'); subst e1'; subst e2'; (try k_sweep)))
  k_with "call ref" => (k_here; (with_reducible show wpAny _ _ (call (Value.ref 161) _ _) _ _ _); k_dflt (refine' SpecG.use (SD _ _) (pre ++ lexG w X ln u1 vs c3 ps c') ?B ?F ?X ?N ?T ?hA ?hf ?hK ?hh ?hd ?hu ?hs1 ?hs2 ?hne ?_; (case F => k_asm); (case B => k_asm); (case X => k_asm); (case T => k_asm); (case hA => exact rfl); (case hf => exact rfl); (case hK => exact rfl); (case hh => exact rfl); (case hd => exact Nat.le_of_ble_eq_true rfl); (case hu => exact Nat.le_of_ble_eq_true rfl); (case N => k_asm); (case hs1 => exact fun q hq => List.mem_append_left _ (List.mem_cons_of_mem _ (List.mem_cons_of_mem _ (List.mem_append_right _ hq)))); (case hs2 => (intro q hq; (rcases List.mem_append.mp hq with hq | hq); (exact List.mem_append_left _ (List.mem_cons_of_mem _ (List.mem_cons_of_mem _ (List.mem_append_left _ hq)))); (exact List.mem_append_right _ hq))); (case hne => (intro q hq z hz; (rcases List.mem_append.mp hq with hq | hq); (exact happ q hq z hz); (exact lex_pre HL hmt q hq z hz))); k_whole; intro v' mt1 h' tk' hp' F' N' ne9; (obtain ⟨hT1, t1', e2'⟩ := hp'); subst e2'; (have hap1 := fun p hp q hq => Ne.symm (newApart_mem ne9 q hq p (List.mem_append_left _ hp))); (have hmt1 := tabL_gt hT1); clear ne9; (replace N' := coll_back N'); (obtain ⟨dx1, l1, k1, hdx1⟩ := tabL_inst hT1); (replace N' := coll_dup N' hdx1); (try k_sweep)))
  k_with "call ref" => (k_here; (with_reducible show wpAny _ _ (call (Value.ref 84) _ _) _ _ _); k_dflt (refine' SpecG.use (ST ?lt _ _ _ hT1) (pre ++ lexG w X ln u1 vs c3 ps c') ?B ?F ?X ?N ?T ?hA ?hf ?hK ?hh ?hd ?hu ?hs1 ?hs2 ?hne ?_; (case F => k_asm); (case B => k_asm); (case X => k_asm); (case T => k_asm); (case hA => exact rfl); (case hf => exact rfl); (case hK => exact rfl); (case hh => exact rfl); (case hd => exact Nat.le_of_ble_eq_true rfl); (case hu => exact Nat.le_of_ble_eq_true rfl); (case N => k_asm); (case lt => assumption); (case hs1 => exact fun q hq => List.mem_append_left _ (List.mem_cons_of_mem _ (List.mem_cons_of_mem _ (List.mem_append_right _ hq)))); (case hs2 => (intro q hq; (rcases List.mem_append.mp hq with hq | hq); (exact List.mem_append_left _ (List.mem_cons_of_mem _ (List.mem_cons_of_mem _ (List.mem_append_left _ hq)))); (exact List.mem_append_right _ hq))); (case hne => (intro q hq z hz; (rcases List.mem_append.mp hq with hq | hq); (exact hap1 q hq z hz); (exact lex_pre HL hmt1 q hq z hz))); k_whole; intro v' mt2 h' tk' hT2 F' N' ne9; (have hap2 := fun p hp q hq => Ne.symm (newApart_mem ne9 q hq p (List.mem_append_left _ hp))); clear ne9; (replace N' := coll_back N'); (try k_sweep)))
  k_steps
  all_goals (first
    | exact hQ _ _ _ _ hT2 hap2 (by k_asm) (by k_asm)
    | (have e9 := hs (by omega); subst e9; exact hQ _ _ _ _ hT1 hap1 (by k_asm) (coll_drop (by k_asm))))

open PySem PySem.W PyProof.Rows PySem.Calls PySem.Builtin
section
variable {prog : Program} {w : World} {A : Around} {E : Value → Shared → Prop} {s : Shared} {env : Env} {h₀ : Heap} {target : Expr} {body : List Stmt} {Q : Flow → Shared → Prop}
theorem iterJ_range {x : Str} {px : Pos} {r : Addr} {b : Int} {t u v : Tok} {n : Nat} {m₀ : Str → Option Value} {news : List (Addr × Obj)}
    (hh : A.handled = none) (F : Fr h₀ env.locals s.heap m₀) (N : News h₀ env.locals s.heap news) (hr : IsRange s.heap r 0 b 1 t u v) (hsm : Builtin.Range.small 0 b 1 = true) (hsz : Builtin.Range.rangeSize 0 b 1 = ((n : Nat) : Int))
    (J : Nat → (Str → Option Value) → List (Addr × Obj) → Prop) (start : J 0 m₀ news)
    (step : ∀ I (i : Nat) m₁ n₁ h₁ tk₁ oI t, (∀ p ∈ news, p.1 < I) → i < n → J i m₁ n₁ → (∀ p ∈ n₁, p.1 ≠ I) → Fr h₀ env.locals h₁ m₁ → News h₀ env.locals h₁ ((I, oI) :: n₁) →
      wpAny (model prog w) A (assign (.Name x px) env (.int (i : Int) t)) (fun _ s₃ => wpAny (model prog w) A (execs body env) (StepJ h₀ env.locals I oI (J (i + 1)) { s with heap := h₁, toks := tk₁ } Q) E s₃) E { s with heap := h₁, toks := tk₁ })
    (done : ∀ m' n' h' tk, J n m' n' → Fr h₀ env.locals h' m' → News h₀ env.locals h' n' → Q .next { s with heap := h', toks := tk }) :
    wpAny (model prog w) A (pyIter (.ref r)) (fun it s₂ => TurnsAt prog w A h₀ env (.Name x px) body Q E it s₂) E s := by
  refine wpAny_pyIter_range hr hsm ?_
  rw [hsz]
  have hlt' : ∀ p ∈ news, p.1 < s.heap.objs.size := fun p hp => Heap.lt_size (N p hp).1
  have W := KTurns.ofWalks (target := .Name x px) (LCg.range_walks (prog := prog) (w := w) (I := s.heap.objs.size) hh 0 n) fun i v s Q E st q => by
    show wpAny _ _ (pure ()) _ _ _
    exact wpAny_pure q
  refine ⟨s.heap.objs.size, _, _, n, _, _, _, m₀, news, J, rfl, W, ?_, ?_, ?_, ?_, F.push _, fun p hp => ⟨Heap.get?_push_of_some _ (N p hp).1, (N p hp).2⟩, start, ?_, ?_⟩
  · intro hm
    exact absurd F.ns.lt ((List.mem_singleton.mp hm) ▸ Nat.lt_irrefl _)
  · intro b hb
    rw [List.mem_singleton.mp hb]; exact next_is_new F
  · intro p hp hm
    exact absurd (hlt' p hp) ((List.mem_singleton.mp hm) ▸ Nat.lt_irrefl _)
  · show Heap.get? _ _ = _
    simpa using Heap.get?_push_size _ rfl
  · rintro i v m₁ n₁ h₁ tk₁ own hi ⟨t, rfl⟩ hj hoff ho1 ho2 ho3 st₁ F₁ N₁
    rw [Int.zero_add]
    obtain ⟨oI, hoI⟩ : ∃ oI, h₁.get? s.heap.objs.size = some oI := ⟨_, st₁⟩
    have hIn1 := ho3 s.heap.objs.size (List.mem_cons_self ..) (next_is_new F) _ hoI
    have hoff1 : ∀ p ∈ n₁, p.1 ≠ s.heap.objs.size := fun p hp e => hoff p hp (List.mem_singleton.mpr e)
    refine wpAny_mono (step s.heap.objs.size i m₁ n₁ h₁ tk₁ oI t hlt' hi hj hoff1 F₁ (fun p hp => ?_)) (fun _ s₃ h₃ => wpAny_mono h₃ (fun f s₄ h₄ => ?_) fun _ _ e => e) fun _ _ e => e
    · rcases List.mem_cons.mp hp with rfl | hp
      · exact N₁ _ (List.mem_append_left _ hIn1)
      · exact N₁ _ (List.mem_append_right _ hp)
    · have fin : (∃ h' tk m' n', s₄ = { s with heap := h', toks := tk } ∧ Fr h₀ env.locals h' m' ∧ News h₀ env.locals h' ((s.heap.objs.size, oI) :: n') ∧ (∀ p ∈ n', p.1 ≠ s.heap.objs.size) ∧ J (i + 1) m' n') → LoopStepU h₀ env.locals [s.heap.objs.size] own (J (i + 1)) { s with heap := h₁, toks := tk₁ } .next s₄ := by
        rintro ⟨h', tk, m', n', rfl, F', N', ha, hj'⟩
        refine ⟨rfl, h', tk, m', n', rfl, F', fun p hp => ?_, fun p hp hm => ha p hp (List.mem_singleton.mp hm), hj'⟩
        rcases List.mem_append.mp hp with hp | hp
        · have h1 := ho2 p hp
          have e := List.mem_singleton.mp (ho1 p hp)
          obtain ⟨a, o⟩ := p
          dsimp only at e h1; subst e
          rw [hoI] at h1; cases h1
          exact N' _ (List.mem_cons_self ..)
        · exact N' _ (List.mem_cons_of_mem _ hp)
      cases f with
      | ret v => exact h₄
      | brk => exact h₄
      | next => exact fin h₄
      | cont => exact fin h₄
  · intro h' tk m' n' F' N' _ hj
    exact done m' n' h' tk hj F' N'
end
inductive PsAre : List Value → List (Nat × Int) → Prop
  | nil : PsAre [] []
  | cons {k : Nat} {v : Int} {t u : Tok} {ps : List Value} {P : List (Nat × Int)} : PsAre ps P → PsAre (.str (Nm k) t :: .str (Lw v) u :: ps) ((k, v) :: P)
theorem PsAre.append {ps qs : List Value} {P R : List (Nat × Int)} (h : PsAre ps P) (h2 : PsAre qs R) : PsAre (ps ++ qs) (P ++ R) := by
  induction h with
  | nil => exact h2
  | cons _ ih => exact .cons ih
theorem PsAre.length {ps : List Value} {P : List (Nat × Int)} (h : PsAre ps P) : ps.length = 2 * P.length := by
  induction h with
  | nil => rfl
  | cons _ ih => simp only [List.length_cons, ih]; omega
theorem PsAre.open {ps : List Value} {k : Nat} {v : Int} {P : List (Nat × Int)} (h : PsAre ps ((k, v) :: P)) : ∃ t u qs, ps = .str (Nm k) t :: .str (Lw v) u :: qs ∧ PsAre qs P := by
  cases h with
  | cons h => exact ⟨_, _, _, rfl, h⟩
noncomputable def pairsOf (r : Int) (es : List (Nat × Int)) : List (Nat × Int) := es.flatMap fun e => [(e.1 + 1, e.2), (e.1, e.2 + r)]
theorem pairsOf_take {r : Int} {es : List (Nat × Int)} {i k : Nat} {v : Int} (h : es[i]? = some (k, v)) : pairsOf r (es.take (i + 1)) = pairsOf r (es.take i) ++ [(k + 1, v), (k, v + r)] := by
  unfold pairsOf
  rw [List.take_add_one, h, List.flatMap_append]
  rfl
theorem pairsOf_length (r : Int) : ∀ es : List (Nat × Int), (pairsOf r es).length = 2 * es.length
  | [] => rfl
  | e :: es => by
    have := pairsOf_length r es
    unfold pairsOf at this ⊢
    simp only [List.flatMap_cons, List.length_append, List.length_cons, List.length_nil, this]; omega
theorem assign_nw {prog : Program} {w : World} {A : Around} {E : Value → Shared → Prop} {s : Shared} {g : Heap} {L f T : Addr} {cd v u : Value} {m : Str → Option Value} {news : List (Addr × Obj)} {Q : Unit → Shared → Prop} (hh : A.handled = none)
    (hT : IsTup s.heap T #[v, u]) (F : Fr g L s.heap m) (N : News g L s.heap news)
    (h : ∀ h' tk', Fr g L h' (fun y => if y = Str.ofString "word" then some u else if y = Str.ofString "name" then some v else m y) → News g L h' news → Q () { s with heap := h', toks := tk' }) :
    wpAny (model prog w) A (assign timesT1 (envOf (Str.ofString "_law_times") timesSc L f cd) (.ref T)) Q E s := by
  unfold timesT1
  refine assign_Tuple_tuple hh hT rfl rfl fun h₅ he => ?_
  have up : ∀ b o, s.heap.get? b = some o → h₅.get? b = some o := fun b o e => he b o (Nat.ne_of_lt (Heap.lt_size e)) e
  have F5 := F.keeps up
  have N5 := N.grown up
  refine assignInOrder_cons (wpAny_assign_Name (wpAny_storeName_local (s := { s with heap := h₅ }) rfl F5.ns fun h6 hn hs => ?_))
  have F6 : Fr g L h6 (fun y => if y = Str.ofString "name" then some v else m y) := ⟨hn, fun b o e => hs.extBut b o (fun q => by rw [q] at e; exact absurd (Heap.lt_size e) (Nat.not_lt.mpr F5.above)) (F5.keep b o e), F5.above⟩
  have N6 : News g L h6 news := fun p hp => ⟨hs.extBut _ _ (N5 p hp).2.1 (N5 p hp).1, (N5 p hp).2⟩
  refine assignInOrder_cons (wpAny_assign_Name (wpAny_storeName_local (s := { s with heap := h6, toks := _ }) rfl F6.ns fun h7 hn hs => ?_))
  exact assignInOrder_nil (h h7 _ ⟨hn, fun b o e => hs.extBut b o (fun q => by rw [q] at e; exact absurd (Heap.lt_size e) (Nat.not_lt.mpr F6.above)) (F6.keep b o e), F6.above⟩ fun p hp => ⟨hs.extBut _ _ (N6 p hp).2.1 (N6 p hp).1, (N6 p hp).2⟩)
theorem say_2 {m : Str → Option Value} {a b : Str} {x y : Option Value} (h1 : m a = x) (h2 : m b = y) : m = fun q => if q = a then x else if q = b then y else m q := by
  have e := say_1 h2
  exact (say_1 h1).trans (congrArg (fun (f : Str → Option Value) => fun q => if q = a then x else f q) e)
section
variable {pr : Program} {loose : List Str} {mean : ExcName → Option Value} {mg mb : Str → Option Value} {outer : List Env} {A₀ : Around} {base g : Heap} {L f : Addr} {cd : Value} {m₀ : Str → Option Value} {s : Shared} {Q : Flow → Shared → Prop}
theorem push_loop (w : World) (X : Lx) (HL : LexH X) {ln : Int} {u1 : Tok} {c3 c4 c : Nat} {vs rs : List Value} {r : Int} {tr : Tok} {D x : Addr} {es : List (Nat × Int)} {tab : List (Addr × Obj)}
    (hes : ∀ e ∈ es, e.1 < 4 ∧ 0 ≤ e.2 ∧ e.2 < 100) (hl : es.length ≤ 3) (hr0 : 1 ≤ r) (hr1 : r < 31) (hent : EntIn tab rs es) (hgt : ∀ q ∈ (D, W.listOf rs.toArray c) :: tab, @LT.lt Nat _ X.l q.1)
    (hm1 : m₀ (Str.ofString "root") = some (.int r tr)) (hm2 : m₀ (Str.ofString "lexer") = some (.ref X.x)) (hm3 : m₀ (Str.ofString "table") = some (.ref x))
    (B : Below A₀ base outer g) (F : Fr g L s.heap m₀) (X0 : (Mine.K w.params).In g) (N : News g L s.heap ((D, W.listOf rs.toArray c) :: (tab ++ lexG w X ln u1 vs c3 [] c4))) (T : Top pr loose mean mg mb g)
    (hQ : ∀ h' tk' m' ps c4', m' (Str.ofString "lexer") = some (.ref X.x) → m' (Str.ofString "table") = some (.ref x) → PsAre ps (pairsOf r es) → Fr g L h' m' → News g L h' ((D, W.listOf rs.toArray c) :: (tab ++ lexG w X ln u1 vs c3 ps c4')) → Q .next { s with heap := h', toks := tk' }) :
    wpAny (model PySem.Challenge.rw_wj0054_01.row.prog w) ((roof 600 4200 outer).deeper (envOf (Str.ofString "_law_times") timesSc L f cd)) (pyIter (.ref D)) (fun it s₂ => TurnsAt PySem.Challenge.rw_wj0054_01.row.prog w ((roof 600 4200 outer).deeper (envOf (Str.ofString "_law_times") timesSc L f cd)) g (envOf (Str.ofString "_law_times") timesSc L f cd) timesT1 timesPush Q (fun _ _ => False) it s₂) (fun _ _ => False) s := by
  refine iterJ_list rfl F N (.head _) rfl rfl
    (fun i m' n' => ∃ ps c4', m' (Str.ofString "root") = some (.int r tr) ∧ m' (Str.ofString "lexer") = some (.ref X.x) ∧ m' (Str.ofString "table") = some (.ref x) ∧ PsAre ps (pairsOf r (es.take i)) ∧ n' = (D, W.listOf rs.toArray c) :: (tab ++ lexG w X ln u1 vs c3 ps c4'))
    ?_ ⟨[], c4, hm1, hm2, hm3, .nil, rfl⟩ ?_ ?_
  · rintro i m' n' ⟨ps, c4', _, _, _, _, rfl⟩; exact .head _
  · rintro I i v m₁ n₁ h₁ tk₁ oI hIl hi hv ⟨ps, c4', e1, e2, e3, hps, rfl⟩ hoff _ F₁ N₁
    obtain ⟨e, Tt, t, u, he, rfl, hmT⟩ := hent.2 i v hv
    obtain ⟨k, vv⟩ := e
    obtain ⟨b1, b2, b3⟩ := hes (k, vv) (List.mem_of_getElem? he)
    have hIX : @LT.lt Nat _ X.l I := Nat.lt_trans (hgt (D, W.listOf rs.toArray c) (.head _)) (hIl _ (.head _))
    have hi3 : i < 3 := Nat.lt_of_lt_of_le (hent.1 ▸ hi) hl
    refine assign_nw rfl ⟨_, (N₁ _ (.tail _ (.tail _ (List.mem_append_left _ hmT)))).1, rfl, 0, rfl⟩ F₁ N₁ fun h2 tk2 F2 N2 => ?_
    rw [say_2 e1 e2] at F2
    refine push_turn w X HL (s := { s with heap := h2, toks := tk2 }) (pre := (I, oI) :: (D, W.listOf rs.toArray c) :: tab) b1 b2 b3 hr0 hr1 ?_ ?_ B F2 X0 N2 T fun h3 tk3 c5 t1 t2 t3 t4 F3 N3 => ?_
    · have := hps.length
      rw [pairsOf_length] at this
      have : (es.take i).length ≤ i := by rw [List.length_take]; exact Nat.min_le_left _ _
      omega
    · intro q hq
      rcases List.mem_cons.mp hq with rfl | hq
      · exact hIX
      · exact hgt q hq
    · refine ⟨h3, tk3, _, (D, W.listOf rs.toArray c) :: (tab ++ lexG w X ln u1 vs c3 (ps ++ [.str (Nm (k + 1)) t1, .str (Lw vv) t2, .str (Nm k) t3, .str (Lw (vv + r)) t4]) c5), rfl, F3, fun q hq => N3 q (by simpa only [List.cons_append] using hq), fun q hq => ?_, _, c5, ?_, ?_, ?_, ?_, rfl⟩
      · rcases List.mem_cons.mp hq with rfl | hq
        · exact hoff _ (.head _)
        rcases List.mem_append.mp hq with hq | hq
        · exact hoff _ (.tail _ (List.mem_append_left _ hq))
        · intro e
          exact lex_pre HL (pr := [(I, oI)]) (fun z hz => by rw [List.mem_singleton.mp hz]; exact hIX) q hq (I, oI) (.head _) e
      · exact (if_neg (by decide)).trans ((if_neg (by decide)).trans (if_pos rfl))
      · exact (if_neg (by decide)).trans ((if_neg (by decide)).trans ((if_neg (by decide)).trans (if_pos rfl)))
      · exact (if_neg (by decide)).trans ((if_neg (by decide)).trans ((if_neg (by decide)).trans ((if_neg (by decide)).trans e3)))
      · rw [pairsOf_take he]
        exact hps.append (.cons (.cons .nil))
  · rintro m' n' h' tk ⟨ps, c4', e1, e2, e3, hps, rfl⟩ F' N'
    refine hQ h' tk m' ps c4' e2 e3 ?_ F' N'
    rwa [hent.1, List.take_length] at hps
theorem coll_loop (w : World) (X : Lx) (HL : LexH X) {ln : Int} {u1 : Tok} {c3 c4 : Nat} {vs ps : List Value} {P : List (Nat × Int)} {px : Pos} {rg : Addr} {tk1 tk2 tk3 : Tok} {m : Addr} {C : Nat → List (Nat × Int)} {pre mt : List (Addr × Obj)} (hP : P.length < 1000) (hps : PsAre ps P)
    (hgt : ∀ q ∈ pre, @LT.lt Nat _ X.l q.1) (hT : TabL w X m (C 0) mt) (happ : ∀ p ∈ pre, ∀ q ∈ mt, p.1 ≠ q.1)
    (hstep : ∀ i k v, P[i]? = some (k, v) → k < 5 ∧ 0 ≤ v ∧ v < 151 ∧ ∃ u es1, 0 ≤ u ∧ u < 151 ∧ (∀ mt t1 t2, TabL w X m (C i) mt → SpecG 680 4500 w 161 [.ref m, .str (Nm k) t1, .str (Lw v) t2] [] mt (fun r sm => TabL w X m es1 sm ∧ ∃ t, r = .str (Lw u) t)) ∧ (v < u → ∀ sm t1 t2, TabL w X m es1 sm → SpecG 680 4500 w 84 [.ref m, .str (Nm k) t1, .str (Lw v) t2] [] sm (fun _ sm' => TabL w X m (C (i + 1)) sm')) ∧ (¬ v < u → es1 = C (i + 1)))
    (hm1 : m₀ (Str.ofString "made") = some (.ref m)) (hm2 : m₀ (Str.ofString "lexer") = some (.ref X.x))
    (hr : IsRange s.heap rg 0 (P.length : Nat) 1 tk1 tk2 tk3) (hsm : Builtin.Range.small 0 ((P.length : Nat) : Int) 1 = true) (hsz : Builtin.Range.rangeSize 0 ((P.length : Nat) : Int) 1 = ((P.length : Nat) : Int))
    (B : Below A₀ base outer g) (F : Fr g L s.heap m₀) (X0 : (Mine.K w.params).In g) (N : News g L s.heap (pre ++ (mt ++ lexG w X ln u1 vs c3 ps c4))) (T : Top pr loose mean mg mb g)
    (hQ : ∀ h' tk' m' mt' c4', m' (Str.ofString "made") = some (.ref m) → TabL w X m (C P.length) mt' → (∀ p ∈ pre, ∀ q ∈ mt', p.1 ≠ q.1) → Fr g L h' m' → News g L h' (pre ++ (mt' ++ lexG w X ln u1 vs c3 [] c4')) → Q .next { s with heap := h', toks := tk' }) :
    wpAny (model PySem.Challenge.rw_wj0054_01.row.prog w) ((roof 600 4200 outer).deeper (envOf (Str.ofString "_law_times") timesSc L f cd)) (pyIter (.ref rg)) (fun it s₂ => TurnsAt PySem.Challenge.rw_wj0054_01.row.prog w ((roof 600 4200 outer).deeper (envOf (Str.ofString "_law_times") timesSc L f cd)) g (envOf (Str.ofString "_law_times") timesSc L f cd) (.Name (Str.ofString "k") px) timesColl Q (fun _ _ => False) it s₂) (fun _ _ => False) s := by
  refine iterJ_range rfl F N hr hsm hsz
    (fun i m' n' => ∃ ps c4' mt, m' (Str.ofString "made") = some (.ref m) ∧ m' (Str.ofString "lexer") = some (.ref X.x) ∧ PsAre ps (P.drop i) ∧ TabL w X m (C i) mt ∧ (∀ p ∈ pre, ∀ q ∈ mt, p.1 ≠ q.1) ∧ n' = pre ++ (mt ++ lexG w X ln u1 vs c3 ps c4'))
    ⟨ps, c4, mt, hm1, hm2, by simpa using hps, hT, happ, rfl⟩ ?_ ?_
  · rintro I i m₁ n₁ h₁ tk₁ oI t hIl hi ⟨ps, c4', mt1, e1, e2, hps, hT1, hap1, rfl⟩ hoff F₁ N₁
    obtain ⟨⟨k, v⟩, he⟩ : ∃ e, P[i]? = some e := ⟨_, List.getElem?_eq_getElem hi⟩
    have hIX : @LT.lt Nat _ X.l I := by
      obtain ⟨dx, l, tk, h0⟩ := tabL_inst hT
      exact Nat.lt_trans (tabL_gt hT _ h0.1) (hIl _ (List.mem_append_right _ (List.mem_append_left _ h0.1)))
    have hd : P.drop i = (k, v) :: P.drop (i + 1) := by
      rw [List.drop_eq_getElem_cons hi]
      rw [List.getElem?_eq_getElem hi] at he
      rw [Option.some.inj he]
    rw [hd] at hps
    obtain ⟨t1, t2, ps', rfl, hps'⟩ := hps.open
    obtain ⟨b1, b2, b3, u, es1, b4, b5, SD, ST, hs⟩ := hstep i k v he
    refine wpAny_assign_Name (wpAny_storeName_local (s := { s with heap := h₁, toks := tk₁ }) rfl F₁.ns fun h6 hn hs6 => ?_)
    have F6 : Fr g L h6 (fun y => if y = Str.ofString "k" then some (.int (i : Int) t) else m₁ y) := ⟨hn, fun b o e => hs6.extBut b o (fun q => by rw [q] at e; exact absurd (Heap.lt_size e) (Nat.not_lt.mpr F₁.above)) (F₁.keep b o e), F₁.above⟩
    have N6 : News g L h6 ((I, oI) :: (pre ++ (mt1 ++ lexG w X ln u1 vs c3 (.str (Nm k) t1 :: .str (Lw v) t2 :: ps') c4'))) := fun p hp => ⟨hs6.extBut _ _ (N₁ p hp).2.1 (N₁ p hp).1, (N₁ p hp).2⟩
    have E1 : (fun y => if y = Str.ofString "k" then some (.int (i : Int) t) else m₁ y) (Str.ofString "made") = some (.ref m) := (if_neg (by decide)).trans e1
    have E2 : (fun y => if y = Str.ofString "k" then some (.int (i : Int) t) else m₁ y) (Str.ofString "lexer") = some (.ref X.x) := (if_neg (by decide)).trans e2
    rw [say_2 (m := fun y => if y = Str.ofString "k" then some (.int (i : Int) t) else m₁ y) E1 E2] at F6
    refine coll_turn w X HL (s := { s with heap := h6, toks := tk₁ + 1 }) (pre := (I, oI) :: pre) (mt := mt1) (es1 := es1) (es2 := C (i + 1)) b1 b2 b3 b4 b5 ?_ ?_ (tabL_gt hT1) ?_ (tabL_inst hT1) (fun t1 t2 => SD mt1 t1 t2 hT1) ST hs B F6 X0 N6 T fun h3 tk3 mt2 c5 hT2 hap2 F3 N3 => ?_
    · have := hps'.length
      rw [List.length_drop] at this
      omega
    · intro q hq
      rcases List.mem_cons.mp hq with rfl | hq
      · exact hIX
      · exact hgt q hq
    · intro p hp q hq
      rcases List.mem_cons.mp hp with rfl | hp
      · exact fun e => hoff q (List.mem_append_right _ (List.mem_append_left _ hq)) e.symm
      · exact hap1 p hp q hq
    · refine ⟨h3, tk3, _, pre ++ (mt2 ++ lexG w X ln u1 vs c3 ps' c5), rfl, F3, fun q hq => N3 q (by simpa only [List.cons_append] using hq), fun q hq => ?_, ps', c5, mt2, ?_, ?_, hps', hT2, fun p hp => hap2 p (.tail _ hp), rfl⟩
      · rcases List.mem_append.mp hq with hq | hq
        · exact hoff _ (List.mem_append_left _ hq)
        rcases List.mem_append.mp hq with hq | hq
        · exact fun e => hap2 (I, oI) (.head _) q hq e.symm
        · intro e
          exact lex_pre HL (pr := [(I, oI)]) (fun z hz => by rw [List.mem_singleton.mp hz]; exact hIX) q hq (I, oI) (.head _) e
      · exact (if_neg (by decide)).trans ((if_neg (by decide)).trans (if_pos rfl))
      · exact (if_neg (by decide)).trans ((if_neg (by decide)).trans ((if_neg (by decide)).trans (if_pos rfl)))
  · rintro m' n' h' tk ⟨ps, c4', mt1, e1, e2, hps, hT1, hap1, rfl⟩ F' N'
    rw [List.drop_length] at hps
    cases hps
    exact hQ h' tk m' mt1 c4' e1 hT1 hap1 F' N'
end

theorem clrTT : True := by
  k_with_none
  trivial
open PySem PySem.W PyProof.Rows PySem.Calls PySem.Builtin
theorem dup_2 {g h : Heap} {L : Addr} {mt lx : List (Addr × Obj)} {a b : Addr × Obj} (N : News g L h (mt ++ lx)) (ha : a ∈ mt ∧ b ∈ mt) : News g L h ((a :: b :: mt) ++ lx) := fun q hq => N q (by
  simp only [List.cons_append, List.mem_cons, List.mem_append] at hq ⊢
  rcases hq with rfl | rfl | h | h
  · exact .inl ha.1
  · exact .inl ha.2
  · exact .inl h
  · exact .inr h)
theorem dup_gt {l : Addr} {tab : List (Addr × Obj)} {a b : Addr × Obj} (h : ∀ q ∈ tab, @LT.lt Nat _ l q.1) (ha : a ∈ tab ∧ b ∈ tab) : ∀ q ∈ a :: b :: tab, @LT.lt Nat _ l q.1 := fun q hq => by
  rcases List.mem_cons.mp hq with rfl | hq
  · exact h _ ha.1
  rcases List.mem_cons.mp hq with rfl | hq
  · exact h _ ha.2
  · exact h _ hq
theorem dup_b {g h : Heap} {L : Addr} {big : List (Addr × Obj)} {a b : Addr × Obj} (N : News g L h big) (ha : a ∈ big ∧ b ∈ big) : News g L h (a :: b :: big) := fun q hq => N q (by
  rcases List.mem_cons.mp hq with rfl | hq
  · exact ha.1
  rcases List.mem_cons.mp hq with rfl | hq
  · exact ha.2
  · exact hq)
theorem new_apart {tab big : List (Addr × Obj)} {d x l : Addr} {o1 o2 o3 : Obj} (hlo : ∀ a ∈ big.map (·.1), @LT.lt Nat _ a d) (h1 : @LT.lt Nat _ d x) (h2 : @LT.lt Nat _ x l) (hs : ∀ q ∈ tab, q ∈ big) : ∀ q ∈ tab, ∀ p ∈ [(x, o1), (d, o2), (l, o3)], q.1 ≠ p.1 := fun q hq p hp e => by
  have h := hlo q.1 (List.mem_map_of_mem (hs q hq))
  simp only [List.mem_cons, List.not_mem_nil, or_false] at hp
  rcases hp with rfl | rfl | rfl <;> dsimp only at e <;> rw [e] at h
  · exact Nat.lt_irrefl _ (Nat.lt_trans h h1)
  · exact Nat.lt_irrefl _ h
  · exact Nat.lt_irrefl _ (Nat.lt_trans h (Nat.lt_trans h1 h2))
theorem times_g (w : World) (X : Lx) (HL : LexH X) (ln N0 : Int) (u1 : Tok) (c3 c4 : Nat) (vs : List Value) (codes rest : List Nat) (e : Nat) (k2 r : Int) (hr0 : 1 ≤ r) (hr1 : r < 31) (hE : WsTo [e] k2) (hS : Spelled codes (Lw r).cps.toList) (hB : Bef (codes ++ e :: rest) N0 vs ln)
    (x : Addr) (es : List (Nat × Int)) (tab : List (Addr × Obj)) (hT : SrcOk w X x es tab) (hes : ∀ e ∈ es, e.1 < 4 ∧ 0 ≤ e.2 ∧ e.2 < 100) (hl : es.length ≤ 3) (hl1 : 1 ≤ es.length) (C : Nat → List (Nat × Int)) (hC : C 0 = [])
    (hstep : ∀ m i k v, (pairsOf r es)[i]? = some (k, v) → k < 5 ∧ 0 ≤ v ∧ v < 151 ∧ ∃ u es1, 0 ≤ u ∧ u < 151 ∧ (∀ mt t1 t2, TabL w X m (C i) mt → SpecG 680 4500 w 161 [.ref m, .str (Nm k) t1, .str (Lw v) t2] [] mt (fun r sm => TabL w X m es1 sm ∧ ∃ t, r = .str (Lw u) t)) ∧ (v < u → ∀ sm t1 t2, TabL w X m es1 sm → SpecG 680 4500 w 84 [.ref m, .str (Nm k) t1, .str (Lw v) t2] [] sm (fun _ sm' => TabL w X m (C (i + 1)) sm')) ∧ (¬ v < u → es1 = C (i + 1))) :
    SpecG 600 4200 w 283 [.ref X.x, .ref x] [] (tab ++ lexG w X ln u1 vs c3 [] c4)
      (fun v small' => ∃ x' tab' vs' c' u' ln' c4', TabL w X x' (C (pairsOf r es).length) tab' ∧ v = .ref x' ∧ Bef rest (N0 + k2) vs' ln' ∧ small' = tab' ++ lexG w X ln' u' vs' c' [] c4') := by
  obtain ⟨⟨dx0, l0, k0, hdx0⟩, hgt, ⟨rs, hent, hitems⟩, hlen⟩ := hT
  have hr2 : 0 ≤ r := by omega
  have hr3 : r < 151 := by omega
  have hn1 : -9223372036854775808 ≤ (es.length : Int) ∧ (es.length : Int) ≤ 9223372036854775807 := by omega
  have hPl : 2 * (es.length : Int) = (((pairsOf r es).length : Nat) : Int) := by rw [pairsOf_length]; omega
  have hgt2 := dup_gt hgt hdx0
  have hsz : Builtin.Range.small 0 (((pairsOf r es).length : Nat) : Int) 1 = true ∧ Builtin.Range.rangeSize 0 (((pairsOf r es).length : Nat) : Int) 1 = (((pairsOf r es).length : Nat) : Int) := by
    rw [pairsOf_length]
    rcases (by omega : es.length = 1 ∨ es.length = 2 ∨ es.length = 3) with h | h | h <;> rw [h] <;> exact ⟨rfl, rfl⟩
  (unfold SpecG; k_fill; intro p loose mean mg mb envs base g s Q E hg hsm hBel hKin hTop hret)
  k_with_none
  k_with "storeName" => (k_here; k_dflt (refine' storeX_Lr ?F ?N ?a ?b ?_; (case a => exact rfl); (case b => exact rfl); (case F => k_asm); (case N => k_asm); k_whole; intro _ _ _; (try k_sweep)))
  k_with "eval Name" => (k_here; k_dflt (refine' nameX_Lr ?F ?a ?b ?v ?_; (case a => exact rfl); (case b => exact rfl); (case F => k_asm); (case v => exact rfl); k_whole))
  k_with "execs cons" => (refine wpAny_execs_cons ?_; (try k_fold))
  k_with "k_in" => (refine' Frag.In.keeps ?X (Fr.keep ?F); (case F => with_reducible assumption); (case X => with_reducible assumption))
  k_with "call ref" => (k_here; (with_reducible show wpAny _ _ (call (Value.ref 210) _ _) _ _ _); k_dflt (refine' SpecG.useP (gt_r w X HL _ _ _ _ _ _ _ _ _ _ _ hr2 hr3 hE hS hB) ((x, instObj 171 dx0) :: (dx0, hdrD w k0 l0) :: tab) ?B ?F ?X ?N ?T ?hA ?hf ?hK ?hh ?hd ?hu ?hne ?_; (case F => k_asm); (case B => k_asm); (case X => k_asm); (case T => k_asm); (case hA => exact rfl); (case hf => exact rfl); (case hK => exact rfl); (case hh => exact rfl); (case hd => exact Nat.le_of_ble_eq_true rfl); (case hu => exact Nat.le_of_ble_eq_true rfl); (case N => k_asm); (case hne => exact lex_pre HL hgt2); k_whole; intro v' sm' h' tk' hp' F' N' ne9; clear ne9; (obtain ⟨⟨vsq, cq, uq, lnq, hB', e1'⟩, ⟨t', e2'⟩⟩ := hp'); subst e1'; subst e2'; (try k_sweep)))
  k_with "call ref" => (k_here; (with_reducible show wpAny _ _ (call (Value.ref 276) _ _) _ _ _); k_dflt (refine' SpecK.use (number_w _ ?h0 ?h1 _ _) ?B ?F ?X ?N ?T ?hA ?hK ?hh ?hd ?hu ?_; (case hA => exact rfl); (case F => k_asm); (case N => k_asm); (case B => k_asm); (case X => k_asm); (case T => k_asm); (case hK => first | rfl | assumption); (case hh => rfl); (case hd => exact Nat.le_of_ble_eq_true rfl); (case hu => exact Nat.le_of_ble_eq_true rfl); (case h0 => assumption); (case h1 => assumption); k_whole; (rintro v' news' h' tk' ⟨⟨t', e1'⟩, e2'⟩ F' N'); subst e1'; subst e2'; (try k_sweep)))
  k_with "call ref" => (k_here; (with_reducible show wpAny _ _ (call (Value.ref 135) _ _) _ _ _); k_dflt (refine' SpecG.use hitems (lexG w X lnq uq vsq cq [] c4) ?B ?F ?X ?N ?T ?hA ?hf ?hK ?hh ?hd ?hu ?hs1 ?hs2 ?hne ?_; (case F => k_asm); (case B => k_asm); (case X => k_asm); (case T => k_asm); (case hA => exact rfl); (case hf => exact rfl); (case hK => exact rfl); (case hh => exact rfl); (case hd => exact Nat.le_of_ble_eq_true rfl); (case hu => exact Nat.le_of_ble_eq_true rfl); (case N => k_asm); (case hs1 => exact fun q hq => List.mem_append_left _ (List.mem_cons_of_mem _ (List.mem_cons_of_mem _ hq))); (case hs2 => exact fun q hq => List.mem_append_right _ hq); (case hne => exact lex_pre HL hgt); k_whole; intro v' sm' h' tk' hp' F' N' ne9; (obtain ⟨D, cD, hXD, e1', e2'⟩ := hp'); subst e1'; subst e2'; clear ne9; (try simp only [List.cons_append] at N'); (try k_sweep)))
  k_with "exec For Tuple Call" => (k_here; (rename Fr _ _ _ _ => lF'); (with_unfolding_all refine' For_turns lF' ?_; k_whole))
  k_with "exec For Name Call cons nil" => (k_here; (rename Fr _ _ _ _ => lF'); (with_unfolding_all refine' For_turns lF' ?_; k_whole))
  k_with "pyIter ref" => (k_here; (with_reducible show wpAny _ _ (pyIter (Value.ref D)) _ _ _); k_dflt (refine' push_loop w X HL hes hl hr0 hr1 hent ?hg2 ?m1 ?m2 ?m3 ?B ?F ?X ?N ?T ?_; (case F => k_asm); (case B => k_asm); (case X => k_asm); (case T => k_asm); (case N => k_asm); (case m1 => exact rfl); (case m2 => exact rfl); (case m3 => exact rfl); (case hg2 => exact fmc hXD hgt); k_whole; intro h' tk' m' psq cp ea eb hps F' N'; (rw [say_2 ea eb] at F'); (replace N' := dup_b N' ⟨List.mem_cons_of_mem _ (List.mem_append_left _ hdx0.1), List.mem_cons_of_mem _ (List.mem_append_left _ hdx0.2)⟩); (try k_sweep)))
  k_with "call ref" => (k_here; (with_reducible show wpAny _ _ (call (Value.ref 171) _ _) _ _ _); k_dflt (refine' make0 ?B ?F ?X ?N ?T ?hm ?hi ?hfn ?hA ?hf ?hK ?hh ?hd ?hu ?hA2 ?hh2 ?_; (case F => k_asm); (case N => k_asm); (case B => k_asm); (case X => k_asm); (case T => k_asm); (case hA => exact rfl); (case hf => exact rfl); (case hK => exact rfl); (case hh => exact rfl); (case hd => exact Nat.le_of_ble_eq_true rfl); (case hu => exact Nat.le_of_ble_eq_true rfl); (case hm => k_is); (case hi => k_is); (case hfn => k_is); (case hA2 => exact rfl); (case hh2 => exact rfl); k_whole; intro xm dxm lm tkm cm h' tk2' hlo' o1' o2' F' N'; (have hap0 := fun (a b c : Obj) => new_apart (o1 := a) (o2 := b) (o3 := c) hlo' o1' o2' (tab := tab) (fun q hq => List.mem_cons_of_mem _ (List.mem_cons_of_mem _ (List.mem_cons_of_mem _ (List.mem_append_left _ hq))))); (have hTm0 : TabL w X xm (C 0) [(xm, instObj 171 dxm), (dxm, hdrD w tkm lm), (lm, W.listOf #[] cm)] := hC ▸ ⟨dxm, lm, [], [], tkm, cm, Nat.lt_trans (hgt _ hdx0.1) (hlo' x (List.mem_cons_self ..)), o1', o2', .nil, rfl⟩); clear hlo'; (try simp only [List.cons_append, List.nil_append] at N'); (try k_sweep)))
  k_with "call ref" => (k_here; (with_reducible show wpAny _ _ (call (Value.ref 77) _ _) _ _ _); k_dflt (refine' SpecG.use hlen ([(xm, instObj 171 dxm), (dxm, hdrD w tkm lm), (lm, W.listOf #[] cm)] ++ lexG w X lnq uq vsq cq psq cp) ?B ?F ?X ?N ?T ?hA ?hf ?hK ?hh ?hd ?hu ?hs1 ?hs2 ?hne ?_; (case F => k_asm); (case B => k_asm); (case X => k_asm); (case T => k_asm); (case hA => exact rfl); (case hf => exact rfl); (case hK => exact rfl); (case hh => exact rfl); (case hd => exact Nat.le_of_ble_eq_true rfl); (case hu => exact Nat.le_of_ble_eq_true rfl); (case N => k_asm); (case hs1 => exact fun q hq => .tail _ (.tail _ (.tail _ (.tail _ (.tail _ (.tail _ (List.mem_append_left _ hq))))))); (case hs2 => (intro q hq; (rcases List.mem_append.mp hq with hq | hq); (exact List.mem_append_left (as := [_, _, _]) _ hq); (exact .tail _ (.tail _ (.tail _ (.tail _ (.tail _ (.tail _ (List.mem_append_right _ hq))))))))); (case hne => (intro p hp q hq; (rcases List.mem_append.mp hp with hp | hp); (exact Ne.symm (hap0 _ _ _ q hq p hp)); (exact lex_pre HL hgt p hp q hq))); k_whole; intro v' sm' h' tk' hp' F' N' ne9; (obtain ⟨⟨t', e1'⟩, e2'⟩ := hp'); subst e1'; subst e2'; clear ne9; (try k_sweep); (try dsimp only [LenBack]); (refine ⟨⟨by omega, by omega⟩, ?_⟩); (try (refine handed_on rfl ?_; try dsimp only))))
  k_with "pyIter ref" => (k_here; (with_reducible show wpAny _ _ (pyIter (Value.ref _)) (fun it s₂ => TurnsAt _ _ _ _ _ _ _ _ _ it s₂) _ _); k_dflt (refine' coll_loop w X HL (P := pairsOf r es) ?hP hps hgt hTm0 (fun p hp q hq => hap0 _ _ _ p hp q hq) (hstep xm) ?m1 ?m2 ?rg hsz.1 hsz.2 ?B ?F ?X ?N ?T ?_; (case F => k_asm); (case B => k_asm); (case X => k_asm); (case T => k_asm); (case N => k_asm); (case m1 => exact rfl); (case m2 => exact rfl); (case hP => (rw [pairsOf_length]; omega)); (case rg => (rw [← hPl]; assumption)); k_whole; intro h' tk' m' mt5 cp5 ea hT9 hap9 F' N'; (rw [say_1 ea] at F'); (try k_sweep)))
  ((try dsimp only [List.cons_append, List.nil_append] at hg hsm); k_dflt (refine' call_S ?k1 ?k2 ?k3 ?k4 ?k5 ?k10 ?k6 ?k7 ?k8 ?k9 ?kB ?_ ?c2 ?c3 ?c4 ?c5; (case k1 => k_asm); (case k2 => k_asm); (case k3 => k_asm); (case k4 => k_asm); (case k5 => k_asm); (case k10 => k_asm); (case k6 => k_is); (case k7 => k_is); (case k8 => decide); (case k9 => first | exact BindsTo.of_eq rfl | exact binds_K (by k_in) rfl (by k_is) rfl rfl rfl | exact binds_K (in_of_hide (by assumption) (by assumption)) rfl (by k_is) rfl rfl rfl); (case c5 => decide); (case kB => exact locs rfl); (case c2 => exact rfl); (case c3 => exact rfl); (case c4 => exact rfl); k_whole; intro L' h' F' N'; (replace N' := dup_2 N' hdx0); (try dsimp only); (try k_fold)))
  k_steps
  all_goals (
    k_dflt (show LeaveS _ _ _ _)
    refine' leaveS_ ?k1 ?k2 ⟨⟨xm, mt5, vsq, cq, uq, lnq, cp5, hT9, rfl, hB', rfl⟩, rfl, rfl, rfl⟩
    case k1 => k_asm
    case k2 => (rename News _ _ _ _ => N9; exact fun q hq => N9 q (List.mem_append_right _ hq)))

open PySem PySem.W PyProof.Rows PySem.Calls PySem.Builtin
noncomputable def TurnT (w : World) (X : Lx) (m : Addr) (a b : List (Nat × Int)) (k : Nat) (v : Int) : Prop := k < 5 ∧ 0 ≤ v ∧ v < 151 ∧ ∃ u es1, 0 ≤ u ∧ u < 151 ∧ (∀ mt t1 t2, TabL w X m a mt → SpecG 680 4500 w 161 [.ref m, .str (Nm k) t1, .str (Lw v) t2] [] mt (fun r sm => TabL w X m es1 sm ∧ ∃ t, r = .str (Lw u) t)) ∧ (v < u → ∀ sm t1 t2, TabL w X m es1 sm → SpecG 680 4500 w 84 [.ref m, .str (Nm k) t1, .str (Lw v) t2] [] sm (fun _ sm' => TabL w X m b sm')) ∧ (¬ v < u → es1 = b)
theorem turnN {w : World} {X : Lx} {m : Addr} {es : List (Nat × Int)} {k : Nat} {v : Int} (hk : k < 5) (hv0 : 0 ≤ v) (hv1 : v < 151) (hes : ∀ e ∈ es, e.1 < 5 ∧ e.1 ≠ k) (hl : es.length < 1000) : TurnT w X m es (es ++ [(k, v)]) k v :=
  ⟨hk, hv0, hv1, v, _, hv0, hv1, fun _ t1 t2 h => sdN h hes hl hk hv0 hv1 t1 t2, fun h => absurd h (Int.lt_irrefl _), fun _ => rfl⟩
theorem names_ok2 {k k0 : Nat} {n0 : Int} (h0 : k0 < 5) (q0 : k0 ≠ k) : ∀ e ∈ [(k0, n0)], e.1 < 5 ∧ e.1 ≠ k := fmc ⟨h0, q0⟩ (List.forall_mem_nil _)
theorem names_ok3 {k k0 k1 : Nat} {n0 n1 : Int} (h0 : k0 < 5) (q0 : k0 ≠ k) (h1 : k1 < 5) (q1 : k1 ≠ k) : ∀ e ∈ [(k0, n0), (k1, n1)], e.1 < 5 ∧ e.1 ≠ k := fmc ⟨h0, q0⟩ (names_ok2 h1 q1)
theorem turnO_2 {w : World} {X : Lx} {m : Addr} {k : Nat} {u v : Int} {k0 : Nat} {n0 : Int} (hk : k < 5) (hv0 : 0 ≤ v) (hv1 : v < 151) (hu0 : 0 ≤ u) (hu1 : u < 151) (hk0 : k0 < 5) (hq0 : Differ k0 k) : TurnT w X m [(k0, n0), (k, u)] [(k0, n0), (k, min u v)] k v :=
  ⟨hk, hv0, hv1, u, _, hu0, hu1, fun _ t1 t2 h => sdO (es := [(k0, n0)]) h (names_ok2 hk0 hq0) (by show 1 < 900; decide) hk hv0 hv1 t1 t2, fun h _ t1 t2 hT => by rw [Int.min_eq_right (Int.le_of_lt h)]; exact set_2 w hT hk hv0 hv1 hk0 hq0 t1 t2, fun h => by rw [Int.min_eq_left (Int.not_lt.mp h)]; rfl⟩
theorem turnO_3 {w : World} {X : Lx} {m : Addr} {k : Nat} {u v : Int} {k0 k1 : Nat} {n0 n1 : Int} (hk : k < 5) (hv0 : 0 ≤ v) (hv1 : v < 151) (hu0 : 0 ≤ u) (hu1 : u < 151) (hk0 : k0 < 5) (hq0 : Differ k0 k) (hk1 : k1 < 5) (hq1 : Differ k1 k) : TurnT w X m [(k0, n0), (k1, n1), (k, u)] [(k0, n0), (k1, n1), (k, min u v)] k v :=
  ⟨hk, hv0, hv1, u, _, hu0, hu1, fun _ t1 t2 h => sdO (es := [(k0, n0), (k1, n1)]) h (names_ok3 hk0 hq0 hk1 hq1) (by show 2 < 900; decide) hk hv0 hv1 t1 t2, fun h _ t1 t2 hT => by rw [Int.min_eq_right (Int.le_of_lt h)]; exact set_3 w hT hk hv0 hv1 hk0 hq0 hk1 hq1 t1 t2, fun h => by rw [Int.min_eq_left (Int.not_lt.mp h)]; rfl⟩
noncomputable def colls_1 (n0 r : Int) : Nat → List (Nat × Int)
  | 0 => []
  | 1 => [(1, n0)]
  | _ => [(1, n0), (0, n0 + r)]
theorem times_1 (w : World) (X : Lx) (HL : LexH X) (ln N0 : Int) (u1 : Tok) (c3 c4 : Nat) (vs : List Value) (codes rest : List Nat) (e : Nat) (k2 r : Int) (hr0 : 1 ≤ r) (hr1 : r < 31) (hE : WsTo [e] k2) (hS : Spelled codes (Lw r).cps.toList) (hB : Bef (codes ++ e :: rest) N0 vs ln)
    (x : Addr) (n0 : Int) (hn0 : 0 ≤ n0) (hm0 : n0 < 100) (tab : List (Addr × Obj)) (hT : Tab1 w X x n0 tab) :
    SpecG 600 4200 w 283 [.ref X.x, .ref x] [] (tab ++ lexG w X ln u1 vs c3 [] c4)
      (fun v small' => ∃ x' tab' vs' c' u' ln' c4', Tab2 w X x' (n0) (n0 + r) tab' ∧ v = .ref x' ∧ Bef rest (N0 + k2) vs' ln' ∧ small' = tab' ++ lexG w X ln' u' vs' c' [] c4') := by
  refine times_g w X HL ln N0 u1 c3 c4 vs codes rest e k2 r hr0 hr1 hE hS hB x [(0, n0)] tab (src_1 hT) ?_ (Nat.le_of_ble_eq_true rfl) (Nat.le_of_ble_eq_true rfl) (colls_1 n0 r) rfl ?_
  · intro e he
    simp only [List.mem_cons, List.not_mem_nil, or_false] at he
    rcases he with rfl <;> (dsimp only; omega)
  · intro m i k v h
    show TurnT w X m _ _ k v
    match i, h with
    | 0, h => (cases h; exact turnN (es := []) (by decide) (by omega) (by omega) (names_ok (ks := []) rfl (by decide)) (by show 0 < 1000; decide))
    | 1, h => (cases h; exact turnN (es := [(1, n0)]) (by decide) (by omega) (by omega) (names_ok (ks := [1]) rfl (by decide)) (by show 1 < 1000; decide))
    | i + 2, h => exact absurd h (by simp [pairsOf])
noncomputable def colls_2 (n0 n1 r : Int) : Nat → List (Nat × Int)
  | 0 => []
  | 1 => [(2, n0)]
  | 2 => [(2, n0), (1, n0 + r)]
  | 3 => [(2, n0), (1, min (n0 + r) n1)]
  | _ => [(2, n0), (1, min (n0 + r) n1), (0, n1 + r)]
theorem times_2 (w : World) (X : Lx) (HL : LexH X) (ln N0 : Int) (u1 : Tok) (c3 c4 : Nat) (vs : List Value) (codes rest : List Nat) (e : Nat) (k2 r : Int) (hr0 : 1 ≤ r) (hr1 : r < 31) (hE : WsTo [e] k2) (hS : Spelled codes (Lw r).cps.toList) (hB : Bef (codes ++ e :: rest) N0 vs ln)
    (x : Addr) (n0 n1 : Int) (hn0 : 0 ≤ n0) (hm0 : n0 < 100) (hn1 : 0 ≤ n1) (hm1 : n1 < 100) (tab : List (Addr × Obj)) (hT : Tab2 w X x n0 n1 tab) :
    SpecG 600 4200 w 283 [.ref X.x, .ref x] [] (tab ++ lexG w X ln u1 vs c3 [] c4)
      (fun v small' => ∃ x' tab' vs' c' u' ln' c4', Tab3 w X x' (n0) (min (n0 + r) n1) (n1 + r) tab' ∧ v = .ref x' ∧ Bef rest (N0 + k2) vs' ln' ∧ small' = tab' ++ lexG w X ln' u' vs' c' [] c4') := by
  refine times_g w X HL ln N0 u1 c3 c4 vs codes rest e k2 r hr0 hr1 hE hS hB x [(1, n0), (0, n1)] tab (src_L hT (by show 2 < 1000; decide)) ?_ (Nat.le_of_ble_eq_true rfl) (Nat.le_of_ble_eq_true rfl) (colls_2 n0 n1 r) rfl ?_
  · intro e he
    simp only [List.mem_cons, List.not_mem_nil, or_false] at he
    rcases he with rfl | rfl <;> (dsimp only; omega)
  · intro m i k v h
    show TurnT w X m _ _ k v
    match i, h with
    | 0, h => (cases h; exact turnN (es := []) (by decide) (by omega) (by omega) (names_ok (ks := []) rfl (by decide)) (by show 0 < 1000; decide))
    | 1, h => (cases h; exact turnN (es := [(2, n0)]) (by decide) (by omega) (by omega) (names_ok (ks := [2]) rfl (by decide)) (by show 1 < 1000; decide))
    | 2, h => (cases h; exact turnO_2 (by decide) (by omega) (by omega) (by omega) (by omega) (by decide) (by show _ ≠ _; decide))
    | 3, h => (cases h; exact turnN (es := [(2, n0), (1, min (n0 + r) n1)]) (by decide) (by omega) (by omega) (names_ok (ks := [2, 1]) rfl (by decide)) (by show 2 < 1000; decide))
    | i + 4, h => exact absurd h (by simp [pairsOf])
noncomputable def colls_3 (n0 n1 n2 r : Int) : Nat → List (Nat × Int)
  | 0 => []
  | 1 => [(3, n0)]
  | 2 => [(3, n0), (2, n0 + r)]
  | 3 => [(3, n0), (2, min (n0 + r) n1)]
  | 4 => [(3, n0), (2, min (n0 + r) n1), (1, n1 + r)]
  | 5 => [(3, n0), (2, min (n0 + r) n1), (1, min (n1 + r) n2)]
  | _ => [(3, n0), (2, min (n0 + r) n1), (1, min (n1 + r) n2), (0, n2 + r)]
theorem times_3 (w : World) (X : Lx) (HL : LexH X) (ln N0 : Int) (u1 : Tok) (c3 c4 : Nat) (vs : List Value) (codes rest : List Nat) (e : Nat) (k2 r : Int) (hr0 : 1 ≤ r) (hr1 : r < 31) (hE : WsTo [e] k2) (hS : Spelled codes (Lw r).cps.toList) (hB : Bef (codes ++ e :: rest) N0 vs ln)
    (x : Addr) (n0 n1 n2 : Int) (hn0 : 0 ≤ n0) (hm0 : n0 < 100) (hn1 : 0 ≤ n1) (hm1 : n1 < 100) (hn2 : 0 ≤ n2) (hm2 : n2 < 100) (tab : List (Addr × Obj)) (hT : Tab3 w X x n0 n1 n2 tab) :
    SpecG 600 4200 w 283 [.ref X.x, .ref x] [] (tab ++ lexG w X ln u1 vs c3 [] c4)
      (fun v small' => ∃ x' tab' vs' c' u' ln' c4', Tab4 w X x' (n0) (min (n0 + r) n1) (min (n1 + r) n2) (n2 + r) tab' ∧ v = .ref x' ∧ Bef rest (N0 + k2) vs' ln' ∧ small' = tab' ++ lexG w X ln' u' vs' c' [] c4') := by
  refine times_g w X HL ln N0 u1 c3 c4 vs codes rest e k2 r hr0 hr1 hE hS hB x [(2, n0), (1, n1), (0, n2)] tab (src_L hT (by show 3 < 1000; decide)) ?_ (Nat.le_of_ble_eq_true rfl) (Nat.le_of_ble_eq_true rfl) (colls_3 n0 n1 n2 r) rfl ?_
  · intro e he
    simp only [List.mem_cons, List.not_mem_nil, or_false] at he
    rcases he with rfl | rfl | rfl <;> (dsimp only; omega)
  · intro m i k v h
    show TurnT w X m _ _ k v
    match i, h with
    | 0, h => (cases h; exact turnN (es := []) (by decide) (by omega) (by omega) (names_ok (ks := []) rfl (by decide)) (by show 0 < 1000; decide))
    | 1, h => (cases h; exact turnN (es := [(3, n0)]) (by decide) (by omega) (by omega) (names_ok (ks := [3]) rfl (by decide)) (by show 1 < 1000; decide))
    | 2, h => (cases h; exact turnO_2 (by decide) (by omega) (by omega) (by omega) (by omega) (by decide) (by show _ ≠ _; decide))
    | 3, h => (cases h; exact turnN (es := [(3, n0), (2, min (n0 + r) n1)]) (by decide) (by omega) (by omega) (names_ok (ks := [3, 2]) rfl (by decide)) (by show 2 < 1000; decide))
    | 4, h => (cases h; exact turnO_3 (by decide) (by omega) (by omega) (by omega) (by omega) (by decide) (by show _ ≠ _; decide) (by decide) (by show _ ≠ _; decide))
    | 5, h => (cases h; exact turnN (es := [(3, n0), (2, min (n0 + r) n1), (1, min (n1 + r) n2)]) (by decide) (by omega) (by omega) (names_ok (ks := [3, 2, 1]) rfl (by decide)) (by show 3 < 1000; decide))
    | i + 6, h => exact absurd h (by simp [pairsOf])

theorem clrPQ2 : True := by
  k_with_none
  trivial
open PySem PySem.W PyProof.Rows PySem.Calls PySem.Builtin PySem.Builtin.Re
theorem neP1 {I : Addr} {it : Obj} {small : List (Addr × Obj)} (h : ∀ p ∈ small, p.1 ≠ I) : ∀ p ∈ small, ∀ q ∈ [(I, it)], p.1 ≠ q.1 := fun p hp q hq => by
  rw [List.mem_singleton.mp hq]; exact h p hp
theorem neP2 {I : Addr} {it : Obj} {small : List (Addr × Obj)} (h : ∀ p ∈ small, ∀ q ∈ [(I, it)], p.1 ≠ q.1) : ∀ p ∈ small, p.1 ≠ I := fun p hp => h p hp _ (.head _)
theorem neP0 {I : Addr} {small : List (Addr × Obj)} (h : ∀ p ∈ small, p.1 < I) : ∀ p ∈ small, p.1 ≠ I := fun p hp => Nat.ne_of_lt (h p hp)
theorem lex_lt {w : World} {X : Lx} {ln : Int} {u1 : Tok} {vs : List Value} {c3 : Nat} {ps : List Value} {c4 : Nat} {D : Addr} (h : ∀ p ∈ lexG w X ln u1 vs c3 ps c4, p.1 < D) : ∀ a ∈ (lexG w X ln u1 vs c3 ps c4).map (·.1), @LT.lt Nat _ a D := fun a ha => by
  obtain ⟨p, hp, rfl⟩ := List.mem_map.mp ha; exact h p hp
theorem lex_x_lt {w : World} {X : Lx} {ln : Int} {u1 : Tok} {vs : List Value} {c3 : Nat} {ps : List Value} {c4 : Nat} {D : Addr} (h : ∀ a ∈ (lexG w X ln u1 vs c3 ps c4).map (·.1), @LT.lt Nat _ a D) : @LT.lt Nat _ X.l D := h _ (by rw [lexG_map]; exact .head _)
theorem tab1_is {w : World} {X : Lx} {h₀ h : Heap} {L : Addr} {x dx lst T0 : Addr} {tk : Tok} {c : Nat} {t0 u0 : Tok} {tail : List (Addr × Obj)} (h1 : @LT.lt Nat _ X.l T0) (h2 : @LT.lt Nat _ T0 lst) (h3 : @LT.lt Nat _ lst dx) (h4 : @LT.lt Nat _ dx x)
    (N : News h₀ L h ([(x, instObj 171 dx), (dx, hdrD w tk lst), (lst, W.listOf #[.ref T0] c), (T0, tupO (.str (Str.ofString "") t0) (.str (Str.ofString "") u0))] ++ tail)) : ∃ tab, Tab1 w X x 0 tab ∧ News h₀ L h (tab ++ tail) :=
  ⟨_, ⟨dx, lst, T0, tk, t0, u0, c, ⟨h1, h2, h3, h4⟩, rfl⟩, by
    have e1 : Str.ofString "" = Nm 0 := by decide +kernel
    have e2 : Str.ofString "" = Lw 0 := by decide +kernel
    rw [← e1, ← e2]; exact N⟩
theorem product_2 (w : World) (X : Lx) (HL : LexH X) (ln N0 : Int) (u1 : Tok) (c3 c4 : Nat) (vs : List Value) (codes1 codes2 rest : List Nat) (e1 e2 : Nat) (k1 r1 k2 r2 : Int) (hr10 : 1 ≤ r1) (hr11 : r1 < 31) (hE1 : WsTo [e1] k1) (hS1 : Spelled codes1 (Lw r1).cps.toList) (hr20 : 1 ≤ r2) (hr21 : r2 < 31) (hE2 : WsTo [e2] k2) (hS2 : Spelled codes2 (Lw r2).cps.toList) (hB : Bef (codes1 ++ e1 :: (codes2 ++ e2 :: rest)) N0 vs ln) (tc : Tok) :
    SpecG 500 3600 w 290 [.ref X.x, .int 2 tc] [] (lexG w X ln u1 vs c3 [] c4)
      (fun v small' => ∃ x' tab' vs' c' u' ln' c4', Tab3 w X x' ((0 : Int)) (min ((0 : Int) + r2) ((0 : Int) + r1)) ((0 : Int) + r1 + r2) tab' ∧ v = .ref x' ∧ Bef rest (N0 + k1 + k2) vs' ln' ∧ small' = tab' ++ lexG w X ln' u' vs' c' [] c4') := by
  (unfold SpecG; k_fill; intro p loose mean mg mb envs base g s Q E hg hsm hBel hKin hTop hret)
  k_with_none
  k_with "storeName" => (k_here; k_dflt (refine' storeX_Lr ?F ?N ?a ?b ?_; (case a => exact rfl); (case b => exact rfl); (case F => k_asm); (case N => k_asm); k_whole; intro _ _ _; (try k_sweep)))
  k_with "eval Name" => (k_here; k_dflt (refine' nameX_Lr ?F ?a ?b ?v ?_; (case a => exact rfl); (case b => exact rfl); (case F => k_asm); (case v => exact rfl); k_whole))
  k_with "execs cons" => (refine wpAny_execs_cons ?_; (try k_fold))
  k_with "sub" => first | exact List.forall_mem_nil _ | exact fun _ h9 => h9 | ((first | refine' sub_keep ?_ | refine' sub_drop ?_); k_extra "sub")
  k_with "ktr_unf" => first | exact OffL.tail rfl | (refine' OffL.cons ?oa ?ob; (case oa => k_cls); (case ob => k_extra "ktr_unf"))
  k_with "tb_start" => first | exact trivial | (refine' And.intro ?ga ?gb; (case ga => assumption); (case gb => k_extra "tb_start"))
  k_with "ktr_units" => first | exact TailOf.nil | (refine' TailOf.cons ?ta; (case ta => k_extra "ktr_units"))
  k_with "ktr_room" => first | exact trivial | (refine' And.intro ?ga ?gb; (case ga => assumption); (case gb => k_extra "ktr_room"))
  k_with "tb_rel" => first | (k_extra "sub"; done) | exact List.forall_mem_nil _ | (refine' fmc ?sa ?sb; (case sa => k_mem); (case sb => k_extra "tb_rel"))
  k_with "k_in" => (refine' Frag.In.keeps ?X (Fr.keep ?F); (case F => with_reducible assumption); (case X => with_reducible assumption))
  k_with "newTuple" => (k_here; k_dflt (refine' kup_newTuple ?F ?N ?_ ?z; (case F => k_asm); (case N => k_asm); (case z => kmk_size)); intro D' h' F' N' l1; (have hloT := lex_lt l1); (have hXT := lex_x_lt hloT); clear l1; (try k_sweep))
  k_with "newList" => (k_here; k_dflt (refine' newList_K ?k1 ?k2 ?_; (case k1 => k_asm); (case k2 => k_asm); k_whole); intro l' h' F' N' l1; (have hTl := l1 (D', _) (List.mem_cons_self ..)); clear l1; (try k_sweep))
  k_with "call ref" => (k_here; (with_reducible show wpAny _ _ (call (Value.ref 171) _ _) _ _ _); k_dflt (refine' make1 ?B ?F ?X ?N ?T hTl ?hlo ?hm ?hi ?hfn ?hh ?hd ?hu ?hf ?hK ?hA2 ?hh2 ?_; (case F => k_asm); (case N => k_asm); (case B => k_asm); (case X => k_asm); (case T => k_asm); (case hA2 => exact rfl); (case hf => exact rfl); (case hK => exact rfl); (case hh => exact rfl); (case hd => exact Nat.le_of_ble_eq_true rfl); (case hu => exact Nat.le_of_ble_eq_true rfl); (case hlo => exact hloT); (case hm => k_is); (case hi => k_is); (case hfn => k_is); (case hh2 => exact rfl); k_whole; intro x' dx' tk' h' tk2' o1' o2' F' N0'; (obtain ⟨tab', hT', N'⟩ := tab1_is hXT hTl o1' o2' N0'); clear N0'; (try k_sweep)))
  k_with "pyIter ref" => ((with_reducible show wpAny _ _ (pyIter (Value.ref _)) (fun it s₂ => LoopAtV _ _ _ _ _ _ _ _ _ it s₂) _ _); k_dflt (refine' iter_rangeUnr (n := 2) ?h ?r ?a ?b ?F ?N ?_; (case h => rfl); (case r => assumption); (case F => k_asm); (case N => k_asm); (case a => first | decide | rfl); (case b => first | decide | rfl); intro i' hI'; (have hne' := neP0 hI'); clear hI'))
  k_with "UnrEnd" => k_dflt (refine' unr_endP ?F ?N ?hne ?_; (case F => k_asm); (case N => k_asm); (case hne => assumption); (try k_sweep))
  k_with "call ref" => (k_here; (with_reducible show wpAny _ _ (call (Value.ref 283) _ _) _ _ _); k_dflt (first | (refine' SpecG.useP (times_1 _ _ HL _ _ _ _ _ _ _ _ _ _ _ ?r0 ?r1 ?hE ?hS ?hB _ _ ?na0 ?nb0 _ ?hT) [_] ?B ?F ?X ?N ?T ?hA ?hf ?hK ?hh ?hd ?hu ?hne ?_; (case F => k_asm); (case N => k_asm); (case B => k_asm); (case X => k_asm); (case T => k_asm); (case hA => exact rfl); (case hf => exact rfl); (case hK => exact rfl); (case hh => exact rfl); (case hd => exact Nat.le_of_ble_eq_true rfl); (case hu => exact Nat.le_of_ble_eq_true rfl); (case hT => assumption); (case hB => assumption); (case hE => assumption); (case hS => assumption); (case r0 => assumption); (case r1 => assumption); (case na0 => first | assumption | omega); (case nb0 => first | assumption | omega); (case hne => exact neP1 (by assumption)); k_whole; intro v' sm' h' tk' hp' F' N' hne2'; (obtain ⟨x', tab', vs', c', u', ln', c4', hT', e1', hB', e2'⟩ := hp'); subst e1'; subst e2'; (have hne' := neP2 hne2'); clear hne2'; (try simp only [List.cons_append, List.nil_append] at N'); (try k_sweep)) | (refine' SpecG.useP (times_2 _ _ HL _ _ _ _ _ _ _ _ _ _ _ ?r0 ?r1 ?hE ?hS ?hB _ _ _ ?na0 ?nb0 ?na1 ?nb1 _ ?hT) [_] ?B ?F ?X ?N ?T ?hA ?hf ?hK ?hh ?hd ?hu ?hne ?_; (case F => k_asm); (case N => k_asm); (case B => k_asm); (case X => k_asm); (case T => k_asm); (case hA => exact rfl); (case hf => exact rfl); (case hK => exact rfl); (case hh => exact rfl); (case hd => exact Nat.le_of_ble_eq_true rfl); (case hu => exact Nat.le_of_ble_eq_true rfl); (case hT => assumption); (case hB => assumption); (case hE => assumption); (case hS => assumption); (case r0 => assumption); (case r1 => assumption); (case na0 => first | assumption | omega); (case nb0 => first | assumption | omega); (case na1 => first | assumption | omega); (case nb1 => first | assumption | omega); (case hne => exact neP1 (by assumption)); k_whole; intro v' sm' h' tk' hp' F' N' hne2'; (obtain ⟨x', tab', vs', c', u', ln', c4', hT', e1', hB', e2'⟩ := hp'); subst e1'; subst e2'; (have hne' := neP2 hne2'); clear hne2'; (try simp only [List.cons_append, List.nil_append] at N'); (try k_sweep))))
  k_dflt (refine' call_S ?k1 ?k2 ?k3 ?k4 ?k5 ?k10 ?k6 ?k7 ?k8 ?k9 ?kB ?_ ?c2 ?c3 ?c4 ?c5; (case k1 => k_asm); (case k2 => k_asm); (case k3 => k_asm); (case k4 => k_asm); (case k5 => k_asm); (case k10 => k_asm); (case k6 => k_is); (case k7 => k_is); (case k8 => decide); (case k9 => first | exact BindsTo.of_eq rfl | exact binds_K (by k_in) rfl (by k_is) rfl rfl rfl); (case c5 => decide); (case kB => exact locs rfl); (case c2 => exact rfl); (case c3 => exact rfl); (case c4 => exact rfl); k_whole; intro L' h' F' N'; (try dsimp only); (try k_fold))
  k_steps
  all_goals (
    k_dflt (show LeaveS _ _ _ _)
    subst_vars
    k_dflt (refine' leaveS_ ?k1 ?k2 ⟨⟨_, _, _, _, _, _, _, ?kT, rfl, ?kB, rfl⟩, rfl, rfl, rfl⟩)
    case k1 => k_asm
    case k2 => k_asm
    case kB => assumption
    case kT => assumption)

theorem clrPQ3 : True := by
  k_with_none
  trivial
open PySem PySem.W PyProof.Rows PySem.Calls PySem.Builtin PySem.Builtin.Re
theorem product_3 (w : World) (X : Lx) (HL : LexH X) (ln N0 : Int) (u1 : Tok) (c3 c4 : Nat) (vs : List Value) (codes1 codes2 codes3 rest : List Nat) (e1 e2 e3 : Nat) (k1 r1 k2 r2 k3 r3 : Int) (hr10 : 1 ≤ r1) (hr11 : r1 < 31) (hE1 : WsTo [e1] k1) (hS1 : Spelled codes1 (Lw r1).cps.toList) (hr20 : 1 ≤ r2) (hr21 : r2 < 31) (hE2 : WsTo [e2] k2) (hS2 : Spelled codes2 (Lw r2).cps.toList) (hr30 : 1 ≤ r3) (hr31 : r3 < 31) (hE3 : WsTo [e3] k3) (hS3 : Spelled codes3 (Lw r3).cps.toList) (hB : Bef (codes1 ++ e1 :: (codes2 ++ e2 :: (codes3 ++ e3 :: rest))) N0 vs ln) (tc : Tok) :
    SpecG 500 3600 w 290 [.ref X.x, .int 3 tc] [] (lexG w X ln u1 vs c3 [] c4)
      (fun v small' => ∃ x' tab' vs' c' u' ln' c4', Tab4 w X x' ((0 : Int)) (min ((0 : Int) + r3) (min ((0 : Int) + r2) ((0 : Int) + r1))) (min (min ((0 : Int) + r2) ((0 : Int) + r1) + r3) ((0 : Int) + r1 + r2)) ((0 : Int) + r1 + r2 + r3) tab' ∧ v = .ref x' ∧ Bef rest (N0 + k1 + k2 + k3) vs' ln' ∧ small' = tab' ++ lexG w X ln' u' vs' c' [] c4') := by
  (unfold SpecG; k_fill; intro p loose mean mg mb envs base g s Q E hg hsm hBel hKin hTop hret)
  k_with_none
  k_with "storeName" => (k_here; k_dflt (refine' storeX_Lr ?F ?N ?a ?b ?_; (case a => exact rfl); (case b => exact rfl); (case F => k_asm); (case N => k_asm); k_whole; intro _ _ _; (try k_sweep)))
  k_with "eval Name" => (k_here; k_dflt (refine' nameX_Lr ?F ?a ?b ?v ?_; (case a => exact rfl); (case b => exact rfl); (case F => k_asm); (case v => exact rfl); k_whole))
  k_with "execs cons" => (refine wpAny_execs_cons ?_; (try k_fold))
  k_with "sub" => first | exact List.forall_mem_nil _ | exact fun _ h9 => h9 | ((first | refine' sub_keep ?_ | refine' sub_drop ?_); k_extra "sub")
  k_with "ktr_unf" => first | exact OffL.tail rfl | (refine' OffL.cons ?oa ?ob; (case oa => k_cls); (case ob => k_extra "ktr_unf"))
  k_with "tb_start" => first | exact trivial | (refine' And.intro ?ga ?gb; (case ga => assumption); (case gb => k_extra "tb_start"))
  k_with "ktr_units" => first | exact TailOf.nil | (refine' TailOf.cons ?ta; (case ta => k_extra "ktr_units"))
  k_with "ktr_room" => first | exact trivial | (refine' And.intro ?ga ?gb; (case ga => assumption); (case gb => k_extra "ktr_room"))
  k_with "tb_rel" => first | (k_extra "sub"; done) | exact List.forall_mem_nil _ | (refine' fmc ?sa ?sb; (case sa => k_mem); (case sb => k_extra "tb_rel"))
  k_with "k_in" => (refine' Frag.In.keeps ?X (Fr.keep ?F); (case F => with_reducible assumption); (case X => with_reducible assumption))
  k_with "newTuple" => (k_here; k_dflt (refine' kup_newTuple ?F ?N ?_ ?z; (case F => k_asm); (case N => k_asm); (case z => kmk_size)); intro D' h' F' N' l1; (have hloT := lex_lt l1); (have hXT := lex_x_lt hloT); clear l1; (try k_sweep))
  k_with "newList" => (k_here; k_dflt (refine' newList_K ?k1 ?k2 ?_; (case k1 => k_asm); (case k2 => k_asm); k_whole); intro l' h' F' N' l1; (have hTl := l1 (D', _) (List.mem_cons_self ..)); clear l1; (try k_sweep))
  k_with "call ref" => (k_here; (with_reducible show wpAny _ _ (call (Value.ref 171) _ _) _ _ _); k_dflt (refine' make1 ?B ?F ?X ?N ?T hTl ?hlo ?hm ?hi ?hfn ?hh ?hd ?hu ?hf ?hK ?hA2 ?hh2 ?_; (case F => k_asm); (case N => k_asm); (case B => k_asm); (case X => k_asm); (case T => k_asm); (case hA2 => exact rfl); (case hf => exact rfl); (case hK => exact rfl); (case hh => exact rfl); (case hd => exact Nat.le_of_ble_eq_true rfl); (case hu => exact Nat.le_of_ble_eq_true rfl); (case hlo => exact hloT); (case hm => k_is); (case hi => k_is); (case hfn => k_is); (case hh2 => exact rfl); k_whole; intro x' dx' tk' h' tk2' o1' o2' F' N0'; (obtain ⟨tab', hT', N'⟩ := tab1_is hXT hTl o1' o2' N0'); clear N0'; (try k_sweep)))
  k_with "pyIter ref" => ((with_reducible show wpAny _ _ (pyIter (Value.ref _)) (fun it s₂ => LoopAtV _ _ _ _ _ _ _ _ _ it s₂) _ _); k_dflt (refine' iter_rangeUnr (n := 3) ?h ?r ?a ?b ?F ?N ?_; (case h => rfl); (case r => assumption); (case F => k_asm); (case N => k_asm); (case a => first | decide | rfl); (case b => first | decide | rfl); intro i' hI'; (have hne' := neP0 hI'); clear hI'))
  k_with "UnrEnd" => k_dflt (refine' unr_endP ?F ?N ?hne ?_; (case F => k_asm); (case N => k_asm); (case hne => assumption); (try k_sweep))
  k_with "call ref" => (k_here; (with_reducible show wpAny _ _ (call (Value.ref 283) _ _) _ _ _); k_dflt (first | (refine' SpecG.useP (times_1 _ _ HL _ _ _ _ _ _ _ _ _ _ _ ?r0 ?r1 ?hE ?hS ?hB _ _ ?na0 ?nb0 _ ?hT) [_] ?B ?F ?X ?N ?T ?hA ?hf ?hK ?hh ?hd ?hu ?hne ?_; (case F => k_asm); (case N => k_asm); (case B => k_asm); (case X => k_asm); (case T => k_asm); (case hA => exact rfl); (case hf => exact rfl); (case hK => exact rfl); (case hh => exact rfl); (case hd => exact Nat.le_of_ble_eq_true rfl); (case hu => exact Nat.le_of_ble_eq_true rfl); (case hT => assumption); (case hB => assumption); (case hE => assumption); (case hS => assumption); (case r0 => assumption); (case r1 => assumption); (case na0 => first | assumption | omega); (case nb0 => first | assumption | omega); (case hne => exact neP1 (by assumption)); k_whole; intro v' sm' h' tk' hp' F' N' hne2'; (obtain ⟨x', tab', vs', c', u', ln', c4', hT', e1', hB', e2'⟩ := hp'); subst e1'; subst e2'; (have hne' := neP2 hne2'); clear hne2'; (try simp only [List.cons_append, List.nil_append] at N'); (try k_sweep)) | (refine' SpecG.useP (times_2 _ _ HL _ _ _ _ _ _ _ _ _ _ _ ?r0 ?r1 ?hE ?hS ?hB _ _ _ ?na0 ?nb0 ?na1 ?nb1 _ ?hT) [_] ?B ?F ?X ?N ?T ?hA ?hf ?hK ?hh ?hd ?hu ?hne ?_; (case F => k_asm); (case N => k_asm); (case B => k_asm); (case X => k_asm); (case T => k_asm); (case hA => exact rfl); (case hf => exact rfl); (case hK => exact rfl); (case hh => exact rfl); (case hd => exact Nat.le_of_ble_eq_true rfl); (case hu => exact Nat.le_of_ble_eq_true rfl); (case hT => assumption); (case hB => assumption); (case hE => assumption); (case hS => assumption); (case r0 => assumption); (case r1 => assumption); (case na0 => first | assumption | omega); (case nb0 => first | assumption | omega); (case na1 => first | assumption | omega); (case nb1 => first | assumption | omega); (case hne => exact neP1 (by assumption)); k_whole; intro v' sm' h' tk' hp' F' N' hne2'; (obtain ⟨x', tab', vs', c', u', ln', c4', hT', e1', hB', e2'⟩ := hp'); subst e1'; subst e2'; (have hne' := neP2 hne2'); clear hne2'; (try simp only [List.cons_append, List.nil_append] at N'); (try k_sweep)) | (refine' SpecG.useP (times_3 _ _ HL _ _ _ _ _ _ _ _ _ _ _ ?r0 ?r1 ?hE ?hS ?hB _ _ _ _ ?na0 ?nb0 ?na1 ?nb1 ?na2 ?nb2 _ ?hT) [_] ?B ?F ?X ?N ?T ?hA ?hf ?hK ?hh ?hd ?hu ?hne ?_; (case F => k_asm); (case N => k_asm); (case B => k_asm); (case X => k_asm); (case T => k_asm); (case hA => exact rfl); (case hf => exact rfl); (case hK => exact rfl); (case hh => exact rfl); (case hd => exact Nat.le_of_ble_eq_true rfl); (case hu => exact Nat.le_of_ble_eq_true rfl); (case hT => assumption); (case hB => assumption); (case hE => assumption); (case hS => assumption); (case r0 => assumption); (case r1 => assumption); (case na0 => first | assumption | omega); (case nb0 => first | assumption | omega); (case na1 => first | assumption | omega); (case nb1 => first | assumption | omega); (case na2 => first | assumption | omega); (case nb2 => first | assumption | omega); (case hne => exact neP1 (by assumption)); k_whole; intro v' sm' h' tk' hp' F' N' hne2'; (obtain ⟨x', tab', vs', c', u', ln', c4', hT', e1', hB', e2'⟩ := hp'); subst e1'; subst e2'; (have hne' := neP2 hne2'); clear hne2'; (try simp only [List.cons_append, List.nil_append] at N'); (try k_sweep))))
  k_dflt (refine' call_S ?k1 ?k2 ?k3 ?k4 ?k5 ?k10 ?k6 ?k7 ?k8 ?k9 ?kB ?_ ?c2 ?c3 ?c4 ?c5; (case k1 => k_asm); (case k2 => k_asm); (case k3 => k_asm); (case k4 => k_asm); (case k5 => k_asm); (case k10 => k_asm); (case k6 => k_is); (case k7 => k_is); (case k8 => decide); (case k9 => first | exact BindsTo.of_eq rfl | exact binds_K (by k_in) rfl (by k_is) rfl rfl rfl); (case c5 => decide); (case kB => exact locs rfl); (case c2 => exact rfl); (case c3 => exact rfl); (case c4 => exact rfl); k_whole; intro L' h' F' N'; (try dsimp only); (try k_fold))
  k_steps
  all_goals (
    k_dflt (show LeaveS _ _ _ _)
    subst_vars
    k_dflt (refine' leaveS_ ?k1 ?k2 ⟨⟨_, _, _, _, _, _, _, ?kT, rfl, ?kB, rfl⟩, rfl, rfl, rfl⟩)
    case k1 => k_asm
    case k2 => k_asm
    case kB => assumption
    case kT => assumption)

open PySem PySem.W PyProof.Rows PySem.Calls PySem.Builtin
theorem lexG_le {w : World} {X : Lx} (H : LexH X) {ln : Int} {u1 : Tok} {vs : List Value} {c3 : Nat} {ps : List Value} {c4 : Nat} : ∀ q ∈ lexG w X ln u1 vs c3 ps c4, @LE.le Nat _ X.ce q.1 ∧ @LE.le Nat _ q.1 X.l := by
  rw [lexG_eq]; exact lexL_le H
theorem pre_ne {w : World} {X : Lx} (H : LexH X) {ln : Int} {u1 : Tok} {vs : List Value} {c3 : Nat} {ps : List Value} {c4 : Nat} {a b c d : Addr} {oa ob oc od : Obj} (ha : @LT.lt Nat _ a X.ce) (hb : @LT.lt Nat _ b X.ce) (hc : @LT.lt Nat _ c X.ce) (hd : @LT.lt Nat _ d X.ce) :
    ∀ p ∈ lexG w X ln u1 vs c3 ps c4, ∀ q ∈ [(a, oa), (b, ob), (c, oc), (d, od)], p.1 ≠ q.1 := fun p hp q hq e => by
  have h := (lexG_le H p hp).1
  simp only [List.mem_cons, List.not_mem_nil, or_false] at hq
  rw [e] at h
  rcases hq with rfl | rfl | rfl | rfl
  · exact absurd (Nat.lt_of_lt_of_le ha h) (Nat.lt_irrefl _)
  · exact absurd (Nat.lt_of_lt_of_le hb h) (Nat.lt_irrefl _)
  · exact absurd (Nat.lt_of_lt_of_le hc h) (Nat.lt_irrefl _)
  · exact absurd (Nat.lt_of_lt_of_le hd h) (Nat.lt_irrefl _)
theorem tab4_gt {w : World} {X : Lx} {x : Addr} {v0 v1 v2 v3 : Int} {tab : List (Addr × Obj)} (h : Tab4 w X x v0 v1 v2 v3 tab) : ∀ q ∈ tab, @LT.lt Nat _ X.l q.1 := tabL_gt h
theorem ne_step {w : World} {X : Lx} (H : LexH X) {ln : Int} {u1 : Tok} {vs : List Value} {c3 : Nat} {ps : List Value} {c4 : Nat} {pre tab : List (Addr × Obj)} (h1 : ∀ p ∈ tab ++ lexG w X ln u1 vs c3 ps c4, ∀ q ∈ pre, p.1 ≠ q.1) (h2 : ∀ q ∈ tab, @LT.lt Nat _ X.l q.1) :
    ∀ p ∈ lexG w X ln u1 vs c3 ps c4, ∀ q ∈ pre ++ tab, p.1 ≠ q.1 := fun p hp q hq => by
  rcases List.mem_append.mp hq with hq | hq
  · exact h1 p (List.mem_append_right _ hp) q hq
  · intro e
    have a := (lexG_le H p hp).2
    rw [e] at a
    exact absurd (Nat.lt_of_lt_of_le (h2 q hq) a) (Nat.lt_irrefl _)

open PySem PySem.W PyProof.Rows PySem.Calls
theorem call_SC {prog : Program} {w : World} {dp un : Nat} {envs : List Env} {s : Shared} {g base : Heap} {small : List (Addr × Obj)} {K : Frag} {Post : Value → List (Addr × Obj) → Prop} {Q E : Value → Shared → Prop}
    {p : Program} {loose : List Str} {mean : ExcName → Option Value} {mg mb : Str → Option Value}
    {name qual : Str} {params : Arguments} {body : List Stmt} {scope : Scope} {dV kV doc pm cdv ct oc : Value} {an od : Option Addr} {osl : Array (Option Value)} {f : Addr} {args : List Value} {kw : List (Str × Value)} {binds : List (Str × Value)}
    (hg : g = hideAll s.heap (small.map (·.1))) (hsm : ∀ p ∈ small, s.heap.get? p.1 = some p.2) (_B : Below (roof dp un envs) base envs g) (X : K.In g) (T : Top p loose mean mg mb g)
    (hret : ∀ v small' L' m' h' tk', Post v small' → Fr g L' h' m' → News g L' h' small' → Q v { s with heap := h', toks := tk' })
    (ho : K.lookup f = some ⟨oc, od, .func (fnOf name qual params body scope dV kV doc pm an cdv ct), osl⟩) (hcd : codeIn K cdv qual = true) (hroom : dp < recursionLimit)
    (hbind : BindsTo s (fnOf name qual params body scope dV kV doc pm an cdv ct) ⟨args, kw⟩ binds) (hkind : (binds.all fun y => scope.names.lookup y.1 == some .local || scope.names.lookup y.1 == some .cell) = true)
    (hnd : ((cellsFrom 0 scope.names []).map (·.1)).Nodup)
    (h : ∀ L' h₁ tk cells, Fr g L' h₁ (bindL (envOfC qual scope L' f cdv).kindOf binds fun _ => none) → News g L' h₁ (cells ++ small) →
      CellsAre (bindC (envOfC qual scope L' f cdv).kindOf binds fun _ => none) (cellsFrom (L' + 1) scope.names []) cells → (∀ p ∈ small, p.1 < L') →
      wpAny (model prog w) ((roof dp un envs).deeper (envOfC qual scope L' f cdv)) (execs body (envOfC qual scope L' f cdv))
        (fun fl s' => LeaveS g (fun v small' s' => Post v small' ∧ s'.gens = s.gens ∧ s'.drawn = s.drawn ∧ s'.os = s.os) (match fl with | .ret v => v | _ => .none) s')
        (fun _ _ => False)
        { s with heap := h₁, toks := tk })
    (hco : scope.isCoroutine = false) (hgen : scope.isGenerator = false) (hk : scope.kind = .function) : wpAny (model prog w) (roof dp un envs) (call (.ref f) args kw) Q E s := by
  subst hg
  have gs : ∀ {b : Addr} {o : Obj}, (hideAll s.heap (small.map (·.1))).get? b = some o → s.heap.get? b = some o := fun e => of_hideAll _ e
  have hcd' := codeRec_of X hcd
  refine wpAny_call (codeAny_call_function hroom (gs (X _ _ ho)) rfl hco hgen rfl ?_ (hbind _ _ _ _ ?_))
  · obtain ⟨a, o, vs, r, e1, e2, e3, e4⟩ := hcd'
    exact ⟨a, o, vs, r, e1, gs e2, e3, e4⟩
  refine wpAny_newFunctionEnv_cells hk (kindsX hkind _) fun env' he s' x => ?_
  subst he
  refine ⟨(T.nolimit.keeps fun b o e => gs e).keeps x.toInCall.keep, codeAny_func ?_⟩
  obtain ⟨h₁, tk, rfl, _⟩ := x.done
  have hk₁ := x.toInCall.keep
  obtain ⟨cells, NC, Y⟩ := Cl.news (h₀ := s.heap) (Nat.le_refl _) fun n c hm => ⟨x.cell n c (lookup_of_mem_nodup (cellsFrom_names scope.names 0 (s.heap.objs.size + 1) [] [] rfl ▸ hnd) hm), x.above n c hm⟩
  refine wpAny_mono (h s.heap.objs.size h₁ tk cells ⟨x.toInCall.ns, fun b o e => hk₁ b o (gs e), Nat.le_of_eq (hideAll_size _ _)⟩ (fun p hp => ?_) Y (fun p hp => Heap.lt_size (hsm p hp))) (fun fl s' hl => ?_) fun _ _ y => y.elim
  · rcases List.mem_append.mp hp with hp | hp
    · refine ⟨(NC p hp).1, (NC p hp).2.1, ?_⟩
      cases q : (hideAll s.heap (small.map (·.1))).get? p.1 with
      | none => rfl
      | some o => have := gs q; rw [(NC p hp).2.2] at this; cases this
    · exact ⟨hk₁ _ _ (hsm p hp), Nat.ne_of_lt (Heap.lt_size (hsm p hp)), hideAll_none _ (List.mem_map_of_mem hp)⟩
  · obtain ⟨L', m', small', F', N', hp, e1, e2, e3⟩ := hl
    have := hret _ small' L' m' s'.heap s'.toks hp F' N'
    rw [← e1, ← e2, ← e3] at this
    exact this

open PySem PySem.W PyProof.Rows PySem.Calls
section
variable {prog : Program} {w : World} {A : Around} {E : Value → Shared → Prop} {s : Shared} {env : Env} {h₀ : Heap} {L : Addr} {m : Str → Option Value}
theorem range_in {elt i1 : Expr} {x : Str} {px pos : Pos} {scope : Scope} {cl : List (Str × Addr)} {Q : Value → Shared → Prop} {news : List (Addr × Obj)} {r : Addr} {b : Int} {t u v : Tok} {n : Nat}
    (hh : A.handled = none) (hx : scope.names.lookup x = some .local) (hk : scope.kind = .function) (F : Fr h₀ L s.heap m) (N : News h₀ L s.heap news) (hr : IsRange s.heap r 0 b 1 t u v) (hsm : Builtin.Range.small 0 b 1 = true) (hsz : Builtin.Range.rangeSize 0 b 1 = ((n : Nat) : Int))
    (J : Nat → List Value → List (Addr × Obj) → Prop) (hJ : ∀ i ys nw, i < n → J i ys nw → ys.length ≤ sizeLine) (j0 : J 0 [] news)
    (step : ∀ (Ex : Value → Shared → Prop) i I oI C oC D m₂ ys nw h tk t, i < n → J i ys nw → LCg.NsObj oC m₂ → m₂ x = some (.int (i : Int) t) → Fr h₀ L h m → News h₀ L h ([(I, oI), (C, oC), (D, LCg.lst ys)] ++ nw) → ApartC [I] C D nw →
      wpAny (model prog w) A (eval elt (compEnvC scope cl C env)) (EEnd h₀ L m [I] C D [(I, oI), (C, oC), (D, LCg.lst ys)] { s with heap := h, toks := tk } (J (i + 1)) ys) Ex { s with heap := h, toks := tk })
    (fin : ∀ D ys nw h tk, (∀ p ∈ news, p.1 < D) → J n ys nw → Fr h₀ L h m → News h₀ L h ((D, LCg.lst ys) :: nw) → Q (.ref D) { s with heap := h, toks := tk }) :
    wpAny (model prog w) A (pyIter (.ref r)) (CIn prog w A h₀ L m (.ListComp elt [⟨.Name x px, i1, [], 0⟩] scope pos) scope cl env Q) E s := by
  refine wpAny_pyIter_range hr hsm ?_
  rw [hsz]
  have up : ∀ b o, s.heap.get? b = some o → (s.heap.push { cls := .type "range_iterator", data := .fields #[rawInt 0, rawInt (n : Int), rawInt 1] }).get? b = some o := fun b o e => Heap.get?_push_of_some _ e
  have st0 : IsRangeIter (s.heap.push { cls := .type "range_iterator", data := .fields #[rawInt 0, rawInt (n : Int), rawInt 1] }) s.heap.objs.size (0 + ((0 : Nat) : Int) * 1) ((n : Int) - ((0 : Nat) : Int)) 1 := by
    show Heap.get? _ _ = _
    simpa using Heap.get?_push_size _ rfl
  refine ⟨news, F.keeps up, N.grown up, fun D C h oC lD hDs hDC F' N' hC hk2 => ?_⟩
  have f1 := fresh0 F (a := s.heap.objs.size) (Nat.le_refl _)
  have g1 : @LT.lt Nat _ s.heap.objs.size D := by
    have q : @LE.le Nat _ (s.heap.push { cls := .type "range_iterator", data := .fields #[rawInt 0, rawInt (n : Int), rawInt 1] }).objs.size D := hDs
    rw [Heap.size_push] at q; exact q
  have W := KTurns.ofWalks (target := .Name x px) (LCg.range_walks (prog := prog) (w := w) (I := s.heap.objs.size) hh 0 n) fun i v s Q E st q => by
    show wpAny _ _ (pure ()) _ _ _
    exact wpAny_pure q
  have loop : codeAny (model prog w) A (.compLoop (.ListComp elt [⟨.Name x px, i1, [], 0⟩] scope pos) 0 (.ref s.heap.objs.size) (.ref D) (compEnvC scope cl C env)) (COut h₀ L m C D { s with heap := s.heap.push { cls := .type "range_iterator", data := .fields #[rawInt 0, rawInt (n : Int), rawInt 1] } } Q) { s with heap := h, toks := s.toks } := by
    refine comp_led (src := []) (s₁ := s) (turn1 ..) W ?_ ?_ ?_ (fun i ys _ nw => J i ys nw) ?_ ?_ ?_ ?_ j0 hC F' N' ?_
    · intro b hb
      exact .inl hb
    · intro i h st b hb
      rw [List.mem_singleton.mp hb]; exact ⟨_, st⟩
    · intro b hb
      rw [List.mem_singleton.mp hb]
      exact ⟨f1.1, f1.2, Nat.ne_of_lt (Nat.lt_trans g1 hDC), Nat.ne_of_lt g1⟩
    · intro _ _ _ _ _ p hp; cases hp
    · rintro Ex i v own oC m₂ ys nw h tk hi ⟨t, rfl⟩ hj hown hC2 F2 N2 ap
      obtain ⟨oI, rfl⟩ := own_one hown
      refine asg_name hx hk F2 N2 hC2 (fun p hp => ?_) (fun p hp => ?_) fun h3 oC3 tk3 F3 N3 hC3 => ?_
      · rw [List.mem_singleton.mp hp]; exact Nat.ne_of_lt (Nat.lt_trans g1 hDC)
      · rcases List.mem_cons.mp hp with rfl | hp
        · exact Nat.ne_of_lt hDC
        · exact (ap p hp).2.1
      refine tail_led (wr := [s.heap.objs.size]) (own := [(s.heap.objs.size, oI)]) (J := fun ys _ nw => J (i + 1) ys nw) (ys := ys) (D := D) (C := C) (fun hm => Nat.ne_of_gt g1 (List.mem_singleton.mp hm)) (Nat.ne_of_gt hDC) rfl (hJ _ _ _ hi hj) ?_
      refine wpAny_mono (step _ i s.heap.objs.size oI C oC3 D _ ys nw h3 tk3 t hi hj hC3 (by simp) F3 N3 ap) (fun yv s₂ h₂ => ?_) fun _ _ e => e
      obtain ⟨h4, tk4, nw4, rfl, F4, N4, ap4, hj4⟩ := h₂
      exact ⟨h4, tk4, oC3, _, nw4, rfl, F4, N4, hC3, ap4, hj4⟩
    · intro oC m₂ ys nw h tk hj hC2 F2 N2 ap
      exact ⟨rfl, h, tk, oC, m₂, ys, nw, rfl, F2, N2, hC2, Nat.ne_of_gt hDC, fun p hp => (ap p hp).2.1, fun h'' F'' N'' => fin D ys nw h'' tk lD hj F'' N''⟩
    · exact hk2 _ _ st0
    · exact apart0 (fun p hp b hb => by
        rw [List.mem_singleton.mp hb]; exact Heap.lt_size (N p hp).1) (fun p hp => lD p hp) hDC
  exact codeAny_compStart_list loop (wpAny_pyIter_rangeiter (hk2 _ _ st0) loop)
end

open PySem PySem.W PyProof.Rows PySem.Calls
section
variable {prog : Program} {w : World} {A : Around} {E : Value → Shared → Prop} {s : Shared} {env : Env} {h₀ : Heap} {L : Addr} {m : Str → Option Value}
noncomputable def COutA (h₀ : Heap) (L : Addr) (m : Str → Option Value) (C D : Addr) (s₂ : Shared) (z : Str) (Q : Flow → Shared → Prop) (r : Result) (s' : Shared) : Prop :=
  r = .ok .next ∧ ∃ h' tk' oC' m₂ ys nw, s' = { s₂ with heap := h', toks := tk' } ∧ Fr h₀ L h' m ∧ News h₀ L h' ((C, oC') :: (D, LCg.lst ys) :: nw) ∧ LCg.NsObj oC' m₂ ∧ C ≠ D ∧ (∀ p ∈ nw, p.1 ≠ C) ∧
    ∀ h'' tk'', Fr h₀ L h'' (fun q => if q = z then some (.ref D) else m q) → News h₀ L h'' ((D, LCg.lst ys) :: nw) → Q .next { s₂ with heap := h'', toks := tk'' }
theorem COutA.post {C D : Addr} {s₂ s' : Shared} {z : Str} {pz : Pos} {Q : Flow → Shared → Prop} {r : Result} (hL : env.locals = L) (hy : env.kindOf z = some .local) (hp : (env.scope.kind == .class || (env.scope.kind == .module && env.locals != env.globals)) = false) (h : COutA h₀ L m C D s₂ z Q r s') : compPost (model prog w) A E (some (assign (.Name z pz) env)) (fun _ s' => Q .next s') (.ref D) C r s' := by
  subst hL
  obtain ⟨rfl, h', tk', oC', m₂, ys, nw, rfl, F, N, hC, hCD, hap, k⟩ := h
  have hm := N (C, oC') (.head _)
  show wpAny _ A (assign (.Name z pz) env (.ref D)) _ _ _
  refine wpAny_assign_Name (wpAny_storeName_local hy F.ns (fun h₂ hn₂ hs₂ => ?_) hp)
  have hL₀ : h₀.get? env.locals = none := Heap.get?_none_of_le F.above
  have F₂ : Fr h₀ env.locals h₂ (fun q => if q = z then some (.ref D) else m q) := ⟨hn₂, fun b o e => hs₂.extBut b o (fun q => by rw [q, hL₀] at e; cases e) (F.keep b o e), F.above⟩
  refine ⟨m₂, (hC.ns hm.1).sameBut hs₂ hm.2.1, fun h'' hs'' => k h'' _ (F₂.change hs'' hm.2.1 hm.2.2) fun p hp => ?_⟩
  have z := N p (.tail _ hp)
  refine ⟨hs''.extBut _ _ (fun e => ?_) (hs₂.extBut _ _ z.2.1 z.1), z.2⟩
  rcases List.mem_cons.mp hp with rfl | hp
  · exact hCD e.symm
  · exact hap p hp e
noncomputable def CInA (prog : Program) (w : World) (A : Around) (h₀ : Heap) (L : Addr) (m : Str → Option Value) (e : Expr) (scope : Scope) (cl : List (Str × Addr)) (env : Env) (z : Str) (Q : Flow → Shared → Prop) (it : Value) (s₂ : Shared) : Prop :=
  ∃ news, Fr h₀ L s₂.heap m ∧ News h₀ L s₂.heap news ∧ ∀ D C h oC, (∀ p ∈ news, p.1 < D) → s₂.heap.objs.size ≤ D → D < C → Fr h₀ L h m → News h₀ L h ((C, oC) :: (D, LCg.lst []) :: news) → LCg.NsObj oC (fun _ => none) → (∀ b o, s₂.heap.get? b = some o → h.get? b = some o) →
    codeAny (model prog w) A (.compStart e 0 it (.ref D) (compEnvC scope cl C env)) (COutA h₀ L m C D s₂ z Q) { s₂ with heap := h }
theorem comp_in_to {elt t i : Expr} {gs : List Comprehension} {scope : Scope} {cl : List (Str × Addr)} {pos pz spos : Pos} {z : Str} {Q : Flow → Shared → Prop} (_F : Fr h₀ L s.heap m) (hL : env.locals = L)
    (hsw : swapsWith (.ListComp elt (⟨t, i, [], 0⟩ :: gs) scope pos) (some (.Name z pz)) spos.line env = pure true)
    (hclos : closureFor scope env = pure cl) (hcell : ∀ y ∈ scope.names, y.2 ≠ .cell) (hkind : scope.kind = .function) (hnames : ∀ y ∈ scope.names, y.2 = .local → scope.names.lookup y.1 = some .local)
    (hy : env.kindOf z = some .local) (hp : (env.scope.kind == .class || (env.scope.kind == .module && env.locals != env.globals)) = false)
    (h : wpAny (model prog w) A (eval i env) (fun xv s₁ => wpAny (model prog w) A (pyIter xv) (CInA prog w A h₀ L m (.ListComp elt (⟨t, i, [], 0⟩ :: gs) scope pos) scope cl env z Q) E s₁) E s)
    (hs : ∀ x, foldedSetIterable i env x = pure x := by intro _; rfl) :
    wpAny (model prog w) A (exec (.Assign [.Name z pz] (.ListComp elt (⟨t, i, [], 0⟩ :: gs) scope pos) spos) env) Q E s := by
  rw [exec_Assign_Name_used _ _ _ _ hsw]
  refine wpAny_bind (wpAny_standAt (wpAny_bind ?_))
  show wpAny _ A (do let _ ← comprehension (.ListComp elt (⟨t, i, [], 0⟩ :: gs) scope pos) scope env _ (newList []) false (eval i env) (some (assign (.Name z pz) env))) _ _ s
  refine wpAny_bind (wpAny_mono (wpAny_comprehension_free (use := some (assign (.Name z pz) env)) (Q := fun _ s' => Q .next s') rfl hs hclos hkind hnames
    (wpAny_mono h (fun xv s₁ h₁ => wpAny_mono h₁ (fun it s₂ h₂ => ?_) fun _ _ e => e) fun _ _ e => e)) (fun _ s' hq => wpAny_pure (wpAny_pure hq)) fun _ _ e => e)
  obtain ⟨news, F, N, k⟩ := h₂
  refine wpAny_newObj_type (wpAny_newFunctionEnv hcell (by intro y hy; simp at hy) (fun h₁ hns₁ hsb₁ => ?_) hkind)
  dsimp only at hns₁ hsb₁ ⊢
  generalize hH2 : s₂.heap.push { cls := .type "list", dict := none, data := .seq ([] : List Value).toArray } = H2 at hns₁ hsb₁ ⊢
  have hC : H2.objs.size = s₂.heap.objs.size + 1 := by rw [← hH2, Heap.size_push]
  have hDC : s₂.heap.objs.size < H2.objs.size := by rw [hC]; exact Nat.lt_succ_self _
  have old : ∀ b o, s₂.heap.get? b = some o → h₁.get? b = some o := fun b o e => hsb₁.extBut b o (Nat.ne_of_lt (Nat.lt_trans (Heap.lt_size e) hDC)) (Heap.get?_push_of_some _ (hH2 ▸ Heap.get?_push_of_some _ e))
  have hacc : h₁.get? s₂.heap.objs.size = some (LCg.lst []) := hsb₁.extBut _ _ (Nat.ne_of_lt hDC) (Heap.get?_push_of_some _ (hH2 ▸ Heap.get?_push_size _ rfl))
  have fD := fresh0 F (a := s₂.heap.objs.size) (Nat.le_refl _)
  have fC := fresh0 F (a := H2.objs.size) (Nat.le_of_lt hDC)
  obtain ⟨oC, heC, hoC⟩ := LCg.ns_obj hns₁
  refine codeAny_mono (k s₂.heap.objs.size H2.objs.size h₁ oC (fun p hp => Heap.lt_size (N p hp).1) (Nat.le_refl _) hDC (F.keeps old) (fun p hp => ?_) hoC old) fun r s' hr => hr.post hL hy hp
  rcases List.mem_cons.mp hp with rfl | hp
  · exact ⟨heC, fC.2, fC.1⟩
  rcases List.mem_cons.mp hp with rfl | hp
  · exact ⟨hacc, fD.2, fD.1⟩
  · exact ⟨old _ _ (N p hp).1, (N p hp).2⟩
theorem outer_list_to {elt i1 t2 i2 : Expr} {x : Str} {px pos : Pos} {scope : Scope} {cl : List (Str × Addr)} {z : Str} {Q : Flow → Shared → Prop} {news : List (Addr × Obj)} {l : Addr} {lo : Obj} {vs : List Value} {c : Nat}
    (hh : A.handled = none) (hx : scope.names.lookup x = some .local) (hk : scope.kind = .function) (F : Fr h₀ L s.heap m) (N : News h₀ L s.heap news) (hl : (l, lo) ∈ news) (hc : lo.cls = .type "list") (hd : lo.data = .seq vs.toArray c)
    (hs2 : ∀ C x, foldedSetIterable i2 (compEnvC scope cl C env) x = pure x)
    (J : Nat → List Value → List (Addr × Obj) → Prop) (hJ : ∀ i ys nw, J i ys nw → (l, lo) ∈ nw) (j0 : J 0 [] news)
    (step : ∀ (Ex : Value → Shared → Prop) i v I oI C D oC m₂ ys nw h tk, vs[i]? = some v → J i ys nw → LCg.NsObj oC m₂ → m₂ x = some v → @Ne Nat I C → @Ne Nat I D → @Ne Nat C D → h₀.get? I = none ∧ I ≠ L → Fr h₀ L h m → News h₀ L h ([(I, oI), (C, oC), (D, LCg.lst ys)] ++ nw) → ApartC [I] C D nw →
      wpAny (model prog w) A (eval i2 (compEnvC scope cl C env)) (fun xv s₁ => wpAny (model prog w) A (pyIter xv) (NEnd prog w A h₀ L m [I] C D [(I, oI)] s (J (i + 1)) (.ListComp elt [⟨.Name x px, i1, [], 0⟩, ⟨t2, i2, [], 0⟩] scope pos) (compEnvC scope cl C env)) Ex s₁) Ex { s with heap := h, toks := tk })
    (fin : ∀ D ys nw h tk, J vs.length ys nw → Fr h₀ L h (fun q => if q = z then some (.ref D) else m q) → News h₀ L h ((D, LCg.lst ys) :: nw) → Q .next { s with heap := h, toks := tk }) :
    wpAny (model prog w) A (pyIter (.ref l)) (CInA prog w A h₀ L m (.ListComp elt [⟨.Name x px, i1, [], 0⟩, ⟨t2, i2, [], 0⟩] scope pos) scope cl env z Q) E s := by
  have hax := N _ hl
  have hL : s.heap.IsList l vs.toArray := ⟨lo, hax.1, hc, c, hd⟩
  have hlt : @LT.lt Nat _ l s.heap.objs.size := Heap.lt_size hax.1
  refine wpAny_pyIter_list hL ?_
  have up : ∀ b o, s.heap.get? b = some o → (s.heap.push { cls := .type "list_iterator", data := .fields #[.ref l, .int 0 0] }).get? b = some o := fun b o e => Heap.get?_push_of_some _ e
  have st0 : (s.heap.push { cls := .type "list_iterator", data := .fields #[.ref l, .int 0 0] }).IsListIter s.heap.objs.size l 0 := ⟨_, Heap.get?_push_size _ rfl, rfl, rfl⟩
  refine ⟨news, F.keeps up, N.grown up, fun D C h oC lD hDs hDC F' N' hC hk2 => ?_⟩
  have f1 := fresh0 F (a := s.heap.objs.size) (Nat.le_refl _)
  have g1 : @LT.lt Nat _ s.heap.objs.size D := by
    have q : @LE.le Nat _ (s.heap.push { cls := .type "list_iterator", data := .fields #[.ref l, .int 0 0] }).objs.size D := hDs
    rw [Heap.size_push] at q; exact q
  have W := KTurns.ofWalks (target := .Name x px) (Walks.list (prog := prog) (w := w) hh s.heap.objs.size l (Nat.ne_of_lt hlt) vs.toArray) fun i v s Q E st q => letGo_listiter st.1 q
  have hn : vs.toArray.size = vs.length := by simp
  rw [hn] at W
  have loop : codeAny (model prog w) A (.compLoop (.ListComp elt [⟨.Name x px, i1, [], 0⟩, ⟨t2, i2, [], 0⟩] scope pos) 0 (.ref s.heap.objs.size) (.ref D) (compEnvC scope cl C env)) (COutA h₀ L m C D { s with heap := s.heap.push { cls := .type "list_iterator", data := .fields #[.ref l, .int 0 0] } } z Q) { s with heap := h, toks := s.toks } := by
    refine comp_led (src := [(l, lo)]) (s₁ := s) (turn2a ..) W ?_ ?_ ?_ (fun i ys _ nw => J i ys nw) ?_ ?_ ?_ ?_ j0 hC F' N' ?_
    · intro b hb
      have hb' : b = s.heap.objs.size ∨ b = l := by simpa using hb
      rcases hb' with rfl | rfl
      · exact .inl (.head _)
      · exact .inr (.inl (by simp))
    · rintro i h ⟨⟨oi, hoi, _⟩, _⟩ b hb
      rw [List.mem_singleton.mp hb]; exact ⟨_, hoi⟩
    · intro b hb
      rw [List.mem_singleton.mp hb]
      exact ⟨f1.1, f1.2, Nat.ne_of_lt (Nat.lt_trans g1 hDC), Nat.ne_of_lt g1⟩
    · intro i ys _ nw hj p hp
      rw [List.mem_singleton.mp hp]; exact hJ _ _ _ hj
    · rintro Ex i v own oC m₂ ys nw h tk hi hv hj hown hC2 F2 N2 ap
      obtain ⟨oI, rfl⟩ := own_one hown
      refine asg_name hx hk F2 N2 hC2 (fun p hp => ?_) (fun p hp => ?_) fun h3 oC3 tk3 F3 N3 hC3 => ?_
      · rw [List.mem_singleton.mp hp]; exact Nat.ne_of_lt (Nat.lt_trans g1 hDC)
      · rcases List.mem_cons.mp hp with rfl | hp
        · exact Nat.ne_of_lt hDC
        · exact (ap p hp).2.1
      exact tail_cl (hs2 C) (step _ i v s.heap.objs.size oI C D oC3 _ ys nw h3 tk3 (by simpa using hv) hj hC3 (by simp) (Nat.ne_of_lt (Nat.lt_trans g1 hDC)) (Nat.ne_of_lt g1) (Nat.ne_of_gt hDC) f1 F3 N3 ap)
    · intro oC m₂ ys nw h tk hj hC2 F2 N2 ap
      exact ⟨rfl, h, tk, oC, m₂, ys, nw, rfl, F2, N2, hC2, Nat.ne_of_gt hDC, fun p hp => (ap p hp).2.1, fun h'' tk'' F'' N'' => fin D ys nw h'' tk'' hj F'' N''⟩
    · exact ⟨st0.at fun o e => hk2 _ o e, hL.at fun o e => hk2 _ o (up _ o e)⟩
    · exact apart0 (fun p hp b hb => by
        rw [List.mem_singleton.mp hb]; exact Heap.lt_size (N p hp).1) (fun p hp => lD p hp) hDC
  exact codeAny_compStart_list loop (wpAny_pyIter_listiter (st0.at fun o e => hk2 _ o e) loop)
end

open PySem PySem.W PyProof.Rows PySem.Calls
section
variable {prog : Program} {w : World} {A : Around} {E : Value → Shared → Prop} {s : Shared} {env : Env} {h₀ : Heap} {L : Addr} {m : Str → Option Value}
theorem range_in_to {elt i1 : Expr} {x : Str} {px pos : Pos} {scope : Scope} {cl : List (Str × Addr)} {z : Str} {Q : Flow → Shared → Prop} {news : List (Addr × Obj)} {r : Addr} {b : Int} {t u v : Tok} {n : Nat}
    (hh : A.handled = none) (hx : scope.names.lookup x = some .local) (hk : scope.kind = .function) (F : Fr h₀ L s.heap m) (N : News h₀ L s.heap news) (hr : IsRange s.heap r 0 b 1 t u v) (hsm : Builtin.Range.small 0 b 1 = true) (hsz : Builtin.Range.rangeSize 0 b 1 = ((n : Nat) : Int))
    (J : Nat → List Value → List (Addr × Obj) → Prop) (hJ : ∀ i ys nw, i < n → J i ys nw → ys.length ≤ sizeLine) (j0 : J 0 [] news)
    (step : ∀ (Ex : Value → Shared → Prop) i I oI C oC D m₂ ys nw h tk t, i < n → J i ys nw → LCg.NsObj oC m₂ → m₂ x = some (.int (i : Int) t) → Fr h₀ L h m → News h₀ L h ([(I, oI), (C, oC), (D, LCg.lst ys)] ++ nw) → ApartC [I] C D nw →
      wpAny (model prog w) A (eval elt (compEnvC scope cl C env)) (EEnd h₀ L m [I] C D [(I, oI), (C, oC), (D, LCg.lst ys)] { s with heap := h, toks := tk } (J (i + 1)) ys) Ex { s with heap := h, toks := tk })
    (fin : ∀ D ys nw h tk, (∀ p ∈ news, p.1 < D) → J n ys nw → Fr h₀ L h (fun q => if q = z then some (.ref D) else m q) → News h₀ L h ((D, LCg.lst ys) :: nw) → Q .next { s with heap := h, toks := tk }) :
    wpAny (model prog w) A (pyIter (.ref r)) (CInA prog w A h₀ L m (.ListComp elt [⟨.Name x px, i1, [], 0⟩] scope pos) scope cl env z Q) E s := by
  refine wpAny_pyIter_range hr hsm ?_
  rw [hsz]
  have up : ∀ b o, s.heap.get? b = some o → (s.heap.push { cls := .type "range_iterator", data := .fields #[rawInt 0, rawInt (n : Int), rawInt 1] }).get? b = some o := fun b o e => Heap.get?_push_of_some _ e
  have st0 : IsRangeIter (s.heap.push { cls := .type "range_iterator", data := .fields #[rawInt 0, rawInt (n : Int), rawInt 1] }) s.heap.objs.size (0 + ((0 : Nat) : Int) * 1) ((n : Int) - ((0 : Nat) : Int)) 1 := by
    show Heap.get? _ _ = _
    simpa using Heap.get?_push_size _ rfl
  refine ⟨news, F.keeps up, N.grown up, fun D C h oC lD hDs hDC F' N' hC hk2 => ?_⟩
  have f1 := fresh0 F (a := s.heap.objs.size) (Nat.le_refl _)
  have g1 : @LT.lt Nat _ s.heap.objs.size D := by
    have q : @LE.le Nat _ (s.heap.push { cls := .type "range_iterator", data := .fields #[rawInt 0, rawInt (n : Int), rawInt 1] }).objs.size D := hDs
    rw [Heap.size_push] at q; exact q
  have W := KTurns.ofWalks (target := .Name x px) (LCg.range_walks (prog := prog) (w := w) (I := s.heap.objs.size) hh 0 n) fun i v s Q E st q => by
    show wpAny _ _ (pure ()) _ _ _
    exact wpAny_pure q
  have loop : codeAny (model prog w) A (.compLoop (.ListComp elt [⟨.Name x px, i1, [], 0⟩] scope pos) 0 (.ref s.heap.objs.size) (.ref D) (compEnvC scope cl C env)) (COutA h₀ L m C D { s with heap := s.heap.push { cls := .type "range_iterator", data := .fields #[rawInt 0, rawInt (n : Int), rawInt 1] } } z Q) { s with heap := h, toks := s.toks } := by
    refine comp_led (src := []) (s₁ := s) (turn1 ..) W ?_ ?_ ?_ (fun i ys _ nw => J i ys nw) ?_ ?_ ?_ ?_ j0 hC F' N' ?_
    · intro b hb
      exact .inl hb
    · intro i h st b hb
      rw [List.mem_singleton.mp hb]; exact ⟨_, st⟩
    · intro b hb
      rw [List.mem_singleton.mp hb]
      exact ⟨f1.1, f1.2, Nat.ne_of_lt (Nat.lt_trans g1 hDC), Nat.ne_of_lt g1⟩
    · intro _ _ _ _ _ p hp; cases hp
    · rintro Ex i v own oC m₂ ys nw h tk hi ⟨t, rfl⟩ hj hown hC2 F2 N2 ap
      obtain ⟨oI, rfl⟩ := own_one hown
      refine asg_name hx hk F2 N2 hC2 (fun p hp => ?_) (fun p hp => ?_) fun h3 oC3 tk3 F3 N3 hC3 => ?_
      · rw [List.mem_singleton.mp hp]; exact Nat.ne_of_lt (Nat.lt_trans g1 hDC)
      · rcases List.mem_cons.mp hp with rfl | hp
        · exact Nat.ne_of_lt hDC
        · exact (ap p hp).2.1
      refine tail_led (wr := [s.heap.objs.size]) (own := [(s.heap.objs.size, oI)]) (J := fun ys _ nw => J (i + 1) ys nw) (ys := ys) (D := D) (C := C) (fun hm => Nat.ne_of_gt g1 (List.mem_singleton.mp hm)) (Nat.ne_of_gt hDC) rfl (hJ _ _ _ hi hj) ?_
      refine wpAny_mono (step _ i s.heap.objs.size oI C oC3 D _ ys nw h3 tk3 t hi hj hC3 (by simp) F3 N3 ap) (fun yv s₂ h₂ => ?_) fun _ _ e => e
      obtain ⟨h4, tk4, nw4, rfl, F4, N4, ap4, hj4⟩ := h₂
      exact ⟨h4, tk4, oC3, _, nw4, rfl, F4, N4, hC3, ap4, hj4⟩
    · intro oC m₂ ys nw h tk hj hC2 F2 N2 ap
      exact ⟨rfl, h, tk, oC, m₂, ys, nw, rfl, F2, N2, hC2, Nat.ne_of_gt hDC, fun p hp => (ap p hp).2.1, fun h'' tk'' F'' N'' => fin D ys nw h'' tk'' lD hj F'' N''⟩
    · exact hk2 _ _ st0
    · exact apart0 (fun p hp b hb => by
        rw [List.mem_singleton.mp hb]; exact Heap.lt_size (N p hp).1) (fun p hp => lD p hp) hDC
  exact codeAny_compStart_list loop (wpAny_pyIter_rangeiter (hk2 _ _ st0) loop)
end
noncomputable def IntJ (fs : List Int) (news : List (Addr × Obj)) (i : Nat) (ys : List Value) (nw : List (Addr × Obj)) : Prop := nw = news ∧ IntsAre ys (fs.take i) ∧ ys.length = i
theorem IntJ.start (fs : List Int) (news : List (Addr × Obj)) : IntJ fs news 0 [] news := ⟨rfl, .nil, rfl⟩
theorem eend_int {h₀ : Heap} {L : Addr} {m : Str → Option Value} {s : Shared} {wr : List Addr} {C D : Addr} {pre news : List (Addr × Obj)} {h' : Heap} {tk' i : Nat} {fs : List Int} {ys : List Value} {y : Int} {t : Tok} (F : Fr h₀ L h' m) (N : News h₀ L h' (pre ++ news)) (ap : ApartC wr C D news) (hs : IntsAre ys (fs.take i)) (hl : ys.length = i) (hy : fs[i]? = some y) :
    EEnd h₀ L m wr C D pre s (IntJ fs news (i + 1)) ys (.int y t) { s with heap := h', toks := tk' } :=
  ⟨h', tk', news, rfl, F, N, ap, rfl, by rw [List.take_add_one, hy]; exact hs.append (.cons _ _ .nil), by simp [hl]⟩
theorem led_abs {g h : Heap} {L : Addr} {big : List (Addr × Obj)} (N : News g L h big) (P : List (Addr × Obj) → Prop) (hP : P big) : ∃ news, News g L h news ∧ P news := ⟨big, N, hP⟩
theorem two_rows {fs gs : List Int} {Df Dg : Addr} {ysF ysG : List Value} {t2 t3 : Tok} {i : Nat} {a b : Value} (hab : [((.ref Df : Value), (.int 2 t2 : Value)), (.ref Dg, .int 3 t3)][i]? = some (a, b)) (hf : IntsAre ysF fs) (hg : IntsAre ysG gs) (lf : fs.length = 4) (lg : gs.length = 3) {nw : List (Addr × Obj)} (mF : (Df, LCg.lst ysF) ∈ nw) (mG : (Dg, LCg.lst ysG) ∈ nw) :
    ∃ (D : Addr) (ys : List Value) (xs : List Int) (n : Nat) (t : Tok), a = .ref D ∧ b = .int (n : Int) t ∧ (D, LCg.lst ys) ∈ nw ∧ IntsAre ys xs ∧ xs.length ≤ 4 ∧ n < 4 ∧ (∀ j, j < n → (rows5 fs gs)[cntUp i + j]? = some (shiftRow j xs)) ∧ cntUp i + n = cntUp (i + 1) := by
  rcases two_at hab with ⟨rfl, rfl, rfl⟩ | ⟨rfl, rfl, rfl⟩
  · exact ⟨Df, ysF, fs, 2, t2, rfl, rfl, mF, hf, Nat.le_of_eq lf, by decide, fun j hj => rows5_f hj, rfl⟩
  · exact ⟨Dg, ysG, gs, 3, t3, rfl, rfl, mG, hg, by omega, by decide, fun j hj => rows5_g hj, rfl⟩
theorem range_smallN : ∀ {n : Nat}, n < 4 → Builtin.Range.small 0 (n : Int) 1 = true ∧ Builtin.Range.rangeSize 0 (n : Int) 1 = ((n : Nat) : Int)
  | 0, _ => by decide +kernel
  | 1, _ => by decide +kernel
  | 2, _ => by decide +kernel
  | 3, _ => by decide +kernel

open PySem PySem.W PyProof.Rows PySem.Calls PySem.Builtin
theorem SpecG.read {dp un : Nat} {w : World} {f : Addr} {args : List Value} {kw : List (Str × Value)} {small : List (Addr × Obj)} {Post : Value → List (Addr × Obj) → Prop} {R : Value → Prop} (C : SpecG dp un w f args kw small Post) (hR : ∀ v sm, Post v sm → R v ∧ sm = small)
    {p : Program} {loose : List Str} {mean : ExcName → Option Value} {mg mb : Str → Option Value} {env : Env} {outer : List Env} {A A₀ : Around} {base h₀ : Heap} {L : Addr} {m : Str → Option Value} {s : Shared} {Q E : Value → Shared → Prop} {big : List (Addr × Obj)}
    (B : Below A₀ base outer h₀) (F : Fr h₀ L s.heap m) (X0 : (Mine.K w.params).In h₀) (N : News h₀ L s.heap big) (T : Top p loose mean mg mb h₀)
    (hA : A.frames = some (env :: outer)) (hf : env.frame = some L) (hke : env.scope.kind = .function) (hh : A.handled = none) (hdp : A.depth ≤ dp) (hun : A.units ≤ un)
    (hs : ∀ p ∈ small, p ∈ big) (h : ∀ v h' tk', R v → Fr h₀ L h' m → News h₀ L h' big → Q v { s with heap := h', toks := tk' }) :
    wpAny (model PySem.Challenge.rw_wj0054_01.row.prog w) A (call (.ref f) args kw) Q E s := by
  refine SpecG.use C (big.filter fun p => !((small.map (·.1)).elem p.1)) B F X0 N T hA hf hke hh hdp hun hs (fun p hp => (List.mem_filter.mp hp).1) (fun p hp q hq e => ?_) fun v sm h' tk' hp F' N' _ => ?_
  · have h1 := (List.mem_filter.mp hp).2
    have h2 : (small.map (·.1)).elem p.1 = true := List.elem_eq_true_of_mem (e ▸ List.mem_map_of_mem hq)
    rw [h2] at h1; cases h1
  · obtain ⟨hr, rfl⟩ := hR _ _ hp
    refine h v h' tk' hr F' fun p hp => ?_
    cases e : (sm.map (·.1)).elem p.1 with
    | false => exact N' p (List.mem_append_right _ (List.mem_filter.mpr ⟨hp, by rw [e]; rfl⟩))
    | true =>
      obtain ⟨q, hq, e1⟩ := List.mem_map.mp (List.mem_of_elem_eq_true e)
      have h1 := (N q (hs q hq)).1
      have h2 := (N p hp).1
      rw [e1, h2] at h1
      have : q = p := by
        obtain ⟨a, o⟩ := q; obtain ⟨b, o'⟩ := p
        dsimp only at e1 h1; cases e1; cases Option.some.inj h1; rfl
      exact N' p (List.mem_append_left _ (this ▸ hq))
theorem mul_names : ∀ {k : Nat}, k < 5 → Txt.mul (Str.ofString "x") (0 + (k : Int)) = Nm k
  | 0, _ => by decide +kernel
  | 1, _ => by decide +kernel
  | 2, _ => by decide +kernel
  | 3, _ => by decide +kernel
  | 4, _ => by decide +kernel
theorem nm_mul {prog : Program} {w : World} {A : Around} {E : Value → Shared → Prop} {s : Shared} {Q : Value → Shared → Prop} {i : Nat} (hi : i < 5) {t u : Tok} (h : ∀ t' k', Q (.str (Nm i) t') { s with toks := k' }) : wpAny (model prog w) A (binaryOp .Mult (.str (Str.ofString "x") t) (.int (0 + (i : Int)) u)) Q E s :=
  match i, hi, mul_names hi with
  | 0, _, e => SB.mul ⟨by decide +kernel, by decide +kernel, by decide +kernel⟩ fun t' k' => by rw [e]; exact h t' k'
  | 1, _, e => SB.mul ⟨by decide +kernel, by decide +kernel, by decide +kernel⟩ fun t' k' => by rw [e]; exact h t' k'
  | 2, _, e => SB.mul ⟨by decide +kernel, by decide +kernel, by decide +kernel⟩ fun t' k' => by rw [e]; exact h t' k'
  | 3, _, e => SB.mul ⟨by decide +kernel, by decide +kernel, by decide +kernel⟩ fun t' k' => by rw [e]; exact h t' k'
  | 4, _, e => SB.mul ⟨by decide +kernel, by decide +kernel, by decide +kernel⟩ fun t' k' => by rw [e]; exact h t' k'
theorem lshiftS (w : World) (a b : Int) (hb : 0 ≤ b ∧ b < 8) (ha : 0 ≤ a ∧ a < 64) (ta tb : Tok) (news : List (Addr × Obj)) : Spec w 245 [.int a ta, .int b tb] news (IntP (a * 2 ^ b.toNat) news) := by
  unfold Spec SpecK
  k_fill
  intro p loose mean mg mb cn cs a ccd cl outer A₀ base h₀ L m s Q E B F X N T hk hret
  refine wpAny_call ?_
  w_strict (k_dflt cell_enter)
  k_with_none
  k_with "storeName" => (k_here; k_dflt (refine' storeX_Lr ?F ?N ?a ?b ?_; (case a => exact rfl); (case b => exact rfl); (case F => k_asm); (case N => k_asm); k_whole; intro _ _ _; (try k_sweep)))
  k_with "eval Name" => (k_here; k_dflt (refine' nameX_Lr ?F ?a ?b ?v ?_; (case a => exact rfl); (case b => exact rfl); (case F => k_asm); (case v => exact rfl); k_whole))
  k_with "execs cons" => (refine wpAny_execs_cons ?_; (try k_fold))
  k_with "sub" => first | exact List.forall_mem_nil _ | exact fun _ h9 => h9 | ((first | refine' sub_keep ?_ | refine' sub_drop ?_); k_extra "sub")
  k_with "tb_rel" => first | (k_extra "sub"; done) | exact List.forall_mem_nil _ | (refine' fmc ?sa ?sb; (case sa => k_mem); (case sb => k_extra "tb_rel"))
  k_with "k_in" => (refine' Frag.In.keeps ?X (Fr.keep ?F); (case F => with_reducible assumption); (case X => with_reducible assumption))
  k_steps
  refine fin_int hret rfl ?F ?N <;> assumption
theorem nm_mulN {prog : Program} {w : World} {A : Around} {E : Value → Shared → Prop} {s : Shared} {Q : Value → Shared → Prop} {i : Nat} (hi : i < 5) {t u : Tok} (h : ∀ t' k', Q (.str (Nm i) t') { s with toks := k' }) : wpAny (model prog w) A (binaryOp .Mult (.str (Str.ofString "x") t) (.int (i : Int) u)) Q E s := by
  have := nm_mul (prog := prog) (w := w) (A := A) (E := E) (s := s) (Q := Q) hi (t := t) (u := u) h
  rwa [Int.zero_add] at this
theorem rows_dup {w : World} {g h : Heap} {L x y dx lx dy ly : Addr} {tx ty : Tok} {ta tb : List (Addr × Obj)} {c1 c2 : Addr × Obj} (N : News g L h (c1 :: c2 :: (ta ++ tb))) (hx1 : (x, instObj 171 dx) ∈ ta) (hx2 : (dx, hdrD w tx lx) ∈ ta) (hy1 : (y, instObj 171 dy) ∈ tb) (hy2 : (dy, hdrD w ty ly) ∈ tb) : News g L h (c1 :: c2 :: (x, instObj 171 dx) :: (dx, hdrD w tx lx) :: (y, instObj 171 dy) :: (dy, hdrD w ty ly) :: (ta ++ tb)) := fun q hq => by
  simp only [List.mem_cons] at hq
  rcases hq with rfl | rfl | rfl | rfl | rfl | rfl | hq
  · exact N _ (.head _)
  · exact N _ (.tail _ (.head _))
  · exact N _ (.tail _ (.tail _ (List.mem_append_left _ hx1)))
  · exact N _ (.tail _ (.tail _ (List.mem_append_left _ hx2)))
  · exact N _ (.tail _ (.tail _ (List.mem_append_right _ hy1)))
  · exact N _ (.tail _ (.tail _ (List.mem_append_right _ hy2)))
  · exact N _ (.tail _ (.tail _ hq))
theorem rows_short5 {new : List (Addr × Obj)} {ys : List Value} {fs gs : List Int} {k : Nat} (h : RowsV new ys ((rows5 fs gs).take k)) : ys.length ≤ sizeLine := by
  rw [h.1, sizeLine_eq]
  exact Nat.le_trans (List.length_take_le' ..) (by rw [show (rows5 fs gs).length = 5 from rfl]; decide)
theorem rows_g (w : World) (x y : Addr) {dx lx dy ly : Addr} {tx ty : Tok} {ta tb : List (Addr × Obj)} {fs gs : List Int} (lf : fs.length = 4) (lg : gs.length = 3) (bf : ∀ v ∈ fs, 0 ≤ v ∧ v < 151) (bg : ∀ v ∈ gs, 0 ≤ v ∧ v < 151)
    (GA : ∀ (k : Nat) (v : Int) (t : Tok), fs[k]? = some v → SpecG 700 5000 w 118 [.ref x, .str (Nm k) t] [] ta (fun r sm => (∃ t, r = .str (Lw v) t) ∧ sm = ta)) (GB : ∀ (k : Nat) (v : Int) (t : Tok), gs[k]? = some v → SpecG 700 5000 w 118 [.ref y, .str (Nm k) t] [] tb (fun r sm => (∃ t, r = .str (Lw v) t) ∧ sm = tb))
    (hx1 : (x, instObj 171 dx) ∈ ta) (hx2 : (dx, hdrD w tx lx) ∈ ta) (hy1 : (y, instObj 171 dy) ∈ tb) (hy2 : (dy, hdrD w ty ly) ∈ tb) :
    SpecG 500 3600 w 295 [.ref x, .ref y] [] (ta ++ tb) (fun v small' => ∃ R new, v = .ref R ∧ small' = new ++ (ta ++ tb) ∧ Plain new ∧ RowsIn new R ((rows5 fs gs).take 5)) := by
  (unfold SpecG; k_fill; intro p loose mean mg mb envs base g s Q E hg hsm hBel hKin hTop hret)
  k_with_none
  k_with "storeName" => (k_here; k_dflt (refine' storeX_Lr ?F ?N ?a ?b ?_; (case a => exact rfl); (case b => exact rfl); (case F => k_asm); (case N => k_asm); k_whole; intro _ _ _; (try k_sweep)))
  k_with "eval Name" => (k_here; k_dflt (refine' nameX_Lr ?F ?a ?b ?v ?_; (case a => exact rfl); (case b => exact rfl); (case F => k_asm); (case v => exact rfl); k_whole))
  k_with "execs cons" => (refine wpAny_execs_cons ?_; (try k_fold))
  k_with "sub" => first | exact List.forall_mem_nil _ | exact fun _ h9 => h9 | ((first | refine' sub_keep ?_ | refine' sub_drop ?_); k_extra "sub")
  k_with "tb_rel" => first | (k_extra "sub"; done) | exact List.forall_mem_nil _ | (refine' fmc ?sa ?sb; (case sa => k_mem); (case sb => k_extra "tb_rel"))
  k_with "k_in" => (refine' Frag.In.keeps ?X (Fr.keep ?F); (case F => with_reducible assumption); (case X => with_reducible assumption))
  k_with "exec Assign cons ListComp" => (k_here; (with_reducible show wpAny _ _ (exec (Stmt.Assign [Expr.Name _ _] (Expr.ListComp _ [_] _ _) _) _) _ _ _); k_dflt (refine' comp_in_to ?F ?hL ?hsw ?hclos ?hcell ?hkind ?hnames ?hy ?hp ?_; (case F => k_asm); (case hL => exact rfl); (case hsw => exact rfl); (case hclos => exact rfl); (case hkind => exact rfl); (case hnames => decide); (case hcell => decide); (case hy => exact rfl); (case hp => exact rfl); k_whole))
  k_with "pyIter ref" => (k_here; (with_reducible show wpAny _ _ (pyIter (Value.ref _)) (CInA _ _ _ _ _ _ _ _ _ _ (Str.ofString "f") _) _ _); k_dflt (refine' range_in_to (n := 4) ?hh ?hx ?hk ?F ?N ?hr ?hsm ?hsz (fun i ys nw => IntJ fs _ i ys nw) ?hJ ?j0 ?rSf ?rFf; (case hh => exact rfl); (case hx => exact rfl); (case hk => exact rfl); (case F => k_asm); (case N => k_asm); (case hr => assumption); (case hsm => decide); (case hsz => exact rfl); (case j0 => exact IntJ.start _ _); (case hJ => (rintro i ys nw hi ⟨-, -, hl⟩; rw [hl, sizeLine_eq]; exact Nat.le_trans (Nat.le_of_lt hi) (by decide))); k_whole; (case' rSf => (intro Ex3 i3 I3 oI3 C3 oC3 D3 m3 ys3 nw3 h3 tk3 t3 hi3 hJ3 hC3 hmx3 F3 N3 ap3; obtain ⟨rfl, hT3, hl3⟩ := hJ3; (have hj3 : i3 < 5 := Nat.lt_trans hi3 (by decide)); obtain ⟨v3, hv3⟩ : ∃ v, fs[i3]? = some v := ⟨_, List.getElem?_eq_getElem (lf.symm ▸ hi3)⟩; (have hb3 := bf v3 (List.mem_of_getElem? hv3)); (have G3 := fun t => GA i3 v3 t hv3); (simp only [List.cons_append, List.nil_append, List.append_assoc] at N3))); (case' rFf => (intro Df ysF nw4 h4 tk4 lD4 hJ4 F4 N4; obtain ⟨rfl, hiF, -⟩ := hJ4; clear lD4; (replace hiF : IntsAre ysF fs := by rwa [List.take_of_length_le (Nat.le_of_eq lf)] at hiF)))))
  k_with "pyIter ref" => (k_here; (with_reducible show wpAny _ _ (pyIter (Value.ref _)) (CInA _ _ _ _ _ _ _ _ _ _ (Str.ofString "g") _) _ _); k_dflt (refine' range_in_to (n := 3) ?hh ?hx ?hk ?F ?N ?hr ?hsm ?hsz (fun i ys nw => IntJ gs _ i ys nw) ?hJ ?j0 ?rSg ?rFg; (case hh => exact rfl); (case hx => exact rfl); (case hk => exact rfl); (case F => k_asm); (case N => k_asm); (case hr => assumption); (case hsm => decide); (case hsz => exact rfl); (case j0 => exact IntJ.start _ _); (case hJ => (rintro i ys nw hi ⟨-, -, hl⟩; rw [hl, sizeLine_eq]; exact Nat.le_trans (Nat.le_of_lt hi) (by decide))); k_whole; (case' rSg => (intro Ex3 i3 I3 oI3 C3 oC3 D3 m3 ys3 nw3 h3 tk3 t3 hi3 hJ3 hC3 hmx3 F3 N3 ap3; obtain ⟨rfl, hT3, hl3⟩ := hJ3; (have hj3 : i3 < 5 := Nat.lt_trans hi3 (by decide)); obtain ⟨v3, hv3⟩ : ∃ v, gs[i3]? = some v := ⟨_, List.getElem?_eq_getElem (lg.symm ▸ hi3)⟩; (have hb3 := bg v3 (List.mem_of_getElem? hv3)); (have G3 := fun t => GB i3 v3 t hv3); (simp only [List.cons_append, List.nil_append, List.append_assoc] at N3))); (case' rFg => (intro Dg ysG nw4 h4 tk4 lD4 hJ4 F4 N4; obtain ⟨rfl, hiG, -⟩ := hJ4; clear lD4; (replace hiG : IntsAre ysG gs := by rwa [List.take_of_length_le (Nat.le_of_eq lg)] at hiG)))))
  k_with "binaryOp Mult str int" => (k_here; k_dflt (refine' nm_mulN ?h0 ?_; (case h0 => assumption); intro _ _))
  k_with "call ref" => (k_here; (with_reducible show wpAny _ _ (call (Value.ref 118) [_, _] _) _ _ _); k_dflt (refine' SpecG.read (G3 _) (fun _ _ h => h) ?B ?F ?X ?N ?T ?hA ?hf ?hK ?hh ?hd ?hu ?hs ?_; (case F => k_asm); (case N => k_asm); (case B => k_asm); (case X => k_asm); (case T => k_asm); (case hA => exact rfl); (case hf => exact rfl); (case hK => exact rfl); (case hh => exact rfl); (case hd => exact Nat.le_of_ble_eq_true rfl); (case hu => exact Nat.le_of_ble_eq_true rfl); (case hs => (intro q hq; simp only [List.mem_cons, List.mem_append, hq, or_true, true_or])); k_whole; intro v' h' tk' hv' F' N'; (obtain ⟨t', rfl⟩ := hv'); (try k_sweep)))
  k_with "call ref" => (k_here; (with_reducible show wpAny _ _ (call (Value.ref 276) [_] _) _ _ _); k_dflt (refine' SpecK.use (number_w _ ?h0 ?h1 _ _) ?B ?F ?X ?N ?T ?hA ?hK ?hh ?hd ?hu ?_; (case hA => exact rfl); (case F => k_asm); (case N => k_asm); (case B => k_asm); (case X => k_asm); (case T => k_asm); (case hK => first | rfl | assumption); (case hh => rfl); (case hd => exact Nat.le_of_ble_eq_true rfl); (case hu => exact Nat.le_of_ble_eq_true rfl); (case h0 => exact hb3.1); (case h1 => exact hb3.2); k_whole; (rintro v' news' h' tk' ⟨⟨t', e1'⟩, e2'⟩ F' N'); subst e1'; subst e2'; (try k_sweep)))
  k_with "EEnd" => (k_dflt (refine' eend_int (pre := [(I3, oI3), (C3, oC3), (D3, _)]) ?F ?N ap3 hT3 hl3 hv3; (case F => k_asm); (case N => ((try simp only [List.cons_append, List.nil_append, List.append_assoc]); k_asm))))
  k_with "eval ListComp" => (k_here; (with_reducible show wpAny _ _ (eval (Expr.ListComp _ [_, _] _ _) _) _ _ _); k_dflt (refine' comp_in1 (x := Str.ofString "shift") ?F ?hclos ?hkind ?hnames ?hnew ?_; (case F => k_asm); (case hclos => exact rfl); (case hkind => exact rfl); (case hnames => decide); (case hnew => exact rfl); k_whole))
  k_with "eval ListComp" => (k_here; (with_reducible show wpAny _ _ (eval (Expr.ListComp _ [_] _ _) (compEnvC _ _ _ _)) _ _ _); k_dflt (refine' comp_in ?F ?hclos ?hcell ?hkind ?hnames ?_; (case F => k_asm); (case hclos => exact rfl); (case hkind => exact rfl); (case hnames => decide); (case hcell => decide); k_whole))
  k_with "pyIter ref" => (k_here; (with_reducible show wpAny _ _ (pyIter (Value.ref _)) (CIn1 _ _ _ _ _ _ _ _ _ _ _) _ _); (rename News _ _ _ _ => N9); k_dflt (obtain ⟨news, N, mT, tF, tG, m1, m2, mF, mG, mt⟩ := led_abs N9 (fun news => _ ∈ news ∧ ∃ tF tG, (_, tupO (.ref Df) (.int 2 tF)) ∈ news ∧ (_, tupO (.ref Dg) (.int 3 tG)) ∈ news ∧ (Df, LCg.lst ysF) ∈ news ∧ (Dg, LCg.lst ysG) ∈ news ∧ ∀ q ∈ ta ++ tb, q ∈ news) ⟨List.mem_cons_self .., _, _, List.mem_cons_of_mem _ (List.mem_cons_of_mem _ (List.mem_cons_self ..)), List.mem_cons_of_mem _ (List.mem_cons_self ..), by k_mem, by k_mem, by intro q hq; simp only [List.mem_cons, hq, or_true]⟩; clear N9; refine' outer_tuple (y := Str.ofString "shift") (prs := [(.ref Df, .int 2 tF), (.ref Dg, .int 3 tG)]) ?hh ?hx ?hz ?hxz ?hk ?F ?N ?hl ?hc ?hd ?hs2 (fun i ys nw => OuterJ fs gs news (cntUp i) ys nw) ?hJ ?j0 ?oT ?oF; (case hh => exact rfl); (case hx => exact rfl); (case hz => exact rfl); (case hxz => decide); (case hk => exact rfl); (case F => k_asm); (case N => exact N); (case hl => exact mT); (case hc => exact rfl); (case hd => exact rfl); (case hs2 => exact fun _ _ _ => rfl); (case j0 => exact OuterJ.start _ _ _); (case hJ => (rintro i ys nw ⟨new, rfl, -⟩; refine ⟨List.mem_append_left _ mT, fun j v hv => ?_⟩; match j, hv with | 0, hv => exact ⟨_, _, _, (Option.some.inj hv).symm, rfl, List.mem_append_left _ m1⟩ | 1, hv => exact ⟨_, _, _, (Option.some.inj hv).symm, rfl, List.mem_append_left _ m2⟩)); k_whole; (case' oT => (intro Ex1 i1 a1 b1 I1 oI1 C1 D1 c1 oC1 oc1 v1 m1' ys1 nw1 h1 tk1 hab1 hJ1 hC1 hmx1 hmz1 hIC1 hID1 hCD1 hcI1 hcC1 hcD1 hdc1 F1 N1 ap1 hcn1; obtain ⟨new1, rfl, hPl1, hRv1, hyl1⟩ := hJ1; obtain ⟨Dq, ysq, xs, n1, tq, rfl, rfl, mq, hiq, lq, hn1, hrow, hcu⟩ := two_rows hab1 hiF hiG lf lg mF mG; (simp only [List.cons_append, List.nil_append] at N1))); (case' oF => (intro D9 ys9 nw9 h9 tk9 hJ9 F9 N9; obtain ⟨new9, rfl, hPl9, hRv9, hyl9⟩ := hJ9))))
  k_with "pyIter ref" => (k_here; (with_reducible show wpAny _ _ (pyIter (Value.ref _)) (NEnd _ _ _ _ _ _ _ _ _ _ _ _ _ _) _ _); k_dflt (refine' inner_range (I := I1) (C := C1) (D := D1) (c := c1) (n := n1) ?hh ?hy ?hk ?hr ?hsm ?hsz ?F ?N hC1 hIC1 hID1 hCD1 hcI1 hcC1 hcD1 hdc1 ap1 hcn1 (fun j ys nw => OuterJ fs gs news (cntUp i1 + j) ys nw) ?hJ ⟨new1, rfl, hPl1, hRv1, hyl1⟩ ?oR0 ?fin; (case hh => exact rfl); (case hy => exact fun _ => rfl); (case hk => exact rfl); (case hr => assumption); (case hsm => exact (range_smallN hn1).1); (case hsz => exact (range_smallN hn1).2); (case F => k_asm); (case N => ((simp only [List.cons_append, List.nil_append]); k_asm)); (case hJ => (rintro i ys nw hi ⟨new, -, -, hr5, -⟩; exact rows_short5 hr5)); (case fin => exact fun _ _ h => hcu ▸ h); k_whole; (case' oR0 => (intro Ex2 j2 I2 oI2 oC2 oc2 t2 ys2 nw2 h2 tk2 hj2 hJ2 hC2 hdc2 F2 N2 ap2; obtain ⟨new2, rfl, hPl2, hRv2, hyl2⟩ := hJ2; clear hIC1 hID1 hCD1 hcI1 hcC1 hcD1; (simp only [List.cons_append, List.nil_append] at N2)))))
  k_with "call type:enumerate" => (k_here; (with_reducible show wpAny _ _ (call (Value.type _) [Value.ref Dq]) _ _ _); k_dflt (refine' enum_in (l := Dq) (lo := LCg.lst ysq) (vs := ysq) ?hh ?hx ?hy ?hxy ?hk ?F ?N ?hl ?hc ?hd ?hz (fun i ys nw => RowJ j2 xs _ i ys nw) ?hJ ?j0 ?eS ?eF; (case hh => exact rfl); (case hx => exact rfl); (case hy => exact rfl); (case hxy => decide); (case hk => exact rfl); (case F => k_asm); (case N => k_asm); (case hl => exact List.mem_cons_of_mem _ (List.mem_cons_of_mem _ (List.mem_cons_of_mem _ (List.mem_cons_of_mem _ (List.mem_cons_of_mem _ (List.mem_append_left _ mq)))))); (case hc => exact rfl); (case hd => exact rfl); (case hz => (rw [hiq.length, sizeLine_eq]; exact Nat.le_trans lq (by decide))); (case j0 => exact RowJ.start _ _ _); (case hJ => (rintro i ys nw ⟨new, rfl, -, -, hl, -⟩; exact ⟨List.mem_append_left _ (List.mem_cons_of_mem _ (List.mem_cons_of_mem _ (List.mem_cons_of_mem _ (List.mem_cons_of_mem _ (List.mem_cons_of_mem _ (List.mem_append_left _ mq)))))), hl⟩)); k_whole; (case' eS => (intro Ex3 i3 v3 e3 it3 oe3 oi3 C3 D3 oC3 m3 ys3 nw3 h3 tk3 t3 hv3 hJ3 hC3 hmk3 hmx3 F3 N3 ap3; obtain ⟨xi, ti, rfl, hxi⟩ := ints_at hiq hv3; (have hi3 : i3 < 4 := Nat.lt_of_lt_of_le (lt_of_at hxi) lq); obtain ⟨new3, rfl, hPl3, hPr3, hyl3, hap3⟩ := hJ3; (have hq1 := pow_small hi3); (have hk0 : (0 : Int) ≤ (i3 : Int) ∧ (i3 : Int) < 8 := by omega); (have hs0 : (0 : Int) ≤ (j2 : Int) ∧ (j2 : Int) < 8 := by omega); (simp only [List.cons_append, List.nil_append, List.append_assoc] at N3))); (case' eF => (intro D4 ys4 nw4 h4 tk4 lD4 hJ4 F4 N4; obtain ⟨new4, rfl, hPl4, hPr4, hyl4, hap4⟩ := hJ4))))
  k_with "call ref" => (k_here; (with_reducible show wpAny _ _ (call (Value.ref 245) _ _) _ _ _); k_dflt (refine' SpecK.use (lshiftS _ _ _ ?hb ?ha _ _ _) ?B ?F ?X ?N ?T ?hA ?hK ?hh ?hd ?hu ?_; (case hA => exact rfl); (case F => k_asm); (case N => k_asm); (case B => k_asm); (case X => k_asm); (case T => k_asm); (case hK => first | rfl | assumption); (case hh => rfl); (case hd => exact Nat.le_of_ble_eq_true rfl); (case hu => exact Nat.le_of_ble_eq_true rfl); (case hb => assumption); (case ha => first | assumption | decide); k_whole; (rintro v' news' h' tk' ⟨⟨t', e1'⟩, e2'⟩ F' N'); subst e1'; subst e2'; (try k_sweep)))
  k_with "newTuple" => (k_here; k_dflt (refine' kup_newTuple ?F ?N ?_ ?z; (case F => k_asm); (case N => k_asm); (case z => kmk_size)); intro T9 h' F' N' lT9; (try k_sweep))
  k_with "EEnd" => (k_dflt (refine' eend_new (pre := [(e3, oe3), (it3, oi3), (C3, oC3), (D3, _)]) (new := new3) ?F ?N ?lT ?hpre ap3 ?hj; (case F => k_asm); (case N => ((try simp only [List.cons_append, List.nil_append, List.append_assoc]); k_asm)); (case lT => ((try simp only [List.cons_append, List.nil_append, List.append_assoc]); exact lT9)); (case hpre => (intro b hb; (simp only [List.mem_cons, List.not_mem_nil, or_false, List.map_cons, List.map_nil] at hb ⊢); (rcases hb with h | h | h | h) <;> simp [h])); (case hj => exact fun hlt => RowJ.next hPl3 hPr3 hyl3 hap3 hxi hlt)))
  k_with "EEnd" => (k_dflt (refine' eend_row (pre := [(I2, oI2), (C1, oC2), (D1, _), (I1, oI1), (c1, oc2)]) (new2 := new2) (new3 := new4) ?F ?N ?lT ?l3 ?hpre ap2 ?hj; (case F => exact F4); (case N => ((try simp only [List.cons_append, List.nil_append, List.append_assoc]); (try simp only [List.cons_append, List.nil_append, List.append_assoc] at N4); exact N4)); (case lT => ((try simp only [List.cons_append, List.nil_append, List.append_assoc]); (try simp only [List.cons_append, List.nil_append, List.append_assoc] at lD4); exact lD4)); (case l3 => ((try simp only [List.cons_append, List.nil_append, List.append_assoc]); (try simp only [List.cons_append, List.nil_append, List.append_assoc] at hap4); exact hap4)); (case hpre => (intro b hb; (simp only [List.mem_cons, List.not_mem_nil, or_false, List.map_cons, List.map_nil] at hb ⊢); (rcases hb with h | h | h | h | h) <;> simp [h])); (case hj => exact OuterJ.next hPl2 hRv2 hyl2 (hrow j2 hj2) hPl4 (pairs_all hPr4 hiq.length.symm))))
  k_with "LeaveS" => k_dflt (refine' leaveS_ ?k1 ?k2 ⟨⟨D9, (D9, LCg.lst ys9) :: new9, rfl, rfl, plain_lst hPl9, ?kR⟩, rfl, rfl, rfl⟩; (case k1 => k_asm); (case kR => exact hRv9.rowsIn); (case k2 => (refine' news_sub N9 (fmc (.head _) (fun q hq => ?kt)); (case kt => (rcases List.mem_append.mp hq with hq | hq; (exact .tail _ (List.mem_append_right _ hq)); (exact .tail _ (List.mem_append_left _ (mt q hq))))))))
  k_dflt (refine' call_SC ?k1 ?k2 ?k3 ?k4 ?k5 ?k10 ?k6 ?k7 ?k8 ?k9 ?kB ?kD ?_ ?c2 ?c3 ?c4; (case k1 => k_asm); (case k2 => k_asm); (case k3 => k_asm); (case k4 => k_asm); (case k5 => k_asm); (case k10 => k_asm); (case k6 => k_is); (case k7 => k_is); (case k8 => decide); (case k9 => first | exact BindsTo.of_eq rfl | exact binds_K (by k_in) rfl (by k_is) rfl rfl rfl); (case kB => exact rfl); (case kD => decide +kernel); (case c2 => exact rfl); (case c3 => exact rfl); (case c4 => exact rfl); k_whole; intro L' h' tk' cells' F' N' Y' l1; k_cells Y'; (try simp only [List.cons_append, List.nil_append] at N'); (try dsimp only))
  replace N' := rows_dup N' hx1 hx2 hy1 hy2
  unfold hdrD at N'
  clear l1
  k_dflt (try k_fold)
  k_steps
theorem rows_w (w : World) (X : Lx) (x y : Addr) (f0 f1 f2 f3 g0 g1 g2 : Int) (ta tb : List (Addr × Obj)) (hf0 : 0 ≤ f0) (mf0 : f0 < 151) (hf1 : 0 ≤ f1) (mf1 : f1 < 151) (hf2 : 0 ≤ f2) (mf2 : f2 < 151) (hf3 : 0 ≤ f3) (mf3 : f3 < 151) (hg0 : 0 ≤ g0) (mg0 : g0 < 151) (hg1 : 0 ≤ g1) (mg1 : g1 < 151) (hg2 : 0 ≤ g2) (mg2 : g2 < 151) (hTa : Tab4 w X x f3 f2 f1 f0 ta) (hTb : Tab3 w X y g2 g1 g0 tb) :
    SpecG 500 3600 w 295 [.ref x, .ref y] [] (ta ++ tb) (fun v small' => ∃ R new, v = .ref R ∧ small' = new ++ (ta ++ tb) ∧ Plain new ∧ RowsIn new R [[(1, f0), (2, f1), (4, f2), (8, f3)], [(2, f0), (4, f1), (8, f2), (16, f3)], [(1, g0), (2, g1), (4, g2)], [(2, g0), (4, g1), (8, g2)], [(4, g0), (8, g1), (16, g2)]]) := by
  obtain ⟨dx, lx, tx, ma, mb⟩ := tabL_inst hTa
  obtain ⟨dy, ly, ky, mc, md⟩ := tabL_inst hTb
  refine rows_g w x y (dx := dx) (lx := lx) (tx := tx) (dy := dy) (ly := ly) (ty := ky) (fs := [f0, f1, f2, f3]) (gs := [g0, g1, g2]) rfl rfl ?_ ?_ (fun k v t hk => ?_) (fun k v t hk => ?_) ma mb mc md
  · simp only [List.forall_mem_cons]; exact ⟨⟨hf0, mf0⟩, ⟨hf1, mf1⟩, ⟨hf2, mf2⟩, ⟨hf3, mf3⟩, fun _ h => nomatch h⟩
  · simp only [List.forall_mem_cons]; exact ⟨⟨hg0, mg0⟩, ⟨hg1, mg1⟩, ⟨hg2, mg2⟩, fun _ h => nomatch h⟩
  · have hk4 : k < 4 := (List.getElem?_eq_some_iff.mp hk).1
    refine SpecG.mono (get_L hTa (fmc (by show 3 < 5; decide) (fmc (by show 2 < 5; decide) (fmc (by show 1 < 5; decide) (fmc (by show 0 < 5; decide) (List.forall_mem_nil _))))) k (Nat.lt_succ_of_lt hk4) t) fun r sm h => ⟨?_, h.2⟩
    have h1 := h.1
    match k, hk4, hk with
    | 0, _, hk => cases hk; exact h1
    | 1, _, hk => cases hk; exact h1
    | 2, _, hk => cases hk; exact h1
    | 3, _, hk => cases hk; exact h1
  · have hk3 : k < 3 := (List.getElem?_eq_some_iff.mp hk).1
    refine SpecG.mono (get_L hTb (fmc (by show 2 < 5; decide) (fmc (by show 1 < 5; decide) (fmc (by show 0 < 5; decide) (List.forall_mem_nil _)))) k (Nat.lt_trans hk3 (by decide)) t) fun r sm h => ⟨?_, h.2⟩
    have h1 := h.1
    match k, hk3, hk with
    | 0, _, hk => cases hk; exact h1
    | 1, _, hk => cases hk; exact h1
    | 2, _, hk => cases hk; exact h1

open PySem PySem.W PyProof.Rows PySem.Calls PySem.Builtin
theorem SpecG.readN {dp un : Nat} {w : World} {f : Addr} {args : List Value} {kw : List (Str × Value)} {small : List (Addr × Obj)} {Post : Value → List (Addr × Obj) → Prop} {R : Value → List (Addr × Obj) → Prop} (C : SpecG dp un w f args kw small Post) (hR : ∀ v sm, Post v sm → ∃ new, R v new ∧ sm = new ++ small)
    {p : Program} {loose : List Str} {mean : ExcName → Option Value} {mg mb : Str → Option Value} {env : Env} {outer : List Env} {A A₀ : Around} {base h₀ : Heap} {L : Addr} {m : Str → Option Value} {s : Shared} {Q E : Value → Shared → Prop} {big : List (Addr × Obj)}
    (B : Below A₀ base outer h₀) (F : Fr h₀ L s.heap m) (X0 : (Mine.K w.params).In h₀) (N : News h₀ L s.heap big) (T : Top p loose mean mg mb h₀)
    (hA : A.frames = some (env :: outer)) (hf : env.frame = some L) (hke : env.scope.kind = .function) (hh : A.handled = none) (hdp : A.depth ≤ dp) (hun : A.units ≤ un)
    (hs : ∀ p ∈ small, p ∈ big) (h : ∀ v new h' tk', R v new → Fr h₀ L h' m → News h₀ L h' (new ++ big) → Q v { s with heap := h', toks := tk' }) :
    wpAny (model PySem.Challenge.rw_wj0054_01.row.prog w) A (call (.ref f) args kw) Q E s := by
  refine SpecG.use C (big.filter fun p => !((small.map (·.1)).elem p.1)) B F X0 N T hA hf hke hh hdp hun hs (fun p hp => (List.mem_filter.mp hp).1) (fun p hp q hq e => ?_) fun v sm h' tk' hp F' N' _ => ?_
  · have h1 := (List.mem_filter.mp hp).2
    have h2 : (small.map (·.1)).elem p.1 = true := List.elem_eq_true_of_mem (e ▸ List.mem_map_of_mem hq)
    rw [h2] at h1; cases h1
  · obtain ⟨new, hr, rfl⟩ := hR _ _ hp
    refine h v new h' tk' hr F' fun p hp => ?_
    rcases List.mem_append.mp hp with hp | hp
    · exact N' p (List.mem_append_left _ (List.mem_append_left _ hp))
    cases e : (small.map (·.1)).elem p.1 with
    | false => exact N' p (List.mem_append_right _ (List.mem_filter.mpr ⟨hp, by rw [e]; rfl⟩))
    | true =>
      obtain ⟨q, hq, e1⟩ := List.mem_map.mp (List.mem_of_elem_eq_true e)
      have h1 := (N q (hs q hq)).1
      have h2 := (N p hp).1
      rw [e1, h2] at h1
      have : q = p := by
        obtain ⟨a, o⟩ := q; obtain ⟨b, o'⟩ := p
        dsimp only at e1 h1; cases e1; cases Option.some.inj h1; rfl
      exact N' p (List.mem_append_left _ (List.mem_append_right _ (this ▸ hq)))
noncomputable def tellT {α : Type} (f : Nat → Nat → Option Bool) : KasT α → Option α
  | .ret a => some a
  | .ask i j k => match f i j with
    | some b => tellT f (k b)
    | none => none
theorem tellT_wp {α : Type} {f : Nat → Nat → Option Bool} {cmp : Nat → Nat → (Bool → Shared → Prop) → Shared → Prop} {s : Shared} (hc : ∀ i j b C, f i j = some b → C b s → cmp i j C s) {Q : α → Shared → Prop} : ∀ {t : KasT α} {p : α}, tellT f t = some p → Q p s → t.kasWp cmp Q s
  | .ret a, p, h, hq => by cases h; exact hq
  | .ask i j k, p, h, hq => by
    unfold tellT at h
    cases e : f i j with
    | none => rw [e] at h; cases h
    | some b =>
      rw [e] at h
      exact hc i j b _ e (tellT_wp hc h hq)
noncomputable def TextTups (h : Heap) (vs : List Value) (nm : List Str) : Prop := vs.length = nm.length ∧ ∀ (i : Nat) (x : Str), nm[i]? = some x → ∃ T t u, vs[i]? = some (.ref T) ∧ h.get? T = some (tupO (.str x t) u)
noncomputable def descT (n i j : Nat) : Option Bool := if i < n then if j < n then if i = j then none else some (decide (j < i)) else none else none
noncomputable def Falls (nm : List Str) : Prop := ∀ (i j : Nat) (x y : Str), nm[i]? = some x → nm[j]? = some y → i ≠ j → x ≠ y ∧ decide (x.cps.toList < y.cps.toList) = decide (j < i)
theorem ask_text {prog : Program} {w : World} {A : Around} {s : Shared} {vs : List Value} {nm : List Str} (ht : TextTups s.heap vs nm) (hf : Falls nm) {i j : Nat} {b : Bool} {C : Bool → Shared → Prop} (e : descT nm.length i j = some b) (hc : C b s) : kas_ask prog w A (tuples' true) vs i j C s := by
  unfold descT at e
  split at e
  · rename_i hi
    split at e
    · rename_i hj
      split at e
      · cases e
      · rename_i hij
        cases e
        obtain ⟨xi, hxi⟩ : ∃ x, nm[i]? = some x := ⟨_, List.getElem?_eq_getElem hi⟩
        obtain ⟨xj, hxj⟩ : ∃ x, nm[j]? = some x := ⟨_, List.getElem?_eq_getElem hj⟩
        obtain ⟨Ti, ti, ui, vi, gi⟩ := ht.2 i xi hxi
        obtain ⟨Tj, tj, uj, vj, gj⟩ := ht.2 j xj hxj
        obtain ⟨hne, hlt⟩ := hf i j xi xj hxi hxj hij
        unfold kas_ask
        have e1 : vs.getD i Value.none = .ref Ti := by rw [List.getD_eq_getElem?_getD, vi]; rfl
        have e2 : vs.getD j Value.none = .ref Tj := by rw [List.getD_eq_getElem?_getD, vj]; rfl
        rw [e1, e2]
        refine kat_lt gi rfl gj rfl (kat_cons (wpAny_eqBool_str ?_))
        rw [show decide (xi = xj) = false from decide_eq_false hne]
        refine kat_no (oneLt_str ?_)
        rw [hlt]; exact hc
    · cases e
  · cases e
theorem textTups_kat {h : Heap} : ∀ {vs : List Value} {nm : List Str}, TextTups h vs nm → ∃ fs, KatTups h vs fs ∧ fs.length = nm.length ∧ ∀ v ∈ fs, ∃ x t, v = .str x t
  | [], [], _ => ⟨[], .nil, rfl, fun _ h => nomatch h⟩
  | [], _ :: _, H => by have := H.1; simp at this
  | _ :: _, [], H => by have := H.1; simp at this
  | v :: vs, x :: nm, H => by
    obtain ⟨T, t, u, e, g⟩ := H.2 0 x rfl
    cases Option.some.inj e
    obtain ⟨fs, hk, hl, hs⟩ := textTups_kat (vs := vs) (nm := nm) ⟨by have := H.1; simpa using this, fun i y hy => H.2 (i + 1) y hy⟩
    refine ⟨.str x t :: fs, KatTups.cons g rfl rfl rfl hk, by simp [hl], fun v hv => ?_⟩
    rcases List.mem_cons.mp hv with rfl | hv
    · exact ⟨x, t, rfl⟩
    · exact hs v hv
noncomputable def TextIn (news : List (Addr × Obj)) (vs : List Value) (nm : List Str) : Prop := vs.length = nm.length ∧ ∀ (i : Nat) (x : Str), nm[i]? = some x → ∃ T t u, vs[i]? = some (.ref T) ∧ (T, tupO (.str x t) u) ∈ news
theorem TextIn.at {h₀ h : Heap} {L : Addr} {news : List (Addr × Obj)} {vs : List Value} {nm : List Str} (H : TextIn news vs nm) (N : News h₀ L h news) : TextTups h vs nm := ⟨H.1, fun i x hx => by
  obtain ⟨T, t, u, e, g⟩ := H.2 i x hx
  exact ⟨T, t, u, e, (N _ g).1⟩⟩
theorem sorted_falls {prog : Program} {w : World} {A : Around} {E : Value → Shared → Prop} {s : Shared} {h₀ : Heap} {L l : Addr} {m : Str → Option Value} {news : List (Addr × Obj)} {vs : List Value} {nm : List Str} {p : Array Nat} {Q : Value → Shared → Prop}
    (F : Fr h₀ L s.heap m) (N : News h₀ L s.heap news) (hl : s.heap.IsList l vs.toArray) (h2 : 2 ≤ vs.length) (h64 : vs.length < 64) (ht : TextIn news vs nm) (hf : Falls nm) (hp : tellT (descT nm.length) (kas_sort vs.length) = some p)
    (h : ∀ D c h', Fr h₀ L h' m → News h₀ L h' ((D, listOf (List.toArray (p.toList.map fun i => vs.getD i Value.none)) c) :: news) → (∀ q ∈ news, q.1 < D) → Q (.ref D) { s with heap := h' }) :
    wpAny (model prog w) A (call (.builtin "sorted") [.ref l]) Q E s := by
  refine kat_sorted F N hl h2 h64 fun D e1 h' F' N' lD => ?_
  have ht' : TextTups h' vs nm := ht.at (fun p hp => N' p (.tail _ hp))
  obtain ⟨fs, hk, hlf, hs⟩ := textTups_kat ht'
  refine kat_kind (T := .type "str") hk (by rw [hlf, ← ht.1]; exact Nat.lt_of_lt_of_le (by decide) h2) (fun v hv => ?_) rfl ?_
  · obtain ⟨x, t, rfl⟩ := hs v hv
    exact .now
  · refine tellT_wp (f := descT nm.length) (t := kas_sort vs.length) (p := p) (s := { s with heap := h' }) (fun i j b C e hc => ask_text ht' hf e hc) hp ?_
    exact KasFin.intro (s := { s with heap := h' }) F' N' (UpdF.head fun p hp => Nat.ne_of_lt (lD p hp)) fun h3 c F3 N3 => h D c h3 F3 N3 lD

open PySem PySem.W PyProof.Rows PySem.Calls
noncomputable def NameTab (news : List (Addr × Obj)) (vs : List Value) (ds : List (Str × Str)) : Prop := vs.length = ds.length ∧ ∀ (i : Nat) (a b : Str), ds[i]? = some (a, b) → ∃ T t u, vs[i]? = some (.ref T) ∧ (T, tupO (.str a t) (.str b u)) ∈ news
theorem NameTab.textIn {news : List (Addr × Obj)} {vs : List Value} {ds : List (Str × Str)} (H : NameTab news vs ds) : TextIn news vs (ds.map (·.1)) := ⟨by rw [List.length_map]; exact H.1, fun i x hx => by
  rw [List.getElem?_map] at hx
  cases e : ds[i]? with
  | none => rw [e] at hx; cases hx
  | some p =>
    obtain ⟨a, b⟩ := p
    rw [e] at hx; cases hx
    obtain ⟨T, t, u, e1, e2⟩ := H.2 i a b e
    exact ⟨T, t, _, e1, e2⟩⟩
theorem NameTab.mono {news news' : List (Addr × Obj)} {vs : List Value} {ds : List (Str × Str)} (H : NameTab news vs ds) (h : ∀ p ∈ news, p ∈ news') : NameTab news' vs ds := ⟨H.1, fun i a b e => let ⟨T, t, u, e1, e2⟩ := H.2 i a b e; ⟨T, t, u, e1, h _ e2⟩⟩
noncomputable def nameD (p : Str × Str) : PyData := .tuple [.str p.1, .str p.2]
theorem names_read {h : Heap} : ∀ {vs : List Value} {ds : List (Str × Str)}, vs.length = ds.length → (∀ (i : Nat) (a b : Str), ds[i]? = some (a, b) → ∃ T t u, vs[i]? = some (.ref T) ∧ h.get? T = some (tupO (.str a t) (.str b u))) → ∃ as, ReadsAll h vs (ds.map nameD) as
  | [], [], _, _ => ⟨[], .nil⟩
  | [], _ :: _, e, _ => by simp at e
  | _ :: _, [], e, _ => by simp at e
  | v :: vs, (a, b) :: ds, e, H => by
    obtain ⟨T, t, u, e1, g⟩ := H 0 a b rfl
    cases Option.some.inj e1
    obtain ⟨as, hr⟩ := names_read (vs := vs) (ds := ds) (by simpa using e) fun i a' b' hy => H (i + 1) a' b' hy
    exact ⟨_, .cons (.tuple g rfl rfl (.cons (.str a t) (.cons (.str b u) .nil))) hr⟩
theorem names_lay : ∀ ds : List (Str × Str), (∀ p ∈ ds, PyData.strOk p.1 = true ∧ PyData.strOk p.2 = true) → PyData.canLayAll0 (ds.map nameD) = true ∧ PyData.depthAll (ds.map nameD) ≤ 1
  | [], _ => ⟨rfl, by decide⟩
  | p :: ds, ho => by
    obtain ⟨h1, h2⟩ := names_lay ds fun p hp => ho p (.tail _ hp)
    have h3 := ho p (.head _)
    refine ⟨?_, ?_⟩
    · simp [PyData.canLayAll0, nameD, PyData.canLay0, h1, h3]
    · simp only [List.map_cons, PyData.depthAll, nameD, PyData.depth]
      omega
theorem names_eqv : ∀ ds : List (Str × Str), PyData.eqvAll (ds.map nameD) (ds.map nameD) = true
  | [] => by simp [PyData.eqvAll]
  | p :: ds => by simp [PyData.eqvAll, nameD, PyData.eqv, names_eqv ds]
theorem names_same {prog : Program} {w : World} {A : Around} {E : Value → Shared → Prop} {s : Shared} {h₀ : Heap} {L a b : Addr} {big : List (Addr × Obj)} {va vb : List Value} {ca cb : Nat} {ds : List (Str × Str)} {oa ob : Obj} {Q : Value → Shared → Prop}
    (N : News h₀ L s.heap big) (ha : (a, oa) ∈ big) (hca : oa.cls = .type "list") (hda : oa.data = .seq va.toArray ca) (hb : (b, ob) ∈ big) (hcb : ob.cls = .type "list") (hdb : ob.data = .seq vb.toArray cb) (ta : NameTab big va ds) (tb : NameTab big vb ds) (ho : ∀ p ∈ ds, PyData.strOk p.1 = true ∧ PyData.strOk p.2 = true) (hu : A.units + 64 < cLine) (h : Q (.bool false) s) :
    wpAny (model prog w) A (compareOp .NotEq (.ref a) (.ref b)) Q E s := by
  have rd : ∀ {vs : List Value} {x : Addr} {o : Obj} {c : Nat}, (x, o) ∈ big → o.cls = .type "list" → o.data = .seq vs.toArray c → NameTab big vs ds → ∃ as, Reads s.heap (.ref x) (.list (ds.map nameD)) as := fun hm hc hd t => by
    obtain ⟨as, hr⟩ := names_read (h := s.heap) t.1 fun i a b e => by
      obtain ⟨T, t', u, e1, e2⟩ := t.2 i a b e
      exact ⟨T, t', u, e1, (N _ e2).1⟩
    exact ⟨_, .list (N _ hm).1 hc hd (by simpa using hr)⟩
  obtain ⟨as, ra⟩ := rd ha hca hda ta
  obtain ⟨bs, rb⟩ := rd hb hcb hdb tb
  obtain ⟨h1, h2⟩ := names_lay ds ho
  have hs : SeqAt.shaped (.list (ds.map nameD)) = true := by
    simp only [SeqAt.shaped, PyData.canLay0, PyData.depth, h1, Bool.true_and]
    exact decide_eq_true (by omega)
  refine ne_dataH ra rb hs hs hu ?_
  rw [show PyData.eqv (.list (ds.map nameD)) (.list (ds.map nameD)) = true by rw [PyData.eqv]; exact names_eqv ds]
  exact h
noncomputable def NameJ (ds : List (Str × Str)) (news : List (Addr × Obj)) (i : Nat) (ys : List Value) (nw : List (Addr × Obj)) : Prop := ∃ new, nw = news ++ new ∧ NameTab new ys (ds.take i) ∧ ys.length = i
theorem NameJ.start (ds : List (Str × Str)) (news : List (Addr × Obj)) : NameJ ds news 0 [] news := ⟨[], (List.append_nil _).symm, ⟨rfl, fun i a b h => by simp at h⟩, rfl⟩
theorem NameJ.next {ds : List (Str × Str)} {news new : List (Addr × Obj)} {i : Nat} {ys : List Value} {a b : Str} {T : Addr} {ta tb : Tok} (h : NameTab new ys (ds.take i)) (hl : ys.length = i) (hx : ds[i]? = some (a, b)) :
    NameJ ds news (i + 1) (ys ++ [.ref T]) (news ++ (T, tupO (.str a ta) (.str b tb)) :: new) := by
  have hlt : i < ds.length := (List.getElem?_eq_some_iff.mp hx).1
  refine ⟨_, rfl, ⟨by simp [hl, List.length_take]; omega, fun j a' b' e => ?_⟩, by simp [hl]⟩
  rw [List.getElem?_take] at e
  split at e
  · rename_i hj
    by_cases e2 : j = i
    · subst e2
      rw [hx] at e; cases e
      refine ⟨T, ta, tb, ?_, .head _⟩
      rw [List.getElem?_append_right (by rw [hl]; exact Nat.le_refl _), hl, Nat.sub_self]; rfl
    · have hji : j < i := by omega
      obtain ⟨T', t, u, e3, e4⟩ := h.2 j a' b' (by rw [List.getElem?_take, if_pos hji]; exact e)
      exact ⟨T', t, u, by rw [List.getElem?_append_left (by rw [hl]; exact hji)]; exact e3, .tail _ e4⟩
  · cases e
theorem NameTab.all {news : List (Addr × Obj)} {vs : List Value} {ds : List (Str × Str)} {n : Nat} (h : NameTab news vs (ds.take n)) (hn : ds.length = n) : NameTab news vs ds := by
  rwa [List.take_of_length_le (by rw [hn]; exact Nat.le_refl _)] at h
theorem nm_ok (k : Nat) : PyData.strOk (Nm k) = true := by
  unfold Nm PyData.strOk
  rw [← Array.all_toList]
  simp
theorem Lw_ok {n : Int} (h0 : 0 ≤ n) (h1 : n < 151) : PyData.strOk (Lw n) = true := below_all (P := fun n => PyData.strOk (Lw n) = true) 151 (by decide +kernel) n h0 h1
theorem words_ok {ds : List (Str × Str)} {ns : List Int} (hds : ds = (List.range (ns.length + 1)).map fun k => (Nm k, Lw ((ns.take (ns.length - k)).sum))) (hb : ∀ j, 0 ≤ (ns.take j).sum ∧ (ns.take j).sum < 151) : ds.length = ns.length + 1 ∧ (∀ (i : Nat), i < ns.length + 1 → ds[i]? = some (Nm i, Lw ((ns.take (ns.length - i)).sum))) ∧ ∀ p ∈ ds, PyData.strOk p.1 = true ∧ PyData.strOk p.2 = true := by
  subst hds
  refine ⟨by simp, fun i hi => ?_, fun p hp => ?_⟩
  · rw [List.getElem?_map, List.getElem?_range hi]; rfl
  · obtain ⟨k, _, rfl⟩ := List.mem_map.mp hp
    exact ⟨nm_ok k, Lw_ok (hb _).1 (hb _).2⟩
theorem news_drop1 {g h : Heap} {L : Addr} {a b : Addr × Obj} {l : List (Addr × Obj)} (N : News g L h (a :: b :: l)) : News g L h (a :: l) := fun p hp => by
  rcases List.mem_cons.mp hp with rfl | hp
  · exact N _ (.head _)
  · exact N _ (.tail _ (.tail _ hp))
theorem mem_front {a b c x y q : Addr × Obj} {l r : List (Addr × Obj)} (h : q ∈ a :: b :: c :: l) : q ∈ a :: b :: c :: x :: y :: (l ++ r) := by
  simp only [List.mem_cons, List.mem_append] at h ⊢
  rcases h with h | h | h | h
  · exact .inl h
  · exact .inr (.inl h)
  · exact .inr (.inr (.inl h))
  · exact .inr (.inr (.inr (.inr (.inr (.inl h)))))
theorem range_small : ∀ {n : Nat}, n < 4 → Builtin.Range.small 0 ((n : Int) + 1) 1 = true ∧ Builtin.Range.rangeSize 0 ((n : Int) + 1) 1 = ((n + 1 : Nat) : Int)
  | 0, _ => by decide +kernel
  | 1, _ => by decide +kernel
  | 2, _ => by decide +kernel
  | 3, _ => by decide +kernel

theorem clrTN : True := by
  k_with_none
  trivial
open PySem PySem.W PyProof.Rows PySem.Calls PySem.Builtin
theorem turn_w (w : World) {tab rest : List (Addr × Obj)} {tv vs : List Value} {dd ds : List (Str × Str)} {x S f I : Addr} {oI oO : Obj} {cd : Value} {c : Nat} {p : Array Nat} {ns : List Int}
    {pr : Program} {loose : List Str} {mean : ExcName → Option Value} {mg mb : Str → Option Value} {outer : List Env} {A₀ : Around} {base g : Heap} {L : Addr} {m₀ : Str → Option Value} {s : Shared} {Q : Flow → Shared → Prop} {E : Value → Shared → Prop}
    (hI : SpecG 690 4800 w 135 [.ref x] [] tab (fun v sm => ∃ D c, v = .ref D ∧ sm = (D, W.listOf tv.toArray c) :: tab))
    (hD : NameTab tab tv dd) (hF : Falls (dd.map (·.1))) (hp : tellT (descT (dd.map (·.1)).length) (kas_sort tv.length) = some p) (hS : NameTab tab (p.toList.map fun i => tv.getD i .none) ds) (h2 : 2 ≤ tv.length) (h5 : tv.length < 5)
    (hi : IntsAre vs ns) (hn : ns.length < 4) (hds : ds = (List.range (ns.length + 1)).map fun k => (Nm k, Lw ((ns.take (ns.length - k)).sum))) (hb : ∀ j, 0 ≤ (ns.take j).sum ∧ (ns.take j).sum < 151)
    (B : Below A₀ base outer g) (F : Fr g L s.heap (fun y => if y = Str.ofString "table" then some (.ref x) else m₀ y)) (X0 : (Mine.K w.params).In g) (N : News g L s.heap ([(I, oI), (S, W.listOf vs.toArray c), (L + 1 + 1, oO)] ++ rest)) (T : Top pr loose mean mg mb g)
    (dO : oO.data = .cell (some (.ref S))) (ht : ∀ q ∈ tab, q ∈ rest) {dx lx : Addr} {tk : Tok} (hx1 : (x, instObj 171 dx) ∈ tab) (hx2 : (dx, hdrD w tk lx) ∈ tab)
    (hQ : ∀ h' tk', Fr g L h' (fun y => if y = Str.ofString "table" then some (.ref x) else m₀ y) → News g L h' ([(I, oI), (S, W.listOf vs.toArray c), (L + 1 + 1, oO)] ++ rest) → Q .next { s with heap := h', toks := tk' }) :
    wpAny (model PySem.Challenge.rw_wj0054_01.row.prog w) ((roof 310 1500 outer).deeper (envOfC (Str.ofString "law") lawSc L f cd)) (execs lawTurn (envOfC (Str.ofString "law") lawSc L f cd)) Q E s := by
  revert T N X0 F B
  k_fill
  intro B F X0 N T
  unfold lawTurn lawSc
  (simp only [List.cons_append, List.nil_append] at N hQ)
  replace N : News g L s.heap ((I, oI) :: (S, W.listOf vs.toArray c) :: (L + 1 + 1, oO) :: (x, instObj 171 dx) :: (dx, hdrD w tk lx) :: rest) := fun q hq => by
    rcases List.mem_cons.mp hq with rfl | hq
    · exact N _ (.head _)
    rcases List.mem_cons.mp hq with rfl | hq
    · exact N _ (.tail _ (.head _))
    rcases List.mem_cons.mp hq with rfl | hq
    · exact N _ (.tail _ (.tail _ (.head _)))
    rcases List.mem_cons.mp hq with rfl | hq
    · exact N _ (.tail _ (.tail _ (.tail _ (ht _ hx1))))
    rcases List.mem_cons.mp hq with rfl | hq
    · exact N _ (.tail _ (.tail _ (.tail _ (ht _ hx2))))
    · exact N _ (.tail _ (.tail _ (.tail _ hq)))
  unfold hdrD at N
  have hW := words_ok hds hb
  k_with_none
  k_with "storeName" => (k_here; k_dflt (refine' storeX_Lr ?F ?N ?a ?b ?_; (case a => exact rfl); (case b => exact rfl); (case F => k_asm); (case N => k_asm); k_whole; intro _ _ _; (try k_sweep)))
  k_with "eval Name" => (k_here; k_dflt (refine' nameX_Lr ?F ?a ?b ?v ?_; (case a => exact rfl); (case b => exact rfl); (case F => k_asm); (case v => exact rfl); k_whole))
  k_with "execs cons" => (refine wpAny_execs_cons ?_; (try k_fold))
  k_with "sub" => first | exact List.forall_mem_nil _ | exact fun _ h9 => h9 | ((first | refine' sub_keep ?_ | refine' sub_drop ?_); k_extra "sub")
  k_with "tb_rel" => first | (k_extra "sub"; done) | exact List.forall_mem_nil _ | (refine' fmc ?sa ?sb; (case sa => k_mem); (case sb => k_extra "tb_rel"))
  k_with "k_in" => (refine' Frag.In.keeps ?X (Fr.keep ?F); (case F => with_reducible assumption); (case X => with_reducible assumption))
  k_with "call ref" => (k_here; (with_reducible show wpAny _ _ (call (Value.ref 135) _ _) _ _ _); k_dflt (refine' SpecG.readN hI (R := fun v new => ∃ D c, v = .ref D ∧ new = [(D, W.listOf tv.toArray c)]) ?hR ?B ?F ?X ?N ?T ?hA ?hf ?hK ?hh ?hd ?hu ?hs ?_; (case F => k_asm); (case N => k_asm); (case B => k_asm); (case X => k_asm); (case T => k_asm); (case hA => exact rfl); (case hf => exact rfl); (case hK => exact rfl); (case hh => exact rfl); (case hd => exact Nat.le_of_ble_eq_true rfl); (case hu => exact Nat.le_of_ble_eq_true rfl); (case hR => (rintro v sm ⟨D, c, rfl, rfl⟩; exact ⟨[(D, W.listOf tv.toArray c)], ⟨D, c, rfl, rfl⟩, rfl⟩)); (case hs => exact fun q hq => List.mem_cons_of_mem _ (List.mem_cons_of_mem _ (List.mem_cons_of_mem _ (List.mem_cons_of_mem _ (List.mem_cons_of_mem _ (ht q hq)))))); k_whole; intro v' new' h' tk' hv' F' N'; (obtain ⟨D1, c1, rfl, rfl⟩ := hv'); (try k_sweep)))
  k_with "call builtin:sorted" => (k_here; (with_reducible show wpAny _ _ (call (Value.builtin _) [Value.ref D1]) _ _ _); k_dflt (refine' sorted_falls (nm := dd.map (·.1)) (p := p) ?F ?N ?hl h2 ?h64 ?ht hF hp ?_; (case F => k_asm); (case N => k_asm); (case hl => exact News.isList (by k_asm) (by k_mem)); (case h64 => exact Nat.lt_trans h5 (by decide)); (case ht => exact (hD.mono fun q hq => List.mem_cons_of_mem _ (List.mem_cons_of_mem _ (List.mem_cons_of_mem _ (List.mem_cons_of_mem _ (List.mem_cons_of_mem _ (List.mem_cons_of_mem _ (ht q hq))))))).textIn); k_whole; intro D2 c2 h' F' N' lD2; (try k_sweep)))
  k_with "eval ListComp" => (k_here; (with_reducible show wpAny _ _ (eval (Expr.ListComp _ [_] _ _) _) _ _ _); k_dflt (refine' comp_in ?F ?hclos ?hcell ?hkind ?hnames ?_; (case F => k_asm); (case hclos => exact rfl); (case hkind => exact rfl); (case hnames => decide); (case hcell => decide); k_whole))
  k_with "pyIter ref" => (k_here; (with_reducible show wpAny _ _ (pyIter (Value.ref _)) (CIn _ _ _ _ _ _ _ _ _ _ _) _ _); k_dflt (refine' range_in (n := ns.length + 1) ?hh ?hx ?hk ?F ?N ?hr ?hsm ?hsz (fun i ys nw => NameJ ds _ i ys nw) ?hJ ?j0 ?rS ?rF; (case hh => exact rfl); (case hx => exact rfl); (case hk => exact rfl); (case F => k_asm); (case N => k_asm); (case hr => assumption); (case hsm => exact (range_small hn).1); (case hsz => exact (range_small hn).2); (case j0 => exact NameJ.start _ _); (case hJ => (rintro i ys nw hi ⟨new, rfl, -, hl⟩; rw [hl, sizeLine_eq]; exact Nat.le_trans (Nat.le_of_lt (Nat.lt_trans hi (Nat.succ_lt_succ hn))) (by decide))); k_whole; (case' rS => (intro Ex3 i3 I3 oI3 C3 oC3 D3 m3 ys3 nw3 h3 tk3 t3 hi3 hJ3 hC3 hmx3 F3 N3 ap3; obtain ⟨new3, rfl, hT3, hl3⟩ := hJ3; (have hj3 : i3 < 5 := Nat.lt_trans hi3 (Nat.succ_lt_succ hn)); (simp only [List.cons_append, List.nil_append, List.append_assoc] at N3))); (case' rF => (intro D4 ys4 nw4 h4 tk4 lD4 hJ4 F4 N4; obtain ⟨new4, rfl, hT4, hl4⟩ := hJ4; (simp only [List.cons_append, List.nil_append, List.append_assoc] at N4)))))
  k_with "binaryOp Mult str int" => (k_here; k_dflt (refine' nm_mulN ?h0 ?_; (case h0 => assumption); intro _ _))
  k_with "compareOp NotEq ref ref" => (k_here; (with_reducible show wpAny _ _ (compareOp CmpOp.NotEq (Value.ref D2) (Value.ref D4)) _ _ _); k_dflt (refine' names_same (ds := ds) ?N ?ha ?a1 ?a2 ?hb ?b1 ?b2 ?ta ?tb ?ho ?hu ?_; (case N => exact N4); (case ha => k_mem); (case a1 => exact rfl); (case a2 => exact rfl); (case hb => k_mem); (case b1 => exact rfl); (case b2 => exact rfl); (case ta => exact hS.mono fun q hq => List.mem_cons_of_mem _ (List.mem_cons_of_mem _ (List.mem_cons_of_mem _ (List.mem_cons_of_mem _ (List.mem_cons_of_mem _ (List.mem_cons_of_mem _ (List.mem_cons_of_mem _ (List.mem_cons_of_mem _ (List.mem_append_left _ (ht q hq)))))))))); (case tb => exact (hT4.all hW.1).mono fun q hq => List.mem_cons_of_mem _ (List.mem_cons_of_mem _ (List.mem_cons_of_mem _ (List.mem_cons_of_mem _ (List.mem_cons_of_mem _ (List.mem_cons_of_mem _ (List.mem_cons_of_mem _ (List.mem_cons_of_mem _ (List.mem_append_right _ hq))))))))); (case ho => exact hW.2.2); (case hu => exact Nat.le_of_ble_eq_true rfl)))
  k_with "call ref" => (k_here; (with_reducible show wpAny _ _ (call (Value.ref 257) [_] _) _ _ _); k_dflt (refine' SpecK.use (letters _ _ _ _ ?h0 ?h1) ?B ?F ?X ?N ?T ?hA ?hK ?hh ?hd ?hu ?_; (case hA => exact rfl); (case F => k_asm); (case N => k_asm); (case B => k_asm); (case X => k_asm); (case T => k_asm); (case hK => first | rfl | assumption); (case hh => rfl); (case hd => exact Nat.le_of_ble_eq_true rfl); (case hu => exact Nat.le_of_ble_eq_true rfl); (case h0 => exact (hb _).1); (case h1 => exact (hb _).2); k_whole; (rintro v' news' h' tk' ⟨⟨t', e1'⟩, e2'⟩ F' N'); subst e1'; subst e2'; (try k_sweep)))
  k_with "newTuple" => (k_here; k_dflt (refine' kup_newTuple ?F ?N ?_ ?z; (case F => k_asm); (case N => k_asm); (case z => kmk_size)); intro T9 h9 F9 N9 lT9; (try k_sweep))
  k_with "EEnd" => (k_dflt (refine' eend_new (pre := [(I3, oI3), (C3, oC3), (D3, _)]) (new := new3) ?F ?N ?lT ?hpre ap3 ?hj; (case F => k_asm); (case N => ((try simp only [List.cons_append, List.nil_append, List.append_assoc]); exact news_drop1 N9)); (case lT => ((try simp only [List.cons_append, List.nil_append, List.append_assoc]); exact fun q hq => lT9 q (List.mem_cons_of_mem _ hq))); (case hpre => (intro b hb; (simp only [List.mem_cons, List.not_mem_nil, or_false, List.map_cons, List.map_nil] at hb ⊢); (rcases hb with h | h | h) <;> simp [h])); (case hj => exact fun _ => NameJ.next hT3 hl3 (by rw [Int.toNat_sub]; exact hW.2.1 i3 hi3))))
  k_steps
  all_goals (
    refine' hQ _ _ ?kF ?kN
    case kF => k_asm
    case kN => exact fun q hq => N4 q (List.mem_cons_of_mem _ (List.mem_cons_of_mem _ (List.mem_cons_of_mem _ (mem_front hq)))))

open PySem PySem.W PyProof.Rows PySem.Calls PySem.Builtin
section
variable {prog : Program} {w : World} {A : Around} {E : Value → Shared → Prop} {s : Shared} {env : Env} {h₀ : Heap} {target : Expr} {body : List Stmt} {Q : Flow → Shared → Prop}
noncomputable def TurnTo (h₀ : Heap) (L I : Addr) (oI : Obj) (keep : Addr × Obj) (P : (Str → Option Value) → List (Addr × Obj) → Prop) (s : Shared) (Q : Flow → Shared → Prop) (f : Flow) (s₂ : Shared) : Prop := match f with
  | .ret v => Q (.ret v) s₂
  | .brk => Q .next s₂
  | _ => ∃ h' tk m' n', s₂ = { s with heap := h', toks := tk } ∧ Fr h₀ L h' m' ∧ News h₀ L h' ((I, oI) :: n') ∧ (∀ p ∈ n', p.1 ≠ I) ∧ keep ∈ n' ∧ P m' n'
theorem two_turns {T0 : Addr} {a b : Value} {oT : Obj} {n : Nat} {m₀ : Str → Option Value} {news : List (Addr × Obj)} (hh : A.handled = none) (F : Fr h₀ env.locals s.heap m₀) (N : News h₀ env.locals s.heap news) (hm : (T0, oT) ∈ news) (hc : oT.cls = .type "tuple") (hd : oT.data = .seq [a, b].toArray n)
    (P1 P2 : Addr → (Str → Option Value) → List (Addr × Obj) → Prop)
    (t1 : ∀ I oI h tk, (∀ p ∈ news, p.1 < I) → Fr h₀ env.locals h m₀ → News h₀ env.locals h ((I, oI) :: news) →
      wpAny (model prog w) A (assign target env a) (fun _ s₂ => wpAny (model prog w) A (execs body env) (TurnTo h₀ env.locals I oI (T0, oT) (P1 I) { s with heap := h, toks := tk } Q) E s₂) E { s with heap := h, toks := tk })
    (t2 : ∀ I oI h tk m1 n1, P1 I m1 n1 → Fr h₀ env.locals h m1 → News h₀ env.locals h ((I, oI) :: n1) →
      wpAny (model prog w) A (assign target env b) (fun _ s₂ => wpAny (model prog w) A (execs body env) (TurnTo h₀ env.locals I oI (T0, oT) (P2 I) { s with heap := h, toks := tk } Q) E s₂) E { s with heap := h, toks := tk })
    (fin : ∀ I m2 n2 h tk, P2 I m2 n2 → Fr h₀ env.locals h m2 → News h₀ env.locals h n2 → Q .next { s with heap := h, toks := tk }) :
    wpAny (model prog w) A (pyIter (.ref T0)) (fun it s₂ => TurnsAt prog w A h₀ env target body Q E it s₂) E s := by
  have conv : ∀ {I : Addr} {oI : Obj} {s₀ : Shared} {P R : (Str → Option Value) → List (Addr × Obj) → Prop} {f : Flow} {s₂ : Shared}, (∀ m' n', P m' n' → R m' n') → TurnTo h₀ env.locals I oI (T0, oT) P s₀ Q f s₂ →
      UnrPostW h₀ env.locals s₀ [(I, oI)] (fun m' n' => SubL [(T0, oT)] n' ∧ R m' n') Q f s₂ := by
    intro I oI s₀ P R f s₂ hPR h
    have key : (∃ h' tk m' n', s₂ = { s₀ with heap := h', toks := tk } ∧ Fr h₀ env.locals h' m' ∧ News h₀ env.locals h' ((I, oI) :: n') ∧ (∀ p ∈ n', p.1 ≠ I) ∧ (T0, oT) ∈ n' ∧ P m' n') → UnrEndW h₀ env.locals s₀ [(I, oI)] (fun m' n' => SubL [(T0, oT)] n' ∧ R m' n') s₂ := by
      rintro ⟨h', tk, m', n', e, F', N', ho, hk, hp⟩
      exact ⟨h', tk, m', n', e, F', N', fun p hp q hq => by rw [List.mem_singleton.mp hq]; exact ho p hp, ⟨hk, trivial⟩, hPR _ _ hp⟩
    cases f with
    | ret v => exact h
    | brk => exact h
    | next => exact key h
    | cont => exact key h
  refine iter_tupTurns hh F N hm hc hd fun I hI => ?_
  refine ItemsRest.val fun h tk F1 => AllObj.cons fun oI _ => AllObj.nil fun N1 => ?_
  refine wpAny_mono (t1 I oI h tk hI F1 N1) (fun _ s₂ h₂ => wpAny_mono h₂ (fun f s₃ h₃ => ?_) fun _ _ e => e) fun _ _ e => e
  refine conv (fun m1 n1 hp1 => ?_) h₃
  refine ItemsRest.val fun h tk F1 => AllObj.cons fun oI _ => AllObj.nil fun N1 => ?_
  refine wpAny_mono (t2 I oI h tk m1 n1 hp1 F1 N1) (fun _ s₂ h₂ => wpAny_mono h₂ (fun f s₃ h₃ => ?_) fun _ _ e => e) fun _ _ e => e
  refine conv (fun m2 n2 hp2 => ?_) h₃
  exact ItemsRest.zero fun h tk F2 N2 => fin I m2 n2 h tk hp2 F2 N2
end
noncomputable def lawTarget : Expr := by
  refine (?i : Expr)
  refine (?h : HeardE (.For ?t ?i2 ?b ?o ?p :: ?r))
  refine (?g : HeardE lawLoop)
  refine (?_ : Expr)
  exact ?t
theorem assign_own {prog : Program} {w : World} {A : Around} {E : Value → Shared → Prop} {s : Shared} {g : Heap} {L f Ta I : Addr} {cd v u : Value} {m : Str → Option Value} {oI oO : Obj} {v₀ : Option Value} {R : List (Addr × Obj)} {Q : Unit → Shared → Prop} (hh : A.handled = none)
    (hT : IsTup s.heap Ta #[v, u]) (F : Fr g L s.heap m) (N : News g L s.heap ((I, oI) :: (L + 1 + 1, oO) :: R)) (hd : oO.data = .cell v₀) (hI : I ≠ L + 1 + 1) (hR : ∀ p ∈ R, p.1 ≠ L + 1 + 1)
    (h : ∀ h' oO' tk', Fr g L h' (fun y => if y = Str.ofString "table" then some v else m y) → News g L h' ((I, oI) :: (L + 1 + 1, oO') :: R) → oO'.data = .cell (some u) → Q () { s with heap := h', toks := tk' }) :
    wpAny (model prog w) A (assign lawTarget (envOfC (Str.ofString "law") lawSc L f cd) (.ref Ta)) Q E s := by
  unfold lawTarget
  refine assign_Tuple_tuple hh hT rfl rfl fun h₅ he => ?_
  have up : ∀ b o, s.heap.get? b = some o → h₅.get? b = some o := fun b o e => he b o (Nat.ne_of_lt (Heap.lt_size e)) e
  have F5 := F.keeps up
  have N5 := N.grown up
  refine assignInOrder_cons (wpAny_assign_Name (wpAny_storeName_local (s := { s with heap := h₅ }) rfl F5.ns fun h6 hn hs => ?_))
  have F6 : Fr g L h6 (fun y => if y = Str.ofString "table" then some v else m y) := ⟨hn, fun b o e => hs.extBut b o (fun q => by rw [q] at e; exact absurd (Heap.lt_size e) (Nat.not_lt.mpr F5.above)) (F5.keep b o e), F5.above⟩
  have N6 : News g L h6 ((I, oI) :: (L + 1 + 1, oO) :: R) := fun p hp => ⟨hs.extBut _ _ (N5 p hp).2.1 (N5 p hp).1, (N5 p hp).2⟩
  have hm := N6 (L + 1 + 1, oO) (.tail _ (.head _))
  refine assignInOrder_cons (wpAny_assign_Name (wpAny_storeName_cell (c := L + 1 + 1) (v₀ := v₀) rfl rfl rfl ⟨oO, hm.1, hd⟩ fun h' hv hs => ?_))
  obtain ⟨oO', e, hd'⟩ := hv
  refine assignInOrder_nil (h h' oO' _ (F6.change hs hm.2.1 hm.2.2) (fun p hp => ?_) hd')
  rcases List.mem_cons.mp hp with rfl | hp
  · exact ⟨hs.extBut _ _ hI (N6 _ (.head _)).1, (N6 _ (.head _)).2⟩
  rcases List.mem_cons.mp hp with rfl | hp
  · exact ⟨e, hm.2⟩
  · have z := N6 p (.tail _ (.tail _ hp))
    exact ⟨hs.extBut _ _ (hR p hp) z.1, z.2⟩
structure TableOk (w : World) (R : List (Addr × Obj)) (x S : Addr) : Prop where
  ok : ∃ (tab : List (Addr × Obj)) (tv vs : List Value) (dd ds : List (Str × Str)) (c : Nat) (p : Array Nat) (ns : List Int) (dx lx : Addr) (tk : Tok),
    SpecG 690 4800 w 135 [.ref x] [] tab (fun v sm => ∃ D c, v = .ref D ∧ sm = (D, W.listOf tv.toArray c) :: tab) ∧ NameTab tab tv dd ∧ Falls (dd.map (·.1)) ∧ tellT (descT (dd.map (·.1)).length) (kas_sort tv.length) = some p ∧ NameTab tab (p.toList.map fun i => tv.getD i .none) ds ∧ 2 ≤ tv.length ∧ tv.length < 5 ∧
    IntsAre vs ns ∧ ns.length < 4 ∧ (ds = (List.range (ns.length + 1)).map fun k => (Nm k, Lw ((ns.take (ns.length - k)).sum))) ∧ (∀ j, 0 ≤ (ns.take j).sum ∧ (ns.take j).sum < 151) ∧ (S, W.listOf vs.toArray c) ∈ R ∧ (∀ q ∈ tab, q ∈ R) ∧ (x, instObj 171 dx) ∈ tab ∧ (dx, hdrD w tk lx) ∈ tab
theorem loop_turn (w : World) {R : List (Addr × Obj)} {x S f I Ta T0 : Addr} {oI oO oT oTa : Obj} {cd : Value} {v₀ : Option Value} {nTa : Nat} {pr : Program} {loose : List Str} {mean : ExcName → Option Value} {mg mb : Str → Option Value} {outer : List Env} {A₀ : Around} {base g : Heap} {L : Addr} {m₀ : Str → Option Value} {s : Shared} {Q : Flow → Shared → Prop} {E : Value → Shared → Prop}
    (hT : TableOk w R x S) (hTa : (Ta, oTa) ∈ R) (hcl : oTa.cls = .type "tuple") (hda : oTa.data = .seq #[.ref x, .ref S] nTa) (hT0 : (T0, oT) ∈ R)
    (B : Below A₀ base outer g) (F : Fr g L s.heap m₀) (X0 : (Mine.K w.params).In g) (N : News g L s.heap ((I, oI) :: (L + 1 + 1, oO) :: R)) (T : Top pr loose mean mg mb g) (dO : oO.data = .cell v₀) (hI : I ≠ L + 1 + 1) (hIR : ∀ p ∈ R, p.1 ≠ I) (hR : ∀ p ∈ R, p.1 ≠ L + 1 + 1) :
    wpAny (model PySem.Challenge.rw_wj0054_01.row.prog w) ((roof 310 1500 outer).deeper (envOfC (Str.ofString "law") lawSc L f cd)) (assign lawTarget (envOfC (Str.ofString "law") lawSc L f cd) (.ref Ta))
      (fun _ s₂ => wpAny (model PySem.Challenge.rw_wj0054_01.row.prog w) ((roof 310 1500 outer).deeper (envOfC (Str.ofString "law") lawSc L f cd)) (execs lawTurn (envOfC (Str.ofString "law") lawSc L f cd))
        (TurnTo g L I oI (T0, oT) (fun m' n' => ∃ oO', m' = (fun y => if y = Str.ofString "table" then some (.ref x) else m₀ y) ∧ n' = (L + 1 + 1, oO') :: R ∧ oO'.data = .cell (some (.ref S)) ∧ I ≠ L + 1 + 1 ∧ ∀ p ∈ R, p.1 ≠ I) s Q) E s₂) E s := by
  obtain ⟨tab, tv, vs, dd, ds, c, p, ns, dx, lx, tk, h1, h2, h3, h4, h5, h6, h7, h8, h9, h10, h11, h12, h13, h14, h15⟩ := hT.ok
  refine assign_own rfl ⟨oTa, (N _ (.tail _ (.tail _ hTa))).1, hcl, nTa, hda⟩ F N dO hI hR fun h' oO' tk' F' N' dO' => ?_
  refine turn_w w (s := { s with heap := h', toks := tk' }) (rest := R) (I := I) (oI := oI) (c := c) h1 h2 h3 h4 h5 h6 h7 h8 h9 h10 h11 B F' X0 (fun q hq => ?_) T dO' h13 h14 h15 fun h3 tk3 F3 N3 => ⟨h3, tk3, _, (L + 1 + 1, oO') :: R, rfl, F3, fun q hq => ?_, fun q hq => ?_, .tail _ hT0, oO', rfl, rfl, dO', hI, hIR⟩
  · simp only [List.cons_append, List.nil_append, List.mem_cons] at hq
    rcases hq with rfl | rfl | rfl | hq
    · exact N' _ (.head _)
    · exact N' _ (.tail _ (.tail _ h12))
    · exact N' _ (.tail _ (.head _))
    · exact N' _ (.tail _ (.tail _ hq))
  · rcases List.mem_cons.mp hq with rfl | hq
    · exact N3 _ (.head _)
    rcases List.mem_cons.mp hq with rfl | hq
    · exact N3 _ (.tail _ (.tail _ (.head _)))
    · exact N3 _ (.tail _ (.tail _ (.tail _ hq)))
  · rcases List.mem_cons.mp hq with rfl | hq
    · exact hI.symm
    · exact hIR q hq
theorem loop_w (w : World) {R : List (Addr × Obj)} {xA xB S3 S2 f Ta Tb T0 : Addr} {oO oT oTa oTb : Obj} {cd : Value} {v₀ : Option Value} {nTa nTb nT : Nat} {pr : Program} {loose : List Str} {mean : ExcName → Option Value} {mg mb : Str → Option Value} {outer : List Env} {A₀ : Around} {base g : Heap} {L : Addr} {m₀ : Str → Option Value} {s : Shared} {Q : Flow → Shared → Prop} {E : Value → Shared → Prop}
    (hA : TableOk w R xA S3) (hB : TableOk w R xB S2) (hTa : (Ta, oTa) ∈ R) (hcl : oTa.cls = .type "tuple") (hda : oTa.data = .seq #[.ref xA, .ref S3] nTa) (hTb : (Tb, oTb) ∈ R) (hclb : oTb.cls = .type "tuple") (hdb : oTb.data = .seq #[.ref xB, .ref S2] nTb) (hT0 : (T0, oT) ∈ R) (hc0 : oT.cls = .type "tuple") (hd0 : oT.data = .seq #[.ref Ta, .ref Tb] nT)
    (B : Below A₀ base outer g) (F : Fr g L s.heap m₀) (X0 : (Mine.K w.params).In g) (N : News g L s.heap ((L + 1 + 1, oO) :: R)) (T : Top pr loose mean mg mb g) (dO : oO.data = .cell v₀) (hR : ∀ p ∈ R, p.1 ≠ L + 1 + 1)
    (hQ : ∀ h' tk' oO', Fr g L h' (fun y => if y = Str.ofString "table" then some (.ref xB) else if y = Str.ofString "table" then some (.ref xA) else m₀ y) → News g L h' ((L + 1 + 1, oO') :: R) → Q .next { s with heap := h', toks := tk' }) :
    wpAny (model PySem.Challenge.rw_wj0054_01.row.prog w) ((roof 310 1500 outer).deeper (envOfC (Str.ofString "law") lawSc L f cd)) (pyIter (.ref T0)) (fun it s₂ => TurnsAt PySem.Challenge.rw_wj0054_01.row.prog w ((roof 310 1500 outer).deeper (envOfC (Str.ofString "law") lawSc L f cd)) g (envOfC (Str.ofString "law") lawSc L f cd) lawTarget lawTurn Q E it s₂) E s := by
  refine two_turns rfl F N (.tail _ hT0) hc0 hd0
    (fun I m' n' => ∃ oO', m' = (fun y => if y = Str.ofString "table" then some (.ref xA) else m₀ y) ∧ n' = (L + 1 + 1, oO') :: R ∧ oO'.data = .cell (some (.ref S3)) ∧ I ≠ L + 1 + 1 ∧ ∀ p ∈ R, p.1 ≠ I)
    (fun I m' n' => ∃ oO', m' = (fun y => if y = Str.ofString "table" then some (.ref xB) else if y = Str.ofString "table" then some (.ref xA) else m₀ y) ∧ n' = (L + 1 + 1, oO') :: R ∧ oO'.data = .cell (some (.ref S2)) ∧ I ≠ L + 1 + 1 ∧ ∀ p ∈ R, p.1 ≠ I)
    (fun I oI h tk hI F1 N1 => ?_) (fun I oI h tk m1 n1 hp F1 N1 => ?_) (fun I m2 n2 h tk hp F2 N2 => ?_)
  · exact loop_turn w (s := { s with heap := h, toks := tk }) hA hTa hcl hda hT0 B F1 X0 N1 T dO (Nat.ne_of_gt (hI _ (.head _))) (fun p hp => Nat.ne_of_lt (hI p (.tail _ hp))) hR
  · obtain ⟨oO', rfl, rfl, hd', hI1, hI2⟩ := hp
    exact loop_turn w (s := { s with heap := h, toks := tk }) hB hTb hclb hdb hT0 B F1 X0 N1 T hd' hI1 hI2 hR
  · obtain ⟨oO', rfl, rfl, _, _, _⟩ := hp
    exact hQ h tk oO' F2 N2

open PySem PySem.W PyProof.Rows PySem.Calls PySem.Builtin
theorem perm2 {b c y z : Int} (h : List.Perm [b, c] [y, z]) : (b = y ∧ c = z) ∨ (b = z ∧ c = y) := by
  have hb : b ∈ [y, z] := h.mem_iff.mp (.head _)
  rcases List.mem_cons.mp hb with rfl | hb
  · have := List.perm_singleton.mp (List.Perm.cons_inv h)
    exact .inl ⟨rfl, by simpa using this⟩
  · have e := List.mem_singleton.mp hb
    subst e
    have := List.perm_singleton.mp (List.Perm.cons_inv (h.trans (.swap ..)))
    exact .inr ⟨rfl, by simpa using this⟩
theorem perm3 {a b c x y z : Int} (h : List.Perm [a, b, c] [x, y, z]) : (a = x ∧ b = y ∧ c = z) ∨ (a = x ∧ b = z ∧ c = y) ∨ (a = y ∧ b = x ∧ c = z) ∨ (a = y ∧ b = z ∧ c = x) ∨ (a = z ∧ b = x ∧ c = y) ∨ (a = z ∧ b = y ∧ c = x) := by
  have ha : a ∈ [x, y, z] := h.mem_iff.mp (.head _)
  rcases List.mem_cons.mp ha with rfl | ha
  · rcases perm2 (List.Perm.cons_inv h) with ⟨rfl, rfl⟩ | ⟨rfl, rfl⟩ <;> simp
  rcases List.mem_cons.mp ha with rfl | ha
  · rcases perm2 (List.Perm.cons_inv (h.trans (.swap ..))) with ⟨rfl, rfl⟩ | ⟨rfl, rfl⟩ <;> simp
  · have e := List.mem_singleton.mp ha
    subst e
    rcases perm2 (List.Perm.cons_inv (h.trans ((List.Perm.cons x (.swap ..)).trans (.swap ..)))) with ⟨rfl, rfl⟩ | ⟨rfl, rfl⟩ <;> simp
theorem falls4 : Falls [Nm 3, Nm 2, Nm 1, Nm 0] := by
  have key : ∀ i : Fin 4, ∀ j : Fin 4, i ≠ j → [Nm 3, Nm 2, Nm 1, Nm 0][i.val]! ≠ [Nm 3, Nm 2, Nm 1, Nm 0][j.val]! ∧ decide ([Nm 3, Nm 2, Nm 1, Nm 0][i.val]!.cps.toList < [Nm 3, Nm 2, Nm 1, Nm 0][j.val]!.cps.toList) = decide (j.val < i.val) := by decide +kernel
  intro i j x y hx hy hij
  have hi : i < 4 := (List.getElem?_eq_some_iff.mp hx).1
  have hj : j < 4 := (List.getElem?_eq_some_iff.mp hy).1
  have := key ⟨i, hi⟩ ⟨j, hj⟩ (fun e => hij (congrArg Fin.val e))
  simp only [List.getElem!_eq_getElem?_getD, hx, hy, Option.getD_some] at this
  exact this
theorem falls3 : Falls [Nm 2, Nm 1, Nm 0] := by
  have key : ∀ i : Fin 3, ∀ j : Fin 3, i ≠ j → [Nm 2, Nm 1, Nm 0][i.val]! ≠ [Nm 2, Nm 1, Nm 0][j.val]! ∧ decide ([Nm 2, Nm 1, Nm 0][i.val]!.cps.toList < [Nm 2, Nm 1, Nm 0][j.val]!.cps.toList) = decide (j.val < i.val) := by decide +kernel
  intro i j x y hx hy hij
  have hi : i < 3 := (List.getElem?_eq_some_iff.mp hx).1
  have hj : j < 3 := (List.getElem?_eq_some_iff.mp hy).1
  have := key ⟨i, hi⟩ ⟨j, hj⟩ (fun e => hij (congrArg Fin.val e))
  simp only [List.getElem!_eq_getElem?_getD, hx, hy, Option.getD_some] at this
  exact this
theorem tell4 : tellT (descT 4) (kas_sort 4) = some #[3, 2, 1, 0] := by kernel_rfl
theorem tell3 : tellT (descT 3) (kas_sort 3) = some #[2, 1, 0] := by kernel_rfl
theorem nt_nil {news : List (Addr × Obj)} : NameTab news [] [] := ⟨rfl, fun i a b h => by simp at h⟩
theorem nt_cons {news : List (Addr × Obj)} {T : Addr} {a b : Str} {t u : Tok} {vs : List Value} {ds : List (Str × Str)} (hm : (T, tupO (.str a t) (.str b u)) ∈ news) (h : NameTab news vs ds) : NameTab news (.ref T :: vs) ((a, b) :: ds) :=
  ⟨by simp [h.1], fun i a' b' e => by
    cases i with
    | zero => simp at e; obtain ⟨rfl, rfl⟩ := e; exact ⟨T, t, u, rfl, hm⟩
    | succ i => exact h.2 i a' b' (by simpa using e)⟩
theorem sum3 {a b c x y z : Int} (hs : List.Pairwise (· ≤ ·) [a, b, c]) (hp : List.Perm [a, b, c] [x, y, z]) : min (0 + z) (min (0 + y) (0 + x)) = [a].sum ∧ min (min (0 + y) (0 + x) + z) (0 + x + y) = [a, b].sum ∧ 0 + x + y + z = [a, b, c].sum := by
  have h1 : a ≤ b ∧ b ≤ c := by
    simp only [List.pairwise_cons, List.mem_cons, List.not_mem_nil, or_false] at hs
    exact ⟨hs.1 b (.inl rfl), hs.2.1 c rfl⟩
  obtain ⟨e1, e2, e3⟩ := six h1.1 h1.2 (perm3 hp)
  refine ⟨e1.trans (Int.add_zero a).symm, e2.trans ?_, e3.trans ?_⟩
  · rw [List.sum_cons, List.sum_cons, List.sum_nil, Int.add_zero]
  · rw [List.sum_cons, List.sum_cons, List.sum_cons, List.sum_nil, Int.add_zero, Int.add_assoc]
theorem sum2 {a b x y : Int} (hs : List.Pairwise (· ≤ ·) [a, b]) (hp : List.Perm [a, b] [x, y]) : min (0 + y) (0 + x) = [a].sum ∧ 0 + x + y = [a, b].sum := by
  have h1 : a ≤ b := by
    simp only [List.pairwise_cons, List.mem_cons, List.not_mem_nil, or_false] at hs
    exact hs.1 b rfl
  rw [List.sum_cons, List.sum_cons, List.sum_cons, List.sum_nil, Int.add_zero, Int.add_zero, Int.zero_add, Int.zero_add]
  rcases perm2 hp with ⟨rfl, rfl⟩ | ⟨rfl, rfl⟩
  · exact ⟨Int.min_eq_right h1, rfl⟩
  · exact ⟨Int.min_eq_left h1, Int.add_comm ..⟩
theorem take_in {ns : List Int} (h : ∀ k ∈ ns, 0 ≤ k ∧ k < 31) : ∀ j, 0 ≤ (ns.take j).sum ∧ (ns.take j).sum ≤ 30 * (ns.length : Int) := by
  induction ns with
  | nil => intro j; simp
  | cons k r ih =>
    intro j
    have h1 := h k (.head _)
    cases j with
    | zero => simp; omega
    | succ j =>
      have h2 := ih (fun q hq => h q (.tail _ hq)) j
      simp only [List.take_succ_cons, List.sum_cons, List.length_cons]
      omega
theorem table_4 (w : World) (X : Lx) {x S : Addr} {r0 r1 r2 : Int} {tab R : List (Addr × Obj)} {vs : List Value} {ns : List Int} {c : Nat} (h0 : 1 ≤ r0) (m0 : r0 < 31) (h1 : 1 ≤ r1) (m1 : r1 < 31) (h2 : 1 ≤ r2) (m2 : r2 < 31)
    (hT : Tab4 w X x 0 (min (0 + r2) (min (0 + r1) (0 + r0))) (min (min (0 + r1) (0 + r0) + r2) (0 + r0 + r1)) (0 + r0 + r1 + r2) tab) (hi : IntsAre vs ns) (hp : ns.Perm [r0, r1, r2]) (hs : ns.Pairwise (· ≤ ·)) (hS : (S, W.listOf vs.toArray c) ∈ R) (ht : ∀ q ∈ tab, q ∈ R) : TableOk w R x S := by
  obtain ⟨dx, lx, rs, ts, tk, ct, _, _, _, hr, rfl⟩ := hT
  obtain ⟨T0, t0, u0, rs, ts, rfl, rfl, _, hr⟩ := rowsOk_s hr
  obtain ⟨T1, t1, u1, rs, ts, rfl, rfl, _, hr⟩ := rowsOk_s hr
  obtain ⟨T2, t2, u2, rs, ts, rfl, rfl, _, hr⟩ := rowsOk_s hr
  obtain ⟨T3, t3, u3, rs, ts, rfl, rfl, _, hr⟩ := rowsOk_s hr
  obtain ⟨rfl, rfl⟩ := rowsOk_0 hr
  have hl : ns.length = 3 := hp.length_eq
  match ns, hl with
  | [a, b, d], _ =>
    obtain ⟨e2, e1, e0⟩ := sum3 hs hp
    rw [e2, e1, e0] at ht
    refine ⟨⟨_, [.ref T0, .ref T1, .ref T2, .ref T3], vs, [(Nm 3, Lw 0), (Nm 2, Lw ([a].sum)), (Nm 1, Lw ([a, b].sum)), (Nm 0, Lw ([a, b, d].sum))], [(Nm 0, Lw ([a, b, d].sum)), (Nm 1, Lw ([a, b].sum)), (Nm 2, Lw ([a].sum)), (Nm 3, Lw 0)], c, _, [a, b, d], dx, lx, tk, ?_, ?_, falls4, tell4, ?_, Nat.le_of_ble_eq_true rfl, Nat.le_of_ble_eq_true rfl, hi, Nat.le_of_ble_eq_true rfl, rfl, ?_, hS, ht, .head _, .tail _ (.head _)⟩⟩
    · have C := items_g w x dx lx tk ct [.ref T0, .ref T1, .ref T2, .ref T3] [(T0, tupO (.str (Nm 3) t0) (.str (Lw 0) u0)), (T1, tupO (.str (Nm 2) t1) (.str (Lw ([a].sum)) u1)), (T2, tupO (.str (Nm 1) t2) (.str (Lw ([a, b].sum)) u2)), (T3, tupO (.str (Nm 0) t3) (.str (Lw ([a, b, d].sum)) u3))] (Nat.le_of_ble_eq_true rfl)
      intro p loose mean mg mb envs base g s Q E hg hsm B X T hQ
      exact C p loose mean mg mb envs base g s Q E hg hsm B X T fun v sm L' m' h' tk' ⟨D, c', _, e1, e2⟩ F' N' => hQ v sm L' m' h' tk' ⟨D, c', e1, e2⟩ F' N'
    · exact nt_cons (.tail _ (.tail _ (.tail _ (.head _)))) (nt_cons (.tail _ (.tail _ (.tail _ (.tail _ (.head _))))) (nt_cons (.tail _ (.tail _ (.tail _ (.tail _ (.tail _ (.head _)))))) (nt_cons (.tail _ (.tail _ (.tail _ (.tail _ (.tail _ (.tail _ (.head _))))))) nt_nil)))
    · exact nt_cons (.tail _ (.tail _ (.tail _ (.tail _ (.tail _ (.tail _ (.head _))))))) (nt_cons (.tail _ (.tail _ (.tail _ (.tail _ (.tail _ (.head _)))))) (nt_cons (.tail _ (.tail _ (.tail _ (.tail _ (.head _))))) (nt_cons (.tail _ (.tail _ (.tail _ (.head _)))) nt_nil)))
    · intro j
      obtain ⟨q1, q2⟩ := take_in (ns := [a, b, d]) (fun k hk => by
        have := hp.mem_iff.mp hk
        simp only [List.mem_cons, List.not_mem_nil, or_false] at this
        rcases this with rfl | rfl | rfl <;> omega) j
      have q3 : ((3 : Nat) : Int) = 3 := rfl
      simp only [List.length_cons, List.length_nil] at q2
      omega
theorem table_3 (w : World) (X : Lx) {x S : Addr} {r0 r1 : Int} {tab R : List (Addr × Obj)} {vs : List Value} {ns : List Int} {c : Nat} (h0 : 1 ≤ r0) (m0 : r0 < 31) (h1 : 1 ≤ r1) (m1 : r1 < 31)
    (hT : Tab3 w X x 0 (min (0 + r1) (0 + r0)) (0 + r0 + r1) tab) (hi : IntsAre vs ns) (hp : ns.Perm [r0, r1]) (hs : ns.Pairwise (· ≤ ·)) (hS : (S, W.listOf vs.toArray c) ∈ R) (ht : ∀ q ∈ tab, q ∈ R) : TableOk w R x S := by
  obtain ⟨dx, lx, rs, ts, tk, ct, _, _, _, hr, rfl⟩ := hT
  obtain ⟨T0, t0, u0, rs, ts, rfl, rfl, _, hr⟩ := rowsOk_s hr
  obtain ⟨T1, t1, u1, rs, ts, rfl, rfl, _, hr⟩ := rowsOk_s hr
  obtain ⟨T2, t2, u2, rs, ts, rfl, rfl, _, hr⟩ := rowsOk_s hr
  obtain ⟨rfl, rfl⟩ := rowsOk_0 hr
  have hl : ns.length = 2 := hp.length_eq
  match ns, hl with
  | [a, b], _ =>
    obtain ⟨e1, e0⟩ := sum2 hs hp
    rw [e1, e0] at ht
    refine ⟨⟨_, [.ref T0, .ref T1, .ref T2], vs, [(Nm 2, Lw 0), (Nm 1, Lw ([a].sum)), (Nm 0, Lw ([a, b].sum))], [(Nm 0, Lw ([a, b].sum)), (Nm 1, Lw ([a].sum)), (Nm 2, Lw 0)], c, _, [a, b], dx, lx, tk, ?_, ?_, falls3, tell3, ?_, Nat.le_of_ble_eq_true rfl, Nat.le_of_ble_eq_true rfl, hi, Nat.le_of_ble_eq_true rfl, rfl, ?_, hS, ht, .head _, .tail _ (.head _)⟩⟩
    · have C := items_g w x dx lx tk ct [.ref T0, .ref T1, .ref T2] [(T0, tupO (.str (Nm 2) t0) (.str (Lw 0) u0)), (T1, tupO (.str (Nm 1) t1) (.str (Lw ([a].sum)) u1)), (T2, tupO (.str (Nm 0) t2) (.str (Lw ([a, b].sum)) u2))] (Nat.le_of_ble_eq_true rfl)
      intro p loose mean mg mb envs base g s Q E hg hsm B X T hQ
      exact C p loose mean mg mb envs base g s Q E hg hsm B X T fun v sm L' m' h' tk' ⟨D, c', _, e1, e2⟩ F' N' => hQ v sm L' m' h' tk' ⟨D, c', e1, e2⟩ F' N'
    · exact nt_cons (.tail _ (.tail _ (.tail _ (.head _)))) (nt_cons (.tail _ (.tail _ (.tail _ (.tail _ (.head _))))) (nt_cons (.tail _ (.tail _ (.tail _ (.tail _ (.tail _ (.head _)))))) nt_nil))
    · exact nt_cons (.tail _ (.tail _ (.tail _ (.tail _ (.tail _ (.head _)))))) (nt_cons (.tail _ (.tail _ (.tail _ (.tail _ (.head _))))) (nt_cons (.tail _ (.tail _ (.tail _ (.head _)))) nt_nil))
    · intro j
      obtain ⟨q1, q2⟩ := take_in (ns := [a, b]) (fun k hk => by
        have := hp.mem_iff.mp hk
        simp only [List.mem_cons, List.not_mem_nil, or_false] at this
        rcases this with rfl | rfl <;> omega) j
      simp only [List.length_cons, List.length_nil] at q2
      omega

open PySem PySem.W PyProof.Rows PySem.Calls
noncomputable def PairK (P : List (Int × Int)) (news : List (Addr × Obj)) (k : Nat) (ys : List Value) (nw : List (Addr × Obj)) : Prop := (∀ p ∈ news, p ∈ nw) ∧ PairsIn nw ys (P.take k) ∧ ys.length = k
theorem PairK.start (P : List (Int × Int)) (news : List (Addr × Obj)) : PairK P news 0 [] news := ⟨fun _ h => h, ⟨rfl, fun i v h => by simp at h⟩, rfl⟩
theorem PairK.rebase {P : List (Int × Int)} {news nw nw' : List (Addr × Obj)} {k : Nat} {ys : List Value} (h : PairK P news k ys nw) (hm : ∀ p ∈ nw, p ∈ nw') : PairK P nw' k ys nw' := ⟨fun _ h => h, h.2.1.mono hm, h.2.2⟩
theorem PairK.weaken {P : List (Int × Int)} {news nw nw' : List (Addr × Obj)} {k : Nat} {ys : List Value} (h : PairK P nw' k ys nw) (hm : ∀ p ∈ news, p ∈ nw') : PairK P news k ys nw := ⟨fun p hp => h.1 p (hm p hp), h.2.1, h.2.2⟩
theorem PairK.short {P : List (Int × Int)} {news nw : List (Addr × Obj)} {k : Nat} {ys : List Value} (h : PairK P news k ys nw) (hP : P.length ≤ sizeLine) : ys.length ≤ sizeLine := by
  rw [h.2.1.1]; exact Nat.le_trans (List.length_take_le' ..) hP
theorem eend_pair {h₀ : Heap} {L : Addr} {m : Str → Option Value} {s : Shared} {wr : List Addr} {C D T : Addr} {pre nw news : List (Addr × Obj)} {x y : Int} {ta tb : Tok} {h' : Heap} {tk' k : Nat} {P : List (Int × Int)} {ys : List Value} (F : Fr h₀ L h' m) (N : News h₀ L h' ((T, tupO (.int x ta) (.int y tb)) :: (pre ++ nw))) (lT : ∀ p ∈ pre ++ nw, p.1 < T)
    (hpre : ∀ b ∈ C :: D :: wr, b ∈ pre.map (·.1)) (ap : ApartC wr C D nw) (hj : PairK P news k ys nw) (hx : P[k]? = some (x, y)) : EEnd h₀ L m wr C D pre s (fun ys nw => PairK P news (k + 1) ys nw) ys (.ref T) { s with heap := h', toks := tk' } := by
  refine ⟨h', tk', (T, tupO (.int x ta) (.int y tb)) :: nw, rfl, F, fun p hp => N p ?_, apart_new hpre lT ap, fun p hp => .tail _ (hj.1 p hp), ?_, by simp [hj.2.2]⟩
  · simp only [List.mem_append, List.mem_cons] at hp ⊢
    rcases hp with h | h | h
    · exact .inr (.inl h)
    · exact .inl h
    · exact .inr (.inr h)
  · rw [List.take_add_one, hx]
    exact (hj.2.1.mono fun p hp => .tail _ hp).snoc ⟨ta, tb, .head _⟩
noncomputable def pairs6 (r0 r1 r2 r3 r4 : Int) : List (Int × Int) := [(r0, r3), (r0, r4), (r1, r3), (r1, r4), (r2, r3), (r2, r4)]
theorem pairs6_at {r0 r1 r2 r3 r4 x y : Int} {i j : Nat} (hx : [r0, r1, r2][i]? = some x) (hy : [r3, r4][j]? = some y) : (pairs6 r0 r1 r2 r3 r4)[2 * i + j]? = some (x, y) := by
  match i, j, hx, hy with
  | 0, 0, hx, hy => cases hx; cases hy; rfl
  | 0, 1, hx, hy => cases hx; cases hy; rfl
  | 1, 0, hx, hy => cases hx; cases hy; rfl
  | 1, 1, hx, hy => cases hx; cases hy; rfl
  | 2, 0, hx, hy => cases hx; cases hy; rfl
  | 2, 1, hx, hy => cases hx; cases hy; rfl
  | i + 3, _, hx, _ => simp at hx
  | 0, j + 2, _, hy => simp at hy
  | 1, j + 2, _, hy => simp at hy
  | 2, j + 2, _, hy => simp at hy
theorem ints_at2 {a b : Int} {ta tb : Tok} {i : Nat} {v : Value} (hv : [Value.int a ta, Value.int b tb][i]? = some v) : ∃ x t, v = .int x t ∧ [a, b][i]? = some x := ints_at (.cons _ _ (.cons _ _ .nil)) hv
theorem apart_two {I C D D' : Addr} {o : Obj} {p q : Addr × Obj} {nw : List (Addr × Obj)} {r : Prop} (l : @LT.lt Nat _ I D' ∧ @LT.lt Nat _ C D' ∧ @LT.lt Nat _ D D' ∧ r) (ap : ApartC [I] C D nw) (hp : p ∈ nw) (hq : q ∈ nw) : ApartC [I] C D ((D', o) :: p :: q :: nw) := fun z hz => by
  rcases List.mem_cons.mp hz with rfl | hz
  · exact ⟨fun hm => Nat.ne_of_gt l.1 (List.mem_singleton.mp hm), Nat.ne_of_gt l.2.1, Nat.ne_of_gt l.2.2.1⟩
  rcases List.mem_cons.mp hz with rfl | hz
  · exact ap _ hp
  rcases List.mem_cons.mp hz with rfl | hz
  · exact ap _ hq
  · exact ap _ hz
theorem news_rot {g h : Heap} {L : Addr} {a b c d : Addr × Obj} {l : List (Addr × Obj)} (N : News g L h (a :: b :: c :: d :: l)) : News g L h ([b, c, d] ++ a :: l) := fun z hz => N z (by
  simp only [List.cons_append, List.nil_append, List.mem_cons] at hz ⊢
  rcases hz with h | h | h | h | h
  · exact .inr (.inl h)
  · exact .inr (.inr (.inl h))
  · exact .inr (.inr (.inr (.inl h)))
  · exact .inl h
  · exact .inr (.inr (.inr (.inr h))))
noncomputable def PEnd (h₀ : Heap) (L : Addr) (m : Str → Option Value) (led : List (Addr × Obj)) (s₀ : Shared) (x : Int) (v : Value) (s₂ : Shared) : Prop := ∃ h' tk' t, v = .int x t ∧ s₂ = { s₀ with heap := h', toks := tk' } ∧ Fr h₀ L h' m ∧ News h₀ L h' led
noncomputable def TEnd (h₀ : Heap) (L : Addr) (m : Str → Option Value) (led : List (Addr × Obj)) (s₀ : Shared) (b : Bool) (ok : Bool) (s₂ : Shared) : Prop := ok = b ∧ ∃ h' tk', s₂ = { s₀ with heap := h', toks := tk' } ∧ Fr h₀ L h' m ∧ News h₀ L h' led
section
variable {prog : Program} {w : World} {A : Around} {E : Value → Shared → Prop} {R : Result → Shared → Prop} {s s₁ : Shared} {env : Env} {h₀ : Heap} {L C D : Addr} {m : Str → Option Value}
noncomputable def tailT (ct elt : Expr) (acc : Value) (env : Env) (c : Code) : Sem Fin := (forIn [ct] true fun c r => if r = true then (do let ok ← isTrue c env (eval c env); pure (ForInStep.yield ok)) else pure (ForInStep.yield r)) >>= fun ok =>
  if ok = true then ((eval elt env >>= fun x => call (.builtin "list.append") [acc, x] >>= fun _ => pure ()) >>= fun _ => again c) else again c
theorem turn1t (elt t i ct : Expr) (scope : Scope) (pos : Pos) (it acc : Value) (env : Env) : compTurn (.ListComp elt [⟨t, i, [ct], 0⟩] scope pos) 0 it acc env =
    turnOf i.pos t it env (tailT ct elt acc env (.compLoop (.ListComp elt [⟨t, i, [ct], 0⟩] scope pos) 0 it acc env)) := by
  rw [compTurn_list]
  unfold turnOf tailT
  congr 1
theorem tailT_led {ct elt : Expr} {c : Code} {own : List (Addr × Obj)} {wr : List Addr} {ys : List Value} {J : List Value → (Str → Option Value) → List (Addr × Obj) → Prop} (hD : D ∉ wr) (hCD : C ≠ D) (hown : own.map (·.1) = wr) (hsz : ys.length ≤ sizeLine)
    (h : wpAny (model prog w) A (isTrue ct env (eval ct env)) (fun ok s₂ => if ok = true then
        wpAny (model prog w) A (eval elt env) (fun y s₂ => ∃ h' tk' oC' m₂' nw', s₂ = { s₁ with heap := h', toks := tk' } ∧ Fr h₀ L h' m ∧ News h₀ L h' (own ++ (C, oC') :: (D, LCg.lst ys) :: nw') ∧ LCg.NsObj oC' m₂' ∧ ApartC wr C D nw' ∧ J (ys ++ [y]) m₂' nw') E s₂
      else CEnd h₀ L m wr C D own s₁ J s₂) E s) :
    wpAny (model prog w) A (tailT ct elt (.ref D) env c) (fun f s₃ => f = .again c ∧ CEnd h₀ L m wr C D own s₁ J s₃) E s := by
  unfold tailT
  refine wpAny_bind (wpAny_tests_one (wpAny_mono h (fun ok s₂ h₂ => ?_) fun _ _ e => e))
  cases ok with
  | false => exact wpAny_pure ⟨rfl, h₂⟩
  | true =>
    rw [if_pos rfl] at h₂ ⊢
    exact tail_led hD hCD hown hsz h₂
theorem pairs_in {elt : Expr} {x y : Str} {px py tp pos : Pos} {kk : Nat} {i1 : Expr} {scope : Scope} {cl : List (Str × Addr)} {Q : Value → Shared → Prop} {news : List (Addr × Obj)} {l : Addr} {lo : Obj} {vs : List Value} {c : Nat} {P : List (Int × Int)}
    (hh : A.handled = none) (hx : scope.names.lookup x = some .local) (hy : scope.names.lookup y = some .local) (hxy : x ≠ y) (hk : scope.kind = .function) (F : Fr h₀ L s.heap m) (N : News h₀ L s.heap news) (hl : (l, lo) ∈ news) (hc : lo.cls = .type "list") (hd : lo.data = .seq vs.toArray c) (hP : PairsIn news vs P) (hz : vs.length ≤ sizeLine) (f : Int → Int → Int)
    (step : ∀ (Ex : Value → Shared → Prop) (i : Nat) (a b : Int) I oI C D oC m₂ ys h tk ta tb, P[i]? = some (a, b) → LCg.NsObj oC m₂ → m₂ x = some (.int a ta) → m₂ y = some (.int b tb) → Fr h₀ L h m → News h₀ L h ([(I, oI), (C, oC), (D, LCg.lst ys)] ++ news) →
      wpAny (model prog w) A (eval elt (compEnvC scope cl C env)) (PEnd h₀ L m ([(I, oI), (C, oC), (D, LCg.lst ys)] ++ news) s (f a b)) Ex { s with heap := h, toks := tk })
    (fin : ∀ D ys h tk, IntsAre ys (P.map fun p => f p.1 p.2) → Fr h₀ L h m → News h₀ L h ((D, LCg.lst ys) :: news) → Q (.ref D) { s with heap := h, toks := tk }) :
    wpAny (model prog w) A (pyIter (.ref l)) (CIn prog w A h₀ L m (.ListComp elt [⟨.Tuple [.Name x px, .Name y py] kk tp, i1, [], 0⟩] scope pos) scope cl env Q) E s := by
  have hax := N _ hl
  have hL : s.heap.IsList l vs.toArray := ⟨lo, hax.1, hc, c, hd⟩
  have hlt : @LT.lt Nat _ l s.heap.objs.size := Heap.lt_size hax.1
  refine wpAny_pyIter_list hL ?_
  have up : ∀ b o, s.heap.get? b = some o → (s.heap.push { cls := .type "list_iterator", data := .fields #[.ref l, .int 0 0] }).get? b = some o := fun b o e => Heap.get?_push_of_some _ e
  have st0 : (s.heap.push { cls := .type "list_iterator", data := .fields #[.ref l, .int 0 0] }).IsListIter s.heap.objs.size l 0 := ⟨_, Heap.get?_push_size _ rfl, rfl, rfl⟩
  refine ⟨news, F.keeps up, N.grown up, fun D C h oC lD hDs hDC F' N' hC hk2 => ?_⟩
  have f1 := fresh0 F (a := s.heap.objs.size) (Nat.le_refl _)
  have g1 : @LT.lt Nat _ s.heap.objs.size D := by
    have q : @LE.le Nat _ (s.heap.push { cls := .type "list_iterator", data := .fields #[.ref l, .int 0 0] }).objs.size D := hDs
    rw [Heap.size_push] at q; exact q
  have W := KTurns.ofWalks (target := .Tuple [.Name x px, .Name y py] kk tp) (Walks.list (prog := prog) (w := w) hh s.heap.objs.size l (Nat.ne_of_lt hlt) vs.toArray) fun i v s Q E st q => letGo_listiter st.1 q
  have hn : vs.toArray.size = vs.length := by simp
  rw [hn] at W
  have loop : codeAny (model prog w) A (.compLoop (.ListComp elt [⟨.Tuple [.Name x px, .Name y py] kk tp, i1, [], 0⟩] scope pos) 0 (.ref s.heap.objs.size) (.ref D) (compEnvC scope cl C env)) (COut h₀ L m C D { s with heap := s.heap.push { cls := .type "list_iterator", data := .fields #[.ref l, .int 0 0] } } Q) { s with heap := h, toks := s.toks } := by
    refine comp_led (src := [(l, lo)]) (s₁ := s) (turn1 ..) W ?_ ?_ ?_ (fun i ys _ nw => nw = news ∧ IntsAre ys ((P.take i).map fun p => f p.1 p.2) ∧ ys.length = i) ?_ ?_ ?_ ?_ ⟨rfl, .nil, rfl⟩ hC F' N' ?_
    · intro b hb
      have hb' : b = s.heap.objs.size ∨ b = l := by simpa using hb
      rcases hb' with rfl | rfl
      · exact .inl (.head _)
      · exact .inr (.inl (by simp))
    · rintro i h ⟨⟨oi, hoi, _⟩, _⟩ b hb
      rw [List.mem_singleton.mp hb]; exact ⟨_, hoi⟩
    · intro b hb
      rw [List.mem_singleton.mp hb]
      exact ⟨f1.1, f1.2, Nat.ne_of_lt (Nat.lt_trans g1 hDC), Nat.ne_of_lt g1⟩
    · rintro i ys _ nw ⟨rfl, _, _⟩ p hp
      rw [List.mem_singleton.mp hp]; exact hl
    · rintro Ex i v own oC m₂ ys nw h tk hi hv ⟨rfl, hi2, hl2⟩ hown hC2 F2 N2 ap
      obtain ⟨oI, rfl⟩ := own_one hown
      obtain ⟨T, a, b, rfl, hab, ta, tb, hT⟩ := hP.2 i v (by simpa using hv)
      have hTT : IsTup h T #[.int a ta, .int b tb] := ⟨_, (N2 _ (List.mem_append_right _ (.tail _ (.tail _ hT)))).1, rfl, 0, rfl⟩
      refine asg_pair hh hx hy hk hTT F2 N2 hC2 (fun p hp => ?_) (fun p hp => ?_) fun h3 oC3 tk3 F3 N3 hC3 => ?_
      · rw [List.mem_singleton.mp hp]; exact Nat.ne_of_lt (Nat.lt_trans g1 hDC)
      · rcases List.mem_cons.mp hp with rfl | hp
        · exact Nat.ne_of_lt hDC
        · exact (ap p hp).2.1
      refine tail_led (wr := [s.heap.objs.size]) (own := [(s.heap.objs.size, oI)]) (J := fun ys _ nw2 => nw2 = nw ∧ IntsAre ys ((P.take (i + 1)).map fun p => f p.1 p.2) ∧ ys.length = i + 1) (ys := ys) (D := D) (C := C) (fun hm => Nat.ne_of_gt g1 (List.mem_singleton.mp hm)) (Nat.ne_of_gt hDC) rfl (by rw [hl2]; exact Nat.le_trans (Nat.le_of_lt hi) hz) ?_
      refine wpAny_mono (step _ i a b s.heap.objs.size oI C D oC3 _ ys h3 tk3 ta tb hab hC3 (by simp [hxy]) (by simp) F3 N3) (fun yv s₂ h₂ => ?_) fun _ _ e => e
      obtain ⟨h4, tk4, t4, rfl, rfl, F4, N4⟩ := h₂
      refine ⟨h4, tk4, oC3, _, nw, rfl, F4, N4, hC3, ap, rfl, ?_, by simp [hl2]⟩
      rw [List.take_add_one, hab, List.map_append]
      exact hi2.append (.cons _ _ .nil)
    · rintro oC m₂ ys nw h tk ⟨rfl, hi2, hl2⟩ hC2 F2 N2 ap
      refine ⟨rfl, h, tk, oC, m₂, ys, nw, rfl, F2, N2, hC2, Nat.ne_of_gt hDC, fun p hp => (ap p hp).2.1, fun h'' F'' N'' => fin D ys h'' tk ?_ F'' N''⟩
      rwa [hP.1, List.take_length] at hi2
    · exact ⟨st0.at fun o e => hk2 _ o e, hL.at fun o e => hk2 _ o (up _ o e)⟩
    · exact apart0 (fun p hp b hb => by
        rw [List.mem_singleton.mp hb]; exact Heap.lt_size (N p hp).1) (fun p hp => lD p hp) hDC
  exact codeAny_compStart_list loop (wpAny_pyIter_listiter (st0.at fun o e => hk2 _ o e) loop)
theorem pairs_test {elt ct : Expr} {x y : Str} {px py tp pos : Pos} {kk : Nat} {i1 : Expr} {scope : Scope} {cl : List (Str × Addr)} {Q : Value → Shared → Prop} {news : List (Addr × Obj)} {l : Addr} {lo : Obj} {vs : List Value} {c : Nat} {P : List (Int × Int)}
    (hh : A.handled = none) (hx : scope.names.lookup x = some .local) (hy : scope.names.lookup y = some .local) (hxy : x ≠ y) (hk : scope.kind = .function) (F : Fr h₀ L s.heap m) (N : News h₀ L s.heap news) (hl : (l, lo) ∈ news) (hc : lo.cls = .type "list") (hd : lo.data = .seq vs.toArray c) (hP : PairsIn news vs P) (hz : vs.length ≤ sizeLine) (f : Int → Int → Int) (g : Int → Int → Bool)
    (test : ∀ (Ex : Value → Shared → Prop) (i : Nat) (a b : Int) I oI C D oC m₂ ys h tk ta tb, P[i]? = some (a, b) → LCg.NsObj oC m₂ → m₂ x = some (.int a ta) → m₂ y = some (.int b tb) → Fr h₀ L h m → News h₀ L h ([(I, oI), (C, oC), (D, LCg.lst ys)] ++ news) →
      wpAny (model prog w) A (isTrue ct (compEnvC scope cl C env) (eval ct (compEnvC scope cl C env))) (TEnd h₀ L m ([(I, oI), (C, oC), (D, LCg.lst ys)] ++ news) s (g a b)) Ex { s with heap := h, toks := tk })
    (step : ∀ (Ex : Value → Shared → Prop) (i : Nat) (a b : Int) I oI C D oC m₂ ys h tk ta tb, P[i]? = some (a, b) → LCg.NsObj oC m₂ → m₂ x = some (.int a ta) → m₂ y = some (.int b tb) → Fr h₀ L h m → News h₀ L h ([(I, oI), (C, oC), (D, LCg.lst ys)] ++ news) →
      wpAny (model prog w) A (eval elt (compEnvC scope cl C env)) (PEnd h₀ L m ([(I, oI), (C, oC), (D, LCg.lst ys)] ++ news) s (f a b)) Ex { s with heap := h, toks := tk })
    (fin : ∀ D ys h tk, IntsAre ys ((P.filter fun p => g p.1 p.2).map fun p => f p.1 p.2) → Fr h₀ L h m → News h₀ L h ((D, LCg.lst ys) :: news) → Q (.ref D) { s with heap := h, toks := tk }) :
    wpAny (model prog w) A (pyIter (.ref l)) (CIn prog w A h₀ L m (.ListComp elt [⟨.Tuple [.Name x px, .Name y py] kk tp, i1, [ct], 0⟩] scope pos) scope cl env Q) E s := by
  have hax := N _ hl
  have hL : s.heap.IsList l vs.toArray := ⟨lo, hax.1, hc, c, hd⟩
  have hlt : @LT.lt Nat _ l s.heap.objs.size := Heap.lt_size hax.1
  refine wpAny_pyIter_list hL ?_
  have up : ∀ b o, s.heap.get? b = some o → (s.heap.push { cls := .type "list_iterator", data := .fields #[.ref l, .int 0 0] }).get? b = some o := fun b o e => Heap.get?_push_of_some _ e
  have st0 : (s.heap.push { cls := .type "list_iterator", data := .fields #[.ref l, .int 0 0] }).IsListIter s.heap.objs.size l 0 := ⟨_, Heap.get?_push_size _ rfl, rfl, rfl⟩
  refine ⟨news, F.keeps up, N.grown up, fun D C h oC lD hDs hDC F' N' hC hk2 => ?_⟩
  have f1 := fresh0 F (a := s.heap.objs.size) (Nat.le_refl _)
  have g1 : @LT.lt Nat _ s.heap.objs.size D := by
    have q : @LE.le Nat _ (s.heap.push { cls := .type "list_iterator", data := .fields #[.ref l, .int 0 0] }).objs.size D := hDs
    rw [Heap.size_push] at q; exact q
  have W := KTurns.ofWalks (target := .Tuple [.Name x px, .Name y py] kk tp) (Walks.list (prog := prog) (w := w) hh s.heap.objs.size l (Nat.ne_of_lt hlt) vs.toArray) fun i v s Q E st q => letGo_listiter st.1 q
  have hn : vs.toArray.size = vs.length := by simp
  rw [hn] at W
  have loop : codeAny (model prog w) A (.compLoop (.ListComp elt [⟨.Tuple [.Name x px, .Name y py] kk tp, i1, [ct], 0⟩] scope pos) 0 (.ref s.heap.objs.size) (.ref D) (compEnvC scope cl C env)) (COut h₀ L m C D { s with heap := s.heap.push { cls := .type "list_iterator", data := .fields #[.ref l, .int 0 0] } } Q) { s with heap := h, toks := s.toks } := by
    refine comp_led (src := [(l, lo)]) (s₁ := s) (turn1t ..) W ?_ ?_ ?_ (fun i ys _ nw => nw = news ∧ IntsAre ys (((P.take i).filter fun p => g p.1 p.2).map fun p => f p.1 p.2) ∧ ys.length ≤ i) ?_ ?_ ?_ ?_ ⟨rfl, .nil, Nat.le_refl _⟩ hC F' N' ?_
    · intro b hb
      have hb' : b = s.heap.objs.size ∨ b = l := by simpa using hb
      rcases hb' with rfl | rfl
      · exact .inl (.head _)
      · exact .inr (.inl (by simp))
    · rintro i h ⟨⟨oi, hoi, _⟩, _⟩ b hb
      rw [List.mem_singleton.mp hb]; exact ⟨_, hoi⟩
    · intro b hb
      rw [List.mem_singleton.mp hb]
      exact ⟨f1.1, f1.2, Nat.ne_of_lt (Nat.lt_trans g1 hDC), Nat.ne_of_lt g1⟩
    · rintro i ys _ nw ⟨rfl, _, _⟩ p hp
      rw [List.mem_singleton.mp hp]; exact hl
    · rintro Ex i v own oC m₂ ys nw h tk hi hv ⟨rfl, hi2, hl2⟩ hown hC2 F2 N2 ap
      obtain ⟨oI, rfl⟩ := own_one hown
      obtain ⟨T, a, b, rfl, hab, ta, tb, hT⟩ := hP.2 i v (by simpa using hv)
      have hTT : IsTup h T #[.int a ta, .int b tb] := ⟨_, (N2 _ (List.mem_append_right _ (.tail _ (.tail _ hT)))).1, rfl, 0, rfl⟩
      refine asg_pair hh hx hy hk hTT F2 N2 hC2 (fun p hp => ?_) (fun p hp => ?_) fun h3 oC3 tk3 F3 N3 hC3 => ?_
      · rw [List.mem_singleton.mp hp]; exact Nat.ne_of_lt (Nat.lt_trans g1 hDC)
      · rcases List.mem_cons.mp hp with rfl | hp
        · exact Nat.ne_of_lt hDC
        · exact (ap p hp).2.1
      have hfil : ((P.take (i + 1)).filter fun p => g p.1 p.2) = ((P.take i).filter fun p => g p.1 p.2) ++ (if g a b then [(a, b)] else []) := take_succ_filter (fun p => g p.1 p.2) P i (a, b) hab
      refine tailT_led (wr := [s.heap.objs.size]) (own := [(s.heap.objs.size, oI)]) (J := fun ys _ nw2 => nw2 = nw ∧ IntsAre ys (((P.take (i + 1)).filter fun p => g p.1 p.2).map fun p => f p.1 p.2) ∧ ys.length ≤ i + 1) (ys := ys) (D := D) (C := C) (fun hm => Nat.ne_of_gt g1 (List.mem_singleton.mp hm)) (Nat.ne_of_gt hDC) rfl (Nat.le_trans hl2 (Nat.le_trans (Nat.le_of_lt hi) hz)) ?_
      refine wpAny_mono (test _ i a b s.heap.objs.size oI C D oC3 _ ys h3 tk3 ta tb hab hC3 (by simp [hxy]) (by simp) F3 N3) (fun ok s₂ h₂ => ?_) fun _ _ e => e
      obtain ⟨rfl, h4, tk4, rfl, F4, N4⟩ := h₂
      cases hg : g a b with
      | true =>
        rw [if_pos rfl]
        refine wpAny_mono (step _ i a b s.heap.objs.size oI C D oC3 _ ys h4 tk4 ta tb hab hC3 (by simp [hxy]) (by simp) F4 N4) (fun yv s₂ h₂ => ?_) fun _ _ e => e
        obtain ⟨h5, tk5, t5, rfl, rfl, F5, N5⟩ := h₂
        refine ⟨h5, tk5, oC3, _, nw, rfl, F5, N5, hC3, ap, rfl, ?_, by simp; exact hl2⟩
        rw [hfil, hg, if_pos rfl, List.map_append]
        exact hi2.append (.cons _ _ .nil)
      | false =>
        rw [if_neg (by simp)]
        refine ⟨h4, tk4, oC3, _, ys, nw, rfl, F4, N4, hC3, ap, rfl, ?_, Nat.le_succ_of_le hl2⟩
        rw [hfil, hg, if_neg (by simp), List.append_nil]
        exact hi2
    · rintro oC m₂ ys nw h tk ⟨rfl, hi2, hl2⟩ hC2 F2 N2 ap
      refine ⟨rfl, h, tk, oC, m₂, ys, nw, rfl, F2, N2, hC2, Nat.ne_of_gt hDC, fun p hp => (ap p hp).2.1, fun h'' F'' N'' => fin D ys h'' tk ?_ F'' N''⟩
      rwa [hP.1, List.take_length] at hi2
    · exact ⟨st0.at fun o e => hk2 _ o e, hL.at fun o e => hk2 _ o (up _ o e)⟩
    · exact apart0 (fun p hp b hb => by
        rw [List.mem_singleton.mp hb]; exact Heap.lt_size (N p hp).1) (fun p hp => lD p hp) hDC
  exact codeAny_compStart_list loop (wpAny_pyIter_listiter (st0.at fun o e => hk2 _ o e) loop)
end

open PySem PySem.W PyProof.Rows
noncomputable def best : List Int → Option (Int × Int)
  | [] => none
  | s :: r => match best r with
    | none => some (s, 1)
    | some (m, c) => if s < m then some (s, 1) else if s = m then some (m, c + 1) else some (m, c)
noncomputable def comb : Option (Int × Int) → Int × Int → Int × Int
  | none, u => u
  | some (s', c'), (s, c) => if s < s' then (s, c) else if s = s' then (s, c' + c) else (s', c')
theorem best_none {l : List Int} (h : best l = none) : l = [] := by
  cases l with
  | nil => rfl
  | cons s r =>
    unfold best at h
    split at h
    · cases h
    · split at h
      · cases h
      · split at h <;> cases h
theorem best_append (l r : List Int) (u : Int × Int) (h : best r = some u) : best (l ++ r) = some (comb (best l) u) := by
  obtain ⟨s, c⟩ := u
  induction l with
  | nil => exact h
  | cons x l ih =>
    rw [List.cons_append]
    unfold best
    rw [ih]
    cases hb : best l with
    | none =>
      simp only [comb]
      by_cases h1 : x < s
      · simp only [h1, if_true]
        rw [if_neg (by omega), if_neg (by omega)]
      · by_cases h2 : x = s
        · simp only [h1, h2, if_true, if_false, Int.lt_irrefl]; rw [Int.add_comm]
        · simp only [h1, h2, if_false]; rw [if_pos (by omega)]
    | some v =>
      obtain ⟨s', c'⟩ := v
      simp only [comb]
      rcases Int.lt_trichotomy s s' with h1 | h1 | h1 <;> rcases Int.lt_trichotomy x s with h2 | h2 | h2 <;> rcases Int.lt_trichotomy x s' with h3 | h3 | h3 <;> (first | (exfalso; omega; done) | skip)
      · simp [show s < s' by omega, show ¬ s = s' by omega, show x < s by omega, show ¬ x = s by omega, show x < s' by omega, show ¬ x = s' by omega, show ¬ s < x by omega, show ¬ s = x by omega]
      · subst h2; simp [show x < s' by omega]; omega
      · simp [show s < s' by omega, show ¬ s = s' by omega, show ¬ x < s by omega, show ¬ x = s by omega, show x < s' by omega, show ¬ x = s' by omega, show s < x by omega, show ¬ s = x by omega]
      · subst h3; simp [show s < x by omega, show ¬ x < s by omega, show ¬ x = s by omega]
      · simp [show s < s' by omega, show ¬ s = s' by omega, show ¬ x < s by omega, show ¬ x = s by omega, show ¬ x < s' by omega, show ¬ x = s' by omega, show s < x by omega, show ¬ s = x by omega]
      · subst h1; simp [show x < s by omega, show ¬ s < x by omega, show ¬ s = x by omega]
      · subst h1; subst h2; simp; omega
      · subst h1; simp [show ¬ x < s by omega, show ¬ x = s by omega]
      · simp [show ¬ s < s' by omega, show ¬ s = s' by omega, show x < s by omega, show ¬ x = s by omega, show x < s' by omega, show ¬ x = s' by omega, show ¬ s < x by omega, show ¬ s = x by omega]
      · subst h3; simp [show ¬ s < x by omega, show ¬ s = x by omega]
      · simp [show ¬ s < s' by omega, show ¬ s = s' by omega, show x < s by omega, show ¬ x = s by omega, show ¬ x < s' by omega, show ¬ x = s' by omega, show ¬ s < x by omega, show ¬ s = x by omega]
      · subst h2; simp [show ¬ x < s' by omega, show ¬ x = s' by omega]
      · simp [show ¬ s < s' by omega, show ¬ s = s' by omega, show ¬ x < s by omega, show ¬ x = s by omega, show ¬ x < s' by omega, show ¬ x = s' by omega, show s < x by omega, show ¬ s = x by omega]
theorem best_shift (x : Int) (l : List Int) : best (l.map (· + x)) = (best l).map fun u => (u.1 + x, u.2) := by
  induction l with
  | nil => rfl
  | cons s r ih =>
    rw [List.map_cons]
    unfold best
    rw [ih]
    cases best r with
    | none => rfl
    | some v =>
      obtain ⟨m, c⟩ := v
      simp only [Option.map_some]
      by_cases h1 : s < m
      · rw [if_pos h1, if_pos (by omega)]; rfl
      · by_cases h2 : s = m
        · rw [if_neg h1, if_pos h2, if_neg (by omega), if_pos (by omega)]; rfl
        · rw [if_neg h1, if_neg h2, if_neg (by omega), if_neg (by omega)]; rfl
noncomputable abbrev Table := List (Int × List Int)
noncomputable def addT : Table → Int → List Int → Table
  | [], q, l => [(q, l)]
  | (k, l') :: r, q, l => if k = q then (k, l' ++ l) :: r else (k, l') :: addT r q l
noncomputable def turnT (k : Int) (l : List Int) (T : Table) (col x : Int) : Table := if Builtin.bitAnd k col = 0 then addT T (k + col) (l.map (· + x)) else T
noncomputable def rowT (k : Int) (l : List Int) (row : List (Int × Int)) (T : Table) : Table := row.foldl (fun T p => turnT k l T p.1 p.2) T
noncomputable def wayT (row : List (Int × Int)) (ways T : Table) : Table := ways.foldl (fun T p => rowT p.1 p.2 row T) T
noncomputable def allT (rows : List (List (Int × Int))) (T : Table) : Table := rows.foldl (fun T row => wayT row T []) T
inductive Rel : Sums → Table → Prop
  | nil : Rel [] []
  | cons {k a b : Int} {l : List Int} {t : Sums} {T : Table} : best l = some (a, b) → Rel t T → Rel ((k, a, b) :: t) ((k, l) :: T)
theorem look_over_ne {t : Sums} {q : Int} {u : Int × Int} (h : look t q = none) : over t q u = t := by
  induction t with
  | nil => rfl
  | cons p r ih =>
    obtain ⟨k, v⟩ := p
    by_cases e : k = q
    · simp [look, e] at h
    · simp only [look, if_neg e] at h
      simp only [over, if_neg e, ih h]
noncomputable def Once (t : Sums) : Prop := (t.map (·.1)).Nodup
theorem look_none {t : Sums} {q : Int} : look t q = none ↔ q ∉ t.map (·.1) := by
  induction t with
  | nil => simp [look]
  | cons p r ih =>
    obtain ⟨k, v⟩ := p
    by_cases e : k = q
    · simp [look, e]
    · simp only [look, if_neg e, List.map_cons, List.mem_cons, not_or]
      constructor
      · intro h; exact ⟨fun e' => e e'.symm, ih.mp h⟩
      · intro h; exact ih.mpr h.2
theorem rel_tell {t : Sums} {T : Table} (h : Rel t T) (ho : Once t) {q s c : Int} {l : List Int} (hl : best l = some (s, c)) : Rel (tell t q s c) (addT T q l) := by
  induction h with
  | nil => exact .cons hl .nil
  | @cons k a b l' t T hb hr ih =>
    have ho' : Once t := (List.nodup_cons.mp ho).2
    have hk : k ∉ t.map (·.1) := (List.nodup_cons.mp ho).1
    by_cases e : k = q
    · subst e
      have hn : look t k = none := look_none.mpr hk
      have hl2 := best_append l' l (s, c) hl
      rw [hb] at hl2
      simp only [comb] at hl2
      have h1 : tell ((k, a, b) :: t) k s c = (if s < a then (k, s, c) :: t else if s = a then (k, s, b + c) :: t else (k, a, b) :: t) := by
        unfold tell put
        simp only [look, if_true, over, look_over_ne hn]
      rw [h1]
      simp only [addT, if_true]
      by_cases h2 : s < a
      · rw [if_pos h2] at hl2 ⊢; exact .cons hl2 hr
      · by_cases h3 : s = a
        · rw [if_neg h2, if_pos h3] at hl2 ⊢; exact .cons hl2 hr
        · rw [if_neg h2, if_neg h3] at hl2 ⊢; exact .cons hl2 hr
    · have h1 : tell ((k, a, b) :: t) q s c = (k, a, b) :: tell t q s c := by
        unfold tell put
        simp only [look, if_neg e, over]
        cases look t q with
        | none => rfl
        | some v => obtain ⟨s', c'⟩ := v; dsimp only; split; rfl; split <;> rfl
      rw [h1]
      simp only [addT, if_neg e]
      exact .cons hb (ih ho')
theorem over_keys (t : Sums) (q : Int) (u : Int × Int) : (over t q u).map (·.1) = t.map (·.1) := by
  induction t with
  | nil => rfl
  | cons p r ih => obtain ⟨k, v⟩ := p; by_cases e : k = q <;> simp [over, e, ih]
theorem once_put {t : Sums} (h : Once t) (q : Int) (u : Int × Int) : Once (put t q u) := by
  unfold put
  cases hl : look t q with
  | none =>
    have := look_none.mp hl
    unfold Once
    rw [List.map_append]
    exact List.nodup_append.mpr ⟨h, by simp, fun a ha b hb e => by simp at hb; subst hb; subst e; exact this ha⟩
  | some v => unfold Once; rw [over_keys]; exact h
theorem once_tell {t : Sums} (h : Once t) (q s c : Int) : Once (tell t q s c) := by
  unfold tell
  split
  · exact once_put h _ _
  · split
    · exact once_put h _ _
    · split
      · exact once_put h _ _
      · exact h
theorem rel_turn {t : Sums} {T : Table} (h : Rel t T) (ho : Once t) {k a b : Int} {l : List Int} (hl : best l = some (a, b)) (col x : Int) : Rel (turn k a b t col x) (turnT k l T col x) ∧ Once (turn k a b t col x) := by
  unfold turn turnT
  split
  · exact ⟨rel_tell h ho (by rw [best_shift, hl]; rfl), once_tell ho _ _ _⟩
  · exact ⟨h, ho⟩
theorem rel_row {k a b : Int} {l : List Int} (hl : best l = some (a, b)) : ∀ (row : List (Int × Int)) {t : Sums} {T : Table}, Rel t T → Once t → Rel (rowOn k a b row t) (rowT k l row T) ∧ Once (rowOn k a b row t)
  | [], _, _, h, ho => ⟨h, ho⟩
  | p :: r, _, _, h, ho => by
    obtain ⟨h1, h2⟩ := rel_turn h ho hl p.1 p.2
    exact rel_row hl r h1 h2
theorem rel_way (row : List (Int × Int)) {ways : Sums} {W : Table} (hw : Rel ways W) : ∀ {t : Sums} {T : Table}, Rel t T → Once t → Rel (wayOn row ways t) (wayT row W T) ∧ Once (wayOn row ways t) := by
  induction hw with
  | nil => intro t T h ho; exact ⟨h, ho⟩
  | cons hb _ ih =>
    intro t T h ho
    obtain ⟨h1, h2⟩ := rel_row hb row h ho
    exact ih h1 h2
theorem rel_all : ∀ (rows : List (List (Int × Int))) {t : Sums} {T : Table}, Rel t T → Once t → Rel (waysOf rows t) (allT rows T)
  | [], _, _, h, _ => h
  | row :: rows, _, _, h, _ => by
    obtain ⟨h1, h2⟩ := rel_way row h .nil (List.nodup_nil)
    exact rel_all rows h1 h2
noncomputable def lookT : Table → Int → List Int
  | [], _ => []
  | (k, l) :: r, q => if k = q then l else lookT r q
theorem rel_look {t : Sums} {T : Table} (h : Rel t T) (q : Int) : look t q = best (lookT T q) := by
  induction h with
  | nil => rfl
  | @cons k a b l t T hb _ ih =>
    by_cases e : k = q
    · simp [look, lookT, e, hb]
    · simp [look, lookT, e, ih]
theorem ways_are (rows : List (List (Int × Int))) : look (waysOf rows [(0, 0, 1)]) 31 = best (lookT (allT rows [(0, [0])]) 31) :=
  rel_look (rel_all rows (.cons rfl .nil) (by simp [Once])) 31

theorem best_spec : ∀ {l : List Int} {m c : Int}, best l = some (m, c) → m ∈ l ∧ (∀ s ∈ l, m ≤ s) ∧ c = (l.count m : Int)
  | [], _, _, h => nomatch h
  | s :: r, m, c, h => by
    unfold best at h
    cases hb : best r with
    | none =>
      rw [hb] at h
      simp only [Option.some.injEq, Prod.mk.injEq] at h
      obtain ⟨rfl, rfl⟩ := h
      rw [best_none hb]
      exact ⟨.head _, fun s hs => by simp at hs; omega, by simp⟩
    | some v =>
      obtain ⟨m', c'⟩ := v
      rw [hb] at h
      obtain ⟨h1, h2, h3⟩ := best_spec hb
      dsimp only at h
      split at h
      · rename_i hlt
        simp only [Option.some.injEq, Prod.mk.injEq] at h
        obtain ⟨rfl, rfl⟩ := h
        refine ⟨.head _, fun q hq => ?_, ?_⟩
        · rcases List.mem_cons.mp hq with rfl | hq
          · omega
          · have := h2 q hq; omega
        · have : s ∉ r := fun hm => by have := h2 s hm; omega
          rw [List.count_cons_self, List.count_eq_zero_of_not_mem this]; rfl
      · split at h
        · rename_i _ he
          simp only [Option.some.injEq, Prod.mk.injEq] at h
          obtain ⟨rfl, rfl⟩ := h
          subst he
          refine ⟨.head _, fun q hq => ?_, ?_⟩
          · rcases List.mem_cons.mp hq with rfl | hq
            · omega
            · exact h2 q hq
          · rw [List.count_cons_self, h3]; rfl
        · rename_i hn he
          simp only [Option.some.injEq, Prod.mk.injEq] at h
          obtain ⟨rfl, rfl⟩ := h
          refine ⟨.tail _ h1, fun q hq => ?_, ?_⟩
          · rcases List.mem_cons.mp hq with rfl | hq
            · omega
            · exact h2 q hq
          · rw [List.count_cons_of_ne he, h3]
theorem best_some {l : List Int} {S : Int} (h : S ∈ l) : ∃ v, best l = some v := by
  cases hb : best l with
  | none => rw [best_none hb] at h; cases h
  | some v => exact ⟨v, rfl⟩
theorem best_is {l : List Int} {S : Int} (h : S ∈ l) (hl : ∀ s ∈ l, S ≤ s) : best l = some (S, (l.count S : Int)) := by
  obtain ⟨⟨m, c⟩, e⟩ := best_some h
  obtain ⟨h1, h2, h3⟩ := best_spec e
  have : m = S := by have a := h2 S h; have b := hl m h1; omega
  subst this
  rw [e, h3]
theorem count_two {l : List Int} {S : Int} : ∀ {i j : Nat}, i < j → l[i]? = some S → l[j]? = some S → 2 ≤ l.count S := by
  induction l with
  | nil => intro i j _ h; simp at h
  | cons a r ih =>
    intro i j hij hi hj
    cases j with
    | zero => omega
    | succ j =>
      simp only [List.getElem?_cons_succ] at hj
      cases i with
      | zero =>
        simp at hi
        subst hi
        have := List.count_pos_iff.mpr (List.mem_of_getElem? hj)
        rw [List.count_cons_self]; omega
      | succ i =>
        simp only [List.getElem?_cons_succ] at hi
        have := ih (by omega) hi hj
        exact Nat.le_trans this (List.count_le_count_cons ..)
theorem sums_are (f0 f1 f2 f3 g0 g1 g2 : Int) : lookT (allT [[(1, f0), (2, f1), (4, f2), (8, f3)], [(2, f0), (4, f1), (8, f2), (16, f3)], [(1, g0), (2, g1), (4, g2)], [(2, g0), (4, g1), (8, g2)], [(4, g0), (8, g1), (16, g2)]] [(0, [0])]) 31 = [0 + f0 + f0 + g2 + g2 + g2, 0 + f0 + f1 + g1 + g2 + g2, 0 + f1 + f1 + g0 + g2 + g2, 0 + f2 + f0 + g0 + g2 + g2, 0 + f0 + f2 + g1 + g1 + g2, 0 + f1 + f2 + g0 + g1 + g2, 0 + f3 + f0 + g0 + g1 + g2, 0 + f0 + f2 + g2 + g0 + g2, 0 + f2 + f2 + g0 + g0 + g2, 0 + f3 + f1 + g0 + g0 + g2, 0 + f0 + f3 + g1 + g1 + g1, 0 + f1 + f3 + g0 + g1 + g1, 0 + f0 + f3 + g2 + g0 + g1, 0 + f2 + f3 + g0 + g0 + g1, 0 + f0 + f3 + g1 + g2 + g0, 0 + f1 + f3 + g0 + g2 + g0, 0 + f3 + f3 + g0 + g0 + g0] := by kernel_rfl
inductive Fm where
  | z | v (i : Nat) | add (x y : Fm)
noncomputable def den (v : Nat → Int) : Fm → Int
  | .z => 0
  | .v i => v i
  | .add x y => den v x + den v y
noncomputable def coef : Fm → Nat → Int
  | .z, _ => 0
  | .v i, j => if i = j then 1 else 0
  | .add x y, j => coef x j + coef y j
noncomputable def Fm.ok : Fm → Bool
  | .z => true
  | .v i => decide (i < 5)
  | .add x y => x.ok && y.ok
noncomputable def wsum (v w : Nat → Int) : List Nat → Int
  | [] => 0
  | j :: r => w j * v j + wsum v w r
theorem wsum_add (v w w' : Nat → Int) : ∀ l : List Nat, wsum v (fun j => w j + w' j) l = wsum v w l + wsum v w' l
  | [] => rfl
  | j :: r => by
    simp only [wsum, wsum_add v w w' r, Int.add_mul]; omega
theorem wsum_sub (v w w' : Nat → Int) : ∀ l : List Nat, wsum v (fun j => w j - w' j) l = wsum v w l - wsum v w' l
  | [] => rfl
  | j :: r => by
    simp only [wsum, wsum_sub v w w' r, Int.sub_mul]; omega
theorem wsum_zero (v : Nat → Int) : ∀ l : List Nat, wsum v (fun _ => 0) l = 0
  | [] => rfl
  | j :: r => by simp only [wsum, wsum_zero v r, Int.zero_mul, Int.add_zero]
theorem wsum_one (v : Nat → Int) (i : Nat) : ∀ l : List Nat, wsum v (fun j => if i = j then 1 else 0) l = (l.count i : Int) * v i
  | [] => by simp [wsum]
  | j :: r => by
    simp only [wsum, wsum_one v i r]
    by_cases h : i = j
    · subst h; simp [Int.add_mul]; omega
    · rw [if_neg h, List.count_cons_of_ne (fun e => h e.symm), Int.zero_mul, Int.zero_add]
noncomputable def whole (l : List Nat) : Bool := (List.range 5).all fun i => l.count i == 1
theorem den_is (v : Nat → Int) {l : List Nat} (hl : whole l = true) : ∀ {e : Fm}, e.ok = true → den v e = wsum v (coef e) l
  | .z, _ => (wsum_zero v l).symm
  | .v i, h => by
    have hi : i < 5 := of_decide_eq_true h
    have := List.all_eq_true.mp hl i (List.mem_range.mpr hi)
    have hc : l.count i = 1 := by simpa using this
    show v i = wsum v (fun j => if i = j then 1 else 0) l
    rw [wsum_one, hc]; simp
  | .add x y, h => by
    have h' := Bool.and_eq_true_iff.mp h
    show den v x + den v y = wsum v (fun j => coef x j + coef y j) l
    rw [wsum_add, den_is v hl h'.1, den_is v hl h'.2]
noncomputable def Asc (v : Nat → Int) : Nat → List Nat → Prop
  | _, [] => True
  | p, j :: r => v p ≤ v j ∧ Asc v j r
noncomputable def pre (w : Nat → Int) : Int → List Nat → Bool
  | W, [] => decide (W = 0)
  | W, j :: r => decide (W ≤ 0) && pre w (W + w j) r
noncomputable def negAt (w : Nat → Int) : Int → List Nat → Nat → Bool
  | W, _ :: _, 0 => decide (W < 0)
  | W, j :: r, c + 1 => negAt w (W + w j) r c
  | _, [], _ => false
noncomputable def allZ (w : Nat → Int) : Int → List Nat → Bool
  | W, [] => decide (W = 0)
  | W, j :: r => decide (W = 0) && allZ w (W + w j) r
noncomputable def onlyAt (w : Nat → Int) : Int → List Nat → Nat → Bool
  | W, j :: r, 0 => allZ w (W + w j) r
  | W, j :: r, c + 1 => decide (W = 0) && onlyAt w (W + w j) r c
  | _, [], _ => false
noncomputable def pairAt : Nat → List Nat → Nat → Nat × Nat
  | p, j :: _, 0 => (p, j)
  | _, j :: r, c + 1 => pairAt j r c
  | p, [], _ => (p, p)
theorem low (v w : Nat → Int) : ∀ {l : List Nat} {W : Int} {p : Nat}, Asc v p l → pre w W l = true → 0 ≤ wsum v w l + W * v p
  | [], W, p, _, h => by
    have : W = 0 := of_decide_eq_true h
    subst this; simp [wsum]
  | j :: r, W, p, ha, h => by
    have h' := Bool.and_eq_true_iff.mp h
    have hW : W ≤ 0 := of_decide_eq_true h'.1
    have ih := low v w ha.2 h'.2
    have hm := Int.mul_le_mul_of_nonpos_left hW ha.1
    rw [Int.add_mul] at ih
    simp only [wsum]
    omega
theorem low_pos (v w : Nat → Int) : ∀ {l : List Nat} {W : Int} {p c : Nat}, Asc v p l → pre w W l = true → negAt w W l c = true → v (pairAt p l c).1 < v (pairAt p l c).2 → 0 < wsum v w l + W * v p
  | [], _, _, _, _, _, hn, _ => by simp [negAt] at hn
  | j :: r, W, p, 0, ha, h, hn, hg => by
    have h' := Bool.and_eq_true_iff.mp h
    have hW : W < 0 := of_decide_eq_true hn
    have ih := low v w ha.2 h'.2
    have hm : W * v j < W * v p := Int.mul_lt_mul_of_neg_left hg hW
    rw [Int.add_mul] at ih
    simp only [wsum]
    omega
  | j :: r, W, p, c + 1, ha, h, hn, hg => by
    have h' := Bool.and_eq_true_iff.mp h
    have hW : W ≤ 0 := of_decide_eq_true h'.1
    have ih := low_pos v w (c := c) ha.2 h'.2 hn hg
    have hm := Int.mul_le_mul_of_nonpos_left hW ha.1
    rw [Int.add_mul] at ih
    simp only [wsum]
    omega
theorem low_all (v w : Nat → Int) : ∀ {l : List Nat} {W : Int} {p : Nat}, allZ w W l = true → wsum v w l + W * v p = 0
  | [], W, p, h => by
    have : W = 0 := of_decide_eq_true h
    subst this; simp [wsum]
  | j :: r, W, p, h => by
    have h' := Bool.and_eq_true_iff.mp h
    have hW : W = 0 := of_decide_eq_true h'.1
    subst hW
    have ih := low_all v w (p := j) h'.2
    rw [Int.add_mul] at ih
    simp only [wsum]
    omega
theorem low_zero (v w : Nat → Int) : ∀ {l : List Nat} {W : Int} {p c : Nat}, onlyAt w W l c = true → v (pairAt p l c).1 = v (pairAt p l c).2 → wsum v w l + W * v p = 0
  | [], _, _, _, hn, _ => by simp [onlyAt] at hn
  | j :: r, W, p, 0, hn, hg => by
    have ih := low_all v w (p := j) hn
    have hg' : v p = v j := hg
    rw [Int.add_mul] at ih
    simp only [wsum, hg']
    omega
  | j :: r, W, p, c + 1, hn, hg => by
    have h' := Bool.and_eq_true_iff.mp hn
    have hW : W = 0 := of_decide_eq_true h'.1
    subst hW
    have ih := low_zero v w (c := c) h'.2 hg
    rw [Int.add_mul] at ih
    simp only [wsum]
    omega
theorem pair_le {v : Nat → Int} : ∀ {r : List Nat} {p c : Nat}, Asc v p r → v (pairAt p r c).1 ≤ v (pairAt p r c).2
  | [], _, c, _ => by cases c <;> exact Int.le_refl _
  | _ :: _, _, 0, h => h.1
  | j :: r, _, c + 1, h => pair_le (r := r) (p := j) (c := c) h.2
noncomputable def wt (e0 e : Fm) (j : Nat) : Int := coef e j - coef e0 j
theorem den_sub (v : Nat → Int) {p : Nat} {r : List Nat} (hl : whole (p :: r) = true) {e0 e : Fm} (h0 : e0.ok = true) (h : e.ok = true) : den v e - den v e0 = wsum v (wt e0 e) r + wt e0 e p * v p := by
  rw [den_is v hl h, den_is v hl h0, ← wsum_sub]
  show wt e0 e p * v p + wsum v (wt e0 e) r = _
  omega
theorem count_one {l : List Int} {S : Int} : ∀ {k0 : Nat}, l[k0]? = some S → (∀ k s, l[k]? = some s → k ≠ k0 → s ≠ S) → l.count S = 1 := by
  induction l with
  | nil => intro k0 h; simp at h
  | cons a r ih =>
    intro k0 h0 h
    cases k0 with
    | zero =>
      have e0 : a = S := by simpa using h0
      subst e0
      have hn : a ∉ r := fun hm => by
        obtain ⟨i, hi⟩ := List.getElem?_of_mem hm
        exact h (i + 1) a (by simpa using hi) (by omega) rfl
      rw [List.count_cons_self, List.count_eq_zero_of_not_mem hn]
    | succ k0 =>
      have ha : a ≠ S := h 0 a rfl (by omega)
      rw [List.count_cons_of_ne ha]
      exact ih (by simpa using h0) fun k s hk hne => h (k + 1) s (by simpa using hk) (by omega)
noncomputable def chk (p : Nat) (r : List Nat) (LE : List Fm) (k0 : Nat) (cross : List Nat) : Bool :=
  whole (p :: r) && LE.all (·.ok) && (LE.all fun e => pre (wt (LE.getD k0 .z) e) (wt (LE.getD k0 .z) e p) r) &&
  ((List.range LE.length).all fun k => k == k0 || cross.any fun c => negAt (wt (LE.getD k0 .z) (LE.getD k .z)) (wt (LE.getD k0 .z) (LE.getD k .z) p) r c) &&
  (cross.all fun c => (List.range LE.length).any fun k => !(k == k0) && onlyAt (wt (LE.getD k0 .z) (LE.getD k .z)) (wt (LE.getD k0 .z) (LE.getD k .z) p) r c)
theorem gap_law (v : Nat → Int) {p : Nat} {r : List Nat} {LE : List Fm} {k0 : Nat} {cross : List Nat} (hc : chk p r LE k0 cross = true) (hk : k0 < LE.length) (asc : Asc v p r) {S : Int} (hS : S = den v (LE.getD k0 .z)) :
    S ∈ LE.map (den v) ∧ (∀ s ∈ LE.map (den v), S ≤ s) ∧ ((LE.map (den v)).count S = 1 ↔ ∀ c ∈ cross, v (pairAt p r c).1 ≠ v (pairAt p r c).2) := by
  unfold chk at hc
  simp only [Bool.and_eq_true] at hc
  obtain ⟨⟨⟨⟨c1, c2⟩, c3⟩, c4⟩, c5⟩ := hc
  have at' : ∀ {k : Nat}, k < LE.length → LE.getD k .z ∈ LE ∧ (LE.map (den v))[k]? = some (den v (LE.getD k .z)) := fun {k} h => by
    have e : LE.getD k .z = LE[k] := by rw [List.getD_eq_getElem?_getD, List.getElem?_eq_getElem h]; rfl
    rw [e]
    exact ⟨List.getElem_mem h, by rw [List.getElem?_map, List.getElem?_eq_getElem h]; rfl⟩
  have ok' : ∀ {e : Fm}, e ∈ LE → e.ok = true := fun he => List.all_eq_true.mp c2 _ he
  have o0 := ok' (at' hk).1
  have lo : ∀ e ∈ LE, S ≤ den v e := fun e he => by
    have := low v _ asc (List.all_eq_true.mp c3 e he)
    have := den_sub v c1 o0 (ok' he)
    omega
  have i0 : (LE.map (den v))[k0]? = some S := by rw [hS]; exact (at' hk).2
  refine ⟨List.mem_of_getElem? i0, fun s hs => ?_, fun h c hcm heq => ?_, fun h => count_one i0 fun k s hks hne => ?_⟩
  · obtain ⟨e, he, rfl⟩ := List.mem_map.mp hs
    exact lo e he
  · obtain ⟨k, hkm, hk2⟩ := List.any_eq_true.mp (List.all_eq_true.mp c5 c hcm)
    have hkl := List.mem_range.mp hkm
    simp only [Bool.and_eq_true, Bool.not_eq_true', beq_eq_false_iff_ne] at hk2
    have z := low_zero v _ (p := p) hk2.2 heq
    have d := den_sub v c1 o0 (ok' (at' hkl).1)
    have ik : (LE.map (den v))[k]? = some S := by rw [(at' hkl).2]; congr 1; omega
    rcases Nat.lt_or_gt_of_ne hk2.1 with hlt | hlt
    · have := count_two hlt ik i0; omega
    · have := count_two hlt i0 ik; omega
  · have hkl : k < LE.length := by
      have := (List.getElem?_eq_some_iff.mp hks).1
      simpa using this
    have e := (at' hkl).2
    rw [hks] at e
    have e' := Option.some.inj e
    have hk4 := List.all_eq_true.mp c4 k (List.mem_range.mpr hkl)
    simp only [Bool.or_eq_true, beq_iff_eq] at hk4
    rcases hk4 with hk4 | hk4
    · exact absurd hk4 hne
    obtain ⟨c, hcm, hn⟩ := List.any_eq_true.mp hk4
    have hle := pair_le (c := c) asc
    have hlt := Int.lt_iff_le_and_ne.mpr ⟨hle, h c hcm⟩
    have z := low_pos v _ asc (List.all_eq_true.mp c3 _ (at' hkl).1) hn hlt
    have d := den_sub v c1 o0 (ok' (at' hkl).1)
    omega
noncomputable def forms17 : List Fm := [.add (.add (.add (.add (.add (.z) (.add (.add (.v 0) (.v 1)) (.v 2))) (.add (.add (.v 0) (.v 1)) (.v 2))) (.z)) (.z)) (.z), .add (.add (.add (.add (.add (.z) (.add (.add (.v 0) (.v 1)) (.v 2))) (.add (.v 0) (.v 1))) (.v 3)) (.z)) (.z), .add (.add (.add (.add (.add (.z) (.add (.v 0) (.v 1))) (.add (.v 0) (.v 1))) (.add (.v 3) (.v 4))) (.z)) (.z), .add (.add (.add (.add (.add (.z) (.v 0)) (.add (.add (.v 0) (.v 1)) (.v 2))) (.add (.v 3) (.v 4))) (.z)) (.z), .add (.add (.add (.add (.add (.z) (.add (.add (.v 0) (.v 1)) (.v 2))) (.v 0)) (.v 3)) (.v 3)) (.z), .add (.add (.add (.add (.add (.z) (.add (.v 0) (.v 1))) (.v 0)) (.add (.v 3) (.v 4))) (.v 3)) (.z), .add (.add (.add (.add (.add (.z) (.z)) (.add (.add (.v 0) (.v 1)) (.v 2))) (.add (.v 3) (.v 4))) (.v 3)) (.z), .add (.add (.add (.add (.add (.z) (.add (.add (.v 0) (.v 1)) (.v 2))) (.v 0)) (.z)) (.add (.v 3) (.v 4))) (.z), .add (.add (.add (.add (.add (.z) (.v 0)) (.v 0)) (.add (.v 3) (.v 4))) (.add (.v 3) (.v 4))) (.z), .add (.add (.add (.add (.add (.z) (.z)) (.add (.v 0) (.v 1))) (.add (.v 3) (.v 4))) (.add (.v 3) (.v 4))) (.z), .add (.add (.add (.add (.add (.z) (.add (.add (.v 0) (.v 1)) (.v 2))) (.z)) (.v 3)) (.v 3)) (.v 3), .add (.add (.add (.add (.add (.z) (.add (.v 0) (.v 1))) (.z)) (.add (.v 3) (.v 4))) (.v 3)) (.v 3), .add (.add (.add (.add (.add (.z) (.add (.add (.v 0) (.v 1)) (.v 2))) (.z)) (.z)) (.add (.v 3) (.v 4))) (.v 3), .add (.add (.add (.add (.add (.z) (.v 0)) (.z)) (.add (.v 3) (.v 4))) (.add (.v 3) (.v 4))) (.v 3), .add (.add (.add (.add (.add (.z) (.add (.add (.v 0) (.v 1)) (.v 2))) (.z)) (.v 3)) (.z)) (.add (.v 3) (.v 4)), .add (.add (.add (.add (.add (.z) (.add (.v 0) (.v 1))) (.z)) (.add (.v 3) (.v 4))) (.z)) (.add (.v 3) (.v 4)), .add (.add (.add (.add (.add (.z) (.z)) (.z)) (.add (.v 3) (.v 4))) (.add (.v 3) (.v 4))) (.add (.v 3) (.v 4))]
noncomputable def v5 (a b c d e : Int) : Nat → Int
  | 0 => a
  | 1 => b
  | 2 => c
  | 3 => d
  | _ => e
theorem forms_are (a b c d e : Int) : [0 + (a + b + c) + (a + b + c) + 0 + 0 + 0, 0 + (a + b + c) + (a + b) + d + 0 + 0, 0 + (a + b) + (a + b) + (d + e) + 0 + 0, 0 + a + (a + b + c) + (d + e) + 0 + 0, 0 + (a + b + c) + a + d + d + 0, 0 + (a + b) + a + (d + e) + d + 0, 0 + 0 + (a + b + c) + (d + e) + d + 0, 0 + (a + b + c) + a + 0 + (d + e) + 0, 0 + a + a + (d + e) + (d + e) + 0, 0 + 0 + (a + b) + (d + e) + (d + e) + 0, 0 + (a + b + c) + 0 + d + d + d, 0 + (a + b) + 0 + (d + e) + d + d, 0 + (a + b + c) + 0 + 0 + (d + e) + d, 0 + a + 0 + (d + e) + (d + e) + d, 0 + (a + b + c) + 0 + d + 0 + (d + e), 0 + (a + b) + 0 + (d + e) + 0 + (d + e), 0 + 0 + 0 + (d + e) + (d + e) + (d + e)] = forms17.map (den (v5 a b c d e)) := by rfl
theorem plain_00 (a b c d e : Int) (h0 : d ≤ e) (h1 : e ≤ a) (h2 : a ≤ b) (h3 : b ≤ c) : (min a d + min a e + min b d + min b e + min c d + min c e) ∈ forms17.map (den (v5 a b c d e)) ∧ (∀ s ∈ forms17.map (den (v5 a b c d e)), (min a d + min a e + min b d + min b e + min c d + min c e) ≤ s) ∧ (List.count (min a d + min a e + min b d + min b e + min c d + min c e) (forms17.map (den (v5 a b c d e))) = 1 ↔ (a ≠ d ∧ a ≠ e ∧ b ≠ d ∧ b ≠ e ∧ c ≠ d ∧ c ≠ e)) := by
  have hS : (min a d + min a e + min b d + min b e + min c d + min c e) = den (v5 a b c d e) (forms17.getD 16 .z) := by
    rw [Int.min_eq_right (Int.le_trans h0 h1), Int.min_eq_right h1, Int.min_eq_right (Int.le_trans (Int.le_trans h0 h1) h2), Int.min_eq_right (Int.le_trans h1 h2), Int.min_eq_right (Int.le_trans (Int.le_trans (Int.le_trans h0 h1) h2) h3), Int.min_eq_right (Int.le_trans (Int.le_trans h1 h2) h3)]
    simp only [forms17, List.getD_cons_succ, List.getD_cons_zero, den, v5]
    omega
  obtain ⟨q1, q2, q3⟩ := gap_law (v5 a b c d e) (p := 3) (r := [4, 0, 1, 2]) (LE := forms17) (k0 := 16) (cross := [1]) (by decide +kernel) (by decide) ⟨h0, h1, h2, h3, True.intro⟩ hS
  refine ⟨q1, q2, q3.trans ?_⟩
  simp only [List.forall_mem_cons, pairAt, v5, List.not_mem_nil, false_imp_iff, implies_true, and_true]
  have l0 := fun g => Int.lt_iff_le_and_ne.mpr ⟨h1, g⟩
  exact ⟨fun g0 => have l0 := l0 g0; ⟨Int.ne_of_gt (Int.lt_of_le_of_lt h0 (Int.lt_of_lt_of_le l0 (Int.le_refl _))), Int.ne_of_gt (Int.lt_of_le_of_lt (Int.le_refl _) (Int.lt_of_lt_of_le l0 (Int.le_refl _))), Int.ne_of_gt (Int.lt_of_le_of_lt h0 (Int.lt_of_lt_of_le l0 h2)), Int.ne_of_gt (Int.lt_of_le_of_lt (Int.le_refl _) (Int.lt_of_lt_of_le l0 h2)), Int.ne_of_gt (Int.lt_of_le_of_lt h0 (Int.lt_of_lt_of_le l0 (Int.le_trans h2 h3))), Int.ne_of_gt (Int.lt_of_le_of_lt (Int.le_refl _) (Int.lt_of_lt_of_le l0 (Int.le_trans h2 h3)))⟩, fun ⟨p0, p1, p2, p3, p4, p5⟩ => (Ne.symm p1)⟩
theorem plain_01 (a b c d e : Int) (h0 : d ≤ a) (h1 : a ≤ e) (h2 : e ≤ b) (h3 : b ≤ c) : (min a d + min a e + min b d + min b e + min c d + min c e) ∈ forms17.map (den (v5 a b c d e)) ∧ (∀ s ∈ forms17.map (den (v5 a b c d e)), (min a d + min a e + min b d + min b e + min c d + min c e) ≤ s) ∧ (List.count (min a d + min a e + min b d + min b e + min c d + min c e) (forms17.map (den (v5 a b c d e))) = 1 ↔ (a ≠ d ∧ a ≠ e ∧ b ≠ d ∧ b ≠ e ∧ c ≠ d ∧ c ≠ e)) := by
  have hS : (min a d + min a e + min b d + min b e + min c d + min c e) = den (v5 a b c d e) (forms17.getD 13 .z) := by
    rw [Int.min_eq_right h0, Int.min_eq_left h1, Int.min_eq_right (Int.le_trans (Int.le_trans h0 h1) h2), Int.min_eq_right h2, Int.min_eq_right (Int.le_trans (Int.le_trans (Int.le_trans h0 h1) h2) h3), Int.min_eq_right (Int.le_trans h2 h3)]
    simp only [forms17, List.getD_cons_succ, List.getD_cons_zero, den, v5]
    omega
  obtain ⟨q1, q2, q3⟩ := gap_law (v5 a b c d e) (p := 3) (r := [0, 4, 1, 2]) (LE := forms17) (k0 := 13) (cross := [0, 1, 2]) (by decide +kernel) (by decide) ⟨h0, h1, h2, h3, True.intro⟩ hS
  refine ⟨q1, q2, q3.trans ?_⟩
  simp only [List.forall_mem_cons, pairAt, v5, List.not_mem_nil, false_imp_iff, implies_true, and_true]
  have l0 := fun g => Int.lt_iff_le_and_ne.mpr ⟨h0, g⟩
  have l1 := fun g => Int.lt_iff_le_and_ne.mpr ⟨h1, g⟩
  have l2 := fun g => Int.lt_iff_le_and_ne.mpr ⟨h2, g⟩
  exact ⟨fun ⟨g0, g1, g2⟩ => have l0 := l0 g0; have l1 := l1 g1; have l2 := l2 g2; ⟨Int.ne_of_gt (Int.lt_of_le_of_lt (Int.le_refl _) (Int.lt_of_lt_of_le l0 (Int.le_refl _))), Int.ne_of_lt (Int.lt_of_le_of_lt (Int.le_refl _) (Int.lt_of_lt_of_le l1 (Int.le_refl _))), Int.ne_of_gt (Int.lt_of_le_of_lt (Int.le_refl _) (Int.lt_of_lt_of_le l0 (Int.le_trans h1 h2))), Int.ne_of_gt (Int.lt_of_le_of_lt (Int.le_refl _) (Int.lt_of_lt_of_le l2 (Int.le_refl _))), Int.ne_of_gt (Int.lt_of_le_of_lt (Int.le_refl _) (Int.lt_of_lt_of_le l0 (Int.le_trans (Int.le_trans h1 h2) h3))), Int.ne_of_gt (Int.lt_of_le_of_lt (Int.le_refl _) (Int.lt_of_lt_of_le l2 h3))⟩, fun ⟨p0, p1, p2, p3, p4, p5⟩ => ⟨(Ne.symm p0), p1, (Ne.symm p3)⟩⟩
theorem plain_02 (a b c d e : Int) (h0 : d ≤ a) (h1 : a ≤ b) (h2 : b ≤ e) (h3 : e ≤ c) : (min a d + min a e + min b d + min b e + min c d + min c e) ∈ forms17.map (den (v5 a b c d e)) ∧ (∀ s ∈ forms17.map (den (v5 a b c d e)), (min a d + min a e + min b d + min b e + min c d + min c e) ≤ s) ∧ (List.count (min a d + min a e + min b d + min b e + min c d + min c e) (forms17.map (den (v5 a b c d e))) = 1 ↔ (a ≠ d ∧ a ≠ e ∧ b ≠ d ∧ b ≠ e ∧ c ≠ d ∧ c ≠ e)) := by
  have hS : (min a d + min a e + min b d + min b e + min c d + min c e) = den (v5 a b c d e) (forms17.getD 11 .z) := by
    rw [Int.min_eq_right h0, Int.min_eq_left (Int.le_trans h1 h2), Int.min_eq_right (Int.le_trans h0 h1), Int.min_eq_left h2, Int.min_eq_right (Int.le_trans (Int.le_trans (Int.le_trans h0 h1) h2) h3), Int.min_eq_right h3]
    simp only [forms17, List.getD_cons_succ, List.getD_cons_zero, den, v5]
    omega
  obtain ⟨q1, q2, q3⟩ := gap_law (v5 a b c d e) (p := 3) (r := [0, 1, 4, 2]) (LE := forms17) (k0 := 11) (cross := [0, 2, 3]) (by decide +kernel) (by decide) ⟨h0, h1, h2, h3, True.intro⟩ hS
  refine ⟨q1, q2, q3.trans ?_⟩
  simp only [List.forall_mem_cons, pairAt, v5, List.not_mem_nil, false_imp_iff, implies_true, and_true]
  have l0 := fun g => Int.lt_iff_le_and_ne.mpr ⟨h0, g⟩
  have l1 := fun g => Int.lt_iff_le_and_ne.mpr ⟨h2, g⟩
  have l2 := fun g => Int.lt_iff_le_and_ne.mpr ⟨h3, g⟩
  exact ⟨fun ⟨g0, g1, g2⟩ => have l0 := l0 g0; have l1 := l1 g1; have l2 := l2 g2; ⟨Int.ne_of_gt (Int.lt_of_le_of_lt (Int.le_refl _) (Int.lt_of_lt_of_le l0 (Int.le_refl _))), Int.ne_of_lt (Int.lt_of_le_of_lt h1 (Int.lt_of_lt_of_le l1 (Int.le_refl _))), Int.ne_of_gt (Int.lt_of_le_of_lt (Int.le_refl _) (Int.lt_of_lt_of_le l0 h1)), Int.ne_of_lt (Int.lt_of_le_of_lt (Int.le_refl _) (Int.lt_of_lt_of_le l1 (Int.le_refl _))), Int.ne_of_gt (Int.lt_of_le_of_lt (Int.le_refl _) (Int.lt_of_lt_of_le l0 (Int.le_trans (Int.le_trans h1 h2) h3))), Int.ne_of_gt (Int.lt_of_le_of_lt (Int.le_refl _) (Int.lt_of_lt_of_le l2 (Int.le_refl _)))⟩, fun ⟨p0, p1, p2, p3, p4, p5⟩ => ⟨(Ne.symm p0), p3, (Ne.symm p5)⟩⟩
theorem plain_03 (a b c d e : Int) (h0 : d ≤ a) (h1 : a ≤ b) (h2 : b ≤ c) (h3 : c ≤ e) : (min a d + min a e + min b d + min b e + min c d + min c e) ∈ forms17.map (den (v5 a b c d e)) ∧ (∀ s ∈ forms17.map (den (v5 a b c d e)), (min a d + min a e + min b d + min b e + min c d + min c e) ≤ s) ∧ (List.count (min a d + min a e + min b d + min b e + min c d + min c e) (forms17.map (den (v5 a b c d e))) = 1 ↔ (a ≠ d ∧ a ≠ e ∧ b ≠ d ∧ b ≠ e ∧ c ≠ d ∧ c ≠ e)) := by
  have hS : (min a d + min a e + min b d + min b e + min c d + min c e) = den (v5 a b c d e) (forms17.getD 10 .z) := by
    rw [Int.min_eq_right h0, Int.min_eq_left (Int.le_trans (Int.le_trans h1 h2) h3), Int.min_eq_right (Int.le_trans h0 h1), Int.min_eq_left (Int.le_trans h2 h3), Int.min_eq_right (Int.le_trans (Int.le_trans h0 h1) h2), Int.min_eq_left h3]
    simp only [forms17, List.getD_cons_succ, List.getD_cons_zero, den, v5]
    omega
  obtain ⟨q1, q2, q3⟩ := gap_law (v5 a b c d e) (p := 3) (r := [0, 1, 2, 4]) (LE := forms17) (k0 := 10) (cross := [0, 3]) (by decide +kernel) (by decide) ⟨h0, h1, h2, h3, True.intro⟩ hS
  refine ⟨q1, q2, q3.trans ?_⟩
  simp only [List.forall_mem_cons, pairAt, v5, List.not_mem_nil, false_imp_iff, implies_true, and_true]
  have l0 := fun g => Int.lt_iff_le_and_ne.mpr ⟨h0, g⟩
  have l1 := fun g => Int.lt_iff_le_and_ne.mpr ⟨h3, g⟩
  exact ⟨fun ⟨g0, g1⟩ => have l0 := l0 g0; have l1 := l1 g1; ⟨Int.ne_of_gt (Int.lt_of_le_of_lt (Int.le_refl _) (Int.lt_of_lt_of_le l0 (Int.le_refl _))), Int.ne_of_lt (Int.lt_of_le_of_lt (Int.le_trans h1 h2) (Int.lt_of_lt_of_le l1 (Int.le_refl _))), Int.ne_of_gt (Int.lt_of_le_of_lt (Int.le_refl _) (Int.lt_of_lt_of_le l0 h1)), Int.ne_of_lt (Int.lt_of_le_of_lt h2 (Int.lt_of_lt_of_le l1 (Int.le_refl _))), Int.ne_of_gt (Int.lt_of_le_of_lt (Int.le_refl _) (Int.lt_of_lt_of_le l0 (Int.le_trans h1 h2))), Int.ne_of_lt (Int.lt_of_le_of_lt (Int.le_refl _) (Int.lt_of_lt_of_le l1 (Int.le_refl _)))⟩, fun ⟨p0, p1, p2, p3, p4, p5⟩ => ⟨(Ne.symm p0), p5⟩⟩
theorem plain_11 (a b c d e : Int) (h0 : a ≤ d) (h1 : d ≤ e) (h2 : e ≤ b) (h3 : b ≤ c) : (min a d + min a e + min b d + min b e + min c d + min c e) ∈ forms17.map (den (v5 a b c d e)) ∧ (∀ s ∈ forms17.map (den (v5 a b c d e)), (min a d + min a e + min b d + min b e + min c d + min c e) ≤ s) ∧ (List.count (min a d + min a e + min b d + min b e + min c d + min c e) (forms17.map (den (v5 a b c d e))) = 1 ↔ (a ≠ d ∧ a ≠ e ∧ b ≠ d ∧ b ≠ e ∧ c ≠ d ∧ c ≠ e)) := by
  have hS : (min a d + min a e + min b d + min b e + min c d + min c e) = den (v5 a b c d e) (forms17.getD 8 .z) := by
    rw [Int.min_eq_left h0, Int.min_eq_left (Int.le_trans h0 h1), Int.min_eq_right (Int.le_trans h1 h2), Int.min_eq_right h2, Int.min_eq_right (Int.le_trans (Int.le_trans h1 h2) h3), Int.min_eq_right (Int.le_trans h2 h3)]
    simp only [forms17, List.getD_cons_succ, List.getD_cons_zero, den, v5]
    omega
  obtain ⟨q1, q2, q3⟩ := gap_law (v5 a b c d e) (p := 0) (r := [3, 4, 1, 2]) (LE := forms17) (k0 := 8) (cross := [0, 2]) (by decide +kernel) (by decide) ⟨h0, h1, h2, h3, True.intro⟩ hS
  refine ⟨q1, q2, q3.trans ?_⟩
  simp only [List.forall_mem_cons, pairAt, v5, List.not_mem_nil, false_imp_iff, implies_true, and_true]
  have l0 := fun g => Int.lt_iff_le_and_ne.mpr ⟨h0, g⟩
  have l1 := fun g => Int.lt_iff_le_and_ne.mpr ⟨h2, g⟩
  exact ⟨fun ⟨g0, g1⟩ => have l0 := l0 g0; have l1 := l1 g1; ⟨Int.ne_of_lt (Int.lt_of_le_of_lt (Int.le_refl _) (Int.lt_of_lt_of_le l0 (Int.le_refl _))), Int.ne_of_lt (Int.lt_of_le_of_lt (Int.le_refl _) (Int.lt_of_lt_of_le l0 h1)), Int.ne_of_gt (Int.lt_of_le_of_lt h1 (Int.lt_of_lt_of_le l1 (Int.le_refl _))), Int.ne_of_gt (Int.lt_of_le_of_lt (Int.le_refl _) (Int.lt_of_lt_of_le l1 (Int.le_refl _))), Int.ne_of_gt (Int.lt_of_le_of_lt h1 (Int.lt_of_lt_of_le l1 h3)), Int.ne_of_gt (Int.lt_of_le_of_lt (Int.le_refl _) (Int.lt_of_lt_of_le l1 h3))⟩, fun ⟨p0, p1, p2, p3, p4, p5⟩ => ⟨p0, (Ne.symm p3)⟩⟩
theorem plain_12 (a b c d e : Int) (h0 : a ≤ d) (h1 : d ≤ b) (h2 : b ≤ e) (h3 : e ≤ c) : (min a d + min a e + min b d + min b e + min c d + min c e) ∈ forms17.map (den (v5 a b c d e)) ∧ (∀ s ∈ forms17.map (den (v5 a b c d e)), (min a d + min a e + min b d + min b e + min c d + min c e) ≤ s) ∧ (List.count (min a d + min a e + min b d + min b e + min c d + min c e) (forms17.map (den (v5 a b c d e))) = 1 ↔ (a ≠ d ∧ a ≠ e ∧ b ≠ d ∧ b ≠ e ∧ c ≠ d ∧ c ≠ e)) := by
  have hS : (min a d + min a e + min b d + min b e + min c d + min c e) = den (v5 a b c d e) (forms17.getD 5 .z) := by
    rw [Int.min_eq_left h0, Int.min_eq_left (Int.le_trans (Int.le_trans h0 h1) h2), Int.min_eq_right h1, Int.min_eq_left h2, Int.min_eq_right (Int.le_trans (Int.le_trans h1 h2) h3), Int.min_eq_right h3]
    simp only [forms17, List.getD_cons_succ, List.getD_cons_zero, den, v5]
    omega
  obtain ⟨q1, q2, q3⟩ := gap_law (v5 a b c d e) (p := 0) (r := [3, 1, 4, 2]) (LE := forms17) (k0 := 5) (cross := [0, 1, 2, 3]) (by decide +kernel) (by decide) ⟨h0, h1, h2, h3, True.intro⟩ hS
  refine ⟨q1, q2, q3.trans ?_⟩
  simp only [List.forall_mem_cons, pairAt, v5, List.not_mem_nil, false_imp_iff, implies_true, and_true]
  have l0 := fun g => Int.lt_iff_le_and_ne.mpr ⟨h0, g⟩
  have l1 := fun g => Int.lt_iff_le_and_ne.mpr ⟨h1, g⟩
  have l2 := fun g => Int.lt_iff_le_and_ne.mpr ⟨h2, g⟩
  have l3 := fun g => Int.lt_iff_le_and_ne.mpr ⟨h3, g⟩
  exact ⟨fun ⟨g0, g1, g2, g3⟩ => have l0 := l0 g0; have l1 := l1 g1; have l2 := l2 g2; have l3 := l3 g3; ⟨Int.ne_of_lt (Int.lt_of_le_of_lt (Int.le_refl _) (Int.lt_of_lt_of_le l0 (Int.le_refl _))), Int.ne_of_lt (Int.lt_of_le_of_lt (Int.le_refl _) (Int.lt_of_lt_of_le l0 (Int.le_trans h1 h2))), Int.ne_of_gt (Int.lt_of_le_of_lt (Int.le_refl _) (Int.lt_of_lt_of_le l1 (Int.le_refl _))), Int.ne_of_lt (Int.lt_of_le_of_lt (Int.le_refl _) (Int.lt_of_lt_of_le l2 (Int.le_refl _))), Int.ne_of_gt (Int.lt_of_le_of_lt (Int.le_refl _) (Int.lt_of_lt_of_le l1 (Int.le_trans h2 h3))), Int.ne_of_gt (Int.lt_of_le_of_lt (Int.le_refl _) (Int.lt_of_lt_of_le l3 (Int.le_refl _)))⟩, fun ⟨p0, p1, p2, p3, p4, p5⟩ => ⟨p0, (Ne.symm p2), p3, (Ne.symm p5)⟩⟩
theorem plain_13 (a b c d e : Int) (h0 : a ≤ d) (h1 : d ≤ b) (h2 : b ≤ c) (h3 : c ≤ e) : (min a d + min a e + min b d + min b e + min c d + min c e) ∈ forms17.map (den (v5 a b c d e)) ∧ (∀ s ∈ forms17.map (den (v5 a b c d e)), (min a d + min a e + min b d + min b e + min c d + min c e) ≤ s) ∧ (List.count (min a d + min a e + min b d + min b e + min c d + min c e) (forms17.map (den (v5 a b c d e))) = 1 ↔ (a ≠ d ∧ a ≠ e ∧ b ≠ d ∧ b ≠ e ∧ c ≠ d ∧ c ≠ e)) := by
  have hS : (min a d + min a e + min b d + min b e + min c d + min c e) = den (v5 a b c d e) (forms17.getD 4 .z) := by
    rw [Int.min_eq_left h0, Int.min_eq_left (Int.le_trans (Int.le_trans (Int.le_trans h0 h1) h2) h3), Int.min_eq_right h1, Int.min_eq_left (Int.le_trans h2 h3), Int.min_eq_right (Int.le_trans h1 h2), Int.min_eq_left h3]
    simp only [forms17, List.getD_cons_succ, List.getD_cons_zero, den, v5]
    omega
  obtain ⟨q1, q2, q3⟩ := gap_law (v5 a b c d e) (p := 0) (r := [3, 1, 2, 4]) (LE := forms17) (k0 := 4) (cross := [0, 1, 3]) (by decide +kernel) (by decide) ⟨h0, h1, h2, h3, True.intro⟩ hS
  refine ⟨q1, q2, q3.trans ?_⟩
  simp only [List.forall_mem_cons, pairAt, v5, List.not_mem_nil, false_imp_iff, implies_true, and_true]
  have l0 := fun g => Int.lt_iff_le_and_ne.mpr ⟨h0, g⟩
  have l1 := fun g => Int.lt_iff_le_and_ne.mpr ⟨h1, g⟩
  have l2 := fun g => Int.lt_iff_le_and_ne.mpr ⟨h3, g⟩
  exact ⟨fun ⟨g0, g1, g2⟩ => have l0 := l0 g0; have l1 := l1 g1; have l2 := l2 g2; ⟨Int.ne_of_lt (Int.lt_of_le_of_lt (Int.le_refl _) (Int.lt_of_lt_of_le l0 (Int.le_refl _))), Int.ne_of_lt (Int.lt_of_le_of_lt (Int.le_refl _) (Int.lt_of_lt_of_le l0 (Int.le_trans (Int.le_trans h1 h2) h3))), Int.ne_of_gt (Int.lt_of_le_of_lt (Int.le_refl _) (Int.lt_of_lt_of_le l1 (Int.le_refl _))), Int.ne_of_lt (Int.lt_of_le_of_lt h2 (Int.lt_of_lt_of_le l2 (Int.le_refl _))), Int.ne_of_gt (Int.lt_of_le_of_lt (Int.le_refl _) (Int.lt_of_lt_of_le l1 h2)), Int.ne_of_lt (Int.lt_of_le_of_lt (Int.le_refl _) (Int.lt_of_lt_of_le l2 (Int.le_refl _)))⟩, fun ⟨p0, p1, p2, p3, p4, p5⟩ => ⟨p0, (Ne.symm p2), p5⟩⟩
theorem plain_22 (a b c d e : Int) (h0 : a ≤ b) (h1 : b ≤ d) (h2 : d ≤ e) (h3 : e ≤ c) : (min a d + min a e + min b d + min b e + min c d + min c e) ∈ forms17.map (den (v5 a b c d e)) ∧ (∀ s ∈ forms17.map (den (v5 a b c d e)), (min a d + min a e + min b d + min b e + min c d + min c e) ≤ s) ∧ (List.count (min a d + min a e + min b d + min b e + min c d + min c e) (forms17.map (den (v5 a b c d e))) = 1 ↔ (a ≠ d ∧ a ≠ e ∧ b ≠ d ∧ b ≠ e ∧ c ≠ d ∧ c ≠ e)) := by
  have hS : (min a d + min a e + min b d + min b e + min c d + min c e) = den (v5 a b c d e) (forms17.getD 2 .z) := by
    rw [Int.min_eq_left (Int.le_trans h0 h1), Int.min_eq_left (Int.le_trans (Int.le_trans h0 h1) h2), Int.min_eq_left h1, Int.min_eq_left (Int.le_trans h1 h2), Int.min_eq_right (Int.le_trans h2 h3), Int.min_eq_right h3]
    simp only [forms17, List.getD_cons_succ, List.getD_cons_zero, den, v5]
    omega
  obtain ⟨q1, q2, q3⟩ := gap_law (v5 a b c d e) (p := 0) (r := [1, 3, 4, 2]) (LE := forms17) (k0 := 2) (cross := [1, 3]) (by decide +kernel) (by decide) ⟨h0, h1, h2, h3, True.intro⟩ hS
  refine ⟨q1, q2, q3.trans ?_⟩
  simp only [List.forall_mem_cons, pairAt, v5, List.not_mem_nil, false_imp_iff, implies_true, and_true]
  have l0 := fun g => Int.lt_iff_le_and_ne.mpr ⟨h1, g⟩
  have l1 := fun g => Int.lt_iff_le_and_ne.mpr ⟨h3, g⟩
  exact ⟨fun ⟨g0, g1⟩ => have l0 := l0 g0; have l1 := l1 g1; ⟨Int.ne_of_lt (Int.lt_of_le_of_lt h0 (Int.lt_of_lt_of_le l0 (Int.le_refl _))), Int.ne_of_lt (Int.lt_of_le_of_lt h0 (Int.lt_of_lt_of_le l0 h2)), Int.ne_of_lt (Int.lt_of_le_of_lt (Int.le_refl _) (Int.lt_of_lt_of_le l0 (Int.le_refl _))), Int.ne_of_lt (Int.lt_of_le_of_lt (Int.le_refl _) (Int.lt_of_lt_of_le l0 h2)), Int.ne_of_gt (Int.lt_of_le_of_lt h2 (Int.lt_of_lt_of_le l1 (Int.le_refl _))), Int.ne_of_gt (Int.lt_of_le_of_lt (Int.le_refl _) (Int.lt_of_lt_of_le l1 (Int.le_refl _)))⟩, fun ⟨p0, p1, p2, p3, p4, p5⟩ => ⟨p2, (Ne.symm p5)⟩⟩
theorem plain_23 (a b c d e : Int) (h0 : a ≤ b) (h1 : b ≤ d) (h2 : d ≤ c) (h3 : c ≤ e) : (min a d + min a e + min b d + min b e + min c d + min c e) ∈ forms17.map (den (v5 a b c d e)) ∧ (∀ s ∈ forms17.map (den (v5 a b c d e)), (min a d + min a e + min b d + min b e + min c d + min c e) ≤ s) ∧ (List.count (min a d + min a e + min b d + min b e + min c d + min c e) (forms17.map (den (v5 a b c d e))) = 1 ↔ (a ≠ d ∧ a ≠ e ∧ b ≠ d ∧ b ≠ e ∧ c ≠ d ∧ c ≠ e)) := by
  have hS : (min a d + min a e + min b d + min b e + min c d + min c e) = den (v5 a b c d e) (forms17.getD 1 .z) := by
    rw [Int.min_eq_left (Int.le_trans h0 h1), Int.min_eq_left (Int.le_trans (Int.le_trans (Int.le_trans h0 h1) h2) h3), Int.min_eq_left h1, Int.min_eq_left (Int.le_trans (Int.le_trans h1 h2) h3), Int.min_eq_right h2, Int.min_eq_left h3]
    simp only [forms17, List.getD_cons_succ, List.getD_cons_zero, den, v5]
    omega
  obtain ⟨q1, q2, q3⟩ := gap_law (v5 a b c d e) (p := 0) (r := [1, 3, 2, 4]) (LE := forms17) (k0 := 1) (cross := [1, 2, 3]) (by decide +kernel) (by decide) ⟨h0, h1, h2, h3, True.intro⟩ hS
  refine ⟨q1, q2, q3.trans ?_⟩
  simp only [List.forall_mem_cons, pairAt, v5, List.not_mem_nil, false_imp_iff, implies_true, and_true]
  have l0 := fun g => Int.lt_iff_le_and_ne.mpr ⟨h1, g⟩
  have l1 := fun g => Int.lt_iff_le_and_ne.mpr ⟨h2, g⟩
  have l2 := fun g => Int.lt_iff_le_and_ne.mpr ⟨h3, g⟩
  exact ⟨fun ⟨g0, g1, g2⟩ => have l0 := l0 g0; have l1 := l1 g1; have l2 := l2 g2; ⟨Int.ne_of_lt (Int.lt_of_le_of_lt h0 (Int.lt_of_lt_of_le l0 (Int.le_refl _))), Int.ne_of_lt (Int.lt_of_le_of_lt h0 (Int.lt_of_lt_of_le l0 (Int.le_trans h2 h3))), Int.ne_of_lt (Int.lt_of_le_of_lt (Int.le_refl _) (Int.lt_of_lt_of_le l0 (Int.le_refl _))), Int.ne_of_lt (Int.lt_of_le_of_lt (Int.le_refl _) (Int.lt_of_lt_of_le l0 (Int.le_trans h2 h3))), Int.ne_of_gt (Int.lt_of_le_of_lt (Int.le_refl _) (Int.lt_of_lt_of_le l1 (Int.le_refl _))), Int.ne_of_lt (Int.lt_of_le_of_lt (Int.le_refl _) (Int.lt_of_lt_of_le l2 (Int.le_refl _)))⟩, fun ⟨p0, p1, p2, p3, p4, p5⟩ => ⟨p2, (Ne.symm p4), p5⟩⟩
theorem plain_33 (a b c d e : Int) (h0 : a ≤ b) (h1 : b ≤ c) (h2 : c ≤ d) (h3 : d ≤ e) : (min a d + min a e + min b d + min b e + min c d + min c e) ∈ forms17.map (den (v5 a b c d e)) ∧ (∀ s ∈ forms17.map (den (v5 a b c d e)), (min a d + min a e + min b d + min b e + min c d + min c e) ≤ s) ∧ (List.count (min a d + min a e + min b d + min b e + min c d + min c e) (forms17.map (den (v5 a b c d e))) = 1 ↔ (a ≠ d ∧ a ≠ e ∧ b ≠ d ∧ b ≠ e ∧ c ≠ d ∧ c ≠ e)) := by
  have hS : (min a d + min a e + min b d + min b e + min c d + min c e) = den (v5 a b c d e) (forms17.getD 0 .z) := by
    rw [Int.min_eq_left (Int.le_trans (Int.le_trans h0 h1) h2), Int.min_eq_left (Int.le_trans (Int.le_trans (Int.le_trans h0 h1) h2) h3), Int.min_eq_left (Int.le_trans h1 h2), Int.min_eq_left (Int.le_trans (Int.le_trans h1 h2) h3), Int.min_eq_left h2, Int.min_eq_left (Int.le_trans h2 h3)]
    simp only [forms17, List.getD_cons_succ, List.getD_cons_zero, den, v5]
    omega
  obtain ⟨q1, q2, q3⟩ := gap_law (v5 a b c d e) (p := 0) (r := [1, 2, 3, 4]) (LE := forms17) (k0 := 0) (cross := [2]) (by decide +kernel) (by decide) ⟨h0, h1, h2, h3, True.intro⟩ hS
  refine ⟨q1, q2, q3.trans ?_⟩
  simp only [List.forall_mem_cons, pairAt, v5, List.not_mem_nil, false_imp_iff, implies_true, and_true]
  have l0 := fun g => Int.lt_iff_le_and_ne.mpr ⟨h2, g⟩
  exact ⟨fun g0 => have l0 := l0 g0; ⟨Int.ne_of_lt (Int.lt_of_le_of_lt (Int.le_trans h0 h1) (Int.lt_of_lt_of_le l0 (Int.le_refl _))), Int.ne_of_lt (Int.lt_of_le_of_lt (Int.le_trans h0 h1) (Int.lt_of_lt_of_le l0 h3)), Int.ne_of_lt (Int.lt_of_le_of_lt h1 (Int.lt_of_lt_of_le l0 (Int.le_refl _))), Int.ne_of_lt (Int.lt_of_le_of_lt h1 (Int.lt_of_lt_of_le l0 h3)), Int.ne_of_lt (Int.lt_of_le_of_lt (Int.le_refl _) (Int.lt_of_lt_of_le l0 (Int.le_refl _))), Int.ne_of_lt (Int.lt_of_le_of_lt (Int.le_refl _) (Int.lt_of_lt_of_le l0 h3))⟩, fun ⟨p0, p1, p2, p3, p4, p5⟩ => p4⟩
theorem plain (a b c d e : Int) (hab : a ≤ b) (hbc : b ≤ c) (hde : d ≤ e) : (min a d + min a e + min b d + min b e + min c d + min c e) ∈ [0 + (a + b + c) + (a + b + c) + 0 + 0 + 0, 0 + (a + b + c) + (a + b) + d + 0 + 0, 0 + (a + b) + (a + b) + (d + e) + 0 + 0, 0 + a + (a + b + c) + (d + e) + 0 + 0, 0 + (a + b + c) + a + d + d + 0, 0 + (a + b) + a + (d + e) + d + 0, 0 + 0 + (a + b + c) + (d + e) + d + 0, 0 + (a + b + c) + a + 0 + (d + e) + 0, 0 + a + a + (d + e) + (d + e) + 0, 0 + 0 + (a + b) + (d + e) + (d + e) + 0, 0 + (a + b + c) + 0 + d + d + d, 0 + (a + b) + 0 + (d + e) + d + d, 0 + (a + b + c) + 0 + 0 + (d + e) + d, 0 + a + 0 + (d + e) + (d + e) + d, 0 + (a + b + c) + 0 + d + 0 + (d + e), 0 + (a + b) + 0 + (d + e) + 0 + (d + e), 0 + 0 + 0 + (d + e) + (d + e) + (d + e)] ∧ (∀ s ∈ [0 + (a + b + c) + (a + b + c) + 0 + 0 + 0, 0 + (a + b + c) + (a + b) + d + 0 + 0, 0 + (a + b) + (a + b) + (d + e) + 0 + 0, 0 + a + (a + b + c) + (d + e) + 0 + 0, 0 + (a + b + c) + a + d + d + 0, 0 + (a + b) + a + (d + e) + d + 0, 0 + 0 + (a + b + c) + (d + e) + d + 0, 0 + (a + b + c) + a + 0 + (d + e) + 0, 0 + a + a + (d + e) + (d + e) + 0, 0 + 0 + (a + b) + (d + e) + (d + e) + 0, 0 + (a + b + c) + 0 + d + d + d, 0 + (a + b) + 0 + (d + e) + d + d, 0 + (a + b + c) + 0 + 0 + (d + e) + d, 0 + a + 0 + (d + e) + (d + e) + d, 0 + (a + b + c) + 0 + d + 0 + (d + e), 0 + (a + b) + 0 + (d + e) + 0 + (d + e), 0 + 0 + 0 + (d + e) + (d + e) + (d + e)], (min a d + min a e + min b d + min b e + min c d + min c e) ≤ s) ∧ (List.count (min a d + min a e + min b d + min b e + min c d + min c e) [0 + (a + b + c) + (a + b + c) + 0 + 0 + 0, 0 + (a + b + c) + (a + b) + d + 0 + 0, 0 + (a + b) + (a + b) + (d + e) + 0 + 0, 0 + a + (a + b + c) + (d + e) + 0 + 0, 0 + (a + b + c) + a + d + d + 0, 0 + (a + b) + a + (d + e) + d + 0, 0 + 0 + (a + b + c) + (d + e) + d + 0, 0 + (a + b + c) + a + 0 + (d + e) + 0, 0 + a + a + (d + e) + (d + e) + 0, 0 + 0 + (a + b) + (d + e) + (d + e) + 0, 0 + (a + b + c) + 0 + d + d + d, 0 + (a + b) + 0 + (d + e) + d + d, 0 + (a + b + c) + 0 + 0 + (d + e) + d, 0 + a + 0 + (d + e) + (d + e) + d, 0 + (a + b + c) + 0 + d + 0 + (d + e), 0 + (a + b) + 0 + (d + e) + 0 + (d + e), 0 + 0 + 0 + (d + e) + (d + e) + (d + e)] = 1 ↔ (a ≠ d ∧ a ≠ e ∧ b ≠ d ∧ b ≠ e ∧ c ≠ d ∧ c ≠ e)) := by
  rw [forms_are]
  rcases Int.le_total d a with H30 | H03
  · skip
    rcases Int.le_total e a with H40 | H04
    · exact plain_00 a b c d e hde H40 hab hbc
    · skip
      rcases Int.le_total e b with H41 | H14
      · exact plain_01 a b c d e H30 H04 H41 hbc
      · skip
        rcases Int.le_total e c with H42 | H24
        · exact plain_02 a b c d e H30 hab H14 H42
        · skip
          exact plain_03 a b c d e H30 hab hbc H24
  · skip
    rcases Int.le_total d b with H31 | H13
    · skip
      rcases Int.le_total e b with H41 | H14
      · exact plain_11 a b c d e H03 hde H41 hbc
      · skip
        rcases Int.le_total e c with H42 | H24
        · exact plain_12 a b c d e H03 H31 H14 H42
        · skip
          exact plain_13 a b c d e H03 H31 hbc H24
    · skip
      rcases Int.le_total d c with H32 | H23
      · skip
        rcases Int.le_total e c with H42 | H24
        · exact plain_22 a b c d e hab H13 hde H42
        · skip
          exact plain_23 a b c d e hab H13 H32 H24
      · skip
        exact plain_33 a b c d e hab hbc H23 hde

theorem ad213 (p q r : Int) : p + q + r = q + p + r := by rw [Int.add_comm p q]
theorem ad312 (p q r : Int) : p + q + r = r + p + q := (Int.add_comm (p + q) r).trans (Int.add_assoc r p q).symm
theorem ad231 (p q r : Int) : p + q + r = q + r + p := (Int.add_assoc p q r).trans (Int.add_comm p (q + r))
theorem ad321 (p q r : Int) : p + q + r = r + q + p := (ad213 p q r).trans (ad312 q p r)
theorem sort3 (x y z : Int) : ∃ a b c, a ≤ b ∧ b ≤ c ∧ min (0 + z) (min (0 + y) (0 + x)) = a ∧ min (min (0 + y) (0 + x) + z) (0 + x + y) = a + b ∧ 0 + x + y + z = a + b + c ∧ (∀ d, min a d + min b d + min c d = min x d + min y d + min z d) ∧ (∀ d, (a ≠ d ∧ b ≠ d ∧ c ≠ d) ↔ (x ≠ d ∧ y ≠ d ∧ z ≠ d)) := by
  have key : ∀ a b c : Int, a ≤ b → b ≤ c → (a = x ∧ b = y ∧ c = z) ∨ (a = x ∧ b = z ∧ c = y) ∨ (a = y ∧ b = x ∧ c = z) ∨ (a = y ∧ b = z ∧ c = x) ∨ (a = z ∧ b = x ∧ c = y) ∨ (a = z ∧ b = y ∧ c = x) →
      a ≤ b ∧ b ≤ c ∧ min (0 + z) (min (0 + y) (0 + x)) = a ∧ min (min (0 + y) (0 + x) + z) (0 + x + y) = a + b ∧ 0 + x + y + z = a + b + c ∧ (∀ d, min a d + min b d + min c d = min x d + min y d + min z d) ∧ (∀ d, (a ≠ d ∧ b ≠ d ∧ c ≠ d) ↔ (x ≠ d ∧ y ≠ d ∧ z ≠ d)) := by
    intro a b c h1 h2 h
    obtain ⟨e1, e2, e3⟩ := six h1 h2 h
    refine ⟨h1, h2, e1, e2, e3, fun d => ?_, fun d => ?_⟩
    · rcases h with ⟨rfl, rfl, rfl⟩ | ⟨rfl, rfl, rfl⟩ | ⟨rfl, rfl, rfl⟩ | ⟨rfl, rfl, rfl⟩ | ⟨rfl, rfl, rfl⟩ | ⟨rfl, rfl, rfl⟩
      · rfl
      · exact Int.add_right_comm ..
      · exact ad213 ..
      · exact ad312 ..
      · exact ad231 ..
      · exact ad321 ..
    · rcases h with ⟨rfl, rfl, rfl⟩ | ⟨rfl, rfl, rfl⟩ | ⟨rfl, rfl, rfl⟩ | ⟨rfl, rfl, rfl⟩ | ⟨rfl, rfl, rfl⟩ | ⟨rfl, rfl, rfl⟩
      · exact Iff.rfl
      · exact ⟨fun q => ⟨q.1, q.2.2, q.2.1⟩, fun q => ⟨q.1, q.2.2, q.2.1⟩⟩
      · exact ⟨fun q => ⟨q.2.1, q.1, q.2.2⟩, fun q => ⟨q.2.1, q.1, q.2.2⟩⟩
      · exact ⟨fun q => ⟨q.2.2, q.1, q.2.1⟩, fun q => ⟨q.2.1, q.2.2, q.1⟩⟩
      · exact ⟨fun q => ⟨q.2.1, q.2.2, q.1⟩, fun q => ⟨q.2.2, q.1, q.2.1⟩⟩
      · exact ⟨fun q => ⟨q.2.2, q.2.1, q.1⟩, fun q => ⟨q.2.2, q.2.1, q.1⟩⟩
  rcases Int.le_total x y with h1 | h1 <;> rcases Int.le_total y z with h2 | h2
  · exact ⟨x, y, z, key x y z h1 h2 (.inl ⟨rfl, rfl, rfl⟩)⟩
  · rcases Int.le_total x z with h3 | h3
    · exact ⟨x, z, y, key x z y h3 h2 (.inr (.inl ⟨rfl, rfl, rfl⟩))⟩
    · exact ⟨z, x, y, key z x y h3 h1 (.inr (.inr (.inr (.inr (.inl ⟨rfl, rfl, rfl⟩)))))⟩
  · rcases Int.le_total x z with h3 | h3
    · exact ⟨y, x, z, key y x z h1 h3 (.inr (.inr (.inl ⟨rfl, rfl, rfl⟩)))⟩
    · exact ⟨y, z, x, key y z x h2 h3 (.inr (.inr (.inr (.inl ⟨rfl, rfl, rfl⟩))))⟩
  · exact ⟨z, y, x, key z y x h2 h1 (.inr (.inr (.inr (.inr (.inr ⟨rfl, rfl, rfl⟩)))))⟩
theorem sumsw {a b c a' b' c' x x' y y' z z' p q r s t u : Int} (h1 : a + b + c = x + y + z) (h2 : a' + b' + c' = x' + y' + z') (h3 : x + x' = p + q) (h4 : y + y' = r + s) (h5 : z + z' = t + u) : a + a' + b + b' + c + c' = p + q + r + s + t + u := by omega
theorem castOne {n : Nat} {X : Prop} (h : n = 1 ↔ X) : ((n : Int) = 1 ↔ X) := by
  rw [← h]
  constructor
  · intro h; omega
  · intro h; omega
theorem sort2 (x y : Int) : ∃ d e, d ≤ e ∧ min (0 + y) (0 + x) = d ∧ 0 + x + y = d + e ∧ (∀ a, min a d + min a e = min a x + min a y) ∧ (∀ a, (a ≠ d ∧ a ≠ e) ↔ (a ≠ x ∧ a ≠ y)) := by
  rw [Int.zero_add, Int.zero_add]
  rcases Int.le_total x y with h | h
  · exact ⟨x, y, h, Int.min_eq_right h, rfl, fun a => rfl, fun a => Iff.rfl⟩
  · exact ⟨y, x, h, Int.min_eq_left h, Int.add_comm .., fun a => Int.add_comm .., fun a => And.comm⟩
theorem ways_law (r0 r1 r2 r3 r4 f0 f1 f2 f3 g0 g1 g2 : Int) (hf0 : f0 = 0 + r0 + r1 + r2) (hf1 : f1 = min (min (0 + r1) (0 + r0) + r2) (0 + r0 + r1)) (hf2 : f2 = min (0 + r2) (min (0 + r1) (0 + r0))) (hf3 : f3 = 0) (hg0 : g0 = 0 + r3 + r4) (hg1 : g1 = min (0 + r4) (0 + r3)) (hg2 : g2 = 0) :
    ∃ many, look (waysOf [[(1, f0), (2, f1), (4, f2), (8, f3)], [(2, f0), (4, f1), (8, f2), (16, f3)], [(1, g0), (2, g1), (4, g2)], [(2, g0), (4, g1), (8, g2)], [(4, g0), (8, g1), (16, g2)]] [(0, 0, 1)]) 31 = some (min r0 r3 + min r0 r4 + min r1 r3 + min r1 r4 + min r2 r3 + min r2 r4, many) ∧
      (many = 1 ↔ (r0 ≠ r3 ∧ r0 ≠ r4 ∧ r1 ≠ r3 ∧ r1 ≠ r4 ∧ r2 ≠ r3 ∧ r2 ≠ r4)) := by
  obtain ⟨a, b, c, hab, hbc, e2, e1, e0, hm, hn⟩ := sort3 r0 r1 r2
  obtain ⟨d, e, hde, k1, k0, km, kn⟩ := sort2 r3 r4
  obtain ⟨p1, p2, p3⟩ := plain a b c d e hab hbc hde
  have hS : min a d + min a e + min b d + min b e + min c d + min c e = min r0 r3 + min r0 r4 + min r1 r3 + min r1 r4 + min r2 r3 + min r2 r4 := by
    have h1 := hm d
    have h2 := hm e
    have h3 := km r0
    have h4 := km r1
    have h5 := km r2
    exact sumsw h1 h2 h3 h4 h5
  have hN : (a ≠ d ∧ a ≠ e ∧ b ≠ d ∧ b ≠ e ∧ c ≠ d ∧ c ≠ e) ↔ (r0 ≠ r3 ∧ r0 ≠ r4 ∧ r1 ≠ r3 ∧ r1 ≠ r4 ∧ r2 ≠ r3 ∧ r2 ≠ r4) := by
    have h1 := hn d
    have h2 := hn e
    have h3 := kn r0
    have h4 := kn r1
    have h5 := kn r2
    constructor
    · rintro ⟨q1, q2, q3, q4, q5, q6⟩
      obtain ⟨x1, x2, x3⟩ := h1.mp ⟨q1, q3, q5⟩
      obtain ⟨y1, y2, y3⟩ := h2.mp ⟨q2, q4, q6⟩
      obtain ⟨z1, z2⟩ := h3.mp ⟨x1, y1⟩
      obtain ⟨z3, z4⟩ := h4.mp ⟨x2, y2⟩
      obtain ⟨z5, z6⟩ := h5.mp ⟨x3, y3⟩
      exact ⟨z1, z2, z3, z4, z5, z6⟩
    · rintro ⟨q1, q2, q3, q4, q5, q6⟩
      obtain ⟨x1, y1⟩ := h3.mpr ⟨q1, q2⟩
      obtain ⟨x2, y2⟩ := h4.mpr ⟨q3, q4⟩
      obtain ⟨x3, y3⟩ := h5.mpr ⟨q5, q6⟩
      obtain ⟨z1, z2, z3⟩ := h1.mpr ⟨x1, x2, x3⟩
      obtain ⟨w1, w2, w3⟩ := h2.mpr ⟨y1, y2, y3⟩
      exact ⟨z1, w1, z2, w2, z3, w3⟩
  have E0 : f0 = a + b + c := by rw [hf0, e0]
  have E1 : f1 = a + b := by rw [hf1, e1]
  have E2 : f2 = a := by rw [hf2, e2]
  have G0 : g0 = d + e := by rw [hg0, k0]
  have G1 : g1 = d := by rw [hg1, k1]
  have hb := best_is p1 p2
  refine ⟨_, ?h1, (castOne p3).trans hN⟩
  rw [ways_are, sums_are, E0, E1, E2, hf3, G0, G1, hg2, ← hS]
  exact hb

open PySem PySem.W PyProof.Rows PySem.Calls PySem.Builtin
theorem eq_yes {prog : Program} {w : World} {A : Around} {E : Value → Shared → Prop} {s : Shared} {Q : Value → Shared → Prop} {a b : Int} {t u : Tok} (e : a = b) (h : Q (.bool true) s) : wpAny (model prog w) A (compareOp .Eq (.int a t) (.int b u)) Q E s := by
  subst e; exact eq_int (by simpa using h)
theorem eqb_yes {prog : Program} {w : World} {A : Around} {E : Value → Shared → Prop} {s : Shared} {Q : Value → Shared → Prop} {a b : Bool} (e : a = b) (h : Q (.bool true) s) : wpAny (model prog w) A (compareOp .Eq (.bool a) (.bool b)) Q E s := by
  subst e; exact eq_bool (by simpa using h)
theorem ite_min (a b : Int) : (if b < a then b else a) = min a b := by
  split <;> omega
theorem pairs_sum (r0 r1 r2 r3 r4 : Int) : min r0 r3 + min r0 r4 + min r1 r3 + min r1 r4 + min r2 r3 + min r2 r4 = ((pairs6 r0 r1 r2 r3 r4).map fun p => if p.2 < p.1 then p.2 else p.1).sum := by
  simp only [pairs6, List.map_cons, List.map_nil, List.sum_cons, List.sum_nil, ite_min]
  omega
theorem pairs_none {many : Int} {r0 r1 r2 r3 r4 : Int} (h : many = 1 ↔ (r0 ≠ r3 ∧ r0 ≠ r4 ∧ r1 ≠ r3 ∧ r1 ≠ r4 ∧ r2 ≠ r3 ∧ r2 ≠ r4)) : decide (many = 1) = decide ((((pairs6 r0 r1 r2 r3 r4).filter fun p => decide (p.1 = p.2)).map fun p => p.1) = []) := by
  refine decide_eq_decide.mpr (h.trans ?_)
  rw [List.map_eq_nil_iff, List.filter_eq_nil_iff]
  simp only [pairs6, List.forall_mem_cons, decide_eq_true_eq]
  constructor
  · rintro ⟨q1, q2, q3, q4, q5, q6⟩
    exact ⟨q1, q2, q3, q4, q5, q6, fun _ h => nomatch h⟩
  · rintro ⟨q1, q2, q3, q4, q5, q6, _⟩
    exact ⟨q1, q2, q3, q4, q5, q6⟩
theorem news_dup {g h : Heap} {L : Addr} {a b c p q : Addr × Obj} {nw : List (Addr × Obj)} (N : News g L h ([a, b, c] ++ nw)) (hp : p ∈ nw) (hq : q ∈ nw) : News g L h (a :: b :: c :: p :: q :: nw) := fun z hz => by
  rcases List.mem_cons.mp hz with rfl | hz
  · exact N _ (.head _)
  rcases List.mem_cons.mp hz with rfl | hz
  · exact N _ (.tail _ (.head _))
  rcases List.mem_cons.mp hz with rfl | hz
  · exact N _ (.tail _ (.tail _ (.head _)))
  rcases List.mem_cons.mp hz with rfl | hz
  · exact N _ (.tail _ (.tail _ (.tail _ hp)))
  rcases List.mem_cons.mp hz with rfl | hz
  · exact N _ (.tail _ (.tail _ (.tail _ hq)))
  · exact N _ (.tail _ (.tail _ (.tail _ hz)))
theorem lex_front {w : World} {X : Lx} {ln : Int} {u : Tok} {vs : List Value} {c c4 : Nat} {g h : Heap} {L : Addr} {a b : Addr × Obj} {l : List (Addr × Obj)} (N : News g L h ((a :: b :: l) ++ lexG w X ln u vs c [] c4)) :
    News g L h (a :: b :: (X.x, instObj 220 X.d) :: (X.d, lexD w X.f X.l ln X.t1 X.t2 X.t3 X.t4 u X.u3 4) :: l) := fun p hp => by
  have hx : ∀ p ∈ [(X.x, instObj 220 X.d), (X.d, lexD w X.f X.l ln X.t1 X.t2 X.t3 X.t4 u X.u3 4)], p ∈ lexG w X ln u vs c [] c4 := fun p hp => by
    rw [lexG_eq]
    rcases List.mem_cons.mp hp with rfl | hp
    · exact .tail _ (.head _)
    · rw [List.mem_singleton.mp hp]; exact .tail _ (.tail _ (.head _))
  rcases List.mem_cons.mp hp with rfl | hp
  · exact N _ (.head _)
  rcases List.mem_cons.mp hp with rfl | hp
  · exact N _ (.tail _ (.head _))
  rcases List.mem_cons.mp hp with rfl | hp
  · exact N _ (List.mem_append_right _ (hx _ (.head _)))
  rcases List.mem_cons.mp hp with rfl | hp
  · exact N _ (List.mem_append_right _ (hx _ (.tail _ (.head _))))
  · exact N _ (List.mem_append_left _ (.tail _ (.tail _ hp)))
theorem ways_cut {g h : Heap} {L : Addr} {T a b c d e : Addr × Obj} {new l : List (Addr × Obj)} (N : News g L h ([T] ++ (new ++ (a :: b :: c :: d :: e :: l)))) : News g L h [T, a, b, e] := fun p hp => by
  simp only [List.mem_cons, List.not_mem_nil, or_false] at hp
  rcases hp with rfl | rfl | rfl | rfl
  · exact N _ (.head _)
  · exact N _ (List.mem_append_right _ (List.mem_append_right _ (.head _)))
  · exact N _ (List.mem_append_right _ (List.mem_append_right _ (.tail _ (.head _))))
  · exact N _ (List.mem_append_right _ (List.mem_append_right _ (.tail _ (.tail _ (.tail _ (.tail _ (.head _)))))))
theorem rows_short {f0 f1 f2 f3 g0 g1 g2 : Int} : ∀ row ∈ [[(1, f0), (2, f1), (4, f2), (8, f3)], [(2, f0), (4, f1), (8, f2), ((16 : Int), f3)], [(1, g0), (2, g1), (4, g2)], [(2, g0), (4, g1), (8, g2)], [(4, g0), (8, g1), (16, g2)]], row.length ≤ 4 := fun row h => by
  simp only [List.mem_cons, List.not_mem_nil, or_false] at h
  rcases h with rfl | rfl | rfl | rfl | rfl <;> exact Nat.le_of_ble_eq_true rfl
theorem rest_w (w : World) (X : Lx) (HL : LexH X) {tabA tabB : List (Addr × Obj)} {xA xB Dr f : Addr} {oR : Obj} {cd : Value} {ln : Int} {u : Tok} {vs : List Value} {c c4 : Nat} {r0 r1 r2 r3 r4 : Int} {q0 q1 q2 q3 q4 : Tok} {ps : Array Value}
    {pr : Program} {loose : List Str} {mean : ExcName → Option Value} {mg mb : Str → Option Value} {outer : List Env} {A₀ : Around} {base g : Heap} {L : Addr} {m₀ : Str → Option Value} {s : Shared} {Q : Flow → Shared → Prop} {E : Value → Shared → Prop}
    (a0 : 1 ≤ r0) (b0 : r0 < 31) (a1 : 1 ≤ r1) (b1 : r1 < 31) (a2 : 1 ≤ r2) (b2 : r2 < 31) (a3 : 1 ≤ r3) (b3 : r3 < 31) (a4 : 1 ≤ r4) (b4 : r4 < 31)
    (hTA : Tab4 w X xA (0 : Int) (min (0 + r2) (min (0 + r1) (0 + r0))) (min (min (0 + r1) (0 + r0) + r2) (0 + r0 + r1)) (0 + r0 + r1 + r2) tabA) (hTB : Tab3 w X xB (0 : Int) (min (0 + r4) (0 + r3)) (0 + r3 + r4) tabB) (hBB : Bef [] 3 vs ln)
    (B : Below A₀ base outer g) (F : Fr g L s.heap (fun y => if y = Str.ofString "table" then some (.ref xB) else if y = Str.ofString "table" then some (.ref xA) else if y = Str.ofString "second" then some (.ref xB) else if y = Str.ofString "first" then some (.ref xA) else if y = Str.ofString "lexer" then some (.ref X.x) else m₀ y)) (X0 : (Mine.K w.params).In g) (N : News g L s.heap (((L + 1, oR) :: (Dr, LCg.lst [.int r0 q0, .int r1 q1, .int r2 q2, .int r3 q3, .int r4 q4]) :: (264, tabObj ps) :: (tabA ++ tabB)) ++ lexG w X ln u vs c [] c4)) (T : Top pr loose mean mg mb g)
    (dR : oR.data = .cell (some (.ref Dr))) (hne : ∀ p ∈ lexG w X ln u vs c [] c4, ∀ q ∈ ((L + 1, oR) :: (Dr, LCg.lst [.int r0 q0, .int r1 q1, .int r2 q2, .int r3 q3, .int r4 q4]) :: (264, tabObj ps) :: (tabA ++ tabB)), p.1 ≠ q.1)
    (hQ : ∀ h' tk' m', Fr g L h' m' → GrownAt 264 h' → Q (.ret (.bool true)) { s with heap := h', toks := tk' }) :
    wpAny (model PySem.Challenge.rw_wj0054_01.row.prog w) ((roof 310 1500 outer).deeper (envOfC (Str.ofString "law") lawSc L f cd)) (execs lawRest (envOfC (Str.ofString "law") lawSc L f cd)) Q E s := by
  obtain ⟨many, hway, hone⟩ := ways_law r0 r1 r2 r3 r4 (0 + r0 + r1 + r2) (min (min (0 + r1) (0 + r0) + r2) (0 + r0 + r1)) (min (0 + r2) (min (0 + r1) (0 + r0))) (0 : Int) (0 + r3 + r4) (min (0 + r4) (0 + r3)) (0 : Int) rfl rfl rfl rfl rfl rfl rfl
  have l0 : 0 ≤ (0 + r0 + r1 + r2) ∧ (0 + r0 + r1 + r2) < 151 := by omega
  have l1 : 0 ≤ (min (min (0 + r1) (0 + r0) + r2) (0 + r0 + r1)) ∧ (min (min (0 + r1) (0 + r0) + r2) (0 + r0 + r1)) < 151 := by omega
  have l2 : 0 ≤ (min (0 + r2) (min (0 + r1) (0 + r0))) ∧ (min (0 + r2) (min (0 + r1) (0 + r0))) < 151 := by omega
  have k0 : 0 ≤ (0 + r3 + r4) ∧ (0 + r3 + r4) < 151 := by omega
  have k1 : 0 ≤ (min (0 + r4) (0 + r3)) ∧ (min (0 + r4) (0 + r3)) < 151 := by omega
  revert T N X0 F B
  k_fill
  intro B F X0 N T
  unfold lawRest lawSc
  k_with_none
  k_with "storeName" => (k_here; k_dflt (refine' storeX_Lr ?F ?N ?a ?b ?_; (case a => exact rfl); (case b => exact rfl); (case F => k_asm); (case N => k_asm); k_whole; intro _ _ _; (try k_sweep)))
  k_with "eval Name" => (k_here; k_dflt (refine' nameX_Lr ?F ?a ?b ?v ?_; (case a => exact rfl); (case b => exact rfl); (case F => k_asm); (case v => exact rfl); k_whole))
  k_with "execs cons" => (refine wpAny_execs_cons ?_; (try k_fold))
  k_with "sub" => first | exact List.forall_mem_nil _ | exact fun _ h9 => h9 | ((first | refine' sub_keep ?_ | refine' sub_drop ?_); k_extra "sub")
  k_with "tb_rel" => first | (k_extra "sub"; done) | exact List.forall_mem_nil _ | (refine' fmc ?sa ?sb; (case sa => k_mem); (case sb => k_extra "tb_rel"))
  k_with "k_in" => (refine' Frag.In.keeps ?X (Fr.keep ?F); (case F => with_reducible assumption); (case X => with_reducible assumption))
  k_with "call ref" => (k_here; (with_reducible show wpAny _ _ (call (Value.ref 210) _ _) _ _ _); k_dflt (refine' SpecG.useP (gt_z w X HL ln 3 u c c4 vs hBB) _ ?B ?F ?X ?N ?T ?hA ?hf ?hK ?hh ?hd ?hu ?hne ?_; (case F => k_asm); (case B => k_asm); (case X => k_asm); (case T => k_asm); (case hA => exact rfl); (case hf => exact rfl); (case hK => exact rfl); (case hh => exact rfl); (case hd => exact Nat.le_of_ble_eq_true rfl); (case hu => exact Nat.le_of_ble_eq_true rfl); (case N => exact N); (case hne => exact hne); k_whole; intro v' sm' h' tk' hp' F' N' hneA; (obtain ⟨⟨vs5, c5, u5, rfl⟩, t5, rfl⟩ := hp'); clear hneA; (replace N' := lex_front N'); (try k_sweep)))
  k_with "call ref" => (k_here; (with_reducible show wpAny _ _ (call (Value.ref 295) _ _) _ _ _); k_dflt (refine' SpecG.readN (rows_w w X xA xB (0 + r0 + r1 + r2) (min (min (0 + r1) (0 + r0) + r2) (0 + r0 + r1)) (min (0 + r2) (min (0 + r1) (0 + r0))) (0 : Int) (0 + r3 + r4) (min (0 + r4) (0 + r3)) (0 : Int) tabA tabB l0.1 l0.2 l1.1 l1.2 l2.1 l2.2 (by decide) (by decide) k0.1 k0.2 k1.1 k1.2 (by decide) (by decide) hTA hTB) (R := fun v new => ∃ R, v = .ref R ∧ Plain new ∧ RowsIn new R [[(1, (0 + r0 + r1 + r2)), (2, (min (min (0 + r1) (0 + r0) + r2) (0 + r0 + r1))), (4, (min (0 + r2) (min (0 + r1) (0 + r0)))), (8, (0 : Int))], [(2, (0 + r0 + r1 + r2)), (4, (min (min (0 + r1) (0 + r0) + r2) (0 + r0 + r1))), (8, (min (0 + r2) (min (0 + r1) (0 + r0)))), (16, (0 : Int))], [(1, (0 + r3 + r4)), (2, (min (0 + r4) (0 + r3))), (4, (0 : Int))], [(2, (0 + r3 + r4)), (4, (min (0 + r4) (0 + r3))), (8, (0 : Int))], [(4, (0 + r3 + r4)), (8, (min (0 + r4) (0 + r3))), (16, (0 : Int))]]) ?hR ?B ?F ?X ?N ?T ?hA ?hf ?hK ?hh ?hd ?hu ?hs ?_; (case F => k_asm); (case B => k_asm); (case X => k_asm); (case T => k_asm); (case hA => exact rfl); (case hf => exact rfl); (case hK => exact rfl); (case hh => exact rfl); (case hd => exact Nat.le_of_ble_eq_true rfl); (case hu => exact Nat.le_of_ble_eq_true rfl); (case N => k_asm); (case hR => (rintro v sm ⟨R, new, rfl, rfl, h1, h2⟩; exact ⟨new, ⟨R, rfl, h1, h2⟩, rfl⟩)); (case hs => exact fun q hq => List.mem_cons_of_mem _ (List.mem_cons_of_mem _ (List.mem_cons_of_mem _ (List.mem_cons_of_mem _ (List.mem_cons_of_mem _ hq))))); k_whole; intro v' new6 h' tk' hv' F' N'; (obtain ⟨R6, rfl, hP6, hR6⟩ := hv'); (try k_sweep)))
  k_with "call ref" => (k_here; (with_reducible show wpAny _ _ (call (Value.ref 302) _ _) _ _ _); k_dflt (refine' SpecG.readN (ways_w w R6 new6 _ hP6 hR6 (Nat.le_of_ble_eq_true rfl) rows_short _ many hway) (R := fun v new => ∃ T t u, v = .ref T ∧ new = [(T, tupO (.int (min r0 r3 + min r0 r4 + min r1 r3 + min r1 r4 + min r2 r3 + min r2 r4) t) (.int many u))]) ?hR ?B ?F ?X ?N ?T ?hA ?hf ?hK ?hh ?hd ?hu ?hs ?_; (case F => k_asm); (case B => k_asm); (case X => k_asm); (case T => k_asm); (case hA => exact rfl); (case hf => exact rfl); (case hK => exact rfl); (case hh => exact rfl); (case hd => exact Nat.le_of_ble_eq_true rfl); (case hu => exact Nat.le_of_ble_eq_true rfl); (case N => k_asm); (case hR => (rintro v sm ⟨T, t, u, rfl, rfl⟩; exact ⟨[_], ⟨T, t, u, rfl, rfl⟩, rfl⟩)); (case hs => exact fun q hq => List.mem_append_left _ hq); k_whole; intro v' new7 h' tk' hv' F' N'; (obtain ⟨T7, t7, u7, rfl, rfl⟩ := hv'); (replace N' := ways_cut N'); (try k_sweep)))
  k_with "exec Assign" => (k_here; (with_reducible show wpAny _ _ (exec (Stmt.Assign [Expr.Name _ _] (Expr.ListComp _ [_, _] _ _) _) _) _ _ _); k_dflt (refine' comp_in_to ?F ?hL ?hsw ?hclos ?hcell ?hkind ?hnames ?hy ?hp ?_; (case F => k_asm); (case hL => exact rfl); (case hsw => exact rfl); (case hclos => exact rfl); (case hkind => exact rfl); (case hnames => decide); (case hcell => decide); (case hy => exact rfl); (case hp => exact rfl); k_whole))
  k_with "pyIter ref" => (k_here; (with_reducible show wpAny _ _ (pyIter (Value.ref _)) (CInA _ _ _ _ _ _ _ _ _ _ _ _) _ _); k_dflt (refine' outer_list_to (x := Str.ofString "a") (vs := [.int r0 q0, .int r1 q1, .int r2 q2]) (c := 0) ?hh ?hx ?hk ?F ?N ?hl ?hc ?hd ?hs2 (fun k ys nw => PairK (pairs6 r0 r1 r2 r3 r4) _ (2 * k) ys nw) ?hJ ?j0 ?oT ?oF; (case hh => exact rfl); (case hx => exact rfl); (case hk => exact rfl); (case F => k_asm); (case N => k_asm); (case hl => exact List.mem_cons_self ..); (case hc => exact rfl); (case hd => exact rfl); (case hs2 => exact fun _ _ => rfl); (case j0 => exact PairK.start _ _); (case hJ => (rintro i ys nw ⟨hs, -, -⟩; exact hs _ (List.mem_cons_self ..))); k_whole; (case' oT => (intro Ex1 i1 v1 I1 oI1 C1 D1 oC1 m1 ys1 nw1 h1 tk1 hv1 hJ1 hC1 hmx1 hIC1 hID1 hCD1 hfI1 F1 N1 ap1; obtain ⟨x1, t1, rfl, hx1⟩ := ints_at3 hv1; (replace N1 := news_dup N1 (hJ1.1 _ (List.mem_cons_of_mem _ (List.mem_cons_of_mem _ (List.mem_cons_self ..)))) (hJ1.1 _ (List.mem_cons_of_mem _ (List.mem_cons_of_mem _ (List.mem_cons_of_mem _ (List.mem_cons_self ..)))))))); (case' oF => (intro D9 ys9 nw9 h9 tk9 hJ9 F9 N9; (have hP9 := hJ9.2.1); (have hG9 := hJ9.1 (264, tabObj ps) (by k_mem)); (have hz9 := Nat.le_trans (Nat.le_of_eq hJ9.2.2) (Nat.le_of_ble_eq_true rfl : 2 * 3 ≤ sizeLine))))))
  k_with "eval ListComp" => (k_here; (with_reducible show wpAny _ _ (eval (Expr.ListComp _ [_] _ _) _) _ _ _); k_dflt (refine' comp_in ?F ?hclos ?hcell ?hkind ?hnames ?_; (case F => k_asm); (case hclos => exact rfl); (case hkind => exact rfl); (case hnames => decide); (case hcell => decide); k_whole))
  k_with "pyIter ref" => (k_here; (with_reducible show wpAny _ _ (pyIter (Value.ref D9)) (CIn _ _ _ _ _ _ (Expr.ListComp _ [⟨_, _, [], _⟩] _ _) _ _ _ _) _ _); k_dflt (refine' pairs_in (x := Str.ofString "a") (y := Str.ofString "b") (vs := ys9) (P := (pairs6 r0 r1 r2 r3 r4)) ?hh ?hx ?hy ?hxy ?hk ?F ?N ?hl ?hc ?hd ?hP ?hz (fun a b => if b < a then b else a) ?sS ?sF; (case hh => exact rfl); (case hx => exact rfl); (case hy => exact rfl); (case hxy => decide); (case hk => exact rfl); (case F => k_asm); (case N => k_asm); (case hl => k_mem); (case hc => exact rfl); (case hd => exact rfl); (case hP => exact hP9.mono (fun p hp => by simp only [List.mem_cons, hp, or_true])); (case hz => exact hz9); k_whole; (case' sS => (intro Ex4 i4 a4 b4 I4 oI4 C4 D4 oC4 m4 ys4 h4 tk4 ta4 tb4 hab4 hC4 hma4 hmb4 F4 N4; (simp only [List.cons_append, List.nil_append] at N4))); (case' sF => (intro D5 ys5 h5 tk5 hi5 F5 N5; (have hsum5 := pairs_sum r0 r1 r2 r3 r4)))))
  k_with "pyIter ref" => (k_here; (with_reducible show wpAny _ _ (pyIter (Value.ref D9)) (CIn _ _ _ _ _ _ (Expr.ListComp _ [⟨_, _, [_], _⟩] _ _) _ _ _ _) _ _); k_dflt (refine' pairs_test (x := Str.ofString "a") (y := Str.ofString "b") (vs := ys9) (P := (pairs6 r0 r1 r2 r3 r4)) ?hh ?hx ?hy ?hxy ?hk ?F ?N ?hl ?hc ?hd ?hP ?hz (fun a _ => a) (fun a b => decide (a = b)) ?sT ?sE ?sG; (case hh => exact rfl); (case hx => exact rfl); (case hy => exact rfl); (case hxy => decide); (case hk => exact rfl); (case F => k_asm); (case N => k_asm); (case hl => k_mem); (case hc => exact rfl); (case hd => exact rfl); (case hP => exact hP9.mono (fun p hp => by simp only [List.mem_cons, hp, or_true])); (case hz => exact hz9); k_whole; (case' sT => (intro Ex6 i6 a6 b6 I6 oI6 C6 D6 oC6 m6 ys6 h6 tk6 ta6 tb6 hab6 hC6 hma6 hmb6 F6 N6; (simp only [List.cons_append, List.nil_append] at N6))); (case' sE => (intro Ex7 i7 a7 b7 I7 oI7 C7 D7 oC7 m7 ys7 h7 tk7 ta7 tb7 hab7 hC7 hma7 hmb7 F7 N7; (simp only [List.cons_append, List.nil_append] at N7))); (case' sG => (intro D8 ys8 h8 tk8 hi8 F8 N8))))
  k_with "compareOp Eq int int" => (k_here; (with_reducible show wpAny _ _ (compareOp _ (Value.int _ _) (Value.int (List.sum _) _)) _ _ _); k_dflt (refine' eq_yes ?he ?_; (case he => exact hsum5)))
  k_with "compareOp Eq bool bool" => (k_here; k_dflt (refine' eqb_yes ?he ?_; (case he => exact pairs_none hone)))
  k_with "PEnd" => (k_dflt (refine' ⟨_, _, _, rfl, rfl, ?F, ?N⟩; (case F => k_asm); (case N => ((try simp only [List.cons_append, List.nil_append, List.append_assoc]); k_asm))))
  k_with "TEnd" => (k_dflt (refine' ⟨rfl, _, _, rfl, ?F, ?N⟩; (case F => k_asm); (case N => ((try simp only [List.cons_append, List.nil_append, List.append_assoc]); k_asm))))
  k_with "pyIter ref" => (k_here; (with_reducible show wpAny _ _ (pyIter (Value.ref _)) (NEnd _ _ _ _ _ _ _ _ _ _ _ _ _ _) _ _); k_dflt (refine' inner_list (I := I1) (C := C1) (D := D1) (y := Str.ofString "b") (vs := [.int r3 q3, .int r4 q4]) (c := 0) ?hh ?hy ?hk ?F ?N ?hl ?hc ?hd hC1 hIC1 hID1 hCD1 hfI1 ?ap (fun j ys nw => PairK (pairs6 r0 r1 r2 r3 r4) _ (2 * i1 + j) ys nw) ?hJ (hJ1.rebase ?jm) ?iT ?fin; (case hh => exact rfl); (case hy => exact rfl); (case hk => exact rfl); (case F => k_asm); (case N => (refine' news_rot ?N6; (case N6 => k_asm))); (case hl => exact List.mem_cons_self ..); (case hc => exact rfl); (case hd => exact rfl); (case ap => (refine' apart_two ?l6 ap1 (hJ1.1 _ (List.mem_cons_of_mem _ (List.mem_cons_of_mem _ (List.mem_cons_self ..)))) (hJ1.1 _ (List.mem_cons_of_mem _ (List.mem_cons_of_mem _ (List.mem_cons_of_mem _ (List.mem_cons_self ..))))); (case l6 => assumption))); (case jm => exact fun p hp => List.mem_cons_of_mem _ (List.mem_cons_of_mem _ (List.mem_cons_of_mem _ hp))); (case hJ => (rintro i ys nw hq; exact ⟨hq.1 _ (List.mem_cons_self ..), hq.short (Nat.le_of_ble_eq_true rfl)⟩)); (case fin => exact fun ys nw hq => PairK.weaken hq fun p hp => List.mem_cons_of_mem _ (List.mem_cons_of_mem _ (List.mem_cons_of_mem _ (hJ1.1 p hp)))); k_whole; (case' iT => (intro Ex2 j2 v2 I2 oI2 oC2 m2 ys2 nw2 h2 tk2 hv2 hJ2 hC2 hmb2 hkp2 F2 N2 ap2; obtain ⟨x2, t2, rfl, hx2⟩ := ints_at2 hv2; (have hma2 := hkp2 (Str.ofString "a") _ (by decide) hmx1); (simp only [List.cons_append, List.nil_append] at N2)))))
  k_with "newTuple" => (k_here; k_dflt (refine' kup_newTuple ?F ?N ?_ ?z; (case F => k_asm); (case N => k_asm); (case z => kmk_size)); intro T6 h6 F6 N6 lT6; (try k_sweep))
  k_with "EEnd" => (k_dflt (refine' eend_pair (pre := [(I2, oI2), (C1, oC2), (D1, _), (I1, oI1)]) ?F ?N ?lT ?hpre ap2 hJ2 (pairs6_at hx1 hx2); (case F => k_asm); (case N => ((try simp only [List.cons_append, List.nil_append, List.append_assoc]); exact N6)); (case lT => ((try simp only [List.cons_append, List.nil_append, List.append_assoc]); exact lT6)); (case hpre => (intro b hb; (simp only [List.mem_cons, List.not_mem_nil, or_false, List.map_cons, List.map_nil] at hb ⊢); (rcases hb with h | h | h | h) <;> simp [h]))))
  k_steps
  all_goals (
    refine' hQ _ _ _ ?kF ?kG
    case kF => k_asm
    case kG => exact GrownAt.of (ps := ps) (by k_asm) (by simp only [List.mem_cons, hG9, or_true]))

theorem clrTL : True := by
  k_with_none
  trivial
open PySem PySem.W PyProof.Rows PySem.Calls PySem.Builtin
theorem lex_tab3 {w : World} {X : Lx} (H : LexH X) {x : Addr} {v0 v1 v2 : Int} {tab : List (Addr × Obj)} {ln : Int} {u1 : Tok} {vs : List Value} {c3 : Nat} {ps : List Value} {c4 : Nat} (h : Tab3 w X x v0 v1 v2 tab) : ∀ p ∈ lexG w X ln u1 vs c3 ps c4, ∀ q ∈ tab, p.1 ≠ q.1 := fun p hp q hq e => by
  have a := (lexG_le H p hp).2
  rw [e] at a
  exact Nat.lt_irrefl _ (Nat.lt_of_lt_of_le (tabL_gt h q hq) a)
theorem news_tabs {g h : Heap} {L : Addr} {a1 a2 a3 a4 a5 a6 a7 c r d e : Addr × Obj} {tA tB lx : List (Addr × Obj)} (N : News g L h (c :: a1 :: a2 :: a3 :: a4 :: a5 :: a6 :: a7 :: r :: d :: e :: (tA ++ (tB ++ lx)))) : News g L h ((r :: d :: e :: (tA ++ tB)) ++ lx) := fun z hz => N z (by
  simp only [List.mem_cons, List.mem_append, List.cons_append] at hz ⊢
  rcases hz with h | h | h | (h | h) | h <;> simp [h])
theorem cell_ne {g h : Heap} {L c : Addr} {o : Obj} {v : Option Value} {big : List (Addr × Obj)} {p : Addr × Obj} (N : News g L h big) (hm : (c, o) ∈ big) (hd : o.data = .cell v) (hp : p ∈ big) (hn : ∀ v, p.2.data ≠ .cell v) : p.1 ≠ c := fun e => by
  have h1 := (N _ hm).1
  have h2 := (N p hp).1
  rw [e, h1] at h2
  exact hn v (Option.some.inj h2 ▸ hd)
theorem news_pull {g h : Heap} {L : Addr} {a1 a2 a3 a4 a5 a6 a7 c : Addr × Obj} {l : List (Addr × Obj)} (N : News g L h (a1 :: a2 :: a3 :: a4 :: a5 :: a6 :: a7 :: c :: l)) : News g L h (c :: a1 :: a2 :: a3 :: a4 :: a5 :: a6 :: a7 :: l) := fun z hz => N z (by
  simp only [List.mem_cons] at hz ⊢
  rcases hz with h | h | h | h | h | h | h | h | h <;> simp [h])
theorem to_roof {M : Model} {α : Type} {env : Env} {t : Sem α} {Q : α → Shared → Prop} {E : Value → Shared → Prop} {s : Shared} (h : wpAny M ((roof 310 1500 []).deeper env) t Q (fun _ _ => False) s) : wpAny M (callerA.deeper env) t Q E s := wpAny_mono (fun Γ q hΓ =>
  h Γ q ⟨hΓ.1, Nat.le_trans hΓ.2.1 (Nat.le_of_ble_eq_true rfl), hΓ.2.2.1, fun _ e => (nomatch e), Nat.le_trans hΓ.2.2.2.2 (Nat.le_of_ble_eq_true rfl)⟩) (fun _ _ h => h) fun _ _ h => h.elim
theorem tail_w (w : World) (X : Lx) (HL : LexH X) {tabA tabB : List (Addr × Obj)} {xA xB Dr f : Addr} {oR oO : Obj} {v₀ : Option Value} {cd : Value} {lnA lnB : Int} {uA uB : Tok} {vsA vsB : List Value} {cA cB c4A c4B : Nat} {r0 r1 r2 r3 r4 : Int} {q0 q1 q2 q3 q4 : Tok} {ps : Array Value}
    {pr : Program} {loose : List Str} {mean : ExcName → Option Value} {mg mb : Str → Option Value} {outer : List Env} {A₀ : Around} {base g : Heap} {L : Addr} {m₀ : Str → Option Value} {s : Shared} {Q : Flow → Shared → Prop}
    (a0 : 1 ≤ r0) (b0 : r0 < 31) (a1 : 1 ≤ r1) (b1 : r1 < 31) (a2 : 1 ≤ r2) (b2 : r2 < 31) (a3 : 1 ≤ r3) (b3 : r3 < 31) (a4 : 1 ≤ r4) (b4 : r4 < 31)
    (hTA : Tab4 w X xA (0 : Int) (min (0 + r2) (min (0 + r1) (0 + r0))) (min (min (0 + r1) (0 + r0) + r2) (0 + r0 + r1)) (0 + r0 + r1 + r2) tabA) (hTB : Tab3 w X xB (0 : Int) (min (0 + r4) (0 + r3)) (0 + r3 + r4) tabB) (hBB : Bef [] 3 vsB lnB)
    (B : Below A₀ base outer g) (F : Fr g L s.heap (fun y => if y = Str.ofString "second" then some (.ref xB) else if y = Str.ofString "first" then some (.ref xA) else if y = Str.ofString "lexer" then some (.ref X.x) else m₀ y)) (X0 : (Mine.K w.params).In g) (N : News g L s.heap ([(Dr, LCg.lst [.int r0 q0, .int r1 q1, .int r2 q2, .int r3 q3, .int r4 q4]), (L + 1 + 1, oO), (L + 1, oR), (264, tabObj ps)] ++ tabA ++ (tabB ++ lexG w X lnB uB vsB cB [] c4B))) (T : Top pr loose mean mg mb g)
    (dR : oR.data = .cell (some (.ref Dr))) (dO : oO.data = .cell v₀)
    (hneA : ∀ p ∈ tabA ++ lexG w X lnA uA vsA cA [] c4A, ∀ q ∈ [(Dr, LCg.lst [.int r0 q0, .int r1 q1, .int r2 q2, .int r3 q3, .int r4 q4]), (L + 1 + 1, oO), (L + 1, oR), (264, tabObj ps)], p.1 ≠ q.1)
    (hneB : ∀ p ∈ tabB ++ lexG w X lnB uB vsB cB [] c4B, ∀ q ∈ [(Dr, LCg.lst [.int r0 q0, .int r1 q1, .int r2 q2, .int r3 q3, .int r4 q4]), (L + 1 + 1, oO), (L + 1, oR), (264, tabObj ps)] ++ tabA, p.1 ≠ q.1)
    (hQ : ∀ h' tk' m', Fr g L h' m' → GrownAt 264 h' → Q (.ret (.bool true)) { s with heap := h', toks := tk' }) :
    wpAny (model PySem.Challenge.rw_wj0054_01.row.prog w) ((roof 310 1500 outer).deeper (envOfC (Str.ofString "law") lawSc L f cd)) (execs lawLoop (envOfC (Str.ofString "law") lawSc L f cd)) Q (fun _ _ => False) s := by
  have hcell : ∀ p ∈ tabA ++ (tabB ++ lexG w X lnB uB vsB cB [] c4B), p.1 ≠ L + 1 + 1 := fun p hp => by
    rcases List.mem_append.mp hp with hp | hp
    · exact hneA p (List.mem_append_left _ hp) _ (.tail _ (.head _))
    · exact hneB p hp _ (.tail _ (.head _))
  replace N : News g L s.heap ((L + 1 + 1, oO) :: (L + 1, oR) :: (Dr, LCg.lst [.int r0 q0, .int r1 q1, .int r2 q2, .int r3 q3, .int r4 q4]) :: (264, tabObj ps) :: (tabA ++ (tabB ++ lexG w X lnB uB vsB cB [] c4B))) := fun p hp => N p (by
    simp only [List.cons_append, List.nil_append, List.mem_cons] at hp ⊢
    rcases hp with h | h | h | h | h
    · exact .inr (.inl h)
    · exact .inr (.inr (.inl h))
    · exact .inl h
    · exact .inr (.inr (.inr (.inl h)))
    · exact .inr (.inr (.inr (.inr h))))
  have hneR : ∀ p ∈ lexG w X lnB uB vsB cB [] c4B, ∀ q ∈ ((L + 1, oR) :: (Dr, LCg.lst [.int r0 q0, .int r1 q1, .int r2 q2, .int r3 q3, .int r4 q4]) :: (264, tabObj ps) :: (tabA ++ tabB)), p.1 ≠ q.1 := fun p hp q hq => by
    rcases List.mem_cons.mp hq with rfl | hq
    · exact hneB p (List.mem_append_right _ hp) _ (.tail _ (.tail _ (.head _)))
    rcases List.mem_cons.mp hq with rfl | hq
    · exact hneB p (List.mem_append_right _ hp) _ (.head _)
    rcases List.mem_cons.mp hq with rfl | hq
    · exact hneB p (List.mem_append_right _ hp) _ (.tail _ (.tail _ (.tail _ (.head _))))
    rcases List.mem_append.mp hq with hq | hq
    · exact hneB p (List.mem_append_right _ hp) _ (List.mem_append_right _ hq)
    · exact lex_tab3 HL hTB p hp q hq
  revert T N X0 F B
  k_fill
  intro B F X0 N T
  unfold lawLoop lawSc
  k_with_none
  k_with "storeName" => (k_here; k_dflt (refine' storeX_Lr ?F ?N ?a ?b ?_; (case a => exact rfl); (case b => exact rfl); (case F => k_asm); (case N => k_asm); k_whole; intro _ _ _; (try k_sweep)))
  k_with "eval Name" => (k_here; k_dflt (refine' nameX_Lr ?F ?a ?b ?v ?_; (case a => exact rfl); (case b => exact rfl); (case F => k_asm); (case v => exact rfl); k_whole))
  k_with "execs cons" => (refine wpAny_execs_cons ?_; (try k_fold))
  k_with "k_in" => (refine' Frag.In.keeps ?X (Fr.keep ?F); (case F => with_reducible assumption); (case X => with_reducible assumption))
  k_with "call builtin:sorted" => (k_here; (with_reducible show wpAny _ _ (call (Value.builtin _) [Value.ref _]) _ _ _); k_dflt (refine' kso_sorted (ns := [r0, r1, r2]) ?k1 ?k2 ?k3 (.cons _ _ (.cons _ _ (.cons _ _ .nil))) (Nat.le_of_ble_eq_true rfl) ?_; (case k1 => k_asm); (case k2 => k_asm); (case k3 => exact News.isList (by k_asm) (by k_mem)); k_whole; intro S3 v3 n3 c3 h3 F' N' l3 hi3 _ hp3 hs3 _; clear l3; (try k_sweep)))
  k_with "call builtin:sorted" => (k_here; (with_reducible show wpAny _ _ (call (Value.builtin _) [Value.ref _]) _ _ _); k_dflt (refine' kso_sorted (ns := [r3, r4]) ?k1 ?k2 ?k3 (.cons _ _ (.cons _ _ .nil)) (Nat.le_of_ble_eq_true rfl) ?_; (case k1 => k_asm); (case k2 => k_asm); (case k3 => exact News.isList (by k_asm) (by k_mem)); k_whole; intro S2 v2 n2 c2 h2 F' N' l2 hi2 _ hp2 hs2 _; clear l2; (try k_sweep)))
  k_with "pyIter ref" => (k_here; (with_reducible show wpAny _ _ (pyIter (Value.ref _)) (fun it s₂ => TurnsAt _ _ _ _ _ _ _ _ _ it s₂) _ _); (rename News _ _ _ _ => N9); k_dflt (refine' loop_w w ?hA ?hB ?ta ?tb ?tc ?td ?te ?tf ?tg ?th ?ti ?B ?F ?X ?N ?T ?dO ?hR ?_; (case F => k_asm); (case B => k_asm); (case X => k_asm); (case T => k_asm); (case N => exact news_pull N9); (case dO => exact dO); (case ta => exact List.mem_cons_of_mem _ (List.mem_cons_of_mem _ (List.mem_cons_of_mem _ (List.mem_cons_of_mem _ (List.mem_cons_self ..))))); (case tb => exact rfl); (case tc => exact rfl); (case td => exact List.mem_cons_of_mem _ (List.mem_cons_self ..)); (case te => exact rfl); (case tf => exact rfl); (case tg => exact List.mem_cons_self ..); (case th => exact rfl); (case ti => exact rfl); (case hA => exact table_4 w X a0 b0 a1 b1 a2 b2 hTA hi3 hp3 hs3 (List.mem_cons_of_mem _ (List.mem_cons_of_mem _ (List.mem_cons_of_mem _ (List.mem_cons_of_mem _ (List.mem_cons_of_mem _ (List.mem_cons_self ..)))))) (fun q hq => List.mem_cons_of_mem _ (List.mem_cons_of_mem _ (List.mem_cons_of_mem _ (List.mem_cons_of_mem _ (List.mem_cons_of_mem _ (List.mem_cons_of_mem _ (List.mem_cons_of_mem _ (List.mem_cons_of_mem _ (List.mem_cons_of_mem _ (List.mem_cons_of_mem _ (List.mem_append_left _ hq)))))))))))); (case hB => exact table_3 w X a3 b3 a4 b4 hTB hi2 hp2 hs2 (List.mem_cons_of_mem _ (List.mem_cons_of_mem _ (List.mem_cons_self ..))) (fun q hq => List.mem_cons_of_mem _ (List.mem_cons_of_mem _ (List.mem_cons_of_mem _ (List.mem_cons_of_mem _ (List.mem_cons_of_mem _ (List.mem_cons_of_mem _ (List.mem_cons_of_mem _ (List.mem_cons_of_mem _ (List.mem_cons_of_mem _ (List.mem_cons_of_mem _ (List.mem_append_right _ (List.mem_append_left _ hq))))))))))))); (case hR => ((refine' fmc ?ca (fmc ?cb (fmc ?cc (fmc ?cd (fmc ?ce (fmc ?cf (fmc ?cg (fmc ?ch (fmc ?ci (fmc ?cj hcell)))))))))); (case ca => exact cell_ne N9 (List.mem_cons_of_mem _ (List.mem_cons_of_mem _ (List.mem_cons_of_mem _ (List.mem_cons_of_mem _ (List.mem_cons_of_mem _ (List.mem_cons_of_mem _ (List.mem_cons_of_mem _ (List.mem_cons_self ..)))))))) dO (List.mem_cons_self ..) (fun v h => nomatch h)); (case cb => exact cell_ne N9 (List.mem_cons_of_mem _ (List.mem_cons_of_mem _ (List.mem_cons_of_mem _ (List.mem_cons_of_mem _ (List.mem_cons_of_mem _ (List.mem_cons_of_mem _ (List.mem_cons_of_mem _ (List.mem_cons_self ..)))))))) dO (List.mem_cons_of_mem _ (List.mem_cons_self ..)) (fun v h => nomatch h)); (case cc => exact cell_ne N9 (List.mem_cons_of_mem _ (List.mem_cons_of_mem _ (List.mem_cons_of_mem _ (List.mem_cons_of_mem _ (List.mem_cons_of_mem _ (List.mem_cons_of_mem _ (List.mem_cons_of_mem _ (List.mem_cons_self ..)))))))) dO (List.mem_cons_of_mem _ (List.mem_cons_of_mem _ (List.mem_cons_self ..))) (fun v h => nomatch h)); (case cd => exact cell_ne N9 (List.mem_cons_of_mem _ (List.mem_cons_of_mem _ (List.mem_cons_of_mem _ (List.mem_cons_of_mem _ (List.mem_cons_of_mem _ (List.mem_cons_of_mem _ (List.mem_cons_of_mem _ (List.mem_cons_self ..)))))))) dO (List.mem_cons_of_mem _ (List.mem_cons_of_mem _ (List.mem_cons_of_mem _ (List.mem_cons_self ..)))) (fun v h => nomatch h)); (case ce => exact cell_ne N9 (List.mem_cons_of_mem _ (List.mem_cons_of_mem _ (List.mem_cons_of_mem _ (List.mem_cons_of_mem _ (List.mem_cons_of_mem _ (List.mem_cons_of_mem _ (List.mem_cons_of_mem _ (List.mem_cons_self ..)))))))) dO (List.mem_cons_of_mem _ (List.mem_cons_of_mem _ (List.mem_cons_of_mem _ (List.mem_cons_of_mem _ (List.mem_cons_self ..))))) (fun v h => nomatch h)); (case cf => exact cell_ne N9 (List.mem_cons_of_mem _ (List.mem_cons_of_mem _ (List.mem_cons_of_mem _ (List.mem_cons_of_mem _ (List.mem_cons_of_mem _ (List.mem_cons_of_mem _ (List.mem_cons_of_mem _ (List.mem_cons_self ..)))))))) dO (List.mem_cons_of_mem _ (List.mem_cons_of_mem _ (List.mem_cons_of_mem _ (List.mem_cons_of_mem _ (List.mem_cons_of_mem _ (List.mem_cons_self ..)))))) (fun v h => nomatch h)); (case cg => exact cell_ne N9 (List.mem_cons_of_mem _ (List.mem_cons_of_mem _ (List.mem_cons_of_mem _ (List.mem_cons_of_mem _ (List.mem_cons_of_mem _ (List.mem_cons_of_mem _ (List.mem_cons_of_mem _ (List.mem_cons_self ..)))))))) dO (List.mem_cons_of_mem _ (List.mem_cons_of_mem _ (List.mem_cons_of_mem _ (List.mem_cons_of_mem _ (List.mem_cons_of_mem _ (List.mem_cons_of_mem _ (List.mem_cons_self ..))))))) (fun v h => nomatch h)); (case ch => exact Nat.ne_of_lt (Nat.lt_succ_self _)); (case ci => exact cell_ne N9 (List.mem_cons_of_mem _ (List.mem_cons_of_mem _ (List.mem_cons_of_mem _ (List.mem_cons_of_mem _ (List.mem_cons_of_mem _ (List.mem_cons_of_mem _ (List.mem_cons_of_mem _ (List.mem_cons_self ..)))))))) dO (List.mem_cons_of_mem _ (List.mem_cons_of_mem _ (List.mem_cons_of_mem _ (List.mem_cons_of_mem _ (List.mem_cons_of_mem _ (List.mem_cons_of_mem _ (List.mem_cons_of_mem _ (List.mem_cons_of_mem _ (List.mem_cons_of_mem _ (List.mem_cons_self ..)))))))))) (fun v h => nomatch h)); (case cj => exact cell_ne N9 (List.mem_cons_of_mem _ (List.mem_cons_of_mem _ (List.mem_cons_of_mem _ (List.mem_cons_of_mem _ (List.mem_cons_of_mem _ (List.mem_cons_of_mem _ (List.mem_cons_of_mem _ (List.mem_cons_self ..)))))))) dO (List.mem_cons_of_mem _ (List.mem_cons_of_mem _ (List.mem_cons_of_mem _ (List.mem_cons_of_mem _ (List.mem_cons_of_mem _ (List.mem_cons_of_mem _ (List.mem_cons_of_mem _ (List.mem_cons_of_mem _ (List.mem_cons_of_mem _ (List.mem_cons_of_mem _ (List.mem_cons_self ..))))))))))) (fun v h => nomatch h)))); k_whole; intro h8 tk8 oO8 F8 N8))
  k_with "execs cons If cons" => (k_here; k_dflt (refine' rest_w w X HL a0 b0 a1 b1 a2 b2 a3 b3 a4 b4 hTA hTB hBB ?B ?F ?X ?N ?T dR hneR ?_; (case B => k_asm); (case F => exact F8); (case X => k_asm); (case T => k_asm); (case N => exact news_tabs N8)))
  k_steps
  all_goals exact hQ _ _ _ (by assumption) (by assumption)

theorem clrBW : True := by
  k_with_none
  trivial
open PySem PySem.W PyProof.Rows PySem.Calls PySem.Builtin
theorem ledger_cut {g h : Heap} {L : Addr} {p1 p2 p3 : Addr × Obj} {rest : List (Addr × Obj)} (N : News g L h (p1 :: p2 :: p3 :: rest)) : News g L h (p2 :: rest) := fun p hp => N p (by
  rcases List.mem_cons.mp hp with rfl | hp
  · exact .tail _ (.head _)
  · exact .tail _ (.tail _ (.tail _ hp)))
theorem div30 {prog : Program} {w : World} {A : Around} {E : Value → Shared → Prop} {s : Shared} {Q : Value → Shared → Prop} {k : Int} {t u : Tok} (h : ∀ t' k', Q (.int (k.fdiv 30) t') { s with toks := k' }) : wpAny (model prog w) A (binaryOp .FloorDiv (.int k t) (.int 30 u)) Q E s :=
  PyProof.Rows.floordiv_int (by decide) (h _ _)
theorem mod30 {prog : Program} {w : World} {A : Around} {E : Value → Shared → Prop} {s : Shared} {Q : Value → Shared → Prop} {k : Int} {t u : Tok} (h : ∀ t' k', Q (.int (k.fmod 30) t') { s with toks := k' }) : wpAny (model prog w) A (binaryOp .Mod (.int k t) (.int 30 u)) Q E s :=
  PyProof.Rows.mod_int' (by decide) (h _ _)
theorem ints_five (a b c d e : Int) (t0 t1 t2 t3 t4 : Tok) : IntsAre [.int a t0, .int b t1, .int c t2, .int d t3, .int e t4] [a, b, c, d, e] := .cons _ _ (.cons _ _ (.cons _ _ (.cons _ _ (.cons _ _ .nil))))
theorem five_text {d0 d1 d2 d3 d4 x : Int} {i : Nat} (h : [d0, d1, d2, d3, d4][i]? = some x) (b0 : 0 ≤ d0 ∧ d0 < 120) (b1 : 0 ≤ d1 ∧ d1 < 120) (b2 : 0 ≤ d2 ∧ d2 < 120) (b3 : 0 ≤ d3 ∧ d3 < 120) (b4 : 0 ≤ d4 ∧ d4 < 120) : i < 5 ∧ (0 ≤ x ∧ x < 120) ∧ [cellT 0 d0, cellT 1 d1, cellT 2 d2, cellT 3 d3, cellT 4 d4][i]? = some (cellT i x) := by
  match i, h with
  | 0, h => cases h; exact ⟨by decide, b0, rfl⟩
  | 1, h => cases h; exact ⟨by decide, b1, rfl⟩
  | 2, h => cases h; exact ⟨by decide, b2, rfl⟩
  | 3, h => cases h; exact ⟨by decide, b3, rfl⟩
  | 4, h => cases h; exact ⟨by decide, b4, rfl⟩
  | i + 5, h => simp at h
theorem body_w (w : World) {vs : List Value} {ns : List Int} {a f : Addr} {oR oO : Obj} {v₀ v₁ : Option Value} {cd : Value}
    {pr : Program} {loose : List Str} {mean : ExcName → Option Value} {mg mb : Str → Option Value} {A₀ : Around} {g : Heap} {L : Addr} {m₀ : Str → Option Value} {s : Shared} {Q : Flow → Shared → Prop}
    (hi : IntsAre vs ns) (hsz : ns.length ≤ 63) (hl : g.IsList a vs.toArray) (hC : CodeHd g 268 264) (hL : @LT.lt Nat _ 264 L)
    (B : Below A₀ g [] g) (F : Fr g L s.heap (fun y => if y = Str.ofString "script" then some (.ref a) else m₀ y)) (X0 : (Mine.K w.params).In g) (N : News g L s.heap [(L + 1 + 1, oO), (L + 1, oR), (264, tabObj #[])]) (T : Top pr loose mean mg mb g)
    (dR : oR.data = .cell v₁) (dO : oO.data = .cell v₀)
    (hQ : ∀ h' tk' m', Fr g L h' m' → GrownAt 264 h' → Q (.ret (.bool true)) { s with heap := h', toks := tk' }) :
    wpAny (model PySem.Challenge.rw_wj0054_01.row.prog w) ((roof 310 1500 []).deeper (envOfC (Str.ofString "law") lawSc L f cd)) (execs lawSt (envOfC (Str.ofString "law") lawSc L f cd)) Q (fun _ _ => False) s := by
  revert T N X0 F B
  k_fill
  intro B F X0 N T
  unfold lawSt lawSc
  k_with_none
  k_with "storeName" => (k_here; k_dflt (refine' storeX_Lr ?F ?N ?a ?b ?_; (case a => exact rfl); (case b => exact rfl); (case F => k_asm); (case N => k_asm); k_whole; intro _ _ _; (try k_sweep)))
  k_with "eval Name" => (k_here; k_dflt (refine' nameX_Lr ?F ?a ?b ?v ?_; (case a => exact rfl); (case b => exact rfl); (case F => k_asm); (case v => exact rfl); k_whole))
  k_with "execs cons" => (refine wpAny_execs_cons ?_; (try k_fold))
  k_with "k_in" => (refine' Frag.In.keeps ?X (Fr.keep ?F); (case F => with_reducible assumption); (case X => with_reducible assumption))
  k_with "call ref" => (k_here; (with_reducible show wpAny _ _ (call (Value.ref 250) _ _) _ _ _); k_dflt (refine' cells_w _ _ _ _ hi ?B ?F ?X ?N ?T ?hA ?hf ?hK ?hh ?hd ?hu hl hsz ?_; (case N => k_asm); (case F => k_asm); (case B => k_asm); (case X => k_asm); (case T => k_asm); (case hA => exact rfl); (case hf => exact rfl); (case hK => exact rfl); (case hh => exact rfl); (case hd => exact Nat.le_of_ble_eq_true rfl); (case hu => exact Nat.le_of_ble_eq_true rfl); k_whole; intro Dd d0 d1 d2 d3 d4 tq0 tq1 tq2 tq3 tq4 h' tk' hDd hb0 hb1 hb2 hb3 hb4 F' N'; (try k_sweep)))
  k_with "eval ListComp" => (k_here; (with_reducible show wpAny _ _ (eval (Expr.ListComp _ [⟨Expr.Name _ _, _, _, _⟩] _ _) _) _ _ _); k_dflt (refine' LCg.ListComp_U ?F ?a ?b ?c ?d ?e ?_; (case F => k_asm); (case a => exact rfl); (case b => decide); (case c => exact rfl); (case d => decide); (case e => exact rfl)))
  k_with "binaryOp Mod int int" => (k_here; (with_reducible show wpAny _ _ (binaryOp _ (Value.int _ _) (Value.int 30 _)) _ _ _); k_dflt (refine' mod30 ?_; intro _ _))
  k_with "CompSrc" => (k_here; k_dflt (refine' LCg.CompSrc.ledger ?hh ?F ?N ?m ?z ?_; (case hh => exact rfl); (case F => k_asm); (case N => k_asm); (case m => k_mem); (case z => exact Nat.le_of_ble_eq_true rfl); intro g9; refine' kcf_list (fun k => k.fmod 30 + 1) (ints_five _ _ _ _ _ _ _ _ _ _) ?tu ?fi; (case' tu => (intro k' t' I' oI' C' oC' D' m' ys' h' tk' E' hk' hC' hx' F' N' off' ne' hMark'; clear ne' hMark')); (case' fi => (unfold KPfDone; intro ysF hiF; (obtain ⟨rq0, rq1, rq2, rq3, rq4, rfl⟩ := ints5 hiF); clear hiF))))
  k_with "CompEnd" => (k_dflt (refine' LCg.CompEnd.intro ?F ?N _ ?sub ?off ?S ?_; (case F => k_asm); (case N => k_asm); (case off => assumption); (case sub => exact fun p hp => hp); (case S => exact Or.inr ⟨_, by k_mem, rfl, _, rfl⟩)))
  k_with "KCfEl" => (k_dflt (exact kcf_el rfl rfl rfl))
  k_with "FinE" => k_dflt ((unfold LCg.FinE); intro Dr h' tk' F' N' o1'; (have hDr := off1_mem o1'); clear o1'; (try dsimp only))
  k_with "storeName" => (k_here; (with_reducible show wpAny _ _ (storeName _ (Str.ofString "roots") _) _ _ _); k_dflt (refine' storeX_C ?F ?N ?c ?U ?d ?_ ?hk ?hx; (case F => k_asm); (case N => k_asm); (case c => exact rfl); (case U => exact UpdF.tail (Ne.symm (hDr (_, _) (by k_mem))) (UpdF.tail (Ne.symm (hDd (_, _) (by k_mem))) (UpdF.tail (Nat.succ_ne_self _) (UpdF.head fun p hp => by rw [List.mem_singleton.mp hp]; exact Nat.ne_of_lt (Nat.lt_succ_of_lt hL))))); (case d => exact dR); (case hk => exact rfl); (case hx => exact rfl); k_whole; intro h' oR' F' N' hdR'; (try dsimp only at N')))
  k_with "eval ListComp" => (k_here; (with_reducible show wpAny _ _ (eval (Expr.ListComp _ [⟨Expr.Tuple _ _ _, _, _, _⟩] _ _) _) _ _ _); k_dflt (refine' comp_in ?F ?hclos ?hcell ?hkind ?hnames ?_; (case F => k_asm); (case hclos => exact rfl); (case hkind => exact rfl); (case hnames => decide); (case hcell => decide); k_whole))
  k_with "call type:enumerate" => (k_here; (with_reducible show wpAny _ _ (call (Value.type _) [Value.ref Dd]) _ _ _); k_dflt (refine' enum_in (l := Dd) (vs := _) ?hh ?hx ?hy ?hxy ?hk ?F ?N ?hl ?hc ?hd ?hz (fun i ys nw => TextJ [cellT 0 d0, cellT 1 d1, cellT 2 d2, cellT 3 d3, cellT 4 d4] _ i ys nw) ?hJ ?j0 ?eSp ?eFp; (case hh => exact rfl); (case hx => exact rfl); (case hy => exact rfl); (case hxy => decide); (case hk => exact rfl); (case F => k_asm); (case N => k_asm); (case hl => k_mem); (case hc => exact rfl); (case hd => exact rfl); (case hz => exact Nat.le_of_ble_eq_true rfl); (case j0 => exact TextJ.start _ _); (case hJ => (rintro i ys nw ⟨rfl, -, hl⟩; exact ⟨by k_mem, hl⟩)); k_whole; (case' eSp => (intro Ex3 i3 v3 e3 it3 oe3 oi3 C3 D3 oC3 m3 ys3 nw3 h3 tk3 t3 hv3 hJ3 hC3 hmk3 hmx3 F3 N3 ap3; obtain ⟨rfl, hS3, hl3⟩ := hJ3; (simp only [List.cons_append, List.nil_append] at N3); obtain ⟨x3, u3, rfl, hx3⟩ := ints_at (ints_five _ _ _ _ _ _ _ _ _ _) hv3; obtain ⟨hi3, hb3, htx3⟩ := five_text hx3 hb0 hb1 hb2 hb3 hb4; (have hwd3 := root_word hb3.1 hb3.2); clear hv3 hx3)); (case' eFp => (intro Dp ysP nwP h' tk' lDp hJP F' N'; obtain ⟨rfl, hSP, hlP⟩ := hJP; clear lDp))))
  k_with "call ref" => (k_here; (with_reducible show wpAny _ _ (call (Value.ref 257) _ _) _ _ _); k_dflt (refine' SpecK.use (letters _ _ _ _ ?h0 ?h1) ?B ?F ?X ?N ?T ?hA ?hK ?hh ?hd ?hu ?_; (case hA => exact rfl); (case F => k_asm); (case N => k_asm); (case B => k_asm); (case X => k_asm); (case T => k_asm); (case hK => first | rfl | assumption); (case hh => rfl); (case hd => exact Nat.le_of_ble_eq_true rfl); (case hu => exact Nat.le_of_ble_eq_true rfl); (case h0 => exact hwd3.1.1);  (case h1 => exact hwd3.1.2); k_whole; (rintro v' news' h' tk' ⟨⟨t', e1'⟩, e2'⟩ F' N'); subst e1'; subst e2'; (try k_sweep)))
  k_with "call ref" => (k_here; (with_reducible show wpAny _ _ (call (Value.ref 262) _ _) _ _ _); k_dflt (refine' SpecK.use (spelled _ _ _ _ _ _ ?hx) ?B ?F ?X ?N ?T ?hA ?hK ?hh ?hd ?hu ?_; (case hA => exact rfl); (case F => k_asm); (case N => k_asm); (case B => k_asm); (case X => k_asm); (case T => k_asm); (case hK => first | rfl | assumption); (case hh => rfl); (case hd => exact Nat.le_of_ble_eq_true rfl); (case hu => exact Nat.le_of_ble_eq_true rfl); (case hx => exact hwd3.2); k_whole; (rintro v' news' h' tk' ⟨⟨t', e1'⟩, e2'⟩ F' N'); subst e1'; subst e2'; (try k_sweep)))
  k_with "binaryOp FloorDiv int int" => (k_here; (with_reducible show wpAny _ _ (binaryOp _ (Value.int _ _) (Value.int 30 _)) _ _ _); k_dflt (refine' div30 ?_; intro _ _))
  k_with "subscriptTail" => (k_here; (with_reducible show wpAny _ _ (subscriptTail _ _ (Value.str _ _) (Value.int (Nat.cast _) _)) _ _ _); k_dflt (refine' sub_sep hi3 ?_; intro _ _))
  k_with "binaryOp Add str str" => (k_here; (with_reducible show wpAny _ _ (binaryOp _ (Value.str (spellOf _ _) _) (Value.str (sepOf _) _)) _ _ _); k_dflt (refine' add_cell hb3.1 hb3.2 ?_; intro _ _))
  k_with "EEnd" => (k_dflt (refine' eend_text (pre := [(e3, oe3), (it3, oi3), (C3, oC3), (D3, _)]) ?F ?N ap3 hS3 hl3 htx3; (case F => k_asm); (case N => ((simp only [List.cons_append, List.nil_append]); k_asm))))
  k_with "call builtin:str.join" => (k_here; k_dflt (refine' join_list (ys := [cellT 0 d0, cellT 1 d1, cellT 2 d2, cellT 3 d3, cellT 4 d4]) ?hl ?hi ?hok ?_; (case hl => exact News.isList (by k_asm) (by k_mem)); (case hi => exact hSP); (case hok => exact join_fits hb0 hb1 hb2 hb3 hb4); intro _ _))
  k_with "call ref" => (k_here; (with_reducible show wpAny _ _ (call (Value.ref 269) [Value.str _ _] _) _ _ _); k_dflt (refine' lexer_w _ (pageOf d0 d1 d2 d3 d4) _ ?hz ?B ?F ?X ?N ?T ?hA ?hf ?hK ?hh ?hd ?hu hC hL ?l0 ?l1 ?l2 ?_; (case F => k_asm); (case B => k_asm); (case X => k_asm); (case T => k_asm); (case hA => exact rfl); (case hf => exact rfl); (case hK => exact rfl); (case hh => exact rfl); (case hd => exact Nat.le_of_ble_eq_true rfl); (case hu => exact Nat.le_of_ble_eq_true rfl); (case N => exact ledger_cut (by k_asm)); (case hz => exact page_fits hb0 hb1 hb2 hb3 hb4); (case l0 => exact hDr (264, _) (by k_mem)); (case l1 => exact Nat.lt_succ_of_lt (Nat.lt_succ_of_lt hL)); (case l2 => exact Nat.lt_succ_of_lt hL); k_whole; intro X u1 vsg c3 c4 ps9 h' tk' HL hsg oX0 oX1 oX2 F' N'; (have hBef := bef_start hsg hb0 hb1 hb2 hb3 hb4)))
  k_with "call ref" => (k_here; (with_reducible show wpAny _ _ (call (Value.ref 290) [Value.ref _, Value.int 3 _] _) _ _ _); k_dflt ((have hr0 := root_in hb0.1 hb0.2); (have hr1 := root_in hb1.1 hb1.2); (have hr2 := root_in hb2.1 hb2.2); (have hr3 := root_in hb3.1 hb3.2); (have hr4 := root_in hb4.1 hb4.2); refine' SpecG.useP (product_3 _ X HL 1 1 u1 c3 c4 vsg (wayC d0) (wayC d1) (wayC d2) _ 9 9 10 0 (d0.fmod 30 + 1) 0 (d1.fmod 30 + 1) 1 (d2.fmod 30 + 1) hr0.1 hr0.2.1 .tab (way_all hb0.1 hb0.2).1 hr1.1 hr1.2.1 .tab (way_all hb1.1 hb1.2).1 hr2.1 hr2.2.1 .line (way_all hb2.1 hb2.2).1 hBef _) [_, _, _, _] ?B ?F ?X ?N ?T ?hA ?hf ?hK ?hh ?hd ?hu ?hne ?_; (case N => k_asm); (case F => k_asm); (case B => k_asm); (case X => k_asm); (case T => k_asm); (case hA => exact rfl); (case hf => exact rfl); (case hK => exact rfl); (case hh => exact rfl); (case hd => exact Nat.le_of_ble_eq_true rfl); (case hu => exact Nat.le_of_ble_eq_true rfl); (case hne => exact pre_ne HL oX0 oX1 oX2 (Nat.lt_trans (Nat.lt_trans hL (Nat.lt_succ_self _)) oX2)); k_whole; intro v' sm' h' tk' hp' F' N' hneA; (obtain ⟨xA, tabA, vsA, cA, uA, lnA, c4A, hTA, e1', hBA, e2'⟩ := hp'); subst e1'; subst e2'))
  k_with "call ref" => (k_here; (with_reducible show wpAny _ _ (call (Value.ref 290) [Value.ref _, Value.int 2 _] _) _ _ _); k_dflt (refine' SpecG.useP (product_2 _ X HL lnA _ uA cA c4A vsA (wayC d3) (wayC d4) [] 9 10 0 (d3.fmod 30 + 1) 1 (d4.fmod 30 + 1) hr3.1 hr3.2.1 .tab (way_all hb3.1 hb3.2).1 hr4.1 hr4.2.1 .line (way_all hb4.1 hb4.2).1 hBA _) ([_, _, _, _] ++ tabA) ?B ?F ?X ?N ?T ?hA ?hf ?hK ?hh ?hd ?hu ?hne ?_; (case F => k_asm); (case B => k_asm); (case X => k_asm); (case T => k_asm); (case hA => exact rfl); (case hf => exact rfl); (case hK => exact rfl); (case hh => exact rfl); (case hd => exact Nat.le_of_ble_eq_true rfl); (case hu => exact Nat.le_of_ble_eq_true rfl); (case N => (rw [List.append_assoc]; k_asm)); (case hne => exact ne_step HL hneA (tab4_gt hTA)); k_whole; intro v' sm' h' tk' hp' F' N' hneB; (obtain ⟨xB, tabB, vsB, cB, uB, lnB, c4B, hTB, e1', hBB, e2'⟩ := hp'); subst e1'; subst e2'))
  k_with "execs cons For cons" => (k_here; k_dflt (refine' tail_w _ X HL hr0.1 hr0.2.1 hr1.1 hr1.2.1 hr2.1 hr2.2.1 hr3.1 hr3.2.1 hr4.1 hr4.2.1 hTA hTB ?hbb ?B ?F ?X ?N ?T ?dR ?dO hneA hneB ?_; (case F => k_asm); (case B => k_asm); (case X => k_asm); (case T => k_asm); (case N => k_asm); (case dR => exact hdR'); (case dO => exact dO); (case hbb => exact hBB)))
  k_steps
  all_goals exact hQ _ _ _ (by assumption) (by assumption)

theorem clrLW : True := by
  k_with_none
  trivial
open PySem PySem.W PyProof.Rows PySem.Calls PySem.Builtin
theorem fin : PySem.Challenge.rw_wj0054_01.Holds := by
  w_on
  refine holds_law said fun said' => ?_
  refine holds_open (q := q) (loose := loose) (Xt := fun s => xlAt q [] s && recOk PySem.Challenge.rw_wj0054_01.row.records s) (XP := XL q []) (Yf := (kmHook K Kas Kis [264]).obs) (Ya := (kmHook K Kas Kis [264]).val) (YP := (kmHook K Kas Kis [264]).says) (N := 3516) left (kmHook K Kas Kis [264]).of (kmHook K Kas Kis [264]).keeps (fun s e => xl_of s (Bool.and_eq_true_iff.mp e).1) XL.keeps (by rfl) (by rfl) (by rfl) (fun s e => recFacts_of (Bool.and_eq_true_iff.mp e).2) (by rfl) said' (by decide +kernel) ⟨rfl, rfl, rfl, rfl, rfl, by decide +kernel⟩ ?hw ?hc
  case hw => w_witness2
  case hc =>
    w_strict (k_go0)
    k_with_none
    k_with "storeName" => (k_here; k_dflt (refine' storeX_Lr ?F ?N ?a ?b ?_; (case a => exact rfl); (case b => exact rfl); (case F => k_asm); (case N => k_asm); k_whole; intro _ _ _; (try k_sweep)))
    k_with "eval Name" => (k_here; k_dflt (refine' nameX_Lr ?F ?a ?b ?v ?_; (case a => exact rfl); (case b => exact rfl); (case F => k_asm); (case v => exact rfl); k_whole))
    k_with "execs cons" => (refine wpAny_execs_cons ?_; (try k_fold))
    k_with "GrownAll" => k_dflt (exact ⟨by assumption, True.intro⟩)
    (all_goals try k_fold)
    refine' to_roof ?_
    (rename Fr _ _ _ _ => F9)
    refine' body_w _ ?hi ?hsz ?hl ?hC ?hL ?B ?F ?X ?N ?T ?dR ?dO ?_
    case B => k_asm
    case X => k_asm
    case N => k_asm
    case T => k_asm
    case F => (rw [← say_1 (a := Str.ofString "script") ?h9]; exact F9; exact rfl)
    case hi => assumption
    case hl => assumption
    case hC => assumption
    case hL => assumption
    case dR => assumption
    case dO => assumption
    case hsz => omega
    k_steps
end Mine
theorem PySem.Challenge.cw_wj0054_01_holds : PySem.Challenge.rw_wj0054_01.Holds :=
  Mine.fin
