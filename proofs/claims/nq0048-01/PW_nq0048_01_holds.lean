import PyProof.Rows.All
import Wide.All
import OpenK.AllK
import Wide.FinOn
import PySem.Challenge.RW_nq0048_01
set_option Elab.async false
set_option maxRecDepth 100000
set_option linter.all false
set_option genInjectivity false
set_option genSizeOf false
set_option genSizeOfSpec false
namespace Mine
open PySem PySem.W PyProof.Rows
abbrev rwR : RowW := OpenRow.toRowW PySem.Challenge.rw_nq0048_01.row
def stI (i : Nat) : Stmt := rwR.prog.main.body.getD i (.Pass ⟨0, 0, 0, 0⟩)
def fnI (i : Nat) (pm cd dV : Value) : FuncData := match stI i with
  | .FunctionDef name params body _ _ _ scope _ _ _ => { name := name, qualname := name, params := params, body := .stmts body, scope := scope, globals := mainGlobals, closure := [], defaults := dV, kwdefaults := .none, doc := .none, pyModule := pm, code := cd, builtins := builtinsNs }
  | _ => { name := Str.ofString "", qualname := Str.ofString "", params := ⟨[], [], none, [], [], none, []⟩, body := .stmts [], scope := ⟨.module, [], false, false, []⟩, globals := mainGlobals, closure := [], defaults := dV, kwdefaults := .none, doc := .none, pyModule := pm, code := cd, builtins := builtinsNs }
noncomputable def hd.view_39 : Program := { rwR.prog with main := { rwR.prog.main with body := [stI 1, stI 2, stI 3, stI 5, stI 6, stI 9, stI 10, stI 12, stI 13, stI 14, stI 15, stI 16, stI 17, stI 18, stI 19, stI 20, stI 21, stI 22, stI 23, stI 24, stI 25] } }
noncomputable def hd.heap_39 : Params → Frag := fun P =>
  (nat_lit 2, ({ cls := PySem.Value.none, data := PySem.Data.dict #[{ hash := PySem.PyData.keyHash P (PySem.Str.ofString "type.__subclasses__.Exception.0"), key := PySem.Value.str (PySem.Str.ofString "type.__subclasses__.Exception.0") (205), val := PySem.Value.int (24) 0 }, { hash := PySem.PyData.keyHash P (PySem.Str.ofString "type.__subclasses__.Exception.n"), key := PySem.Value.str (PySem.Str.ofString "type.__subclasses__.Exception.n") (206), val := PySem.Value.int 1 0 }] 2 } : Obj)) ::
  (nat_lit 3, ({ cls := PySem.Value.type "dict", data := PySem.Data.dict #[{ hash := PySem.PyData.keyHash P (PySem.Str.ofString "__name__"), key := PySem.Value.str (PySem.Str.ofString "__name__") (165), val := PySem.Value.str (PySem.Str.ofString "law_nq0048_01") (284) }, { hash := PySem.PyData.keyHash P (PySem.Str.ofString "__doc__"), key := PySem.Value.str (PySem.Str.ofString "__doc__") (166), val := PySem.Value.none }, { hash := PySem.PyData.keyHash P (PySem.Str.ofString "__package__"), key := PySem.Value.str (PySem.Str.ofString "__package__") (167), val := PySem.Value.none }, { hash := PySem.PyData.keyHash P (PySem.Str.ofString "__loader__"), key := PySem.Value.str (PySem.Str.ofString "__loader__") (168), val := PySem.Value.builtin "__main__.__loader__#opaque" }, { hash := PySem.PyData.keyHash P (PySem.Str.ofString "__spec__"), key := PySem.Value.str (PySem.Str.ofString "__spec__") (169), val := PySem.Value.none }, { hash := PySem.PyData.keyHash P (PySem.Str.ofString "__annotations__"), key := PySem.Value.str (PySem.Str.ofString "__annotations__") (170), val := PySem.Value.ref 6 }, { hash := PySem.PyData.keyHash P (PySem.Str.ofString "__builtins__"), key := PySem.Value.str (PySem.Str.ofString "__builtins__") (171), val := PySem.Value.ref 4 }, { hash := PySem.PyData.keyHash P (PySem.Str.ofString "__file__"), key := PySem.Value.str (PySem.Str.ofString "__file__") (173), val := PySem.Value.str (PySem.Str.ofString "/claim/cut.py") (172) }, { hash := PySem.PyData.keyHash P (PySem.Str.ofString "__cached__"), key := PySem.Value.str (PySem.Str.ofString "__cached__") (174), val := PySem.Value.none }, { hash := PySem.PyData.keyHash P (PySem.Str.ofString "Error"), key := PySem.Value.str (PySem.Str.ofString "Error") (208), val := PySem.Value.ref (24) }, { hash := PySem.PyData.keyHash P (PySem.Str.ofString "error_reply"), key := PySem.Value.str (PySem.Str.ofString "error_reply") (224), val := PySem.Value.ref (37) }, { hash := PySem.PyData.keyHash P (PySem.Str.ofString "parse257"), key := PySem.Value.str (PySem.Str.ofString "parse257") (235), val := PySem.Value.ref (46) }, { hash := PySem.PyData.keyHash P (PySem.Str.ofString "cmp_to_key"), key := PySem.Value.str (PySem.Str.ofString "cmp_to_key") (246), val := PySem.Value.ref (53) }, { hash := PySem.PyData.keyHash P (PySem.Str.ofString "_initial_missing"), key := PySem.Value.str (PySem.Str.ofString "_initial_missing") (247), val := PySem.Value.ref (54) }, { hash := PySem.PyData.keyHash P (PySem.Str.ofString "reduce"), key := PySem.Value.str (PySem.Str.ofString "reduce") (259), val := PySem.Value.ref (62) }, { hash := PySem.PyData.keyHash P (PySem.Str.ofString "sorted_list_difference"), key := PySem.Value.str (PySem.Str.ofString "sorted_list_difference") (275), val := PySem.Value.ref (69) }, { hash := PySem.PyData.keyHash P (PySem.Str.ofString "three_way_cmp"), key := PySem.Value.str (PySem.Str.ofString "three_way_cmp") (283), val := PySem.Value.ref (76) }, { hash := PySem.PyData.keyHash P (PySem.Str.ofString "_law_names"), key := PySem.Value.str (PySem.Str.ofString "_law_names") (297), val := PySem.Value.ref (83) }, { hash := PySem.PyData.keyHash P (PySem.Str.ofString "_law_reply"), key := PySem.Value.str (PySem.Str.ofString "_law_reply") (305), val := PySem.Value.ref (90) }, { hash := PySem.PyData.keyHash P (PySem.Str.ofString "_law_marks"), key := PySem.Value.str (PySem.Str.ofString "_law_marks") (311), val := PySem.Value.ref (95) }, { hash := PySem.PyData.keyHash P (PySem.Str.ofString "_law_ahead"), key := PySem.Value.str (PySem.Str.ofString "_law_ahead") (321), val := PySem.Value.ref (102) }, { hash := PySem.PyData.keyHash P (PySem.Str.ofString "_law_laid"), key := PySem.Value.str (PySem.Str.ofString "_law_laid") (332), val := PySem.Value.ref (109) }, { hash := PySem.PyData.keyHash P (PySem.Str.ofString "_law_compare"), key := PySem.Value.str (PySem.Str.ofString "_law_compare") (340), val := PySem.Value.ref (116) }, { hash := PySem.PyData.keyHash P (PySem.Str.ofString "_law_put"), key := PySem.Value.str (PySem.Str.ofString "_law_put") (353), val := PySem.Value.ref (123) }, { hash := PySem.PyData.keyHash P (PySem.Str.ofString "_law_told"), key := PySem.Value.str (PySem.Str.ofString "_law_told") (364), val := PySem.Value.ref (130) }, { hash := PySem.PyData.keyHash P (PySem.Str.ofString "_law_due"), key := PySem.Value.str (PySem.Str.ofString "_law_due") (375), val := PySem.Value.ref (137) }, { hash := PySem.PyData.keyHash P (PySem.Str.ofString "_law_keys_right"), key := PySem.Value.str (PySem.Str.ofString "_law_keys_right") (387), val := PySem.Value.ref (144) }, { hash := PySem.PyData.keyHash P (PySem.Str.ofString "_law_lacks"), key := PySem.Value.str (PySem.Str.ofString "_law_lacks") (393), val := PySem.Value.ref (149) }, { hash := PySem.PyData.keyHash P (PySem.Str.ofString "_law_refused"), key := PySem.Value.str (PySem.Str.ofString "_law_refused") (401), val := PySem.Value.ref (156) }, { hash := PySem.PyData.keyHash P (PySem.Str.ofString "_law_spoiled"), key := PySem.Value.str (PySem.Str.ofString "_law_spoiled") (411), val := PySem.Value.ref (163) }, { hash := PySem.PyData.keyHash P (PySem.Str.ofString "law"), key := PySem.Value.str (PySem.Str.ofString "law") (417), val := PySem.Value.ref (168) }] (31) } : Obj)) ::
  (nat_lit 15, ({ cls := PySem.Value.type "tuple", data := PySem.Data.seq #[PySem.Value.type "Exception"] } : Obj)) ::
  (nat_lit 22, ({ cls := PySem.Value.type "tuple", data := PySem.Data.seq #[] } : Obj)) ::
  (nat_lit 23, ({ cls := PySem.Value.type "dict", data := PySem.Data.dict #[{ hash := PySem.PyData.keyHash P (PySem.Str.ofString "__module__"), key := PySem.Value.str (PySem.Str.ofString "__module__") (196), val := PySem.Value.str (PySem.Str.ofString "cpy313.ftplib") (187) }, { hash := PySem.PyData.keyHash P (PySem.Str.ofString "__firstlineno__"), key := PySem.Value.str (PySem.Str.ofString "__firstlineno__") (200), val := PySem.Value.int 2 (199) }, { hash := PySem.PyData.keyHash P (PySem.Str.ofString "__static_attributes__"), key := PySem.Value.str (PySem.Str.ofString "__static_attributes__") (201), val := PySem.Value.ref (22) }, { hash := PySem.PyData.keyHash P (PySem.Str.ofString "__weakref__"), key := PySem.Value.str (PySem.Str.ofString "__weakref__") (203), val := PySem.Value.ref (25) }, { hash := PySem.PyData.keyHash P (PySem.Str.ofString "__doc__"), key := PySem.Value.str (PySem.Str.ofString "__doc__") (204), val := PySem.Value.none }] 3 } : Obj)) ::
  (nat_lit 24, ({ cls := PySem.Value.type "type", data := PySem.Data.cls { name := PySem.Str.ofString "Error", bases := [PySem.Value.type "Exception"], mro := [PySem.Value.ref (24), PySem.Value.type "Exception", PySem.Value.type "BaseException", PySem.Value.type "object"], ns := 23, qualname := PySem.Str.ofString "Error", subclasses := [PySem.Value.ref (37)] }, slots := #[Option.some (PySem.Value.ref (15)), Option.none, Option.some (PySem.Value.str (PySem.Str.ofString "Error") (189)), Option.some (PySem.Value.str (PySem.Str.ofString "Error") (197)), Option.some (PySem.Value.builtin "Exception.__new__"), Option.some (PySem.Value.bool Bool.true)] } : Obj)) ::
  (nat_lit 25, ({ cls := PySem.Value.type "getset_descriptor", data := PySem.Data.fields #[PySem.Value.str (PySem.Str.ofString "__weakref__") (202), PySem.Value.ref (24), PySem.Value.builtin "ExceptionGroup.__weakref__", PySem.Value.none] } : Obj)) ::
  (nat_lit 28, ({ cls := PySem.Value.type "tuple", data := PySem.Data.seq #[PySem.Value.ref (24)] } : Obj)) ::
  (nat_lit 35, ({ cls := PySem.Value.type "tuple", data := PySem.Data.seq #[] } : Obj)) ::
  (nat_lit 36, ({ cls := PySem.Value.type "dict", data := PySem.Data.dict #[{ hash := PySem.PyData.keyHash P (PySem.Str.ofString "__module__"), key := PySem.Value.str (PySem.Str.ofString "__module__") (216), val := PySem.Value.str (PySem.Str.ofString "cpy313.ftplib") (187) }, { hash := PySem.PyData.keyHash P (PySem.Str.ofString "__firstlineno__"), key := PySem.Value.str (PySem.Str.ofString "__firstlineno__") (220), val := PySem.Value.int 4 (219) }, { hash := PySem.PyData.keyHash P (PySem.Str.ofString "__static_attributes__"), key := PySem.Value.str (PySem.Str.ofString "__static_attributes__") (221), val := PySem.Value.ref (35) }, { hash := PySem.PyData.keyHash P (PySem.Str.ofString "__doc__"), key := PySem.Value.str (PySem.Str.ofString "__doc__") (222), val := PySem.Value.none }] 2 } : Obj)) ::
  (nat_lit 37, ({ cls := PySem.Value.type "type", data := PySem.Data.cls { name := PySem.Str.ofString "error_reply", bases := [PySem.Value.ref (24)], mro := [PySem.Value.ref (37), PySem.Value.ref (24), PySem.Value.type "Exception", PySem.Value.type "BaseException", PySem.Value.type "object"], ns := 36, qualname := PySem.Str.ofString "error_reply" }, slots := #[Option.some (PySem.Value.ref (28)), Option.none, Option.some (PySem.Value.str (PySem.Str.ofString "error_reply") (209)), Option.some (PySem.Value.str (PySem.Str.ofString "error_reply") (217)), Option.some (PySem.Value.builtin "Exception.__new__"), Option.some (PySem.Value.bool Bool.true)] } : Obj)) ::
  (nat_lit 40, ({ cls := PySem.Value.type "tuple", data := PySem.Data.seq #[] } : Obj)) ::
  (nat_lit 42, ({ cls := PySem.Value.type "tuple", data := PySem.Data.seq #[PySem.Value.str (PySem.Str.ofString "resp") (228), PySem.Value.str (PySem.Str.ofString "dirname") (229), PySem.Value.str (PySem.Str.ofString "i") (230), PySem.Value.str (PySem.Str.ofString "n") (231), PySem.Value.str (PySem.Str.ofString "c") (232)] } : Obj)) ::
  (nat_lit 43, ({ cls := PySem.Value.type "tuple", data := PySem.Data.seq #[] } : Obj)) ::
  (nat_lit 45, ({ cls := PySem.Value.type "code", data := PySem.Data.fields #[PySem.Value.str (PySem.Str.ofString "parse257") (225), PySem.Value.str (PySem.Str.ofString "parse257") (226), PySem.Value.str (PySem.Str.ofString "/claim/cut.py") (227), PySem.Value.int 6 0, PySem.Value.int 1 0, PySem.Value.int 0 0, PySem.Value.int 0 0, PySem.Value.int 3 0, PySem.Value.ref (40), PySem.Value.bool Bool.true, PySem.Value.int (181) 0, PySem.Value.ref (41), PySem.Value.none, PySem.Value.ref (42), PySem.Value.ref (43), PySem.Value.ref (44), PySem.Value.int (233) 0, PySem.Value.int 6 0, PySem.Value.str (PySem.Str.ofString "/claim/cut.py") (234)] } : Obj)) ::
  (nat_lit 46, ({ cls := .type "function", data := .func (fnI 3 (.str (Str.ofString "cpy313.ftplib") 187) (.ref 45) .none) } : Obj)) ::
  (nat_lit 47, ({ cls := PySem.Value.type "tuple", data := PySem.Data.seq #[] } : Obj)) ::
  (nat_lit 49, ({ cls := PySem.Value.type "tuple", data := PySem.Data.seq #[PySem.Value.str (PySem.Str.ofString "mycmp") (241), PySem.Value.str (PySem.Str.ofString "K") (242)] } : Obj)) ::
  (nat_lit 50, ({ cls := PySem.Value.type "tuple", data := PySem.Data.seq #[PySem.Value.str (PySem.Str.ofString "mycmp") (243)] } : Obj)) ::
  (nat_lit 52, ({ cls := PySem.Value.type "code", data := PySem.Data.fields #[PySem.Value.str (PySem.Str.ofString "cmp_to_key") (238), PySem.Value.str (PySem.Str.ofString "cmp_to_key") (239), PySem.Value.str (PySem.Str.ofString "/claim/cut.py") (240), PySem.Value.int (24) 0, PySem.Value.int 1 0, PySem.Value.int 0 0, PySem.Value.int 0 0, PySem.Value.int 3 0, PySem.Value.ref (47), PySem.Value.bool Bool.true, PySem.Value.int (181) 0, PySem.Value.ref (48), PySem.Value.none, PySem.Value.ref (49), PySem.Value.ref (50), PySem.Value.ref (51), PySem.Value.int (244) 0, PySem.Value.int (24) 0, PySem.Value.str (PySem.Str.ofString "/claim/cut.py") (245)] } : Obj)) ::
  (nat_lit 53, ({ cls := .type "function", data := .func (fnI 5 (.str (Str.ofString "cpy313.functools") 236) (.ref 52) .none) } : Obj)) ::
  (nat_lit 54, ({ cls := PySem.Value.type "object" } : Obj)) ::
  (nat_lit 55, ({ cls := PySem.Value.type "tuple", data := PySem.Data.seq #[PySem.Value.ref (54)] } : Obj)) ::
  (nat_lit 56, ({ cls := PySem.Value.type "tuple", data := PySem.Data.seq #[] } : Obj)) ::
  (nat_lit 58, ({ cls := PySem.Value.type "tuple", data := PySem.Data.seq #[PySem.Value.str (PySem.Str.ofString "function") (251), PySem.Value.str (PySem.Str.ofString "sequence") (252), PySem.Value.str (PySem.Str.ofString "initial") (253), PySem.Value.str (PySem.Str.ofString "it") (254), PySem.Value.str (PySem.Str.ofString "value") (255), PySem.Value.str (PySem.Str.ofString "element") (256)] } : Obj)) ::
  (nat_lit 59, ({ cls := PySem.Value.type "tuple", data := PySem.Data.seq #[] } : Obj)) ::
  (nat_lit 61, ({ cls := PySem.Value.type "code", data := PySem.Data.fields #[PySem.Value.str (PySem.Str.ofString "reduce") (248), PySem.Value.str (PySem.Str.ofString "reduce") (249), PySem.Value.str (PySem.Str.ofString "/claim/cut.py") (250), PySem.Value.int (50) 0, PySem.Value.int 3 0, PySem.Value.int 0 0, PySem.Value.int 0 0, PySem.Value.int 3 0, PySem.Value.ref (56), PySem.Value.bool Bool.true, PySem.Value.int (181) 0, PySem.Value.ref (57), PySem.Value.none, PySem.Value.ref (58), PySem.Value.ref (59), PySem.Value.ref (60), PySem.Value.int (257) 0, PySem.Value.int (50) 0, PySem.Value.str (PySem.Str.ofString "/claim/cut.py") (258)] } : Obj)) ::
  (nat_lit 62, ({ cls := .type "function", data := .func (fnI 7 (.str (Str.ofString "cpy313.functools") 236) (.ref 61) (.ref 55)) } : Obj)) ::
  (nat_lit 63, ({ cls := PySem.Value.type "tuple", data := PySem.Data.seq #[] } : Obj)) ::
  (nat_lit 65, ({ cls := PySem.Value.type "tuple", data := PySem.Data.seq #[PySem.Value.str (PySem.Str.ofString "expected") (265), PySem.Value.str (PySem.Str.ofString "actual") (266), PySem.Value.str (PySem.Str.ofString "i") (267), PySem.Value.str (PySem.Str.ofString "j") (268), PySem.Value.str (PySem.Str.ofString "missing") (269), PySem.Value.str (PySem.Str.ofString "unexpected") (270), PySem.Value.str (PySem.Str.ofString "e") (271), PySem.Value.str (PySem.Str.ofString "a") (272)] } : Obj)) ::
  (nat_lit 66, ({ cls := PySem.Value.type "tuple", data := PySem.Data.seq #[] } : Obj)) ::
  (nat_lit 68, ({ cls := PySem.Value.type "code", data := PySem.Data.fields #[PySem.Value.str (PySem.Str.ofString "sorted_list_difference") (262), PySem.Value.str (PySem.Str.ofString "sorted_list_difference") (263), PySem.Value.str (PySem.Str.ofString "/claim/cut.py") (264), PySem.Value.int (63) 0, PySem.Value.int 2 0, PySem.Value.int 0 0, PySem.Value.int 0 0, PySem.Value.int 3 0, PySem.Value.ref (63), PySem.Value.bool Bool.true, PySem.Value.int (181) 0, PySem.Value.ref (64), PySem.Value.none, PySem.Value.ref (65), PySem.Value.ref (66), PySem.Value.ref (67), PySem.Value.int (273) 0, PySem.Value.int (63) 0, PySem.Value.str (PySem.Str.ofString "/claim/cut.py") (274)] } : Obj)) ::
  (nat_lit 69, ({ cls := .type "function", data := .func (fnI 9 (.str (Str.ofString "cpy313.unittest.util") 260) (.ref 68) .none) } : Obj)) ::
  (nat_lit 70, ({ cls := PySem.Value.type "tuple", data := PySem.Data.seq #[] } : Obj)) ::
  (nat_lit 72, ({ cls := PySem.Value.type "tuple", data := PySem.Data.seq #[PySem.Value.str (PySem.Str.ofString "x") (279), PySem.Value.str (PySem.Str.ofString "y") (280)] } : Obj)) ::
  (nat_lit 73, ({ cls := PySem.Value.type "tuple", data := PySem.Data.seq #[] } : Obj)) ::
  (nat_lit 75, ({ cls := PySem.Value.type "code", data := PySem.Data.fields #[PySem.Value.str (PySem.Str.ofString "three_way_cmp") (276), PySem.Value.str (PySem.Str.ofString "three_way_cmp") (277), PySem.Value.str (PySem.Str.ofString "/claim/cut.py") (278), PySem.Value.int (95) 0, PySem.Value.int 2 0, PySem.Value.int 0 0, PySem.Value.int 0 0, PySem.Value.int 3 0, PySem.Value.ref (70), PySem.Value.bool Bool.true, PySem.Value.int (181) 0, PySem.Value.ref (71), PySem.Value.none, PySem.Value.ref (72), PySem.Value.ref (73), PySem.Value.ref (74), PySem.Value.int (281) 0, PySem.Value.int (95) 0, PySem.Value.str (PySem.Str.ofString "/claim/cut.py") (282)] } : Obj)) ::
  (nat_lit 76, ({ cls := .type "function", data := .func (fnI 10 (.str (Str.ofString "cpy313.unittest.util") 260) (.ref 75) .none) } : Obj)) ::
  (nat_lit 77, ({ cls := PySem.Value.type "tuple", data := PySem.Data.seq #[] } : Obj)) ::
  (nat_lit 79, ({ cls := PySem.Value.type "tuple", data := PySem.Data.seq #[PySem.Value.str (PySem.Str.ofString "row") (289), PySem.Value.str (PySem.Str.ofString "names") (290), PySem.Value.str (PySem.Str.ofString "k") (291), PySem.Value.str (PySem.Str.ofString "x") (292), PySem.Value.str (PySem.Str.ofString "name") (293), PySem.Value.str (PySem.Str.ofString "j") (294)] } : Obj)) ::
  (nat_lit 80, ({ cls := PySem.Value.type "tuple", data := PySem.Data.seq #[] } : Obj)) ::
  (nat_lit 82, ({ cls := PySem.Value.type "code", data := PySem.Data.fields #[PySem.Value.str (PySem.Str.ofString "_law_names") (286), PySem.Value.str (PySem.Str.ofString "_law_names") (287), PySem.Value.str (PySem.Str.ofString "/claim/cut.py") (288), PySem.Value.int (98) 0, PySem.Value.int 1 0, PySem.Value.int 0 0, PySem.Value.int 0 0, PySem.Value.int 3 0, PySem.Value.ref (77), PySem.Value.bool Bool.true, PySem.Value.int (181) 0, PySem.Value.ref (78), PySem.Value.none, PySem.Value.ref (79), PySem.Value.ref (80), PySem.Value.ref (81), PySem.Value.int (295) 0, PySem.Value.int (98) 0, PySem.Value.str (PySem.Str.ofString "/claim/cut.py") (296)] } : Obj)) ::
  (nat_lit 83, ({ cls := .type "function", data := .func (fnI 12 (.str (Str.ofString "law_nq0048_01") 284) (.ref 82) .none) } : Obj)) ::
  (nat_lit 84, ({ cls := PySem.Value.type "tuple", data := PySem.Data.seq #[] } : Obj)) ::
  (nat_lit 86, ({ cls := PySem.Value.type "tuple", data := PySem.Data.seq #[PySem.Value.str (PySem.Str.ofString "name") (301), PySem.Value.str (PySem.Str.ofString "tail") (302)] } : Obj)) ::
  (nat_lit 87, ({ cls := PySem.Value.type "tuple", data := PySem.Data.seq #[] } : Obj)) ::
  (nat_lit 89, ({ cls := PySem.Value.type "code", data := PySem.Data.fields #[PySem.Value.str (PySem.Str.ofString "_law_reply") (298), PySem.Value.str (PySem.Str.ofString "_law_reply") (299), PySem.Value.str (PySem.Str.ofString "/claim/cut.py") (300), PySem.Value.int (107) 0, PySem.Value.int 2 0, PySem.Value.int 0 0, PySem.Value.int 0 0, PySem.Value.int 3 0, PySem.Value.ref (84), PySem.Value.bool Bool.true, PySem.Value.int (181) 0, PySem.Value.ref (85), PySem.Value.none, PySem.Value.ref (86), PySem.Value.ref (87), PySem.Value.ref (88), PySem.Value.int (303) 0, PySem.Value.int (107) 0, PySem.Value.str (PySem.Str.ofString "/claim/cut.py") (304)] } : Obj)) ::
  (nat_lit 90, ({ cls := .type "function", data := .func (fnI 13 (.str (Str.ofString "law_nq0048_01") 284) (.ref 89) .none) } : Obj)) ::
  (nat_lit 91, ({ cls := PySem.Value.type "tuple", data := PySem.Data.seq #[] } : Obj)) ::
  (nat_lit 94, ({ cls := PySem.Value.type "code", data := PySem.Data.fields #[PySem.Value.str (PySem.Str.ofString "_law_marks") (306), PySem.Value.str (PySem.Str.ofString "_law_marks") (307), PySem.Value.str (PySem.Str.ofString "/claim/cut.py") (308), PySem.Value.int (109) 0, PySem.Value.int 2 0, PySem.Value.int 0 0, PySem.Value.int 0 0, PySem.Value.int 3 0, PySem.Value.ref (91), PySem.Value.bool Bool.true, PySem.Value.int (181) 0, PySem.Value.ref (92), PySem.Value.none, PySem.Value.none, PySem.Value.none, PySem.Value.ref (93), PySem.Value.int (309) 0, PySem.Value.int (109) 0, PySem.Value.str (PySem.Str.ofString "/claim/cut.py") (310)] } : Obj)) ::
  (nat_lit 95, ({ cls := .type "function", data := .func (fnI 14 (.str (Str.ofString "law_nq0048_01") 284) (.ref 94) .none) } : Obj)) ::
  (nat_lit 96, ({ cls := PySem.Value.type "tuple", data := PySem.Data.seq #[] } : Obj)) ::
  (nat_lit 98, ({ cls := PySem.Value.type "tuple", data := PySem.Data.seq #[PySem.Value.str (PySem.Str.ofString "a") (315), PySem.Value.str (PySem.Str.ofString "b") (316), PySem.Value.str (PySem.Str.ofString "late") (317), PySem.Value.str (PySem.Str.ofString "k") (318)] } : Obj)) ::
  (nat_lit 99, ({ cls := PySem.Value.type "tuple", data := PySem.Data.seq #[] } : Obj)) ::
  (nat_lit 101, ({ cls := PySem.Value.type "code", data := PySem.Data.fields #[PySem.Value.str (PySem.Str.ofString "_law_ahead") (312), PySem.Value.str (PySem.Str.ofString "_law_ahead") (313), PySem.Value.str (PySem.Str.ofString "/claim/cut.py") (314), PySem.Value.int (111) 0, PySem.Value.int 3 0, PySem.Value.int 0 0, PySem.Value.int 0 0, PySem.Value.int 3 0, PySem.Value.ref (96), PySem.Value.bool Bool.true, PySem.Value.int (181) 0, PySem.Value.ref (97), PySem.Value.none, PySem.Value.ref (98), PySem.Value.ref (99), PySem.Value.ref (100), PySem.Value.int (319) 0, PySem.Value.int (111) 0, PySem.Value.str (PySem.Str.ofString "/claim/cut.py") (320)] } : Obj)) ::
  (nat_lit 102, ({ cls := .type "function", data := .func (fnI 15 (.str (Str.ofString "law_nq0048_01") 284) (.ref 101) .none) } : Obj)) ::
  (nat_lit 103, ({ cls := PySem.Value.type "tuple", data := PySem.Data.seq #[] } : Obj)) ::
  (nat_lit 105, ({ cls := PySem.Value.type "tuple", data := PySem.Data.seq #[PySem.Value.str (PySem.Str.ofString "items") (325), PySem.Value.str (PySem.Str.ofString "late") (326), PySem.Value.str (PySem.Str.ofString "laid") (327), PySem.Value.str (PySem.Str.ofString "item") (328), PySem.Value.str (PySem.Str.ofString "k") (329)] } : Obj)) ::
  (nat_lit 106, ({ cls := PySem.Value.type "tuple", data := PySem.Data.seq #[] } : Obj)) ::
  (nat_lit 108, ({ cls := PySem.Value.type "code", data := PySem.Data.fields #[PySem.Value.str (PySem.Str.ofString "_law_laid") (322), PySem.Value.str (PySem.Str.ofString "_law_laid") (323), PySem.Value.str (PySem.Str.ofString "/claim/cut.py") (324), PySem.Value.int (122) 0, PySem.Value.int 2 0, PySem.Value.int 0 0, PySem.Value.int 0 0, PySem.Value.int 3 0, PySem.Value.ref (103), PySem.Value.bool Bool.true, PySem.Value.int (181) 0, PySem.Value.ref (104), PySem.Value.none, PySem.Value.ref (105), PySem.Value.ref (106), PySem.Value.ref (107), PySem.Value.int (330) 0, PySem.Value.int (122) 0, PySem.Value.str (PySem.Str.ofString "/claim/cut.py") (331)] } : Obj)) ::
  (nat_lit 109, ({ cls := .type "function", data := .func (fnI 16 (.str (Str.ofString "law_nq0048_01") 284) (.ref 108) .none) } : Obj)) ::
  (nat_lit 110, ({ cls := PySem.Value.type "tuple", data := PySem.Data.seq #[] } : Obj)) ::
  (nat_lit 112, ({ cls := PySem.Value.type "tuple", data := PySem.Data.seq #[PySem.Value.str (PySem.Str.ofString "one") (336), PySem.Value.str (PySem.Str.ofString "other") (337)] } : Obj)) ::
  (nat_lit 113, ({ cls := PySem.Value.type "tuple", data := PySem.Data.seq #[] } : Obj)) ::
  (nat_lit 115, ({ cls := PySem.Value.type "code", data := PySem.Data.fields #[PySem.Value.str (PySem.Str.ofString "_law_compare") (333), PySem.Value.str (PySem.Str.ofString "_law_compare") (334), PySem.Value.str (PySem.Str.ofString "/claim/cut.py") (335), PySem.Value.int (130) 0, PySem.Value.int 2 0, PySem.Value.int 0 0, PySem.Value.int 0 0, PySem.Value.int 3 0, PySem.Value.ref (110), PySem.Value.bool Bool.true, PySem.Value.int (181) 0, PySem.Value.ref (111), PySem.Value.none, PySem.Value.ref (112), PySem.Value.ref (113), PySem.Value.ref (114), PySem.Value.int (338) 0, PySem.Value.int (130) 0, PySem.Value.str (PySem.Str.ofString "/claim/cut.py") (339)] } : Obj)) ::
  (nat_lit 116, ({ cls := .type "function", data := .func (fnI 17 (.str (Str.ofString "law_nq0048_01") 284) (.ref 115) .none) } : Obj)) ::
  (nat_lit 117, ({ cls := PySem.Value.type "tuple", data := PySem.Data.seq #[] } : Obj)) ::
  (nat_lit 119, ({ cls := PySem.Value.type "tuple", data := PySem.Data.seq #[PySem.Value.str (PySem.Str.ofString "laid") (344), PySem.Value.str (PySem.Str.ofString "name") (345), PySem.Value.str (PySem.Str.ofString "late") (346), PySem.Value.str (PySem.Str.ofString "kind") (347), PySem.Value.str (PySem.Str.ofString "item") (348), PySem.Value.str (PySem.Str.ofString "me") (349), PySem.Value.str (PySem.Str.ofString "k") (350)] } : Obj)) ::
  (nat_lit 120, ({ cls := PySem.Value.type "tuple", data := PySem.Data.seq #[] } : Obj)) ::
  (nat_lit 122, ({ cls := PySem.Value.type "code", data := PySem.Data.fields #[PySem.Value.str (PySem.Str.ofString "_law_put") (341), PySem.Value.str (PySem.Str.ofString "_law_put") (342), PySem.Value.str (PySem.Str.ofString "/claim/cut.py") (343), PySem.Value.int (132) 0, PySem.Value.int 4 0, PySem.Value.int 0 0, PySem.Value.int 0 0, PySem.Value.int 3 0, PySem.Value.ref (117), PySem.Value.bool Bool.true, PySem.Value.int (181) 0, PySem.Value.ref (118), PySem.Value.none, PySem.Value.ref (119), PySem.Value.ref (120), PySem.Value.ref (121), PySem.Value.int (351) 0, PySem.Value.int (132) 0, PySem.Value.str (PySem.Str.ofString "/claim/cut.py") (352)] } : Obj)) ::
  (nat_lit 123, ({ cls := .type "function", data := .func (fnI 18 (.str (Str.ofString "law_nq0048_01") 284) (.ref 122) .none) } : Obj)) ::
  (nat_lit 124, ({ cls := PySem.Value.type "tuple", data := PySem.Data.seq #[] } : Obj)) ::
  (nat_lit 126, ({ cls := PySem.Value.type "tuple", data := PySem.Data.seq #[PySem.Value.str (PySem.Str.ofString "one") (357), PySem.Value.str (PySem.Str.ofString "other") (358), PySem.Value.str (PySem.Str.ofString "kind") (359), PySem.Value.str (PySem.Str.ofString "me") (360), PySem.Value.str (PySem.Str.ofString "you") (361)] } : Obj)) ::
  (nat_lit 127, ({ cls := PySem.Value.type "tuple", data := PySem.Data.seq #[] } : Obj)) ::
  (nat_lit 129, ({ cls := PySem.Value.type "code", data := PySem.Data.fields #[PySem.Value.str (PySem.Str.ofString "_law_told") (354), PySem.Value.str (PySem.Str.ofString "_law_told") (355), PySem.Value.str (PySem.Str.ofString "/claim/cut.py") (356), PySem.Value.int (139) 0, PySem.Value.int 3 0, PySem.Value.int 0 0, PySem.Value.int 0 0, PySem.Value.int 3 0, PySem.Value.ref (124), PySem.Value.bool Bool.true, PySem.Value.int (181) 0, PySem.Value.ref (125), PySem.Value.none, PySem.Value.ref (126), PySem.Value.ref (127), PySem.Value.ref (128), PySem.Value.int (362) 0, PySem.Value.int (139) 0, PySem.Value.str (PySem.Str.ofString "/claim/cut.py") (363)] } : Obj)) ::
  (nat_lit 130, ({ cls := .type "function", data := .func (fnI 19 (.str (Str.ofString "law_nq0048_01") 284) (.ref 129) .none) } : Obj)) ::
  (nat_lit 131, ({ cls := PySem.Value.type "tuple", data := PySem.Data.seq #[] } : Obj)) ::
  (nat_lit 133, ({ cls := PySem.Value.type "tuple", data := PySem.Data.seq #[PySem.Value.str (PySem.Str.ofString "one") (368), PySem.Value.str (PySem.Str.ofString "other") (369), PySem.Value.str (PySem.Str.ofString "late") (370), PySem.Value.str (PySem.Str.ofString "up") (371), PySem.Value.str (PySem.Str.ofString "down") (372)] } : Obj)) ::
  (nat_lit 134, ({ cls := PySem.Value.type "tuple", data := PySem.Data.seq #[] } : Obj)) ::
  (nat_lit 136, ({ cls := PySem.Value.type "code", data := PySem.Data.fields #[PySem.Value.str (PySem.Str.ofString "_law_due") (365), PySem.Value.str (PySem.Str.ofString "_law_due") (366), PySem.Value.str (PySem.Str.ofString "/claim/cut.py") (367), PySem.Value.int (143) 0, PySem.Value.int 3 0, PySem.Value.int 0 0, PySem.Value.int 0 0, PySem.Value.int 3 0, PySem.Value.ref (131), PySem.Value.bool Bool.true, PySem.Value.int (181) 0, PySem.Value.ref (132), PySem.Value.none, PySem.Value.ref (133), PySem.Value.ref (134), PySem.Value.ref (135), PySem.Value.int (373) 0, PySem.Value.int (143) 0, PySem.Value.str (PySem.Str.ofString "/claim/cut.py") (374)] } : Obj)) ::
  (nat_lit 137, ({ cls := .type "function", data := .func (fnI 20 (.str (Str.ofString "law_nq0048_01") 284) (.ref 136) .none) } : Obj)) ::
  (nat_lit 138, ({ cls := PySem.Value.type "tuple", data := PySem.Data.seq #[] } : Obj)) ::
  (nat_lit 140, ({ cls := PySem.Value.type "tuple", data := PySem.Data.seq #[PySem.Value.str (PySem.Str.ofString "laid") (379), PySem.Value.str (PySem.Str.ofString "late") (380), PySem.Value.str (PySem.Str.ofString "kind") (381), PySem.Value.str (PySem.Str.ofString "k") (382), PySem.Value.str (PySem.Str.ofString "one") (383), PySem.Value.str (PySem.Str.ofString "other") (384)] } : Obj)) ::
  (nat_lit 141, ({ cls := PySem.Value.type "tuple", data := PySem.Data.seq #[] } : Obj)) ::
  (nat_lit 143, ({ cls := PySem.Value.type "code", data := PySem.Data.fields #[PySem.Value.str (PySem.Str.ofString "_law_keys_right") (376), PySem.Value.str (PySem.Str.ofString "_law_keys_right") (377), PySem.Value.str (PySem.Str.ofString "/claim/cut.py") (378), PySem.Value.int (147) 0, PySem.Value.int 3 0, PySem.Value.int 0 0, PySem.Value.int 0 0, PySem.Value.int 3 0, PySem.Value.ref (138), PySem.Value.bool Bool.true, PySem.Value.int (181) 0, PySem.Value.ref (139), PySem.Value.none, PySem.Value.ref (140), PySem.Value.ref (141), PySem.Value.ref (142), PySem.Value.int (385) 0, PySem.Value.int (147) 0, PySem.Value.str (PySem.Str.ofString "/claim/cut.py") (386)] } : Obj)) ::
  (nat_lit 144, ({ cls := .type "function", data := .func (fnI 21 (.str (Str.ofString "law_nq0048_01") 284) (.ref 143) .none) } : Obj)) ::
  (nat_lit 145, ({ cls := PySem.Value.type "tuple", data := PySem.Data.seq #[] } : Obj)) ::
  (nat_lit 148, ({ cls := PySem.Value.type "code", data := PySem.Data.fields #[PySem.Value.str (PySem.Str.ofString "_law_lacks") (388), PySem.Value.str (PySem.Str.ofString "_law_lacks") (389), PySem.Value.str (PySem.Str.ofString "/claim/cut.py") (390), PySem.Value.int (153) 0, PySem.Value.int 3 0, PySem.Value.int 0 0, PySem.Value.int 0 0, PySem.Value.int 3 0, PySem.Value.ref (145), PySem.Value.bool Bool.true, PySem.Value.int (181) 0, PySem.Value.ref (146), PySem.Value.none, PySem.Value.none, PySem.Value.none, PySem.Value.ref (147), PySem.Value.int (391) 0, PySem.Value.int (153) 0, PySem.Value.str (PySem.Str.ofString "/claim/cut.py") (392)] } : Obj)) ::
  (nat_lit 149, ({ cls := .type "function", data := .func (fnI 22 (.str (Str.ofString "law_nq0048_01") 284) (.ref 148) .none) } : Obj)) ::
  (nat_lit 150, ({ cls := PySem.Value.type "tuple", data := PySem.Data.seq #[] } : Obj)) ::
  (nat_lit 152, ({ cls := PySem.Value.type "tuple", data := PySem.Data.seq #[PySem.Value.str (PySem.Str.ofString "reply") (397), PySem.Value.str (PySem.Str.ofString "error") (398)] } : Obj)) ::
  (nat_lit 153, ({ cls := PySem.Value.type "tuple", data := PySem.Data.seq #[] } : Obj)) ::
  (nat_lit 155, ({ cls := PySem.Value.type "code", data := PySem.Data.fields #[PySem.Value.str (PySem.Str.ofString "_law_refused") (394), PySem.Value.str (PySem.Str.ofString "_law_refused") (395), PySem.Value.str (PySem.Str.ofString "/claim/cut.py") (396), PySem.Value.int (161) 0, PySem.Value.int 1 0, PySem.Value.int 0 0, PySem.Value.int 0 0, PySem.Value.int 3 0, PySem.Value.ref (150), PySem.Value.bool Bool.true, PySem.Value.int (181) 0, PySem.Value.ref (151), PySem.Value.none, PySem.Value.ref (152), PySem.Value.ref (153), PySem.Value.ref (154), PySem.Value.int (399) 0, PySem.Value.int (161) 0, PySem.Value.str (PySem.Str.ofString "/claim/cut.py") (400)] } : Obj)) ::
  (nat_lit 156, ({ cls := .type "function", data := .func (fnI 23 (.str (Str.ofString "law_nq0048_01") 284) (.ref 155) .none) } : Obj)) ::
  (nat_lit 157, ({ cls := PySem.Value.type "tuple", data := PySem.Data.seq #[] } : Obj)) ::
  (nat_lit 159, ({ cls := PySem.Value.type "tuple", data := PySem.Data.seq #[PySem.Value.str (PySem.Str.ofString "name") (405), PySem.Value.str (PySem.Str.ofString "tail") (406), PySem.Value.str (PySem.Str.ofString "reply") (407), PySem.Value.str (PySem.Str.ofString "code") (408)] } : Obj)) ::
  (nat_lit 160, ({ cls := PySem.Value.type "tuple", data := PySem.Data.seq #[] } : Obj)) ::
  (nat_lit 162, ({ cls := PySem.Value.type "code", data := PySem.Data.fields #[PySem.Value.str (PySem.Str.ofString "_law_spoiled") (402), PySem.Value.str (PySem.Str.ofString "_law_spoiled") (403), PySem.Value.str (PySem.Str.ofString "/claim/cut.py") (404), PySem.Value.int (167) 0, PySem.Value.int 2 0, PySem.Value.int 0 0, PySem.Value.int 0 0, PySem.Value.int 3 0, PySem.Value.ref (157), PySem.Value.bool Bool.true, PySem.Value.int (181) 0, PySem.Value.ref (158), PySem.Value.none, PySem.Value.ref (159), PySem.Value.ref (160), PySem.Value.ref (161), PySem.Value.int (409) 0, PySem.Value.int (167) 0, PySem.Value.str (PySem.Str.ofString "/claim/cut.py") (410)] } : Obj)) ::
  (nat_lit 163, ({ cls := .type "function", data := .func (fnI 24 (.str (Str.ofString "law_nq0048_01") 284) (.ref 162) .none) } : Obj)) ::
  (nat_lit 164, ({ cls := PySem.Value.type "tuple", data := PySem.Data.seq #[] } : Obj)) ::
  (nat_lit 167, ({ cls := PySem.Value.type "code", data := PySem.Data.fields #[PySem.Value.str (PySem.Str.ofString "law") (412), PySem.Value.str (PySem.Str.ofString "law") (413), PySem.Value.str (PySem.Str.ofString "/claim/cut.py") (414), PySem.Value.int (175) 0, PySem.Value.int 1 0, PySem.Value.int 0 0, PySem.Value.int 0 0, PySem.Value.int 3 0, PySem.Value.ref (164), PySem.Value.bool Bool.true, PySem.Value.int (181) 0, PySem.Value.ref (165), PySem.Value.none, PySem.Value.none, PySem.Value.none, PySem.Value.ref (166), PySem.Value.int (415) 0, PySem.Value.int (175) 0, PySem.Value.str (PySem.Str.ofString "/claim/cut.py") (416)] } : Obj)) ::
  (nat_lit 168, ({ cls := .type "function", data := .func (fnI 25 (.str (Str.ofString "law_nq0048_01") 284) (.ref 167) .none) } : Obj)) :: []

noncomputable abbrev hkK : Hook := kmHook hd.heap_39 [2, 3, 15, 22, 23, 24, 25, 28, 35, 36, 37, 40, 42, 43, 45, 46, 47, 49, 50, 52, 53, 54, 55, 56, 58, 59, 61, 62, 63, 65, 66, 68, 69, 70, 72, 73, 75, 76, 77, 79, 80, 82, 83, 84, 86, 87, 89, 90, 91, 94, 95, 96, 98, 99, 101, 102, 103, 105, 106, 108, 109, 110, 112, 113, 115, 116, 117, 119, 120, 122, 123, 124, 126, 127, 129, 130, 131, 133, 134, 136, 137, 138, 140, 141, 143, 144, 145, 148, 149, 150, 152, 153, 155, 156, 157, 159, 160, 162, 163, 164, 167, 168] (fun _ => by kernel_rfl) [48, 165]
theorem hd_said : OpenLaw.wellSaid PySem.Challenge.rw_nq0048_01 = true := by kernel_rfl
theorem hd_left : LeftO rwR.prog hd.view_39 [Str.ofString "_initial_missing", Str.ofString "reduce"] (fun s => xlAt hd.view_39 [] s && recOk (RowW.records rwR) s) (Hook.obs hkK) (Hook.val hkK) 2270 := by
  intro w
  kernel_rfl
set_option maxHeartbeats 8000000 in
theorem hd (walk : ∀ d kwd, d.name = Str.ofString "law" → WalkO hd.view_39 [Str.ofString "_initial_missing", Str.ofString "reduce"] (XL hd.view_39 []) (kmHook hd.heap_39 [2, 3, 15, 22, 23, 24, 25, 28, 35, 36, 37, 40, 42, 43, 45, 46, 47, 49, 50, 52, 53, 54, 55, 56, 58, 59, 61, 62, 63, 65, 66, 68, 69, 70, 72, 73, 75, 76, 77, 79, 80, 82, 83, 84, 86, 87, 89, 90, 91, 94, 95, 96, 98, 99, 101, 102, 103, 105, 106, 108, 109, 110, 112, 113, 115, 116, 117, 119, 120, 122, 123, 124, 126, 127, 129, 130, 131, 133, 134, 136, 137, 138, 140, 141, 143, 144, 145, 148, 149, 150, 152, 153, 155, 156, 157, 159, 160, 162, 163, 164, 167, 168] (fun _ => by kernel_rfl) [48, 165]).says rwR d kwd fun f vs => PySem.call f vs) : PySem.Challenge.rw_nq0048_01.Holds := by
  refine holds_law hd_said fun _ => ?_
  refine holds_open (q := hd.view_39) (loose := [Str.ofString "_initial_missing", Str.ofString "reduce"]) (Xt := fun s => xlAt hd.view_39 [] s && recOk (RowW.records rwR) s) (XP := XL hd.view_39 []) (Yf := Hook.obs hkK) (Ya := Hook.val hkK) (YP := Hook.says hkK) (N := 2270) hd_left (Hook.of hkK) (Hook.keeps hkK) (fun s e => xl_of s (Bool.and_eq_true_iff.mp e).1) XL.keeps (by rfl) (by rfl) (by rfl) (fun s e => recFacts_of (Bool.and_eq_true_iff.mp e).2) (by rfl) (by assumption) (by decide +kernel) ⟨rfl, rfl, rfl, rfl, rfl, by decide +kernel⟩ ?hw (walk _ _ rfl)
  case hw => w_witness2
end Mine

namespace Mine
open PySem PySem.W PySem.Calls PyProof.Rows
theorem fill_all : Mine.hd.heap_39 = Mine.hd.heap_39 ∧ PySem.Challenge.rw_nq0048_01 = PySem.Challenge.rw_nq0048_01 := by k_fill; exact ⟨rfl, rfl⟩

section
noncomputable abbrev looseN : List Str := [Str.ofString "_initial_missing", Str.ofString "reduce"]
structure Gd (w : World) (mg mb : Str → Option Value) (h : Heap) : Prop where
  K : (Mine.hd.heap_39 w.params).In h
  T : TopRead Mine.hd.view_39 looseN mg mb h

noncomputable def Pr (X : List Addr) (h h' : Heap) : Prop := ∀ a o, h.get? a = some o → a ∉ X → h'.get? a = some o
noncomputable def Kp (h h' : Heap) : Prop := ∀ a o, h.get? a = some o → h'.get? a = some o
theorem Kp.refl (h : Heap) : Kp h h := fun _ _ e => e
theorem Kp.trans {a b c : Heap} (x : Kp a b) (y : Kp b c) : Kp a c := fun p o e => y p o (x p o e)
theorem Kp.push (h : Heap) (o : Obj) : Kp h (h.push o) := fun _ _ e => Heap.get?_push_of_some o e
theorem Kp.pr {h h' : Heap} (k : Kp h h') (X : List Addr) : Pr X h h' := fun a o e _ => k a o e
theorem Pr.refl (X : List Addr) (h : Heap) : Pr X h h := fun _ _ e _ => e
theorem Pr.trans {X : List Addr} {a b c : Heap} (x : Pr X a b) (y : Pr X b c) : Pr X a c := fun p o e n => y p o (x p o e n) n
theorem Pr.mono {X Y : List Addr} {a b : Heap} (x : Pr X a b) (s : ∀ p ∈ X, p ∈ Y) : Pr Y a b := fun p o e n => x p o e fun m => n (s p m)
theorem Pr.same {X : List Addr} {a b : Heap} {L : Addr} (hs : Heap.SameBut L a b) (m : L ∈ X) : Pr X a b := fun p o e n => (hs.2 p (fun q => n (q ▸ m))).trans e
theorem Pr.get {X : List Addr} {a b : Heap} (x : Pr X a b) {p : Addr} {o : Obj} (e : a.get? p = some o) (n : p ∉ X) : b.get? p = some o := x p o e n
theorem new_none (h : Heap) : h.get? h.objs.size = none := by
  cases e : h.get? h.objs.size with
  | none => rfl
  | some o => exact absurd (Heap.lt_size e) (Nat.lt_irrefl _)
theorem none_of {h h' : Heap} {a : Addr} (n : h'.get? a = none) (k : Kp h h') : h.get? a = none := by
  cases e : h.get? a with
  | none => rfl
  | some o => rw [k _ _ e] at n; cases n
theorem Gd.keeps {w : World} {mg mb : Str → Option Value} {h h' : Heap} (G : Gd w mg mb h) (k : Kp h h') : Gd w mg mb h' := ⟨G.K.keeps k, G.T.keeps k⟩

noncomputable def Of (h : Heap) (X : List Addr) (a : Addr) (o : Obj) : Prop := h.get? a = some o ∧ a ∉ X
noncomputable abbrev Hp := Addr → Obj → Prop
noncomputable def Le (H H' : Hp) : Prop := ∀ a o, H a o → H' a o
theorem Le.refl (H : Hp) : Le H H := fun _ _ e => e
theorem Le.trans {a b c : Hp} (x : Le a b) (y : Le b c) : Le a c := fun p o e => y p o (x p o e)
theorem Pr.le {X Y : List Addr} {h h' : Heap} (x : Pr X h h') (s : ∀ p ∈ X, p ∈ Y) : Le (Of h Y) (Of h' Y) := fun a o e => ⟨x a o e.1 fun m => e.2 (s a m), e.2⟩
theorem Pr.le' {X : List Addr} {h h' : Heap} (x : Pr X h h') : Le (Of h X) (Of h' X) := x.le fun _ m => m
theorem Kp.le {h h' : Heap} (x : Kp h h') (X : List Addr) : Le (Of h X) (Of h' X) := fun a o e => ⟨x a o e.1, e.2⟩
theorem Of.sub {h : Heap} {X Y : List Addr} (s : ∀ p ∈ Y, p ∈ X) : Le (Of h X) (Of h Y) := fun _ _ e => ⟨e.1, fun m => e.2 (s _ m)⟩
theorem Of.more {h h' : Heap} {X : List Addr} {b : Addr} (k : Le (Of h X) (Of h' X)) (n : h.get? b = none) : Le (Of h X) (Of h' (b :: X)) := fun a o e => ⟨(k a o e).1, by
  intro m
  rcases List.mem_cons.mp m with rfl | m
  · have := e.1; rw [n] at this; cases this
  · exact e.2 m⟩

structure FrL (h₀ : Heap) (L : Addr) (h : Heap) (l : List (Str × Value)) : Prop where
  ex : ∃ m, Fr h₀ L h m ∧ ∀ x v, l.lookup x = some v → m x = some v
theorem FrL.keep {h₀ h : Heap} {L : Addr} {l : List (Str × Value)} (F : FrL h₀ L h l) : Kp h₀ h := let ⟨_, F, _⟩ := F.ex; F.keep
theorem FrL.kp {h₀ h h' : Heap} {L : Addr} {l : List (Str × Value)} (F : FrL h₀ L h l) (k : Kp h h') : FrL h₀ L h' l := let ⟨m, F, e⟩ := F.ex; ⟨m, ⟨F.ns.keeps k, fun b o e => k b o (F.keep b o e), F.above⟩, e⟩
theorem FrL.above {h₀ h : Heap} {L : Addr} {l : List (Str × Value)} (F : FrL h₀ L h l) : h₀.objs.size ≤ L := let ⟨_, F, _⟩ := F.ex; F.above
theorem FrL.some {h₀ h : Heap} {L : Addr} {l : List (Str × Value)} (F : FrL h₀ L h l) : ∃ o, h.get? L = .some o := let ⟨_, F, _⟩ := F.ex; let ⟨o, _, _, e, _⟩ := F.ns; ⟨o, e⟩
theorem FrL.base {h₀ h : Heap} {L : Addr} {l : List (Str × Value)} (F : FrL h₀ L h l) : h₀.get? L = none := by
  cases e : h₀.get? L with
  | none => rfl
  | some o => exact absurd (Heap.lt_size e) (Nat.not_lt.mpr F.above)
theorem FrL.ne {h₀ h : Heap} {L : Addr} {l : List (Str × Value)} (F : FrL h₀ L h l) {a : Addr} (n : h.get? a = none) : a ≠ L := by
  obtain ⟨o, e⟩ := F.some
  rintro rfl; rw [n] at e; cases e
theorem FrL.args {h₀ h : Heap} {L : Addr} {l : List (Str × Value)} (F : FrL h₀ L h l) : Le (Of h₀ []) (Of h [L]) := fun a o e => ⟨F.keep a o e.1, fun m => by
  have := e.1; rw [List.mem_singleton.mp m, F.base] at this; cases this⟩
theorem FrL.pr {h₀ h h' : Heap} {L : Addr} {l : List (Str × Value)} {X : List Addr} (F : FrL h₀ L h l) (p : Pr X h h') (hL : L ∉ X) (hX : ∀ a ∈ X, h₀.get? a = none) : FrL h₀ L h' l := by
  obtain ⟨m, F, e⟩ := F.ex
  refine ⟨m, ⟨?_, fun b o q => p b o (F.keep b o q) fun hm => ?_, F.above⟩, e⟩
  · obtain ⟨o, es, ep, x, r⟩ := F.ns
    exact ⟨o, es, ep, p _ _ x hL, r⟩
  · rw [hX b hm] at q; cases q
noncomputable def SubL (l : List (Str × Value)) : List (Str × Value) → Prop
  | [] => True
  | p :: r => l.lookup p.1 = some p.2 ∧ SubL l r
theorem SubL.look {l : List (Str × Value)} : ∀ {l' : List (Str × Value)}, SubL l l' → ∀ x v, l'.lookup x = some v → l.lookup x = some v
  | [], _, _, _, e => by cases e
  | p :: r, ⟨a, b⟩, x, v, e => by
    rw [List.lookup_cons] at e
    by_cases q : (x == p.1) = true
    · rw [q] at e
      have : x = p.1 := by simpa using q
      subst this
      cases e; exact a
    · have q' : (x == p.1) = false := by simpa using q
      rw [q'] at e
      exact SubL.look b x v e
theorem FrL.sub {h₀ h : Heap} {L : Addr} {l l' : List (Str × Value)} (F : FrL h₀ L h l) (s : SubL l l') : FrL h₀ L h l' := let ⟨m, F, e⟩ := F.ex; ⟨m, F, fun x v q => e x v (s.look x v q)⟩

noncomputable def RetR (R : Value → Shared → Prop) : Result → Shared → Prop := fun r s' => match r with
  | .ok (.ret v) => R v s'
  | _ => False
structure Ar (A : Around) (n : Nat) : Prop where
  hd : A.handled = none
  dp : A.depth + n < recursionLimit
  un : A.units + 20 * n < cLine
theorem Ar.deeper {A : Around} {n : Nat} {env : Env} (a : Ar A (n + 1)) : Ar (A.deeper env) n := ⟨a.hd, by show A.depth + 1 + n < _; have := a.dp; lia, by show A.units + 3 + 20 * n < _; have := a.un; lia⟩
theorem Ar.less {A : Around} {n m : Nat} (a : Ar A n) (h : m ≤ n) : Ar A m := ⟨a.hd, by have := a.dp; lia, by have := a.un; lia⟩
theorem Ar.in1 {A : Around} {n : Nat} (a : Ar A (n + 1)) : Ar A.in1 n := ⟨a.hd, by show A.depth + n < _; have := a.dp; lia, by show A.units + 1 + 20 * n < _; have := a.un; lia⟩
theorem Ar.d0 {A : Around} {n : Nat} (a : Ar A n) : A.depth < recursionLimit := by have := a.dp; lia
noncomputable abbrev NoE : Value → Shared → Prop := fun _ _ => False

section
variable {prog : Program} {w : World} {mg mb : Str → Option Value} {A : Around} {g : Array GenState} {d : Drawn} {os : OsState}

theorem enterT {R : Value → Shared → Prop} {s : Shared} {f : Addr} {name : Str} {params : Arguments} {body : List Stmt} {scope : Scope} {pm cd doc oc : Value} {od : Option Addr} {osl : Array (Option Value)} {args : List Value} (binds : List (Str × Value))
    (G : Gd w mg mb s.heap) (hroom : A.depth < recursionLimit)
    (ho : (Mine.hd.heap_39 w.params).lookup f = some ⟨oc, od, .func (docDef name params body scope pm cd doc), osl⟩) (hcd : codeIn (Mine.hd.heap_39 w.params) cd name = true)
    (hbind : bindArgs (docDef name params body scope pm cd doc) ⟨args, []⟩ = pure binds) (hloc : (binds.all fun x => decide (scope.names.lookup x.1 = some .local)) = true)
    (h : let env := envOf name scope s.heap.objs.size f cd; ∀ h₁ t₁, s.toks ≤ t₁ → FrL s.heap env.locals h₁ binds.reverse →
      wpAny (model prog w) (A.deeper env) (execs body env) (fun fl s' => R (match fl with | .ret v => v | _ => .none) s') NoE ⟨h₁, s.gens, s.drawn, t₁, s.os⟩)
    (hco : scope.isCoroutine = false := by rfl) (hgen : scope.isGenerator = false := by rfl) (hk : scope.kind = .function := by rfl)
    (hcell : ∀ x ∈ scope.names, x.2 ≠ .cell := by decide) : codeAny (model prog w) A (.call (.ref f) ⟨args, []⟩) (RetR R) s :=
  call_plain_ret hroom (G.K _ _ ho) rfl G.T.nolimit (codeRec_of G.K hcd) hbind (locs hloc) (fun h₁ F => wpAny_mono (h h₁ _ (Nat.le_add_right _ _) ⟨_, F, fun _ _ e => e⟩) (fun _ _ x => x) (fun _ _ x => x)) hco hgen hk hcell
theorem enter {R : Value → Shared → Prop} {s : Shared} {f : Addr} {name : Str} {params : Arguments} {body : List Stmt} {scope : Scope} {pm cd doc oc : Value} {od : Option Addr} {osl : Array (Option Value)} {args : List Value} (binds : List (Str × Value))
    (G : Gd w mg mb s.heap) (hroom : A.depth < recursionLimit)
    (ho : (Mine.hd.heap_39 w.params).lookup f = some ⟨oc, od, .func (docDef name params body scope pm cd doc), osl⟩) (hcd : codeIn (Mine.hd.heap_39 w.params) cd name = true)
    (hbind : bindArgs (docDef name params body scope pm cd doc) ⟨args, []⟩ = pure binds) (hloc : (binds.all fun x => decide (scope.names.lookup x.1 = some .local)) = true)
    (h : let env := envOf name scope s.heap.objs.size f cd; ∀ h₁ t₁, FrL s.heap env.locals h₁ binds.reverse →
      wpAny (model prog w) (A.deeper env) (execs body env) (fun fl s' => R (match fl with | .ret v => v | _ => .none) s') NoE ⟨h₁, s.gens, s.drawn, t₁, s.os⟩)
    (hco : scope.isCoroutine = false := by rfl) (hgen : scope.isGenerator = false := by rfl) (hk : scope.kind = .function := by rfl)
    (hcell : ∀ x ∈ scope.names, x.2 ≠ .cell := by decide) : codeAny (model prog w) A (.call (.ref f) ⟨args, []⟩) (RetR R) s :=
  enterT binds G hroom ho hcd hbind hloc (fun h₁ t₁ _ F => h h₁ t₁ F) hco hgen hk hcell
end
end

section
theorem endB {R : Value → Shared → Prop} {h : Heap} {g : Array GenState} {d : Drawn} {os : OsState} {t : Nat} {b b' : Bool} (q : ∀ t', R (.bool b') ⟨h, g, d, t', os⟩) (e : b = b') : R (.bool b) ⟨h, g, d, t, os⟩ := e ▸ q t
theorem endS {R : Value → Shared → Prop} {h : Heap} {g : Array GenState} {d : Drawn} {os : OsState} {t : Nat} {b b' : Str} {u : Tok} (q : ∀ u t', R (.str b' u) ⟨h, g, d, t', os⟩) (e : b = b') : R (.str b u) ⟨h, g, d, t, os⟩ := e ▸ q u t
theorem endI {R : Value → Shared → Prop} {h : Heap} {g : Array GenState} {d : Drawn} {os : OsState} {t : Nat} {b b' : Int} {u : Tok} (q : ∀ u t', R (.int b' u) ⟨h, g, d, t', os⟩) (e : b = b') : R (.int b u) ⟨h, g, d, t, os⟩ := e ▸ q u t
theorem str1_beq (a b : Nat) : ((⟨#[a]⟩ : Str) == ⟨#[b]⟩) = (a == b) := by
  rw [Bool.eq_iff_iff]; simp
theorem quote_is : Str.ofString "\"" = ⟨#[34]⟩ := by decide +kernel
theorem str1_eqq (a : Nat) : ((⟨#[a]⟩ : Str) == Str.ofString "\"") = (a == 34) := by rw [quote_is, str1_beq]
theorem str1_ltq' (a : Nat) : decide ([a] < (Str.ofString "\"").cps.toList) = decide (a < 34) := by rw [quote_is]; simp [List.cons_lt_cons_iff]
theorem str1_gtq' (a : Nat) : decide ((Str.ofString "\"").cps.toList < [a]) = decide (34 < a) := by rw [quote_is]; simp [List.cons_lt_cons_iff]
theorem str1_ltq (a : Nat) : decide ((⟨#[a]⟩ : Str).cps.toList < (Str.ofString "\"").cps.toList) = decide (a < 34) := by rw [quote_is]; simp [List.cons_lt_cons_iff]
theorem str1_gtq (a : Nat) : decide ((Str.ofString "\"").cps.toList < (⟨#[a]⟩ : Str).cps.toList) = decide (34 < a) := by rw [quote_is]; simp [List.cons_lt_cons_iff]
theorem drop_cons {α : Type} {l : List α} {k : Nat} {c : α} (h : l[k]? = some c) : l.drop k = c :: l.drop (k + 1) := by
  obtain ⟨hk, e⟩ := List.getElem?_eq_some_iff.mp h
  rw [List.drop_eq_getElem_cons hk, e]
noncomputable def isLoc : Option NameKind → Bool
  | some .local => true
  | _ => false
theorem isLoc_eq {o : Option NameKind} (h : isLoc o = true) : o = some .local := by
  unfold isLoc at h; split at h <;> first | rfl | cases h
noncomputable def isGlo : Option NameKind → Bool
  | some .globalImplicit => true
  | _ => false
theorem isGlo_eq {o : Option NameKind} (h : isGlo o = true) : o = some .globalImplicit := by
  unfold isGlo at h; split at h <;> first | rfl | cases h

noncomputable def Nx (M : Model) (A : Around) (rest : List Stmt) (env : Env) (Q : Flow → Shared → Prop) (E : Value → Shared → Prop) : Flow → Shared → Prop := fun f s' => match f with
  | .next => wpAny M A (execs rest env) Q E s'
  | f => Q f s'

theorem ite_b {b : Bool} {X Y : Prop} (h1 : b = true → X) (h2 : b = false → Y) : if b = true then X else Y := by
  cases b with
  | true => simpa using h1 rfl
  | false => simpa using h2 rfl
theorem ite_y {b : Bool} {X Y : Prop} (e : b = true) (h : X) : if b = true then X else Y := by rw [if_pos e]; exact h
theorem ite_n {b : Bool} {X Y : Prop} (e : b = false) (h : Y) : if b = true then X else Y := by subst e; simpa using h
theorem ite_t {X Y : Prop} (h : X) : if true = true then X else Y := by simpa using h
theorem ite_f {X Y : Prop} (h : Y) : if false = true then X else Y := by simpa using h

section
variable {M : Model} {A : Around} {E : Value → Shared → Prop} {s : Shared} {env : Env} {Q : Flow → Shared → Prop} {rest : List Stmt}

theorem Nx.ret {v : Value} (h : Q (.ret v) s) : Nx M A rest env Q E (.ret v) s := h
theorem Nx.next (h : wpAny M A (execs rest env) Q E s) : Nx M A rest env Q E .next s := h

theorem s_nil (h : Q .next s) : wpAny M A (execs [] env) Q E s := wpAny_execs_nil h
theorem s_nilN (h : wpAny M A (execs rest env) Q E s) : wpAny M A (execs [] env) (Nx M A rest env Q E) E s := wpAny_execs_nil h
theorem s_any {st : Stmt} (h : wpAny M A (exec st env) (Nx M A rest env Q E) E s) : wpAny M A (execs (st :: rest) env) Q E s := wpAny_execs_cons h
theorem s_assign {x : Str} {pos' : Pos} {value : Expr} {pos : Pos}
    (h : wpAny M A (eval value env) (fun v s₁ => wpAny M A (storeName env x v) (fun _ s' => wpAny M A (execs rest env) Q E s') E s₁) E s)
    (hs : swapsWith value (some (.Name x pos')) pos.line env = pure false := by with_unfolding_all rfl) : wpAny M A (execs (.Assign [.Name x pos'] value pos :: rest) env) Q E s :=
  wpAny_execs_cons (wpAny_Assign_Name h hs)
theorem s_aug {x : Str} {pos' : Pos} {op : Operator} {value : Expr} {pos : Pos}
    (h : wpAny M A (loadName env x) (fun old s₁ => wpAny M A (eval value env) (fun v s₂ => wpAny M A (inplaceOp op old v)
      (fun r s₃ => wpAny M A (storeName env x r) (fun _ s' => wpAny M A (execs rest env) Q E s') E s₃) E s₂) E s₁) E s) :
    wpAny M A (execs (.AugAssign (.Name x pos') op value pos :: rest) env) Q E s := wpAny_execs_cons (wpAny_AugAssign_Name h)
theorem s_if0 {test : Expr} {body : List Stmt} {pos : Pos}
    (h : wpAny M A (isTrue test env (eval test env)) (fun b s₂ => if b then wpAny M A (execs body env) (Nx M A rest env Q E) E s₂ else wpAny M A (execs rest env) Q E s₂) E s) :
    wpAny M A (execs (.If test body [] pos :: rest) env) Q E s := by
  refine wpAny_execs_cons (wpAny_If (wpAny_mono h (fun b s₂ h₂ => ?_) fun _ _ x => x))
  cases b with
  | true => exact h₂
  | false => exact wpAny_execs_nil (by exact h₂)
theorem s_if {test : Expr} {body : List Stmt} {o1 : Stmt} {orelse : List Stmt} {pos : Pos}
    (h : wpAny M A (isTrue test env (eval test env)) (fun b s₂ => if b then wpAny M A (execs body env) (Nx M A rest env Q E) E s₂ else wpAny M A (execs (o1 :: orelse) env) (Nx M A rest env Q E) E s₂) E s) :
    wpAny M A (execs (.If test body (o1 :: orelse) pos :: rest) env) Q E s := wpAny_execs_cons (wpAny_If h)
theorem s_ret {e : Expr} {pos : Pos} (h : wpAny M A (eval e env) (fun v => Q (.ret v)) E s) : wpAny M A (execs (.Return (some e) pos :: rest) env) Q E s :=
  wpAny_execs_cons (wpAny_Return_some (wpAny_mono h (fun _ _ x => x) fun _ _ x => x))
end

section
variable {M : Model} {A : Around} {E : Value → Shared → Prop} {h₀ h : Heap} {g : Array GenState} {d : Drawn} {t : Nat} {os : OsState} {env : Env} {mg mb : Str → Option Value} {w : World} {l : List (Str × Value)} {x : Str} {v : Value} {pos : Pos}

theorem r_name {s : Shared} {Q : Value → Shared → Prop} (F : FrL h₀ env.locals s.heap l) (hv : l.lookup x = some v) (q : Q v s) (hk : env.scope.kind = .function := by with_unfolding_all rfl) (hl : isLoc (env.kindOf x) = true := by with_unfolding_all rfl)
    (hd : (x == ("__debug__" : Str)) = false := by with_unfolding_all decide) : wpAny M A (eval (.Name x pos) env) Q E s := let ⟨_, F, e⟩ := F.ex; wpAny_Name (wpAny_loadName_local hk (isLoc_eq hl) F.ns (e _ _ hv) q) hd
theorem r_ldn {s : Shared} {Q : Value → Shared → Prop} (F : FrL h₀ env.locals s.heap l) (hv : l.lookup x = some v) (q : Q v s) (hk : env.scope.kind = .function := by with_unfolding_all rfl) (hl : isLoc (env.kindOf x) = true := by with_unfolding_all rfl) :
    wpAny M A (loadName env x) Q E s := let ⟨_, F, e⟩ := F.ex; wpAny_loadName_local hk (isLoc_eq hl) F.ns (e _ _ hv) q
theorem r_glob {s : Shared} {Q : Value → Shared → Prop} (F : FrL h₀ env.locals s.heap l) (G : Gd w mg mb h₀) (e : nsIn (Mine.hd.heap_39 w.params) mainGlobals x = some (some v)) (q : Q v s)
    (hk : env.scope.kind = .function := by with_unfolding_all rfl) (hx : isGlo (env.kindOf x) = true := by with_unfolding_all rfl) (hg : env.globals = mainGlobals := by with_unfolding_all rfl) (hd : (x == ("__debug__" : Str)) = false := by with_unfolding_all decide) :
    wpAny M A (eval (.Name x pos) env) Q E s := by
  refine Calls.Name_function_global hk (isGlo_eq hx) (Calls.loadGlobal_global (env := env) (mg := mg) ?_ (mg_of G.K G.T.g e) q) hd
  rw [hg]; exact G.T.g.keeps F.keep
theorem r_bltn {s : Shared} {Q : Value → Shared → Prop} (F : FrL h₀ env.locals s.heap l) (G : Gd w mg mb h₀) (e : nsIn (Mine.hd.heap_39 w.params) mainGlobals x = some none) (hv : bootBuiltins x = some v) (hn : x ≠ "__name__") (q : Q v s)
    (hk : env.scope.kind = .function := by with_unfolding_all rfl) (hx : isGlo (env.kindOf x) = true := by with_unfolding_all rfl) (hg : env.globals = mainGlobals := by with_unfolding_all rfl) (hb : env.builtins = builtinsNs := by with_unfolding_all rfl) (hd : (x == ("__debug__" : Str)) = false := by with_unfolding_all decide) :
    wpAny M A (eval (.Name x pos) env) Q E s := by
  refine Calls.Name_function_global hk (isGlo_eq hx) (Calls.loadGlobal_builtin (env := env) (mg := mg) (mb := mb) ?_ (mg_none_of G.K G.T.g e) ?_ ((G.T.builtins x hn).trans hv) q) hd
  · rw [hg]; exact G.T.g.keeps F.keep
  · rw [hb]; exact G.T.b.keeps F.keep
theorem r_store {Q : Unit → Shared → Prop} (F : FrL h₀ env.locals h l)
    (q : ∀ h' t', FrL h₀ env.locals h' ((x, v) :: l) → Heap.SameBut env.locals h h' → Q () ⟨h', g, d, t', os⟩)
    (hk : env.scope.kind = .function := by with_unfolding_all rfl) (hl : isLoc (env.kindOf x) = true := by with_unfolding_all rfl) : wpAny M A (storeName env x v) Q E ⟨h, g, d, t, os⟩ := by
  obtain ⟨m, F, e⟩ := F.ex
  refine wpAny_storeName_local (isLoc_eq hl) F.ns (fun h' hn hs => q h' _ ⟨_, F.set hn hs, fun y z q => ?_⟩ hs) (by rw [hk]; rfl)
  rw [List.lookup_cons] at q
  by_cases c : y = x
  · subst c
    simp only [BEq.rfl] at q
    simpa using q
  · have c' : (y == x) = false := by simpa using c
    rw [c'] at q
    simp only [if_neg c]
    exact e y z q
theorem r_call {s : Shared} {func : Expr} {args : List Expr} {Q : Value → Shared → Prop}
    (h : wpAny M A (eval func env) (fun f s₁ => wpAny M A (callWith pos f [] (backTo pos (starEach args env)) []) Q E s₁) E s)
    (he : eval (.Call func args [] pos) env = (do callWith pos (← eval func env) [] (backTo pos (starEach args env)) (backToKw pos (keywordEach [] env))) := by with_unfolding_all rfl) :
    wpAny M A (eval (.Call func args [] pos) env) Q E s := Call_ h he
theorem r_callB1 {s : Shared} {id : String} {e : Expr} {Q : Value → Shared → Prop} (h : wpAny M A (eval e env) (fun v s₁ => wpAny M A (call (.builtin id) [v]) Q E s₁) E s)
    (he : starEach [e] env = [(false, eval e env)] := by with_unfolding_all rfl) : wpAny M A (callWith pos (.builtin id) [] (backTo pos (starEach [e] env)) []) Q E s := by
  rw [he]; exact Calls.callWith_builtin rfl (Calls.evalArgs_plain (Calls.spliced_cons (wpAny_mono h (fun _ _ h₁ => Calls.spliced_nil h₁) fun _ _ e => e)))
theorem r_isTrueName {s : Shared} {whole : Sem Value} {Q : Bool → Shared → Prop} (h : wpAny M A whole (fun v s₁ => wpAny M A (truthy v) Q E s₁) E s) : wpAny M A (isTrue (.Name x pos) env whole) Q E s := isTrue_plain h
theorem r_isTrueCall {s : Shared} {f : Expr} {as : List Expr} {ks : List Keyword} {whole : Sem Value} {Q : Bool → Shared → Prop} (h : wpAny M A whole (fun v s₁ => wpAny M A (truthy v) Q E s₁) E s) : wpAny M A (isTrue (.Call f as ks pos) env whole) Q E s := isTrue_plain h
theorem r_int {i : Int} {k : Nat} {Q : Value → Shared → Prop} (q : ∀ u t', Q (.int i u) ⟨h, g, d, t', os⟩) : wpAny M A (eval (.Constant (.int i) k pos) env) Q E ⟨h, g, d, t, os⟩ := wpAny_Constant_int (q _ _)
theorem r_strT {i : Str} {k : Nat} {Q : Value → Shared → Prop} (q : Q (.str i t) ⟨h, g, d, t + 1, os⟩) : wpAny M A (eval (.Constant (.str i) k pos) env) Q E ⟨h, g, d, t, os⟩ := by
  show wpAny M A (mkText i) Q E _
  exact wpAny_mkText q
theorem r_str {i : Str} {k : Nat} {Q : Value → Shared → Prop} (q : ∀ u t', Q (.str i u) ⟨h, g, d, t', os⟩) : wpAny M A (eval (.Constant (.str i) k pos) env) Q E ⟨h, g, d, t, os⟩ := by
  show wpAny M A (mkText i) Q E _
  exact wpAny_mkText (q _ _)
end

section
variable {prog : Program} {w : World} {A : Around} {E : Value → Shared → Prop} {h : Heap} {g : Array GenState} {d : Drawn} {t : Nat} {os : OsState}
theorem r_len_str {x : Str} {u : Tok} {Q : Value → Shared → Prop} (hz : x.length ≤ 1000000) (q : ∀ u t', Q (.int x.length u) ⟨h, g, d, t', os⟩) : wpAny (model prog w) A (call (.builtin "len") [.str x u]) Q E ⟨h, g, d, t, os⟩ :=
  len_str (by lia) (q _ _)
theorem r_add_int {a b : Int} {u v : Tok} {Q : Value → Shared → Prop} (q : ∀ u t', Q (.int (a + b) u) ⟨h, g, d, t', os⟩) : wpAny (model prog w) A (binaryOp .Add (.int a u) (.int b v)) Q E ⟨h, g, d, t, os⟩ := wpAny_add_int (q _ _)
theorem r_item_str {value slice : Expr} {x : Str} {u v : Tok} {i : Nat} {c : Nat} {Q : Value → Shared → Prop} (hz : x.length ≤ 1000000) (hc : x.cps.toList[i]? = some c) (q : ∀ u t', Q (.str ⟨#[c]⟩ u) ⟨h, g, d, t', os⟩)
    (hs : subscripted slice false (.str x u) (.int i v) = operate [.str x u, .int i v] (getItem (.str x u) (.int i v)) := by with_unfolding_all rfl) (ht : ∀ r, letTemporaryGo value (.str x u) r = pure () := by intro _; with_unfolding_all rfl) :
    wpAny (model prog w) A (subscriptTail value slice (.str x u) (.int i v)) Q E ⟨h, g, d, t, os⟩ := by
  have hi : i < x.length := by
    have := (List.getElem?_eq_some_iff.mp hc).1
    simpa [Str.length] using this
  refine subscriptTail_builtin (T := "str") (typeIs_str _ x u) slot_str_getitem.lookup (getItem_str (c := c) ?_ ?_ (q _ _)) hs ht
  · have : (i : Int) < 2 ^ 63 := by lia
    simp; lia
  · have e : seqIndex? (i : Int) x.length = some i := by
      unfold seqIndex?
      simp; lia
    rw [e]
    simpa using hc
end

section
variable {prog : Program} {w : World} {A : Around} {h₀ h : Heap} {g : Array GenState} {d : Drawn} {t : Nat} {os : OsState} {env : Env} {Q : Flow → Shared → Prop} {rest : List Stmt}

noncomputable def TurnR (g : Array GenState) (d : Drawn) (os : OsState) (J : Heap → Prop) (B : Shared → Prop) (Q : Flow → Shared → Prop) : Flow → Shared → Prop := fun f s₃ => match f with
  | .next | .cont => ∃ h' t', s₃ = ⟨h', g, d, t', os⟩ ∧ J h'
  | .brk => B s₃
  | .ret v => Q (.ret v) s₃

theorem s_while {α : Type} {test : Expr} {body : List Stmt} {pos : Pos} (I : α → Heap → Prop) (μ : α → Nat) (a₀ : α) (i0 : I a₀ h)
    (turn : ∀ a h t, I a h → wpAny (model prog w) A (isTrue test env (eval test env)) (fun b s₂ => if b then
        wpAny (model prog w) A (execs body env) (TurnR g d os (fun h' => ∃ a', μ a' < μ a ∧ I a' h') (fun s' => wpAny (model prog w) A (execs rest env) Q NoE s') Q) NoE s₂
      else wpAny (model prog w) A (execs rest env) Q NoE s₂) NoE ⟨h, g, d, t, os⟩) :
    wpAny (model prog w) A (execs (.While test body [] pos :: rest) env) Q NoE ⟨h, g, d, t, os⟩ := by
  refine wpAny_execs_cons (wpAny_While (codeAny_whileLoop (fun n s' => ∃ a h t, s' = ⟨h, g, d, t, os⟩ ∧ n = μ a ∧ I a h) ?_ (μ a₀) ⟨a₀, h, t, rfl, rfl, i0⟩))
  rintro n s' ⟨a, h, t, rfl, rfl, i⟩
  refine wpAny_mono (turn a h t i) (fun b s₂ h₂ => ?_) fun _ _ f => f.elim
  cases b with
  | false =>
    simp only [Bool.false_eq_true, if_false] at h₂ ⊢
    exact wpAny_execs_nil h₂
  | true =>
    simp only [if_true] at h₂ ⊢
    refine wpAny_mono h₂ (fun f s₃ h₃ => ?_) fun _ _ f => f.elim
    cases f with
    | next => obtain ⟨h', t', rfl, a', lt, i'⟩ := h₃; exact ⟨_, lt, a', h', t', rfl, rfl, i'⟩
    | cont => obtain ⟨h', t', rfl, a', lt, i'⟩ := h₃; exact ⟨_, lt, a', h', t', rfl, rfl, i'⟩
    | brk => exact h₃
    | ret v => exact h₃

theorem s_whileX {α : Type} {test : Expr} {body : List Stmt} {pos : Pos} (I Z : α → Heap → Prop) (μ : α → Nat) (a₀ : α) (i0 : I a₀ h)
    (turn : ∀ a h t, I a h → wpAny (model prog w) A (isTrue test env (eval test env)) (fun b s₂ => if b then
        wpAny (model prog w) A (execs body env) (TurnR g d os (fun h' => ∃ a', μ a' < μ a ∧ I a' h') (fun s' => ∃ a h' t', s' = ⟨h', g, d, t', os⟩ ∧ Z a h') Q) NoE s₂
      else ∃ a h' t', s₂ = ⟨h', g, d, t', os⟩ ∧ Z a h') NoE ⟨h, g, d, t, os⟩)
    (fin : ∀ a h t, Z a h → wpAny (model prog w) A (execs rest env) Q NoE ⟨h, g, d, t, os⟩) :
    wpAny (model prog w) A (execs (.While test body [] pos :: rest) env) Q NoE ⟨h, g, d, t, os⟩ := by
  refine s_while I μ a₀ i0 fun a h t i => wpAny_mono (turn a h t i) (fun b s₂ h₂ => ?_) fun _ _ f => f
  cases b with
  | false =>
    simp only [Bool.false_eq_true, if_false] at h₂ ⊢
    obtain ⟨a, h', t', rfl, z⟩ := h₂
    exact fin a h' t' z
  | true =>
    simp only [if_true] at h₂ ⊢
    refine wpAny_mono h₂ (fun f s₃ h₃ => ?_) fun _ _ f => f
    cases f with
    | next => exact h₃
    | cont => exact h₃
    | brk => obtain ⟨a, h', t', rfl, z⟩ := h₃; exact fin a h' t' z
    | ret v => exact h₃

theorem forW {x : Str} {px : Pos} {body : List Stmt} {I : Addr} {fp wr : List Addr} {n : Nat} {P : Nat → Value → Prop} {St : Nat → Heap → Prop} {l : List (Str × Value)}
    (W : Walks prog w A I fp wr n P St) (hst : St 0 h) (hL : env.locals ∉ fp) (hw0 : ∀ a ∈ wr, h₀.get? a = none) (Y : List Addr) (hY : ∀ a ∈ Y, a ∉ fp)
    (J : Nat → List (Str × Value) → Heap → Prop) (F : FrL h₀ env.locals h l) (j0 : J 0 l h)
    (turn : ∀ i v l h h₁ t, i < n → P i v → J i l h → FrL h₀ env.locals h₁ ((x, v) :: l) → Pr (env.locals :: wr) h h₁ →
      wpAny (model prog w) A (execs body env) (TurnR g d os (fun h' => ∃ l', FrL h₀ env.locals h' l' ∧ Pr (env.locals :: Y) h₁ h' ∧ J (i + 1) l' h') (fun s' => wpAny (model prog w) A (execs rest env) Q NoE s') Q) NoE ⟨h₁, g, d, t, os⟩)
    (done : ∀ l h h' t, J n l h → FrL h₀ env.locals h' l → Pr wr h h' → wpAny (model prog w) A (execs rest env) Q NoE ⟨h', g, d, t, os⟩)
    (hk : env.scope.kind = .function := by with_unfolding_all rfl) (hl : isLoc (env.kindOf x) = true := by with_unfolding_all rfl) :
    codeAny (model prog w) A (.forLoop (.Name x px) (.ref I) body [] env) (fun r s' => match r with | .ok f => Nx (model prog w) A rest env Q NoE f s' | .error e => cameBackBy (model prog w) A env NoE e s') ⟨h, g, d, t, os⟩ := by
  refine codeAny_forLoop (fun k s' => ∃ i h t l, s' = ⟨h, g, d, t, os⟩ ∧ k = n - i ∧ i ≤ n ∧ St i h ∧ FrL h₀ env.locals h l ∧ J i l h) ?_ n ⟨0, h, t, l, rfl, rfl, Nat.zero_le _, hst, F, j0⟩
  rintro k s' ⟨i, h, t, l, rfl, rfl, hi, st, F, j⟩
  by_cases hlt : i < n
  · refine wpAny_mono (E := NoE) (W.item i _ _ NoE hlt st (fun v h' tk hP st' hp => ?_)) (fun _ _ q => q) fun _ _ f => f.elim
    have hLw : env.locals ∉ wr := fun m => hL (W.sub _ m)
    have F' : FrL h₀ env.locals h' l := F.pr (X := wr) (fun a o e n => hp a o n e) hLw hw0
    refine wpAny_assign_Name (wpAny_mono (E := NoE) (r_store F' (fun h₂ t₂ F₂ hs => ?_) hk hl) (fun _ _ q => q) fun _ _ f => f.elim)
    have p₂ : Pr (env.locals :: wr) h h₂ := fun a o e n => (hs.2 a (fun q => n (q ▸ .head _))).trans (hp a o (fun m => n (.tail _ m)) e)
    have st₂ : St (i + 1) h₂ := W.frame _ _ _ st' fun b hb o e => (hs.2 b (fun q => hL (q ▸ hb))).trans e
    refine wpAny_mono (turn i v l h h₂ t₂ hlt hP j F₂ p₂) (fun f s₃ q => ?_) fun _ _ f => f.elim
    have fin : (∃ h' t', s₃ = (⟨h', g, d, t', os⟩ : Shared) ∧ ∃ l', FrL h₀ env.locals h' l' ∧ Pr (env.locals :: Y) h₂ h' ∧ J (i + 1) l' h') → ∃ m, m < n - i ∧ ∃ i h t l, s₃ = (⟨h, g, d, t, os⟩ : Shared) ∧ m = n - i ∧ i ≤ n ∧ St i h ∧ FrL h₀ env.locals h l ∧ J i l h := by
      rintro ⟨h', t', rfl, l', F', p', j'⟩
      refine ⟨n - (i + 1), by lia, i + 1, h', t', l', rfl, rfl, hlt, W.frame _ _ _ st₂ fun b hb o e => p' b o e fun m => ?_, F', j'⟩
      rcases List.mem_cons.mp m with rfl | m
      · exact hL hb
      · exact hY b m hb
    cases f with
    | next => exact fin q
    | cont => exact fin q
    | brk => exact q
    | ret v => exact q
  · obtain rfl : i = n := by lia
    have hLw : env.locals ∉ wr := fun m => hL (W.sub _ m)
    refine W.done _ _ _ st fun h' tk hp => ?_
    have p' : Pr wr h h' := fun a o e n => hp a o n e
    exact wpAny_execs_nil (done l h h' tk j (F.pr p' hLw hw0) p')
end
end

section
open AutoSeq1 (wpAny_loadPart')
open MeetsSeq MeetsSeq2 MeetsSeq3 SeqRoads2 SeqAt

noncomputable def lexI : List Int → List Int → Bool
  | [], [] => false
  | [], _ :: _ => true
  | _ :: _, [] => false
  | x :: xs, y :: ys => if x = y then lexI xs ys else decide (x < y)
theorem lexI_nil (ys : List Int) : lexI [] ys = decide (0 < ys.length) := by cases ys <;> simp [lexI]
theorem lexI_nil' (xs : List Int) : lexI xs [] = false := by cases xs <;> rfl

theorem ints_get {vs : List Value} {ns : List Int} (h : IntsAre vs ns) : ∀ (i : Nat) (n : Int), ns[i]? = some n → ∃ t, vs[i]? = some (.int n t) := by
  induction h with
  | nil => intro i n e; simp at e
  | cons a u r ih =>
    intro i n e
    cases i with
    | zero => simp at e; subst e; exact ⟨u, rfl⟩
    | succ i => simpa using ih i n (by simpa using e)

theorem lt_loop (l b : Addr) (vs ws : List Value) (ns ms : List Int) (n n2 : Nat) (dd dd2 : Option Addr) (sl sl2 : Array (Option Value)) (hv : IntsAre vs ns) (hw : IntsAre ws ms) (k : Nat) :
    ∀ i : Nat, ns.length - i = k → i ≤ ns.length → i ≤ ms.length → Meets (Builtin.«list.__eq__.loop» ⟨[.ref l, .ref b, rawInt i, rawInt 0], []⟩)
      (fun A R s => s.heap.get? l = some { cls := .type "list", dict := dd, data := .seq vs.toArray n, slots := sl } ∧ s.heap.get? b = some { cls := .type "list", dict := dd2, data := .seq ws.toArray n2, slots := sl2 } ∧
        R (.ok (.ret (.bool (lexI (ns.drop i) (ms.drop i))))) s) := by
  induction k with
  | zero =>
    intro i hk h1 h2 prog w A R s h
    obtain ⟨hp, g, d, tk, os⟩ := s; obtain ⟨hl, hb, h⟩ := h
    wp_walk using wpAny_loadPart' hl, wpAny_loadPart' hb
    have e1 : vs.toArray[((i : Nat) : Int).toNat]? = none := by simp; have := hv.length; lia
    rw [e1]
    wp_walk using wpAny_loadPart' hl, wpAny_loadPart' hb
    show R (.ok (.ret (.bool (decide (vs.toArray.size < ws.toArray.size))))) _
    have e2 : ns.drop i = [] := List.drop_eq_nil_of_le (by lia)
    rw [e2] at h
    first
    | (rw [lexI_nil] at h
       have e3 : decide (vs.toArray.size < ws.toArray.size) = decide (0 < (ms.drop i).length) := by simp; have := hv.length; have := hw.length; constructor <;> intro <;> lia
       rw [e3]; exact h)
    | (rw [lexI_nil'] at h
       have e3 : decide (vs.toArray.size > ws.toArray.size) = false := by simp; have := hv.length; have := hw.length; lia
       rw [e3]; exact h)
  | succ k ih =>
    intro i hk h1 h2 prog w A R s h
    obtain ⟨hp, g, d, tk, os⟩ := s; obtain ⟨hl, hb, h⟩ := h
    wp_walk using wpAny_loadPart' hl, wpAny_loadPart' hb
    have lt1 : i < ns.length := by lia
    obtain ⟨t, e1⟩ := ints_get hv i ns[i] (by simp [lt1])
    have e1' : vs.toArray[((i : Nat) : Int).toNat]? = some (.int ns[i] t) := by simpa using e1
    rw [e1']
    have d1 : ns.drop i = ns[i] :: ns.drop (i + 1) := List.drop_eq_getElem_cons lt1
    by_cases lt2 : i < ms.length
    · obtain ⟨u, e2⟩ := ints_get hw i ms[i] (by simp [lt2])
      have e2' : ws.toArray[((i : Nat) : Int).toNat]? = some (.int ms[i] u) := by simpa using e2
      have d2 : ms.drop i = ms[i] :: ms.drop (i + 1) := List.drop_eq_getElem_cons lt2
      rw [e2']
      rw [d1, d2] at h
      refine wpAny_bind ((EqGives.int _ _ _ _).at A.in1 _ prog w _ _ ?_)
      by_cases eq : ns[i] = ms[i]
      · have eb : (ns[i] == ms[i]) = true := by simpa using eq
        rw [eb]
        have hc : ((i : Int) + 1) = ((i + 1 : Nat) : Int) := by push_cast; rfl
        wp_walk
        rw [hc]
        refine ⟨plainId_quiet plain_eq_loop _, codeAny_builtin entry_eq_loop ?_⟩
        rw [Around.under_plainId plain_eq_loop _]
        refine ih (i + 1) (by lia) (by lia) (by lia) prog w A R _ ⟨hl, hb, ?_⟩
        simpa [lexI, eq] using h
      · have eb : (ns[i] == ms[i]) = false := by simpa using eq
        rw [eb]
        wp_walk using wpAny_loadPart' hl, wpAny_loadPart' hb
        rw [e1', e2']
        refine wpAny_bind ?_
        show wpAny _ _ (compareOp .Lt _ _) _ _ _
        refine wpAny_lt_int ?_
        wp_walk
        simpa [lexI, eq, Ne.symm eq] using h
    · have e2' : ws.toArray[((i : Nat) : Int).toNat]? = none := by simp; have := hw.length; lia
      rw [e2']
      wp_walk using wpAny_loadPart' hl, wpAny_loadPart' hb
      show R (.ok (.ret (.bool (decide (vs.toArray.size < ws.toArray.size))))) _
      have e3 : ms.drop i = [] := List.drop_eq_nil_of_le (by lia)
      rw [e3] at h
      first
      | (rw [lexI_nil'] at h
         have e4 : decide (vs.toArray.size < ws.toArray.size) = false := by simp; have := hv.length; have := hw.length; lia
         rw [e4]; exact h)
      | (rw [lexI_nil] at h
         have e4 : decide (vs.toArray.size > ws.toArray.size) = decide (0 < (ns.drop i).length) := by simp; have := hv.length; have := hw.length; constructor <;> intro <;> lia
         rw [e4]; exact h)

theorem list_lt {prog : Program} {w : World} {A : Around} {E : Value → Shared → Prop} {s : Shared} {l b : Addr} {vs ws : List Value} {ns ms : List Int} {Q : Value → Shared → Prop} (hl : s.heap.IsList l vs.toArray) (hb : s.heap.IsList b ws.toArray)
    (hv : IntsAre vs ns) (hw : IntsAre ws ms) (hu : A.units < cLine) (h : Q (.bool (lexI ns ms)) s) : wpAny (model prog w) A (compareOp .Lt (.ref l) (.ref b)) Q E s := by
  obtain ⟨⟨cls, dd, data, sl⟩, ho, hc, n, hd⟩ := id hl
  obtain ⟨⟨cls2, dd2, data2, sl2⟩, ho2, hc2, n2, hd2⟩ := id hb
  simp only at hc hd hc2 hd2
  subst hc hd hc2 hd2
  have m : Meets (Builtin.«list.__lt__» ⟨[.ref l, .ref b], []⟩) (fun A R s => s.heap.get? l = some { cls := .type "list", dict := dd, data := .seq vs.toArray n, slots := sl } ∧ s.heap.get? b = some { cls := .type "list", dict := dd2, data := .seq ws.toArray n2, slots := sl2 } ∧
        R (.ok (.ret (.bool (lexI ns ms)))) s) := by
    intro prog w A R s h
    obtain ⟨hp, g, d, tk, os⟩ := s; obtain ⟨hl, hb, h⟩ := h
    have f3 := AutoSeq1.sub_list_list
    wp_walk using wpAny_loadPart' hl, wpAny_loadPart' hb
    refine ⟨plainId_quiet plain_eq_loop _, codeAny_builtin entry_eq_loop ?_⟩
    rw [Around.under_plainId plain_eq_loop _]
    exact lt_loop l b vs ws ns ms n n2 dd dd2 sl sl2 hv hw _ 0 rfl (Nat.zero_le _) (Nat.zero_le _) prog w A R _ ⟨hl, hb, by simpa using h⟩
  exact richCompare_meets_room (op := .Lt) ⟨_, ho, rfl⟩ ⟨_, ho2, rfl⟩ F.slot_list_lt F.entry_list_lt (F.args_list_lt_2 _ _) m
    ⟨ho, ho2, show Value.bool (lexI ns ms) ≠ Value.notImplemented ∧ Q (.bool (lexI ns ms)) s from ⟨(fun x => nomatch x), h⟩⟩ hu

theorem gt_loop (l b : Addr) (vs ws : List Value) (ns ms : List Int) (n n2 : Nat) (dd dd2 : Option Addr) (sl sl2 : Array (Option Value)) (hv : IntsAre vs ns) (hw : IntsAre ws ms) (k : Nat) :
    ∀ i : Nat, ns.length - i = k → i ≤ ns.length → i ≤ ms.length → Meets (Builtin.«list.__eq__.loop» ⟨[.ref l, .ref b, rawInt i, rawInt 4], []⟩)
      (fun A R s => s.heap.get? l = some { cls := .type "list", dict := dd, data := .seq vs.toArray n, slots := sl } ∧ s.heap.get? b = some { cls := .type "list", dict := dd2, data := .seq ws.toArray n2, slots := sl2 } ∧
        R (.ok (.ret (.bool (lexI (ms.drop i) (ns.drop i))))) s) := by
  induction k with
  | zero =>
    intro i hk h1 h2 prog w A R s h
    obtain ⟨hp, g, d, tk, os⟩ := s; obtain ⟨hl, hb, h⟩ := h
    wp_walk using wpAny_loadPart' hl, wpAny_loadPart' hb
    have e1 : vs.toArray[((i : Nat) : Int).toNat]? = none := by simp; have := hv.length; lia
    rw [e1]
    wp_walk using wpAny_loadPart' hl, wpAny_loadPart' hb
    show R (.ok (.ret (.bool (decide (vs.toArray.size > ws.toArray.size))))) _
    have e2 : ns.drop i = [] := List.drop_eq_nil_of_le (by lia)
    rw [e2] at h
    first
    | (rw [lexI_nil] at h
       have e3 : decide (vs.toArray.size < ws.toArray.size) = decide (0 < (ms.drop i).length) := by simp; have := hv.length; have := hw.length; constructor <;> intro <;> lia
       rw [e3]; exact h)
    | (rw [lexI_nil'] at h
       have e3 : decide (vs.toArray.size > ws.toArray.size) = false := by simp; have := hv.length; have := hw.length; lia
       rw [e3]; exact h)
  | succ k ih =>
    intro i hk h1 h2 prog w A R s h
    obtain ⟨hp, g, d, tk, os⟩ := s; obtain ⟨hl, hb, h⟩ := h
    wp_walk using wpAny_loadPart' hl, wpAny_loadPart' hb
    have lt1 : i < ns.length := by lia
    obtain ⟨t, e1⟩ := ints_get hv i ns[i] (by simp [lt1])
    have e1' : vs.toArray[((i : Nat) : Int).toNat]? = some (.int ns[i] t) := by simpa using e1
    rw [e1']
    have d1 : ns.drop i = ns[i] :: ns.drop (i + 1) := List.drop_eq_getElem_cons lt1
    by_cases lt2 : i < ms.length
    · obtain ⟨u, e2⟩ := ints_get hw i ms[i] (by simp [lt2])
      have e2' : ws.toArray[((i : Nat) : Int).toNat]? = some (.int ms[i] u) := by simpa using e2
      have d2 : ms.drop i = ms[i] :: ms.drop (i + 1) := List.drop_eq_getElem_cons lt2
      rw [e2']
      rw [d1, d2] at h
      refine wpAny_bind ((EqGives.int _ _ _ _).at A.in1 _ prog w _ _ ?_)
      by_cases eq : ns[i] = ms[i]
      · have eb : (ns[i] == ms[i]) = true := by simpa using eq
        rw [eb]
        have hc : ((i : Int) + 1) = ((i + 1 : Nat) : Int) := by push_cast; rfl
        wp_walk
        rw [hc]
        refine ⟨plainId_quiet plain_eq_loop _, codeAny_builtin entry_eq_loop ?_⟩
        rw [Around.under_plainId plain_eq_loop _]
        refine ih (i + 1) (by lia) (by lia) (by lia) prog w A R _ ⟨hl, hb, ?_⟩
        simpa [lexI, eq] using h
      · have eb : (ns[i] == ms[i]) = false := by simpa using eq
        rw [eb]
        wp_walk using wpAny_loadPart' hl, wpAny_loadPart' hb
        rw [e1', e2']
        refine wpAny_bind ?_
        show wpAny _ _ (compareOp .Gt _ _) _ _ _
        refine PyProof.Rows.gt_int ?_
        wp_walk
        simpa [lexI, eq, Ne.symm eq] using h
    · have e2' : ws.toArray[((i : Nat) : Int).toNat]? = none := by simp; have := hw.length; lia
      rw [e2']
      wp_walk using wpAny_loadPart' hl, wpAny_loadPart' hb
      show R (.ok (.ret (.bool (decide (vs.toArray.size > ws.toArray.size))))) _
      have e3 : ms.drop i = [] := List.drop_eq_nil_of_le (by lia)
      rw [e3] at h
      first
      | (rw [lexI_nil'] at h
         have e4 : decide (vs.toArray.size < ws.toArray.size) = false := by simp; have := hv.length; have := hw.length; lia
         rw [e4]; exact h)
      | (rw [lexI_nil] at h
         have e4 : decide (vs.toArray.size > ws.toArray.size) = decide (0 < (ns.drop i).length) := by simp; have := hv.length; have := hw.length; constructor <;> intro <;> lia
         rw [e4]; exact h)

theorem list_gt {prog : Program} {w : World} {A : Around} {E : Value → Shared → Prop} {s : Shared} {l b : Addr} {vs ws : List Value} {ns ms : List Int} {Q : Value → Shared → Prop} (hl : s.heap.IsList l vs.toArray) (hb : s.heap.IsList b ws.toArray)
    (hv : IntsAre vs ns) (hw : IntsAre ws ms) (hu : A.units < cLine) (h : Q (.bool (lexI ms ns)) s) : wpAny (model prog w) A (compareOp .Gt (.ref l) (.ref b)) Q E s := by
  obtain ⟨⟨cls, dd, data, sl⟩, ho, hc, n, hd⟩ := id hl
  obtain ⟨⟨cls2, dd2, data2, sl2⟩, ho2, hc2, n2, hd2⟩ := id hb
  simp only at hc hd hc2 hd2
  subst hc hd hc2 hd2
  have m : Meets (Builtin.«list.__gt__» ⟨[.ref l, .ref b], []⟩) (fun A R s => s.heap.get? l = some { cls := .type "list", dict := dd, data := .seq vs.toArray n, slots := sl } ∧ s.heap.get? b = some { cls := .type "list", dict := dd2, data := .seq ws.toArray n2, slots := sl2 } ∧
        R (.ok (.ret (.bool (lexI ms ns)))) s) := by
    intro prog w A R s h
    obtain ⟨hp, g, d, tk, os⟩ := s; obtain ⟨hl, hb, h⟩ := h
    have f3 := AutoSeq1.sub_list_list
    wp_walk using wpAny_loadPart' hl, wpAny_loadPart' hb
    refine ⟨plainId_quiet plain_eq_loop _, codeAny_builtin entry_eq_loop ?_⟩
    rw [Around.under_plainId plain_eq_loop _]
    exact gt_loop l b vs ws ns ms n n2 dd dd2 sl sl2 hv hw _ 0 rfl (Nat.zero_le _) (Nat.zero_le _) prog w A R _ ⟨hl, hb, by simpa using h⟩
  exact richCompare_meets_room (op := .Gt) ⟨_, ho, rfl⟩ ⟨_, ho2, rfl⟩ F.slot_list_gt F.entry_list_gt (F.args_list_gt_2 _ _) m
    ⟨ho, ho2, show Value.bool (lexI ms ns) ≠ Value.notImplemented ∧ Q (.bool (lexI ms ns)) s from ⟨(fun x => nomatch x), h⟩⟩ hu
end

section
noncomputable def LstH (H : Hp) (a : Addr) (vs : List Value) : Prop := ∃ o, H a o ∧ o.cls = .type "list" ∧ ∃ n, o.data = .seq vs.toArray n
noncomputable def TupH (H : Hp) (a : Addr) (vs : List Value) : Prop := ∃ o, H a o ∧ o.cls = .type "tuple" ∧ ∃ n, o.data = .seq vs.toArray n
theorem LstH.le {H H' : Hp} {a : Addr} {vs : List Value} (x : LstH H a vs) (k : Le H H') : LstH H' a vs := let ⟨o, e, r⟩ := x; ⟨o, k a o e, r⟩
theorem TupH.le {H H' : Hp} {a : Addr} {vs : List Value} (x : TupH H a vs) (k : Le H H') : TupH H' a vs := let ⟨o, e, r⟩ := x; ⟨o, k a o e, r⟩
theorem LstH.is {h : Heap} {X : List Addr} {a : Addr} {vs : List Value} (x : LstH (Of h X) a vs) : h.IsList a vs.toArray := let ⟨o, e, r⟩ := x; ⟨o, e.1, r⟩
theorem TupH.is {h : Heap} {X : List Addr} {a : Addr} {vs : List Value} (x : TupH (Of h X) a vs) : IsTup h a vs.toArray := let ⟨o, e, r⟩ := x; ⟨o, e.1, r⟩
theorem TupH.isT {h : Heap} {X : List Addr} {a : Addr} {vs : List Value} (x : TupH (Of h X) a vs) : h.IsTuple a vs.toArray := let ⟨o, e, r⟩ := x; ⟨o, e.1, r⟩
theorem LstH.off {h : Heap} {X : List Addr} {a : Addr} {vs : List Value} (x : LstH (Of h X) a vs) : a ∉ X := let ⟨_, e, _⟩ := x; e.2
theorem LstH.some {h : Heap} {X : List Addr} {a : Addr} {vs : List Value} (x : LstH (Of h X) a vs) : ∃ o, h.get? a = .some o := let ⟨o, e, _⟩ := x; ⟨o, e.1⟩
theorem LstH.mk {h : Heap} {X : List Addr} {a : Addr} {vs : List Value} (x : h.IsList a vs.toArray) (n : a ∉ X) : LstH (Of h X) a vs := let ⟨o, e, r⟩ := x; ⟨o, ⟨e, n⟩, r⟩
theorem TupH.mk {h : Heap} {X : List Addr} {a : Addr} {vs : List Value} (x : IsTup h a vs.toArray) (n : a ∉ X) : TupH (Of h X) a vs := let ⟨o, e, r⟩ := x; ⟨o, ⟨e, n⟩, r⟩

inductive All2 {α β : Type} (P : α → β → Prop) : List α → List β → Prop
  | nil : All2 P [] []
  | cons {a : α} {b : β} {as : List α} {bs : List β} : P a b → All2 P as bs → All2 P (a :: as) (b :: bs)
theorem All2.length {α β : Type} {P : α → β → Prop} {as : List α} {bs : List β} (h : All2 P as bs) : as.length = bs.length := by
  induction h with
  | nil => rfl
  | cons _ _ ih => simp [ih]
theorem All2.mono {α β : Type} {P P' : α → β → Prop} {as : List α} {bs : List β} (h : All2 P as bs) (k : ∀ a b, P a b → P' a b) : All2 P' as bs := by
  induction h with
  | nil => exact .nil
  | cons p _ ih => exact .cons (k _ _ p) ih
theorem All2.append {α β : Type} {P : α → β → Prop} {as cs : List α} {bs ds : List β} (h : All2 P as bs) (k : All2 P cs ds) : All2 P (as ++ cs) (bs ++ ds) := by
  induction h with
  | nil => exact k
  | cons p _ ih => exact .cons p ih
theorem All2.snoc {α β : Type} {P : α → β → Prop} {as : List α} {bs : List β} {a : α} {b : β} (h : All2 P as bs) (p : P a b) : All2 P (as ++ [a]) (bs ++ [b]) := h.append (.cons p .nil)
theorem All2.get {α β : Type} {P : α → β → Prop} {as : List α} {bs : List β} (h : All2 P as bs) : ∀ {i : Nat} {b : β}, bs[i]? = some b → ∃ a, as[i]? = some a ∧ P a b := by
  induction h with
  | nil => intro i b e; simp at e
  | @cons a b as bs p _ ih =>
    intro i c e
    cases i with
    | zero => simp at e; subst e; exact ⟨a, rfl, p⟩
    | succ i => simpa using ih (by simpa using e)
theorem All2.get' {α β : Type} {P : α → β → Prop} {as : List α} {bs : List β} (h : All2 P as bs) : ∀ {i : Nat} {a : α}, as[i]? = some a → ∃ b, bs[i]? = some b ∧ P a b := by
  induction h with
  | nil => intro i b e; simp at e
  | @cons a b as bs p _ ih =>
    intro i c e
    cases i with
    | zero => simp at e; subst e; exact ⟨b, rfl, p⟩
    | succ i => simpa using ih (by simpa using e)
theorem All2.take {α β : Type} {P : α → β → Prop} {as : List α} {bs : List β} (h : All2 P as bs) : ∀ n, All2 P (as.take n) (bs.take n) := by
  induction h with
  | nil => intro n; simpa using All2.nil
  | cons p _ ih =>
    intro n
    cases n with
    | zero => exact .nil
    | succ n => exact .cons p (ih n)
theorem All2.drop {α β : Type} {P : α → β → Prop} {as : List α} {bs : List β} (h : All2 P as bs) : ∀ n, All2 P (as.drop n) (bs.drop n) := by
  induction h with
  | nil => intro n; simpa using All2.nil
  | cons p r ih =>
    intro n
    cases n with
    | zero => exact .cons p r
    | succ n => exact ih n

noncomputable def StrV (v : Value) (x : Str) : Prop := ∃ t, v = .str x t
noncomputable def IntsH (H : Hp) (v : Value) (ns : List Int) : Prop := ∃ a vs, v = .ref a ∧ LstH H a vs ∧ IntsAre vs ns
theorem IntsH.le {H H' : Hp} {v : Value} {ns : List Int} (x : IntsH H v ns) (k : Le H H') : IntsH H' v ns := let ⟨a, vs, e, l, r⟩ := x; ⟨a, vs, e, l.le k, r⟩

noncomputable def marksL (x : List Nat) (late : Bool) : List Int := x.map (fun (c : Nat) => (2 * (c : Int))) ++ [if late then 69 else 67]
noncomputable def ItemH (late : Bool) (H : Hp) (v : Value) (x : Str × Int) : Prop := ∃ a t u m, v = .ref a ∧ TupH H a [.str x.1 t, .int x.2 u, m] ∧ IntsH H m (marksL x.1.cps.toList late)
theorem ItemH.le {late : Bool} {H H' : Hp} {v : Value} {x : Str × Int} (i : ItemH late H v x) (k : Le H H') : ItemH late H' v x := let ⟨a, t, u, m, e, l, r⟩ := i; ⟨a, t, u, m, e, l.le k, r.le k⟩

section
variable {prog : Program} {w : World} {mg mb : Str → Option Value} {A : Around} {E : Value → Shared → Prop} {s : Shared} {h₀ h : Heap} {g : Array GenState} {d : Drawn} {t : Nat} {os : OsState} {env : Env} {pos : Pos} {Q : Value → Shared → Prop}

theorem r_con {f : Addr} {vs : List Value} (c : codeAny (model prog w) A (.call (.ref f) ⟨vs, []⟩) (RetR Q) s) : wpAny (model prog w) A (call (.ref f) vs) Q E s :=
  wpAny_call (codeAny_mono c fun r s' q => by
    cases r with
    | ok fl => cases fl with
      | ret v => exact q
      | _ => exact q
    | error e => exact q.elim)
theorem r_callK {f : Value} {e : Expr} {rest : List Expr} {l : List (Str × Value)} (_F : FrL h₀ env.locals s.heap l) (G : Gd w mg mb h₀) (hk : keepIn (Mine.hd.heap_39 w.params) f = true)
    (c : wpAny (model prog w) A (spliced (backTo pos (starEach (e :: rest) env))) (fun vs s₁ => Gd w mg mb s₁.heap ∧ wpAny (model prog w) A (call f vs) Q E s₁) E s)
    (he : starEach (e :: rest) env = (false, eval e env) :: starEach rest env := by with_unfolding_all rfl) (hplain : (backTo pos (starEach rest env)).any (·.1) = false := by with_unfolding_all rfl) :
    wpAny (model prog w) A (callWith pos f [] (backTo pos (starEach (e :: rest) env)) []) Q E s :=
  callWith_K (G.K) hk (wpAny_mono c (fun _ _ q => ⟨q.1.K, q.2⟩) fun _ _ q => q) he hplain
theorem r_args {e : Expr} {rest : List Expr} {Q : List Value → Shared → Prop}
    (c : wpAny (model prog w) A (eval e env) (fun v s₁ => wpAny (model prog w) A (spliced (backTo pos (starEach rest env))) (fun vs s₂ => Q (v :: vs) s₂) E s₁) E s)
    (he : starEach (e :: rest) env = (false, eval e env) :: starEach rest env := by with_unfolding_all rfl) : wpAny (model prog w) A (spliced (backTo pos (starEach (e :: rest) env))) Q E s := spliced_more c he
theorem r_args0 {Q : List Value → Shared → Prop} (c : Q [] s) : wpAny (model prog w) A (spliced (backTo pos (starEach [] env))) Q E s := spliced_none c
theorem r_callB {id : String} {first : List Value} {e : Expr} {rest : List Expr} (c : wpAny (model prog w) A (spliced (backTo pos (starEach (e :: rest) env))) (fun vs s₁ => wpAny (model prog w) A (call (.builtin id) (first ++ vs)) Q E s₁) E s)
    (he : starEach (e :: rest) env = (false, eval e env) :: starEach rest env := by with_unfolding_all rfl) (hplain : (backTo pos (starEach rest env)).any (·.1) = false := by with_unfolding_all rfl) :
    wpAny (model prog w) A (callWith pos (.builtin id) first (backTo pos (starEach (e :: rest) env)) []) Q E s := by
  rw [he] at c ⊢
  exact Calls.callWith_builtin (by show (false || (backTo pos (starEach rest env)).any (·.1)) = false; rw [hplain]; rfl) (Calls.evalArgs_plain c)
theorem r_callB0 {id : String} {e : Expr} {rest : List Expr} (c : wpAny (model prog w) A (spliced (backTo pos (starEach (e :: rest) env))) (fun vs s₁ => wpAny (model prog w) A (call (.builtin id) vs) Q E s₁) E s)
    (he : starEach (e :: rest) env = (false, eval e env) :: starEach rest env := by with_unfolding_all rfl) (hplain : (backTo pos (starEach rest env)).any (·.1) = false := by with_unfolding_all rfl) :
    wpAny (model prog w) A (callWith pos (.builtin id) [] (backTo pos (starEach (e :: rest) env)) []) Q E s := r_callB (first := []) c he hplain
theorem r_addS {x y : Str} {u v : Tok} (hz : x.length + y.length ≤ 10000000) (q : ∀ u t', Q (.str (x ++ y) u) ⟨h, g, d, t', os⟩) : wpAny (model prog w) A (binaryOp .Add (.str x u) (.str y v)) Q E ⟨h, g, d, t, os⟩ :=
  add_str (fun u t' => q u t') (by rw [sizeLine_eq]; lia)
theorem r_addL {l b : Addr} {vs ws : List Value} (hl : h.IsList l vs.toArray) (hb : h.IsList b ws.toArray) (hz : vs.length + ws.length ≤ 1000000)
    (q : ∀ a h', Kp h h' → h.get? a = none → h'.get? a = some (listOf (vs ++ ws).toArray 0) → Q (.ref a) ⟨h', g, d, t, os⟩) : wpAny (model prog w) A (binaryOp .Add (.ref l) (.ref b)) Q E ⟨h, g, d, t, os⟩ := by
  obtain ⟨⟨cls, dd, data, sl⟩, ho, hc, n, hd⟩ := id hl
  obtain ⟨⟨cls2, dd2, data2, sl2⟩, ho2, hc2, n2, hd2⟩ := id hb
  simp only at hc hd hc2 hd2
  subst hc hd hc2 hd2
  have e : vs.toArray ++ ws.toArray = (vs ++ ws).toArray := by simp
  refine concat_meets ⟨_, ho, rfl⟩ ⟨_, ho2, rfl⟩ noFill_list_add seq_list_add PySem.F.slot_list_add PySem.F.entry_list_add (PySem.F.args_list_add_2 _ _) (list_addW l b vs.toArray ws.toArray n n2 dd dd2 sl sl2 (by rw [sizeLine_eq]; simp; lia)) ⟨ho, ho2, ?_⟩
  rw [e]
  exact q _ _ (Kp.push _ _) (new_none h) (Heap.get?_push_size _ rfl)
theorem r_mul {a b : Int} {u v : Tok} (ha : -1000 ≤ a) (ha' : a ≤ 1000) (q : ∀ u t', Q (.int (a * b) u) ⟨h, g, d, t', os⟩) : wpAny (model prog w) A (binaryOp .Mult (.int a u) (.int b v)) Q E ⟨h, g, d, t, os⟩ :=
  PyProof.Rows.mul_int (q _ _) (IntMulOk.of_left (intBits_le_64 (by lia) (by lia)))
theorem r_ord {c : Nat} {u : Tok} (q : ∀ u t', Q (.int c u) ⟨h, g, d, t', os⟩) : wpAny (model prog w) A (call (.builtin "ord") [.str ⟨#[c]⟩ u]) Q E ⟨h, g, d, t, os⟩ := PySem.P.ord_of_char (q _ _)
theorem r_item_list {value slice : Expr} {a : Addr} {vs : List Value} {i : Nat} {u : Tok} {v : Value} (hl : s.heap.IsList a vs.toArray) (hi : vs[i]? = some v) (hz : i < 1000000) (q : Q v s)
    (hs : subscripted slice false (.ref a) (.int i u) = operate [.ref a, .int i u] (getItem (.ref a) (.int i u)) := by with_unfolding_all rfl) :
    wpAny (model prog w) A (subscriptTail value slice (.ref a) (.int i u)) Q E s :=
  tail_any hl.typeIs slot_list_getitem.lookup (wpAny_getItem_list hl (by lia) (by lia) (by simpa using hi) q) hs
theorem r_item_tup {value slice : Expr} {a : Addr} {vs : List Value} {k : Int} {u : Tok} {v : Value} {j : Nat} (hl : IsTup s.heap a vs.toArray) (hj : seqIndex? k vs.length = some j) (hi : vs[j]? = some v) (h1 : -100 ≤ k) (h2 : k < 100) (q : Q v s)
    (hs : subscripted slice false (.ref a) (.int k u) = operate [.ref a, .int k u] (getItem (.ref a) (.int k u)) := by with_unfolding_all rfl) :
    wpAny (model prog w) A (subscriptTail value slice (.ref a) (.int k u)) Q E s := item_tupleT hl (by lia) (by lia) hj hi q hs
theorem r_newTuple {vs : List Value} (hz : vs.length ≤ 1000000) (q : ∀ a h', Kp h h' → h.get? a = none → IsTup h' a vs.toArray → Q (.ref a) ⟨h', g, d, t, os⟩) : wpAny (model prog w) A (newTuple vs) Q E ⟨h, g, d, t, os⟩ := by
  refine wpAny_newObj_type (q _ _ (Kp.push _ _) (new_none h) ⟨_, Heap.get?_push_size _ rfl, rfl, _, rfl⟩) ?_
  show vs.toArray.size ≤ sizeLine
  rw [sizeLine_eq, List.size_toArray]; lia
theorem r_newList {vs : List Value} (hz : vs.length ≤ 1000000) (q : ∀ a h', Kp h h' → h.get? a = none → h'.get? a = some (listOf vs.toArray 0) → Q (.ref a) ⟨h', g, d, t, os⟩) : wpAny (model prog w) A (newList vs) Q E ⟨h, g, d, t, os⟩ := by
  refine wpAny_newObj_type (q _ _ (Kp.push _ _) (new_none h) (Heap.get?_push_size _ rfl)) ?_
  show vs.toArray.size ≤ sizeLine
  rw [sizeLine_eq, List.size_toArray]; lia
end
theorem listOf_is {h : Heap} {a : Addr} {vs : List Value} {n : Nat} (e : h.get? a = some (listOf vs.toArray n)) : h.IsList a vs.toArray := ⟨_, e, rfl, n, rfl⟩
end

section
section
variable {prog : Program} {w : World} {A : Around} {h₀ h : Heap} {g : Array GenState} {d : Drawn} {t : Nat} {os : OsState} {env : Env}

structure ItOn (prog : Program) (w : World) (A : Around) (h h' : Heap) (I : Addr) (src : List Addr) (n : Nat) (P : Nat → Value → Prop) (St : Nat → Heap → Prop) : Prop where
  W : Walks prog w A I (I :: src) [I] n P St
  st : St 0 h'
  kp : Kp h h'
  new : h.get? I = none
  lt : ∀ b ∈ I :: src, b < h'.objs.size
theorem r_iterStr {x : Str} {u : Tok} {E : Value → Shared → Prop} {Q : Value → Shared → Prop} (hh : A.handled = none) (q : ∀ I h' St, ItOn prog w A h h' I [] x.cps.size (SignAt x) St → Q (.ref I) ⟨h', g, d, t, os⟩) :
    wpAny (model prog w) A (pyIter (.str x u)) Q E ⟨h, g, d, t, os⟩ :=
  wpAny_pyIter_str fun o St W st => q _ _ St ⟨W _ hh, st, Kp.push _ _, new_none h, fun b hb => by rw [List.mem_singleton.mp hb]; show h.objs.size < (h.push o).objs.size; rw [Heap.size_push]; exact Nat.lt_succ_self _⟩
theorem r_iterList {a : Addr} {vs : List Value} {E : Value → Shared → Prop} {Q : Value → Shared → Prop} (hh : A.handled = none) (hl : h.IsList a vs.toArray) (q : ∀ I h' St, ItOn prog w A h h' I [a] vs.length (fun i v => vs[i]? = some v) St → Q (.ref I) ⟨h', g, d, t, os⟩) :
    wpAny (model prog w) A (pyIter (.ref a)) Q E ⟨h, g, d, t, os⟩ := by
  obtain ⟨oa, hoa, _⟩ := id hl
  have hne : a ≠ h.objs.size := Nat.ne_of_lt (Heap.lt_size hoa)
  have W := Walks.list (prog := prog) (w := w) hh h.objs.size a hne vs.toArray
  rw [List.size_toArray] at W
  have e : (fun (i : Nat) v => vs.toArray[i]? = some v) = fun (i : Nat) v => vs[i]? = some v := by funext i v; simp
  rw [e] at W
  refine wpAny_pyIter_list hl (q _ _ (fun i h' => h'.IsListIter h.objs.size a i ∧ h'.IsList a vs.toArray) ⟨W, ⟨⟨_, Heap.get?_push_size _ rfl, rfl, rfl⟩, hl.push _⟩, Kp.push _ _, new_none h, fun b hb => ?_⟩)
  show b < (h.push _).objs.size
  rw [Heap.size_push]
  rcases List.mem_cons.mp hb with rfl | hb
  · exact Nat.lt_succ_self _
  · rw [List.mem_singleton.mp hb]; exact Nat.lt_succ_of_lt (Heap.lt_size hoa)

noncomputable def CompTurn (prog : Program) (w : World) (A : Around) (g : Array GenState) (d : Drawn) (os : OsState) (cenv : Env) (ifs : List Expr) (elt : Expr) (J : List Value → Heap → Prop) (ys : List Value) (D : Addr) (h₁ : Heap) (t : Nat) : Prop :=
  wpAny (model prog w) A (forIn ifs true fun c r => if r = true then do let ok ← isTrue c cenv (eval c cenv); pure (ForInStep.yield ok) else pure (ForInStep.yield r))
    (fun ok s₃ => ∃ h₃ t₃, s₃ = ⟨h₃, g, d, t₃, os⟩ ∧ Kp h₁ h₃ ∧ if ok = true then
        wpAny (model prog w) A (eval elt cenv) (fun y s₄ => ∃ h₄ t₄, s₄ = ⟨h₄, g, d, t₄, os⟩ ∧ Kp h₃ h₄ ∧ ∀ h₅, Heap.SameBut D h₄ h₅ → J (ys ++ [y]) h₅) NoE ⟨h₃, g, d, t₃, os⟩
      else J ys h₃) NoE ⟨h₁, g, d, t, os⟩

theorem compW {elt iter : Expr} {x : Str} {px : Pos} {ifs : List Expr} {scope : Scope} {pos : Pos} {I D : Addr} {fp wr : List Addr} {n : Nat} {P : Nat → Value → Prop} {St : Nat → Heap → Prop} {cenv : Env} {R : Result → Shared → Prop} {c : Nat}
    (W : Walks prog w A I fp wr n P St) (hst : St 0 h) (hC : cenv.locals ∉ fp) (hD : D ∉ fp) (hDC : D ≠ cenv.locals) (hD0 : h₀.get? D = none) (hw0 : ∀ a ∈ wr, h₀.get? a = none) (hn : n ≤ 1000000)
    (J : Nat → List Value → Heap → Prop) (j0 : J 0 [] h) (hacc : h.get? D = some (listOf #[] c)) (F : FrL h₀ cenv.locals h [])
    (turn : ∀ i v ys h h₁ t, i < n → P i v → J i ys h → FrL h₀ cenv.locals h₁ [(x, v)] → Pr (cenv.locals :: wr) h h₁ → (∃ o, h₁.get? D = some o) → St (i + 1) h₁ → CompTurn prog w A g d os cenv ifs elt (J (i + 1)) ys D h₁ t)
    (done : ∀ ys h h' t c, J n ys h → Pr wr h h' → h'.get? D = some (listOf ys.toArray c) → FrL h₀ cenv.locals h' [] → R (.ok .next) ⟨h', g, d, t, os⟩)
    (hk : cenv.scope.kind = .function) (hl : isLoc (cenv.kindOf x) = true) :
    codeAny (model prog w) A (.compLoop (.ListComp elt [⟨.Name x px, iter, ifs, 0⟩] scope pos) 0 (.ref I) (.ref D) cenv) R ⟨h, g, d, t, os⟩ := by
  have hCw : cenv.locals ∉ wr := fun m => hC (W.sub _ m)
  have hDw : D ∉ wr := fun m => hD (W.sub _ m)
  refine codeAny_compLoop_tests (fun k s' => ∃ i h t ys c, s' = ⟨h, g, d, t, os⟩ ∧ k = n - i ∧ i ≤ n ∧ ys.length ≤ i ∧ St i h ∧ FrL h₀ cenv.locals h [] ∧ h.get? D = some (listOf ys.toArray c) ∧ J i ys h) ?_ n
    ⟨0, h, t, [], c, rfl, rfl, Nat.zero_le _, Nat.le_refl _, hst, F, hacc, j0⟩
  rintro k s' ⟨i, h, t, ys, c, rfl, rfl, hi, hys, st, F, ha, j⟩
  by_cases hlt : i < n
  · refine wpAny_mono (E := NoE) (W.item i _ _ NoE hlt st (fun v h' tk hP st' hp => ?_)) (fun _ _ q => q) fun _ _ f => f.elim
    have F' : FrL h₀ cenv.locals h' [] := F.pr (X := wr) (fun a o e n => hp a o n e) hCw hw0
    refine wpAny_assign_Name (wpAny_mono (E := NoE) (r_store F' (fun h₂ t₂ F₂ hs => ?_) hk hl) (fun _ _ q => q) fun _ _ f => f.elim)
    have p₂ : Pr (cenv.locals :: wr) h h₂ := fun a o e n => (hs.2 a (fun q => n (q ▸ .head _))).trans (hp a o (fun m => n (.tail _ m)) e)
    have st₂ : St (i + 1) h₂ := W.frame _ _ _ st' fun b hb o e => (hs.2 b (fun q => hC (q ▸ hb))).trans e
    have a₂ : h₂.get? D = some (listOf ys.toArray c) := p₂ _ _ ha (fun m => (List.mem_cons.mp m).elim hDC hDw)
    refine wpAny_mono (turn i v ys h h₂ t₂ hlt hP j F₂ p₂ ⟨_, a₂⟩ st₂) (fun ok s₃ q => ?_) fun _ _ f => f.elim
    obtain ⟨h₃, t₃, rfl, k₃, q⟩ := q
    cases ok with
    | false =>
      simp only [Bool.false_eq_true, if_false] at q ⊢
      exact ⟨n - (i + 1), by lia, i + 1, h₃, t₃, ys, c, rfl, rfl, hlt, by lia, W.frame _ _ _ st₂ fun b _ o e => k₃ b o e, (F₂.kp k₃).sub trivial, k₃ _ _ a₂, q⟩
    | true =>
      simp only [if_true] at q ⊢
      refine wpAny_mono q (fun y s₄ q => ?_) fun _ _ f => f.elim
      obtain ⟨h₄, t₄, rfl, k₄, q⟩ := q
      refine wpAny_list_append_plain (items := ys.toArray) ⟨c, k₄ _ _ (k₃ _ _ a₂)⟩ (fun h₅ hp₅ hs₅ => ?_) (by rw [sizeLine_eq, List.size_toArray]; lia)
      obtain ⟨c', hc'⟩ := hp₅
      have e1 : ys.toArray.push y = (ys ++ [y]).toArray := by simp
      rw [e1] at hc'
      refine ⟨n - (i + 1), by lia, i + 1, h₅, t₄, ys ++ [y], c', rfl, rfl, hlt, by simp; lia, W.frame _ _ _ st₂ fun b hb o e => (hs₅.2 b (fun q => hD (q ▸ hb))).trans (k₄ _ _ (k₃ b o e)), ?_, hc', q h₅ hs₅⟩
      exact (((F₂.kp k₃).kp k₄).sub (l' := []) trivial).pr (X := [D]) (Pr.same hs₅ (.head _)) (fun m => hDC (List.mem_singleton.mp m).symm) (fun a m => by rw [List.mem_singleton.mp m]; exact hD0)
  · obtain rfl : i = n := by lia
    refine W.done _ _ _ st fun h' tk hp => ?_
    have p' : Pr wr h h' := fun a o e n => hp a o n e
    exact done ys h h' tk c j p' (p' _ _ ha hDw) (F.pr p' hCw hw0)

theorem comp_block {elt iter : Expr} {x : Str} {px : Pos} {ifs : List Expr} {scope : Scope} {cl : List (Str × Addr)} {pos : Pos} {I : Addr} {fp wr : List Addr} {n : Nat} {P : Nat → Value → Prop} {St : Nat → Heap → Prop} {RR : Value → Addr → Result → Shared → Prop} {l : List (Str × Value)}
    (W : Walks prog w A I fp wr n P St) (hst : St 0 h) (hfp : ∀ b ∈ fp, b < h.objs.size) (hw0 : ∀ a ∈ wr, h₀.get? a = none) (hn : n ≤ 1000000) (F : FrL h₀ env.locals h l)
    (J : Addr → Addr → Nat → List Value → Heap → Prop) (j0 : ∀ D C h', h.get? D = none → h.get? C = none → D ≠ C → Kp h h' → J D C 0 [] h')
    (turn : ∀ D C i v ys h' h₁ t, h.get? D = none → h.get? C = none → D ≠ C → i < n → P i v → J D C i ys h' → FrL h₀ C h₁ [(x, v)] → Pr (C :: wr) h' h₁ → (∃ o, h₁.get? D = some o) → St (i + 1) h₁ → CompTurn prog w A g d os (compEnvC scope cl C env) ifs elt (J D C (i + 1)) ys D h₁ t)
    (done : ∀ D C ys h₁ h' t c, h.get? D = none → h.get? C = none → D ≠ C → J D C n ys h₁ → Pr wr h₁ h' → h'.get? D = some (listOf ys.toArray c) → FrL h₀ C h' [] → RR (.ref D) C (.ok .next) ⟨h', g, d, t, os⟩)
    (hcell : ∀ y ∈ scope.names, y.2 ≠ .cell) (hkind : scope.kind = .function) (hx : scope.names.lookup x = some .local) :
    wpAny (model prog w) A (newList []) (fun acc s₃ => wpAny (model prog w) A (newFunctionEnv scope env.globals cl [] env.qual none .none (some env)) (fun cenv s₄ =>
      codeAny (model prog w) A (.compStart (.ListComp elt [⟨.Name x px, iter, ifs, 0⟩] scope pos) 0 (.ref I) acc { cenv with scope := relabel scope env }) (RR acc cenv.locals) s₄) NoE s₃) NoE ⟨h, g, d, t, os⟩ := by
  refine wpAny_newObj_type ?_
  have nD : h.get? h.objs.size = none := new_none h
  have k₁ : Kp h (h.push (listOf #[] 0)) := Kp.push _ _
  have aD : (h.push (listOf #[] 0)).get? h.objs.size = some (listOf #[] 0) := Heap.get?_push_size _ rfl
  have sD : (h.push (listOf #[] 0)).objs.size = h.objs.size + 1 := Heap.size_push _ _
  show wpAny _ _ _ _ _ (⟨h.push (listOf #[] 0), g, d, t, os⟩ : Shared)
  generalize h.push (listOf #[] 0) = h₁ at k₁ aD sD ⊢
  refine wpAny_newFunctionEnv hcell (by intro y hy; simp at hy) (fun h₂ hns hsb => ?_) hkind
  dsimp only at hns hsb ⊢
  have nC : h₁.get? h₁.objs.size = none := new_none h₁
  have hle : h₀.objs.size ≤ h₁.objs.size := by
    obtain ⟨o, ho⟩ := F.some
    exact Nat.le_trans F.above (Nat.le_of_lt (Heap.lt_size (k₁ _ _ ho)))
  have fD : h.objs.size ∉ fp := fun m => Nat.lt_irrefl _ (hfp _ m)
  have fC : h₁.objs.size ∉ fp := fun m => by have := hfp _ m; rw [sD] at this; exact Nat.lt_irrefl _ (Nat.lt_of_succ_lt this)
  generalize h₁.objs.size = C at hns hsb nC hle fC ⊢
  generalize h.objs.size = D at nD aD fD ⊢
  have nC' : h.get? C = none := by
    cases e : h.get? C with
    | none => rfl
    | some o => rw [k₁ _ _ e] at nC; cases nC
  have hDC : D ≠ C := by rintro rfl; rw [aD] at nC; cases nC
  have k₂ : Kp h₁ h₂ := fun a o e => hsb.extBut a o (fun q => by rw [q, nC] at e; cases e) (Heap.get?_push_of_some _ e)
  have F₂ : FrL h₀ C h₂ [] := ⟨_, ⟨hns, fun b o e => k₂ b o (k₁ b o (F.keep b o e)), hle⟩, fun _ _ e => by cases e⟩
  have loop : codeAny (model prog w) A (.compLoop (.ListComp elt [⟨.Name x px, iter, ifs, 0⟩] scope pos) 0 (.ref I) (.ref D) (compEnvC scope cl C env)) (RR (.ref D) C) ⟨h₂, g, d, t, os⟩ := by
    refine compW (h₀ := h₀) W (W.frame _ _ _ hst fun b _ o e => k₂ b o (k₁ b o e)) (cenv := compEnvC scope cl C env) ?_ ?_ hDC ?_ hw0 hn (J D C) (j0 D C h₂ nD nC' hDC (k₁.trans k₂)) (k₂ _ _ aD) F₂
      (fun i v ys h' h₁ t hi hP j F p e st => turn D C i v ys h' h₁ t nD nC' hDC hi hP j F p e st) (fun ys h₁ h' t c j p a F => done D C ys h₁ h' t c nD nC' hDC j p a F) ?_ ?_
    · exact fC
    · exact fD
    · cases e : h₀.get? D with
      | none => rfl
      | some o => rw [F.keep _ _ e] at nD; cases nD
    · exact hkind
    · show isLoc ((relabel scope env).names.lookup x) = true
      rw [show (relabel scope env).names.lookup x = some .local from lookup_relabel_local hx]; rfl
  exact codeAny_compStart_list loop (W.self 0 _ _ _ (W.frame _ _ _ hst fun b _ o e => k₂ b o (k₁ b o e)) loop)

theorem compEnd {Q : Value → Shared → Prop} {acc : Value} {C : Addr} (F : FrL h₀ C h []) (q : ∀ h', Heap.SameBut C h h' → Q acc ⟨h', g, d, t, os⟩) : compPost (model prog w) A NoE none Q acc C (.ok .next) ⟨h, g, d, t, os⟩ := by
  obtain ⟨m, F, _⟩ := F.ex
  exact ⟨m, F.ns, fun h' hs => q h' hs⟩
theorem compEndA {Q : Value → Shared → Prop} {acc : Value} {C : Addr} {y : Str} {py : Pos} {l : List (Str × Value)} (FC : FrL h₀ C h []) (F : FrL h₀ env.locals h l) (hne : C ≠ env.locals)
    (q : ∀ h' t', FrL h₀ env.locals h' ((y, acc) :: l) → Pr [C, env.locals] h h' → Q .none ⟨h', g, d, t', os⟩)
    (hk : env.scope.kind = .function := by with_unfolding_all rfl) (hl : isLoc (env.kindOf y) = true := by with_unfolding_all rfl) :
    compPost (model prog w) A NoE (some (assign (.Name y py) env)) Q acc C (.ok .next) ⟨h, g, d, t, os⟩ := by
  refine wpAny_assign_Name (r_store F (fun h₂ t₂ F₂ hs => ?_) hk hl)
  obtain ⟨m, FC, _⟩ := FC.ex
  refine ⟨m, FC.ns.sameBut hs hne, fun h₃ hs₃ => q h₃ t₂ (F₂.pr (X := [C]) (Pr.same hs₃ (.head _)) (fun m => hne (List.mem_singleton.mp m).symm) fun a m => ?_) ((Pr.same hs (by simp)).trans (Pr.same hs₃ (by simp)))⟩
  rw [List.mem_singleton.mp m]
  cases e : h₀.get? C with
  | none => rfl
  | some o => exact absurd (Heap.lt_size e) (Nat.not_lt.mpr FC.above)

theorem r_comp {s : Shared} {elt iter : Expr} {x : Str} {px : Pos} {ifs : List Expr} {scope : Scope} {cl : List (Str × Addr)} {pos : Pos} {Q : Value → Shared → Prop} (hclos : closureFor scope env = pure cl)
    (h : wpAny (model prog w) A (eval iter env) (fun xv s₁ => wpAny (model prog w) A (pyIter xv) (fun it s₂ => wpAny (model prog w) A (newList []) (fun acc s₃ =>
      wpAny (model prog w) A (newFunctionEnv scope env.globals cl [] env.qual none .none (some env)) (fun cenv s₄ =>
        codeAny (model prog w) A (.compStart (.ListComp elt [⟨.Name x px, iter, ifs, 0⟩] scope pos) 0 it acc { cenv with scope := relabel scope env }) (compPost (model prog w) A NoE none Q acc cenv.locals) s₄) NoE s₃) NoE s₂) NoE s₁) NoE s)
    (hs : ∀ x, foldedSetIterable iter env x = pure x := by intro _; with_unfolding_all rfl) (hkind : scope.kind = .function := by with_unfolding_all rfl)
    (hnames : ∀ y ∈ scope.names, y.2 = .local → scope.names.lookup y.1 = some .local := by with_unfolding_all decide) :
    wpAny (model prog w) A (eval (.ListComp elt [⟨.Name x px, iter, ifs, 0⟩] scope pos) env) Q NoE s := by
  rw [eval_ListComp]
  exact wpAny_comprehension_free (use := none) rfl hs hclos hkind hnames h

theorem s_assignComp {s : Shared} {elt iter : Expr} {x y : Str} {px py : Pos} {ifs : List Expr} {scope : Scope} {cl : List (Str × Addr)} {pos spos : Pos} {rest : List Stmt} {Q : Flow → Shared → Prop}
    (hsw : swapsWith (.ListComp elt [⟨.Name x px, iter, ifs, 0⟩] scope pos) (some (.Name y py)) spos.line env = pure true) (hclos : closureFor scope env = pure cl)
    (h : wpAny (model prog w) A (eval iter env) (fun xv s₁ => wpAny (model prog w) A (pyIter xv) (fun it s₂ => wpAny (model prog w) A (newList []) (fun acc s₃ =>
      wpAny (model prog w) A (newFunctionEnv scope env.globals cl [] env.qual none .none (some env)) (fun cenv s₄ =>
        codeAny (model prog w) A (.compStart (.ListComp elt [⟨.Name x px, iter, ifs, 0⟩] scope pos) 0 it acc { cenv with scope := relabel scope env })
          (compPost (model prog w) A NoE (some (assign (.Name y py) env)) (fun _ s' => wpAny (model prog w) A (execs rest env) Q NoE s') acc cenv.locals) s₄) NoE s₃) NoE s₂) NoE s₁) NoE s)
    (hs : ∀ x, foldedSetIterable iter env x = pure x := by intro _; with_unfolding_all rfl) (hkind : scope.kind = .function := by with_unfolding_all rfl)
    (hnames : ∀ y ∈ scope.names, y.2 = .local → scope.names.lookup y.1 = some .local := by with_unfolding_all decide) :
    wpAny (model prog w) A (execs (.Assign [.Name y py] (.ListComp elt [⟨.Name x px, iter, ifs, 0⟩] scope pos) spos :: rest) env) Q NoE s := by
  refine wpAny_execs_cons ?_
  rw [exec_Assign_Name_used _ _ _ _ hsw]
  refine wpAny_bind (wpAny_standAt (wpAny_bind ?_))
  show wpAny _ A (do let _ ← comprehension (.ListComp elt [⟨.Name x px, iter, ifs, 0⟩] scope pos) scope env _ (newList []) false (eval iter env) (some (assign (.Name y py) env))) _ _ s
  exact wpAny_bind (wpAny_mono (wpAny_comprehension_free (use := some (assign (.Name y py) env)) (Q := fun _ s' => wpAny (model prog w) A (execs rest env) Q NoE s') rfl hs hclos hkind hnames h) (fun _ s' hq => wpAny_pure (wpAny_pure hq)) fun _ _ e => e)
end
end

section
section
variable {prog : Program} {w : World} {A : Around} {E : Value → Shared → Prop} {s : Shared} {h₀ h : Heap} {g : Array GenState} {d : Drawn} {t : Nat} {os : OsState} {env : Env} {rest : List Stmt} {Q : Flow → Shared → Prop}

theorem s_for {x : Str} {px : Pos} {iter : Expr} {body : List Stmt} {pos : Pos}
    (c : wpAny (model prog w) A (eval iter env) (fun xv s₁ => wpAny (model prog w) A (pyIter xv) (fun it s₂ =>
      codeAny (model prog w) A (.forLoop (.Name x px) it body [] env) (fun r s' => match r with | .ok f => Nx (model prog w) A rest env Q NoE f s' | .error e => cameBackBy (model prog w) A env NoE e s') s₂) NoE s₁) NoE s)
    (hs : ∀ x, foldedSetIterable iter env x = pure x := by intro _; with_unfolding_all rfl) : wpAny (model prog w) A (execs (.For (.Name x px) iter body [] pos :: rest) env) Q NoE s :=
  wpAny_execs_cons (wpAny_For c hs)
theorem s_expr {e : Expr} {pos : Pos} (c : wpAny (model prog w) A (eval e env) (fun _ s' => wpAny (model prog w) A (execs rest env) Q E s') E s)
    (hi : interactive env = false := by with_unfolding_all rfl) (hs : swapsWith e none pos.line env = pure false := by with_unfolding_all rfl) : wpAny (model prog w) A (execs (.Expr e pos :: rest) env) Q E s :=
  wpAny_execs_cons (wpAny_Expr_any c hi hs)
end

section
variable {prog : Program} {w : World} {A : Around} {E : Value → Shared → Prop} {s : Shared} {h₀ h : Heap} {g : Array GenState} {d : Drawn} {t : Nat} {os : OsState} {env : Env} {Q : Value → Shared → Prop}
theorem r_len_list {a : Addr} {vs : List Value} (hl : h.IsList a vs.toArray) (hz : vs.length ≤ 1000000) (q : ∀ u t', Q (.int (vs.length : Nat) u) ⟨h, g, d, t', os⟩) : wpAny (model prog w) A (call (.builtin "len") [.ref a]) Q E ⟨h, g, d, t, os⟩ := by
  refine call_len_list (items := vs.toArray) hl (by rw [List.size_toArray]; lia) ?_
  rw [List.size_toArray]; exact q _ _
theorem r_getInsert {a : Addr} {vs : List Value} {n : Nat} {pl : Sem Bool} {Q : Value × List Value → Shared → Prop} (e : s.heap.get? a = some (listOf vs.toArray n)) (q : Q (.builtin "list.insert", [.ref a]) s) :
    wpAny (model prog w) A (getMethod (.ref a) "insert" pl) Q E s :=
  getMethod_builtin (listOf_is e).typeIs PySem.F.plainAttrs_list PySem.F.slot_list_insert PySem.F.type_list_insert (fun b q => by cases q; exact ⟨_, e, rfl⟩) q
theorem r_getAppend {a : Addr} {vs : List Value} {n : Nat} {pl : Sem Bool} {Q : Value × List Value → Shared → Prop} (e : s.heap.get? a = some (listOf vs.toArray n)) (q : Q (.builtin "list.append", [.ref a]) s) :
    wpAny (model prog w) A (getMethod (.ref a) "append" pl) Q E s := getMethod_list_append e rfl rfl q
theorem r_append {a : Addr} {vs : List Value} {n : Nat} {v : Value} (e : h.get? a = some (listOf vs.toArray n)) (hz : vs.length ≤ 1000000) (q : ∀ h' c, Heap.SameBut a h h' → h'.get? a = some (listOf (vs ++ [v]).toArray c) → Q .none ⟨h', g, d, t, os⟩) :
    wpAny (model prog w) A (call (.builtin "list.append") [.ref a, v]) Q E ⟨h, g, d, t, os⟩ := by
  refine wpAny_list_append_plain (items := vs.toArray) ⟨n, e⟩ (fun h' hp hs => ?_) (by rw [sizeLine_eq, List.size_toArray]; lia)
  obtain ⟨c, hc⟩ := hp
  refine q h' c hs ?_
  rw [hc]; simp
theorem r_insertX {a : Addr} {vs : List Value} {n : Nat} {v : Value} {x : Int} {k : Nat} {u : Tok} (hx : x = (k : Int)) (e : h.get? a = some (listOf vs.toArray n)) (hz : vs.length ≤ 1000000) (hk : k ≤ vs.length)
    (q : ∀ h' c, Heap.SameBut a h h' → h'.get? a = some (listOf (vs.take k ++ v :: vs.drop k).toArray c) → Q .none ⟨h', g, d, t, os⟩) :
    wpAny (model prog w) A (call (.builtin "list.insert") [.ref a, .int x u, v]) Q E ⟨h, g, d, t, os⟩ := by
  have fits : Builtin.List.listFitsIndex x = true := by
    unfold Builtin.List.listFitsIndex
    simp only [Bool.and_eq_true, decide_eq_true_eq]
    constructor <;> lia
  have hc0 : ¬ (!Builtin.List.listFitsIndex x) = true := by rw [fits]; decide
  have hsz : vs.toArray.size ≤ sizeLine := by rw [List.size_toArray, sizeLine_eq]; lia
  have m := PySem.AutoSeq1.list_insert_list_int_val_1 a vs.toArray n x u v hc0 hsz
  refine call_meets PySem.F.slot_list_insert (s := ⟨h, g, d, t, os⟩) ⟨_, e, rfl⟩ PySem.F.entry_list_insert (PySem.F.args_list_insert_3 _ _ _) m ⟨e, ?_⟩
  have h0 : ¬ (x < 0) := by lia
  have h1 : min x.toNat vs.toArray.size = k := by rw [List.size_toArray]; lia
  have e1 : (vs.toArray.extract 0 (if x < 0 then (x + ((vs.toArray.size : Nat) : Int)).toNat else min x.toNat vs.toArray.size)).push v ++ vs.toArray.extract (if x < 0 then (x + ((vs.toArray.size : Nat) : Int)).toNat else min x.toNat vs.toArray.size) = (vs.take k ++ v :: vs.drop k).toArray := by
    rw [if_neg h0, h1]
    apply Array.toList_inj.mp
    simp
    exact List.take_of_length_le (by simp)
  have z := get?_update_seq e (fun xs => have k := if x < 0 then (x + ((xs.size : Nat) : Int)).toNat else min x.toNat xs.size; (xs.extract 0 k).push v ++ xs.extract k)
  dsimp only at z
  rw [e1] at z
  exact q _ _ (Heap.SameBut.update ..) z
theorem r_insert {a : Addr} {vs : List Value} {n : Nat} {v : Value} {k : Nat} {u : Tok} (e : h.get? a = some (listOf vs.toArray n)) (hz : vs.length ≤ 1000000) (hk : k ≤ vs.length)
    (q : ∀ h' c, Heap.SameBut a h h' → h'.get? a = some (listOf (vs.take k ++ v :: vs.drop k).toArray c) → Q .none ⟨h', g, d, t, os⟩) :
    wpAny (model prog w) A (call (.builtin "list.insert") [.ref a, .int (k : Nat) u, v]) Q E ⟨h, g, d, t, os⟩ := r_insertX rfl e hz hk q
end
end

section
noncomputable def SlcQ (M : Model) (A : Around) (value slice : Expr) (o l u st : Value) (Q : Value → Shared → Prop) (E : Value → Shared → Prop) (s : Shared) : Prop :=
  wpAny M A (subscriptTail value slice o (.ref s.heap.objs.size)) Q E { s with heap := s.heap.push { cls := .type "slice", data := .fields #[l, u, st] } }
theorem Kp.keptH (h : Heap) : KeptH (Kp h) := fun _ ob k => k.trans (Kp.push _ ob)

section
variable {M : Model} {A : Around} {E : Value → Shared → Prop} {s : Shared} {env : Env} {value slice : Expr} {o : Value} {Q : Value → Shared → Prop}
theorem r_slc {lower upper step : Option Expr} {p : Pos}
    (c : wpAny M A (evalPart lower env) (fun l s₁ => wpAny M A (evalPart upper env) (fun u s₂ => wpAny M A (evalPart step env) (fun st s₃ => SlcQ M A value slice o l u st Q E s₃) E s₂) E s₁) E s) :
    wpAny M A (eval (.Slice lower upper step p) env) (fun i s₂ => wpAny M A (subscriptTail value slice o i) Q E s₂) E s := wpAny_Slice c
theorem r_part0 {Q : Value → Shared → Prop} (c : Q .none s) : wpAny M A (evalPart none env) Q E s := wpAny_pure c
theorem r_part1 {e : Expr} {Q : Value → Shared → Prop} (c : wpAny M A (eval e env) Q E s) : wpAny M A (evalPart (some e) env) Q E s := c
end

theorem slice_to {x : Str} {j : Int} (h0 : 0 ≤ j) (h1 : j ≤ x.length) : Txt.slice x none (some j) = ⟨(x.cps.toList.take j.toNat).toArray⟩ := by
  have := slice_closes_toL h0 h1
  rw [beq_iff_eq] at this
  rw [this]; simp
theorem slice_from {x : Str} {i : Int} (h0 : 0 ≤ i) (h1 : i ≤ x.length) : Txt.slice x (some i) none = ⟨(x.cps.toList.drop i.toNat).toArray⟩ := by
  have := slice_closes_fromL h0 h1 rfl
  rw [beq_iff_eq] at this
  rw [this]
  have : (((x.length : Int) - i).toNat) = (x.cps.toList.drop i.toNat).length := by simp [Str.length]; lia
  rw [this, List.take_length]
theorem slice_ft {x : Str} {i j : Int} (h0 : 0 ≤ i) (h1 : i ≤ j) (h2 : j ≤ x.length) : Txt.slice x (some i) (some j) = ⟨((x.cps.toList.drop i.toNat).take (j - i).toNat).toArray⟩ := by
  have := slice_closesL h0 h1 h2
  rwa [beq_iff_eq] at this

section
variable {prog : Program} {w : World} {A : Around} {E : Value → Shared → Prop} {h : Heap} {g : Array GenState} {d : Drawn} {t : Nat} {os : OsState} {env : Env} {value slice : Expr} {x : Str} {v : Tok} {Q : Value → Shared → Prop}
theorem r_slS_to {j : Int} {u : Tok} (hz : x.length ≤ 1000000) (h0 : 0 ≤ j) (h1 : j ≤ x.length)
    (q : ∀ h' u t', Kp h h' → Q (.str ⟨(x.cps.toList.take j.toNat).toArray⟩ u) ⟨h', g, d, t', os⟩)
    (hs : ∀ n, subscripted slice false (.str x v) (.ref n) = operate [.ref n, .str x v] (getItem (.str x v) (.ref n)) := by intro _; with_unfolding_all rfl)
    (ht : ∀ r, letTemporaryGo value (.str x v) r = pure () := by intro _; with_unfolding_all rfl) :
    SlcQ (model prog w) A value slice (.str x v) .none (.int j u) .none Q E ⟨h, g, d, t, os⟩ :=
  tail_of_ItemOn (SBH.sliceItem_ns (s := ⟨h, g, d, t, os⟩) (Kp.keptH h) (Kp.refl h) (fun h' t' k e => by rw [slice_to h0 h1]; exact q h' t' k e) (by rw [sizeLine_eq]; lia)) (hs _) ht
theorem r_slS_from {i : Int} {u : Tok} (hz : x.length ≤ 1000000) (h0 : 0 ≤ i) (h1 : i ≤ x.length)
    (q : ∀ h' u t', Kp h h' → Q (.str ⟨(x.cps.toList.drop i.toNat).toArray⟩ u) ⟨h', g, d, t', os⟩)
    (hs : ∀ n, subscripted slice false (.str x v) (.ref n) = operate [.ref n, .str x v] (getItem (.str x v) (.ref n)) := by intro _; with_unfolding_all rfl)
    (ht : ∀ r, letTemporaryGo value (.str x v) r = pure () := by intro _; with_unfolding_all rfl) :
    SlcQ (model prog w) A value slice (.str x v) (.int i u) .none .none Q E ⟨h, g, d, t, os⟩ :=
  tail_of_ItemOn (SBH.sliceItem_sn (s := ⟨h, g, d, t, os⟩) (Kp.keptH h) (Kp.refl h) (fun h' t' k e => by rw [slice_from h0 h1]; exact q h' t' k e) (by rw [sizeLine_eq]; lia)) (hs _) ht
theorem r_slS_ft {i j : Int} {u u' : Tok} (hz : x.length ≤ 1000000) (h0 : 0 ≤ i) (h1 : i ≤ j) (h2 : j ≤ x.length)
    (q : ∀ h' u t', Kp h h' → Q (.str ⟨((x.cps.toList.drop i.toNat).take (j - i).toNat).toArray⟩ u) ⟨h', g, d, t', os⟩)
    (hs : ∀ n, subscripted slice false (.str x v) (.ref n) = operate [.ref n, .str x v] (getItem (.str x v) (.ref n)) := by intro _; with_unfolding_all rfl)
    (ht : ∀ r, letTemporaryGo value (.str x v) r = pure () := by intro _; with_unfolding_all rfl) :
    SlcQ (model prog w) A value slice (.str x v) (.int i u) (.int j u') .none Q E ⟨h, g, d, t, os⟩ :=
  tail_of_ItemOn (SBH.sliceItem_ss (s := ⟨h, g, d, t, os⟩) (Kp.keptH h) (Kp.refl h) (fun h' t' k e => by rw [slice_ft h0 h1 h2]; exact q h' t' k e) (by rw [sizeLine_eq]; lia)) (hs _) ht

theorem r_slL {l : Addr} {vs : List Value} {vl vu vk : Value} {lo hi st : Option Int} {ops : List Addr → List Value} (hl : h.IsList l vs.toArray) (pl : IsPart vl lo) (pu : IsPart vu hi) (pk : IsPart vk st) (h0 : st ≠ some 0) (hz : vs.length ≤ 1000000)
    (q : ∀ a h', Kp h h' → h.get? a = none → h'.get? a = some (listOf (slicePick vs.toArray lo hi st) 0) → Q (.ref a) ⟨h', g, d, t, os⟩)
    (hs : ∀ n, subscripted slice false (.ref l) (.ref n) = operate (ops [n]) (getItem (.ref l) (.ref n))) (ht : ∀ r, letTemporaryGo value (.ref l) r = pure ()) :
    SlcQ (model prog w) A value slice (.ref l) vl vu vk Q E ⟨h, g, d, t, os⟩ := by
  refine subscriptTail_ops (Heap.IsList.typeIs (s := { heap := h.push { cls := .type "slice", data := .fields #[vl, vu, vk] }, gens := g, drawn := d, toks := t, os := os }) (hl.push _)) list_getitem_lookup
    (wpAny_getItem_list_slice (s := { heap := h.push { cls := .type "slice", data := .fields #[vl, vu, vk] }, gens := g, drawn := d, toks := t, os := os }) (hl.push _) (Heap.IsSliceOf.new ..) pl pu pk h0 ?_ (by rw [sizeLine_eq, List.size_toArray]; lia)) (hs _) ht
  refine q _ _ ((Kp.push _ _).trans (Kp.push _ _)) ?_ (Heap.get?_push_size _ rfl)
  exact none_of (new_none _) (Kp.push _ _)
theorem r_slL_to {l : Addr} {vs : List Value} {j : Int} {u : Tok} (hl : h.IsList l vs.toArray) (hz : vs.length ≤ 1000000) (h0 : 0 ≤ j)
    (q : ∀ a h', Kp h h' → h.get? a = none → h'.get? a = some (listOf (vs.take j.toNat).toArray 0) → Q (.ref a) ⟨h', g, d, t, os⟩)
    (hs : ∀ n, subscripted slice false (.ref l) (.ref n) = operate [.ref n, .ref l] (getItem (.ref l) (.ref n)) := by intro _; with_unfolding_all rfl)
    (ht : ∀ r, letTemporaryGo value (.ref l) r = pure () := by intro _; with_unfolding_all rfl) :
    SlcQ (model prog w) A value slice (.ref l) .none (.int j u) .none Q E ⟨h, g, d, t, os⟩ := by
  refine r_slL (ops := fun n => n.map .ref ++ [.ref l]) hl .none (.int j u) .none (by simp) hz (fun a h' k n e => q a h' k n ?_) (fun n => hs n) ht
  have ej : j = (j.toNat : Int) := by lia
  rw [ej, slicePick_upto'] at e
  exact e
theorem r_slL_from {l : Addr} {vs : List Value} {j : Int} {u : Tok} (hl : h.IsList l vs.toArray) (hz : vs.length ≤ 1000000) (h0 : 0 ≤ j)
    (q : ∀ a h', Kp h h' → h.get? a = none → h'.get? a = some (listOf (vs.drop j.toNat).toArray 0) → Q (.ref a) ⟨h', g, d, t, os⟩)
    (hs : ∀ n, subscripted slice false (.ref l) (.ref n) = operate [.ref n, .ref l] (getItem (.ref l) (.ref n)) := by intro _; with_unfolding_all rfl)
    (ht : ∀ r, letTemporaryGo value (.ref l) r = pure () := by intro _; with_unfolding_all rfl) :
    SlcQ (model prog w) A value slice (.ref l) (.int j u) .none .none Q E ⟨h, g, d, t, os⟩ := by
  refine r_slL (ops := fun n => n.map .ref ++ [.ref l]) hl (.int j u) .none .none (by simp) hz (fun a h' k n e => q a h' k n ?_) (fun n => hs n) ht
  have ej : j = (j.toNat : Int) := by lia
  rw [ej, slicePick_from'] at e
  exact e
end
end

noncomputable def isCel : Option NameKind → Bool
  | some .cell => true
  | some .free => true
  | _ => false
noncomputable def Cls (cs : List (Str × Addr)) (h : Heap) (lc : List (Str × Value)) : Prop := ∀ x v, lc.lookup x = some v → ∃ c, cs.lookup x = some c ∧ h.IsCell c (some v)
section
variable {prog : Program} {w : World} {A : Around} {E : Value → Shared → Prop} {env : Env} {lc : List (Str × Value)}
theorem r_nameC {s : Shared} {x : Str} {v : Value} {pos : Pos} {Q : Value → Shared → Prop} (X : Cls env.cells s.heap lc) (hv : lc.lookup x = some v) (q : Q v s) (hk : env.scope.kind = .function := by with_unfolding_all rfl) (hl : isCel (env.kindOf x) = true := by with_unfolding_all rfl)
    (hd : (x == ("__debug__" : Str)) = false := by decide) (hn : (x == ("__classdict__" : Str)) = false := by decide) : wpAny (model prog w) A (eval (.Name x pos) env) Q E s := by
  obtain ⟨c, hc, hcv⟩ := X x v hv
  cases z : env.kindOf x with
  | none => rw [z] at hl; cases hl
  | some k =>
    rw [z] at hl
    cases k <;> first | exact wpAny_Name (wpAny_loadName_cell hk z hc hcv q) hd | exact wpAny_Name (wpAny_loadName_free hk z hc hcv q hn) hd | (exact absurd hl (by decide))
end

local macro_rules | `(tactic| walk_at "xs") => `(tactic| repeat (first
  | ((with_reducible refine' s_assign ?_ ?h1); (case h1 => with_unfolding_all rfl))
  | with_reducible refine s_if0 ?_
  | with_reducible refine s_if ?_
  | with_reducible refine s_ret ?_
  | with_reducible refine s_aug ?_
  | ((with_reducible refine' s_expr ?_ ?h1 ?h2); (case h1 => with_unfolding_all rfl); (case h2 => with_unfolding_all rfl))
  | ((with_reducible refine' wpAny_Compare1 ?_ ?h1); (case h1 => with_unfolding_all rfl))
  | with_reducible refine wpAny_BinOp ?_
  | with_reducible refine Subscript_ ?_
  | with_reducible refine isTrue_and ?_
  | with_reducible refine isTrue_and_nil ?_
  | with_reducible refine isTrue_or ?_
  | with_reducible refine isTrue_or_nil ?_
  | with_reducible refine isTrue_not ?_
  | ((with_reducible refine' wpAny_isTrue_Compare1 ?_ ?h1); (case h1 => with_unfolding_all rfl))
  | with_reducible refine r_isTrueName ?_
  | with_reducible refine r_isTrueCall ?_
  | with_reducible refine BoolOp_and ?_
  | with_reducible refine BoolOp_or ?_
  | with_reducible refine BoolOp_one ?_
  | with_reducible refine IfExp_ ?_
  | with_reducible refine UnaryOp_ ?_
  | with_reducible refine not_of ?_
  | with_reducible refine Constant_bool ?_
  | with_reducible refine Constant_none ?_
  | (with_reducible refine r_int ?_; intro _ _)
  | (with_reducible refine r_str ?_; intro _ _)
  | ((with_reducible refine' r_name ?F ?hv ?_ ?h1 ?h2 ?h3); (case h2 => with_unfolding_all rfl); (case F => assumption); (case hv => rfl); (case h1 => with_unfolding_all rfl); (case h3 => decide))
  | ((with_reducible refine' r_nameC ?F ?hv ?_ ?h1 ?h2 ?h3 ?h4); (case h2 => with_unfolding_all rfl); (case F => assumption); (case hv => rfl); (case h1 => with_unfolding_all rfl); (case h3 => decide); (case h4 => decide))
  | ((with_reducible refine' r_ldn ?F ?hv ?_ ?h1 ?h2); (case h2 => with_unfolding_all rfl); (case F => assumption); (case hv => rfl); (case h1 => with_unfolding_all rfl))
  | ((with_reducible refine' r_glob ?F ?G ?e ?_ ?h1 ?h2 ?h3 ?h4); (case h2 => with_unfolding_all rfl); (case F => assumption); (case G => assumption); (case e => k_is); (case h1 => with_unfolding_all rfl); (case h3 => with_unfolding_all rfl); (case h4 => decide))
  | ((with_reducible refine' r_bltn ?F ?G ?e ?hv ?hn ?_ ?h1 ?h2 ?h3 ?h4 ?h5); (case h2 => with_unfolding_all rfl); (case F => assumption); (case G => assumption); (case e => k_is); (case hv => first | exact boot_len | exact boot_range | exact boot_min | exact boot_sum | exact boot_ord | exact boot_sorted | exact boot_isinstance | exact boot_str | exact boot_tuple | exact boot_iter | exact boot_next); (case hn => decide); (case h1 => with_unfolding_all rfl); (case h3 => with_unfolding_all rfl); (case h4 => with_unfolding_all rfl); (case h5 => decide))
  | ((with_reducible refine' MethodCall_ ?_ ?h1); (case h1 => with_unfolding_all rfl))
  | ((with_reducible refine' r_call ?_ ?h1); (case h1 => with_unfolding_all rfl))
  | ((with_reducible refine' r_callB0 ?_ ?h1 ?h2); (case h1 => with_unfolding_all rfl); (case h2 => with_unfolding_all rfl))
  | ((with_reducible refine' r_callB ?_ ?h1 ?h2); (case h1 => with_unfolding_all rfl); (case h2 => with_unfolding_all rfl))
  | ((with_reducible refine' r_callK ?F ?G ?hk ?_ ?h1 ?h2); (case hk => k_is); (case F => assumption); (case G => assumption); (case h1 => with_unfolding_all rfl); (case h2 => with_unfolding_all rfl))
  | ((with_reducible refine' r_args ?_ ?h1); (case h1 => with_unfolding_all rfl))
  | with_reducible refine r_args0 ?_
  | with_reducible refine Tuple_ ?_
  | with_reducible refine List_ ?_
  | ((with_reducible refine' r_item_tup ?l ?j ?i ?h1 ?h2 ?_ ?h3); (case l => assumption); (case j => rfl); (case i => rfl); (case h1 => decide); (case h2 => decide); (case h3 => with_unfolding_all rfl))
  | ((with_reducible refine' r_len_str ?z ?_); (case z => assumption); intro _ _)
  | (with_reducible refine r_ord ?_; intro _ _)
  | with_reducible refine wpAny_lt_int ?_
  | with_reducible refine r_slc ?_
  | with_reducible refine r_part0 ?_
  | with_reducible refine r_part1 ?_
  | with_reducible refine PyProof.Rows.ge_int ?_
  | with_reducible refine PyProof.Rows.eq_int ?_
  | with_reducible refine PyProof.Rows.ne_int ?_
  | with_reducible refine eq_str ?_
  | with_reducible refine ne_str ?_
  | with_reducible refine lt_str ?_
  | with_reducible refine PySem.P.gt_str ?_
  | with_reducible refine wpAny_truthy_bool ?_
  | (with_reducible refine r_add_int ?_; intro _ _)
  | with_reducible refine ite_t ?_
  | with_reducible refine ite_f ?_
  | ((with_reducible refine' ite_y ?h1 ?_); (case h1 => with_reducible assumption))
  | ((with_reducible refine' ite_n ?h1 ?_); (case h1 => with_reducible assumption))
  | with_reducible refine Nx.ret ?_
  | with_reducible refine s_nilN ?_
  | ((with_reducible refine' r_item_str ?z ?c ?_ ?h1 ?h2); (case z => assumption); (case c => assumption); (case h1 => with_unfolding_all rfl); (case h2 => (intro _; with_unfolding_all rfl)); intro _ _)
  ))

section
section
variable {prog : Program} {w : World} {A : Around} {E : Value → Shared → Prop} {s : Shared} {h₀ h : Heap} {g : Array GenState} {d : Drawn} {t : Nat} {os : OsState} {env : Env} {pos : Pos}
theorem r_callT {T : String} {e : Expr} {rest : List Expr} {Q : Value → Shared → Prop} (c : wpAny (model prog w) A (spliced (backTo pos (starEach (e :: rest) env))) (fun vs s₁ => wpAny (model prog w) A (call (.type T) vs) Q E s₁) E s)
    (he : starEach (e :: rest) env = (false, eval e env) :: starEach rest env := by with_unfolding_all rfl) (hplain : (backTo pos (starEach rest env)).any (·.1) = false := by with_unfolding_all rfl) :
    wpAny (model prog w) A (callWith pos (.type T) [] (backTo pos (starEach (e :: rest) env)) []) Q E s := by
  rw [he] at c ⊢
  exact PySem.callWith_type (by show (false || (backTo pos (starEach rest env)).any (·.1)) = false; rw [hplain]; rfl) (evalArgs_plain c)
theorem r_rangeS {n : Nat} {x : Int} {u : Tok} {Q : Value → Shared → Prop} (hh : A.handled = none) (hx : x = (n : Int)) (hn : n ≤ 1000000)
    (q : ∀ I h' t' St, ItOn prog w A h h' I [] n (fun i v => ∃ u, v = .int (i : Nat) u) St → (∀ i h, St i h → ∃ o, h.get? I = some o) → Q (.ref I) ⟨h', g, d, t', os⟩) :
    wpAny (model prog w) A (call (.type "range") [.int x u]) (fun v s₁ => wpAny (model prog w) A (pyIter v) Q E s₁) E ⟨h, g, d, t, os⟩ := by
  subst hx
  refine call_range_1 ?_
  refine wpAny_pyIter_range (IsRange.new ..) (small_one (by decide) (by decide) (by lia) (by lia)) ?_
  have hsz : Builtin.Range.rangeSize 0 (n : Int) 1 = (n : Int) := by rw [rangeSize_one]; split <;> lia
  have W := Walks.range (prog := prog) (w := w) hh (h.push { cls := .type "range", data := .fields #[.int 0 t, .int n u, .int 1 (t + 1)] }).objs.size 0 1 n
  have e : (fun (i : Nat) v => ∃ t, v = Value.int (0 + (i : Int) * 1) t) = fun (i : Nat) v => ∃ u, v = Value.int (i : Nat) u := by
    funext i v; simp
  rw [e] at W
  refine q _ _ _ _ ⟨W, ?_, (Kp.push _ _).trans (Kp.push _ _), ?_, fun b hb => ?_⟩ fun _ _ x => ⟨_, x⟩
  · show IsRangeIter _ _ _ _ _
    have e1 : (0 + ((0 : Nat) : Int) * 1) = 0 := by simp
    have e2 : ((n : Int) - ((0 : Nat) : Int)) = Builtin.Range.rangeSize 0 n 1 := by rw [hsz]; simp
    rw [e1, e2]
    exact Heap.get?_push_size _ rfl
  · exact none_of (new_none _) (Kp.push _ _)
  · rw [List.mem_singleton.mp hb]
    show _ < (Heap.push _ _).objs.size
    rw [Heap.size_push (h := Heap.push _ _)]
    exact Nat.lt_succ_self _
theorem r_range {n : Nat} {x : Int} {u : Tok} {Q : Value → Shared → Prop} (hh : A.handled = none) (hx : x = (n : Int)) (hn : n ≤ 1000000)
    (q : ∀ I h' t' St, ItOn prog w A h h' I [] n (fun i v => ∃ u, v = .int (i : Nat) u) St → Q (.ref I) ⟨h', g, d, t', os⟩) :
    wpAny (model prog w) A (call (.type "range") [.int x u]) (fun v s₁ => wpAny (model prog w) A (pyIter v) Q E s₁) E ⟨h, g, d, t, os⟩ := r_rangeS hh hx hn fun I h' t' St it _ => q I h' t' St it
end
section
variable {prog : Program} {w : World} {A : Around} {h₀ h : Heap} {g : Array GenState} {d : Drawn} {t : Nat} {os : OsState} {env : Env} {rest : List Stmt} {Q : Flow → Shared → Prop}
theorem s_forG {s : Shared} {tgt : Expr} {iter : Expr} {body : List Stmt} {pos : Pos}
    (c : wpAny (model prog w) A (eval iter env) (fun xv s₁ => wpAny (model prog w) A (pyIter xv) (fun it s₂ =>
      codeAny (model prog w) A (.forLoop tgt it body [] env) (fun r s' => match r with | .ok f => Nx (model prog w) A rest env Q NoE f s' | .error e => cameBackBy (model prog w) A env NoE e s') s₂) NoE s₁) NoE s)
    (hs : ∀ x, foldedSetIterable iter env x = pure x := by intro _; with_unfolding_all rfl) : wpAny (model prog w) A (execs (.For tgt iter body [] pos :: rest) env) Q NoE s :=
  wpAny_execs_cons (wpAny_For c hs)
theorem forG {tgt : Expr} {body : List Stmt} {I : Addr} {fp wr : List Addr} {n : Nat} {P : Nat → Value → Prop} {St : Nat → Heap → Prop} {l : List (Str × Value)}
    (W : Walks prog w A I fp wr n P St) (hst : St 0 h) (hL : env.locals ∉ fp) (hw0 : ∀ a ∈ wr, h₀.get? a = none) (Y : List Addr) (hY : ∀ a ∈ Y, a ∉ fp)
    (J : Nat → List (Str × Value) → Heap → Prop) (F : FrL h₀ env.locals h l) (j0 : J 0 l h)
    (turn : ∀ i v l h h₁ t, i < n → P i v → J i l h → FrL h₀ env.locals h₁ l → Pr wr h h₁ → St (i + 1) h₁ →
      wpAny (model prog w) A (assign tgt env v) (fun _ s₂ => wpAny (model prog w) A (execs body env) (TurnR g d os (fun h' => ∃ l', FrL h₀ env.locals h' l' ∧ Pr (env.locals :: Y) h₁ h' ∧ J (i + 1) l' h') (fun s' => wpAny (model prog w) A (execs rest env) Q NoE s') Q) NoE s₂) NoE ⟨h₁, g, d, t, os⟩)
    (done : ∀ l h h' t, J n l h → FrL h₀ env.locals h' l → Pr wr h h' → wpAny (model prog w) A (execs rest env) Q NoE ⟨h', g, d, t, os⟩)
    (ht : ∀ i v h t Q', St i h → Q' () (⟨h, g, d, t, os⟩ : Shared) → wpAny (model prog w) A (letOwnedTupleGo tgt (.ref I) v) Q' NoE ⟨h, g, d, t, os⟩) :
    codeAny (model prog w) A (.forLoop tgt (.ref I) body [] env) (fun r s' => match r with | .ok f => Nx (model prog w) A rest env Q NoE f s' | .error e => cameBackBy (model prog w) A env NoE e s') ⟨h, g, d, t, os⟩ := by
  refine codeAny_forLoop_any (fun k s' => ∃ i h t l, s' = ⟨h, g, d, t, os⟩ ∧ k = n - i ∧ i ≤ n ∧ St i h ∧ FrL h₀ env.locals h l ∧ J i l h) ?_ n ⟨0, h, t, l, rfl, rfl, Nat.zero_le _, hst, F, j0⟩
  rintro k s' ⟨i, h, t, l, rfl, rfl, hi, st, F, j⟩
  by_cases hlt : i < n
  · refine wpAny_mono (E := NoE) (W.item i _ _ NoE hlt st (fun v h' tk hP st' hp => ?_)) (fun _ _ q => q) fun _ _ f => f.elim
    have hLw : env.locals ∉ wr := fun m => hL (W.sub _ m)
    have p' : Pr wr h h' := fun a o e n => hp a o n e
    have F' : FrL h₀ env.locals h' l := F.pr p' hLw hw0
    refine ht (i + 1) v h' tk _ st' ?_ |> fun z => wpAny_mono z (fun _ _ q => q) fun _ _ f => f.elim
    refine wpAny_mono (turn i v l h h' tk hlt hP j F' p' st') (fun _ s₂ q => wpAny_mono q (fun f s₃ q => ?_) fun _ _ f => f.elim) fun _ _ f => f.elim
    have fin : (∃ h₃ t', s₃ = (⟨h₃, g, d, t', os⟩ : Shared) ∧ ∃ l', FrL h₀ env.locals h₃ l' ∧ Pr (env.locals :: Y) h' h₃ ∧ J (i + 1) l' h₃) → ∃ m, m < n - i ∧ ∃ i h t l, s₃ = (⟨h, g, d, t, os⟩ : Shared) ∧ m = n - i ∧ i ≤ n ∧ St i h ∧ FrL h₀ env.locals h l ∧ J i l h := by
      rintro ⟨h₃, t', rfl, l', F₃, p₃, j'⟩
      refine ⟨n - (i + 1), by lia, i + 1, h₃, t', l', rfl, rfl, hlt, W.frame _ _ _ st' fun b hb o e => p₃ b o e fun m => ?_, F₃, j'⟩
      rcases List.mem_cons.mp m with rfl | m
      · exact hL hb
      · exact hY b m hb
    cases f with
    | next => exact fin q
    | cont => exact fin q
    | brk => exact q
    | ret v => exact q
  · obtain rfl : i = n := by lia
    have hLw : env.locals ∉ wr := fun m => hL (W.sub _ m)
    refine W.done _ _ _ st fun h' tk hp => ?_
    have p' : Pr wr h h' := fun a o e n => hp a o n e
    exact wpAny_execs_nil (done l h h' tk j (F.pr p' hLw hw0) p')
theorem r_iterListI {a : Addr} {vs : List Value} {E : Value → Shared → Prop} {Q : Value → Shared → Prop} (hh : A.handled = none) (hl : h.IsList a vs.toArray)
    (q : ∀ I h' St, ItOn prog w A h h' I [a] vs.length (fun i v => vs[i]? = some v) St → (∀ i h, St i h → h.IsListIter I a i) → Q (.ref I) ⟨h', g, d, t, os⟩) :
    wpAny (model prog w) A (pyIter (.ref a)) Q E ⟨h, g, d, t, os⟩ := by
  obtain ⟨oa, hoa, _⟩ := id hl
  have hne : a ≠ h.objs.size := Nat.ne_of_lt (Heap.lt_size hoa)
  have W := Walks.list (prog := prog) (w := w) hh h.objs.size a hne vs.toArray
  rw [List.size_toArray] at W
  have e : (fun (i : Nat) v => vs.toArray[i]? = some v) = fun (i : Nat) v => vs[i]? = some v := by funext i v; simp
  rw [e] at W
  refine wpAny_pyIter_list hl (q _ _ (fun i h' => h'.IsListIter h.objs.size a i ∧ h'.IsList a vs.toArray) ⟨W, ⟨⟨_, Heap.get?_push_size _ rfl, rfl, rfl⟩, hl.push _⟩, Kp.push _ _, new_none h, fun b hb => ?_⟩ fun _ _ x => x.1)
  show b < (h.push _).objs.size
  rw [Heap.size_push]
  rcases List.mem_cons.mp hb with rfl | hb
  · exact Nat.lt_succ_self _
  · rw [List.mem_singleton.mp hb]; exact Nat.lt_succ_of_lt (Heap.lt_size hoa)
theorem a_pair {x y : Str} {px py pos : Pos} {k} {T : Addr} {v1 v2 : Value} {l : List (Str × Value)} {Q : Unit → Shared → Prop} (hh : A.handled = none) (hT : IsTup h T #[v1, v2]) (F : FrL h₀ env.locals h l)
    (q : ∀ h' t', FrL h₀ env.locals h' ((y, v2) :: (x, v1) :: l) → Pr [env.locals] h h' → Q () ⟨h', g, d, t', os⟩)
    (hk : env.scope.kind = .function := by with_unfolding_all rfl) (hx : isLoc (env.kindOf x) = true := by with_unfolding_all rfl) (hy : isLoc (env.kindOf y) = true := by with_unfolding_all rfl) :
    wpAny (model prog w) A (assign (.Tuple [.Name x px, .Name y py] k pos) env (.ref T)) Q NoE ⟨h, g, d, t, os⟩ := by
  refine assign_Tuple_tuple hh hT rfl rfl fun h₁ e₁ => ?_
  have k₁ : Kp h h₁ := fun b o e => e₁ b o (Nat.ne_of_lt (Heap.lt_size e)) e
  show wpAny _ _ (assignInOrder [assign (.Name x px) env, assign (.Name y py) env] [v1, v2]) _ _ _
  unfold assignInOrder
  refine wpAny_bind (wpAny_holding (wpAny_assign_Name (r_store (F.kp k₁) (fun h₂ t₂ F₂ s₂ => ?_) hk hx)))
  unfold assignInOrder
  refine wpAny_bind (wpAny_holding (wpAny_assign_Name (r_store F₂ (fun h₃ t₃ F₃ s₃ => ?_) hk hy)))
  unfold assignInOrder
  exact wpAny_pure (q h₃ t₃ F₃ (((k₁.pr _).trans (Pr.same s₂ (.head _))).trans (Pr.same s₃ (.head _))))
end
end

section
noncomputable def ExcB (h₀ h : Heap) (e : Addr) (cls ctx : Value) (st : Option Value) : Prop := ∃ o vs a0, h.get? e = some o ∧ o.cls = cls ∧ o.data = .fields vs ∧ vs[0]? = some a0 ∧ vs[2]? = some ctx ∧ h₀.get? e = none ∧
  match st with
  | none => vs[1]? = some .none
  | some f => ∃ T oT ts, vs[1]? = some (.ref T) ∧ T ≠ e ∧ h₀.get? T = none ∧ h.get? T = some oT ∧ oT.data = .fields ts ∧ ts[3]? = some f ∧ oT.cls = .type "traceback"
noncomputable def RK (h h' : Heap) : Prop := ∀ b o vs, h.get? b = some o → o.data = .fields vs → h'.get? b = some o
noncomputable def NR (X : List Addr) (h h' : Heap) : Prop := ∀ b o, h.get? b = some o → (∀ vs, o.data ≠ .fields vs) → b ∉ X → h'.get? b = some o
noncomputable def XP (X : List Addr) (h h' : Heap) : Prop := ∀ b o, h.get? b = some o → o.cls ≠ .type "traceback" → b ∉ X → h'.get? b = some o
theorem XP.trans {X : List Addr} {a b c : Heap} (x : XP X a b) (y : XP X b c) : XP X a c := fun p o e d n => y p o (x p o e d n) d n
theorem XP.mono {X Y : List Addr} {a b : Heap} (x : XP X a b) (s : ∀ p ∈ X, p ∈ Y) : XP Y a b := fun p o e d n => x p o e d fun m => n (s p m)
theorem Pr.xp {X : List Addr} {a b : Heap} (x : Pr X a b) : XP X a b := fun p o e _ n => x p o e n
theorem XP.less {X : List Addr} {a b : Heap} {p : Addr} (x : XP (p :: X) a b) (n : a.get? p = none) : XP X a b := fun q o e d m => x q o e d fun z => by
  rcases List.mem_cons.mp z with rfl | z
  · rw [n] at e; cases e
  · exact m z
theorem Kp.rk {h h' : Heap} (k : Kp h h') : RK h h' := fun b o _ e _ => k b o e
theorem RK.trans {a b c : Heap} (x : RK a b) (y : RK b c) : RK a c := fun p o vs e d => y p o vs (x p o vs e d) d
theorem Kp.nr {h h' : Heap} (k : Kp h h') (X : List Addr) : NR X h h' := fun b o e _ _ => k b o e
theorem NR.trans {X : List Addr} {a b c : Heap} (x : NR X a b) (y : NR X b c) : NR X a c := fun p o e d n => y p o (x p o e d n) d n
theorem NR.mono {X Y : List Addr} {a b : Heap} (x : NR X a b) (s : ∀ p ∈ X, p ∈ Y) : NR Y a b := fun p o e d n => x p o e d fun m => n (s p m)
theorem Pr.nr {X : List Addr} {a b : Heap} (x : Pr X a b) : NR X a b := fun p o e _ n => x p o e n
theorem same_rk {h h' : Heap} {L : Addr} {o : Obj} (hs : Heap.SameBut L h h') (e : h.get? L = some o) (hd : ∀ vs, o.data ≠ .fields vs) : RK h h' := fun b o' vs eb d => (hs.2 b fun z => by
  rw [z, e] at eb; cases eb; exact hd vs d).trans eb
theorem ExcB.rk {h₀ h h' : Heap} {e : Addr} {cls ctx : Value} {st : Option Value} (x : ExcB h₀ h e cls ctx st) (k : RK h h') : ExcB h₀ h' e cls ctx st := by
  obtain ⟨o, vs, a0, h1, h2, h3, h4, h5, h6, h7⟩ := x
  refine ⟨o, vs, a0, k _ _ _ h1 h3, h2, h3, h4, h5, h6, ?_⟩
  cases st with
  | none => exact h7
  | some f =>
    obtain ⟨T, oT, ts, t1, t2, t3, t4, t5, t6, t7⟩ := h7
    exact ⟨T, oT, ts, t1, t2, t3, k _ _ _ t4 t5, t5, t6, t7⟩
theorem FrL.data {h₀ h : Heap} {L : Addr} {l : List (Str × Value)} (F : FrL h₀ L h l) : ∃ o es n, h.get? L = Option.some o ∧ o.data = .dict es n := by
  obtain ⟨m, F, _⟩ := F.ex
  obtain ⟨o, es, ep, a, b, _⟩ := F.ns
  exact ⟨o, es, ep, a, b⟩

noncomputable def Hd (A : Around) (h : Heap) : Prop := A.handled = none ∨ ∃ e1 o vs, A.handled = some (.ref e1) ∧ h.get? e1 = some o ∧ o.data = .fields vs ∧ vs[2]? = some .none ∧ o.cls ≠ .type "traceback"
theorem Hd.rk {A : Around} {h h' : Heap} (x : Hd A h) (k : RK h h') : Hd A h' := x.elim .inl fun ⟨e1, o, vs, a, b, c, d⟩ => .inr ⟨e1, o, vs, a, k _ _ _ b c, c, d⟩
theorem Hd.xp {A : Around} {X : List Addr} {h h' : Heap} (x : Hd A h) (k : XP X h h') (n : ∀ a ∈ X, ∃ o, h.get? a = some o ∧ ∀ vs, o.data ≠ .fields vs) : Hd A h' := x.elim .inl fun ⟨e1, o, vs, a, b, c, d, f⟩ => .inr ⟨e1, o, vs, a, k _ _ b f (fun m => by
  obtain ⟨o', e', d'⟩ := n _ m
  rw [b] at e'; cases e'; exact d' _ c), c, d, f⟩
theorem Hd.in1 {A : Around} {h : Heap} (x : Hd A h) : Hd A.in1 h := x
theorem un_entry : entryFor table "proto.unchain" = some Builtin.«proto.unchain» := entryFor_of_tree (by kernel_rfl)

section
variable {α : Type} {prog : Program} {w : World} {A : Around} {E : Value → Shared → Prop} {h₀ h : Heap} {g : Array GenState} {d : Drawn} {t : Nat} {os : OsState}
theorem x_raiseNew {e : Addr} {o : Obj} {t0 : Value} {Q : α → Shared → Prop} (H : Hd A h) (he : h.get? e = some o) (hc : o.data = .fields #[t0, .none, .none, .none, .bool false, .none]) (hne : ∀ v, A.handled = some (.ref v) → v ≠ e)
    (q : ∀ h' o' ctx, Heap.SameBut e h h' → h'.get? e = some o' → o'.cls = o.cls → o'.data = .fields #[t0, .none, ctx, .none, .bool false, .none] → (A.handled = none → ctx = .none) → E (.ref e) ⟨h', g, d, t, os⟩) :
    wpAny (model prog w) A (raiseNew (.ref e) : Sem α) Q E ⟨h, g, d, t, os⟩ := by
  unfold raiseNew
  refine wpAny_bind (wpAny_handled ?_)
  rcases H with H | ⟨e1, o1, vs, H, h1, h2, h3, _⟩
  · rw [H]
    first
      | exact wpAny_throw (q h o .none (.refl _ _) he rfl hc fun _ => rfl)
      | exact wpAny_bind (wpAny_pure (wpAny_throw (q h o .none (.refl _ _) he rfl hc fun _ => rfl)))
  · rw [H]
    have n1 := hne e1 H
    dsimp -zeta only
    refine KFB.if_so (by simp [n1]) ?_
    refine wpAny_bind (wpAny_holding (wpAny_runValue (codeAny_builtin un_entry ?_)))
    unfold Builtin.«proto.unchain»
    refine wpAny_bind (wpAny_field h1 h2 h3 ?_)
    refine KFB.if_so (by decide) ?_
    refine wpAny_pure ?_
    unfold updateField
    refine wpAny_bind (wpAny_bind (wpAny_load he ?_))
    rw [hc]
    refine wpAny_ite_true (by rw [decide_eq_true_eq]; simp) ?_
    refine wpAny_update he (wpAny_throw ?_)
    refine q _ _ (.ref e1) (Heap.SameBut.update ..) (Heap.get?_update_self _ he ?_) ?_ ?_ fun z => (by rw [H] at z; cases z)
    · exact Obj.isFreed_of_fields (Obj.data_mapFields hc _)
    · exact Obj.cls_mapFields _ _
    · rw [Obj.data_mapFields hc]; rfl
theorem x_raiseWords {cls msg : String} {Q : α → Shared → Prop} (hp : PlainExc cls) (H : Hd A h) (hk : Kp h₀ h)
    (q : ∀ h' e ctx t', Kp h h' → h.get? e = none → ExcB h₀ h' e (.type cls) ctx none → (A.handled = none → ctx = .none) → E (.ref e) ⟨h', g, d, t', os⟩) :
    wpAny (model prog w) A (raiseErrorWords cls msg : Sem α) Q E ⟨h, g, d, t, os⟩ := by
  unfold raiseErrorWords
  refine wpAny_bind (wpAny_mkText (wpAny_bind ?_))
  unfold newExc newTuple
  refine wpAny_bind (wpAny_newObj_type ?_)
  refine wpAny_bind (m := firstArgMember _ _) (wpAny_of_eq (a := Value.none) (by simp only [firstArgMember, hp.first]; rfl) ?_)
  rw [hp.own]
  refine wpAny_newObj_type ?_
  have k2 : Kp h ((h.push { cls := .type "tuple", data := .seq #[.str msg t] }).push { cls := .type cls, data := .fields (#[.ref h.objs.size, .none, .none, .none, .bool false, .none] ++ #[]) }) := (Kp.push _ _).trans (Kp.push _ _)
  have he : ((h.push { cls := .type "tuple", data := .seq #[.str msg t] }).push { cls := .type cls, data := .fields (#[.ref h.objs.size, .none, .none, .none, .bool false, .none] ++ #[]) }).get? (h.push { cls := .type "tuple", data := .seq #[.str msg t] }).objs.size = some { cls := .type cls, data := .fields (#[.ref h.objs.size, .none, .none, .none, .bool false, .none] ++ #[]) } := Heap.get?_push_size _ rfl
  have hn : h.get? (h.push { cls := .type "tuple", data := .seq #[.str msg t] }).objs.size = none := none_of (new_none _) (Kp.push _ _)
  refine x_raiseNew (t0 := .ref h.objs.size) (H.rk k2.rk) he (by simp) (fun v hv z => ?_) fun h' o' ctx hs e' c' d' hcx => ?_
  · rcases H with H | ⟨e1, o1, vs, H, h1, _⟩
    · rw [H] at hv; cases hv
    · rw [H] at hv; cases hv
      rw [z, hn] at h1; cases h1
  · refine q h' _ ctx _ (fun b o e => (hs.2 b fun z => ?_).trans (k2 _ _ e)) hn ⟨o', _, .ref h.objs.size, e', c', d', rfl, rfl, none_of hn hk, rfl⟩ hcx
    rw [z, hn] at e; cases e
theorem x_getItem_out {s : Shared} {l : Addr} {items : Array Value} {k : Int} {j : Nat} {u : Tok} {Q : Value → Shared → Prop} (hkj : k = Int.ofNat j) (H : Hd A s.heap) (hk : Kp h₀ s.heap) (hl : s.heap.IsList l items) (hi : items.size ≤ j) (hz : j < 1000000)
    (q : ∀ h' e ctx t', Kp s.heap h' → s.heap.get? e = none → ExcB h₀ h' e (.type "IndexError") ctx none → (A.handled = none → ctx = .none) → E (.ref e) ⟨h', s.gens, s.drawn, t', s.os⟩) :
    wpAny (model prog w) A (getItem (.ref l) (.int k u)) Q E s := by
  have hlo : -(2 ^ 63) ≤ k := by rw [hkj]; simp only [Int.ofNat_eq_natCast]; lia
  have hhi : k < 2 ^ 63 := by rw [hkj]; simp only [Int.ofNat_eq_natCast]; lia
  obtain ⟨o, ho, hc, ne, hd⟩ := id hl
  unfold getItem
  try with_reducible refine wpAny_holding ?_
  first | refine wpAny_bind (wpAny_pure ?_) | skip
  refine wpAny_bind (wpAny_sequenceKey hl.typeIs (by decide) ?_)
  refine wpAny_bind (wpAny_callSpecial?_slot (name := Str.ofString "__getitem__") hl.typeIs slot_list_getitem
    (wpAny_call_entry slot_list_getitem hl.typeIs entry_list_getitem ?_ (args_list_getitem _ _)))
  show wpAny _ _ (Builtin.List.listSubscript? (.int k u) >>= _) _ _ s
  refine wpAny_bind (wpAny_listSubscript_int (fitsIndex_both hlo hhi) ?_)
  clear hlo hhi
  subst hkj
  show wpAny _ _ ((seqItemAt l j >>= fun r => pure (r.map (j, ·))) >>= _) _ _ s
  refine wpAny_bind (wpAny_bind (wpAny_seqItemAt ho hd (wpAny_pure ?_)))
  have hx : items[j]? = none := Array.getElem?_eq_none hi
  rw [hx]
  obtain ⟨h, g, d, t, os⟩ := s
  first
    | exact wpAny_bind (wpAny_rule (x_raiseWords plainExc_IndexError H hk q))
    | exact wpAny_bind (wpAny_rule (wpAny_bind (x_raiseWords plainExc_IndexError H hk q)))
    | exact wpAny_bind (wpAny_bind (wpAny_rule (x_raiseWords plainExc_IndexError H hk q)))
    | exact wpAny_rule (x_raiseWords plainExc_IndexError H hk q)
theorem x_item_out {value slice : Expr} {l : Addr} {vs : List Value} {x : Int} {i : Nat} {u : Tok} {Q : Value → Shared → Prop} (hx : x = (i : Int)) (H : Hd A h) (hk : Kp h₀ h) (hl : h.IsList l vs.toArray) (hi : vs.length ≤ i) (hz : i < 1000000)
    (q : ∀ h' e ctx t', Kp h h' → h.get? e = none → ExcB h₀ h' e (.type "IndexError") ctx none → (A.handled = none → ctx = .none) → E (.ref e) ⟨h', g, d, t', os⟩)
    (hs : subscripted slice false (.ref l) (.int x u) = operate [.ref l, .int x u] (getItem (.ref l) (.int x u)) := by with_unfolding_all rfl) :
    wpAny (model prog w) A (subscriptTail value slice (.ref l) (.int x u)) Q E ⟨h, g, d, t, os⟩ := by
  obtain rfl : x = Int.ofNat i := hx
  exact tail_any (Heap.IsList.typeIs (s := ⟨h, g, d, t, os⟩) hl) slot_list_getitem.lookup (x_getItem_out (s := ⟨h, g, d, t, os⟩) rfl H hk hl (by simpa using hi) hz q) hs
end
structure FS (A : Around) (env : Env) (outer : List Env) (fs : List Addr) : Prop where
  fr : A.frames = some (env :: outer)
  ef : env.frame = some env.locals
  kd : ∀ e ∈ env :: outer, e.scope.kind ≠ .module
  sm : ∀ e ∈ outer, ∃ a, e.frame = some a
  ofs : outer.filterMap (·.frame) = fs
noncomputable def OutF (hb : Heap) (fs : List Addr) (h : Heap) : Prop := ∀ a ∈ fs, ∃ o o', hb.get? a = some o ∧ h.get? a = some o' ∧ o'.data = o.data ∧ ∀ vs, o.data ≠ .fields vs
theorem OutF.at {hb : Heap} {fs : List Addr} {h : Heap} (O : OutF hb fs h) {a : Addr} (m : a ∈ fs) : ∃ o, h.get? a = some o ∧ ∀ vs, o.data ≠ .fields vs := let ⟨o, o', _, e, d, n⟩ := O a m; ⟨o', e, fun vs => d ▸ n vs⟩
theorem OutF.up {hb : Heap} {fs : List Addr} {h h' : Heap} (O : OutF hb fs h) (u : h.UpToSlots h') : OutF hb fs h' := fun a m => by
  obtain ⟨o, o', e, e', d, n⟩ := O a m
  obtain ⟨sl, e2⟩ := u a o' e' (fun vs => d ▸ n vs)
  exact ⟨o, _, e, e2, d, n⟩
theorem OutF.kp {hb : Heap} {fs : List Addr} {h h' : Heap} (O : OutF hb fs h) (k : Kp h h') : OutF hb fs h' := fun a m => let ⟨o, o', e, e', d, n⟩ := O a m; ⟨o, o', e, k _ _ e', d, n⟩
theorem OutF.pr {hb : Heap} {fs X : List Addr} {h h' : Heap} (O : OutF hb fs h) (k : Pr X h h') (nX : ∀ a ∈ fs, a ∉ X) : OutF hb fs h' := fun a m => let ⟨o, o', e, e', d, n⟩ := O a m; ⟨o, o', e, k _ _ e' (nX a m), d, n⟩
theorem OutF.ns {hb : Heap} {fs : List Addr} {h : Heap} (O : OutF hb fs h) {a : Addr} {m : Str → Option Value} (ma : a ∈ fs) (hn : hb.Ns a m) : h.Ns a m := by
  obtain ⟨o, o', e, e', d, n⟩ := O a ma
  obtain ⟨o2, es, ep, h1, h2, r⟩ := hn
  rw [e] at h1; cases h1
  exact ⟨o', es, ep, e', d.trans h2, r⟩
theorem mkFun {h : Heap} {X : List Addr} : ∀ {l : List Env}, (∀ e ∈ l, e.scope.kind ≠ .module ∧ ∃ a o, e.frame = some a ∧ a ∈ X ∧ h.get? a = some o ∧ ∀ vs, o.data ≠ .fields vs) → h.FunFrames (hideAll h X) l
  | [], _ => trivial
  | e :: r, H => by
    obtain ⟨k, a, o, f, m, g, d⟩ := H e (.head _)
    exact ⟨k, ⟨a, o, f, hideAll_none _ m, g, d⟩, mkFun fun e' m' => H e' (.tail _ m')⟩
theorem FS.fn {hb : Heap} {A : Around} {env : Env} {outer : List Env} {fs : List Addr} {h₀ h : Heap} {l : List (Str × Value)} (S : FS A env outer fs) (F : FrL h₀ env.locals h l) (O : OutF hb fs h) : h.FunFrames (hideAll h (env.locals :: fs)) (env :: outer) := by
  refine mkFun fun e m => ⟨S.kd e m, ?_⟩
  rcases List.mem_cons.mp m with rfl | m
  · obtain ⟨o, es, n, a, b⟩ := F.data
    exact ⟨_, o, S.ef, .head _, a, fun vs z => by rw [b] at z; cases z⟩
  · obtain ⟨a, ea⟩ := S.sm e m
    have ma : a ∈ fs := by rw [← S.ofs]; exact List.mem_filterMap.mpr ⟨e, m, ea⟩
    obtain ⟨o, eo, d⟩ := O.at ma
    exact ⟨a, o, ea, .tail _ ma, eo, d⟩
theorem FrL.up {h₀ h h' : Heap} {L : Addr} {l : List (Str × Value)} {X : List Addr} (F : FrL h₀ L h l) (p : Pr X h h') (u : h.UpToSlots h') (hX : ∀ a ∈ X, h₀.get? a = none) : FrL h₀ L h' l := by
  obtain ⟨m, F, e⟩ := F.ex
  refine ⟨m, ⟨u.ns F.ns, fun b o q => p b o (F.keep b o q) fun hm => ?_, F.above⟩, e⟩
  rw [hX b hm] at q; cases q

section
variable {α : Type} {prog : Program} {w : World} {A : Around} {E : Value → Shared → Prop} {hb h₀ h : Heap} {g : Array GenState} {d : Drawn} {t : Nat} {os : OsState} {env : Env} {outer : List Env} {fs : List Addr} {l : List (Str × Value)}
theorem x_note0 {e : Addr} {cls ctx : Value} {Q : Unit → Shared → Prop} (S : FS A env outer fs) (F : FrL h₀ env.locals h l) (O : OutF hb fs h) (h0 : ∀ a ∈ fs, h₀.get? a = none) (x : ExcB h₀ h e cls ctx none)
    (q : ∀ h', FrL h₀ env.locals h' l → OutF hb fs h' → Pr (e :: env.locals :: fs) h h' → h.UpToSlots h' → ExcB h₀ h' e cls ctx (some (rawInt env.locals)) → Q () ⟨h', g, d, t, os⟩) :
    wpAny (model prog w) A (noteFrame (.ref e) env) Q E ⟨h, g, d, t, os⟩ := by
  obtain ⟨o, vs, a0, e1, e2, e3, e4, e5, e6, e7⟩ := x
  dsimp only at e7
  have hfm : (env :: outer).filterMap (·.frame) = env.locals :: fs := by rw [List.filterMap_cons, S.ef]; simp only; rw [S.ofs]
  have hfn := S.fn F O
  have hsz : 2 < vs.size := (Array.getElem?_eq_some_iff.mp e5).1
  have hsz1 : 1 < vs.size := by lia
  unfold noteFrame
  simp only [S.ef]
  refine wpAny_bind (wpAny_field e1 e3 e7 ?_)
  rw [if_neg (by decide)]
  refine wpAny_bind (wpAny_frameOf_fun S.fr hfn S.ef fun h₁ hs₁ => ?_)
  rw [hfm] at hs₁
  refine wpAny_bind (wpAny_entryPlaceOf fun pl hpl => ?_)
  unfold EntryCells.newEntry newFields
  refine wpAny_bind (wpAny_newObj_type ?_ (hpl.sizeOk5 _ _ _ _ _))
  have hene : e ∉ env.locals :: fs := fun m => by
    rcases List.mem_cons.mp m with z | m
    · obtain ⟨o', es, n, a, b⟩ := F.data
      rw [z, a] at e1; cases e1; rw [b] at e3; cases e3
    · obtain ⟨o', a, b⟩ := O.at m
      rw [a] at e1; cases e1; exact b _ e3
  have he₁ : h₁.get? e = some o := (hs₁.2.1 e hene).trans e1
  generalize hT : ({ cls := .type "traceback", dict := none, data := .fields ([Value.none, .ref env.locals, .none, rawInt env.locals, .none] ++ (if pl.isEmpty then List.replicate 6 Value.none else pl)).toArray } : Obj) = oT
  obtain ⟨ts, hTd, hT3, hTc⟩ : ∃ ts, oT.data = .fields ts ∧ ts[3]? = some (rawInt env.locals) ∧ oT.cls = .type "traceback" := by
    rw [← hT]
    exact ⟨_, rfl, by first | (simp; done) | (rcases hpl with rfl | ⟨_, _, _, _, _, _, _, rfl⟩ <;> simp), rfl⟩
  have he₂ : (h₁.push oT).get? e = some o := Heap.get?_push_of_some _ he₁
  refine wpAny_setField he₂ e3 hsz1 ?_
  have hTe : h₁.objs.size ≠ e := Nat.ne_of_gt (Heap.lt_size he₁)
  have hd₃ := Obj.data_mapFields e3 (·.setIfInBounds 1 (Value.ref h₁.objs.size))
  have he₃ := Heap.get?_update_self (Obj.mapFields (·.setIfInBounds 1 (Value.ref h₁.objs.size))) he₂ (Obj.isFreed_of_fields hd₃)
  have hTf : oT.isFreed = false := by rw [← hT]; rfl
  have hT₃ : ((h₁.push oT).update e (Obj.mapFields (·.setIfInBounds 1 (Value.ref h₁.objs.size)))).get? h₁.objs.size = some oT := (Heap.get?_update_other _ _ (Ne.symm hTe)).trans (Heap.get?_push_size h₁ hTf)
  have keep : ∀ b ob, b ≠ e → h₁.get? b = some ob → ((h₁.push oT).update e (Obj.mapFields (·.setIfInBounds 1 (Value.ref h₁.objs.size)))).get? b = some ob := fun b ob hbe hb => by
    rw [Heap.get?_update_other _ _ (Ne.symm hbe)]
    exact Heap.get?_push_of_some _ hb
  have hP : Pr (e :: env.locals :: fs) h ((h₁.push oT).update e (Obj.mapFields (·.setIfInBounds 1 (Value.ref h₁.objs.size)))) := fun b ob eb n => keep b ob (fun z => n (z ▸ .head _)) ((hs₁.2.1 b fun m => n (.tail _ m)).trans eb)
  have hU : h.UpToSlots ((h₁.push oT).update e (Obj.mapFields (·.setIfInBounds 1 (Value.ref h₁.objs.size)))) := fun b ob eb hd => by
    obtain ⟨sl, es⟩ := hs₁.2.2 b ob eb
    exact ⟨sl, keep b _ (fun z => by rw [z, e1] at eb; cases eb; exact hd _ e3) es⟩
  have hX : ∀ a ∈ e :: env.locals :: fs, h₀.get? a = none := fun a m => by
    rcases List.mem_cons.mp m with rfl | m
    · exact e6
    rcases List.mem_cons.mp m with rfl | m
    · exact F.base
    · exact h0 a m
  have F' := F.up hP hU hX
  refine q _ F' (O.up hU) hP hU ⟨_, _, a0, he₃, (Obj.cls_mapFields _ _).trans e2, hd₃, ?_, ?_, e6, h₁.objs.size, oT, ts, ?_, hTe, ?_, hT₃, hTd, hT3, hTc⟩
  · rw [Array.getElem?_setIfInBounds_ne (by decide)]; exact e4
  · rw [Array.getElem?_setIfInBounds_ne (by decide)]; exact e5
  · simp [hsz1]
  · cases z : h₀.get? h₁.objs.size with
    | none => rfl
    | some ob =>
      have b1 := F.keep _ _ z
      have b2 : h₁.get? h₁.objs.size = none := new_none h₁
      obtain ⟨sl, es⟩ := hs₁.2.2 _ _ b1
      rw [b2] at es; cases es
theorem x_note1 {e : Addr} {cls ctx : Value} {Q : Unit → Shared → Prop} (S : FS A env outer fs) (x : ExcB h₀ h e cls ctx (some (rawInt env.locals))) (q : Q () ⟨h, g, d, t, os⟩) : wpAny (model prog w) A (noteFrame (.ref e) env) Q E ⟨h, g, d, t, os⟩ := by
  obtain ⟨o, vs, a0, e1, e2, e3, e4, e5, e6, T, oT, ts, t1, t2, t3, t4, t5, t6, t7⟩ := x
  unfold noteFrame
  simp only [S.ef]
  refine wpAny_bind (wpAny_field e1 e3 t1 ?_)
  rw [if_pos (show (Value.ref T != Value.none) = true from by simp)]
  refine wpAny_bind (wpAny_field t4 t5 t6 ?_)
  rw [if_pos (show (rawInt env.locals == rawInt env.locals) = true from by simp)]
  exact wpAny_pure q
theorem x_flight {e : Addr} {cls ctx f : Value} {fr : Option Addr} {Q : Unit → Shared → Prop} (F : FrL h₀ env.locals h l) (O : OutF hb fs h) (x : ExcB h₀ h e cls ctx (some f))
    (q : ∀ h' T, FrL h₀ env.locals h' l → OutF hb fs h' → h₀.get? T = none → Pr [T] h h' → XP [] h h' → T ≠ e → ExcB h₀ h' e cls ctx (some (fr.elim .none fun f => rawInt f)) → Q () ⟨h', g, d, t, os⟩) : wpAny (model prog w) A (setFlight (.ref e) fr) Q E ⟨h, g, d, t, os⟩ := by
  obtain ⟨o, vs, a0, e1, e2, e3, e4, e5, e6, T, oT, ts, t1, t2, t3, t4, t5, t6, t7⟩ := x
  have hsz3 : 3 < ts.size := (Array.getElem?_eq_some_iff.mp t6).1
  unfold setFlight
  refine wpAny_bind (wpAny_field e1 e3 t1 ?_)
  rw [if_pos (show (Value.ref T != Value.none) = true from by simp)]
  refine wpAny_setField t4 t5 hsz3 ?_
  have other : ∀ b, b ≠ T → (h.update T (Obj.mapFields (·.setIfInBounds 3 (fr.elim Value.none fun f => rawInt f)))).get? b = h.get? b := fun b hb => Heap.get?_update_other _ _ (Ne.symm hb)
  have hP : Pr [T] h (h.update T (Obj.mapFields (·.setIfInBounds 3 (fr.elim Value.none fun f => rawInt f)))) := fun b ob eb n => (other b fun z => n (z ▸ .head _)).trans eb
  have hN : XP [] h (h.update T (Obj.mapFields (·.setIfInBounds 3 (fr.elim Value.none fun f => rawInt f)))) := fun b ob eb hd _ => (other b fun z => by rw [z, t4] at eb; cases eb; exact hd t7).trans eb
  have nL : env.locals ∉ [T] := fun m => by
    obtain ⟨o', es, n, a, b⟩ := F.data
    rw [List.mem_singleton.mp m, t4] at a; cases a; rw [t5] at b; cases b
  refine q _ T (F.pr hP nL fun a m => by rw [List.mem_singleton.mp m]; exact t3) (fun a m => ?_) t3 hP hN t2 ⟨o, vs, a0, (other e (Ne.symm t2)).trans e1, e2, e3, e4, e5, e6, T, _, _, t1, t2, t3, Heap.get?_update_self _ t4 (Obj.isFreed_of_fields (Obj.data_mapFields t5 _)), Obj.data_mapFields t5 _, by simp [hsz3], (Obj.cls_mapFields _ _).trans t7⟩
  obtain ⟨o1, ob, eo, eb, hdd, hd⟩ := O a m
  exact ⟨o1, ob, eo, (other a fun z => by rw [z, t4] at eb; cases eb; exact hd _ (hdd ▸ t5)).trans eb, hdd, hd⟩
end
end

section
noncomputable def SubM (m : Str → Option Value) : List (Str × Value) → Prop
  | [] => True
  | p :: r => m p.1 = some p.2 ∧ SubM m r
theorem SubM.look {m : Str → Option Value} : ∀ {l' : List (Str × Value)}, SubM m l' → ∀ x v, l'.lookup x = some v → m x = some v
  | [], _, _, _, e => by cases e
  | p :: r, ⟨a, b⟩, x, v, e => by
    rw [List.lookup_cons] at e
    by_cases q : (x == p.1) = true
    · rw [q] at e
      have : x = p.1 := by simpa using q
      subst this
      cases e; exact a
    · have q' : (x == p.1) = false := by simpa using q
      rw [q'] at e
      exact SubM.look b x v e

section
variable {prog : Program} {w : World} {mg mb : Str → Option Value} {A : Around}
theorem enterC {R : Value → Shared → Prop} {s : Shared} {f : Addr} {name : Str} {params : Arguments} {body : List Stmt} {scope : Scope} {pm cd doc oc : Value} {od : Option Addr} {osl : Array (Option Value)} {args : List Value} (binds l : List (Str × Value))
    (G : Gd w mg mb s.heap) (hroom : A.depth < recursionLimit)
    (ho : (Mine.hd.heap_39 w.params).lookup f = some ⟨oc, od, .func (docDef name params body scope pm cd doc), osl⟩) (hcd : codeIn (Mine.hd.heap_39 w.params) cd name = true)
    (hbind : bindArgs (docDef name params body scope pm cd doc) ⟨args, []⟩ = pure binds)
    (hloc : (binds.all fun x => decide (scope.names.lookup x.1 = some .local) || (decide (scope.names.lookup x.1 = some .cell) && ((cellsFrom 0 scope.names []).lookup x.1).isSome)) = true)
    (hl : SubM (bindL (envOfC name scope s.heap.objs.size f cd).kindOf binds fun _ => none) l)
    (h : let env := envOfC name scope s.heap.objs.size f cd; ∀ h₁ t₁, FrL s.heap env.locals h₁ l → Cl s.heap.objs.size (cellsFrom (s.heap.objs.size + 1) scope.names []) h₁ (bindC env.kindOf binds fun _ => none) →
      wpAny (model prog w) (A.deeper env) (execs body env) (fun fl s' => R (match fl with | .ret v => v | _ => .none) s') NoE ⟨h₁, s.gens, s.drawn, t₁, s.os⟩)
    (hco : scope.isCoroutine = false := by rfl) (hgen : scope.isGenerator = false := by rfl) (hk : scope.kind = .function := by rfl) : codeAny (model prog w) A (.call (.ref f) ⟨args, []⟩) (RetR R) s := by
  refine call_cells_ret hroom (G.K _ _ ho) rfl G.T.nolimit (codeRec_of G.K hcd) hbind ?_ (fun h₁ tk F X => wpAny_mono (h h₁ tk ⟨_, F, hl.look⟩ X) (fun _ _ x => x) (fun _ _ x => x)) hco hgen hk
  intro x hx
  have := List.all_eq_true.mp hloc x hx
  simp only [Bool.or_eq_true, Bool.and_eq_true, decide_eq_true_eq] at this
  rcases this with a | ⟨a, b⟩
  · exact .inl a
  · refine .inr ⟨a, ?_⟩
    have e := cellsFrom_names scope.names 0 (s.heap.objs.size + 1) [] [] rfl
    cases q : (cellsFrom (s.heap.objs.size + 1) scope.names []).lookup x.1 with
    | some => rfl
    | none =>
      have n1 := List.lookup_eq_none_iff.mp q
      obtain ⟨c, hc⟩ := Option.isSome_iff_exists.mp b
      have m := mem_of_lookup hc
      have m' : x.1 ∈ (cellsFrom 0 scope.names []).map (·.1) := List.mem_map.mpr ⟨_, m, rfl⟩
      rw [e] at m'
      obtain ⟨p, hp, hpe⟩ := List.mem_map.mp m'
      have := n1 p hp
      simp [hpe] at this

end
end

section
structure Bag (h₀ h : Heap) (l : List (Addr × Obj)) : Prop where
  keep : Kp h₀ h
  has : ∀ p ∈ l, h.get? p.1 = some p.2
  new : ∀ p ∈ l, h₀.get? p.1 = none
  nodup : l.Pairwise fun p q => p.1 ≠ q.1
  wide : ∃ a o, 40 ≤ a ∧ h₀.get? a = some o
  hi : ∀ p ∈ l, 40 ≤ p.1
theorem Bag.nil (h : Heap) {a : Addr} {o : Obj} (ha : 40 ≤ a) (e : h.get? a = some o) : Bag h h [] := ⟨Kp.refl h, (fun _ m => nomatch m), (fun _ m => nomatch m), List.Pairwise.nil, ⟨a, o, ha, e⟩, (fun _ m => nomatch m)⟩
theorem Bag.size {h₀ h : Heap} {l : List (Addr × Obj)} (B : Bag h₀ h l) : 40 ≤ h.objs.size := by
  obtain ⟨a, o, ha, e⟩ := B.wide
  have := Heap.lt_size (B.keep _ _ e)
  exact Nat.le_trans ha (Nat.le_of_lt this)
theorem Bag.push {h₀ h : Heap} {l : List (Addr × Obj)} (B : Bag h₀ h l) {o : Obj} (hf : o.isFreed = false) : Bag h₀ (h.push o) ((h.objs.size, o) :: l) := by
  refine ⟨B.keep.trans (Kp.push _ _), fun p m => ?_, fun p m => ?_, .cons (fun p m => ?_) B.nodup, B.wide, fun p m => ?_⟩
  · rcases List.mem_cons.mp m with rfl | m
    · exact Heap.get?_push_size _ hf
    · exact Heap.get?_push_of_some _ (B.has p m)
  · rcases List.mem_cons.mp m with rfl | m
    · exact none_of (new_none h) B.keep
    · exact B.new p m
  · have := Heap.lt_size (B.has p m)
    exact Nat.ne_of_gt this
  · rcases List.mem_cons.mp m with rfl | m
    · exact B.size
    · exact B.hi p m
theorem Bag.kp {h₀ h h' : Heap} {l : List (Addr × Obj)} (B : Bag h₀ h l) (k : Kp h h') : Bag h₀ h' l := ⟨B.keep.trans k, fun p m => k _ _ (B.has p m), B.new, B.nodup, B.wide, B.hi⟩
theorem Bag.add {h₀ h h' : Heap} {l : List (Addr × Obj)} {a : Addr} {o : Obj} (B : Bag h₀ h l) (k : Kp h h') (n : h.get? a = none) (ha : 40 ≤ a) (e : h'.get? a = some o) : Bag h₀ h' ((a, o) :: l) := by
  refine ⟨B.keep.trans k, fun p m => ?_, fun p m => ?_, .cons (fun p m => ?_) B.nodup, B.wide, fun p m => ?_⟩
  · rcases List.mem_cons.mp m with rfl | m
    · exact e
    · exact k _ _ (B.has p m)
  · rcases List.mem_cons.mp m with rfl | m
    · exact none_of n B.keep
    · exact B.new p m
  · rintro rfl
    have := B.has p m
    rw [n] at this; cases this
  · rcases List.mem_cons.mp m with rfl | m
    · exact ha
    · exact B.hi p m
theorem Bag.get {h₀ h : Heap} {l : List (Addr × Obj)} (B : Bag h₀ h l) (i : Nat) {a : Addr} {o : Obj} (e : l[i]? = some (a, o)) : h.get? a = some o := B.has _ (List.mem_of_getElem? e)
theorem Bag.set {h₀ h h' : Heap} {l : List (Addr × Obj)} (B : Bag h₀ h l) (i : Nat) {a : Addr} {o o' : Obj} (e : l[i]? = some (a, o)) (hs : ∀ b x, b ≠ a → h.get? b = some x → h'.get? b = some x) (e' : h'.get? a = some o') : Bag h₀ h' (l.set i (a, o')) := by
  have hne : ∀ j p, l[j]? = some p → j ≠ i → p.1 ≠ a := by
    intro j p ej hj q
    have hp := List.pairwise_iff_getElem.mp B.nodup
    obtain ⟨hi1, hi2⟩ := List.getElem?_eq_some_iff.mp e
    obtain ⟨hj1, hj2⟩ := List.getElem?_eq_some_iff.mp ej
    rcases Nat.lt_or_gt_of_ne hj with h | h
    · have := hp j i hj1 hi1 h; rw [hi2, hj2] at this; exact this q
    · have := hp i j hi1 hj1 h; rw [hi2, hj2] at this; exact this q.symm
  have hi1 := (List.getElem?_eq_some_iff.mp e).1
  have hi2 := (List.getElem?_eq_some_iff.mp e).2
  refine ⟨fun b x q => ?_, fun p m => ?_, fun p m => ?_, ?_, B.wide, fun p m => ?_⟩
  · refine hs b x (fun z => ?_) (B.keep b x q)
    have := B.new _ (List.mem_of_getElem? e)
    rw [z] at q; rw [this] at q; cases q
  · obtain ⟨j, hj⟩ := List.getElem?_of_mem m
    rw [List.getElem?_set] at hj
    by_cases c : i = j
    · subst c
      rw [if_pos rfl, if_pos hi1] at hj
      cases hj; exact e'
    · rw [if_neg c] at hj
      exact hs _ _ (hne j p hj (Ne.symm c)) (B.has p (List.mem_of_getElem? hj))
  · obtain ⟨j, hj⟩ := List.getElem?_of_mem m
    rw [List.getElem?_set] at hj
    by_cases c : i = j
    · subst c
      rw [if_pos rfl, if_pos hi1] at hj
      cases hj; exact B.new (a, o) (List.mem_of_getElem? e)
    · rw [if_neg c] at hj
      exact B.new p (List.mem_of_getElem? hj)
  · rw [List.pairwise_iff_getElem]
    intro j k hj hk hjk
    have hp := List.pairwise_iff_getElem.mp B.nodup j k (by simpa using hj) (by simpa using hk) hjk
    rw [List.getElem_set, List.getElem_set]
    split <;> split
    · lia
    · rename_i c _; subst c; rw [hi2] at hp; exact hp
    · rename_i _ c; subst c; rw [hi2] at hp; exact hp
    · exact hp
  · obtain ⟨j, hj⟩ := List.getElem?_of_mem m
    rw [List.getElem?_set] at hj
    by_cases c : i = j
    · subst c
      rw [if_pos rfl, if_pos hi1] at hj
      cases hj; exact B.hi (a, o) (List.mem_of_getElem? e)
    · rw [if_neg c] at hj
      exact B.hi p (List.mem_of_getElem? hj)

section
variable {M : Model} {A : Around} {E : Value → Shared → Prop} {h₀ h : Heap} {g : Array GenState} {d : Drawn} {t : Nat} {os : OsState} {l : List (Addr × Obj)}
theorem b_alloc {o : Obj} {Q : Addr → Shared → Prop} (B : Bag h₀ h l) (hf : o.isFreed = false) (q : ∀ a h', Bag h₀ h' ((a, o) :: l) → Q a ⟨h', g, d, t, os⟩) : wpAny M A (alloc o) Q E ⟨h, g, d, t, os⟩ := wpAny_alloc (q _ _ (B.push hf))
theorem b_load {a : Addr} {o : Obj} {Q : Obj → Shared → Prop} (B : Bag h₀ h l) (i : Nat) (e : l[i]? = some (a, o)) (q : Q o ⟨h, g, d, t, os⟩) : wpAny M A (load a) Q E ⟨h, g, d, t, os⟩ := wpAny_load (B.get i e) q
theorem b_loadPart {a : Addr} {part : Option Value} {o : Obj} {Q : Obj → Shared → Prop} (B : Bag h₀ h l) (i : Nat) (e : l[i]? = some (a, o)) (q : Q o ⟨h, g, d, t, os⟩) : wpAny M A (loadPart a part) Q E ⟨h, g, d, t, os⟩ := wpAny_loadPart (B.get i e) q
theorem b_updatePart {a : Addr} {part : Option Value} {f : Obj → Obj} {o : Obj} {Q : Unit → Shared → Prop} (B : Bag h₀ h l) (i : Nat) (e : l[i]? = some (a, o)) (hf : (f o).isFreed = false)
    (q : ∀ h', Bag h₀ h' (l.set i (a, f o)) → Q () ⟨h', g, d, t, os⟩) : wpAny M A (updatePart a part f) Q E ⟨h, g, d, t, os⟩ :=
  wpAny_updatePart (B.get i e) (q _ (B.set i e (fun b x hb e' => ((Heap.SameBut.update (h := h) (a := a) (f := f)).2 b hb).trans e') (Heap.get?_update_self f (B.get i e) hf)))
theorem b_update {a : Addr} {f : Obj → Obj} {o : Obj} {Q : Unit → Shared → Prop} (B : Bag h₀ h l) (i : Nat) (e : l[i]? = some (a, o)) (hf : (f o).isFreed = false)
    (q : ∀ h', Bag h₀ h' (l.set i (a, f o)) → Q () ⟨h', g, d, t, os⟩) : wpAny M A (update a f) Q E ⟨h, g, d, t, os⟩ :=
  wpAny_update (B.get i e) (q _ (B.set i e (fun b x hb e' => ((Heap.SameBut.update (h := h) (a := a) (f := f)).2 b hb).trans e') (Heap.get?_update_self f (B.get i e) hf)))
end
end

section
section
variable {α : Type} {M : Model} {A : Around} {E : Value → Shared → Prop} {s : Shared} {a b : Sem α} {Q : α → Shared → Prop}
theorem y_t (h : wpAny M A a Q E s) : wpAny M A (if true = true then a else b) Q E s := by rw [if_pos rfl]; exact h
theorem y_f (h : wpAny M A b Q E s) : wpAny M A (if false = true then a else b) Q E s := by rw [if_neg (by decide)]; exact h
theorem y_nt (h : wpAny M A b Q E s) : wpAny M A (if (!true) = true then a else b) Q E s := by rw [if_neg (by decide)]; exact h
theorem y_nf (h : wpAny M A a Q E s) : wpAny M A (if (!false) = true then a else b) Q E s := by rw [if_pos (by decide)]; exact h
theorem y_sn {β : Type} {x : β} (h : wpAny M A b Q E s) : wpAny M A (if (some x).isNone = true then a else b) Q E s := by rw [if_neg (by simp)]; exact h
theorem y_ss {β : Type} {x : β} (h : wpAny M A a Q E s) : wpAny M A (if (some x).isSome = true then a else b) Q E s := by rw [if_pos (by simp)]; exact h
theorem y_nn {β : Type} (h : wpAny M A a Q E s) : wpAny M A (if (none : Option β).isNone = true then a else b) Q E s := by rw [if_pos (by simp)]; exact h
theorem y_ns {β : Type} (h : wpAny M A b Q E s) : wpAny M A (if (none : Option β).isSome = true then a else b) Q E s := by rw [if_neg (by simp)]; exact h
end
section
variable {M : Model} {A : Around} {E : Value → Shared → Prop} {h₀ h : Heap} {g : Array GenState} {d : Drawn} {t : Nat} {os : OsState} {l l' : List (Addr × Obj)}
inductive UpdB (a : Addr) (o o' : Obj) : List (Addr × Obj) → List (Addr × Obj) → Prop
  | head {l : List (Addr × Obj)} : UpdB a o o' ((a, o) :: l) ((a, o') :: l)
  | tail {p : Addr × Obj} {l l' : List (Addr × Obj)} : UpdB a o o' l l' → UpdB a o o' (p :: l) (p :: l')
theorem UpdB.at {a : Addr} {o o' : Obj} {l l' : List (Addr × Obj)} (u : UpdB a o o' l l') : ∃ i : Nat, l[i]? = some (a, o) ∧ l.set i (a, o') = l' := by
  induction u with
  | head => exact ⟨0, rfl, rfl⟩
  | @tail p l l' _ ih => obtain ⟨i, e, f⟩ := ih; exact ⟨i + 1, e, by rw [List.set_cons_succ, f]⟩
theorem y_load {a : Addr} {o : Obj} {Q : Obj → Shared → Prop} (B : Bag h₀ h l) (m : (a, o) ∈ l) (q : Q o ⟨h, g, d, t, os⟩) : wpAny M A (load a) Q E ⟨h, g, d, t, os⟩ := wpAny_load (B.has _ m) q
theorem y_loadPart {a : Addr} {part : Option Value} {o : Obj} {Q : Obj → Shared → Prop} (B : Bag h₀ h l) (m : (a, o) ∈ l) (q : Q o ⟨h, g, d, t, os⟩) : wpAny M A (loadPart a part) Q E ⟨h, g, d, t, os⟩ := wpAny_loadPart (B.has _ m) q
theorem y_updatePart {a : Addr} {part : Option Value} {f : Obj → Obj} {o : Obj} {Q : Unit → Shared → Prop} (B : Bag h₀ h l) (u : UpdB a o (f o) l l') (hf : (f o).isFreed = false)
    (q : ∀ h', Bag h₀ h' l' → Q () ⟨h', g, d, t, os⟩) : wpAny M A (updatePart a part f) Q E ⟨h, g, d, t, os⟩ := by
  obtain ⟨i, e, rfl⟩ := u.at
  exact b_updatePart B i e hf q
theorem y_update {a : Addr} {f : Obj → Obj} {o : Obj} {Q : Unit → Shared → Prop} (B : Bag h₀ h l) (u : UpdB a o (f o) l l') (hf : (f o).isFreed = false)
    (q : ∀ h', Bag h₀ h' l' → Q () ⟨h', g, d, t, os⟩) : wpAny M A (update a f) Q E ⟨h, g, d, t, os⟩ := by
  obtain ⟨i, e, rfl⟩ := u.at
  exact b_update B i e hf q
theorem y_mkText {x : Str} {Q : Value → Shared → Prop} (hq : ∀ u t', Q (.str x u) ⟨h, g, d, t', os⟩) : wpAny M A (mkText x) Q E ⟨h, g, d, t, os⟩ := wpAny_mkText (hq _ _)
end


theorem ty_object : typeOf (.type "object") = pure (.type "type") := by kernel_rfl
theorem ty_type : typeOf (.type "type") = pure (.type "type") := by kernel_rfl
theorem sub_type_type : isSubtype (.type "type") (.type "type") = pure true := by rw [isSubtype_type]; kernel_rfl

section
variable {prog : Program} {w : World} {mg mb : Str → Option Value} {A : Around} {E : Value → Shared → Prop} {h₀ h : Heap} {g : Array GenState} {d : Drawn} {t : Nat} {os : OsState} {l : List (Addr × Obj)} {env : Env}
theorem b_newTuple {vs : List Value} {Q : Value → Shared → Prop} (B : Bag h₀ h l) (hz : vs.length ≤ 1000000) (q : ∀ a h', Bag h₀ h' ((a, ⟨.type "tuple", none, .seq vs.toArray 0, #[]⟩) :: l) → Q (.ref a) ⟨h', g, d, t, os⟩) :
    wpAny (model prog w) A (newTuple vs) Q E ⟨h, g, d, t, os⟩ := by
  refine wpAny_newObj_type (q _ _ (B.push rfl)) ?_
  show vs.toArray.size ≤ sizeLine
  rw [sizeLine_eq, List.size_toArray]; lia
theorem getQ {s : Shared} {K : Frag} {c mc : Value} {name : Str} {r : CFound} {Q : Option Value → Shared → Prop} {hook : Option Value} (X : K.In s.heap) (ho : Looks (model prog w) s.heap (opaqueClassAbove c) none) (ht : Looks (model prog w) s.heap (typeOf c) mc)
    (hga : findIn K mc "__getattribute__" = some (some (.builtin "type.__getattribute__"))) (hb : Looks (model prog w) s.heap (hookBefore mc) hook) (hi : subIn K mc (.type "type") = some true) (e : findCls K c mc name = some r)
    (h : wpAny (model prog w) A.in1 r.run (fun fin s' => match fin with | .done (.ret v) => wpAny (model prog w) A (handedOut v) (fun v => Q (some v)) (fun _ _ => False) s' | _ => False) (fun _ _ => False) { s with toks := s.toks + 1 }) :
    wpAny (model prog w) A (getAttr? c name) Q E s := by
  refine wpAny_bind (wpAny_mkText (wpAny_bind (wpAny_attempt (wpAny_holding (wpAny_bind (ht _ _ _ _ (fun _ _ e => e) (wpAny_bind (looks_findIn X hga _ _ _ _ (fun _ _ e => e) ?_))))))))
  dsimp only
  rw [show (onTheHeap mc && Value.builtin "type.__getattribute__" == Value.builtin "object.__getattribute__") = false from by rw [show (Value.builtin "type.__getattribute__" == Value.builtin "object.__getattribute__") = false from by decide +kernel, Bool.and_false], if_neg (by decide)]
  refine wpAny_bind (hb _ _ _ _ (fun _ _ e => e) (wpAny_bind (wpAny_attempt (wpAny_holding ?_))))
  unfold callGetattribute
  rw [show (false && onTheHeap (Value.builtin "type.__getattribute__")) = false from rfl, if_neg (by decide)]
  unfold boundAndCalled
  rw [KF.slot_tga.bind]
  refine wpAny_bind (wpAny_pure ?_)
  show wpAny _ _ (call (.builtin "type.__getattribute__") [c, .str name s.toks]) _ _ _
  refine wpAny_call ?_
  refine codeAny_call_builtin KF.slot_tga.plain KF.entry_tga ?_
  refine @check_slot (model prog w) _ _ { s with toks := s.toks + 1 } "type.__getattribute__" "type" "__getattribute__" c [.str name s.toks] [] _ (by decide +kernel) (by decide +kernel) (ht.andThen (looks_subIn X hi)) (KF.args_tga c (.str name s.toks)) ?_
  refine tga_run (s := { s with toks := s.toks + 1 }) X ho ht e (wpAny_mono h (fun fin s' z => ?_) fun _ _ z => z.elim)
  rcases fin with (_ | _ | _ | _) | _ <;> first | exact z.elim | skip
  exact wpAny_mono z (fun v s'' q => wpAny_pure q) fun _ _ f => f.elim

noncomputable def prepO : Obj := { cls := .type "builtin_function_or_method", data := .fields #[.builtin "type.__prepare__", .type "type"] }
theorem type_prep : typeOf (.builtin "type.__prepare__") = pure (.type "classmethod_descriptor") := by show builtinType _ = _; rw [builtinType_eq_fast]; kernel_rfl
theorem owner_prep : (kfb_private% "ownerAndName") "type.__prepare__" = ("type", "__prepare__") := by first | decide +kernel | kernel_rfl
theorem run_prep {M : Model} {P : Fin → Shared → Prop} (B : Bag h₀ h l) (q : ∀ a h', Bag h₀ h' ((a, prepO) :: l) → P (.done (.ret (.ref a))) ⟨h', g, d, t, os⟩) :
    wpAny M A (Builtin.«classmethod_descriptor.__get__» ⟨[.builtin "type.__prepare__", .none, .type "type"], []⟩) P E ⟨h, g, d, t, os⟩ := by
  unfold Builtin.«classmethod_descriptor.__get__»
  refine wpAny_bind (wpAny_of_eq (a := (.builtin "type.__prepare__", none, some (.type "type"))) (by first | rfl | kernel_rfl) ?_)
  simp only [owner_prep]
  refine wpAny_bind (wpAny_of_eq (a := .type "type") rfl ?_)
  refine wpAny_bind (wpAny_of_eq (a := true) rfl ?_)
  refine y_nt ?_
  refine wpAny_bind (wpAny_of_eq (a := true) sub_type_type ?_)
  refine y_nt ?_
  exact wpAny_bind (wpAny_newObj_type (wpAny_pure (q _ _ (B.push rfl))))
theorem prep_ok {Q : Option Value → Shared → Prop} (G : Gd w mg mb h) (B : Bag h₀ h l) (q : ∀ a h' t', Bag h₀ h' ((a, prepO) :: l) → Q (some (.ref a)) ⟨h', g, d, t', os⟩) :
   wpAny (model prog w) A (getAttr? (.type "type") (Str.ofString "__prepare__")) Q E ⟨h, g, d, t, os⟩ := by
  have hstub : opaqueClassAbove (.type "type") = pure none := by unfold opaqueClassAbove; dsimp only; rw [show Manifest.isStub "type" = false by decide +kernel]; rfl
  refine getQ (s := ⟨h, g, d, t, os⟩) (r := .get (.builtin "classmethod_descriptor.__get__") (.builtin "type.__prepare__") .none (.type "type")) G.K (Looks.of_pure hstub) (Looks.of_pure ty_type) type_tga (looks_hook G.K (r := none) (by rfl)) (by show subIn _ _ _ = _; rfl) (by k_is) ?_
  show wpAny _ _ (holding [.builtin "type.__prepare__"] (call (.builtin "classmethod_descriptor.__get__") [.builtin "type.__prepare__", .none, .type "type"]) >>= fun v => ret v) _ _ _
  refine wpAny_bind (wpAny_holding (wpAny_call_entry KFB.slot_get type_prep KFB.entry_get (run_prep B fun a h' B' => ⟨_, rfl, wpAny_pure (wpAny_pure (q a h' _ B'))⟩) (KFB.args_get _ _ _)))
end
end

section
noncomputable def EntB (e : DictEntry) (p : Str × Value) : Prop := (∃ t, e.key = .str p.1 t) ∧ e.val = p.2
noncomputable abbrev NsB (es : List DictEntry) (l : List (Str × Value)) : Prop := All2 EntB es l
noncomputable def putV (name : Str) (v : Value) : List (Str × Value) → List (Str × Value)
  | [] => [(name, v)]
  | p :: r => if p.1 == name then (p.1, v) :: r else p :: putV name v r
noncomputable def delV (name : Str) : List (Str × Value) → List (Str × Value)
  | [] => []
  | p :: r => if p.1 == name then r else p :: delV name r
theorem isStr_str (s name : Str) (t : Tok) : (Value.str s t).isStr name = (s == name) := rfl
theorem putL_nsB {name : Str} {hsh : Int} {t : Tok} {v : Value} {es : List DictEntry} {l : List (Str × Value)} (h : NsB es l) : NsB (putL name hsh (.str name t) v es) (putV name v l) := by
  induction h with
  | nil => exact .cons ⟨⟨t, rfl⟩, rfl⟩ .nil
  | @cons e p es l he r ih =>
    obtain ⟨⟨u, hk⟩, hv⟩ := he
    unfold putL putV
    rw [hk, isStr_str]
    cases p.1 == name with
    | true => exact .cons ⟨⟨u, by simp⟩, rfl⟩ r
    | false => exact .cons ⟨⟨u, hk⟩, hv⟩ ih
theorem find_nsB {name : Str} {es : List DictEntry} {l : List (Str × Value)} (h : NsB es l) : (es.find? (·.key.isStr name)).map (·.val) = l.lookup name := by
  induction h with
  | nil => rfl
  | @cons e p es l he r ih =>
    obtain ⟨⟨u, hk⟩, hv⟩ := he
    obtain ⟨pn, pv⟩ := p
    simp only at hk hv
    rw [List.lookup_cons, List.find?_cons, hk, isStr_str]
    have : (name == pn) = (pn == name) := by rw [Bool.eq_iff_iff, beq_iff_eq, beq_iff_eq]; exact eq_comm
    rw [this]
    cases pn == name with
    | true => simp [hv]
    | false => exact ih
theorem noRef_nsB {es : List DictEntry} {l : List (Str × Value)} (h : NsB es l) : es.any (·.refKey) = false := by
  induction h with
  | nil => rfl
  | @cons e p es l he r ih =>
    obtain ⟨⟨u, hk⟩, hv⟩ := he
    rw [List.any_cons, ih]
    unfold DictEntry.refKey
    rw [hk]; rfl
theorem look_nsB {name : Str} {n : Nat} {es : List DictEntry} {l : List (Str × Value)} (h : NsB es l) : nsLook name (dictOf es n) = pure (l.lookup name) := by
  rw [nsLook_eq]
  unfold nsLookByArray dictOf
  simp only
  rw [List.find?_toArray, ← find_nsB h]
  have := noRef_nsB h
  cases es.find? (·.key.isStr name) with
  | some e => rfl
  | none => simp [this]
theorem may_nsB {name : Str} {es : List DictEntry} {l : List (Str × Value)} (h : NsB es l) : aRefKeyMayBeTheName name es.toArray = false := by
  rw [aRefKeyMayBeTheName_at]
  have := noRef_nsB h
  simp [this]
theorem has_nsB {name : Str} {n : Nat} {es : List DictEntry} {l : List (Str × Value)} (h : NsB es l) : nsHas name (dictOf es n) = pure (l.lookup name).isSome := by
  rw [nsHas_eq]
  unfold nsHasByArray dictOf
  simp only
  have h1 := find_nsB (name := name) h
  have h2 := noRef_nsB h
  rw [← h1, List.any_toArray, List.any_toArray, h2]
  have : es.any (·.key.isStr name) = (es.find? (·.key.isStr name)).isSome := by rw [Bool.eq_iff_iff]; simp
  rw [this]
  cases es.find? (·.key.isStr name) <;> rfl
theorem drop_nsB {name : Str} {n : Nat} {es : List DictEntry} {l : List (Str × Value)} (h : NsB es l) : ∃ es' n', Obj.dropName name (dictOf es n) = dictOf es' n' ∧ NsB es' (delV name l) := by
  have key : (∃ es', nsDropIn name.cps.size name.cps.toList es = some es' ∧ NsB es' (delV name l)) ∨ (nsDropIn name.cps.size name.cps.toList es = none ∧ NsB es (delV name l)) := by
    induction h with
    | nil => exact .inr ⟨rfl, .nil⟩
    | @cons e p es l he r ih =>
      unfold nsDropIn delV
      rw [Value.isStrByCps_eq]
      obtain ⟨⟨u, hk⟩, hv⟩ := he
      rw [hk, isStr_str]
      cases p.1 == name with
      | true => exact .inl ⟨_, rfl, r⟩
      | false =>
        rcases ih with ⟨es', e1, e2⟩ | ⟨e1, e2⟩
        · exact .inl ⟨e :: es', by simp [e1], .cons ⟨⟨u, hk⟩, hv⟩ e2⟩
        · exact .inr ⟨by simp [e1], .cons ⟨⟨u, hk⟩, hv⟩ e2⟩
  unfold Obj.dropName dictOf
  simp only
  rcases key with ⟨es', e1, e2⟩ | ⟨e1, e2⟩
  · refine ⟨es', n + 1, ?_, e2⟩
    rw [e1]
  · refine ⟨es, n, ?_, e2⟩
    rw [e1]

theorem y_ask {M : Model} {A : Around} {E : Value → Shared → Prop} {s : Shared} {Q : Setting → Shared → Prop} (q : Q ⟨M.prog, M.w.params⟩ s) : wpAny M A ask Q E s := fun _ _ _ => q
noncomputable def UpdG (a : Addr) (o : Obj) (l : List (Addr × Obj)) (f : Obj → List (Addr × Obj)) : Prop := ∀ o', UpdB a o o' l (f o')
theorem UpdG.mem {a : Addr} {o : Obj} {l : List (Addr × Obj)} {f : Obj → List (Addr × Obj)} (u : UpdG a o l f) : (a, o) ∈ l := by
  obtain ⟨i, e, _⟩ := (u o).at
  exact List.mem_of_getElem? e

theorem UpdG.mem' {a : Addr} {o : Obj} {l : List (Addr × Obj)} {f : Obj → List (Addr × Obj)} (u : UpdG a o l f) (o' : Obj) : (a, o') ∈ f o' := by
  obtain ⟨i, e, e'⟩ := (u o').at
  rw [← e']
  exact List.mem_of_getElem? (by rw [List.getElem?_set_self]; exact (List.getElem?_eq_some_iff.mp e).1)
section
variable {M : Model} {A : Around} {E : Value → Shared → Prop} {h₀ h : Heap} {g : Array GenState} {d : Drawn} {t : Nat} {os : OsState} {l : List (Addr × Obj)} {a : Addr} {es : List DictEntry} {n : Nat} {name : Str} {v : Value} {ls : List (Str × Value)} {f : Obj → List (Addr × Obj)}
theorem n_get {Q : Option Value → Shared → Prop} (B : Bag h₀ h l) (N : NsB es ls) (m : (a, dictOf es n) ∈ l) (q : Q (ls.lookup name) ⟨h, g, d, t, os⟩) : wpAny M A (nsGet a name) Q E ⟨h, g, d, t, os⟩ := by
  unfold nsGet
  exact wpAny_bind (wpAny_loadPart (B.has _ m) (wpAny_of_eq (look_nsB N) q))
theorem n_set {Q : Unit → Shared → Prop} (B : Bag h₀ h l) (N : NsB es ls) (u : UpdG a (dictOf es n) l f) (q : ∀ es' n' h' t', Bag h₀ h' (f (dictOf es' n')) → NsB es' (putV name v ls) → Q () ⟨h', g, d, t', os⟩) : wpAny M A (nsSet a name v) Q E ⟨h, g, d, t, os⟩ := by
  unfold nsSet strHash
  refine wpAny_bind (wpAny_bind (y_ask (wpAny_pure ?_)))
  refine wpAny_bind (y_mkText fun k t' => ?_)
  refine wpAny_bind (wpAny_loadPart (B.has _ u.mem) ?_)
  dsimp only [dictOf]
  rw [may_nsB N]
  refine y_f ?_
  generalize (if name.cps.isEmpty = true then (0 : Int) else reduceHash (M.w.params.strHash name.cps)) = hsh
  refine y_updatePart B (o := dictOf es n) (l' := f (dictOf (putL name hsh (.str name k) v es) (putN name es n))) ?_ ?_ fun h' B' => q _ _ h' _ B' (putL_nsB N)
  · rw [putName_dict]; exact u _
  · rw [putName_dict]; rfl
theorem n_del {Q : Bool → Shared → Prop} (B : Bag h₀ h l) (N : NsB es ls) (u : UpdG a (dictOf es n) l f) (hs : (ls.lookup name).isSome = true) (q : ∀ es' n' h', Bag h₀ h' (f (dictOf es' n')) → NsB es' (delV name ls) → Q true ⟨h', g, d, t, os⟩) : wpAny M A (nsDel a name) Q E ⟨h, g, d, t, os⟩ := by
  unfold nsDel
  refine wpAny_bind (wpAny_loadPart (B.has _ u.mem) ?_)
  refine wpAny_bind (wpAny_of_eq (has_nsB N) ?_)
  rw [hs]
  refine y_t ?_
  obtain ⟨es', n', e, N'⟩ := drop_nsB (name := name) (n := n) N
  refine wpAny_bind (y_updatePart B (o := dictOf es n) (l' := f (dictOf es' n')) ?_ ?_ fun h' B' => wpAny_pure (q _ _ h' B' N'))
  · rw [e]; exact u _
  · rw [e]; rfl
theorem n_del0 {Q : Bool → Shared → Prop} (B : Bag h₀ h l) (N : NsB es ls) (m : (a, dictOf es n) ∈ l) (hs : ls.lookup name = none) (q : Q false ⟨h, g, d, t, os⟩) : wpAny M A (nsDel a name) Q E ⟨h, g, d, t, os⟩ := by
  unfold nsDel
  refine wpAny_bind (wpAny_loadPart (B.has _ m) ?_)
  refine wpAny_bind (wpAny_of_eq (has_nsB N) ?_)
  rw [hs]
  exact y_f (wpAny_pure q)
end
end

section
section
variable {prog : Program} {w : World} {mg mb : Str → Option Value} {A : Around} {E : Value → Shared → Prop} {h₀ h : Heap} {g : Array GenState} {d : Drawn} {t : Nat} {os : OsState} {l : List (Addr × Obj)} {env : Env}

theorem entry_prep : entryFor table "type.__prepare__" = some Builtin.«type.__prepare__» := entryFor_of_tree (by kernel_rfl)
theorem quiet_prep {as : Args} : (Code.builtin "type.__prepare__" as).quiet = true := Code.quiet_builtin _ (by decide +kernel)
theorem check_prep {x : Str} {u : Tok} {b : Addr} : checkBoundCall "type.__prepare__" ⟨[.type "type", .str x u, .ref b], []⟩ = pure () := by first | kernel_rfl | rfl
theorem prepC {x : Addr} {n : Str} {u : Tok} {b : Addr} {Q : Value → Shared → Prop} (ho : h.get? x = some prepO) (B : Bag h₀ h l) (q : ∀ a h', Bag h₀ h' ((a, dictOf [] 0) :: l) → Q (.ref a) ⟨h', g, d, t, os⟩) :
    wpAny (model prog w) A (call (.ref x) [.str n u, .ref b]) Q E ⟨h, g, d, t, os⟩ := by
  refine wpAny_call (codeAny_of_tree ?_)
  show wpAny _ A.in1 (callAny (.ref x) ⟨[.str n u, .ref b], []⟩) _ _ _
  simp only [callAny]
  refine wpAny_bind (wpAny_load ho ?_)
  simp only [prepO, show (Value.type "builtin_function_or_method" == Value.type "method" || Value.type "builtin_function_or_method" == Value.type "builtin_function_or_method" || Value.type "builtin_function_or_method" == Value.type "method-wrapper") = true by decide, if_true]
  refine KFB.if_so (by decide) ?_
  refine wpAny_bind (wpAny_of_eq (a := ()) check_prep ?_)
  refine wpAny_bind (wpAny_pure (wpAny_pure ?_))
  refine ⟨quiet_prep, codeAny_builtin entry_prep ?_⟩
  unfold Builtin.«type.__prepare__»
  refine wpAny_bind ?_
  unfold newDict
  exact wpAny_newObj_type (wpAny_pure (q _ _ (B.push rfl)))

theorem get_dict : typeLookup (.type "dict") (Str.ofString "__getitem__") = pure (some (.builtin "dict.__getitem__")) := by rw [typeLookup_type, builtinLookup_eq_fast]; kernel_rfl

noncomputable def CodeO (o : Obj) (P : Addr) (q : Str) : Prop :=
  ∃ vs file tf flags tg inF text tt tq, o.cls = .type "code" ∧ o.data = .fields vs ∧ vs[11]? = some (.ref P) ∧ vs.getD 11 .none = .ref P ∧ vs.getD 18 .none = .str file tf ∧
    vs.getD 7 .none = .int flags tg ∧ vs.getD 9 .none = .bool inF ∧ vs.getD 10 .none = .int text tt ∧ vs[1]? = some (.str q tq)
theorem CodeO.hd {h : Heap} {c P : Addr} {o : Obj} {q : Str} (x : CodeO o P q) (e : h.get? c = some o) (n : c ≠ P) : CodeHd h c P :=
  let ⟨vs, file, tf, flags, tg, inF, text, tt, _, a1, a2, a3, a4, a5, a6, a7, a8, _⟩ := x
  ⟨o, vs, file, tf, flags, tg, inF, text, tt, e, a1, a2, a3, a4, a5, a6, a7, a8, n⟩
theorem CodeO.rc {h : Heap} {c P : Addr} {o : Obj} {q : Str} (x : CodeO o P q) (e : h.get? c = some o) : h.CodeRec (.ref c) q :=
  let ⟨vs, _, _, _, _, _, _, _, tq, _, a2, _, _, _, _, _, _, a9⟩ := x
  ⟨c, o, vs, tq, rfl, e, a2, a9⟩
theorem b_newCode {ctx : CodeContext} {name qualname : Str} {firstLine argc posonly kwonly flags : Nat} {free : List Str} {isFunction : Bool} {Q : Value → Shared → Prop} (B : Bag h₀ h l)
    (q : ∀ c P oc h' t', Bag h₀ h' ((c, oc) :: (P, tabObj #[]) :: l) → CodeO oc P qualname → Q (.ref c) ⟨h', g, d, t', os⟩) :
    wpAny (model prog w) A (newCode ctx name qualname firstLine argc posonly kwonly flags free isFunction none none none) Q E ⟨h, g, d, t, os⟩ := by
  unfold newCode
  refine wpAny_bind (wpAny_mkText (wpAny_bind (wpAny_mkText (wpAny_bind (wpAny_mkText (wpAny_bind (wpAny_mkStrs fun fs =>
    wpAny_bind (wpAny_newObjAsIs_type (wpAny_bind (wpAny_alloc ?_))))))))))
  refine wpAny_bind (wpAny_pure (wpAny_bind (wpAny_pure (wpAny_bind (wpAny_pure (wpAny_bind (wpAny_fresh (wpAny_bind (wpAny_mkText (wpAny_newObj_type ?_ (by size_fits)))))))))))
  have B2 := (B.kp (Kp.push h { cls := .type "tuple", dict := none, data := .seq fs.toArray })).push (o := tabObj #[]) rfl
  exact q _ _ _ _ _ (B2.push rfl) ⟨_, _, _, _, _, _, _, _, _, rfl, rfl, rfl, rfl, rfl, rfl, rfl, rfl, rfl⟩
theorem b_classCode {env : Env} {c P : Addr} {ps : Array Value} {pos : Pos} {fl : Nat} {name qual : Str} {scope : Scope} {f : Obj → List (Addr × Obj)} {Q : Value → Shared → Prop} (hc : env.code = .ref c) (C : CodeHd h₀ c P) (B : Bag h₀ h l) (u : UpdG P (tabObj ps) l f)
    (ht : TriplesOk ps.toList) (hnf : codeAmong pos ps.toList = none)
    (q : ∀ c' P' oc h' t', Bag h₀ h' ((c', oc) :: (P', tabObj #[]) :: f (tabObj (ps ++ #[rawInt pos.line, rawInt pos.col, .ref c']))) → CodeO oc P' qual → Q (.ref c') ⟨h', g, d, t', os⟩) :
    wpAny (model prog w) A (classCode env pos fl name qual scope) Q E ⟨h, g, d, t, os⟩ := by
  obtain ⟨o, vs, file, tf, flags, tg, inF, text, tt, e1, e2, e3, e4, f3, f4, f5, f6, f7, f11⟩ := C.keeps B.keep
  unfold classCode codeAt
  rw [hc, if_neg (show ¬ ((Value.ref c == Value.none) = true) from Bool.false_ne_true)]
  refine wpAny_bind (wpAny_fieldsOf e1 e3 ?_)
  rw [f3]
  refine wpAny_bind (wpAny_fieldsOf (B.has _ u.mem) rfl ?_)
  rw [hnf, f4, f5, f6, f7]
  refine wpAny_bind (b_newCode B fun c' P' oc h' t' B' O => ?_)
  have u' : UpdG P (tabObj ps) ((c', oc) :: (P', tabObj #[]) :: l) (fun o => (c', oc) :: (P', tabObj #[]) :: f o) := fun o => .tail (.tail (u o))
  unfold updateFieldsOfTheText
  refine wpAny_bind (wpAny_bind (wpAny_load (B'.has _ u'.mem) ?_))
  have en : (Obj.mapFields (fun vs => if (codeAmong pos vs.toList).isSome = true then vs else vs ++ #[rawInt pos.line, rawInt pos.col, .ref c']) (tabObj ps)) = tabObj (ps ++ #[rawInt pos.line, rawInt pos.col, .ref c']) := by
    show (tabObj (if (codeAmong pos ps.toList).isSome = true then ps else ps ++ #[rawInt pos.line, rawInt pos.col, .ref c'])) = _
    rw [hnf]; rfl
  refine y_update B' (o := tabObj ps) (l' := (c', oc) :: (P', tabObj #[]) :: f (tabObj (ps ++ #[rawInt pos.line, rawInt pos.col, .ref c']))) ?_ ?_ fun h'' B'' => ?_
  · rw [en]; exact u' _
  · rw [en]; rfl
  have hm := u'.mem' (tabObj (ps ++ #[rawInt pos.line, rawInt pos.col, .ref c']))
  refine wpAny_bind (wpAny_fieldsOf (B''.has _ hm) rfl ?_)
  have hl : (ps ++ #[rawInt pos.line, rawInt pos.col, Value.ref c']).toList = ps.toList ++ [rawInt pos.line, rawInt pos.col, .ref c'] := by simp
  rw [hl, codeAmong_snoc _ ht hnf]
  exact wpAny_pure (q _ _ _ _ _ B'' O)
end
end

section
noncomputable def BmAt (mg : Str → Option Value) (h : Heap) : Prop := ∃ bm ob, mg (Str.ofString "__builtins__") = some (.ref bm) ∧ bm ≠ builtinsNs ∧ h.get? bm = some ob ∧ ob.cls = .type "module" ∧ ob.dict = some builtinsNs ∧ ob.data = .plain
theorem BmAt.keeps {mg : Str → Option Value} {h h' : Heap} (x : BmAt mg h) (k : Kp h h') : BmAt mg h' := let ⟨bm, ob, a, b, c, r⟩ := x; ⟨bm, ob, a, b, k _ _ c, r⟩

theorem y_for1 {α β : Type} {M : Model} {A : Around} {E : Value → Shared → Prop} {s : Shared} {a : α} {b : β} {f : α → β → Sem (ForInStep β)} {Q : β → Shared → Prop}
    (h : wpAny M A (f a b) (fun r s' => match r with | .done b => Q b s' | .yield b => Q b s') E s) : wpAny M A (forIn [a] b f) Q E s := by
  rw [List.forIn_cons]
  refine wpAny_bind (wpAny_mono h (fun r s' q => ?_) fun _ _ z => z)
  cases r with
  | done b => exact wpAny_pure q
  | yield b => show wpAny M A (forIn [] b f) Q E s'; rw [List.forIn_nil]; exact wpAny_pure q
theorem y_forC {α β : Type} {M : Model} {A : Around} {E : Value → Shared → Prop} {s : Shared} {a : α} {r : List α} {b : β} {f : α → β → Sem (ForInStep β)} {Q : β → Shared → Prop}
    (h : wpAny M A (f a b) (fun x s' => match x with | .done b => Q b s' | .yield b => wpAny M A (forIn r b f) Q E s') E s) : wpAny M A (forIn (a :: r) b f) Q E s := by
  rw [List.forIn_cons]
  refine wpAny_bind (wpAny_mono h (fun x s' q => ?_) fun _ _ z => z)
  cases x with
  | done b => exact wpAny_pure q
  | yield b => exact q
theorem y_forN {α β : Type} {M : Model} {A : Around} {E : Value → Shared → Prop} {s : Shared} {b : β} {f : α → β → Sem (ForInStep β)} {Q : β → Shared → Prop} (q : Q b s) : wpAny M A (forIn [] b f) Q E s := by
  rw [List.forIn_nil]; exact wpAny_pure q
theorem y_forA1 {α β : Type} {M : Model} {A : Around} {E : Value → Shared → Prop} {s : Shared} {a : α} {b : β} {f : α → β → Sem (ForInStep β)} {Q : β → Shared → Prop}
    (h : wpAny M A (f a b) (fun r s' => match r with | .done b => Q b s' | .yield b => Q b s') E s) : wpAny M A (forIn #[a] b f) Q E s := by
  rw [← Array.forIn_toList]
  exact y_for1 h
section
variable {prog : Program} {w : World} {mg mb : Str → Option Value} {A : Around} {E : Value → Shared → Prop} {h₀ h : Heap} {g : Array GenState} {d : Drawn} {t : Nat} {os : OsState} {l : List (Addr × Obj)} {env : Env}

theorem b_builtinsFor {running : Addr} {Q : Addr → Shared → Prop} (G : Gd w mg mb h₀) (M : BmAt mg h₀) (B : Bag h₀ h l) (q : Q builtinsNs ⟨h, g, d, t, os⟩) : wpAny (model prog w) A (builtinsFor mainGlobals running) Q E ⟨h, g, d, t, os⟩ := by
  obtain ⟨bm, ob, h1, h2, h3, h4, h5, h6⟩ := M
  exact wpAny_builtinsFor (G.T.g.keeps B.keep) h1 h2 (B.keep _ _ h3) h4 h5 h6 q
theorem b_bodyFrame {code : Value} {aN bt : Addr} {Q : Addr → Shared → Prop} (G : Gd w mg mb h₀) (B : Bag h₀ h l) (q : ∀ a o h', Bag h₀ h' ((a, o) :: l) → Q a ⟨h', g, d, t, os⟩) : wpAny (model prog w) A (newBodyFrame code mainGlobals aN bt) Q E ⟨h, g, d, t, os⟩ := by
  unfold newBodyFrame
  exact wpAny_bind (wpAny_nsGet (G.T.g.keeps B.keep) (b_alloc B rfl fun a h' B' => q a _ h' B'))
theorem b_enter {Q : Unit → Shared → Prop} (G : Gd w mg mb h₀) (hd : A.depth < recursionLimit) (B : Bag h₀ h l) (q : Q () ⟨h, g, d, t, os⟩) : wpAny (model prog w) A enterFrame Q E ⟨h, g, d, t, os⟩ := wpAny_enterFrame (G.T.nolimit.keeps B.keep) hd q

noncomputable abbrev clsEnv (scope : Scope) (aN : Addr) (qual : Str) (code : Value) (frame : Addr) (clos : List (Str × Addr)) : Env :=
  { scope := scope, locals := aN, globals := mainGlobals, cells := clos, qual := qual ++ Str.ofString ".", code := code, frame := some frame, builtins := builtinsNs }

theorem c_store {scope : Scope} {aN : Addr} {qual : Str} {code : Value} {frame : Addr} {clos : List (Str × Addr)} {x : Str} {v : Value} {es : List DictEntry} {n : Nat} {ls : List (Str × Value)} {f : Obj → List (Addr × Obj)} {Q : Unit → Shared → Prop}
    (hk : scope.kind = .class) (hx : (scope.names.lookup x = none ∧ compilersOwnNames.contains x = true) ∨ scope.names.lookup x = some .local) (B : Bag h₀ h l) (N : NsB es ls) (u : UpdG aN (dictOf es n) l f)
    (q : ∀ es' n' h' t', Bag h₀ h' (f (dictOf es' n')) → NsB es' (putV x v ls) → Q () ⟨h', g, d, t', os⟩) : wpAny (model prog w) A (storeName (clsEnv scope aN qual code frame clos) x v) Q E ⟨h, g, d, t, os⟩ := by
  have key : wpAny (model prog w) A (localSet (clsEnv scope aN qual code frame clos) x v) Q E ⟨h, g, d, t, os⟩ := by
    unfold localSet
    refine wpAny_bind (wpAny_load (B.has _ u.mem) ?_)
    rw [if_pos (show ((dictOf es n).cls == Value.type "dict") = true from rfl)]
    exact n_set B N u q
  unfold storeName
  have bk : (clsEnv scope aN qual code frame clos).blockKind = .class := by
    unfold Env.blockKind
    rw [hk]; rfl
  rcases hx with ⟨hx, hc⟩ | hx
  · have e : (clsEnv scope aN qual code frame clos).kindOf x = none := hx
    rw [e, bk]
    dsimp only
    rw [if_neg (by decide)]
    dsimp only
    rw [hk, hc]
    rw [if_neg (by simp), if_pos (by simp)]
    exact key
  · have e : (clsEnv scope aN qual code frame clos).kindOf x = some .local := hx
    rw [e, bk]
    rw [if_neg (by decide)]
    dsimp only
    rw [hk, if_pos (by simp)]
    exact key

theorem c_name {scope : Scope} {aN : Addr} {qual : Str} {code : Value} {frame : Addr} {clos : List (Str × Addr)} {v : Value} {es : List DictEntry} {n : Nat} {ls : List (Str × Value)} {Q : Value → Shared → Prop} (G : Gd w mg mb h₀)
    (hk : scope.kind = .class) (hx : scope.names.lookup (Str.ofString "__name__") = none) (B : Bag h₀ h l) (N : NsB es ls) (m : (aN, dictOf es n) ∈ l) (hl : ls.lookup (Str.ofString "__name__") = none) (hg : mg (Str.ofString "__name__") = some v)
    (q : Q v ⟨h, g, d, t, os⟩) : wpAny (model prog w) A (loadName (clsEnv scope aN qual code frame clos) (Str.ofString "__name__")) Q E ⟨h, g, d, t, os⟩ := by
  unfold loadName
  have bk : (clsEnv scope aN qual code frame clos).blockKind = .class := by
    unfold Env.blockKind
    rw [hk]; rfl
  have e : (clsEnv scope aN qual code frame clos).kindOf (Str.ofString "__name__") = none := hx
  have ea : (clsEnv scope aN qual code frame clos).scope.kind.isAnnotationScope = false := by rw [hk]; rfl
  rw [ea]
  refine wpAny_ite_false (by rfl) ?_
  rw [e, bk]
  dsimp only
  refine wpAny_ite_false (by decide +kernel) ?_
  refine wpAny_bind ?_
  unfold localGet
  refine wpAny_bind (wpAny_load (B.has _ m) ?_)
  rw [if_pos (show ((dictOf es n).cls == Value.type "dict") = true from rfl)]
  refine n_get B N m ?_
  rw [hl]
  dsimp only
  unfold loadGlobal
  refine wpAny_bind (wpAny_nsGet (G.T.g.keeps B.keep) ?_)
  rw [hg]
  exact wpAny_pure q

noncomputable def BodyPost (prog : Program) (w : World) (A : Around) (h₀ : Heap) (g : Array GenState) (d : Drawn) (os : OsState) (name : Str) (u : Tok) (aT aN : Addr) (Q : Value → Shared → Prop) (E : Value → Shared → Prop) (s' : Shared) : Prop :=
  ∃ h' t' l' es' n' ls' f', s' = (⟨h', g, d, t', os⟩ : Shared) ∧ Bag h₀ h' l' ∧ NsB es' ls' ∧ UpdG aN (dictOf es' n') l' f' ∧
    ∀ es3 n3 h3 t3 aS oS, oS.cls = .type "tuple" → Bag h₀ h3 ((aS, oS) :: f' (dictOf es3 n3)) → NsB es3 (putV (Str.ofString "__static_attributes__") (.ref aS) ls') → wpAny (model prog w) A (call (.type "type") [.str name u, .ref aT, .ref aN]) Q E ⟨h3, g, d, t3, os⟩

theorem bc_ok {name qual : Str} {body : List Stmt} {scope : Scope} {statics : List Str} {fl : Nat} {pos : Pos} {clos : List (Str × Addr)} {c P : Addr} {ps : Array Value} {f : Obj → List (Addr × Obj)} {vn : Value} {Q : Value → Shared → Prop} (G : Gd w mg mb h₀) (M : BmAt mg h₀) (B : Bag h₀ h l)
     (hd : A.depth < recursionLimit)
     (hk : scope.kind = .class) (hsc : scope.names.lookup (Str.ofString "__class__") = none) (hsd : scope.names.lookup (Str.ofString "__classdict__") = none)
     (hs1 : scope.names.lookup (Str.ofString "__name__") = none) (hs2 : scope.names.lookup (Str.ofString "__module__") = some .local) (hs3 : scope.names.lookup (Str.ofString "__qualname__") = none) (hs4 : scope.names.lookup (Str.ofString "__firstlineno__") = none)
     (hs5 : scope.names.lookup (Str.ofString "__static_attributes__") = none)
     (hg : env.globals = mainGlobals) (hcd : env.code = .ref c) (hcl : closureFor scope env = pure clos) (C : CodeHd h₀ c P) (u : UpdG P (tabObj ps) l f) (ht : TriplesOk ps.toList) (hnf : codeAmong pos ps.toList = none)
     (hn : mg (Str.ofString "__name__") = some vn)
     (q : ∀ u aT aP aN c' P' oc fr fo es n h' t' tq ti, Bag h₀ h' ((fr, fo) :: (c', oc) :: (P', tabObj #[]) :: (aN, dictOf es n) :: (aP, prepO) :: (aT, ⟨.type "tuple", none, .seq #[.type "object"] 0, #[]⟩) :: f (tabObj (ps ++ #[rawInt pos.line, rawInt pos.col, .ref c']))) →
        CodeO oc P' qual → NsB es [(Str.ofString "__module__", vn), (Str.ofString "__qualname__", .str qual tq), (Str.ofString "__firstlineno__", .int fl ti)] →
        wpAny (model prog w) A (run (.body body (clsEnv scope aN qual (.ref c') fr clos))) (fun _ s' => BodyPost prog w A h₀ g d os name u aT aN Q E s') E ⟨h', g, d, t', os⟩) :
   wpAny (model prog w) A (buildClass name qual [.type "object"] [] body scope statics fl env pos none) Q E ⟨h, g, d, t, os⟩ := by
  have f1 := ty_object
  have f3 := sub_type_type
  unfold buildClass
  refine wpAny_bind (b_newTuple B (by decide) fun aT h₁ B₁ => ?_)
  refine wpAny_bind (y_for1 ?_)
  refine wpAny_bind (m := isType (.type "object")) (wpAny_pure ?_)
  refine y_t (wpAny_ite_false (by decide) (wpAny_pure ?_))
  dsimp only [List.nil_append]
  refine wpAny_bind (wpAny_of_eq f1 ?_)
  refine wpAny_bind (wpAny_pure ?_)
  refine y_t ?_
  refine wpAny_bind (y_for1 (wpAny_bind (wpAny_of_eq f1 (wpAny_bind (wpAny_of_eq f3 (y_t (wpAny_pure ?_)))))))
  refine wpAny_bind (y_mkText fun un t₁ => ?_)
  refine y_f ?_
  refine wpAny_bind (wpAny_pure (wpAny_holding (wpAny_bind ?_)))
  refine prep_ok (G.keeps B₁.keep) B₁ fun aP h₂ t₂ B₂ => ?_
  refine wpAny_bind ?_
  refine prepC (B₂.get 0 rfl) B₂ fun aN h₃ B₃ => ?_
  dsimp only
  have hN : 40 ≤ aN := B₃.hi _ (.head _)
  refine wpAny_bind (m := notTheModulesDict _ aN) ?_
  unfold notTheModulesDict
  refine wpAny_ite_false (by rw [decide_eq_false_iff_not, beq_iff_eq]; rintro rfl; exact absurd hN (by decide)) (wpAny_pure ?_)
  refine wpAny_bind (wpAny_specialOf (T := "dict") ⟨_, B₃.has _ (.head _), rfl⟩ get_dict ?_)
  refine y_sn (wpAny_holding ?_)
  rw [hsc, hsd]
  refine wpAny_ite_false (by rfl) ?_
  refine wpAny_bind (wpAny_pure ?_)
  refine wpAny_ite_false (by rfl) ?_
  refine wpAny_bind (wpAny_pure ?_)
  refine wpAny_bind (b_classCode hcd C B₃ (f := fun o => (aN, dictOf [] 0) :: (aP, prepO) :: (aT, ⟨.type "tuple", none, .seq #[.type "object"] 0, #[]⟩) :: f o) (fun o => .tail (.tail (.tail (u o)))) ht hnf fun c' P' oc h₄ t₄ B₄ O => ?_)
  rw [hg]
  refine wpAny_bind (b_builtinsFor G M B₄ ?_)
  refine wpAny_bind (b_bodyFrame G B₄ fun fr fo h₅ B₅ => ?_)
  refine wpAny_bind (wpAny_of_eq hcl ?_)
  refine wpAny_holding (wpAny_bind (b_enter G hd B₅ ?_))
  simp only [Option.map_none, Option.toList_none, List.nil_append]
  refine wpAny_bind (wpAny_onRaise (wpAny_bind ?_))
  refine c_name G hk hs1 B₅ .nil (.tail _ (.tail _ (.tail _ (.head _)))) rfl hn ?_
  refine wpAny_bind (c_store (x := Str.ofString "__module__") hk (.inr hs2) B₅ (.nil) (n := 0) (f := fun o => (fr, fo) :: (c', oc) :: (P', tabObj #[]) :: (aN, o) :: (aP, prepO) :: (aT, ⟨.type "tuple", none, .seq #[.type "object"] 0, #[]⟩) :: f (tabObj (ps ++ #[rawInt pos.line, rawInt pos.col, .ref c']))) (fun o => .tail (.tail (.tail .head))) fun es₆ n₆ h₆ t₆ B₆ N₆ => ?_)
  refine wpAny_bind (y_mkText fun tq t₇ => ?_)
  refine wpAny_bind (c_store (x := Str.ofString "__qualname__") hk (.inl ⟨hs3, by decide +kernel⟩) B₆ N₆ (n := n₆) (f := fun o => (fr, fo) :: (c', oc) :: (P', tabObj #[]) :: (aN, o) :: (aP, prepO) :: (aT, ⟨.type "tuple", none, .seq #[.type "object"] 0, #[]⟩) :: f (tabObj (ps ++ #[rawInt pos.line, rawInt pos.col, .ref c']))) (fun o => .tail (.tail (.tail .head))) fun es₈ n₈ h₈ t₈ B₈ N₈ => ?_)
  refine wpAny_bind (wpAny_mkInt' ?_)
  refine wpAny_bind (c_store (x := Str.ofString "__firstlineno__") hk (.inl ⟨hs4, by decide +kernel⟩) B₈ N₈ (n := n₈) (f := fun o => (fr, fo) :: (c', oc) :: (P', tabObj #[]) :: (aN, o) :: (aP, prepO) :: (aT, ⟨.type "tuple", none, .seq #[.type "object"] 0, #[]⟩) :: f (tabObj (ps ++ #[rawInt pos.line, rawInt pos.col, .ref c']))) (fun o => .tail (.tail (.tail .head))) fun es₉ n₉ h₉ t₉ B₉ N₉ => ?_)
  refine wpAny_pure ?_
  refine wpAny_bind (wpAny_mono (q un aT aP aN c' P' oc fr fo es₉ n₉ h₉ t₉ tq _ B₉ O N₉) (fun _ s' z => ?_) fun _ _ z => z)
  obtain ⟨h', t', l', es', n', ls', f', rfl, B', N', u', fin⟩ := z
  refine wpAny_bind (wpAny_onRaise (wpAny_bind (wpAny_mkStrs fun vs => wpAny_bind (wpAny_newTextTuple ?_))))
  refine wpAny_bind (c_store (x := Str.ofString "__static_attributes__") hk (.inl ⟨hs5, by decide +kernel⟩) (B'.push rfl) N' (f := fun o => (_, _) :: f' o) (fun o => .tail (u' o)) fun es₃ n₃ h₃ t₃ B₃ N₃ => ?_)
  refine wpAny_pure (y_f ?_)
  exact wpAny_bind (wpAny_mono (fin es₃ n₃ h₃ t₃ _ _ rfl B₃ N₃) (fun _ _ z => wpAny_pure z) fun _ _ z => z)
end
end

section
noncomputable def RecO (o : Obj) (q : Str) : Prop := ∃ vs tq, o.data = .fields vs ∧ vs[1]? = some (.str q tq)
theorem RecO.rc {h : Heap} {c : Addr} {o : Obj} {q : Str} (x : RecO o q) (e : h.get? c = some o) : h.CodeRec (.ref c) q := let ⟨vs, tq, a, b⟩ := x; ⟨c, o, vs, tq, rfl, e, a, b⟩

section
variable {prog : Program} {w : World} {mg mb : Str → Option Value} {A : Around} {E : Value → Shared → Prop} {h₀ h : Heap} {g : Array GenState} {d : Drawn} {t : Nat} {os : OsState} {l : List (Addr × Obj)} {env : Env}

theorem b_makeFn {name qual cq : Str} {params : Arguments} {body : List Stmt} {scope : Scope} {clos : List (Str × Addr)} {pos : Pos} {fl : Nat} {c P : Addr} {oc : Obj} {ps : Array Value} {f : Obj → List (Addr × Obj)} {Q : Value → Shared → Prop} (G : Gd w mg mb h₀) (M : BmAt mg h₀) (B : Bag h₀ h l)
    (hcl : closureFor scope env = pure clos) (hge : env.globals = mainGlobals) (hcode : env.code = .ref c) (mc : (c, oc) ∈ l) (O : CodeO oc P cq) (hne : c ≠ P) (u : UpdG P (tabObj ps) l f) (ht : TriplesOk ps.toList) (hnf : codeAmong pos ps.toList = none)
    (q : ∀ fa c' o' doc ctv h' t', Bag h₀ h' ((fa, fnMade name qual params body scope clos doc ((mg "__name__").getD .none) c' ctv) :: (c', o') :: f (tabObj (ps ++ #[rawInt pos.line, rawInt pos.col, .ref c']))) → RecO o' qual → Q (.ref fa) ⟨h', g, d, t', os⟩) :
    wpAny (model prog w) A (makeFunction name qual params (.stmts body) scope env [] [] [] pos fl) Q E ⟨h, g, d, t, os⟩ := by
  obtain ⟨bm, ob, h1, h2, h3, h4, h5, h6⟩ := M
  have hP0 := B.new _ u.mem
  have hg := G.T.g
  have hgP : mainGlobals ≠ P := by
    rintro rfl
    obtain ⟨o, es, ep, ho, _⟩ := hg
    rw [hP0] at ho; cases ho
  have hbP : bm ≠ P := by
    rintro rfl
    rw [hP0] at h3; cases h3
  have hbG : bm ≠ mainGlobals := by
    rintro rfl
    obtain ⟨o, es, ep, ho, hd, _⟩ := hg
    rw [h3] at ho; cases ho
    rw [h6] at hd; cases hd
  refine makeFunction_K (s := ⟨h, g, d, t, os⟩) (mg := mg) hcl hge (hg.keeps B.keep) hcode (O.hd (B.has _ mc) hne) (B.has _ u.mem) ht hnf hgP ⟨bm, ob, h1, h2, hbG, hbP, B.keep _ _ h3, h4, h5, h6⟩ fun c' ctv doc h' tk hx hge' hlt hrec htb => ?_
  obtain ⟨c₂, o', vs, tq, e2, ho', hd', hv'⟩ := hrec
  cases e2
  obtain ⟨i, ei, el⟩ := (u (tabObj (ps ++ #[rawInt pos.line, rawInt pos.col, .ref c']))).at
  have B1 : Bag h₀ h' (f (tabObj (ps ++ #[rawInt pos.line, rawInt pos.col, .ref c']))) := by
    rw [← el]
    exact B.set i ei (fun b x hb e => hx b x hb e) htb
  have n2 : ∀ p ∈ f (tabObj (ps ++ #[rawInt pos.line, rawInt pos.col, .ref c'])), p.1 < h.objs.size := by
    intro p m
    rw [← el] at m
    rcases List.mem_or_eq_of_mem_set m with m | m
    · exact Heap.lt_size (B.has p m)
    · rw [m]; exact Heap.lt_size (B.has (P, tabObj ps) u.mem)
  have B2 : Bag h₀ h' ((c', o') :: f (tabObj (ps ++ #[rawInt pos.line, rawInt pos.col, .ref c']))) := by
    refine ⟨B1.keep, fun p m => ?_, fun p m => ?_, .cons (fun p m e => ?_) B1.nodup, B1.wide, fun p m => ?_⟩
    · rcases List.mem_cons.mp m with rfl | m
      · exact ho'
      · exact B1.has p m
    · rcases List.mem_cons.mp m with rfl | m
      · exact none_of (Heap.get?_none_of_le hge') B.keep
      · exact B1.new p m
    · have := n2 p m
      simp only at e
      rw [← e] at this
      exact absurd this (Nat.not_lt.mpr hge')
    · rcases List.mem_cons.mp m with rfl | m
      · exact Nat.le_trans B.size hge'
      · exact B1.hi p m
  exact q _ c' o' doc ctv _ tk (B2.push rfl) ⟨vs, tq, hd', hv'⟩

noncomputable def FnO (o : Obj) (name qual : Str) (params : Arguments) (body : List Stmt) (scope : Scope) (clos : List (Str × Addr)) (pm : Value) (c : Addr) : Prop := ∃ doc ctv, o = fnMade name qual params body scope clos doc pm c ctv
theorem c_def {name cq : Str} {params : Arguments} {body : List Stmt} {fscope : Scope} {fclos : List (Str × Addr)} {pos : Pos} {c P : Addr} {oc : Obj} {ps : Array Value} {f : Obj → List (Addr × Obj)} {fN : Addr → Obj → Addr → Obj → Obj → List (Addr × Obj)}
    {scope : Scope} {aN : Addr} {qual : Str} {frame : Addr} {clos : List (Str × Addr)} {es : List DictEntry} {n : Nat} {ls : List (Str × Value)} {rest : List Stmt} {Q : Flow → Shared → Prop} (G : Gd w mg mb h₀) (M : BmAt mg h₀) (B : Bag h₀ h l) (N : NsB es ls)
    (mc : (c, oc) ∈ l) (O : CodeO oc P cq) (hne : c ≠ P) (u : UpdG P (tabObj ps) l f) 
    (uN : ∀ fa oF c' o', UpdG aN (dictOf es n) ((fa, oF) :: (c', o') :: f (tabObj (ps ++ #[rawInt pos.line, rawInt pos.col, .ref c']))) (fN fa oF c' o'))
    (q : ∀ fa oF c' o' es' n' h' t', Bag h₀ h' (fN fa oF c' o' (dictOf es' n')) → NsB es' (putV name (.ref fa) ls) → FnO oF name (qualnameIn (clsEnv scope aN qual (.ref c) frame clos) name name) params body fscope fclos ((mg "__name__").getD .none) c' → RecO o' (qualnameIn (clsEnv scope aN qual (.ref c) frame clos) name name) →
      wpAny (model prog w) A (execs rest (clsEnv scope aN qual (.ref c) frame clos)) Q E ⟨h', g, d, t', os⟩)
    (hd0 : params.defaults = []) (hk0 : params.kw_defaults = []) (ha : annTrees params none (clsEnv scope aN qual (.ref c) frame clos) = [])
    (hk : scope.kind = .class) (hx : scope.names.lookup name = some .local)
    (hcl : closureFor fscope (clsEnv scope aN qual (.ref c) frame clos) = pure fclos) (ht : TriplesOk ps.toList) (hnf : codeAmong pos ps.toList = none) :
    wpAny (model prog w) A (execs (.FunctionDef name params body [] none [] fscope none name pos :: rest) (clsEnv scope aN qual (.ref c) frame clos)) Q E ⟨h, g, d, t, os⟩ := by
  refine wpAny_execs_cons (nestDef_K hd0 hk0 ha ?_)
  refine b_makeFn G M B hcl rfl rfl mc O hne u ht hnf fun fa c' o' doc ctv h' t' B' R' => ?_
  exact c_store hk (.inr hx) B' N (uN fa _ c' o') fun es' n' h'' t'' B'' N'' => q fa _ c' o' es' n' h'' t'' B'' N'' ⟨doc, ctv, rfl⟩ R'
theorem c_run {stmts : List Stmt} {cenv : Env} {Q : Flow → Shared → Prop} (ha : hasAnns stmts = false) (hi : interactive cenv = false) (hd : docOf stmts = none)
    (c : ∀ A', wpAny (model prog w) A' (execs stmts cenv) Q NoE ⟨h, g, d, t, os⟩) : wpAny (model prog w) A (run (.body stmts cenv)) Q E ⟨h, g, d, t, os⟩ := by
  refine wpAny_run (codeAny_of_tree ?_)
  show wpAny _ _ (do blockStart stmts cenv; return Fin.done (← (execs stmts cenv).onRaise (leaving cenv))) _ _ _
  refine wpAny_bind ?_
  unfold blockStart
  rw [ha, hi, hd]
  refine y_f (y_f (wpAny_pure ?_))
  refine wpAny_bind (wpAny_onRaise (wpAny_mono (c _) (fun f s' q => wpAny_pure q) fun _ _ f => f.elim))
theorem b_newList {vs : List Value} {Q : Value → Shared → Prop} (B : Bag h₀ h l) (hz : vs.length ≤ 1000000) (q : ∀ a h', Bag h₀ h' ((a, listOf vs.toArray 0) :: l) → Q (.ref a) ⟨h', g, d, t, os⟩) :
    wpAny (model prog w) A (newList vs) Q E ⟨h, g, d, t, os⟩ := by
  refine wpAny_newObj_type (q _ _ (B.push rfl)) ?_
  show vs.toArray.size ≤ sizeLine
  rw [sizeLine_eq, List.size_toArray]; lia
theorem Bag.ne {h₀ h : Heap} {l : List (Addr × Obj)} (B : Bag h₀ h l) (i j : Nat) {p q : Addr × Obj} (ei : l[i]? = some p) (ej : l[j]? = some q) (hij : i < j) : p.1 ≠ q.1 := by
  obtain ⟨hi1, hi2⟩ := List.getElem?_eq_some_iff.mp ei
  obtain ⟨hj1, hj2⟩ := List.getElem?_eq_some_iff.mp ej
  have := List.pairwise_iff_getElem.mp B.nodup i j hi1 hj1 hij
  rwa [hi2, hj2] at this
end
end

section
theorem tt_can : ((Manifest.find? "type").bind (·.mro.findSome? fun t => (Manifest.find? t).bind fun b => if b.noNew then some true else if b.attrs.any (·.1 == "__new__") then some false else none)).getD false = false := by decide +kernel
theorem tt_mro : mroOf (.type "type") = pure [.type "type", .type "object"] := by kernel_rfl
theorem tt_made : Bind.madeBy (.type "type") = pure (some "type.__new__") := by
  exact madeBy_type (c := .type "type") (tl := [.type "object"]) tt_mro (by rw [typeLookup_type, builtinLookup_eq_fast]; kernel_rfl) (by decide +kernel)
theorem tt_entry : entryFor table "type.__new__" = some Builtin.«type.__new__» := entryFor_of_tree (by kernel_rfl)
theorem tt_entryI : entryFor table "type.__init__" = some Builtin.«type.__init__» := entryFor_of_tree (by kernel_rfl)
theorem tt_plain : plainId "type.__new__" = true := by decide +kernel
theorem tt_check (x : Str) (u : Tok) (a b : Addr) : checkTypeCall "type" ⟨[.str x u, .ref a, .ref b], []⟩ = pure () := by kernel_rfl
theorem tt_checkN (x : Str) (u : Tok) (a b : Addr) : checkBuiltinCall "type.__new__" ⟨[.type "type", .str x u, .ref a, .ref b], []⟩ = pure () := by kernel_rfl
theorem tt_init : Slot "type" "__init__" "type.__init__" :=
  .of (owner := "type") (n := "__init__") (by rw [typeLookup_type, builtinLookup_eq_fast]; kernel_rfl) (by decide +kernel) (by decide +kernel) (by decide +kernel)
    (by first | exact .inl (by decide +kernel) | exact .inr (by decide +kernel)) (by rw [isSubtype_type]; kernel_rfl)
theorem tt_argsI (c : Addr) (x : Str) (u : Tok) (a b : Addr) : argsOk "type.__init__" ⟨[.ref c, .str x u, .ref a, .ref b], []⟩ := by unfold argsOk; kernel_rfl
theorem tt_runI (c : Addr) (x : Str) (u : Tok) (a b : Addr) : Builtin.«type.__init__» ⟨[.ref c, .str x u, .ref a, .ref b], []⟩ = pure (.done (.ret .none)) := by kernel_rfl

section
variable {prog : Program} {w : World} {mg mb : Str → Option Value} {A : Around} {E : Value → Shared → Prop} {h₀ h : Heap} {g : Array GenState} {d : Drawn} {t : Nat} {os : OsState} {l : List (Addr × Obj)} {env : Env}
theorem ty_call {x : Str} {u : Tok} {aT aN : Addr} {s : Shared} {Q : Value → Shared → Prop}
    (hnew : ∀ A', A'.handled = A.handled → wpAny (model prog w) A' (Builtin.«type.__new__» ⟨[.type "type", .str x u, .ref aT, .ref aN], []⟩) (fun fin s' => ∃ c o, fin = .done (.ret (.ref c)) ∧ s'.heap.get? c = some o ∧ o.cls = .type "type" ∧ Q (.ref c) s') E s) :
    wpAny (model prog w) A (call (.type "type") [.str x u, .ref aT, .ref aN]) Q E s := by
  refine wpAny_call (codeAny_of_tree ?_)
  show wpAny _ _ (callAny (.type "type") _) _ _ _
  refine wpAny_pure ⟨Code.quiet_builtin _ (by decide +kernel), codeAny_builtin F.entry_type_call ?_⟩
  rw [Around.under_plain (weight_type_call_type "type" _ []) (units_type_call_type "type" _ [])]
  unfold Builtin.«type.__call__»
  dsimp only
  refine KFB.if_so (by decide +kernel) (KFB.if_not rfl (KFB.if_not rfl ?_))
  refine KFB.if_not tt_can ?_
  refine wpAny_bind (wpAny_of_eq (tt_check x u aT aN) ?_)
  refine wpAny_bind (wpAny_of_eq tt_mro ?_)
  refine KFB.if_not rfl ?_
  refine wpAny_bind (wpAny_of_eq tt_made ?_)
  refine wpAny_bind (wpAny_pure ?_)
  refine wpAny_bind (wpAny_holding (wpAny_call ?_))
  refine codeAny_mono (codeAny_call_builtin (R := fun r s' => match r with | .ok (.ret v) => ∃ c o, v = .ref c ∧ s'.heap.get? c = some o ∧ o.cls = .type "type" ∧ Q (.ref c) s' | .ok _ => False | .error e => E e s') tt_plain tt_entry (wpAny_of_eq (tt_checkN x u aT aN) (wpAny_mono (hnew _ rfl) (fun fin s' z => ?_) fun _ _ z => z))) fun r s₁ hr => ?_
  · obtain ⟨c, o, rfl, z⟩ := z; exact ⟨c, o, rfl, z⟩
  cases r with
  | error e => exact hr
  | ok fl =>
    cases fl with
    | ret obj =>
      obtain ⟨c, o, rfl, ho, hoc, hq⟩ := hr
      have hT : s₁.TypeIs (.ref c) "type" := ⟨o, ho, hoc⟩
      refine wpAny_bind (wpAny_isInstance hT sub_type_type ?_)
      refine y_nt ?_
      refine wpAny_bind (wpAny_holding (wpAny_callSpecial?_slot hT tt_init ?_))
      refine wpAny_call ?_
      refine codeAny_mono (codeAny_call_builtin (R := fun r s' => match r with | .ok (.ret v) => v = .none ∧ Q (.ref c) s' | .ok _ => False | .error e => E e s') tt_init.plain tt_entryI (tt_init.check _ _ _ _ _ _ _ _ hT (tt_argsI c x u aT aN) (wpAny_of_eq (tt_runI c x u aT aN) ⟨rfl, hq⟩))) fun r₂ s₂ hr₂ => ?_
      cases r₂ with
      | error e => exact hr₂
      | ok fl₂ =>
        cases fl₂ with
        | ret r =>
          obtain ⟨rfl, hq⟩ := hr₂
          exact KFB.if_not rfl (wpAny_pure hq)
        | _ => exact hr₂.elim
    | _ => exact hr.elim
end
end

section
theorem so_best : Builtin.Slots.bestBase [.type "object"] = pure (.type "object") := by kernel_rfl
theorem so_names : Builtin.Slots.slotNamesOf (.type "object") = pure [] := by kernel_rfl
theorem so_dict : Builtin.Slots.givesDict (.type "object") = pure false := by kernel_rfl
theorem so_weak : Builtin.Slots.givesWeak (.type "object") = pure false := by kernel_rfl
theorem so_var : Builtin.Slots.varSize (.type "object") = pure false := by kernel_rfl
section
variable {prog : Program} {w : World} {mg mb : Str → Option Value} {A : Around} {E : Value → Shared → Prop} {h₀ h : Heap} {g : Array GenState} {d : Drawn} {t : Nat} {os : OsState} {l : List (Addr × Obj)} {env : Env}
theorem sr_ok {aS : Addr} {u : Tok} {es : List DictEntry} {ls : List (Str × Value)} {Q : Builtin.Slots.Plan → Shared → Prop} (B : Bag h₀ h l) (N : NsB es ls) (hs : ls.lookup (Str.ofString "__slots__") = some (.ref aS)) (mS : (aS, listOf #[.str (Str.ofString "obj") u] 0) ∈ l)
    (ho : ls.lookup (Str.ofString "obj") = none) (q : ∀ h', Bag h₀ h' l → Q { names := [Str.ofString "obj"], dict := false, weak := false, inherited := [] } ⟨h', g, d, t, os⟩) :
    wpAny (model prog w) A (Builtin.Slots.read (Str.ofString "K") [.type "object"] es.toArray) Q E ⟨h, g, d, t, os⟩ := by
  have fs := find_nsB (name := Str.ofString "__slots__") N
  rw [hs] at fs
  obtain ⟨e, e1, e2⟩ := Option.map_eq_some_iff.mp fs
  unfold Builtin.Slots.read
  refine wpAny_bind (wpAny_of_eq so_best ?_)
  refine wpAny_bind (wpAny_of_eq so_names ?_)
  refine wpAny_bind (wpAny_of_eq so_dict ?_)
  extract_lets
  refine wpAny_bind (wpAny_of_eq so_weak ?_)
  refine wpAny_bind (wpAny_of_eq so_var ?_)
  extract_lets
  have e1' : es.toArray.find? (fun x => x.key.isStr (Str.ofString "__slots__")) = some e := by rw [List.find?_toArray]; exact e1
  rw [e1']
  refine wpAny_bind (wpAny_rule ?_)
  rw [e2]
  refine wpAny_bind (m := asStr? (.ref aS)) ?_
  unfold asStr?
  refine wpAny_bind (m := load aS) (wpAny_load (B.has _ mS) (wpAny_pure ?_))
  extract_lets
  refine KFB.if_not rfl ?_
  refine wpAny_bind (wpAny_collect_seq aS (.inl rfl) (B.has _ mS) rfl rfl (fun h₁ k₁ => ?_) (by simp [sizeLine_eq]))
  refine KFB.if_so (by rfl) ?_
  refine wpAny_bind (m := Builtin.Slots.varSize (.type "object")) (wpAny_of_eq so_var ?_)
  refine y_f ?_
  extract_lets
  refine wpAny_bind (y_for1 (a := Value.str (Str.ofString "obj") u) ?_)
  extract_lets
  refine wpAny_bind (m := asStr? (.str (Str.ofString "obj") u)) (wpAny_of_eq (a := some (Str.ofString "obj")) rfl ?_)
  refine wpAny_bind (m := pure (Str.ofString "obj")) (wpAny_pure ?_)
  have isId : Builtin.Slots.isIdentifier (Str.ofString "obj") = some true := by decide +kernel
  change wpAny (model prog w) A (match Builtin.Slots.isIdentifier (Str.ofString "obj") with | some b => _ | none => _) _ E _
  rw [isId]
  refine wpAny_bind (m := pure true) (wpAny_pure ?_)
  refine y_nt ?_
  refine KFB.if_not (by decide +kernel) (KFB.if_not (by decide +kernel) (wpAny_pure ?_))
  change wpAny (model prog w) A _ Q E _
  extract_lets
  refine wpAny_bind (y_forA1 (a := Str.ofString "obj") ?_)
  extract_lets
  refine wpAny_ite_false (by decide +kernel) ?_
  refine KFB.if_not ?_ ?_
  · have := find_nsB (name := Str.ofString "obj") N
    rw [ho, Option.map_eq_none_iff, List.find?_eq_none] at this
    show ((es.toArray.any fun y => y.key.isStr (Str.ofString "obj")) && _) = false
    rw [List.any_toArray, List.any_eq_false.mpr this]; rfl
  refine KFB.if_not (by decide +kernel) (wpAny_pure ?_)
  change wpAny (model prog w) A _ Q E _
  extract_lets
  refine wpAny_bind (y_for1 (a := Value.type "object") ?_)
  extract_lets
  refine KFB.if_not (by rfl) (wpAny_pure ?_)
  exact wpAny_pure (q h₁ (B.kp k₁))

noncomputable def slotO (o : Obj) (i : Nat) (v : Option Value) : Obj := { o with slots := (o.slots ++ Array.replicate (i + 1 - o.slots.size) none).setIfInBounds i v }
theorem y_slot {a : Addr} {i : Nat} {v : Option Value} {o : Obj} {f : Obj → List (Addr × Obj)} {Q : Unit → Shared → Prop} (hi : i < 100) (B : Bag h₀ h l) (u : UpdG a o l f) (hf : (slotO o i v).isFreed = false) (q : ∀ h', Bag h₀ h' (f (slotO o i v)) → Q () ⟨h', g, d, t, os⟩) :
    wpAny (model prog w) A (setSlotAt a i v) Q E ⟨h, g, d, t, os⟩ := by
  unfold setSlotAt
  refine wpAny_ite_false ?_ ?_
  · rw [decide_eq_false_iff_not, sizeLine_eq]; lia
  exact y_updatePart B (u (slotO o i v)) hf q
theorem y_cls {a : Addr} {c : ClassData} {oc : Value} {od : Option Addr} {sl : Array (Option Value)} {F : ClassData → ClassData} {f : Obj → List (Addr × Obj)} {Q : Unit → Shared → Prop} (B : Bag h₀ h l) (u : UpdG a ⟨oc, od, .cls c, sl⟩ l f)
    (hp : (Data.cls (F c)).pastItsLine = none) (q : ∀ h', Bag h₀ h' (f ⟨oc, od, .cls (F c), sl⟩) → Q () ⟨h', g, d, t, os⟩) :
    wpAny (model prog w) A (updateCls a F) Q E ⟨h, g, d, t, os⟩ := by
  unfold updateCls
  refine wpAny_bind (wpAny_load (B.has _ u.mem) ?_)
  refine wpAny_bind (y_update B (o := ⟨oc, od, .cls c, sl⟩) (l' := f ⟨oc, od, .cls (F c), sl⟩) (u _) rfl fun h' B' => ?_)
  unfold lookBehind
  refine wpAny_bind (wpAny_loadPart (B'.has _ (u.mem' _)) ?_)
  rw [show (⟨oc, od, .cls (F c), sl⟩ : Obj).data = .cls (F c) from rfl, hp]
  exact wpAny_pure (q h' B')
theorem sl_a (x : Option Value) : ((#[] ++ Array.replicate (0 + 1 - (#[] : Array (Option Value)).size) none).setIfInBounds 0 x : Array (Option Value)) = #[x] := by simp
theorem sl_b (x y : Option Value) : ((#[x] ++ Array.replicate (2 + 1 - (#[x] : Array (Option Value)).size) none).setIfInBounds 2 y : Array (Option Value)) = #[x, none, y] := by
  apply Array.ext'; simp [List.replicate]
theorem sl_c (x y z : Option Value) : ((#[x, none, y] ++ Array.replicate (3 + 1 - (#[x, none, y] : Array (Option Value)).size) none).setIfInBounds 3 z : Array (Option Value)) = #[x, none, y, z] := by
  apply Array.ext'; simp
theorem sl_d (x y z v : Option Value) : ((#[x, none, y, z] ++ Array.replicate (4 + 1 - (#[x, none, y, z] : Array (Option Value)).size) none).setIfInBounds 4 v : Array (Option Value)) = #[x, none, y, z, v] := by
  apply Array.ext'; simp
theorem sl_e (x y z v u : Option Value) : ((#[x, none, y, z, v] ++ Array.replicate (5 + 1 - (#[x, none, y, z, v] : Array (Option Value)).size) none).setIfInBounds 5 u : Array (Option Value)) = #[x, none, y, z, v, u] := by
  apply Array.ext'; simp
theorem slotO3 (c : Value) (d : Option Addr) (dt : Data) (x y z : Option Value) : slotO (slotO (slotO ⟨c, d, dt, #[]⟩ 0 x) 2 y) 3 z = ⟨c, d, dt, #[x, none, y, z]⟩ := by
  simp only [slotO, sl_a x, sl_b x y, sl_c x y z]
theorem slotO4 (c : Value) (d : Option Addr) (dt : Data) (x y z v : Option Value) : slotO ⟨c, d, dt, #[x, none, y, z]⟩ 4 v = ⟨c, d, dt, #[x, none, y, z, v]⟩ := by
  simp only [slotO, sl_d x y z v]
theorem slotO5 (c : Value) (d : Option Addr) (dt : Data) (x y z v u : Option Value) : slotO ⟨c, d, dt, #[x, none, y, z, v]⟩ 5 u = ⟨c, d, dt, #[x, none, y, z, v, u]⟩ := by
  simp only [slotO, sl_e x y z v u]
end
end

section
theorem lk0 {β : Type} (a : Addr) (o : β) (l : List (Addr × β)) : List.lookup a ((a, o) :: l) = some o := by rw [List.lookup_cons, beq_self_eq_true]
theorem lkN {β : Type} {a b : Addr} (o : β) (l : List (Addr × β)) (h : a ≠ b) : List.lookup a ((b, o) :: l) = List.lookup a l := by
  have : (a == b) = false := by simpa using h
  rw [List.lookup_cons, this]
theorem nsIn_nsB {K : Frag} {ns : Addr} {es : List DictEntry} {n : Nat} {ls : List (Str × Value)} {name : Str} (hN : K.lookup ns = some (dictOf es n)) (N : NsB es ls) : nsIn K ns name = some (ls.lookup name) := by
  have h1 := find_nsB (name := name) N
  have h2 := noRef_nsB N
  unfold nsIn
  rw [hN]
  dsimp only [dictOf]
  rw [← h1]
  cases es.find? (·.key.isStr name) with
  | some e => rfl
  | none => simp [h2]
noncomputable def orObj (name : Str) : Option Value → Option Value
  | some v => some v
  | none => fastBuiltinOwn "object" name
theorem kfind {K : Frag} {C : Addr} {oc : Value} {od : Option Addr} {cd : ClassData} {sl : Array (Option Value)} {es : List DictEntry} {n : Nat} {ls : List (Str × Value)} {name : Str} (hC : K.lookup C = some ⟨oc, od, .cls cd, sl⟩)
    (hN : K.lookup cd.ns = some (dictOf es n)) (N : NsB es ls) (hm : cd.mro = [.ref C, .type "object"]) : findIn K (.ref C) name = some (orObj name (ls.lookup name)) := by
  unfold findIn
  dsimp only
  rw [hC]
  dsimp only
  rw [hm]
  unfold alongIn ownIn
  dsimp only
  rw [hC]
  dsimp only
  rw [nsIn_nsB hN N]
  cases ls.lookup name with
  | some v => rfl
  | none =>
    unfold orObj
    show (match some (fastBuiltinOwn "object" name) with | some (some v) => some (some v) | some none => alongIn K name [] | none => none) = _
    cases fastBuiltinOwn "object" name <;> rfl
theorem Bag.frag {h₀ h : Heap} {l : List (Addr × Obj)} (B : Bag h₀ h l) {K : Frag} (s : ∀ p ∈ K, p ∈ l) : K.In h := fun a o e => B.has (a, o) (s _ (mem_of_lookupK e))
theorem so_made : Bind.madeBy (.type "object") = pure (some "object.__new__") := by
  exact madeBy_type (c := .type "object") (tl := []) (by kernel_rfl) (by rw [typeLookup_type, builtinLookup_eq_fast]; kernel_rfl) (by decide +kernel)
theorem pastK {c : ClassData} (h1 : c.subclasses = []) (h2 : c.slotNames.length ≤ 100) : (Data.cls c).pastItsLine = none := by
  refine if_neg ?_
  rw [h1, sizeLine_eq]
  simp
  lia
section
variable {prog : Program} {w : World} {mg mb : Str → Option Value} {A : Around} {E : Value → Shared → Prop} {h₀ h : Heap} {g : Array GenState} {d : Drawn} {t : Nat} {os : OsState} {l : List (Addr × Obj)} {env : Env}
theorem rm_ok {a ns : Addr} {oc : Value} {od : Option Addr} {cd : ClassData} {sl : Array (Option Value)} {es : List DictEntry} {n : Nat} {ls : List (Str × Value)} {Q : Unit → Shared → Prop} (B : Bag h₀ h l)
    (mA : (a, ⟨oc, od, .cls cd, sl⟩) ∈ l) (hns : cd.ns = ns) (mN : (ns, dictOf es n) ∈ l) (hne : a ≠ ns) (N : NsB es ls) (hm : cd.mro = [.ref a, .type "object"]) (hs : sl[4]?.join = some (.builtin "object.__new__")) (hn : ls.lookup (Str.ofString "__new__") = none)
    (q : Q () ⟨h, g, d, t, os⟩) : wpAny (model prog w) A (Bind.refreshMaker a) Q E ⟨h, g, d, t, os⟩ := by
  have X : Frag.In [(a, ⟨oc, od, .cls cd, sl⟩), (ns, dictOf es n)] h := B.frag (by
    intro p m
    rcases List.mem_cons.mp m with rfl | m
    · exact mA
    · rw [List.mem_singleton.mp m]; exact mN)
  have e := kfind (K := [(a, ⟨oc, od, .cls cd, sl⟩), (ns, dictOf es n)]) (C := a) (name := Str.ofString "__new__") (lk0 _ _ _) (by rw [hns]; exact (lkN _ _ (Ne.symm hne)).trans (lk0 _ _ _)) N hm
  rw [hn] at e
  unfold Bind.refreshMaker slotAt
  refine wpAny_bind (wpAny_bind (wpAny_loadPart (B.has _ mA) (wpAny_pure ?_)))
  dsimp only
  rw [hs]
  refine y_sn ?_
  refine wpAny_bind ((looks_findIn X e).at ?_)
  rw [show orObj (Str.ofString "__new__") none = some (.builtin "object.__new__") from by kernel_rfl]
  dsimp only
  exact wpAny_ite_false (by decide +kernel) (wpAny_pure q)
theorem n_setV {a : Addr} {es : List DictEntry} {n : Nat} {name : Str} {v : Value} {ls : List (Str × Value)} {f : Obj → List (Addr × Obj)} {Q : Unit → Shared → Prop} (B : Bag h₀ h l) (N : NsB es ls) (u : UpdG a (dictOf es n) l f) (hz : ls.length ≤ 1000)
    (q : ∀ es' n' h' t', Bag h₀ h' (f (dictOf es' n')) → NsB es' (putV name v ls) → Q () ⟨h', g, d, t', os⟩) : wpAny (model prog w) A (nsSetByValue a name v) Q E ⟨h, g, d, t, os⟩ := by
  unfold nsSetByValue
  refine wpAny_bind (wpAny_loadPart (B.has _ u.mem) ?_)
  dsimp only [dictOf]
  refine wpAny_ite_false ?_ (n_set B N u q)
  rw [decide_eq_false_iff_not, Bool.and_eq_true, decide_eq_true_eq, List.size_toArray, N.length, sizeLine_eq]
  rintro ⟨h1, _⟩
  lia
theorem b_newFields {T : String} {vs : List Value} {Q : Value → Shared → Prop} (B : Bag h₀ h l) (hz : vs.length ≤ 1000) (q : ∀ p h', Bag h₀ h' ((p, ⟨.type T, none, .fields vs.toArray, #[]⟩) :: l) → Q (.ref p) ⟨h', g, d, t, os⟩) :
    wpAny (model prog w) A (newFields T vs) Q E ⟨h, g, d, t, os⟩ := by
  unfold newFields
  refine wpAny_newObj_type (q _ _ (B.push rfl)) ?_
  show vs.toArray.size ≤ _
  rw [List.size_toArray]
  have := sizeLine_eq
  lia
theorem in_ok {a ns : Addr} {oc : Value} {od : Option Addr} {cd : ClassData} {sl : Array (Option Value)} {es : List DictEntry} {n : Nat} {ls : List (Str × Value)} {f : Obj → Obj → List (Addr × Obj)} {Q : Unit → Shared → Prop} (B : Bag h₀ h l) (N : NsB es ls)
    (uA : ∀ o, UpdG a ⟨oc, od, .cls cd, sl⟩ (f ⟨oc, od, .cls cd, sl⟩ o) (fun o' => f o' o)) (uN : UpdG ns (dictOf es n) l (f ⟨oc, od, .cls cd, sl⟩)) (hn : ls.lookup (Str.ofString "obj") = none) (hz : ls.length ≤ 1000) (hs : cd.subclasses = [])
    (q : ∀ p tp es' n' h' t', Bag h₀ h' ((p, ⟨.type "member_descriptor", none, .fields #[.str (Str.ofString "obj") tp, .ref a, .builtin "proto.slot", .builtin "proto.slot#set", rawInt 0], #[]⟩) :: f ⟨oc, od, .cls { cd with hasDict := false, slotNames := [Str.ofString "obj"] }, sl⟩ (dictOf es' n')) →
      NsB es' (putV (Str.ofString "obj") (.ref p) ls) → Q () ⟨h', g, d, t', os⟩) :
    wpAny (model prog w) A (Builtin.Slots.install (.ref a) ns [.type "object"] { names := [Str.ofString "obj"], dict := false, weak := false }) Q E ⟨h, g, d, t, os⟩ := by
  unfold Builtin.Slots.install
  extract_lets
  refine wpAny_bind (y_for1 (a := Str.ofString "obj") ?_)
  extract_lets
  refine wpAny_bind (n_get B N uN.mem ?_)
  rw [hn]
  refine y_nn ?_
  refine wpAny_bind (m := mkStr (Str.ofString "obj")) ?_
  unfold mkStr
  refine wpAny_ite_false (by decide +kernel) (wpAny_bind (wpAny_fresh (wpAny_pure ?_)))
  refine wpAny_bind (b_newFields B (by simp) fun p h₁ B₁ => ?_)
  refine wpAny_bind (n_setV (f := fun o => (p, _) :: f _ o) B₁ N (fun o => .tail (uN o)) hz fun es' n' h₂ t₂ B₂ N₂ => ?_)
  refine wpAny_pure ?_
  change wpAny (model prog w) A _ Q E _
  refine wpAny_bind (y_for1 (a := Value.type "object") ?_)
  extract_lets
  refine wpAny_bind (wpAny_of_eq so_dict ?_)
  refine y_f (wpAny_pure ?_)
  change wpAny (model prog w) A _ Q E _
  extract_lets
  refine wpAny_ite_false (by rw [sizeLine_eq]; decide) ?_
  refine y_cls (f := fun o => (p, _) :: f o _) B₂ (fun o => .tail (uA _ o)) ?_ fun h₃ B₃ => q p _ es' n' h₃ _ B₃ N₂
  exact pastK hs (by simp)
end
end

section
theorem owner_is : (kfb_private% "ownerAndName") "object.__init_subclass__" = ("object", "__init_subclass__") := by first | decide +kernel | kernel_rfl
theorem type_is : typeOf (.builtin "object.__init_subclass__") = pure (.type "classmethod_descriptor") := by show builtinType _ = _; rw [builtinType_eq_fast]; kernel_rfl
theorem entry_is : entryFor table "object.__init_subclass__" = some Builtin.«object.__init_subclass__» := entryFor_of_tree (by kernel_rfl)
theorem own_is : builtinOwn "object" (Str.ofString "__init_subclass__") = some (.builtin "object.__init_subclass__") := by rw [builtinOwn_eq_fast]; kernel_rfl
theorem own_is' : classOwn (.type "object") (Str.ofString "__init_subclass__") = pure (some (.builtin "object.__init_subclass__")) := by show pure (builtinOwn _ _) = _; rw [own_is]
theorem quiet_is {as : Args} : (Code.builtin "object.__init_subclass__" as).quiet = true := Code.quiet_builtin _ (by decide +kernel)
noncomputable abbrev supO (C : Addr) : Obj := { cls := .type "super", dict := none, data := .fields #[.ref C, .ref C, .ref C], slots := #[] }
noncomputable abbrev subO (C : Addr) : Obj := { cls := .type "builtin_function_or_method", dict := none, data := .fields #[.builtin "object.__init_subclass__", .ref C], slots := #[] }
section
variable {prog : Program} {w : World} {mg mb : Str → Option Value} {A : Around} {E : Value → Shared → Prop} {h₀ h : Heap} {g : Array GenState} {d : Drawn} {t : Nat} {os : OsState}
theorem sup_call {C : Addr} {oC : Obj} {cd : ClassData} {Q : Value → Shared → Prop}
    (hC : h.get? C = some oC) (hd : oC.data = .cls cd) (hsub : Looks (model prog w) h (isSubtype (.ref C) (.ref C)) true)
    (hq : ∀ h', h'.get? h.objs.size = some (supO C) → (∀ y o, h.get? y = some o → h'.get? y = some o) → Q (.ref h.objs.size) ⟨h', g, d, t, os⟩) :
    wpAny (model prog w) A (call (.type "super") [.ref C, .ref C]) Q E ⟨h, g, d, t, os⟩ := by
  refine ks_callType_codesW (Q₁ := fun obj s₁ => obj = .ref h.objs.size ∧ s₁ = ⟨h.push { cls := .type "super", data := .fields #[.none, .none, .none] }, g, d, t, os⟩) F.ks_called_super (ks_wpAny_checkTypeCall_super hC hd) F.ks_entry_super_init
    (ks_code_super_new _ _ ⟨rfl, rfl⟩) fun obj s₁ h₁ => ?_
  obtain ⟨rfl, rfl⟩ := h₁
  have up : ∀ y o, h.get? y = some o → (h.push { cls := .type "super", data := .fields #[.none, .none, .none] }).get? y = some o := fun y o e => Heap.get?_push_of_some _ e
  have hso : (h.push { cls := .type "super", data := .fields #[.none, .none, .none] }).get? h.objs.size = some { cls := .type "super", dict := none, data := .fields #[.none, .none, .none], slots := #[] } := Heap.get?_push_at rfl rfl
  have hC' := up _ _ hC
  have hsub' := hsub.keeps up
  refine ⟨⟨_, hso, rfl⟩, F.ks_initArgs_super _ _ _, ?_⟩
  unfold Builtin.«super.__init__» noKeywords
  repeat (first | (with_reducible refine ks_wpAny_isType_cls hC' hd ?_) | (with_reducible refine Looks.at hsub' ?_) | (with_reducible refine ks_wpAny_super_set3 hso ?_) | wp_step)
  all_goals first
    | (intro h' e k; exact ⟨rfl, hq h' e fun y o ey => k y o (Nat.ne_of_lt (Heap.lt_size ey)) (up y o ey)⟩)
    | (refine ks_wpAny_super_set3 hso ?_; intro h' e k; exact ⟨rfl, hq h' e fun y o ey => k y o (Nat.ne_of_lt (Heap.lt_size ey)) (up y o ey)⟩)

theorem is_get {C : Addr} {oC : Obj} {cd : ClassData} {P : Fin → Shared → Prop} (hC : h.get? C = some oC) (hd : oC.data = .cls cd) (hsub : Looks (model prog w) h (isSubtype (.ref C) (.type "object")) true)
    (q : P (.done (.ret (.ref h.objs.size))) ⟨h.push (subO C), g, d, t, os⟩) :
    wpAny (model prog w) A (Builtin.«classmethod_descriptor.__get__» ⟨[.builtin "object.__init_subclass__", .none, .ref C], []⟩) P E ⟨h, g, d, t, os⟩ := by
  unfold Builtin.«classmethod_descriptor.__get__»
  refine wpAny_bind (wpAny_of_eq (a := (.builtin "object.__init_subclass__", none, some (.ref C))) (by first | rfl | kernel_rfl) ?_)
  simp only [owner_is]
  refine wpAny_bind (wpAny_of_eq (a := .ref C) rfl ?_)
  refine wpAny_bind (ks_wpAny_isType_cls hC hd ?_)
  refine KFB.if_not rfl ?_
  refine wpAny_bind (hsub.at ?_)
  refine KFB.if_not rfl ?_
  exact wpAny_bind (wpAny_newObj_type (wpAny_pure q))

theorem sup_ga {so C : Addr} {oC : Obj} {cd : ClassData} {tk : Tok} {P : Fin → Shared → Prop} (hso : h.get? so = some (supO C)) (hC : h.get? C = some oC) (hd : oC.data = .cls cd) (hno : Looks (model prog w) h (opaqueClassAbove (.ref C)) none)
    (hm : cd.mro = [.ref C, .type "object"]) (hsub : Looks (model prog w) h (isSubtype (.ref C) (.type "object")) true)
    (q : P (.done (.ret (.ref h.objs.size))) ⟨h.push (subO C), g, d, t, os⟩) :
    wpAny (model prog w) A (Builtin.«super.__getattribute__» ⟨[.ref so, .str (Str.ofString "__init_subclass__") tk], []⟩) P E ⟨h, g, d, t, os⟩ := by
  have hlk := KFB.slot_get.lookup
  have hdt : (supO C).data = .fields #[.ref C, .ref C, .ref C] := rfl
  have f0 : (#[.ref C, .ref C, .ref C] : Array Value)[0]? = some (.ref C) := rfl
  have f1 : (#[.ref C, .ref C, .ref C] : Array Value)[1]? = some (.ref C) := rfl
  have f2 : (#[.ref C, .ref C, .ref C] : Array Value)[2]? = some (.ref C) := rfl
  have hmro : Looks (model prog w) h (mroOf (.ref C)) [.ref C, .type "object"] := hm ▸ ((Looks.ld (part := none) hC).andThen (by rw [hd]; exact .now)).andThen .now
  have hl : ([.ref C, .type "object"].dropWhile (fun x : Value => x != .ref C)).drop 1 = [.type "object"] := by simp [List.dropWhile]
  unfold Builtin.«super.__getattribute__»
  repeat (first
    | (with_reducible refine wpAny_field hso hdt f0 ?_) | (with_reducible refine wpAny_field hso hdt f1 ?_) | (with_reducible refine wpAny_field hso hdt f2 ?_)
    | (with_reducible refine ks_wpAny_notOpaque hno ?_)
    | (with_reducible refine Looks.at hmro ?_; rw [hl])
    | (with_reducible refine y_for1 ?_)
    | (with_reducible refine wpAny_of_eq own_is' ?_)
    | (with_reducible refine wpAny_of_eq type_is ?_)
    | (with_reducible refine wpAny_of_eq hlk ?_)
    | (with_reducible refine wpAny_call_entry KFB.slot_get type_is KFB.entry_get ?_ (KFB.args_get _ _ _))
    | (simp only [beq_self_eq_true, if_true]; done)
    | wp_step
    | dsimp only)
  rw [if_pos (beq_self_eq_true _)]
  refine codeAny_call_builtin KFB.slot_get.plain KFB.entry_get (KFB.slot_get.check _ _ _ _ _ _ _ _ type_is (KFB.args_get _ _ _) (is_get hC hd hsub ?_))
  exact wpAny_bind (wpAny_pure (wpAny_pure (wpAny_pure q)))

theorem sup_get {so C : Addr} {oC : Obj} {cd : ClassData} {Q : Value → Shared → Prop} (hso : h.get? so = some (supO C)) (hC : h.get? C = some oC) (hd : oC.data = .cls cd) (hno : Looks (model prog w) h (opaqueClassAbove (.ref C)) none)
    (hm : cd.mro = [.ref C, .type "object"]) (hsub : Looks (model prog w) h (isSubtype (.ref C) (.type "object")) true)
    (q : Q (.ref h.objs.size) ⟨h.push (subO C), g, d, t + 1, os⟩) :
    wpAny (model prog w) A (getAttr (.ref so) (Str.ofString "__init_subclass__")) Q E ⟨h, g, d, t, os⟩ := by
  have hlk := F.ks_slot_super_ga.lookup
  have hT : ∀ t', (⟨h, g, d, t', os⟩ : Shared).TypeIs (.ref so) "super" := fun _ => ⟨_, hso, rfl⟩
  unfold getAttr getAttrBy
  refine wpAny_bind (wpAny_mkText (wpAny_holding (wpAny_bind (wpAny_typeOf (hT _) (wpAny_bind (wpAny_of_eq hlk ?_))))))
  show wpAny _ _ (getAttrByItsOwn (.ref so) (.str (Str.ofString "__init_subclass__") t) (.type "super") (.builtin "super.__getattribute__") true false) _ _ _
  unfold getAttrByItsOwn hookBefore callGetattribute boundAndCalled
  refine wpAny_bind (wpAny_of_eq (show (if onTheHeap (.type "super") then typeLookup (.type "super") "__getattr__" else pure none) = pure none from rfl) ?_)
  refine wpAny_bind (wpAny_attempt (wpAny_holding ?_))
  show wpAny _ _ (bindSpecial (.builtin "super.__getattribute__") (.ref so) >>= _) _ _ _
  refine wpAny_bind (wpAny_of_eq (F.ks_slot_super_ga.bind _) ?_)
  refine wpAny_mono (Q := fun v s' => v = .ref h.objs.size ∧ s' = ⟨h.push (subO C), g, d, t + 1, os⟩) (E := fun _ _ => False)
    (wpAny_call_entry F.ks_slot_super_ga (hT _) F.ks_entry_super_ga (sup_ga hso hC hd hno hm hsub ⟨_, rfl, rfl, rfl⟩) (F.ks_gaArgs_super _ _)) (fun v s' hv => ?_) fun _ _ z => z.elim
  obtain ⟨rfl, rfl⟩ := hv
  exact wpAny_pure q

theorem sig_is : Manifest.signature? "object.__init_subclass__" = some ⟨.noArgs, "object.__init_subclass__", "__init_subclass__", .cls, []⟩ := by kernel_rfl
theorem kind_is : builtinKind "object.__init_subclass__" = some .classMethod := by rw [builtinKind_eq_fast]; kernel_rfl
theorem sub_tm : isSubtype (.type "type") (.type "module") = pure false := by rw [isSubtype_type]; kernel_rfl
theorem chk_is {full : String} {C : Addr} (hf : (full != "*") = true) : Bind.checkArgs "object.__init_subclass__" ⟨.noArgs, full, "__init_subclass__", .cls, []⟩ ⟨[.ref C], []⟩ = pure () := by
  unfold Bind.checkArgs
  dsimp only
  unfold Bind.printed
  rw [if_pos hf]
  rw [if_pos (show ("__init_subclass__" != "*") = true from by decide)]
  rfl
theorem check_is {C : Addr} {oC : Obj} {cd : ClassData} {Q : Unit → Shared → Prop} (hC : h.get? C = some oC) (hd : oC.data = .cls cd) (hc : oC.cls = .type "type")
    (hn : (toString cd.qualname.toString ++ toString "." ++ toString (Bind.lastOf "object.__init_subclass__") != "*") = true) (q : Q () ⟨h, g, d, t, os⟩) :
    wpAny (model prog w) A (checkBoundCall "object.__init_subclass__" ⟨[.ref C], []⟩) Q E ⟨h, g, d, t, os⟩ := by
  unfold checkBoundCall
  rw [sig_is, kind_is]
  dsimp -zeta only
  extract_lets
  refine KFB.if_not (by decide) ?_
  refine wpAny_bind (wpAny_isInstance (T := "type") ⟨_, hC, hc⟩ sub_tm ?_)
  refine KFB.if_not (by decide +kernel) ?_
  refine wpAny_bind (ks_wpAny_isType_cls hC hd ?_)
  extract_lets
  refine y_t (wpAny_bind (wpAny_pure ?_))
  refine wpAny_bind (m := classData C) (wpAny_bind (wpAny_load hC ?_))
  rw [hd]
  refine wpAny_pure ?_
  extract_lets
  refine wpAny_bind (wpAny_typeOf (T := "type") ⟨_, hC, hc⟩ ?_)
  refine KFB.if_so (by decide) ?_
  exact wpAny_of_eq (chk_is hn) q
theorem sub_run {b C : Addr} {oC : Obj} {cd : ClassData} {Q : Value → Shared → Prop} (hb : h.get? b = some (subO C)) (hC : h.get? C = some oC) (hd : oC.data = .cls cd) (hc : oC.cls = .type "type")
    (hn : (toString cd.qualname.toString ++ toString "." ++ toString (Bind.lastOf "object.__init_subclass__") != "*") = true) (q : Q .none ⟨h, g, d, t, os⟩) :
    wpAny (model prog w) A (call (.ref b) []) Q E ⟨h, g, d, t, os⟩ := by
  refine wpAny_call (codeAny_of_tree ?_)
  show wpAny _ A.in1 (callAny (.ref b) ⟨[], []⟩) _ _ _
  unfold callAny
  refine wpAny_bind (wpAny_load hb ?_)
  refine KFB.if_so (by rfl) ?_
  refine KFB.if_so (by rfl) ?_
  refine wpAny_bind (check_is hC hd hc hn (wpAny_pure ⟨quiet_is, codeAny_builtin entry_is ?_⟩))
  unfold Builtin.«object.__init_subclass__»
  refine KFB.if_so rfl ?_
  exact wpAny_pure q
theorem note_obj (a : Addr) : Builtin.noteSubclassOfBuiltin "object" a = pure () := by
  unfold Builtin.noteSubclassOfBuiltin
  rw [if_pos (by decide +kernel)]
theorem loopN {M : Model} {β : Type} {f : DictEntry → β → Sem (ForInStep β)} {b : β} {s : Shared} {Q : β → Shared → Prop} : ∀ {es : List DictEntry} {ls : List (Str × Value)}, NsB es ls →
    (∀ e p, p ∈ ls → EntB e p → ∀ Q' : ForInStep β → Shared → Prop, Q' (.yield b) s → wpAny M A (f e b) Q' E s) → Q b s → wpAny M A (forIn es b f) Q E s
  | _, _, .nil, _, q => y_forN q
  | _, _, .cons p r, hf, q => y_forC (hf _ _ (.head _) p _ (loopN r (fun e p m => hf e p (.tail _ m)) q))
theorem loopA {M : Model} {β : Type} {f : DictEntry → β → Sem (ForInStep β)} {b : β} {s : Shared} {Q : β → Shared → Prop} {es : List DictEntry} {ls : List (Str × Value)} (N : NsB es ls)
    (hf : ∀ e p, p ∈ ls → EntB e p → ∀ Q' : ForInStep β → Shared → Prop, Q' (.yield b) s → wpAny M A (f e b) Q' E s) (q : Q b s) : wpAny M A (forIn es.toArray b f) Q E s := by
  rw [← Array.forIn_toList]
  exact loopN N hf q
theorem sn_type {T : String} (e : fastLookup T (Str.ofString "__set_name__") = some none) : typeLookup (.type T) (Str.ofString "__set_name__") = pure none := by
  rw [typeLookup_type, builtinLookup_eq_fast, e]
theorem sn_ref {M : Model} {a : Addr} {o : Obj} {T : String} (ho : h.get? a = some o) (hc : o.cls = .type T) (e : fastLookup T (Str.ofString "__set_name__") = some none) : Looks M h (specialOf (.ref a) (Str.ofString "__set_name__")) none := by
  unfold specialOf
  refine ((Looks.ld ho).andThen (by rw [hc]; exact .now)).andThen (Looks.of_pure (sn_type e))
theorem sn_str {M : Model} {x : Str} {u : Tok} : Looks M h (specialOf (.str x u) (Str.ofString "__set_name__")) none := (Looks.of_pure rfl).andThen (Looks.of_pure (sn_type (T := "str") (by kernel_rfl)))
theorem sn_int {M : Model} {x : Int} {u : Tok} : Looks M h (specialOf (.int x u) (Str.ofString "__set_name__")) none := (Looks.of_pure rfl).andThen (Looks.of_pure (sn_type (T := "int") (by kernel_rfl)))
theorem sn_none {M : Model} : Looks M h (specialOf .none (Str.ofString "__set_name__")) none := (Looks.of_pure rfl).andThen (Looks.of_pure (sn_type (T := "NoneType") (by kernel_rfl)))
theorem sn_fn : fastLookup "function" (Str.ofString "__set_name__") = some none := by kernel_rfl
theorem sn_list : fastLookup "list" (Str.ofString "__set_name__") = some none := by kernel_rfl
theorem sn_tuple : fastLookup "tuple" (Str.ofString "__set_name__") = some none := by kernel_rfl
theorem sn_md : fastLookup "member_descriptor" (Str.ofString "__set_name__") = some none := by kernel_rfl
noncomputable def SnAll (M : Model) (h : Heap) : List (Str × Value) → Prop
  | [] => True
  | p :: r => (Builtin.heldUnderItsOwnName p.1 p.2 = false ∧ Looks M h (specialOf p.2 (Str.ofString "__set_name__")) none) ∧ SnAll M h r
theorem SnAll.mem {M : Model} {h : Heap} : ∀ {ls : List (Str × Value)}, SnAll M h ls → ∀ p ∈ ls, Builtin.heldUnderItsOwnName p.1 p.2 = false ∧ Looks M h (specialOf p.2 (Str.ofString "__set_name__")) none
  | _ :: _, ⟨a, _⟩, _, .head _ => a
  | _ :: _, ⟨_, b⟩, _, .tail _ m => b.mem _ m
end
end

section
noncomputable abbrev tupO : Obj := { cls := .type "tuple", dict := none, data := .seq #[.type "object"] 0, slots := #[] }
theorem sub_tt : isSubtype (.type "tuple") (.type "tuple") = pure true := by rw [isSubtype_type]; kernel_rfl
theorem sub_dd : isSubtype (.type "dict") (.type "dict") = pure true := by rw [isSubtype_type]; kernel_rfl
theorem mro_obj : mroOf (.type "object") = pure [.type "object"] := by kernel_rfl
theorem ext_obj : Builtin.extendedBase [.type "object"] = pure (.type "object") := by kernel_rfl
theorem it_dict : typeLookup (.type "dict") (Str.ofString "__iter__") = pure (some (.builtin "dict.__iter__")) := by rw [typeLookup_type, builtinLookup_eq_fast]; kernel_rfl

theorem hook_type : Builtin.mroHook? (.type "type") = pure none := by kernel_rfl
theorem lin_obj : Builtin.linearize [.type "object"] mroOf = pure [.type "object"] := by kernel_rfl
theorem turned_obj : Builtin.notOverATurnedClass [.type "object"] = pure () := by kernel_rfl
theorem has_of {name : Str} {es : List DictEntry} {ls : List (Str × Value)} {v : Value} (N : NsB es ls) (h : ls.lookup name = some v) : es.toArray.any (fun y => y.key.isStr name) = true := by
  have := find_nsB (name := name) N
  rw [h] at this
  obtain ⟨e, e1, _⟩ := Option.map_eq_some_iff.mp this
  rw [List.any_toArray, List.any_eq_true]
  exact ⟨e, List.mem_of_find?_eq_some e1, List.find?_some (p := fun y : DictEntry => y.key.isStr name) e1⟩
section
variable {prog : Program} {w : World} {mg mb : Str → Option Value} {A : Around} {E : Value → Shared → Prop} {h₀ h : Heap} {g : Array GenState} {d : Drawn} {t : Nat} {os : OsState} {l : List (Addr × Obj)} {env : Env}
noncomputable abbrev lsK (vm : Value) (q : Str) (tq : Tok) (fl : Int) (ti : Tok) (aS f1 f2 f3 f4 f5 f6 aA : Addr) : List (Str × Value) :=
  [(Str.ofString "__module__", vm), (Str.ofString "__qualname__", .str q tq), (Str.ofString "__firstlineno__", .int fl ti), (Str.ofString "__slots__", .ref aS), (Str.ofString "__init__", .ref f1), (Str.ofString "__lt__", .ref f2),
   (Str.ofString "__gt__", .ref f3), (Str.ofString "__eq__", .ref f4), (Str.ofString "__le__", .ref f5), (Str.ofString "__ge__", .ref f6), (Str.ofString "__hash__", .none), (Str.ofString "__static_attributes__", .ref aA)]
noncomputable abbrev lsF (vm : Value) (fl : Int) (ti : Tok) (aS f1 f2 f3 f4 f5 f6 aA p : Addr) : List (Str × Value) :=
  [(Str.ofString "__module__", vm), (Str.ofString "__firstlineno__", .int fl ti), (Str.ofString "__slots__", .ref aS), (Str.ofString "__init__", .ref f1), (Str.ofString "__lt__", .ref f2),
   (Str.ofString "__gt__", .ref f3), (Str.ofString "__eq__", .ref f4), (Str.ofString "__le__", .ref f5), (Str.ofString "__ge__", .ref f6), (Str.ofString "__hash__", .none), (Str.ofString "__static_attributes__", .ref aA),
   (Str.ofString "obj", .ref p), (Str.ofString "__doc__", .none)]
noncomputable abbrev clsKO (a ns : Addr) (q : Str) (aT : Addr) (u tq : Tok) : Obj := ⟨.type "type", none, .cls { name := Str.ofString "K", bases := [.type "object"], mro := [.ref a, .type "object"], ns := ns, qualname := q, hasDict := false, slotNames := [Str.ofString "obj"] },
  #[some (.ref aT), none, some (.str (Str.ofString "K") u), some (.str q tq), some (.builtin "object.__new__"), some (.bool false)]⟩
noncomputable abbrev dscKO (a : Addr) (tp : Tok) : Obj := ⟨.type "member_descriptor", none, .fields #[.str (Str.ofString "obj") tp, .ref a, .builtin "proto.slot", .builtin "proto.slot#set", rawInt 0], #[]⟩
theorem lsF_sn {M : Model} {h : Heap} {vm : Value} {fl : Int} {ti us : Tok} {aS f1 f2 f3 f4 f5 f6 aA p : Addr} {op : Obj} (hvm : ∃ x u, vm = .str x u) (hS : h.get? aS = some (listOf #[.str (Str.ofString "obj") us] 0))
    (mF : ∀ f ∈ [f1, f2, f3, f4, f5, f6], ∃ o, h.get? f = some o ∧ o.cls = .type "function") (mA : ∃ o, h.get? aA = some o ∧ o.cls = .type "tuple") (hp : h.get? p = some op) (hpc : op.cls = .type "member_descriptor") :
    SnAll M h (lsF vm fl ti aS f1 f2 f3 f4 f5 f6 aA p) := by
  have mF' : ∀ f ∈ [f1, f2, f3, f4, f5, f6], Looks M h (specialOf (.ref f) (Str.ofString "__set_name__")) none := by
    intro f m
    obtain ⟨o, mo, hc⟩ := mF f m
    exact sn_ref mo hc sn_fn
  obtain ⟨xm, um, rfl⟩ := hvm
  obtain ⟨oA, moA, hcA⟩ := mA
  exact ⟨⟨rfl, sn_str⟩, ⟨rfl, sn_int⟩, ⟨rfl, sn_ref hS rfl sn_list⟩, ⟨rfl, mF' f1 (by simp)⟩, ⟨rfl, mF' f2 (by simp)⟩, ⟨rfl, mF' f3 (by simp)⟩, ⟨rfl, mF' f4 (by simp)⟩, ⟨rfl, mF' f5 (by simp)⟩, ⟨rfl, mF' f6 (by simp)⟩,
    ⟨rfl, sn_none⟩, ⟨rfl, sn_ref moA hcA sn_tuple⟩, ⟨rfl, sn_ref hp hpc sn_md⟩, ⟨rfl, sn_none⟩, trivial⟩
set_option maxHeartbeats 800000 in
theorem tn_ok {u us : Tok} {aT aN : Addr} {es : List DictEntry} {n : Nat} {vm : Value} {q : Str} {tq : Tok} {fl : Int} {ti : Tok} {aS f1 f2 f3 f4 f5 f6 aA : Addr} {Q : Fin → Shared → Prop} (B : Bag h₀ h l) (mT : (aT, tupO) ∈ l) (mN : (aN, dictOf es n) ∈ l)
    (N : NsB es (lsK vm q tq fl ti aS f1 f2 f3 f4 f5 f6 aA)) (mS : (aS, listOf #[.str (Str.ofString "obj") us] 0) ∈ l)
    (G : Gd w mg mb h₀) (hvm : ∃ x u, vm = .str x u) (mF : ∀ f ∈ [f1, f2, f3, f4, f5, f6], ∃ o, (f, o) ∈ l ∧ o.cls = .type "function") (mA : ∃ o, (aA, o) ∈ l ∧ o.cls = .type "tuple")
    (hqn : (toString q.toString ++ toString "." ++ toString (Bind.lastOf "object.__init_subclass__") != "*") = true)
    (qq : ∀ a ns p tp es' n' h' t', Bag h₀ h' ((p, dscKO a tp) :: (a, clsKO a ns q aT u tq) :: (ns, dictOf es' n') :: l) → NsB es' (lsF vm fl ti aS f1 f2 f3 f4 f5 f6 aA p) → Q (.done (.ret (.ref a))) ⟨h', g, d, t', os⟩) :
    wpAny (model prog w) A (Builtin.«type.__new__» ⟨[.type "type", .str (Str.ofString "K") u, .ref aT, .ref aN], []⟩) Q E ⟨h, g, d, t, os⟩ := by
  have hs : (lsK vm q tq fl ti aS f1 f2 f3 f4 f5 f6 aA).lookup (Str.ofString "__slots__") = some (.ref aS) := rfl
  have ho : (lsK vm q tq fl ti aS f1 f2 f3 f4 f5 f6 aA).lookup (Str.ofString "obj") = none := rfl
  have hm : (lsK vm q tq fl ti aS f1 f2 f3 f4 f5 f6 aA).lookup (Str.ofString "__module__") = some vm := rfl
  have hq : (lsK vm q tq fl ti aS f1 f2 f3 f4 f5 f6 aA).lookup (Str.ofString "__qualname__") = some (.str q tq) := rfl
  have hd : (lsK vm q tq fl ti aS f1 f2 f3 f4 f5 f6 aA).lookup (Str.ofString "__doc__") = none := rfl
  unfold Builtin.«type.__new__»
  extract_lets wrong intoC st1 st2
  refine wpAny_bind (m := asStr? (.str (Str.ofString "K") u)) (wpAny_of_eq (a := some (Str.ofString "K")) rfl ?_)
  refine wpAny_bind (wpAny_isInstance (T := "tuple") ⟨_, B.has _ mT, rfl⟩ sub_tt ?_)
  extract_lets jp1
  refine y_nt ?_
  refine wpAny_bind (m := isInstance (.ref aN) (.type "dict")) (wpAny_isInstance (T := "dict") ⟨_, B.has _ mN, rfl⟩ sub_dd ?_)
  extract_lets jp2
  refine y_nt ?_
  refine wpAny_bind (m := seqItems? (.ref aT)) ?_
  unfold seqItems?
  refine wpAny_bind (m := load aT) (wpAny_load (B.has _ mT) (wpAny_pure ?_))
  extract_lets
  refine wpAny_ite_false (by rfl) ?_
  refine wpAny_bind (y_for1 (a := Value.type "object") ?_)
  refine wpAny_bind (m := isType (.type "object")) (wpAny_pure ?_)
  refine y_nt (wpAny_pure ?_)
  refine wpAny_bind (y_for1 (a := Value.type "object") ?_)
  extract_lets
  refine wpAny_bind (wpAny_of_eq ty_object ?_)
  refine wpAny_bind (m := isSubtype (.type "type") (.type "type")) (wpAny_of_eq sub_type_type ?_)
  refine y_t (wpAny_pure ?_)
  change wpAny (model prog w) A _ Q E _
  extract_lets
  refine KFB.if_not (by rfl) ?_
  refine wpAny_bind (m := Builtin.notOverATurnedClass [.type "object"]) (wpAny_of_eq turned_obj ?_)
  refine wpAny_bind (m := Builtin.extendedBase [.type "object"]) (wpAny_of_eq ext_obj ?_)
  extract_lets
  have hN : 40 ≤ aN := B.hi _ mN
  refine wpAny_ite_false (by rw [decide_eq_false_iff_not, beq_iff_eq]; rintro rfl; exact absurd hN (by decide)) ?_
  refine wpAny_bind (m := dictEntries aN) ?_
  unfold dictEntries
  refine wpAny_bind (wpAny_loadPart (B.has _ mN) (wpAny_pure ?_))
  refine wpAny_bind (wpAny_specialOf (T := "dict") ⟨_, B.has _ mN, rfl⟩ it_dict ?_)
  extract_lets
  refine wpAny_ite_true ?_ ?_
  · rw [decide_eq_true_eq, show ((some (Value.builtin "dict.__iter__") : Option Value) == some (Value.builtin "dict.__iter__")) = true from by decide +kernel, Bool.or_true]
  refine wpAny_bind (wpAny_pure ?_)
  refine wpAny_bind (wpAny_holding (sr_ok B N hs mS ho fun h₁ B₁ => ?_))
  have hz : es.toArray.size ≤ sizeLine := by rw [List.size_toArray, N.length, sizeLine_eq]; simp
  refine wpAny_bind (wpAny_newObj_type (T := "dict") (data := .dict es.toArray) ?_ (by first | exact hz | (show es.toArray.size ≤ _; lia) | (simp only [sizeOk]; lia) | trivial))
  have B₂ := B₁.push (o := dictOf es 0) rfl
  change wpAny (model prog w) A _ Q E ⟨h₁.push (dictOf es 0), g, d, t, os⟩
  generalize h₁.push (dictOf es 0) = h₂ at B₂ ⊢
  generalize h₁.objs.size = ns at B₂ ⊢
  have mns : (ns, dictOf es 0) ∈ (ns, dictOf es 0) :: l := .head _
  dsimp -zeta only
  extract_lets
  refine KFB.if_not (by show (!(es.toArray.any fun y => y.key.isStr (Str.ofString "__module__"))) = false; rw [has_of N hm]; rfl) ?_
  refine wpAny_bind (KFB.if_not (by decide +kernel) (wpAny_pure ?_))
  extract_lets
  refine KFB.if_not (by decide +kernel) ?_
  refine wpAny_bind (n_get B₂ N mns ?_)
  rw [hq]
  extract_lets
  refine wpAny_bind (n_get B₂ N mns ?_)
  rw [hq]
  refine wpAny_bind (m := asStr? (.str q tq)) (wpAny_of_eq (a := some q) rfl ?_)
  refine wpAny_bind (wpAny_pure ?_)
  refine wpAny_bind (n_get B₂ N mns ?_)
  rw [hd]
  extract_lets
  refine wpAny_bind (m := alloc _) (b_alloc B₂ rfl fun a h₃ B₃ => ?_)
  extract_lets
  refine KFB.if_so (by rfl) ?_
  refine wpAny_bind (m := setSlotAt a 0 _) (y_slot (f := fun o => (a, o) :: (ns, dictOf es 0) :: l) (by decide) B₃ (fun o => .head) rfl fun h₄ B₄ => ?_)
  refine wpAny_bind (m := setSlotAt a 2 _) (y_slot (f := fun o => (a, o) :: (ns, dictOf es 0) :: l) (by decide) B₄ (fun o => .head) rfl fun h₅ B₅ => ?_)
  extract_lets
  refine wpAny_bind (m := setSlotAt a 3 _) (y_slot (f := fun o => (a, o) :: (ns, dictOf es 0) :: l) (by decide) B₅ (fun o => .head) rfl fun h₆ B₆ => ?_)
  refine wpAny_bind (m := nsDel ns (Str.ofString "__qualname__")) (n_del (f := fun o => (a, _) :: (ns, o) :: l) B₆ N (fun o => .tail .head) (by rw [hq]; rfl) fun es₁ n₁ h₇ B₇ N₁ => ?_)
  have N₁' : NsB es₁ [(Str.ofString "__module__", vm), (Str.ofString "__firstlineno__", .int fl ti), (Str.ofString "__slots__", .ref aS), (Str.ofString "__init__", .ref f1), (Str.ofString "__lt__", .ref f2),
   (Str.ofString "__gt__", .ref f3), (Str.ofString "__eq__", .ref f4), (Str.ofString "__le__", .ref f5), (Str.ofString "__ge__", .ref f6), (Str.ofString "__hash__", .none), (Str.ofString "__static_attributes__", .ref aA)] := N₁
  clear N₁
  refine wpAny_bind (n_get B₇ N₁' (.tail _ (.head _)) ?_)
  rw [show List.lookup (Str.ofString "__new__") _ = none from rfl]
  refine wpAny_bind (y_forC (a := Str.ofString "__init_subclass__") (r := [Str.ofString "__class_getitem__"]) ?_)
  refine wpAny_bind (n_get B₇ N₁' (.tail _ (.head _)) ?_)
  rw [show List.lookup (Str.ofString "__init_subclass__") _ = none from rfl]
  refine wpAny_pure ?_
  refine y_forC (a := Str.ofString "__class_getitem__") (r := []) ?_
  refine wpAny_bind (n_get B₇ N₁' (.tail _ (.head _)) ?_)
  rw [show List.lookup (Str.ofString "__class_getitem__") _ = none from rfl]
  refine wpAny_pure (y_forN ?_)
  refine wpAny_bind (n_get B₇ N₁' (.tail _ (.head _)) ?_)
  rw [show List.lookup (Str.ofString "__classcell__") _ = none from rfl]
  refine wpAny_bind (n_get B₇ N₁' (.tail _ (.head _)) ?_)
  rw [show List.lookup (Str.ofString "__classdictcell__") _ = none from rfl]
  refine wpAny_bind (m := Builtin.mroHook? (.type "type")) (wpAny_of_eq hook_type ?_)
  extract_lets
  refine wpAny_bind (m := Builtin.linearize [.type "object"] mroOf) (wpAny_of_eq lin_obj ?_)
  refine wpAny_bind (wpAny_pure ?_)
  have hfil : [Value.ref a, Value.type "object"].filter (fun x => x != Value.ref a) = [Value.type "object"] := by
    rw [List.filter_cons, List.filter_cons, List.filter_nil]
    rw [show (Value.ref a != Value.ref a) = false from by simp, show (Value.type "object" != Value.ref a) = true from by simp]
    rfl
  refine wpAny_bind (m := List.anyM _ (List.filter (fun x => x != Value.ref a) [Value.ref a, Value.type "object"])) ?_
  rw [hfil]
  refine wpAny_of_eq (a := false) (by kernel_rfl) ?_
  have hdel : (es.toArray.any fun x => x.key.isStr (Str.ofString "__del__")) = false := by
    have := find_nsB (name := Str.ofString "__del__") N
    rw [show List.lookup (Str.ofString "__del__") _ = none from rfl, Option.map_eq_none_iff, List.find?_eq_none] at this
    rw [List.any_toArray, List.any_eq_false.mpr this]
  rw [hdel]
  rw [slotO3] at B₇
  clear B₆ B₅ B₄ B₃ B₂
  have nAN : a ≠ ns := B₇.ne 0 1 rfl rfl (by decide)
  refine wpAny_bind (m := updateCls a _) (y_cls (f := fun o => (a, o) :: (ns, _) :: l) B₇ (fun o => .head) ?_ fun h₈ B₈ => ?_)
  · exact pastK rfl (Nat.zero_le _)
  refine wpAny_bind (m := Bind.madeBy _) (wpAny_of_eq so_made ?_)
  refine wpAny_bind (m := setSlotAt a 4 _) (y_slot (f := fun o => (a, o) :: (ns, _) :: l) (by decide) B₈ (fun o => .head) rfl fun h₉ B₉ => ?_)
  rw [slotO4] at B₉
  refine wpAny_bind (m := Bind.refreshMaker a) (rm_ok B₉ (.head _) rfl (.tail _ (.head _)) nAN N₁' rfl rfl rfl ?_)
  refine wpAny_bind (m := Builtin.Slots.install (.ref a) ns _ _) (in_ok (f := fun o o' => (a, o) :: (ns, o') :: l) B₉ N₁' (fun o o' => .head) (fun o => .tail .head) rfl (by simp) rfl fun p tp es₂ n₂ h₁₀ t₁₀ B₁₀ N₂ => ?_)
  refine wpAny_bind (m := Builtin.Slots.givesWeak _) (wpAny_of_eq so_weak ?_)
  refine wpAny_bind (m := setSlotAt a 5 _) (y_slot (f := fun o => (p, _) :: (a, o) :: (ns, _) :: l) (by decide) B₁₀ (fun o => .tail .head) rfl fun h₁₁ B₁₁ => ?_)
  rw [slotO5] at B₁₁
  refine y_f ?_
  refine wpAny_bind (m := nsGet ns (Str.ofString "__doc__")) (n_get B₁₁ N₂ (.tail _ (.tail _ (.head _))) ?_)
  refine KFB.if_so (by rfl) ?_
  refine wpAny_bind (m := nsSet ns _ _) (n_set (f := fun o => (p, _) :: (a, _) :: (ns, o) :: l) B₁₁ N₂ (fun o => .tail (.tail .head)) fun es₃ n₃ h₁₂ t₁₂ B₁₂ N₃ => ?_)
  have N₃' : NsB es₃ (lsF vm fl ti aS f1 f2 f3 f4 f5 f6 aA p) := N₃
  refine wpAny_bind (m := nsGet ns (Str.ofString "__eq__")) (n_get B₁₂ N₃' (.tail _ (.tail _ (.head _))) ?_)
  refine KFB.if_so (by rfl) ?_
  refine wpAny_bind (m := nsGet ns (Str.ofString "__hash__")) (n_get B₁₂ N₃' (.tail _ (.tail _ (.head _))) ?_)
  refine KFB.if_not (by rfl) ?_
  refine wpAny_bind (y_for1 (a := Value.type "object") ?_)
  refine wpAny_bind (wpAny_of_eq (note_obj a) (wpAny_pure ?_))
  change wpAny (model prog w) A _ Q E _
  refine wpAny_bind (wpAny_tryCatch (wpAny_holding ?_))
  refine wpAny_bind (m := dictEntries ns) ?_
  unfold dictEntries
  refine wpAny_bind (wpAny_loadPart (B₁₂.has _ (.tail _ (.tail _ (.head _)))) (wpAny_pure ?_))
  refine wpAny_bind (loopA N₃' (fun e p m hp Q' q' => ?_) ?_)
  · obtain ⟨⟨tk, hk⟩, _⟩ := hp
    rw [hk]
    refine wpAny_bind (wpAny_of_eq (a := some p.1) rfl ?_)
    exact y_sn (wpAny_pure q')
  extract_lets
  refine y_f ?_
  refine wpAny_bind (m := dictEntries ns) ?_
  unfold dictEntries
  refine wpAny_bind (wpAny_loadPart (B₁₂.has _ (.tail _ (.tail _ (.head _)))) (wpAny_pure ?_))
  have hsn := (lsF_sn (M := model prog w) (h := h₁₂) (fl := fl) (ti := ti) hvm (B₁₂.has (aS, _) (.tail _ (.tail _ (.tail _ mS)))) (fun f m => let ⟨o, a, b⟩ := mF f m; ⟨o, B₁₂.has (f, o) (.tail _ (.tail _ (.tail _ a))), b⟩)
    (let ⟨o, a, b⟩ := mA; ⟨o, B₁₂.has (aA, o) (.tail _ (.tail _ (.tail _ a))), b⟩) (B₁₂.has (p, _) (.head _)) rfl).mem
  refine wpAny_bind (loopA N₃' (fun e p' m hp Q' q' => ?_) ?_)
  · obtain ⟨h1, h2⟩ := hsn p' m
    obtain ⟨⟨tk, hk⟩, hv⟩ := hp
    rw [hk, hv]
    refine KFB.if_not h1 ?_
    refine wpAny_bind (h2.at ?_)
    exact wpAny_pure q'
  have hX : Frag.In [(a, clsKO a ns q aT u tq)] h₁₂ := B₁₂.frag (fun p' m => by rw [List.mem_singleton.mp m]; exact .tail _ (.head _))
  have hsub : ∀ base, [Value.ref a, Value.type "object"].contains base = true → Looks (model prog w) h₁₂ (isSubtype (.ref a) base) true := fun base hb => looks_mroIn hX (by
    unfold mroIn clsIn
    rw [lk0]
    exact congrArg some hb)
  have hA := B₁₂.has (a, clsKO a ns q aT u tq) (.tail _ (.head _))
  refine wpAny_bind (sup_call hA rfl (hsub _ (by simp)) fun h₁₃ e₁₃ k₁₃ => ?_)
  have B₁₃ := B₁₂.kp k₁₃
  have hA₁₃ := k₁₃ _ _ hA
  have hno : Looks (model prog w) h₁₃ (opaqueClassAbove (.ref a)) none := looks_opaque (G.K.keeps B₁₃.keep) (by k_is)
  refine wpAny_bind (wpAny_holding (sup_get e₁₃ hA₁₃ rfl hno rfl ((hsub _ (by simp)).keeps k₁₃) ?_))
  refine wpAny_bind (sub_run (Heap.get?_push_size _ rfl) (Heap.get?_push_of_some _ hA₁₃) rfl rfl hqn (wpAny_pure ?_))
  exact wpAny_pure (qq a ns p _ es₃ n₃ _ _ (B₁₃.kp (Kp.push _ _)) N₃')
end
end

section
section
variable {prog : Program} {w : World} {mg mb : Str → Option Value} {A : Around}

noncomputable def cmp3 (ns ms : List Int) : Int := b2i (lexI ms ns) - b2i (lexI ns ms)

theorem cmp_ok {x y : Value} {ns ms : List Int} {s : Shared} {R : Value → Shared → Prop} (G : Gd w mg mb s.heap) (a : Ar A 2) (hx : IntsH (Of s.heap []) x ns) (hy : IntsH (Of s.heap []) y ms)
    (q : ∀ h' u t', Kp s.heap h' → R (.int (cmp3 ns ms) u) ⟨h', s.gens, s.drawn, t', s.os⟩) :
    codeAny (model prog w) A (.call (.ref 76) ⟨[x, y], []⟩) (RetR R) s := by
  refine enter [(Str.ofString "x", x), (Str.ofString "y", y)] G a.d0 (by k_is) (by k_is) rfl rfl ?_
  intro env h₁ t₁ F
  have a1 : Ar (A.deeper env) 1 := a.deeper
  obtain ⟨l1, v1, rfl, x1, i1⟩ := hx.le F.args
  obtain ⟨l2, v2, rfl, x2, i2⟩ := hy.le F.args
  walk_at "xs"
  refine list_gt x1.is x2.is i1 i2 (by have := a1.un; lia) ?_
  walk_at "xs"
  refine list_lt x1.is x2.is i1 i2 (by have := a1.un; lia) ?_
  refine sub_bool ?_
  exact q _ _ _ F.keep

theorem compare_ok {x y : Value} {late : Bool} {p r : Str × Int} {s : Shared} {R : Value → Shared → Prop} (G : Gd w mg mb s.heap) (a : Ar A 3) (hx : ItemH late (Of s.heap []) x p) (hy : ItemH late (Of s.heap []) y r)
    (q : ∀ h' u t', Kp s.heap h' → R (.int (cmp3 (marksL p.1.cps.toList late) (marksL r.1.cps.toList late)) u) ⟨h', s.gens, s.drawn, t', s.os⟩) :
    codeAny (model prog w) A (.call (.ref 116) ⟨[x, y], []⟩) (RetR R) s := by
  refine enter [(Str.ofString "one", x), (Str.ofString "other", y)] G a.d0 (by k_is) (by k_is) rfl rfl ?_
  intro env h₁ t₁ F
  have a1 : Ar (A.deeper env) 2 := a.deeper
  obtain ⟨l1, u1, v1, m1, rfl, x1, i1⟩ := hx.le F.args
  obtain ⟨l2, u2, v2, m2, rfl, x2, i2⟩ := hy.le F.args
  have x1' := x1.is
  have x2' := x2.is
  walk_at "xs"
  refine ⟨G.keeps F.keep, r_con (cmp_ok (G.keeps F.keep) a1 (i1.le (Of.sub fun _ m => (nomatch m))) (i2.le (Of.sub fun _ m => (nomatch m))) ?_)⟩
  intro h' u t' k
  exact q _ _ _ (F.keep.trans k)
end
end

section
noncomputable abbrev prmM (x : String) (pa pb : Pos) : Arguments :=
  { posonlyargs := [], args := [{ arg := Str.ofString "self", annotation := none, pos := pa }, { arg := Str.ofString x, annotation := none, pos := pb }], vararg := none, kwonlyargs := [], kw_defaults := [], kwarg := none, defaults := [] }
noncomputable abbrev bdyM (op : CmpOp) (q0 q1 q2 q3 q4 q5 q6 q7 q8 : Pos) : List Stmt :=
  [.Return (some (.Compare (.Call (.Name (Str.ofString "mycmp") q0) [.Attribute (.Name (Str.ofString "self") q1) (Str.ofString "obj") q2, .Attribute (.Name (Str.ofString "other") q3) (Str.ofString "obj") q4] [] q5) [op] [.Constant (.int 0) 0 q6] q7)) q8]
noncomputable abbrev scpM : Scope := { kind := .function, names := [(Str.ofString "self", .local), (Str.ofString "other", .local), (Str.ofString "mycmp", .free)], isGenerator := false, isCoroutine := false }
noncomputable abbrev bdyI (q0 q1 q2 q3 : Pos) : List Stmt := [.Assign [.Attribute (.Name (Str.ofString "self") q0) (Str.ofString "obj") q1] (.Name (Str.ofString "obj") q2) q3]
noncomputable abbrev scpI : Scope := { kind := .function, names := [(Str.ofString "self", .local), (Str.ofString "obj", .local)], isGenerator := false, isCoroutine := false }
inductive MethAt (H : Hp) (f : Addr) (name : Str) (op : CmpOp) (cell : Addr) : Prop
  | mk (o : Obj) (qual : Str) (pa pb : Pos) (q0 q1 q2 q3 q4 q5 q6 q7 q8 : Pos) (pm : Value) (c : Addr) (oc : Obj) (h1 : H f o) (h2 : FnO o name qual (prmM "other" pa pb) (bdyM op q0 q1 q2 q3 q4 q5 q6 q7 q8) scpM [(Str.ofString "mycmp", cell)] pm c) (h3 : H c oc) (h4 : RecO oc qual)
inductive InitAt (H : Hp) (f : Addr) : Prop
  | mk (o : Obj) (qual : Str) (pa pb : Pos) (q0 q1 q2 q3 : Pos) (pm : Value) (c : Addr) (oc : Obj) (h1 : H f o) (h2 : FnO o (Str.ofString "__init__") qual (prmM "obj" pa pb) (bdyI q0 q1 q2 q3) scpI [] pm c) (h3 : H c oc) (h4 : RecO oc qual)
theorem MethAt.le {H H' : Hp} {f : Addr} {name : Str} {op : CmpOp} {cell : Addr} (x : MethAt H f name op cell) (k : Le H H') : MethAt H' f name op cell := by
  obtain ⟨o, qual, pa, pb, q0, q1, q2, q3, q4, q5, q6, q7, q8, pm, c, oc, h1, h2, h3, h4⟩ := x
  exact ⟨o, qual, pa, pb, q0, q1, q2, q3, q4, q5, q6, q7, q8, pm, c, oc, k _ _ h1, h2, k _ _ h3, h4⟩
theorem InitAt.le {H H' : Hp} {f : Addr} (x : InitAt H f) (k : Le H H') : InitAt H' f := by
  obtain ⟨o, qual, pa, pb, q0, q1, q2, q3, pm, c, oc, h1, h2, h3, h4⟩ := x
  exact ⟨o, qual, pa, pb, q0, q1, q2, q3, pm, c, oc, k _ _ h1, h2, k _ _ h3, h4⟩
structure KData where
  (ns p : Addr) (q : Str) (aT : Addr) (u tq tp : Tok) (es : List DictEntry) (n : Nat) (vm : Value) (fl : Int) (ti : Tok) (aS f1 f2 f3 f4 f5 f6 aA cell : Addr)
structure KOf (H : Hp) (C : Addr) (K : KData) : Prop where
  cls : H C (clsKO C K.ns K.q K.aT K.u K.tq)
  ns : H K.ns (dictOf K.es K.n)
  N : NsB K.es (lsF K.vm K.fl K.ti K.aS K.f1 K.f2 K.f3 K.f4 K.f5 K.f6 K.aA K.p)
  dsc : H K.p (dscKO C K.tp)
  init : InitAt H K.f1
  lt : MethAt H K.f2 (Str.ofString "__lt__") .Lt K.cell
  gt : MethAt H K.f3 (Str.ofString "__gt__") .Gt K.cell
  eq : MethAt H K.f4 (Str.ofString "__eq__") .Eq K.cell
  le : MethAt H K.f5 (Str.ofString "__le__") .LtE K.cell
  ge : MethAt H K.f6 (Str.ofString "__ge__") .GtE K.cell
  cell : ∃ o, H K.cell o ∧ o.data = .cell (some (.ref 116))
noncomputable def KAt (H : Hp) (C : Addr) : Prop := ∃ K, KOf H C K
theorem KOf.keeps {H H' : Hp} {C : Addr} {K : KData} (x : KOf H C K) (k : Le H H') : KOf H' C K :=
  ⟨k _ _ x.cls, k _ _ x.ns, x.N, k _ _ x.dsc, x.init.le k, x.lt.le k, x.gt.le k, x.eq.le k, x.le.le k, x.ge.le k, let ⟨o, a, b⟩ := x.cell; ⟨o, k _ _ a, b⟩⟩
theorem KAt.keeps {H H' : Hp} {C : Addr} (x : KAt H C) (k : Le H H') : KAt H' C := let ⟨K, x⟩ := x; ⟨K, x.keeps k⟩
noncomputable def instO (C dx : Addr) (sl : Array (Option Value)) : Obj := { cls := .ref C, dict := some dx, data := .plain, slots := sl }
noncomputable def KeyH (H : Hp) (C : Addr) (v x : Value) : Prop := ∃ a dx, v = .ref a ∧ H a (instO C dx #[some x]) ∧ H dx emptyDict
theorem KeyH.le {H H' : Hp} {C : Addr} {v x : Value} (y : KeyH H C v x) (k : Le H H') : KeyH H' C v x := let ⟨a, dx, e, h1, h2⟩ := y; ⟨a, dx, e, k _ _ h1, k _ _ h2⟩

noncomputable def frgK (C : Addr) (K : KData) (of : Obj) (f : Addr) : Frag := [(C, clsKO C K.ns K.q K.aT K.u K.tq), (K.ns, dictOf K.es K.n), (K.p, dscKO C K.tp), (f, of)]
section
variable {h : Heap} {X : List Addr} {C : Addr} {K : KData}
theorem KOf.ne1 (x : KOf (Of h X) C K) : K.ns ≠ C := fun e => by
  have a := x.cls.1; have b := x.ns.1
  rw [e, a] at b
  have z : Data.cls _ = Data.dict _ _ := congrArg Obj.data (Option.some.inj b)
  cases z
theorem KOf.ne2 (x : KOf (Of h X) C K) : K.p ≠ C := fun e => by
  have a := x.cls.1; have b := x.dsc.1
  rw [e, a] at b
  have z : Data.cls _ = Data.fields _ := congrArg Obj.data (Option.some.inj b)
  cases z
theorem KOf.ne3 (x : KOf (Of h X) C K) : K.p ≠ K.ns := fun e => by
  have a := x.ns.1; have b := x.dsc.1
  rw [e, a] at b
  have z : Data.dict _ _ = Data.fields _ := congrArg Obj.data (Option.some.inj b)
  cases z
theorem frg_in (x : KOf (Of h X) C K) {f : Addr} {of : Obj} (hf : h.get? f = some of) : (frgK C K of f).In h := by
  intro a o e
  have m := mem_of_lookupK e
  rcases List.mem_cons.mp m with q | m
  · cases q; exact x.cls.1
  rcases List.mem_cons.mp m with q | m
  · cases q; exact x.ns.1
  rcases List.mem_cons.mp m with q | m
  · cases q; exact x.dsc.1
  cases List.mem_singleton.mp m; exact hf
theorem frg_find (x : KOf (Of h X) C K) {f : Addr} {of : Obj} {name : Str} : findIn (frgK C K of f) (.ref C) name = some (orObj name ((lsF K.vm K.fl K.ti K.aS K.f1 K.f2 K.f3 K.f4 K.f5 K.f6 K.aA K.p).lookup name)) :=
  kfind (lk0 _ _ _) ((lkN _ _ x.ne1).trans (lk0 _ _ _)) x.N rfl
theorem frg_cls {f : Addr} {of : Obj} : clsIn (frgK C K of f) C = some { name := Str.ofString "K", bases := [.type "object"], mro := [.ref C, .type "object"], ns := K.ns, qualname := K.q, hasDict := false, slotNames := [Str.ofString "obj"] } := by
  unfold clsIn frgK
  rw [lk0]
theorem frg_p (x : KOf (Of h X) C K) {f : Addr} {of : Obj} : (frgK C K of f).lookup K.p = some (dscKO C K.tp) := (lkN _ _ x.ne2).trans ((lkN _ _ x.ne3).trans (lk0 _ _ _))
theorem frg_slot (x : KOf (Of h X) C K) {f : Addr} {of : Obj} : slotIn (frgK C K of f) K.p C = some 0 := by
  unfold slotIn recIn
  rw [frg_p x, frg_cls]
  simp [rawInt]
theorem frg_get (x : KOf (Of h X) C K) {f : Addr} {of : Obj} : specialIn (frgK C K of f) (.ref K.p) "__get__" = some (some (.builtin "member_descriptor.__get__")) := by
  unfold specialIn typeIn
  dsimp only
  rw [frg_p x]
  kernel_rfl
theorem frg_takes (x : KOf (Of h X) C K) {f : Addr} {of : Obj} : takesIn (frgK C K of f) (.ref K.p) = some true := by
  unfold takesIn specialIn typeIn
  dsimp only
  rw [frg_p x]
  kernel_rfl
theorem frg_plain (x : KOf (Of h X) C K) {f : Addr} {of : Obj} {name : Str} : plainGet (frgK C K of f) C name = true := by
  unfold plainGet
  rw [frg_find x, frg_find x]
  kernel_rfl
end
section
variable {prog : Program} {w : World} {mg mb : Str → Option Value} {A : Around} {E : Value → Shared → Prop} {h₀ h : Heap} {g : Array GenState} {d : Drawn} {t : Nat} {os : OsState} {X : List Addr} {C : Addr}
theorem k_obj {x : Addr} {dx : Addr} {v : Value} {expr : Bool} {Q : Value → Shared → Prop} (y : KAt (Of h X) C) (hx : h.get? x = some (instO C dx #[some v])) (hd : h.get? dx = some emptyDict) (hv : handedIn v = true)
    (q : ∀ t', Q v ⟨h, g, d, t', os⟩) : wpAny (model prog w) A (getAttr (.ref x) (Str.ofString "obj") expr) Q E ⟨h, g, d, t, os⟩ := by
  obtain ⟨K, y⟩ := y
  have X := frg_in y y.cls.1
  have I : InstAt h x (instO C dx #[some v]) C (some emptyDict) := ⟨hx, rfl, rfl, hd⟩
  have p := plainGet_of (frg_plain y (f := C) (of := clsKO C K.ns K.q K.aT K.u K.tq) (name := Str.ofString "obj"))
  refine get_bind X I p.1 (findObj_data (by rw [frg_cls]; rfl) ((frg_find y).trans rfl) (frg_get y) (frg_takes y)) p.2 ?_
  refine wpAny_call (slot_get X I (frg_slot y) (v := v) rfl ?_)
  exact handed_on hv (q _)

theorem enterF {R : Value → Shared → Prop} {s : Shared} {f c : Addr} {name qual : Str} {params : Arguments} {body : List Stmt} {scope : Scope} {clos : List (Str × Addr)} {doc pm ctv : Value} {args : List Value} (binds : List (Str × Value))
    (hlim : s.heap.NoLimit) (hroom : A.depth < recursionLimit) (ho : s.heap.get? f = some (fnMade name qual params body scope clos doc pm c ctv)) (hcd : s.heap.CodeRec (.ref c) qual)
    (hbind : bindArgs (fnX name qual params body scope clos .none .none doc pm none (.ref c) ctv) ⟨args, []⟩ = pure binds) (hloc : (binds.all fun x => decide (scope.names.lookup x.1 = some .local)) = true)
    (h : let env := envX qual scope s.heap.objs.size f (.ref c) clos; ∀ h₁ t₁, FrL s.heap env.locals h₁ binds.reverse →
      wpAny (model prog w) (A.deeper env) (execs body env) (fun fl s' => R (match fl with | .ret v => v | _ => .none) s') NoE ⟨h₁, s.gens, s.drawn, t₁, s.os⟩)
    (hco : scope.isCoroutine = false := by rfl) (hgen : scope.isGenerator = false := by rfl) (hk : scope.kind = .function := by rfl)
    (hcell : ∀ x ∈ scope.names, x.2 ≠ .cell := by decide) : codeAny (model prog w) A (.call (.ref f) ⟨args, []⟩) (RetR R) s := by
  refine codeAny_call_def (fd := fnX name qual params body scope clos .none .none doc pm none (.ref c) ctv) (body := body) (binds := binds) hroom ho rfl hlim hcd rfl (.of_eq hbind) hcell (locs hloc) (fun h₁ hns hk₁ => ?_) hco hgen hk
  exact wpAny_mono (h h₁ _ ⟨_, ⟨hns, hk₁, Nat.le_refl _⟩, fun _ _ e => e⟩) (fun _ _ x => x) (fun _ _ x => x.elim)

noncomputable def cmpB (op : CmpOp) (i : Int) : Bool := match op with
  | .Lt => decide (i < 0)
  | .Gt => decide (0 < i)
  | .Eq => i == 0
  | .LtE => decide (i ≤ 0)
  | .GtE => decide (0 ≤ i)
  | _ => false
noncomputable def isCmp : CmpOp → Bool
  | .Lt | .Gt | .Eq | .LtE | .GtE => true
  | _ => false
theorem r_cmp0 {op : CmpOp} {i : Int} {t u : Tok} {s : Shared} {Q : Value → Shared → Prop} (ho : isCmp op = true) (q : Q (.bool (cmpB op i)) s) : wpAny (model prog w) A (compareOp op (.int i t) (.int 0 u)) Q E s := by
  cases op <;> first | cases ho | skip
  · exact PyProof.Rows.eq_int q
  · exact wpAny_lt_int q
  · exact PyProof.Rows.le_int q
  · exact PyProof.Rows.gt_int q
  · exact PyProof.Rows.ge_int q
theorem r_free {s : Shared} {env : Env} {x : Str} {c : Addr} {v : Value} {pos : Pos} {Q : Value → Shared → Prop} (hc : env.cells.lookup x = some c) (hv : s.heap.IsCell c (some v)) (q : Q v s) (hk : env.scope.kind = .function := by rfl) (hl : env.kindOf x = some .free := by rfl)
    (hd : (x == ("__debug__" : Str)) = false := by decide) (hn : (x == ("__classdict__" : Str)) = false := by decide) : wpAny (model prog w) A (eval (.Name x pos) env) Q E s := wpAny_Name (wpAny_loadName_free hk hl hc hv q hn) hd

theorem meth_ok {f cell : Addr} {name : Str} {op : CmpOp} {late : Bool} {v1 v2 x1 x2 : Value} {p r : Str × Int} {s : Shared} {R : Value → Shared → Prop} (hop : isCmp op = true) (G : Gd w mg mb s.heap) (y : KAt (Of s.heap []) C) (a : Ar A 4) (M : MethAt (Of s.heap []) f name op cell)
    (hc : ∃ o, Of s.heap [] cell o ∧ o.data = .cell (some (.ref 116))) (k1 : KeyH (Of s.heap []) C v1 x1) (k2 : KeyH (Of s.heap []) C v2 x2) (i1 : ItemH late (Of s.heap []) x1 p) (i2 : ItemH late (Of s.heap []) x2 r)
    (q : ∀ h' t', Kp s.heap h' → R (.bool (cmpB op (cmp3 (marksL p.1.cps.toList late) (marksL r.1.cps.toList late)))) ⟨h', s.gens, s.drawn, t', s.os⟩) :
    codeAny (model prog w) A (.call (.ref f) ⟨[v1, v2], []⟩) (RetR R) s := by
  obtain ⟨o, qual, pa, pb, q0, q1, q2, q3, q4, q5, q6, q7, q8, pm, c, oc, ⟨hf, _⟩, ⟨doc, ctv, rfl⟩, ⟨hoc, _⟩, hr⟩ := M
  obtain ⟨oce, ⟨hce, _⟩, hcd⟩ := hc
  obtain ⟨n1, d1, rfl, ⟨g1, _⟩, ⟨e1, _⟩⟩ := k1
  obtain ⟨n2, d2, rfl, ⟨g2, _⟩, ⟨e2, _⟩⟩ := k2
  have hv1 : handedIn x1 = true := by obtain ⟨_, _, _, _, rfl, _⟩ := i1; rfl
  have hv2 : handedIn x2 = true := by obtain ⟨_, _, _, _, rfl, _⟩ := i2; rfl
  refine enterF [(Str.ofString "self", .ref n1), (Str.ofString "other", .ref n2)] G.T.nolimit a.d0 hf (hr.rc hoc) rfl rfl ?_
  intro env h₁ t₁ F
  have a1 : Ar (A.deeper env) 3 := a.deeper
  have y₁ : KAt (Of h₁ [env.locals]) C := y.keeps F.args
  refine s_ret (wpAny_Compare1 ?_ ?hm)
  case hm => cases op <;> first | rfl | cases hop
  refine r_call ?_ (by with_unfolding_all rfl)
  refine r_free (c := cell) (v := .ref 116) rfl ⟨_, F.keep _ _ hce, hcd⟩ ?_
  refine r_callK F G (by k_is) ?_ (by with_unfolding_all rfl) (by with_unfolding_all rfl)
  refine r_args (Attribute_Name_ ?_ (by with_unfolding_all rfl)) (by with_unfolding_all rfl)
  walk_at "xs"
  refine k_obj y₁ (F.keep _ _ g1) (F.keep _ _ e1) hv1 fun t₂ => ?_
  refine r_args (Attribute_Name_ ?_ (by with_unfolding_all rfl)) (by with_unfolding_all rfl)
  walk_at "xs"
  refine k_obj y₁ (F.keep _ _ g2) (F.keep _ _ e2) hv2 fun t₃ => ?_
  refine r_args0 ?_
  refine ⟨G.keeps F.keep, r_con (compare_ok (G.keeps F.keep) a1 ((i1.le F.args).le (Of.sub fun _ m => (nomatch m))) ((i2.le F.args).le (Of.sub fun _ m => (nomatch m))) ?_)⟩
  intro h' u t' k
  walk_at "xs"
  refine r_cmp0 hop ?_
  exact q _ _ (F.keep.trans k)

theorem ne_cls {h : Heap} {a b : Addr} {o o' : Obj} (ha : h.get? a = some o) (hb : h.get? b = some o') (hc : o.cls ≠ o'.cls) : a ≠ b := fun z => by
  rw [z, hb] at ha
  exact hc (congrArg Obj.cls (Option.some.inj ha)).symm
noncomputable def opName : CmpOp → Str
  | .Lt => Str.ofString "__lt__"
  | .Gt => Str.ofString "__gt__"
  | .Eq => Str.ofString "__eq__"
  | .LtE => Str.ofString "__le__"
  | _ => Str.ofString "__ge__"
theorem KOf.meth {H : Hp} {K : KData} (x : KOf H C K) {op : CmpOp} (hop : isCmp op = true) : ∃ f, MethAt H f (opName op) op K.cell ∧ orObj (cmpInfo op).2.1 ((lsF K.vm K.fl K.ti K.aS K.f1 K.f2 K.f3 K.f4 K.f5 K.f6 K.aA K.p).lookup (cmpInfo op).2.1) = some (.ref f) := by
  cases op <;> first | cases hop | skip
  · exact ⟨K.f4, x.eq, rfl⟩
  · exact ⟨K.f2, x.lt, rfl⟩
  · exact ⟨K.f5, x.le, rfl⟩
  · exact ⟨K.f3, x.gt, rfl⟩
  · exact ⟨K.f6, x.ge, rfl⟩
theorem key_ifb {op : CmpOp} {late : Bool} {v1 v2 x1 x2 : Value} {p r : Str × Int} {s : Shared} {Q : Option Value → Shared → Prop} (hop : isCmp op = true) (G : Gd w mg mb s.heap) (y : KAt (Of s.heap []) C) (a : Ar A 4)
    (k1 : KeyH (Of s.heap []) C v1 x1) (k2 : KeyH (Of s.heap []) C v2 x2) (i1 : ItemH late (Of s.heap []) x1 p) (i2 : ItemH late (Of s.heap []) x2 r)
    (q : ∀ h' t', Kp s.heap h' → Q (some (.bool (cmpB op (cmp3 (marksL p.1.cps.toList late) (marksL r.1.cps.toList late))))) ⟨h', s.gens, s.drawn, t', s.os⟩) :
    wpAny (model prog w) A (callSpecialIfBound? v1 (cmpInfo op).2.1 [v2]) Q E s := by
  have y' := y
  obtain ⟨K, yk⟩ := y
  obtain ⟨f, M, hfind⟩ := yk.meth hop
  obtain ⟨n1, d1, rfl, ⟨g1, _⟩, ⟨e1, _⟩⟩ := id k1
  obtain ⟨n2, d2, rfl, ⟨g2, _⟩, ⟨e2, _⟩⟩ := id k2
  have hf : ∃ o, s.heap.get? f = some o ∧ o.cls = .type "function" := by
    obtain ⟨o, qual, pa, pb, q0, q1, q2, q3, q4, q5, q6, q7, q8, pm, c, oc, ⟨hf, _⟩, ⟨doc, ctv, rfl⟩, _⟩ := M
    exact ⟨_, hf, rfl⟩
  obtain ⟨of, hfo, hfc⟩ := hf
  have X : (frgK C K of f).In s.heap := frg_in yk hfo
  have I1 : InstAt s.heap n1 (instO C d1 #[some x1]) C (some emptyDict) := ⟨g1, rfl, rfl, e1⟩
  have I2 : InstAt s.heap n2 (instO C d2 #[some x2]) C (some emptyDict) := ⟨g2, rfl, rfl, e2⟩
  have hs : findIn (frgK C K of f) (.ref C) (cmpInfo op).2.1 = some (some (.ref f)) := (frg_find yk).trans (congrArg some hfind)
  have hfn : isFn (frgK C K of f) (.ref f) = true := by
    have ne1 : f ≠ C := ne_cls hfo yk.cls.1 (by rw [hfc]; simp)
    have ne2 : f ≠ K.ns := ne_cls hfo yk.ns.1 (by rw [hfc]; simp [dictOf])
    have ne3 : f ≠ K.p := ne_cls hfo yk.dsc.1 (by rw [hfc]; simp)
    unfold isFn typeIn
    dsimp only
    rw [show (frgK C K of f).lookup f = some of from (lkN _ _ ne1).trans ((lkN _ _ ne2).trans ((lkN _ _ ne3).trans (lk0 _ _ _)))]
    rw [Option.map_some, hfc]
    rfl
  exact ifBound_K X I1 hs hfn (r_con (meth_ok hop G y' a M yk.cell k1 k2 i1 i2 fun h' t' k => q h' t' k))
theorem key_rich {op : CmpOp} {late : Bool} {v1 v2 x1 x2 : Value} {p r : Str × Int} {s : Shared} {Q : Value → Shared → Prop} (hop : isCmp op = true) (G : Gd w mg mb s.heap) (y : KAt (Of s.heap []) C) (a : Ar A 4)
    (k1 : KeyH (Of s.heap []) C v1 x1) (k2 : KeyH (Of s.heap []) C v2 x2) (i1 : ItemH late (Of s.heap []) x1 p) (i2 : ItemH late (Of s.heap []) x2 r)
    (q : ∀ h' t', Kp s.heap h' → Q (.bool (cmpB op (cmp3 (marksL p.1.cps.toList late) (marksL r.1.cps.toList late)))) ⟨h', s.gens, s.drawn, t', s.os⟩) :
    wpAny (model prog w) A (richCompare op v1 v2) Q E s := by
  obtain ⟨n1, d1, rfl, ⟨g1, _⟩, ⟨e1, _⟩⟩ := id k1
  obtain ⟨n2, d2, rfl, ⟨g2, _⟩, ⟨e2, _⟩⟩ := id k2
  have I1 : InstAt s.heap n1 (instO C d1 #[some x1]) C (some emptyDict) := ⟨g1, rfl, rfl, e1⟩
  have I2 : InstAt s.heap n2 (instO C d2 #[some x2]) C (some emptyDict) := ⟨g2, rfl, rfl, e2⟩
  have one : wpAny (model prog w) A (tryCompare (.ref n1) (cmpInfo op).2.1 (.ref n2)) (fun r s' => ∃ v, r = some v ∧ Q v s') E s := by
    unfold tryCompare
    refine wpAny_bind (key_ifb hop G y a k1 k2 i1 i2 fun h' t' k => ?_)
    exact wpAny_pure ⟨_, rfl, q h' t' k⟩
  unfold richCompare
  simp only [oneThing_ref]
  refine wpAny_holding (wpAny_bind (wpAny_cRoomFor (by have := a.un; lia) ?_))
  refine wpAny_bind (I1.type.here (wpAny_bind (I2.type.here ?_)))
  refine KFB.if_not (by simp) ?_
  refine wpAny_bind (wpAny_pure ?_)
  simp only [Bool.false_eq_true, if_false]
  refine wpAny_bind (wpAny_mono one (fun r s' z => ?_) fun _ _ e => e)
  obtain ⟨v, rfl, hq⟩ := z
  exact wpAny_pure hq
theorem key_cmp {op : CmpOp} {late : Bool} {v1 v2 x1 x2 : Value} {p r : Str × Int} {s : Shared} {Q : Value → Shared → Prop} (hop : isCmp op = true) (G : Gd w mg mb s.heap) (y : KAt (Of s.heap []) C) (a : Ar A 4)
    (k1 : KeyH (Of s.heap []) C v1 x1) (k2 : KeyH (Of s.heap []) C v2 x2) (i1 : ItemH late (Of s.heap []) x1 p) (i2 : ItemH late (Of s.heap []) x2 r)
    (q : ∀ h' t', Kp s.heap h' → Q (.bool (cmpB op (cmp3 (marksL p.1.cps.toList late) (marksL r.1.cps.toList late)))) ⟨h', s.gens, s.drawn, t', s.os⟩) :
    wpAny (model prog w) A (compareOp op v1 v2) Q E s := by
  have := key_rich (prog := prog) (E := E) hop G y a k1 k2 i1 i2 q
  cases op <;> first | (cases hop; done) | exact this

theorem sl_0 (v : Option Value) : (((#[] : Array (Option Value)) ++ Array.replicate (0 + 1 - (#[] : Array (Option Value)).size) none).setIfInBounds 0 v) = #[v] := sl_a v
theorem init_ok {f x dx : Addr} {v : Value} {s : Shared} {R : Value → Shared → Prop} (G : Gd w mg mb s.heap) (y : KAt (Of s.heap []) C) (a : Ar A 1) (M : InitAt (Of s.heap []) f) (hx : s.heap.get? x = some (instO C dx #[])) (hdx : s.heap.get? dx = some emptyDict)
    (q : ∀ h' t', Pr [x] s.heap h' → h'.get? x = some (instO C dx #[some v]) → R .none ⟨h', s.gens, s.drawn, t', s.os⟩) :
    codeAny (model prog w) A (.call (.ref f) ⟨[.ref x, v], []⟩) (RetR R) s := by
  obtain ⟨o, qual, pa, pb, q0, q1, q2, q3, pm, c, oc, ⟨hf, _⟩, ⟨doc, ctv, rfl⟩, ⟨hoc, _⟩, hr⟩ := M
  refine enterF [(Str.ofString "self", .ref x), (Str.ofString "obj", v)] G.T.nolimit a.d0 hf (hr.rc hoc) rfl rfl ?_
  intro env h₁ t₁ F
  obtain ⟨K, yk⟩ := y
  have nx : ∀ {b : Addr} {ob : Obj}, s.heap.get? b = some ob → ob.cls ≠ .ref C → b ≠ x := fun hb hc => ne_cls hb hx hc
  have X₀ : (frgK C K (dscKO C K.tp) K.p).In (hideAll s.heap [x]) := by
    intro b ob e
    refine hideAll_get _ (frg_in yk yk.dsc.1 b ob e) fun m => ?_
    rw [List.mem_singleton.mp m] at e
    have m := mem_of_lookupK e
    rcases List.mem_cons.mp m with z | m
    · cases z; exact nx yk.cls.1 (by simp) rfl
    rcases List.mem_cons.mp m with z | m
    · cases z; exact nx yk.ns.1 (by simp [dictOf]) rfl
    rcases List.mem_cons.mp m with z | m
    · cases z; exact nx yk.dsc.1 (by simp) rfl
    cases List.mem_singleton.mp m; exact nx yk.dsc.1 (by simp) rfl
  refine s_any (plainObj_wpAny_Assign_Attribute ?_ (by with_unfolding_all rfl))
  walk_at "xs"
  obtain ⟨m, F', _⟩ := F.ex
  have Fh : Fr (hideAll s.heap [x]) env.locals h₁ m := ⟨F'.ns, fun b o e => F'.keep b o (of_hideAll _ e), Nat.le_trans (Nat.le_of_eq (hideAll_size _ _)) F'.above⟩
  have N : News (hideAll s.heap [x]) env.locals h₁ [(x, instO C dx #[])] := fun p hp => by
    rw [List.mem_singleton.mp hp]
    have nL : x ≠ env.locals := fun z => by
      have b := F.base
      rw [← z, hx] at b; cases b
    exact ⟨F'.keep _ _ hx, nL, hideAll_none _ (.head _)⟩
  have I : InstAt h₁ x (instO C dx #[]) C (some emptyDict) := ⟨F'.keep _ _ hx, rfl, rfl, F'.keep _ _ hdx⟩
  refine set_slot (s := ⟨h₁, s.gens, s.drawn, _, s.os⟩) (ox' := instO C dx #[some v]) (news := [(x, instO C dx #[])]) (news' := [(x, instO C dx #[some v])]) Fh X₀ N I ((frg_find yk).trans ?_) ?_ ?_ ?_ (frg_slot yk) (by decide) ?_ rfl (.head (fun p m => nomatch m)) fun h' F₂ N₂ => ?_
  · kernel_rfl
  · unfold plainOver
    rw [frg_cls]; rfl
  · unfold takerIn
    rw [frg_find yk]
    rw [show orObj (Str.ofString "obj") ((lsF K.vm K.fl K.ti K.aS K.f1 K.f2 K.f3 K.f4 K.f5 K.f6 K.aA K.p).lookup (Str.ofString "obj")) = some (.ref K.p) from rfl]
    rw [Option.bind_some]
    dsimp only
    rw [frg_takes yk]
    rfl
  · unfold typeIn
    dsimp only
    rw [frg_p yk]; rfl
  · unfold instO
    dsimp only
    rw [sl_0]
  · refine s_nil (q h' _ (fun b o e n => ?_) (N₂ _ (.head _)).1)
    exact F₂.keep b o (hideAll_get _ e n)

noncomputable def KeyN (h h' : Heap) (C : Addr) (k v : Value) : Prop := ∃ a dx, k = .ref a ∧ h'.get? a = some (instO C dx #[some v]) ∧ h'.get? dx = some emptyDict ∧ h.get? a = none ∧ h.get? dx = none
theorem KeyN.of {h h' : Heap} {k v : Value} {X : List Addr} (x : KeyN h h' C k v) (hX : ∀ b ∈ X, ∃ o, h.get? b = some o) : KeyH (Of h' X) C k v := by
  obtain ⟨a, dx, e, h1, h2, h3, h4⟩ := x
  refine ⟨a, dx, e, ⟨h1, fun m => ?_⟩, ⟨h2, fun m => ?_⟩⟩
  · obtain ⟨o, z⟩ := hX _ m; rw [h3] at z; cases z
  · obtain ⟨o, z⟩ := hX _ m; rw [h4] at z; cases z
theorem Ar.under {n : Nat} {vals : List Value} (a : Ar A (n + 1)) : Ar (A.under (.builtin "type.__call__" ⟨.ref C :: vals, []⟩)) n :=
  ⟨a.hd, by rw [depth_under_kw]; have := a.dp; lia, by
    have e : (A.under (.builtin "type.__call__" ⟨.ref C :: vals, []⟩)).units = A.units + 1 := by first | rfl | kernel_rfl
    rw [e]; have := a.un; lia⟩
theorem mk_ok {v : Value} {s : Shared} {R : Value → Shared → Prop} (G : Gd w mg mb s.heap) (y : KAt (Of s.heap []) C) (a : Ar A 2)
    (q : ∀ k h' t', Kp s.heap h' → KeyN s.heap h' C k v → R k ⟨h', s.gens, s.drawn, t', s.os⟩) :
    codeAny (model prog w) A (.call (.ref C) ⟨[v], []⟩) (RetR R) s := by
  obtain ⟨h, g, d, t, os⟩ := s
  dsimp only at G y q
  have y' := y
  obtain ⟨K, yk⟩ := y
  have hf : ∃ o, h.get? K.f1 = some o ∧ o.cls = .type "function" := by
    obtain ⟨o, qual, pa, pb, q0, q1, q2, q3, pm, c, oc, ⟨hf, _⟩, ⟨doc, ctv, rfl⟩, _⟩ := yk.init
    exact ⟨_, hf, rfl⟩
  obtain ⟨of, hfo, hfc⟩ := hf
  have X : (frgK C K of K.f1).In h := frg_in yk hfo
  have ne1 : K.f1 ≠ C := ne_cls hfo yk.cls.1 (by rw [hfc]; simp)
  have ne2 : K.f1 ≠ K.ns := ne_cls hfo yk.ns.1 (by rw [hfc]; simp [dictOf])
  have ne3 : K.f1 ≠ K.p := ne_cls hfo yk.dsc.1 (by rw [hfc]; simp)
  have hm : makesIn (frgK C K of K.f1) C = true := by
    unfold makesIn
    rw [show (frgK C K of K.f1).lookup C = some (clsKO C K.ns K.q K.aT K.u K.tq) from lk0 _ _ _]
    dsimp only
    have e1 : specialIn (frgK C K of K.f1) (.ref C) "__call__" = some (some (.builtin "type.__call__")) := by
      unfold specialIn typeIn
      dsimp only
      rw [show (frgK C K of K.f1).lookup C = some (clsKO C K.ns K.q K.aT K.u K.tq) from lk0 _ _ _]
      kernel_rfl
    have e2 : instIn (frgK C K of K.f1) (.ref C) (.type "type") = some true := by
      unfold instIn typeIn
      dsimp only
      rw [show (frgK C K of K.f1).lookup C = some (clsKO C K.ns K.q K.aT K.u K.tq) from lk0 _ _ _]
      kernel_rfl
    rw [e1, e2]
    simp
  have hi : findIn (frgK C K of K.f1) (.ref C) "__init__" = some (some (.ref K.f1)) := (frg_find yk).trans rfl
  have hfn : typeIn (frgK C K of K.f1) (.ref K.f1) = some (.type "function") := by
    unfold typeIn
    dsimp only
    rw [show (frgK C K of K.f1).lookup K.f1 = some of from (lkN _ _ ne1).trans ((lkN _ _ ne2).trans ((lkN _ _ ne3).trans (lk0 _ _ _)))]
    rw [Option.map_some, hfc]
  refine make_core (makes_of X hm) (looks_findIn X hi) (fun self => bind_fn X self hfn) (.inl rfl) ?_
  have k : Kp h ((h.push emptyDict).push (instObj C h.objs.size)) := (Kp.push _ _).trans (Kp.push _ _)
  have hx : ((h.push emptyDict).push (instObj C h.objs.size)).get? (h.objs.size + 1) = some (instO C h.objs.size #[]) := by
    have : ((h.push emptyDict).push (instObj C h.objs.size)).get? (h.push emptyDict).objs.size = some (instObj C h.objs.size) := Heap.get?_push_size _ rfl
    rwa [Heap.size_push] at this
  have hdx : ((h.push emptyDict).push (instObj C h.objs.size)).get? h.objs.size = some emptyDict := Heap.get?_push_of_some _ (Heap.get?_push_size _ rfl)
  have nx : h.get? (h.objs.size + 1) = none := Heap.get?_none_of_le (Nat.le_succ _)
  refine codeAny_mono (init_ok (s := ⟨(h.push emptyDict).push (instObj C h.objs.size), g, d, t, os⟩) (R := fun r s' => r = .none ∧ R (.ref (h.objs.size + 1)) s') (G.keeps k) (y'.keeps (k.le _)) a.under (yk.init.le (k.le _)) hx hdx ?_) fun r s' z => ?_
  · intro h' t' p e
    refine ⟨rfl, q _ h' t' (fun b o eb => p b o (k b o eb) fun m => ?_) ⟨_, h.objs.size, rfl, e, p _ _ hdx fun m => ?_, nx, new_none h⟩⟩
    · rw [List.mem_singleton.mp m, nx] at eb; cases eb
    · exact absurd (List.mem_singleton.mp m) (Nat.ne_of_lt (Nat.lt_succ_self _))
  · rcases r with e | (v | _ | _ | _) <;> first | exact z.elim | skip
    exact z
end
end

section
section
variable {prog : Program} {w : World} {mg mb : Str → Option Value} {A : Around}

noncomputable def MarksJ (h : Heap) (x : Str) (I D C : Addr) (i : Nat) (ys : List Value) (h' : Heap) : Prop := Pr [C, D, I] h h' ∧ IntsAre ys ((x.cps.toList.take i).map fun (c : Nat) => (2 * (c : Int)))

theorem marks_okN {x : Str} {t : Tok} {late : Bool} {s : Shared} {R : Value → Shared → Prop} (G : Gd w mg mb s.heap) (a : Ar A 1) (hx : x.length ≤ 1000)
    (q : ∀ v h' t', Kp s.heap h' → IntsH (Of h' []) v (marksL x.cps.toList late) → (∀ a, v = .ref a → s.heap.get? a = none) → R v ⟨h', s.gens, s.drawn, t', s.os⟩) :
    codeAny (model prog w) A (.call (.ref 95) ⟨[.str x t, .bool late], []⟩) (RetR R) s := by
  refine enter [(Str.ofString "name", .str x t), (Str.ofString "late", .bool late)] G a.d0 (by k_is) (by k_is) rfl rfl ?_
  intro env h₁ t₁ F
  have a1 : Ar (A.deeper env) 0 := a.deeper
  walk_at "xs"
  refine r_comp (cl := []) (by with_unfolding_all rfl) ?_
  walk_at "xs"
  refine r_iterStr a1.hd fun I h₂ St it => ?_
  have lx : x.cps.toList.length = x.length := by simp [Str.length]
  refine comp_block (h₀ := s.heap) (h := h₂) it.W it.st it.lt (fun b hb => ?_) ?_ (F.kp it.kp) (fun D C => MarksJ h₁ x I D C) ?_ ?_ ?_ (by decide) rfl rfl
  · rw [List.mem_singleton.mp hb]; exact none_of it.new F.keep
  · show x.cps.size ≤ 1000000
    have : x.cps.size = x.length := rfl
    lia
  · intro D C h' _ _ _ k
    exact ⟨(it.kp.trans k).pr _, .nil⟩
  · rintro D C i v ys h' h₂ t₂ nD nC hDC hi ⟨c, u, hc, rfl⟩ ⟨p, iy⟩ F₂ p₂ _ _
    refine wpAny_pure ⟨h₂, t₂, rfl, Kp.refl _, ?_⟩
    walk_at "xs"
    refine r_mul (a := 2) (by decide) (by decide) fun u₃ t₃ => ?_
    refine ⟨h₂, t₃, rfl, Kp.refl _, fun h₅ hs => ⟨?_, ?_⟩⟩
    · exact (p.trans (p₂.mono (by simp))).trans (Pr.same hs (by simp))
    · have e : x.cps.toList[i]? = some c := by simpa using hc
      rw [List.take_add_one, e]
      simp only [List.map_append, Option.toList]
      exact IntsAre.append iy (.cons _ _ .nil)
  · rintro D C ys h₂ h' t' c nD nC hDC ⟨p, iy⟩ p₂ aD FC
    refine compEnd FC fun h₃ hs₃ => ?_
    have pp : Pr [C, D, I] h₁ h₃ := (p.trans (p₂.mono (by simp))).trans (Pr.same hs₃ (by simp))
    have nL : ∀ a ∈ [C, D, I], h₁.get? a = none := by
      intro a m
      rcases List.mem_cons.mp m with rfl | m
      · exact none_of nC it.kp
      · rcases List.mem_cons.mp m with rfl | m
        · exact none_of nD it.kp
        · rw [List.mem_singleton.mp m]; exact it.new
    have F₃ : FrL s.heap env.locals h₃ _ := F.pr pp (fun m => by obtain ⟨o, e⟩ := F.some; rw [nL _ m] at e; cases e) (fun a m => none_of (nL a m) F.keep)
    have aD₃ : h₃.get? D = some (W.listOf ys.toArray c) := (hs₃.2 D hDC).trans aD
    have lt : x.cps.toList.take x.cps.size = x.cps.toList := List.take_of_length_le (by simp)
    rw [lt] at iy
    have ly := iy.length
    simp only [List.length_map, lx] at ly
    have fin : ∀ (k : Int) (u t : Nat), (if late then 69 else 67) = k → wpAny (model prog w) (A.deeper env) (newList [.int k u]) (fun b s₂ => wpAny (model prog w) (A.deeper env) (binaryOp .Add (.ref D) b) (fun v s' => R v s') NoE s₂) NoE ⟨h₃, s.gens, s.drawn, t, s.os⟩ := by
      intro k u t e
      refine r_newList (by simp) fun b h₄ k₄ nb eb => ?_
      refine r_addL (listOf_is (k₄ _ _ aD₃)) (listOf_is eb) (by simp; lia) fun v h₅ k₅ nv ev => ?_
      refine q _ _ _ (F₃.keep.trans (k₄.trans k₅)) ⟨v, _, rfl, LstH.mk (listOf_is ev) (by simp), ?_⟩ (fun a e => by cases e; exact none_of nv (F₃.keep.trans k₄))
      unfold marksL
      rw [e]
      exact IntsAre.append iy (.cons _ _ .nil)
    walk_at "xs"
    refine ite_b (fun e => ?_) (fun e => ?_)
    · walk_at "xs"
      exact fin _ _ _ (by rw [e]; rfl)
    · walk_at "xs"
      exact fin _ _ _ (by rw [e]; rfl)
theorem marks_ok {x : Str} {t : Tok} {late : Bool} {s : Shared} {R : Value → Shared → Prop} (G : Gd w mg mb s.heap) (a : Ar A 1) (hx : x.length ≤ 1000)
    (q : ∀ v h' t', Kp s.heap h' → IntsH (Of h' []) v (marksL x.cps.toList late) → R v ⟨h', s.gens, s.drawn, t', s.os⟩) :
    codeAny (model prog w) A (.call (.ref 95) ⟨[.str x t, .bool late], []⟩) (RetR R) s := marks_okN G a hx fun v h' t' k i _ => q v h' t' k i
end
end

section
noncomputable def aheadL : List Nat → List Nat → Bool → Bool
  | [], [], _ => false
  | [], c :: _, late => decide (34 < c) || (c == 34 && !late)
  | c :: _, [], late => decide (c < 34) || (c == 34 && late)
  | x :: xs, y :: ys, late => if x = y then aheadL xs ys late else decide (x < y)

section
variable {prog : Program} {w : World} {mg mb : Str → Option Value} {A : Around}
theorem ahead_ok {x y : Str} {t u : Tok} {late : Bool} {s : Shared} {R : Value → Shared → Prop} (G : Gd w mg mb s.heap) (a : Ar A 1) 
    (hx : x.length ≤ 1000000) (hy : y.length ≤ 1000000)
    (q : ∀ h' t', Kp s.heap h' → R (.bool (aheadL x.cps.toList y.cps.toList late)) ⟨h', s.gens, s.drawn, t', s.os⟩) :
    codeAny (model prog w) A (.call (.ref 102) ⟨[.str x t, .str y u, .bool late], []⟩) (RetR R) s := by
  refine enter [(Str.ofString "a", .str x t), (Str.ofString "b", .str y u), (Str.ofString "late", .bool late)] G a.d0 (by k_is) (by k_is) rfl rfl ?_
  intro env h₁ t₁ F
  walk_at "xs"
  with_reducible refine r_store F ?_
  intro h₂ t₂ F₂ e₂
  have lx : x.cps.toList.length = x.length := by simp [Str.length]
  have ly : y.cps.toList.length = y.length := by simp [Str.length]
  refine s_whileX (fun (k : Nat) h' => ∃ u', FrL s.heap env.locals h' [(Str.ofString "k", .int (k : Nat) u'), (Str.ofString "a", .str x t), (Str.ofString "b", .str y u), (Str.ofString "late", .bool late)] ∧
      k ≤ x.length ∧ k ≤ y.length ∧ aheadL x.cps.toList y.cps.toList late = aheadL (x.cps.toList.drop k) (y.cps.toList.drop k) late) 
      (fun (k : Nat) h' => ∃ u', FrL s.heap env.locals h' [(Str.ofString "k", .int (k : Nat) u'), (Str.ofString "a", .str x t), (Str.ofString "b", .str y u), (Str.ofString "late", .bool late)] ∧
      k ≤ x.length ∧ k ≤ y.length ∧ aheadL x.cps.toList y.cps.toList late = aheadL (x.cps.toList.drop k) (y.cps.toList.drop k) late ∧ ¬ (∃ c, x.cps.toList[k]? = some c ∧ y.cps.toList[k]? = some c)) 
      (fun k => x.length - k) 0
      ⟨_, F₂.sub ⟨rfl, rfl, rfl, rfl, trivial⟩, Nat.zero_le _, Nat.zero_le _, rfl⟩ ?_ ?_
  · rintro k h' t' ⟨u', F', ka, kb, ke⟩
    walk_at "xs"
    refine ite_b (fun c1 => ?_) (fun c1 => ?_)
    · have c1 := of_decide_eq_true c1
      walk_at "xs"
      refine ite_b (fun c2 => ?_) (fun c2 => ?_)
      · have c2 := of_decide_eq_true c2
        obtain ⟨cx, ex⟩ : ∃ c, x.cps.toList[k]? = some c := ⟨_, List.getElem?_eq_getElem (by lia)⟩
        obtain ⟨cy, ey⟩ : ∃ c, y.cps.toList[k]? = some c := ⟨_, List.getElem?_eq_getElem (by lia)⟩
        walk_at "xs"
        refine ite_b (fun c3 => ?_) (fun c3 => ?_) <;> rw [str1_beq] at c3
        · walk_at "xs"
          with_reducible refine r_store F' ?_
          intro h₃ t₃ F₃ _
          have c3 : cx = cy := by simpa using c3
          refine s_nil ⟨h₃, t₃, rfl, k + 1, by lia, _, F₃.sub ⟨rfl, rfl, rfl, rfl, trivial⟩, by lia, by lia, ?_⟩
          rw [drop_cons ex, drop_cons ey] at ke
          rw [ke]; simp [aheadL, c3]
        · walk_at "xs"
          have c3 : ¬ cx = cy := by simpa using c3
          exact ⟨k, _, _, rfl, _, F', ka, kb, ke, fun ⟨c, e1, e2⟩ => c3 (by rw [e1] at ex; rw [e2] at ey; cases ex; cases ey; rfl)⟩
      · walk_at "xs"
        exact ⟨k, _, _, rfl, _, F', ka, kb, ke, fun ⟨c, e1, e2⟩ => of_decide_eq_false c2 (by have := (List.getElem?_eq_some_iff.mp e2).1; lia)⟩
    · walk_at "xs"
      exact ⟨k, _, _, rfl, _, F', ka, kb, ke, fun ⟨c, e1, e2⟩ => of_decide_eq_false c1 (by have := (List.getElem?_eq_some_iff.mp e1).1; lia)⟩
  · rintro k h' t' ⟨u', F', ka, kb, ke, ne⟩
    walk_at "xs"
    refine ite_b (fun c1 => ?_) (fun c1 => ?_)
    · have c1' := of_decide_eq_true c1
      obtain ⟨cx, ex⟩ : ∃ c, x.cps.toList[k]? = some c := ⟨_, List.getElem?_eq_getElem (by lia)⟩
      rw [drop_cons ex] at ke
      walk_at "xs"
      refine ite_b (fun c2 => ?_) (fun c2 => ?_)
      · have c2' := of_decide_eq_true c2
        obtain ⟨cy, ey⟩ : ∃ c, y.cps.toList[k]? = some c := ⟨_, List.getElem?_eq_getElem (by lia)⟩
        rw [drop_cons ey] at ke
        walk_at "xs"
        have nc : ¬ cx = cy := fun e => ne ⟨cx, ex, e ▸ ey⟩
        exact endB (fun t' => q h' t' F'.keep) (by rw [ke]; simp [aheadL, nc, List.cons_lt_cons_iff])
      · have c2' := of_decide_eq_false c2
        have ey : y.cps.toList.drop k = [] := List.drop_eq_nil_of_le (by lia)
        rw [ey] at ke
        walk_at "xs"
        refine ite_b (fun c3 => ?_) (fun c3 => ?_) <;> rw [str1_ltq] at c3
        · exact endB (fun t' => q h' t' F'.keep) (by rw [ke]; simp only [str1_ltq, str1_gtq, str1_ltq', str1_gtq', str1_eqq, aheadL, c3]; rfl)
        · walk_at "xs"
          refine ite_b (fun c4 => ?_) (fun c4 => ?_) <;> rw [str1_eqq] at c4
          · walk_at "xs"
            exact endB (fun t' => q h' t' F'.keep) (by rw [ke]; simp only [str1_ltq, str1_gtq, str1_ltq', str1_gtq', str1_eqq, aheadL, c3, c4]; rfl)
          · exact endB (fun t' => q h' t' F'.keep) (by rw [ke]; simp only [str1_ltq, str1_gtq, str1_ltq', str1_gtq', str1_eqq, aheadL, c3, c4]; rfl)
    · have c1' := of_decide_eq_false c1
      have ex : x.cps.toList.drop k = [] := List.drop_eq_nil_of_le (by lia)
      rw [ex] at ke
      walk_at "xs"
      refine ite_b (fun c2 => ?_) (fun c2 => ?_)
      · have c2' := of_decide_eq_true c2
        obtain ⟨cy, ey⟩ : ∃ c, y.cps.toList[k]? = some c := ⟨_, List.getElem?_eq_getElem (by lia)⟩
        rw [drop_cons ey] at ke
        walk_at "xs"
        refine ite_b (fun c3 => ?_) (fun c3 => ?_) <;> rw [str1_gtq] at c3
        · exact endB (fun t' => q h' t' F'.keep) (by rw [ke]; simp only [str1_ltq, str1_gtq, str1_ltq', str1_gtq', str1_eqq, aheadL, c3]; rfl)
        · walk_at "xs"
          refine ite_b (fun c4 => ?_) (fun c4 => ?_) <;> rw [str1_eqq] at c4
          · walk_at "xs"
            exact endB (fun t' => q h' t' F'.keep) (by rw [ke]; simp only [str1_ltq, str1_gtq, str1_ltq', str1_gtq', str1_eqq, aheadL, c3, c4]; rfl)
          · exact endB (fun t' => q h' t' F'.keep) (by rw [ke]; simp only [str1_ltq, str1_gtq, str1_ltq', str1_gtq', str1_eqq, aheadL, c3, c4]; rfl)
      · have c2' := of_decide_eq_false c2
        have ey : y.cps.toList.drop k = [] := List.drop_eq_nil_of_le (by lia)
        rw [ey] at ke
        walk_at "xs"
        exact endB (fun t' => q h' t' F'.keep) (by rw [ke]; rfl)
end
end

section
section
variable {prog : Program} {w : World} {mg mb : Str → Option Value} {A : Around}

noncomputable def putF {α : Type} (lt : α → α → Bool) (x : α) : List α → List α
  | [] => [x]
  | y :: ys => if lt x y then x :: y :: ys else y :: putF lt x ys
noncomputable def layF {α : Type} (lt : α → α → Bool) (xs : List α) : List α := xs.foldl (fun acc x => putF lt x acc) []
noncomputable def ltI (late : Bool) (p r : Str × Int) : Bool := aheadL p.1.cps.toList r.1.cps.toList late
theorem putF_at {α : Type} {lt : α → α → Bool} {x : α} : ∀ (k : Nat) (ys : List α), k ≤ ys.length → (∀ (i : Nat) y, ys[i]? = some y → i < k → lt x y = false) → (∀ y, ys[k]? = some y → lt x y = true) → putF lt x ys = ys.take k ++ x :: ys.drop k
  | 0, [], _, _, _ => rfl
  | 0, y :: ys, _, _, h => by
    have := h y rfl
    simp [putF, this]
  | k + 1, [], h, _, _ => by simp at h
  | k + 1, y :: ys, h, h1, h2 => by
    have e := h1 0 y rfl (by lia)
    have ih := putF_at (lt := lt) (x := x) k ys (by simpa using h) (fun i z hi hk => h1 (i + 1) z (by simpa using hi) (by lia)) (fun z hk => h2 z (by simpa using hk))
    simp [putF, e, ih]

noncomputable def ItemsH (late : Bool) (H : Hp) (v : Value) (its : List (Str × Int)) : Prop := ∃ a vs, v = .ref a ∧ LstH H a vs ∧ All2 (ItemH late H) vs its
theorem ItemsH.le {late : Bool} {H H' : Hp} {v : Value} {its : List (Str × Int)} (x : ItemsH late H v its) (k : Le H H') : ItemsH late H' v its := let ⟨a, vs, e, l, r⟩ := x; ⟨a, vs, e, l.le k, r.mono fun _ _ i => i.le k⟩

noncomputable def LaidJ (hb : Heap) (late : Bool) (its : List (Str × Int)) (L I D : Addr) (i : Nat) (l : List (Str × Value)) (h : Heap) : Prop :=
  ∃ ws c, SubL l [(Str.ofString "laid", .ref D), (Str.ofString "late", .bool late)] ∧ h.get? D = some (listOf ws.toArray c) ∧ Pr [I, D, L] hb h ∧ All2 (ItemH late (Of h [I, D, L])) ws (layF (ltI late) (its.take i))
noncomputable def LaidW (h₀ hb : Heap) (late : Bool) (p : Str × Int) (ls : List (Str × Int)) (L D : Addr) (v : Value) (k : Nat) (h : Heap) : Prop :=
  ∃ u, FrL h₀ L h [(Str.ofString "k", .int (k : Nat) u), (Str.ofString "item", v), (Str.ofString "laid", .ref D), (Str.ofString "late", .bool late)] ∧ Pr [L] hb h ∧ k ≤ ls.length ∧ ∀ (i : Nat) y, ls[i]? = some y → i < k → ltI late p y = false

theorem putF_perm {α : Type} {lt : α → α → Bool} (x : α) : ∀ ys : List α, (putF lt x ys).Perm (x :: ys)
  | [] => .refl _
  | y :: ys => by
    unfold putF
    split
    · exact .refl _
    · exact (List.Perm.cons y (putF_perm x ys)).trans (.swap x y ys)
theorem layF_perm {α : Type} {lt : α → α → Bool} (xs : List α) : (layF lt xs).Perm xs := by
  have : ∀ (xs acc : List α), (xs.foldl (fun acc x => putF lt x acc) acc).Perm (acc ++ xs) := by
    intro xs
    induction xs with
    | nil => intro acc; simp
    | cons x xs ih =>
      intro acc
      refine (ih _).trans ?_
      refine ((putF_perm x acc).append_right xs).trans ?_
      exact (List.perm_middle (a := x) (l₁ := acc) (l₂ := xs)).symm
  simpa [layF] using this xs []
theorem layF_len {α : Type} {lt : α → α → Bool} (xs : List α) : (layF lt xs).length = xs.length := (layF_perm xs).length_eq
theorem layF_mem {α : Type} {lt : α → α → Bool} (xs : List α) (y : α) : y ∈ layF lt xs ↔ y ∈ xs := (layF_perm xs).mem_iff
theorem layF_snoc {α : Type} {lt : α → α → Bool} (xs : List α) (x : α) : layF lt (xs ++ [x]) = putF lt x (layF lt xs) := by simp [layF]

theorem laid_ok {x : Value} {late : Bool} {its : List (Str × Int)} {s : Shared} {R : Value → Shared → Prop} (G : Gd w mg mb s.heap) (a : Ar A 2) (hx : ItemsH late (Of s.heap []) x its) (hz : its.length ≤ 1000) (hn : ∀ p ∈ its, p.1.length ≤ 1000)
    (q : ∀ v h' t', Kp s.heap h' → ItemsH late (Of h' []) v (layF (ltI late) its) → R v ⟨h', s.gens, s.drawn, t', s.os⟩) :
    codeAny (model prog w) A (.call (.ref 109) ⟨[x, .bool late], []⟩) (RetR R) s := by
  refine enter [(Str.ofString "items", x), (Str.ofString "late", .bool late)] G a.d0 (by k_is) (by k_is) rfl rfl ?_
  intro env h₁ t₁ F
  have a1 : Ar (A.deeper env) 1 := a.deeper
  obtain ⟨xa, vs, rfl, xl, xi⟩ := hx.le F.args
  walk_at "xs"
  refine r_newList (by simp) fun D h₂ k₂ nD eD => ?_
  with_reducible refine r_store (F.kp k₂) ?_
  intro h₃ t₃ F₃ e₃
  have m₃ : Le (Of h₁ [env.locals]) (Of h₃ [D, env.locals]) := (Of.more (k₂.le _) nD).trans ((Pr.same (X := [env.locals]) e₃ (.head _)).le (by simp))
  have xl₃ := xl.le m₃
  have nDL : D ≠ env.locals := F.ne nD
  have eD₃ : h₃.get? D = some (listOf #[] 0) := (e₃.2 D nDL).trans eD
  refine s_for ?_
  walk_at "xs"
  refine r_iterList a1.hd xl₃.is fun I h₄ St it => ?_
  have m₄ : Le (Of h₁ [env.locals]) (Of h₄ [I, D, env.locals]) := m₃.trans (Of.more (it.kp.le _) it.new)
  have nIL : I ≠ env.locals := F₃.ne it.new
  have nID : I ≠ D := by rintro rfl; rw [it.new] at eD₃; cases eD₃
  have xi₄ : All2 (ItemH late (Of h₄ [I, D, env.locals])) vs its := xi.mono fun _ _ i => i.le m₄
  have hlen := xi.length
  have nD0 : s.heap.get? D = none := none_of nD F.keep
  have nI0 : s.heap.get? I = none := none_of it.new F₃.keep
  refine forW it.W it.st ?_ ?_ [D] ?_ (LaidJ h₄ late its env.locals I D) (F₃.kp it.kp) ⟨[], 0, ⟨rfl, rfl, trivial⟩, it.kp _ _ eD₃, Pr.refl _ _, by rw [List.take_zero]; exact .nil⟩ ?_ ?_
  · intro m
    rcases List.mem_cons.mp m with e | m
    · exact nIL e.symm
    · exact (xl₃.off) (by rw [← List.mem_singleton.mp m]; simp)
  · intro b m; rw [List.mem_singleton.mp m]; exact nI0
  · intro b m hb
    rw [List.mem_singleton.mp m] at hb
    rcases List.mem_cons.mp hb with e | hb
    · exact nID e.symm
    · exact xl₃.off (by rw [← List.mem_singleton.mp hb]; simp)
  · rintro i v l h h₅ t₅ hi hv ⟨ws, c, sl, ew, pw, aw⟩ F₅ p₅
    obtain ⟨p, ep, hp⟩ := xi₄.get' hv
    have p4 : Pr [I, D, env.locals] h₄ h₅ := pw.trans (p₅.mono (by simp))
    have ew₅ : h₅.get? D = some (listOf ws.toArray c) := p₅.get ew (by simp [nDL, Ne.symm nID])
    have aw₅ : All2 (ItemH late (Of h₅ [I, D, env.locals])) ws (layF (ltI late) (its.take i)) := aw.mono fun _ _ j => j.le (p₅.le (by simp))
    have hp₅ : ItemH late (Of h₅ [I, D, env.locals]) v p := hp.le p4.le'
    have lw := aw₅.length
    rw [layF_len, List.length_take] at lw
    have pm : p ∈ its := List.mem_of_getElem? ep
    have F₅' : FrL s.heap env.locals h₅ [(Str.ofString "item", v), (Str.ofString "laid", .ref D), (Str.ofString "late", .bool late)] := F₅.sub ⟨rfl, sl.1, sl.2.1, trivial⟩
    walk_at "xs"
    with_reducible refine r_store F₅' ?_
    intro h₆ t₆ F₆ e₆
    refine s_whileX (LaidW s.heap h₅ late p (layF (ltI late) (its.take i)) env.locals D v)
      (fun k h => LaidW s.heap h₅ late p (layF (ltI late) (its.take i)) env.locals D v k h ∧ ∀ y, (layF (ltI late) (its.take i))[k]? = some y → ltI late p y = true)
      (fun k => ws.length - k) 0 ⟨_, F₆.sub ⟨rfl, rfl, rfl, rfl, trivial⟩, Pr.same e₆ (.head _), Nat.zero_le _, fun _ _ _ h => absurd h (Nat.not_lt_zero _)⟩ ?_ ?_
    · rintro k h₇ t₇ ⟨u, F₇, p₇, hk, hlt⟩
      have ew₇ : h₇.get? D = some (listOf ws.toArray c) := p₇.get ew₅ (by simp [nDL])
      have lw' := aw₅.length
      walk_at "xs"
      refine r_len_list (listOf_is ew₇) (by lia) fun u₈ t₈ => ?_
      walk_at "xs"
      refine ite_b (fun c1 => ?_) (fun c1 => ?_)
      · have c1' := of_decide_eq_true c1
        have hkl : k < ws.length := by lia
        obtain ⟨y, ey⟩ : ∃ y, (layF (ltI late) (its.take i))[k]? = some y := ⟨_, List.getElem?_eq_getElem (by lia)⟩
        obtain ⟨wv, ewv, iy⟩ := aw₅.get ey
        have ym : y ∈ its := List.mem_of_mem_take ((layF_mem _ _).mp (List.mem_of_getElem? ey))
        have M₇ : Le (Of h₅ [I, D, env.locals]) (Of h₇ [I, D, env.locals]) := p₇.le (by simp)
        obtain ⟨va, vt, vu, vm, rfl, vtup, vmk⟩ := hp₅.le M₇
        obtain ⟨ya, yt, yu, ym', rfl, ytup, ymk⟩ := iy.le M₇
        have vtup' := vtup.is
        have ytup' := ytup.is
        walk_at "xs"
        refine r_item_list (listOf_is ew₇) ewv (by lia) ?_ (by with_unfolding_all rfl)
        walk_at "xs"
        refine ⟨G.keeps F₇.keep, r_con (ahead_ok (G.keeps F₇.keep) a1 (Nat.le_trans (hn _ pm) (by lia)) (Nat.le_trans (hn _ ym) (by lia)) ?_)⟩
        intro h₈ t₈ k₈
        walk_at "xs"
        have F₈ := F₇.kp k₈
        refine ite_b (fun c2 => ?_) (fun c2 => ?_)
        · walk_at "xs"
          with_reducible refine r_store F₈ ?_
          intro h₉ t₉ F₉ e₉
          refine s_nil ⟨h₉, t₉, rfl, k + 1, by lia, _, F₉.sub ⟨rfl, rfl, rfl, rfl, trivial⟩, (p₇.trans (k₈.pr _)).trans (Pr.same e₉ (.head _)), by lia, fun j z ej hj => ?_⟩
          rcases Nat.lt_succ_iff_lt_or_eq.mp hj with hj | rfl
          · exact hlt j z ej hj
          · rw [ey] at ej; cases ej; simpa [ltI] using c2
        · refine ⟨k, h₈, _, rfl, ⟨_, F₈, p₇.trans (k₈.pr _), hk, hlt⟩, fun z ez => ?_⟩
          rw [ey] at ez; cases ez; simpa [ltI] using c2
      · have c1' := of_decide_eq_false c1
        refine ⟨k, h₇, _, rfl, ⟨_, F₇, p₇, hk, hlt⟩, fun z ez => ?_⟩
        have := (List.getElem?_eq_some_iff.mp ez).1
        lia
    · rintro k h₇ t₇ ⟨⟨u, F₇, p₇, hk, hlt⟩, hge⟩
      have ew₇ : h₇.get? D = some (listOf ws.toArray c) := p₇.get ew₅ (by simp [nDL])
      have lw' := aw₅.length
      walk_at "xs"
      refine r_getInsert ew₇ ?_
      walk_at "xs"
      refine r_insert ew₇ (by lia) (by lia) fun h₈ c₈ e₈ ew₈ => ?_
      have P₈ : Pr [env.locals, D] h₅ h₈ := (p₇.mono (by simp)).trans (Pr.same e₈ (by simp))
      have F₈ := F₇.pr (X := [D]) (Pr.same e₈ (.head _)) (fun m => nDL (List.mem_singleton.mp m).symm) (fun b m => by rw [List.mem_singleton.mp m]; exact nD0)
      have M₈ : Le (Of h₅ [I, D, env.locals]) (Of h₈ [I, D, env.locals]) := P₈.le (by simp)
      refine s_nil ⟨h₈, _, rfl, _, F₈, P₈, _, c₈, ⟨rfl, rfl, trivial⟩, ew₈, p4.trans (P₈.mono (by simp)), ?_⟩
      rw [List.take_add_one, ep]
      simp only [Option.toList]
      rw [layF_snoc, putF_at k _ hk hlt hge]
      exact ((aw₅.mono fun _ _ j => j.le M₈).take k).append (.cons (hp₅.le M₈) ((aw₅.mono fun _ _ j => j.le M₈).drop k))
  · rintro l h h' t' ⟨ws, c, sl, ew, pw, aw⟩ F' p'
    have F'' : FrL s.heap env.locals h' [(Str.ofString "laid", .ref D), (Str.ofString "late", .bool late)] := F'.sub sl
    walk_at "xs"
    refine q _ _ _ F''.keep ⟨D, ws, rfl, LstH.mk (listOf_is (p'.get ew (by simp [Ne.symm nID]))) (by simp), ?_⟩
    rw [hlen, List.take_length] at aw
    exact aw.mono fun _ _ j => j.le ((p'.le (by simp)).trans (Of.sub (by simp)))
end
end

section
section
variable {prog : Program} {w : World} {mg mb : Str → Option Value} {A : Around} {C : Addr}
theorem keeps_C {M : Model} (h : Heap) (y : KAt (Of h []) C) : ∃ k, (k = Keeper.frame ∨ k = Keeper.machine ∨ k = Keeper.boundFrame) ∧ Looks M h (keeperOf (.ref C)) k := by
  obtain ⟨K, yk⟩ := y
  refine keeps_K (K := frgK C K (clsKO C K.ns K.q K.aT K.u K.tq) C) ?_ h (frg_in yk yk.cls.1)
  have e0 : (frgK C K (clsKO C K.ns K.q K.aT K.u K.tq) C).lookup C = some (clsKO C K.ns K.q K.aT K.u K.tq) := lk0 _ _ _
  unfold keepIn
  dsimp only
  rw [e0]
  dsimp only
  unfold specialIn typeIn
  dsimp only
  rw [e0]
  kernel_rfl
theorem r_callC {E : Value → Shared → Prop} {s : Shared} {env : Env} {pos : Pos} {e : Expr} {rest : List Expr} {Q : Value → Shared → Prop}
    (c : wpAny (model prog w) A (spliced (backTo pos (starEach (e :: rest) env))) (fun vs s₁ => KAt (Of s₁.heap []) C ∧ wpAny (model prog w) A (call (.ref C) vs) Q E s₁) E s)
    (he : starEach (e :: rest) env = (false, eval e env) :: starEach rest env := by with_unfolding_all rfl) (hplain : (backTo pos (starEach rest env)).any (·.1) = false := by with_unfolding_all rfl) :
    wpAny (model prog w) A (callWith pos (.ref C) [] (backTo pos (starEach (e :: rest) env)) []) Q E s := by
  rw [he] at c ⊢
  exact callWith_of (P := fun h => KAt (Of h []) C) (by show ((false || (backTo pos (starEach rest env)).any (·.1)) || false) = false; rw [hplain]; rfl) keeps_C (evalArgs_plain c)
theorem Of.all {h : Heap} {X : List Addr} : Le (Of h X) (Of h []) := Of.sub fun _ m => (nomatch m)

theorem FrL.nseq {h₀ h : Heap} {L b : Addr} {l : List (Str × Value)} {o : Obj} {vs : Array Value} (F : FrL h₀ L h l) (e : h.get? b = Option.some o) (hd : ∃ n, o.data = .seq vs n) : b ≠ L := fun z => by
  obtain ⟨m, F, _⟩ := F.ex
  obtain ⟨oL, es, ep, hL, hdL, _⟩ := F.ns
  obtain ⟨n, hd⟩ := hd
  rw [z, hL] at e; cases e
  rw [hd] at hdL; cases hdL
noncomputable def ltK (late : Bool) (p r : Str × Int) : Bool := cmpB .Lt (cmp3 (marksL p.1.cps.toList late) (marksL r.1.cps.toList late))
noncomputable def PutW (h₀ hb : Heap) (late : Bool) (p : Str × Int) (ls : List (Str × Int)) (L : Addr) (me laid kind item : Value) (k : Nat) (h : Heap) : Prop :=
  ∃ u, FrL h₀ L h [(Str.ofString "k", .int (k : Nat) u), (Str.ofString "me", me), (Str.ofString "laid", laid), (Str.ofString "kind", kind), (Str.ofString "item", item)] ∧ Pr [L] hb h ∧ k ≤ ls.length ∧ ∀ (i : Nat) y, ls[i]? = some y → i < k → ltK late p y = false
theorem put_ok {lv : Value} {x : Str} {t : Tok} {late : Bool} {its : List (Str × Int)} {s : Shared} {R : Value → Shared → Prop} (G : Gd w mg mb s.heap) (y : KAt (Of s.heap []) C) (a : Ar A 5) (hl : ItemsH late (Of s.heap []) lv its) (hz : its.length ≤ 1000) (hx : x.length ≤ 1000)
    (q : ∀ v h' t', Kp s.heap h' → ItemsH late (Of h' []) v (putF (ltK late) (x, (its.length : Int)) its) → R v ⟨h', s.gens, s.drawn, t', s.os⟩) :
    codeAny (model prog w) A (.call (.ref 123) ⟨[lv, .str x t, .bool late, .ref C], []⟩) (RetR R) s := by
  refine enter [(Str.ofString "laid", lv), (Str.ofString "name", .str x t), (Str.ofString "late", .bool late), (Str.ofString "kind", .ref C)] G a.d0 (by k_is) (by k_is) rfl rfl ?_
  intro env h₁ t₁ F
  have a1 : Ar (A.deeper env) 4 := a.deeper
  obtain ⟨la, vs, rfl, xl, xi⟩ := hl.le F.args
  have y₁ := y.keeps F.args
  have hlen := xi.length
  walk_at "xs"
  refine r_len_list xl.is (by lia) fun u₂ t₂ => ?_
  walk_at "xs"
  refine ⟨G.keeps F.keep, r_con (marks_ok (G.keeps F.keep) (a1.less (by decide)) hx ?_)⟩
  intro mv h₂ t₃ k₂ im
  walk_at "xs"
  refine r_newTuple (by simp) fun ia h₃ k₃ ni e₃ => ?_
  have Fk := (F.kp k₂).kp k₃
  with_reducible refine r_store Fk ?_
  intro h₄ t₄ F₄ s₄
  have niL : ia ≠ env.locals := (F.kp k₂).ne ni
  -- what stands off the frame
  have M₄ : Le (Of h₁ [env.locals]) (Of h₄ [env.locals]) := ((k₂.trans k₃).le _).trans (Pr.same (X := [env.locals]) s₄ (.head _)).le'
  have M₃ : ∀ {b : Addr} {o : Obj}, h₂.get? b = some o → b ≠ env.locals → Of h₄ [env.locals] b o := fun e n => ⟨(s₄.2 _ n).trans (k₃ _ _ e), by simpa using n⟩
  have im₄ : IntsH (Of h₄ [env.locals]) mv (marksL x.cps.toList late) := by
    obtain ⟨ma, ms, rfl, ⟨o, ⟨eo, _⟩, ro⟩, r⟩ := im
    exact ⟨ma, ms, rfl, ⟨o, M₃ eo ((F.kp k₂).nseq eo ro.2), ro⟩, r⟩
  have it : ItemH late (Of h₄ [env.locals]) (.ref ia) (x, (its.length : Int)) := by
    refine ⟨ia, t, u₂, mv, rfl, ?_, im₄⟩
    obtain ⟨o, e, r⟩ := e₃
    rw [hlen] at r
    exact ⟨o, ⟨(s₄.2 _ niL).trans e, by simpa using niL⟩, r⟩
  have y₄ := y₁.keeps M₄
  walk_at "xs"
  refine r_callC ?_
  walk_at "xs"
  refine ⟨y₄.keeps Of.all, r_con (mk_ok (G.keeps F₄.keep) (y₄.keeps Of.all) (a1.less (by decide)) ?_)⟩
  intro me h₅ t₅ k₅ ke
  have ke₅ : KeyH (Of h₅ [env.locals]) C me (.ref ia) := ke.of fun b m => by rw [List.mem_singleton.mp m]; exact F₄.some
  have F₅ := F₄.kp k₅
  with_reducible refine r_store F₅ ?_
  intro h₆ t₆ F₆ s₆
  walk_at "xs"
  with_reducible refine r_store F₆ ?_
  intro h₇ t₇ F₇ s₇
  have M₇ : Le (Of h₄ [env.locals]) (Of h₇ [env.locals]) := ((k₅.le _).trans (Pr.same (X := [env.locals]) s₆ (.head _)).le').trans (Pr.same (X := [env.locals]) s₇ (.head _)).le'
  have M₅ : Le (Of h₅ [env.locals]) (Of h₇ [env.locals]) := ((Pr.same (X := [env.locals]) s₆ (.head _)).le').trans (Pr.same (X := [env.locals]) s₇ (.head _)).le'
  have y₇ := y₄.keeps M₇
  have xl₇ := xl.le (M₄.trans M₇)
  have xi₇ : All2 (ItemH late (Of h₇ [env.locals])) vs its := xi.mono fun _ _ i => i.le (M₄.trans M₇)
  have it₇ := it.le M₇
  have ke₇ := ke₅.le M₅
  refine s_whileX (PutW s.heap h₇ late (x, (its.length : Int)) its env.locals me (.ref la) (.ref C) (.ref ia))
    (fun k h => PutW s.heap h₇ late (x, (its.length : Int)) its env.locals me (.ref la) (.ref C) (.ref ia) k h ∧ ∀ y, its[k]? = some y → ltK late (x, (its.length : Int)) y = true)
    (fun k => its.length - k) 0 ⟨_, F₇.sub ⟨rfl, rfl, rfl, rfl, rfl, trivial⟩, Pr.refl _ _, Nat.zero_le _, fun _ _ _ h => absurd h (Nat.not_lt_zero _)⟩ ?_ ?_
  · rintro k h₈ t₈ ⟨u, F₈, p₈, hk, hlt⟩
    have M₈ := p₈.le'
    walk_at "xs"
    refine r_len_list (xl₇.le M₈).is (by lia) fun u₉ t₉ => ?_
    walk_at "xs"
    refine ite_b (fun c1 => ?_) (fun c1 => ?_)
    · have c1' := of_decide_eq_true c1
      have hkl : k < its.length := by lia
      obtain ⟨z, ez⟩ : ∃ z, its[k]? = some z := ⟨_, List.getElem?_eq_getElem hkl⟩
      obtain ⟨wv, ewv, iz⟩ := xi₇.get ez
      walk_at "xs"
      refine r_callC ?_
      walk_at "xs"
      refine r_item_list (xl₇.le M₈).is ewv (by lia) ?_ (by with_unfolding_all rfl)
      walk_at "xs"
      have y₈ := y₇.keeps M₈
      refine ⟨y₈.keeps Of.all, r_con (mk_ok (G.keeps F₈.keep) (y₈.keeps Of.all) (a1.less (by decide)) ?_)⟩
      intro you h₉ t₁₀ k₉ ky
      have ky₉ : KeyH (Of h₉ [env.locals]) C you wv := ky.of fun b m => by rw [List.mem_singleton.mp m]; exact F₈.some
      have F₉ := F₈.kp k₉
      have M₉ := M₈.trans (k₉.le _)
      refine key_cmp rfl (G.keeps F₉.keep) ((y₇.keeps M₉).keeps Of.all) a1 ((ke₇.le M₉).le Of.all) (ky₉.le Of.all) ((it₇.le M₉).le Of.all) ((iz.le M₉).le Of.all) fun h₁₀ t₁₁ k₁₀ => ?_
      have F₁₀ := F₉.kp k₁₀
      walk_at "xs"
      refine ite_b (fun c2 => ?_) (fun c2 => ?_)
      · walk_at "xs"
        with_reducible refine r_store F₁₀ ?_
        intro h₁₁ t₁₂ F₁₁ s₁₁
        refine s_nil ⟨h₁₁, t₁₂, rfl, k + 1, by lia, _, F₁₁.sub ⟨rfl, rfl, rfl, rfl, rfl, trivial⟩, ((p₈.trans (k₉.pr _)).trans (k₁₀.pr _)).trans (Pr.same s₁₁ (.head _)), by lia, fun j z' ej hj => ?_⟩
        rcases Nat.lt_succ_iff_lt_or_eq.mp hj with hj | rfl
        · exact hlt j z' ej hj
        · rw [ez] at ej; cases ej; simpa [ltK] using c2
      · refine ⟨k, h₁₀, _, rfl, ⟨_, F₁₀, (p₈.trans (k₉.pr _)).trans (k₁₀.pr _), hk, hlt⟩, fun z' ez' => ?_⟩
        rw [ez] at ez'; cases ez'; simpa [ltK] using c2
    · have c1' := of_decide_eq_false c1
      refine ⟨k, h₈, _, rfl, ⟨_, F₈, p₈, hk, hlt⟩, fun z ez => ?_⟩
      have := (List.getElem?_eq_some_iff.mp ez).1
      lia
  · rintro k h₈ t₈ ⟨⟨u, F₈, p₈, hk, hlt⟩, hge⟩
    have M₈ := p₈.le'
    walk_at "xs"
    refine r_slL_to (xl₇.le M₈).is (by lia) (by lia) fun b1 h₉ k₉ n₉ e₉ => ?_
    have F₉ := F₈.kp k₉
    walk_at "xs"
    refine r_newList (by simp) fun b2 h₁₀ k₁₀ n₁₀ e₁₀ => ?_
    have F₁₀ := F₉.kp k₁₀
    refine r_addL (listOf_is (k₁₀ _ _ e₉)) (listOf_is e₁₀) (by simp; lia) fun b3 h₁₁ k₁₁ n₁₁ e₁₁ => ?_
    have F₁₁ := F₁₀.kp k₁₁
    walk_at "xs"
    have M₁₁ := M₈.trans (((k₉.trans k₁₀).trans k₁₁).le _)
    refine r_slL_from (xl₇.le M₁₁).is (by lia) (by lia) fun b4 h₁₂ k₁₂ n₁₂ e₁₂ => ?_
    refine r_addL (listOf_is (k₁₂ _ _ e₁₁)) (listOf_is e₁₂) (by simp; lia) fun b5 h₁₃ k₁₃ n₁₃ e₁₃ => ?_
    have M₁₃ := M₁₁.trans ((k₁₂.trans k₁₃).le _)
    refine q _ _ _ ((F₁₁.kp k₁₂).kp k₁₃).keep ⟨b5, _, rfl, LstH.mk (listOf_is e₁₃) (by simp), ?_⟩
    rw [putF_at k _ hk hlt hge]
    have hkk : ((k : Nat) : Int).toNat = k := by lia
    rw [hkk]
    have al : All2 (ItemH late (Of h₁₃ [])) vs its := xi₇.mono fun _ _ i => (i.le M₁₃).le Of.all
    simp only [List.append_assoc]
    exact (al.take k).append (.cons ((it₇.le M₁₃).le Of.all) (al.drop k))
end
end

section
section
variable {prog : Program} {w : World} {mg mb : Str → Option Value} {A : Around} {C : Addr}
noncomputable def SixV (vs : List Value) (b1 b2 b3 b4 b5 : Bool) (c : Int) : Prop := ∃ u, vs = [.bool b1, .bool b2, .bool b3, .bool b4, .bool b5, .int c u]
theorem FrL.offI {h₀ h : Heap} {L : Addr} {l : List (Str × Value)} {late : Bool} {v : Value} {p : Str × Int} (F : FrL h₀ L h l) (x : ItemH late (Of h []) v p) : ItemH late (Of h [L]) v p := by
  obtain ⟨a, t, u, m, e, ⟨o, ⟨eo, _⟩, ro⟩, ma, ms, em, ⟨o2, ⟨eo2, _⟩, ro2⟩, r⟩ := x
  exact ⟨a, t, u, m, e, ⟨o, ⟨eo, by simpa using F.nseq eo ro.2⟩, ro⟩, ma, ms, em, ⟨o2, ⟨eo2, by simpa using F.nseq eo2 ro2.2⟩, ro2⟩, r⟩

theorem told_ok {v1 v2 : Value} {late : Bool} {p r : Str × Int} {s : Shared} {R : Value → Shared → Prop} (G : Gd w mg mb s.heap) (y : KAt (Of s.heap []) C) (a : Ar A 5) (i1 : ItemH late (Of s.heap []) v1 p) (i2 : ItemH late (Of s.heap []) v2 r)
    (q : ∀ b vs h' t', Kp s.heap h' → LstH (Of h' []) b vs → s.heap.get? b = none → (let c := cmp3 (marksL p.1.cps.toList late) (marksL r.1.cps.toList late); SixV vs (cmpB .Lt c) (cmpB .Gt c) (cmpB .Eq c) (cmpB .LtE c) (cmpB .GtE c) c) → R (.ref b) ⟨h', s.gens, s.drawn, t', s.os⟩) :
    codeAny (model prog w) A (.call (.ref 130) ⟨[v1, v2, .ref C], []⟩) (RetR R) s := by
  refine enter [(Str.ofString "one", v1), (Str.ofString "other", v2), (Str.ofString "kind", .ref C)] G a.d0 (by k_is) (by k_is) rfl rfl ?_
  intro env h₁ t₁ F
  have a1 : Ar (A.deeper env) 4 := a.deeper
  have y₁ := y.keeps F.args
  have i1₁ := i1.le F.args
  have i2₁ := i2.le F.args
  walk_at "xs"
  refine r_callC ?_
  walk_at "xs"
  refine ⟨y₁.keeps Of.all, r_con (mk_ok (G.keeps F.keep) (y₁.keeps Of.all) (a1.less (by decide)) ?_)⟩
  intro me h₂ t₂ k₂ ke
  have ke₂ : KeyH (Of h₂ [env.locals]) C me v1 := ke.of fun b m => by rw [List.mem_singleton.mp m]; exact F.some
  have F₂ := F.kp k₂
  with_reducible refine r_store F₂ ?_
  intro h₃ t₃ F₃ s₃
  have M₃ : Le (Of h₂ [env.locals]) (Of h₃ [env.locals]) := (Pr.same (X := [env.locals]) s₃ (.head _)).le'
  have y₃ := (y₁.keeps (k₂.le _)).keeps M₃
  walk_at "xs"
  refine r_callC ?_
  walk_at "xs"
  refine ⟨y₃.keeps Of.all, r_con (mk_ok (G.keeps F₃.keep) (y₃.keeps Of.all) (a1.less (by decide)) ?_)⟩
  intro you h₄ t₄ k₄ ky
  have ky₄ : KeyH (Of h₄ [env.locals]) C you v2 := ky.of fun b m => by rw [List.mem_singleton.mp m]; exact F₃.some
  have F₄ := F₃.kp k₄
  with_reducible refine r_store F₄ ?_
  intro h₅ t₅ F₅ s₅
  have M₅ : Le (Of h₄ [env.locals]) (Of h₅ [env.locals]) := (Pr.same (X := [env.locals]) s₅ (.head _)).le'
  have M₃₅ : Le (Of h₃ [env.locals]) (Of h₅ [env.locals]) := (k₄.le _).trans M₅
  have y₅ := (y₃.keeps M₃₅).keeps Of.all
  have ke₅ := ((ke₂.le M₃).le M₃₅).le Of.all
  have ky₅ := (ky₄.le M₅).le Of.all
  have i1₅ := (((i1₁.le (k₂.le _)).le M₃).le M₃₅).le Of.all
  have i2₅ := (((i2₁.le (k₂.le _)).le M₃).le M₃₅).le Of.all
  clear y₁ y₃ i1₁ i2₁ ke₂ ky₄ M₃ M₅ M₃₅ F F₂ F₃ F₄ ke ky
  walk_at "xs"
  refine key_cmp rfl (G.keeps F₅.keep) y₅ a1 ke₅ ky₅ i1₅ i2₅ fun h₆ t₆ k₆ => ?_
  have F₆ := F₅.kp k₆; clear F₅
  walk_at "xs"
  refine key_cmp rfl (G.keeps F₆.keep) (y₅.keeps (k₆.le _)) a1 (ke₅.le (k₆.le _)) (ky₅.le (k₆.le _)) (i1₅.le (k₆.le _)) (i2₅.le (k₆.le _)) fun h₇ t₇ k₇ => ?_
  have F₇ := F₆.kp k₇; clear F₆
  replace k₇ := k₆.trans k₇
  walk_at "xs"
  refine key_cmp rfl (G.keeps F₇.keep) (y₅.keeps (k₇.le _)) a1 (ke₅.le (k₇.le _)) (ky₅.le (k₇.le _)) (i1₅.le (k₇.le _)) (i2₅.le (k₇.le _)) fun h₈ t₈ k₈ => ?_
  have F₈ := F₇.kp k₈; clear F₇
  replace k₈ := k₇.trans k₈
  walk_at "xs"
  refine key_cmp rfl (G.keeps F₈.keep) (y₅.keeps (k₈.le _)) a1 (ke₅.le (k₈.le _)) (ky₅.le (k₈.le _)) (i1₅.le (k₈.le _)) (i2₅.le (k₈.le _)) fun h₉ t₉ k₉ => ?_
  have F₉ := F₈.kp k₉; clear F₈
  replace k₉ := k₈.trans k₉
  walk_at "xs"
  refine key_cmp rfl (G.keeps F₉.keep) (y₅.keeps (k₉.le _)) a1 (ke₅.le (k₉.le _)) (ky₅.le (k₉.le _)) (i1₅.le (k₉.le _)) (i2₅.le (k₉.le _)) fun h₁₀ t₁₀ k₁₀ => ?_
  have F₁₀ := F₉.kp k₁₀; clear F₉
  replace k₁₀ := k₉.trans k₁₀
  obtain ⟨l1, u1, w1, m1, rfl, x1, j1⟩ := i1₅.le (k₁₀.le _)
  obtain ⟨l2, u2, w2, m2, rfl, x2, j2⟩ := i2₅.le (k₁₀.le _)
  have x1' := x1.is
  have x2' := x2.is
  walk_at "xs"
  refine ⟨G.keeps F₁₀.keep, r_con (cmp_ok (G.keeps F₁₀.keep) (a1.less (by decide)) j1 j2 ?_)⟩
  intro h₁₁ u₁₁ t₁₁ k₁₁
  have F₁₁ := F₁₀.kp k₁₁
  walk_at "xs"
  refine r_newList (by simp) fun b h₁₂ k₁₂ nb eb => ?_
  exact q b _ h₁₂ _ (F₁₁.kp k₁₂).keep (LstH.mk (listOf_is eb) (by simp)) (none_of nb F₁₁.keep) ⟨_, rfl⟩

noncomputable def dueC (up down : Bool) : Int := if up then -1 else if down then 1 else 0
theorem due_ok {v1 v2 : Value} {late : Bool} {p r : Str × Int} {s : Shared} {R : Value → Shared → Prop} (G : Gd w mg mb s.heap) (a : Ar A 2) (i1 : ItemH late (Of s.heap []) v1 p) (i2 : ItemH late (Of s.heap []) v2 r) (hp : p.1.length ≤ 1000) (hr : r.1.length ≤ 1000)
    (q : ∀ b vs h' t', Kp s.heap h' → LstH (Of h' []) b vs → s.heap.get? b = none → SixV vs (ltI late p r) (ltI late r p) (!ltI late p r && !ltI late r p) (!ltI late r p) (!ltI late p r) (dueC (ltI late p r) (ltI late r p)) → R (.ref b) ⟨h', s.gens, s.drawn, t', s.os⟩) :
    codeAny (model prog w) A (.call (.ref 137) ⟨[v1, v2, .bool late], []⟩) (RetR R) s := by
  refine enter [(Str.ofString "one", v1), (Str.ofString "other", v2), (Str.ofString "late", .bool late)] G a.d0 (by k_is) (by k_is) rfl rfl ?_
  intro env h₁ t₁ F
  have a1 : Ar (A.deeper env) 1 := a.deeper
  obtain ⟨l1, u1, w1, m1, rfl, x1, j1⟩ := i1.le F.args
  obtain ⟨l2, u2, w2, m2, rfl, x2, j2⟩ := i2.le F.args
  have x1' := x1.is
  have x2' := x2.is
  walk_at "xs"
  refine ⟨G.keeps F.keep, r_con (ahead_ok (G.keeps F.keep) a1 (by lia) (by lia) ?_)⟩
  intro h₂ t₂ k₂
  have F₂ := F.kp k₂
  with_reducible refine r_store F₂ ?_
  intro h₃ t₃ F₃ s₃
  have M₃ : Le (Of h₁ [env.locals]) (Of h₃ [env.locals]) := (k₂.le _).trans (Pr.same (X := [env.locals]) s₃ (.head _)).le'
  have x1₃ := (x1.le M₃).is
  have x2₃ := (x2.le M₃).is
  clear x1' x2'
  walk_at "xs"
  refine ⟨G.keeps F₃.keep, r_con (ahead_ok (G.keeps F₃.keep) a1 (by lia) (by lia) ?_)⟩
  intro h₄ t₄ k₄
  have F₄ := F₃.kp k₄
  with_reducible refine r_store F₄ ?_
  intro h₅ t₅ F₅ s₅
  have e1 : aheadL p.1.cps.toList r.1.cps.toList late = ltI late p r := rfl
  have e2 : aheadL r.1.cps.toList p.1.cps.toList late = ltI late r p := rfl
  rw [e1, e2] at F₅
  generalize ltI late p r = up at q F₅
  generalize ltI late r p = down at q F₅
  clear F F₂ F₃ F₄
  dsimp only at q ⊢
  have fin : ∀ (vs : List Value) (t : Nat), SixV vs up down (!up && !down) (!down) (!up) (dueC up down) → wpAny (model prog w) (A.deeper env) (newList vs) (fun v s' => R v s') NoE ⟨h₅, s.gens, s.drawn, t, s.os⟩ := by
    intro vs t hv
    refine r_newList (by obtain ⟨u, rfl⟩ := hv; simp) fun b h₆ k₆ nb eb => ?_
    exact q b _ h₆ _ (F₅.kp k₆).keep (LstH.mk (listOf_is eb) (by simp)) (none_of nb F₅.keep) hv
  cases up <;> cases down
  · walk_at "xs"
    refine ite_y (by rfl) ?_
    walk_at "xs"
    exact fin _ _ ⟨_, rfl⟩
  · walk_at "xs"
    refine ite_y (by rfl) ?_
    walk_at "xs"
    exact fin _ _ ⟨_, rfl⟩
  · walk_at "xs"
    refine ite_n (by rfl) ?_
    walk_at "xs"
    refine PyProof.Rows.neg_int ?_
    walk_at "xs"
    exact fin _ _ ⟨_, rfl⟩
  · walk_at "xs"
    refine ite_n (by rfl) ?_
    walk_at "xs"
    refine PyProof.Rows.neg_int ?_
    walk_at "xs"
    exact fin _ _ ⟨_, rfl⟩
end
end

section
open PySem PySem.W PySem.Calls PyProof.Rows PySem.SeqAt

theorem All2.at {α β : Type} {P : α → β → Prop} {as : List α} {bs : List β} (h : All2 P as bs) : ∀ (j : Nat) (h1 : j < as.length) (h2 : j < bs.length), P as[j] bs[j] := by
  induction h with
  | nil => intro j h1 _; exact absurd h1 (Nat.not_lt_zero _)
  | cons p _ ih =>
    intro j h1 h2
    cases j with
    | zero => exact p
    | succ j => exact ih j (Nat.lt_of_succ_lt_succ h1) (Nat.lt_of_succ_lt_succ h2)
theorem all_t (n : Nat) : ((List.range n).all fun _ => true) = true := by rw [List.all_eq_true]; intros; rfl
section
variable {prog : Program} {w : World} {A : Around} {E : Value → Shared → Prop} {s : Shared}
theorem rc_lists {l b : Addr} {vs ws : List Value} (hl : s.heap.IsList l vs.toArray) (hb : s.heap.IsList b ws.toArray) (hu : A.units < cLine) (he : All2 (fun y x => EqAt A.in1 s y x true) vs ws) : RcAt A s (.ref l) (.ref b) true := by
  have := RcAt.lists (e := fun _ => true) hl hb (by simpa using he.length) hu (fun j h1 h2 => by
    have := he.at j (by simpa using h1) (by simpa using h2)
    simpa using this)
  rwa [all_t] at this
theorem eq_lists {l b : Addr} {vs ws : List Value} (hl : s.heap.IsList l vs.toArray) (hb : s.heap.IsList b ws.toArray) (hu : A.units < cLine) (he : All2 (fun y x => EqAt A.in1 s y x true) vs ws) : EqAt A s (.ref l) (.ref b) true := by
  by_cases e : l = b
  · subst e; exact .same _
  · exact .of_refs e (rc_lists hl hb hu he)
theorem ne_lists {l b : Addr} {vs ws : List Value} {Q : Value → Shared → Prop} (hl : s.heap.IsList l vs.toArray) (hb : s.heap.IsList b ws.toArray) (hu : A.units < cLine) (he : All2 (fun y x => EqAt A.in1 s y x true) vs ws) (q : Q (.bool false) s) :
    wpAny (model prog w) A (compareOp .NotEq (.ref l) (.ref b)) Q E s := by
  have := RcNeAt.lists (e := fun _ => true) hl hb (by simpa using he.length) hu (fun j h1 h2 => by
    have := he.at j (by simpa using h1) (by simpa using h2)
    simpa using this)
  exact this prog w E Q (by rw [all_t]; exact q)
theorem eq_ints {vs ws : List Value} {ns : List Int} (h1 : IntsAre vs ns) : ∀ {ws : List Value}, IntsAre ws ns → All2 (fun y x => EqAt A s y x true) vs ws := by
  induction h1 with
  | nil => intro ws h2; cases h2; exact .nil
  | cons i t _ ih =>
    intro ws h2
    cases h2 with
    | cons _ u h2 =>
      refine .cons ?_ (ih h2)
      have := EqAt.int_int (A := A) (s := s) i t i u
      simpa using this
theorem eq_item {late : Bool} {X Y : List Addr} {v v' : Value} {p : Str × Int} (hu : A.units + 5 < cLine) (h1 : ItemH late (Of s.heap X) v p) (h2 : ItemH late (Of s.heap Y) v' p) : EqAt A s v v' true := by
  obtain ⟨a, t, u, m, rfl, x1, ma, ms, rfl, l1, i1⟩ := h1
  obtain ⟨b, t', u', m', rfl, x2, mb, ms', rfl, l2, i2⟩ := h2
  by_cases e : a = b
  · subst e; exact .same _
  refine .of_refs e ?_
  have he : All2 (fun y x => EqAt A.in1 s y x true) [.str p.1 t, .int p.2 u, .ref ma] [.str p.1 t', .int p.2 u', .ref mb] := by
    refine .cons ?_ (.cons ?_ (.cons ?_ .nil))
    · have := EqAt.str_str (A := A.in1) (s := s) p.1 t p.1 t'
      simpa using this
    · have := EqAt.int_int (A := A.in1) (s := s) p.2 u p.2 u'
      simpa using this
    · exact eq_lists l1.is l2.is (by show A.units + 1 < _; lia) (eq_ints (ws := []) i1 i2)
  have := RcAt.tuples (A := A) (e := fun _ => true) x1.isT x2.isT (by lia) (fun j h1 h2 => by
    have := he.at j (by simpa using h1) (by simpa using h2)
    simpa using this)
  rw [all_t] at this
  simpa using this
theorem ne_items {late : Bool} {X Y : List Addr} {v v' : Value} {p : Str × Int} {Q : Value → Shared → Prop} (hu : A.units + 5 < cLine) (h1 : ItemH late (Of s.heap X) v p) (h2 : ItemH late (Of s.heap Y) v' p) (q : Q (.bool false) s) :
    wpAny (model prog w) A (compareOp .NotEq v v') Q E s := by
  obtain ⟨a, t, u, m, rfl, x1, ma, ms, rfl, l1, i1⟩ := h1
  obtain ⟨b, t', u', m', rfl, x2, mb, ms', rfl, l2, i2⟩ := h2
  have he : All2 (fun y x => EqAt A.in1 s y x true) [.str p.1 t, .int p.2 u, .ref ma] [.str p.1 t', .int p.2 u', .ref mb] := by
    refine .cons ?_ (.cons ?_ (.cons ?_ .nil))
    · have := EqAt.str_str (A := A.in1) (s := s) p.1 t p.1 t'
      simpa using this
    · have := EqAt.int_int (A := A.in1) (s := s) p.2 u p.2 u'
      simpa using this
    · exact eq_lists l1.is l2.is (by show A.units + 1 < _; lia) (eq_ints (ws := []) i1 i2)
  have := RcNeAt.tuples (A := A) (e := fun _ => true) x1.isT x2.isT (by lia) (fun j h1 h2 => by
    have := he.at j (by simpa using h1) (by simpa using h2)
    simpa using this)
  exact this prog w E Q (by rw [all_t]; exact q)
theorem eq_six {vs ws : List Value} {b1 b2 b3 b4 b5 : Bool} {c : Int} (h1 : SixV vs b1 b2 b3 b4 b5 c) (h2 : SixV ws b1 b2 b3 b4 b5 c) : All2 (fun y x => EqAt A s y x true) vs ws := by
  obtain ⟨u, rfl⟩ := h1
  obtain ⟨u', rfl⟩ := h2
  refine .cons (.same _) (.cons (.same _) (.cons (.same _) (.cons (.same _) (.cons (.same _) (.cons ?_ .nil)))))
  have := EqAt.int_int (A := A) (s := s) c u c u'
  simpa using this
theorem eq_strs {vs ws : List Value} {xs : List Str} (h1 : All2 StrV vs xs) : ∀ {ws : List Value}, All2 StrV ws xs → All2 (fun y x => EqAt A s y x true) vs ws := by
  induction h1 with
  | nil => intro ws h2; cases h2; exact .nil
  | cons p _ ih =>
    intro ws h2
    cases h2 with
    | cons p' h2 =>
      obtain ⟨t, rfl⟩ := p
      obtain ⟨t', rfl⟩ := p'
      refine .cons ?_ (ih h2)
      rename_i x _ _ _ _
      have := EqAt.str_str (A := A) (s := s) x t x t'
      simpa using this
end
end

section
section
variable {prog : Program} {w : World} {mg mb : Str → Option Value} {A : Around} {C : Addr}
structure KeyOk (late : Bool) (p r : Str × Int) : Prop where
  lt : cmpB .Lt (cmp3 (marksL p.1.cps.toList late) (marksL r.1.cps.toList late)) = ltI late p r
  gt : cmpB .Gt (cmp3 (marksL p.1.cps.toList late) (marksL r.1.cps.toList late)) = ltI late r p
  eq : cmpB .Eq (cmp3 (marksL p.1.cps.toList late) (marksL r.1.cps.toList late)) = (!ltI late p r && !ltI late r p)
  le : cmpB .LtE (cmp3 (marksL p.1.cps.toList late) (marksL r.1.cps.toList late)) = !ltI late r p
  ge : cmpB .GtE (cmp3 (marksL p.1.cps.toList late) (marksL r.1.cps.toList late)) = !ltI late p r
  c : cmp3 (marksL p.1.cps.toList late) (marksL r.1.cps.toList late) = dueC (ltI late p r) (ltI late r p)
theorem LstH.offL {h₀ h : Heap} {L : Addr} {l : List (Str × Value)} {X : List Addr} {a : Addr} {vs : List Value} (x : LstH (Of h X) a vs) (F : FrL h₀ L h l) : LstH (Of h (L :: X)) a vs := by
  obtain ⟨o, ⟨e, n⟩, r⟩ := x
  exact ⟨o, ⟨e, fun m => (List.mem_cons.mp m).elim (F.nseq e r.2) n⟩, r⟩
theorem TupH.offL {h₀ h : Heap} {L : Addr} {l : List (Str × Value)} {X : List Addr} {a : Addr} {vs : List Value} (x : TupH (Of h X) a vs) (F : FrL h₀ L h l) : TupH (Of h (L :: X)) a vs := by
  obtain ⟨o, ⟨e, n⟩, r⟩ := x
  exact ⟨o, ⟨e, fun m => (List.mem_cons.mp m).elim (F.nseq e r.2) n⟩, r⟩

theorem r_itemX {E : Value → Shared → Prop} {s : Shared} {Q : Value → Shared → Prop} {value slice : Expr} {a : Addr} {vs : List Value} {x : Int} {i : Nat} {u : Tok} {v : Value} (hx : x = (i : Int)) (hl : s.heap.IsList a vs.toArray) (hi : vs[i]? = some v) (hz : i < 1000000) (q : Q v s)
    (hs : subscripted slice false (.ref a) (.int x u) = operate [.ref a, .int x u] (getItem (.ref a) (.int x u)) := by with_unfolding_all rfl) :
    wpAny (model prog w) A (subscriptTail value slice (.ref a) (.int x u)) Q E s := by
  subst hx
  exact r_item_list hl hi hz q hs
noncomputable def KrJ (hb : Heap) (C : Addr) (late : Bool) (lv : Value) (L I : Addr) (_i : Nat) (l : List (Str × Value)) (h : Heap) : Prop :=
  SubL l [(Str.ofString "laid", lv), (Str.ofString "late", .bool late), (Str.ofString "kind", .ref C)] ∧ Pr [I, L] hb h
noncomputable def KrI (hb : Heap) (C : Addr) (late : Bool) (lv : Value) (k : Nat) (u : Tok) (L I : Addr) (_i : Nat) (l : List (Str × Value)) (h : Heap) : Prop :=
  SubL l [(Str.ofString "k", .int (k : Nat) u), (Str.ofString "laid", lv), (Str.ofString "late", .bool late), (Str.ofString "kind", .ref C)] ∧ Pr [I, L] hb h

theorem kright_ok {lv : Value} {late : Bool} {its : List (Str × Int)} {s : Shared} {R : Value → Shared → Prop} (G : Gd w mg mb s.heap) (y : KAt (Of s.heap []) C) (a : Ar A 6) (hl : ItemsH late (Of s.heap []) lv its) (hz : its.length ≤ 1000) (h5 : 5 ≤ its.length) (hn : ∀ p ∈ its, p.1.length ≤ 1000)
    (ok : ∀ p ∈ its, ∀ r ∈ its, KeyOk late p r)
    (q : ∀ h' t', Kp s.heap h' → R (.bool true) ⟨h', s.gens, s.drawn, t', s.os⟩) :
    codeAny (model prog w) A (.call (.ref 144) ⟨[lv, .bool late, .ref C], []⟩) (RetR R) s := by
  refine enter [(Str.ofString "laid", lv), (Str.ofString "late", .bool late), (Str.ofString "kind", .ref C)] G a.d0 (by k_is) (by k_is) rfl rfl ?_
  intro env h₁ t₁ F
  have a1 : Ar (A.deeper env) 5 := a.deeper
  obtain ⟨la, vs, rfl, xl, xi⟩ := hl.le F.args
  have y₁ := y.keeps F.args
  have hlen := xi.length
  refine s_for ?_
  refine r_call ?_ (by with_unfolding_all rfl)
  walk_at "xs"
  refine r_callT ?_
  walk_at "xs"
  refine r_range (n := 4) a1.hd rfl (by decide) fun I h₂ t₂ St it => ?_
  have nIL : I ≠ env.locals := F.ne it.new
  have nI0 : s.heap.get? I = none := none_of it.new F.keep
  refine forW it.W it.st ?_ ?_ [] ?_ (KrJ h₂ C late (.ref la) env.locals I) (F.kp it.kp) ⟨⟨rfl, rfl, rfl, trivial⟩, Pr.refl _ _⟩ ?_ ?_
  · intro m; exact nIL (List.mem_singleton.mp m).symm
  · intro b m; rw [List.mem_singleton.mp m]; exact nI0
  · intro b m; cases m
  · rintro i v l h h₃ t₃ hi ⟨u, rfl⟩ ⟨sl, pw⟩ F₃ p₃
    have P₃ : Pr [I, env.locals] h₂ h₃ := pw.trans (p₃.mono (by simp))
    have M₃ : Le (Of h₁ [env.locals]) (Of h₃ [I, env.locals]) := (Of.more (it.kp.le _) it.new).trans P₃.le'
    have xl₃ := xl.le M₃
    have xi₃ : All2 (ItemH late (Of h₃ [I, env.locals])) vs its := xi.mono fun _ _ j => j.le M₃
    have y₃ := y₁.keeps M₃
    have F₃' : FrL s.heap env.locals h₃ [(Str.ofString "k", .int (i : Nat) u), (Str.ofString "laid", .ref la), (Str.ofString "late", .bool late), (Str.ofString "kind", .ref C)] := F₃.sub ⟨rfl, sl.1, sl.2.1, sl.2.2.1, trivial⟩
    clear F₃
    obtain ⟨pk, ek⟩ : ∃ z, its[i]? = some z := ⟨_, List.getElem?_eq_getElem (by lia)⟩
    obtain ⟨pk1, ek1⟩ : ∃ z, its[i + 1]? = some z := ⟨_, List.getElem?_eq_getElem (by lia)⟩
    obtain ⟨v1, ev1, i1⟩ := xi₃.get ek
    obtain ⟨v2, ev2, i2⟩ := xi₃.get ek1
    refine s_forG ?_
    walk_at "xs"
    refine r_itemX rfl xl₃.is ev1 (by lia) ?_ (by with_unfolding_all rfl)
    walk_at "xs"
    refine r_itemX (i := i + 1) (by lia) xl₃.is ev2 (by lia) ?_ (by with_unfolding_all rfl)
    walk_at "xs"
    refine r_newTuple (by simp) fun T1 h₄ k₄ n₄ e₄ => ?_
    have F₄ := F₃'.kp k₄
    walk_at "xs"
    refine r_itemX (i := i + 1) (by lia) (xl₃.le (k₄.le _)).is ev2 (by lia) ?_ (by with_unfolding_all rfl)
    walk_at "xs"
    refine r_itemX rfl (xl₃.le (k₄.le _)).is ev1 (by lia) ?_ (by with_unfolding_all rfl)
    walk_at "xs"
    refine r_newTuple (by simp) fun T2 h₅ k₅ n₅ e₅ => ?_
    have F₅ := F₄.kp k₅
    have k₄₅ := k₄.trans k₅
    walk_at "xs"
    refine r_itemX rfl (xl₃.le (k₄₅.le _)).is ev1 (by lia) ?_ (by with_unfolding_all rfl)
    walk_at "xs"
    refine r_itemX rfl (xl₃.le (k₄₅.le _)).is ev1 (by lia) ?_ (by with_unfolding_all rfl)
    walk_at "xs"
    refine r_newTuple (by simp) fun T3 h₆ k₆ n₆ e₆ => ?_
    have F₆ := F₅.kp k₆
    walk_at "xs"
    refine r_newList (by simp) fun D h₇ k₇ nD eD => ?_
    have F₇ := F₆.kp k₇
    have K₇ : Kp h₃ h₇ := (k₄₅.trans k₆).trans k₇
    refine r_iterListI a1.hd (listOf_is eD) fun J h₈ St' it' hit => ?_
    have F₈ := F₇.kp it'.kp
    have nJL : J ≠ env.locals := F₇.ne it'.new
    have nDL : D ≠ env.locals := F₆.ne nD
    have nJ0 : s.heap.get? J = none := none_of it'.new F₇.keep
    have K₈ : Kp h₃ h₈ := K₇.trans it'.kp
    have tup : ∀ {T : Addr} {ws : List Value} {h' : Heap}, IsTup h' T ws.toArray → Kp h' h₇ → TupH (Of h₈ [J, env.locals]) T ws := by
      intro T ws h' e k
      have e₇ : TupH (Of h₇ []) T ws := by obtain ⟨o, eo, r⟩ := e; exact ⟨o, ⟨k _ _ eo, by simp⟩, r⟩
      exact (e₇.offL F₇).le (Of.more (it'.kp.le _) it'.new)
    have tp : All2 (fun (v : Value) (pq : (Value × (Str × Int)) × (Value × (Str × Int))) => ∃ T, v = .ref T ∧ TupH (Of h₈ [J, env.locals]) T [pq.1.1, pq.2.1]) [.ref T1, .ref T2, .ref T3] [((v1, pk), (v2, pk1)), ((v2, pk1), (v1, pk)), ((v1, pk), (v1, pk))] :=
      .cons ⟨T1, rfl, tup (ws := [v1, v2]) e₄ ((k₅.trans k₆).trans k₇)⟩ (.cons ⟨T2, rfl, tup (ws := [v2, v1]) e₅ (k₆.trans k₇)⟩ (.cons ⟨T3, rfl, tup (ws := [v1, v1]) e₆ k₇⟩ .nil))
    have m1 : pk ∈ its := List.mem_of_getElem? ek
    have m2 : pk1 ∈ its := List.mem_of_getElem? ek1
    have M₈ : Le (Of h₃ [I, env.locals]) (Of h₈ [J, I, env.locals]) := Of.more (K₈.le _) (none_of it'.new K₇)
    have i1₈ := i1.le M₈
    have i2₈ := i2.le M₈
    have y₈ := y₃.keeps M₈
    refine forG it'.W it'.st ?_ ?_ [] ?_ (KrI h₈ C late (.ref la) i u env.locals J) F₈ ⟨⟨rfl, rfl, rfl, rfl, trivial⟩, Pr.refl _ _⟩ ?_ ?_ ?_
    · intro m
      rcases List.mem_cons.mp m with e | m
      · exact nJL e.symm
      · exact nDL (List.mem_singleton.mp m).symm
    · intro b m; rw [List.mem_singleton.mp m]; exact nJ0
    · intro b m; cases m
    · rintro n v l₂ h h₉ t₉ hn' hv ⟨sl₂, pw₂⟩ F₉ p₉ _
      obtain ⟨pq, epq, T, rfl, eT⟩ := tp.get' hv
      have P₉ : Pr [J, env.locals] h₈ h₉ := pw₂.trans (p₉.mono (by simp))
      refine a_pair a1.hd (eT.le P₉.le').is F₉ ?_ (by with_unfolding_all rfl) (by with_unfolding_all rfl) (by with_unfolding_all rfl)
      intro h₁₀ t₁₀ F₁₀ p₁₀
      have P₁₀ : Pr [J, env.locals] h₈ h₁₀ := P₉.trans (p₁₀.mono (by simp))
      have F₁₀' : FrL s.heap env.locals h₁₀ [(Str.ofString "other", pq.2.1), (Str.ofString "one", pq.1.1), (Str.ofString "k", .int (i : Nat) u), (Str.ofString "laid", .ref la), (Str.ofString "late", .bool late), (Str.ofString "kind", .ref C)] :=
        F₁₀.sub ⟨rfl, rfl, sl₂.1, sl₂.2.1, sl₂.2.2.1, sl₂.2.2.2.1, trivial⟩
      clear F₁₀
      have M₁₀ : Le (Of h₈ [J, I, env.locals]) (Of h₁₀ [J, I, env.locals]) := P₁₀.le (by simp)
      have hpq : ItemH late (Of h₁₀ []) pq.1.1 pq.1.2 ∧ ItemH late (Of h₁₀ []) pq.2.1 pq.2.2 ∧ pq.1.2 ∈ its ∧ pq.2.2 ∈ its := by
        have m := List.mem_of_getElem? epq
        have j1 := (i1₈.le M₁₀).le Of.all
        have j2 := (i2₈.le M₁₀).le Of.all
        rcases List.mem_cons.mp m with rfl | m
        · exact ⟨j1, j2, m1, m2⟩
        rcases List.mem_cons.mp m with rfl | m
        · exact ⟨j2, j1, m2, m1⟩
        rw [List.mem_singleton.mp m]
        exact ⟨j1, j1, m1, m1⟩
      obtain ⟨j1, j2, n1, n2⟩ := hpq
      have y₁₀ := (y₈.keeps M₁₀).keeps Of.all
      have o := ok _ n1 _ n2
      walk_at "xs"
      refine ⟨G.keeps F₁₀'.keep, r_con (told_ok (G.keeps F₁₀'.keep) y₁₀ a1 j1 j2 ?_)⟩
      intro b1 ws h₁₁ t₁₁ k₁₁ lb nb six
      have F₁₁ := F₁₀'.kp k₁₁
      walk_at "xs"
      refine ⟨G.keeps F₁₁.keep, r_con (due_ok (G.keeps F₁₁.keep) (a1.less (by decide)) (j1.le (k₁₁.le _)) (j2.le (k₁₁.le _)) (hn _ n1) (hn _ n2) ?_)⟩
      intro b2 ws2 h₁₂ t₁₂ k₁₂ lb2 nb2 six2
      have F₁₂ := F₁₁.kp k₁₂
      dsimp only at six
      rw [o.lt, o.gt, o.eq, o.le, o.ge, o.c] at six
      refine ne_lists (lb.le (k₁₂.le _)).is lb2.is (by have := a1.un; lia) (eq_six six six2) ?_
      walk_at "xs"
      exact s_nil ⟨h₁₂, _, rfl, _, F₁₂, (p₁₀.mono (by simp)).trans ((k₁₁.trans k₁₂).pr _), ⟨rfl, rfl, rfl, rfl, trivial⟩, (P₁₀.trans ((k₁₁.trans k₁₂).pr _))⟩
    · rintro l₂ h h₉ t₉ ⟨sl₂, pw₂⟩ F₉ p₉
      have P₉ : Pr [J, env.locals] h₈ h₉ := pw₂.trans (p₉.mono (by simp))
      have PL : Pr [env.locals] h₃ h₉ := fun b o e n => P₉ b o (K₈ b o e) fun m => by
        rcases List.mem_cons.mp m with rfl | m
        · rw [none_of it'.new K₇] at e; cases e
        · exact n m
      refine s_nil ⟨h₉, t₉, rfl, l₂, F₉, ?_, ⟨sl₂.2.1, sl₂.2.2.1, sl₂.2.2.2.1, trivial⟩, ?_⟩
      · exact PL
      · exact P₃.trans (PL.mono (by simp))
    · intro i' v' h' t' Q' st' q'
      cases v' <;> first | exact wpAny_letOwnedTupleGo_listiter (s := ⟨h', _, _, _, _⟩) (hit _ _ st') q' | exact wpAny_pure q'
  · rintro l h h' t' ⟨sl, pw⟩ F' p'
    walk_at "xs"
    exact q _ _ F'.keep
end
end

section
theorem Gd.ghost {w : World} {mg mb : Str → Option Value} {h : Heap} {tabs : List (Addr × Addr)} (G : Gd w mg mb h) (hT : TabsAt tabs h) : Gd w mg mb (ghostOf h tabs) :=
  ⟨ghost_K hT G.K (by kernel_rfl), ⟨ghost_ns hT G.T.g, ghost_ns hT G.T.b, let ⟨mc, a, r⟩ := G.T.nolimit; ⟨mc, ghost_ns hT a, r⟩, G.T.builtins, G.T.free⟩⟩
theorem BmAt.ghost {mg : Str → Option Value} {h : Heap} {tabs : List (Addr × Addr)} (M : BmAt mg h) (hT : TabsAt tabs h) : BmAt mg (ghostOf h tabs) :=
  let ⟨bm, ob, a1, a2, a3, a4, r⟩ := M; ⟨bm, ob, a1, a2, ghost_get hT a3 (fun q => by rw [q] at a4; cases a4), a4, r⟩

theorem FrL.ghost {h₀ h h' : Heap} {L : Addr} {l : List (Str × Value)} {X : List Addr} (F : FrL h₀ L h l) (p : Pr X h h') (hX : ∀ a ∈ X, ∃ o, h₀.get? a = Option.some o) : FrL (hideAll h₀ X) L h' l := by
  have hL : L ∉ X := fun m => by obtain ⟨o, e⟩ := hX L m; rw [F.base] at e; cases e
  obtain ⟨m, F, e⟩ := F.ex
  refine ⟨m, ⟨?_, fun b o q => ?_, Nat.le_trans (Nat.le_of_eq (hideAll_size _ _)) F.above⟩, e⟩
  · obtain ⟨o, es, ep, x, r⟩ := F.ns
    exact ⟨o, es, ep, p _ _ x hL, r⟩
  · refine p b o (F.keep b o (of_hideAll _ q)) fun m => ?_
    rw [hideAll_none _ m] at q; cases q
theorem Bag.off {h₀ h h' : Heap} {l : List (Addr × Obj)} {L T : Addr} {oT : Obj} {p : Addr × Obj} (B : Bag h₀ h l) (i j : Nat) (ei : l[i]? = some p) (ej : l[j]? = some (T, oT)) (hij : i < j) (hs : Heap.SameBut L h h') (hL : ∃ o, h₀.get? L = some o) : Of h' [T] p.1 p.2 := by
  refine ⟨(hs.2 p.1 fun z => ?_).trans (B.has p (List.mem_of_getElem? ei)), fun m => B.ne i j ei ej hij (List.mem_singleton.mp m)⟩
  obtain ⟨o, e⟩ := hL
  rw [← z, B.new p (List.mem_of_getElem? ei)] at e; cases e
section
variable {prog : Program} {w : World} {mg mb : Str → Option Value} {A : Around}

noncomputable def NewOf (h₀ h : Heap) (X : List Addr) : Hp := fun b o => Of h X b o ∧ h₀.get? b = none
theorem ck_ok {s : Shared} {R : Value → Shared → Prop} (G : Gd w mg mb s.heap) (M : BmAt mg s.heap) (T48 : s.heap.get? 48 = some (tabObj #[])) (a : Ar A 2)
    (q : ∀ C h' t', Pr [48] s.heap h' → (∃ ps, h'.get? 48 = some (tabObj ps)) → KAt (NewOf s.heap h' [48]) C → R (.ref C) ⟨h', s.gens, s.drawn, t', s.os⟩) :
    codeAny (model prog w) A (.call (.ref 53) ⟨[.ref 116], []⟩) (RetR R) s := by
  have C0 : CodeHd s.heap 52 48 := codeHd_of_K G.K (by kernel_rfl)
  refine enterC [(Str.ofString "mycmp", .ref 116)] [] G a.d0 (by k_is) (by k_is) rfl rfl trivial ?_
  intro env h₁ t₁ F X
  have a1 : Ar (A.deeper env) 1 := a.deeper
  have k₁ : Kp s.heap h₁ := F.keep
  have hT : TabsAt [(52, 48)] h₁ := fun q hq => by
    rw [List.mem_singleton.mp hq]; exact ⟨C0.keeps k₁, k₁ _ _ T48⟩
  have G₁ : Gd w mg mb (ghostOf h₁ [(52, 48)]) := (G.keeps k₁).ghost hT
  have M₁ : BmAt mg (ghostOf h₁ [(52, 48)]) := (M.keeps k₁).ghost hT
  have C₁ : CodeHd (ghostOf h₁ [(52, 48)]) 52 48 := (ghost_code hT).1
  have e168 : ∃ o, (ghostOf h₁ [(52, 48)]).get? 53 = some o := ⟨_, G₁.K _ _ (by k_is)⟩
  obtain ⟨o168, e168⟩ := e168
  have B₁ : Bag (ghostOf h₁ [(52, 48)]) h₁ [(48, tabObj #[])] := by
    refine ⟨fun b o e => of_hideAll _ e, fun p m => ?_, fun p m => ?_, .cons (fun _ m => nomatch m) .nil, ⟨53, o168, by decide, e168⟩, fun p m => ?_⟩
    · rw [List.mem_singleton.mp m]; exact k₁ _ _ T48
    · rw [List.mem_singleton.mp m]; exact hideAll_none _ (.head _)
    · rw [List.mem_singleton.mp m]; decide
  have cellX : h₁.IsCell (s.heap.objs.size + 1) (some (.ref 116)) := X.cell (Str.ofString "mycmp") _ rfl
  have bld : mb (Str.ofString "__build_class__") = some (.builtin "__build_class__") := (G.T.builtins _ (by decide)).trans (by decide +kernel)
  refine wpAny_execs_cons ?_
  rw [arm_exec_ClassDef]
  refine wpAny_bind (wpAny_pure ?_)
  refine wpAny_bind (wpAny_standAt ?_)
  refine wpAny_bind (m := buildClassGuard env) ?_
  unfold buildClassGuard
  refine wpAny_bind (wpAny_nsGet (G.T.b.keeps k₁) ?_)
  rw [bld]
  refine wpAny_pure ?_
  refine wpAny_bind (wpAny_holding (wpAny_bind ?_))
  refine Calls.evalArgs_plain (r_args (r_bltn F G (by k_is) boot_object (by decide) (r_args0 ?_) (by with_unfolding_all rfl) (by with_unfolding_all rfl) (by with_unfolding_all rfl) (by with_unfolding_all rfl) (by decide)) (by with_unfolding_all rfl))
  refine wpAny_bind (wpAny_standAt (wpAny_holding ?_))
  have nm : ∃ v, mg (Str.ofString "__name__") = some v := ⟨_, mg_of G.K G.T.g (by k_is)⟩
  obtain ⟨vn, nm⟩ := nm
  refine bc_ok (h₀ := ghostOf h₁ [(52, 48)]) (clos := [(Str.ofString "mycmp", s.heap.objs.size + 1)]) (c := 52) (P := 48) (ps := #[]) (f := fun o => [(48, o)]) (vn := vn) G₁ M₁ B₁ a1.d0 rfl rfl rfl rfl rfl rfl rfl rfl rfl rfl ?_ C₁ (fun o => .head) trivial rfl nm ?_
  · with_unfolding_all rfl
  intro un aT aP aN c' P' oc fr fo es n h₂ t₂ tq ti B₂ O N
  have ncP : c' ≠ P' := B₂.ne 1 2 rfl rfl (by decide)
  have B := B₂; clear B₂
  refine c_run (by with_unfolding_all rfl) (by with_unfolding_all rfl) (by with_unfolding_all rfl) fun A' => ?_
  refine s_assign (r_str fun u₃ t₃ => ?_) (by with_unfolding_all rfl)
  refine c_store rfl (.inr rfl) B N (n := n) (f := fun o => [(fr, fo), (c', oc), (P', tabObj #[]), (aN, o), (aP, prepO), (aT, _), (48, _)]) (fun o => .tail (.tail (.tail .head))) ?_
  clear B N
  intro es n h t B N
  refine s_assign (List_ (r_args (r_str fun u₄ t₄ => r_args0 ?_) (by with_unfolding_all rfl))) (by with_unfolding_all rfl)
  refine b_newList B (by simp) ?_
  clear B
  intro aS h B
  refine c_store rfl (.inr rfl) B N (n := n) (f := fun o => [(aS, _), (fr, fo), (c', oc), (P', tabObj #[]), (aN, o), (aP, prepO), (aT, _), (48, _)]) (fun o => .tail (.tail (.tail (.tail .head)))) ?_
  clear B N
  intro es n h t B N
  refine c_def (l := _) (f := _) (fN := _) G₁ M₁ B N (by repeat (first | exact List.Mem.head _ | apply List.Mem.tail)) O ncP (fun o => by repeat (first | exact UpdB.head | apply UpdB.tail)) (fun fa oF c' o' o => by repeat (first | exact UpdB.head | apply UpdB.tail)) ?_ rfl rfl rfl rfl rfl (by with_unfolding_all rfl) (by simp [TriplesOk, rawInt]) (by simp [codeAmong, rawInt])
  clear B N
  intro fa1 oF1 c1 o1 es n h t B N FO1 RO1
  refine c_def (l := _) (f := _) (fN := _) G₁ M₁ B N (by repeat (first | exact List.Mem.head _ | apply List.Mem.tail)) O ncP (fun o => by repeat (first | exact UpdB.head | apply UpdB.tail)) (fun fa oF c' o' o => by repeat (first | exact UpdB.head | apply UpdB.tail)) ?_ rfl rfl rfl rfl rfl (by with_unfolding_all rfl) (by simp [TriplesOk, rawInt]) (by simp [codeAmong, rawInt])
  clear B N
  intro fa2 oF2 c2 o2 es n h t B N FO2 RO2
  refine c_def (l := _) (f := _) (fN := _) G₁ M₁ B N (by repeat (first | exact List.Mem.head _ | apply List.Mem.tail)) O ncP (fun o => by repeat (first | exact UpdB.head | apply UpdB.tail)) (fun fa oF c' o' o => by repeat (first | exact UpdB.head | apply UpdB.tail)) ?_ rfl rfl rfl rfl rfl (by with_unfolding_all rfl) (by simp [TriplesOk, rawInt]) (by simp [codeAmong, rawInt])
  clear B N
  intro fa3 oF3 c3 o3 es n h t B N FO3 RO3
  refine c_def (l := _) (f := _) (fN := _) G₁ M₁ B N (by repeat (first | exact List.Mem.head _ | apply List.Mem.tail)) O ncP (fun o => by repeat (first | exact UpdB.head | apply UpdB.tail)) (fun fa oF c' o' o => by repeat (first | exact UpdB.head | apply UpdB.tail)) ?_ rfl rfl rfl rfl rfl (by with_unfolding_all rfl) (by simp [TriplesOk, rawInt]) (by simp [codeAmong, rawInt])
  clear B N
  intro fa4 oF4 c4 o4 es n h t B N FO4 RO4
  refine c_def (l := _) (f := _) (fN := _) G₁ M₁ B N (by repeat (first | exact List.Mem.head _ | apply List.Mem.tail)) O ncP (fun o => by repeat (first | exact UpdB.head | apply UpdB.tail)) (fun fa oF c' o' o => by repeat (first | exact UpdB.head | apply UpdB.tail)) ?_ rfl rfl rfl rfl rfl (by with_unfolding_all rfl) (by simp [TriplesOk, rawInt]) (by simp [codeAmong, rawInt])
  clear B N
  intro fa5 oF5 c5 o5 es n h t B N FO5 RO5
  refine c_def (l := _) (f := _) (fN := _) G₁ M₁ B N (by repeat (first | exact List.Mem.head _ | apply List.Mem.tail)) O ncP (fun o => by repeat (first | exact UpdB.head | apply UpdB.tail)) (fun fa oF c' o' o => by repeat (first | exact UpdB.head | apply UpdB.tail)) ?_ rfl rfl rfl rfl rfl (by with_unfolding_all rfl) (by simp [TriplesOk, rawInt]) (by simp [codeAmong, rawInt])
  clear B N
  intro fa6 oF6 c6 o6 es n h t B N FO6 RO6
  refine s_assign (Constant_none ?_) (by with_unfolding_all rfl)
  refine c_store (f := _) rfl (.inr rfl) B N (n := n) (fun o => by repeat (first | exact UpdB.head | apply UpdB.tail)) ?_
  clear B N
  intro es n h t B N
  refine s_nil ⟨h, t, _, es, n, _, _, rfl, B, N, (fun o => by repeat (first | exact UpdB.head | apply UpdB.tail)), ?_⟩
  clear B N
  intro es n h t aA oA hoA B N
  refine ty_call fun A' _ => ?_
  refine tn_ok (l := _) (aS := aS) (f1 := fa1) (f2 := fa2) (f3 := fa3) (f4 := fa4) (f5 := fa5) (f6 := fa6) (aA := aA) B (by repeat (first | exact List.Mem.head _ | apply List.Mem.tail)) (by repeat (first | exact List.Mem.head _ | apply List.Mem.tail)) N (by repeat (first | exact List.Mem.head _ | apply List.Mem.tail)) G₁ ⟨_, _, rfl⟩ ?_ ⟨oA, .head _, hoA⟩ ?_ ?_
  · obtain ⟨_, _, rfl⟩ := FO1
    obtain ⟨_, _, rfl⟩ := FO2
    obtain ⟨_, _, rfl⟩ := FO3
    obtain ⟨_, _, rfl⟩ := FO4
    obtain ⟨_, _, rfl⟩ := FO5
    obtain ⟨_, _, rfl⟩ := FO6
    intro f m
    simp only [List.mem_cons, List.not_mem_nil, or_false] at m
    rcases m with rfl | rfl | rfl | rfl | rfl | rfl
    all_goals exact ⟨_, by repeat (first | exact List.Mem.head _ | apply List.Mem.tail), rfl⟩
  · first | rfl | decide +kernel | kernel_rfl
  · intro C ns p tp es' n' h' t' B' N'
    refine ⟨C, _, rfl, B'.has (C, _) (.tail _ (.head _)), rfl, ?_⟩
    have P : Pr [48] h₁ h' := fun b o e n => B'.keep b o (hideAll_get _ e n)
    refine wpAny_bind (wpAny_pure (wpAny_bind (wpAny_standAt (wpAny_bind (wpAny_bindName ?_)))))
    have F' : FrL (hideAll s.heap [48]) env.locals h' [] := F.ghost P fun a m => ⟨tabObj #[], by rw [List.mem_singleton.mp m]; exact T48⟩
    refine r_store F' ?_ (by with_unfolding_all rfl) (by with_unfolding_all rfl)
    intro h'' t'' F'' hs
    refine wpAny_pure ?_
    refine s_ret (r_name F'' rfl ?_ (by with_unfolding_all rfl) (by with_unfolding_all rfl) (by decide))
    have hL : ∃ o, (ghostOf h₁ [(52, 48)]).get? env.locals = some o := by
      obtain ⟨o, e⟩ := F.some
      refine ⟨o, hideAll_get _ e fun m => ?_⟩
      have b := F.base
      rw [List.mem_singleton.mp m, T48] at b; cases b
    have off' := fun {i : Nat} {pp : Addr × Obj} (e : _[i]? = some pp) (hi : i < 23) => B'.off (T := 48) i 23 e rfl hi hs hL
    have nw : ∀ {b : Addr}, (ghostOf h₁ [(52, 48)]).get? b = none → b ∉ [48] → s.heap.get? b = none := fun {b} hn n48 => by
      cases z : s.heap.get? b with
      | none => rfl
      | some o =>
        have := hideAll_get [48] (k₁ _ _ z) n48
        rw [show hideAll h₁ [48] = ghostOf h₁ [(52, 48)] from rfl, hn] at this; cases this
    have off := fun {i : Nat} {pp : Addr × Obj} (e : _[i]? = some pp) (hi : i < 23) => (show NewOf s.heap h'' [48] pp.1 pp.2 from ⟨off' e hi, nw (B'.new pp (List.mem_of_getElem? e)) (off' e hi).2⟩)
    have n48L : (48 : Addr) ≠ env.locals := fun z => by
      have b := F.base
      rw [← z, T48] at b; cases b
    refine q C h'' _ (fun b o e n => F''.keep b o (hideAll_get _ e n)) ⟨_, (hs.2 48 n48L).trans (B'.get 23 rfl)⟩ ⟨⟨ns, p, qualnameIn env (Str.ofString "K") (Str.ofString "K"), aT, un, tq, tp, es', n', .str (Str.ofString "cpy313.functools") u₃, (firstLineOf [] { line := 26, col := 4, endLine := 47, endCol := 23 } : Nat), ti, aS, fa1, fa2, fa3, fa4, fa5, fa6, aA, s.heap.objs.size + 1⟩, ?_⟩
    obtain ⟨d1, v1, rfl⟩ := FO1
    obtain ⟨d2, v2, rfl⟩ := FO2
    obtain ⟨d3, v3, rfl⟩ := FO3
    obtain ⟨d4, v4, rfl⟩ := FO4
    obtain ⟨d5, v5, rfl⟩ := FO5
    obtain ⟨d6, v6, rfl⟩ := FO6
    refine ⟨off (i := 1) rfl (by decide), off (i := 2) rfl (by decide), N', off (i := 0) rfl (by decide), ?_, ?_, ?_, ?_, ?_, ?_, ?_⟩
    · exact ⟨_, _, _, _, _, _, _, _, _, _, _, off (i := 14) rfl (by decide), ⟨_, _, rfl⟩, off (i := 15) rfl (by decide), RO1⟩
    · exact ⟨_, _, _, _, _, _, _, _, _, _, _, _, _, _, _, _, off (i := 12) rfl (by decide), ⟨_, _, rfl⟩, off (i := 13) rfl (by decide), RO2⟩
    · exact ⟨_, _, _, _, _, _, _, _, _, _, _, _, _, _, _, _, off (i := 10) rfl (by decide), ⟨_, _, rfl⟩, off (i := 11) rfl (by decide), RO3⟩
    · exact ⟨_, _, _, _, _, _, _, _, _, _, _, _, _, _, _, _, off (i := 8) rfl (by decide), ⟨_, _, rfl⟩, off (i := 9) rfl (by decide), RO4⟩
    · exact ⟨_, _, _, _, _, _, _, _, _, _, _, _, _, _, _, _, off (i := 6) rfl (by decide), ⟨_, _, rfl⟩, off (i := 7) rfl (by decide), RO5⟩
    · exact ⟨_, _, _, _, _, _, _, _, _, _, _, _, _, _, _, _, off (i := 4) rfl (by decide), ⟨_, _, rfl⟩, off (i := 5) rfl (by decide), RO6⟩
    · obtain ⟨oc, e1, e2⟩ := cellX
      have n48 : s.heap.objs.size + 1 ≠ 48 := fun z => by
        rw [z, k₁ _ _ T48] at e1; cases e1; cases e2
      have nL : s.heap.objs.size + 1 ≠ env.locals := fun z => absurd z (Nat.ne_of_gt (Nat.lt_succ_self _))
      exact ⟨oc, ⟨⟨(hs.2 _ nL).trans (P _ _ e1 (by simpa using n48)), by simpa using n48⟩, Heap.get?_none_of_le (Nat.le_succ _)⟩, e2⟩
end
end

section
noncomputable def ltS (a b : Str) : Bool := decide (a.cps.toList < b.cps.toList)
theorem dropW_len {α : Type} (p : α → Bool) (l : List α) : (l.dropWhile p).length ≤ l.length := (List.dropWhile_suffix p).length_le
noncomputable def sldL : List Str → List Str → List Str × List Str
  | [], ys => ([], ys)
  | x :: xs, [] => (x :: xs, [])
  | x :: xs, y :: ys =>
    if ltS x y = true then (x :: (sldL (xs.dropWhile (· == x)) (y :: ys)).1, (sldL (xs.dropWhile (· == x)) (y :: ys)).2)
    else if ltS y x = true then ((sldL (x :: xs) (ys.dropWhile (· == y))).1, y :: (sldL (x :: xs) (ys.dropWhile (· == y))).2)
    else sldL (xs.dropWhile (· == x)) (ys.dropWhile (· == y))
termination_by xs ys => xs.length + ys.length
decreasing_by
  all_goals
    have h1 := dropW_len (· == x) xs
    have h2 := dropW_len (· == y) ys
    simp only [List.length_cons]
    lia
theorem str_eqb (a b : Str) : (a.cps.toList == b.cps.toList) = (a == b) := by
  rw [Bool.eq_iff_iff, beq_iff_eq, beq_iff_eq]
  constructor
  · intro h; exact Str.ext' (Array.toList_inj.mp h)
  · intro h; rw [h]
theorem FrL.reb {h₀ h : Heap} {L : Addr} {x : Str} {v v' : Value} {l : List (Str × Value)} (F : FrL h₀ L h ((x, v) :: (x, v') :: l)) : FrL h₀ L h ((x, v) :: l) := by
  obtain ⟨m, F, e⟩ := F.ex
  refine ⟨m, F, fun y z q => e y z ?_⟩
  rw [List.lookup_cons] at q ⊢
  cases c : y == x with
  | true => rw [c] at q; exact q
  | false =>
    rw [c] at q
    dsimp only at q ⊢
    rw [List.lookup_cons, c]
    exact q
theorem look_ne {x y : Str} {v : Value} {l : List (Str × Value)} {r : Option Value} (h : (x == y) = false) (e : l.lookup x = r) : List.lookup x ((y, v) :: l) = r := by rw [List.lookup_cons, h]; exact e
theorem look_eq {x : Str} {v : Value} {l : List (Str × Value)} : List.lookup x ((x, v) :: l) = some v := by rw [List.lookup_cons, beq_self_eq_true]

theorem s_brk {M : Model} {A : Around} {E : Value → Shared → Prop} {s : Shared} {env : Env} {Q : Flow → Shared → Prop} {rest : List Stmt} {pos : Pos} (h : Q .brk s) : wpAny M A (execs (.Break pos :: rest) env) Q E s :=
  wpAny_execs_cons (wpAny_Break h)
section
variable {prog : Program} {w : World} {mg mb : Str → Option Value} {A : Around} {E : Value → Shared → Prop} {hb h₀ h : Heap} {g : Array GenState} {d : Drawn} {t : Nat} {os : OsState} {env : Env} {outer : List Env} {fs : List Addr} {l0 : List (Str × Value)}
theorem r_iadd {a b : Int} {u v : Tok} {Q : Value → Shared → Prop} (q : ∀ u t', Q (.int (a + b) u) ⟨h, g, d, t', os⟩) : wpAny (model prog w) A (inplaceOp .Add (.int a u) (.int b v)) Q E ⟨h, g, d, t, os⟩ := PyProof.Rows.iadd_int (q _ _)
theorem FS.notL {h : Heap} {l : List (Str × Value)} (F : FrL h₀ env.locals h l) (h0 : ∀ a ∈ fs, h₀.get? a = none) (O : OutF hb fs h) (n : env.locals ∉ fs) : ∀ a ∈ env.locals :: fs, ∃ o, h.get? a = some o ∧ ∀ vs, o.data ≠ .fields vs := by
  intro a m
  rcases List.mem_cons.mp m with rfl | m
  · obtain ⟨o, es, k, e, d⟩ := F.data
    exact ⟨o, e, fun vs z => by rw [d] at z; cases z⟩
  · exact O.at m
theorem x_pass {e : Addr} {cls ctx : Value} {l : List (Str × Value)} {M' : Model} (hM : M' = model prog w) {A' : Around} (S : FS A env outer fs) (S' : FS A' env outer fs) (F : FrL h₀ env.locals h l) (O : OutF hb fs h) (h0 : ∀ a ∈ fs, h₀.get? a = none) {st : Option Value} (hst : st = none ∨ st = some (rawInt env.locals)) (x : ExcB h₀ h e cls ctx st)
    (q : ∀ h' t', FrL h₀ env.locals h' l → OutF hb fs h' → XP (e :: env.locals :: fs) h h' → ExcB h₀ h' e cls ctx (some (rawInt env.locals)) → E (.ref e) ⟨h', g, d, t', os⟩) :
    notedBy M' A' env (cameBackBy M' A env E) (.ref e) ⟨h, g, d, t, os⟩ := by
  subst hM
  have back : ∀ h₁, FrL h₀ env.locals h₁ l → OutF hb fs h₁ → XP (e :: env.locals :: fs) h h₁ → ExcB h₀ h₁ e cls ctx (some (rawInt env.locals)) → cameBackBy (model prog w) A env E (.ref e) ⟨h₁, g, d, t, os⟩ := by
    intro h₁ F₁ O₁ P₁ x₁
    obtain ⟨o, vs, a0, e1, e2, e3, e4, e5, e6, T, oT, ts, t1, tr⟩ := id x₁
    unfold cameBackBy
    refine wpAny_bind (wpAny_field e1 e3 t1 ?_)
    refine KFB.if_not (by simp) ?_
    refine x_flight F₁ O₁ x₁ fun h₂ T' F₂ O₂ _ _ P₂ _ x₂ => ?_
    rw [S.ef] at x₂
    exact q h₂ _ F₂ O₂ (P₁.trans (P₂.mono fun _ m => nomatch m)) x₂
  unfold notedBy
  rcases hst with rfl | rfl
  · exact x_note0 S' F O h0 x fun h₁ F₁ O₁ P₁ _ x₁ => back h₁ F₁ O₁ P₁.xp x₁
  · exact x_note1 S' x (back h F O (fun b o e _ _ => e) x)

theorem sd_skip {lst idx el : Str} {p1 p2 p3 p4 p5 p6 p7 p8 p9 : Pos} {la : Addr} {vs : List Value} {zs : List Str} {x : Str} {tx : Tok} {i : Nat} {u : Tok} {rest : List Stmt} {Q : Flow → Shared → Prop}
    (S : FS A env outer fs) (F : FrL h₀ env.locals h ((idx, .int (i : Nat) u) :: l0)) (O : OutF hb fs h) (h0 : ∀ a ∈ fs, h₀.get? a = none) (nLf : env.locals ∉ fs) (H : Hd A h) (hl0 : l0.lookup lst = some (.ref la)) (he : l0.lookup el = some (.str x tx))
    (hl : h₀.IsList la vs.toArray) (hz : All2 StrV vs zs) (hn : zs.length ≤ 1000) (hi : i ≤ zs.length)
    (q : ∀ h' t' u' (i' : Nat), FrL h₀ env.locals h' ((idx, .int (i' : Nat) u') :: l0) → Pr [env.locals] h h' → i' < zs.length → i ≤ i' → (zs.drop i).dropWhile (· == x) = zs.drop i' → wpAny (model prog w) A (execs rest env) Q E ⟨h', g, d, t', os⟩)
    (qe : ∀ h' e ctx t' u', FrL h₀ env.locals h' ((idx, .int (zs.length : Nat) u') :: l0) → OutF hb fs h' → XP (env.locals :: fs) h h' → (zs.drop i).dropWhile (· == x) = [] → ExcB h₀ h' e (.type "IndexError") ctx (some (rawInt env.locals)) → (A.handled = none → ctx = .none) → E (.ref e) ⟨h', g, d, t', os⟩)
    (n1 : (lst == idx) = false := by decide) (n2 : (el == idx) = false := by decide) (hk : env.scope.kind = .function := by with_unfolding_all rfl) (k1 : isLoc (env.kindOf lst) = true := by with_unfolding_all rfl) (k2 : isLoc (env.kindOf idx) = true := by with_unfolding_all rfl)
    (k3 : isLoc (env.kindOf el) = true := by with_unfolding_all rfl) (d1 : (lst == ("__debug__" : Str)) = false := by decide) (d2 : (idx == ("__debug__" : Str)) = false := by decide) (d3 : (el == ("__debug__" : Str)) = false := by decide) :
    wpAny (model prog w) A (execs (.While (.Compare (.Subscript (.Name lst p1) (.Name idx p2) p3) [.Eq] [.Name el p4] p5) [.AugAssign (.Name idx p6) .Add (.Constant (.int 1) 0 p7) p8] [] p9 :: rest) env) Q E ⟨h, g, d, t, os⟩ := by
  have hlen := hz.length
  refine wpAny_execs_cons (wpAny_While (codeAny_whileLoop (fun n s' => ∃ k h' t' u', s' = (⟨h', g, d, t', os⟩ : Shared) ∧ n = zs.length - k ∧ k ≤ zs.length ∧ i ≤ k ∧ FrL h₀ env.locals h' ((idx, .int (k : Nat) u') :: l0) ∧ Pr [env.locals] h h' ∧ (zs.drop i).dropWhile (· == x) = (zs.drop k).dropWhile (· == x)) ?_ (zs.length - i) ⟨i, h, t, u, rfl, rfl, hi, Nat.le_refl _, F, Pr.refl _ _, rfl⟩))
  rintro n s' ⟨k, h₁, t₁, u₁, rfl, rfl, hkn, hik, F₁, P₁, hd₁⟩
  have O₁ : OutF hb fs h₁ := O.pr P₁ fun a m z => nLf (by rw [List.mem_singleton.mp z] at m; exact m)
  have H₁ : Hd A h₁ := H.xp P₁.xp fun a m => by
    rw [List.mem_singleton.mp m]
    obtain ⟨o, es, k, e, d⟩ := F.data
    exact ⟨o, e, fun vs z => by rw [d] at z; cases z⟩
  have l₁ : h₁.IsList la vs.toArray := let ⟨o, e, r⟩ := hl; ⟨o, F₁.keep _ _ e, r⟩
  refine wpAny_isTrue_Compare1 (Subscript_ (r_name F₁ (look_ne n1 hl0) (r_name F₁ look_eq ?_ hk k2 d2) hk k1 d1)) (by with_unfolding_all rfl)
  by_cases hlt : k < zs.length
  · obtain ⟨z, ez⟩ : ∃ z, zs[k]? = some z := ⟨_, List.getElem?_eq_getElem hlt⟩
    obtain ⟨v, ev, tz, rfl⟩ := hz.get ez
    refine r_itemX rfl l₁ ev (by lia) ?_ (by with_unfolding_all rfl)
    refine r_name F₁ (look_ne n2 he) ?_ hk k3 d3
    refine eq_str (wpAny_truthy_bool ?_)
    cases c : z == x with
    | true =>
      rw [if_pos rfl]
      refine s_aug (r_ldn F₁ look_eq (r_int fun u₂ t₂ => r_iadd fun u₃ t₃ => r_store F₁ ?_ hk k2) hk k2)
      intro h₂ t₄ F₂ s₂
      refine s_nil ⟨zs.length - (k + 1), by lia, k + 1, h₂, t₄, u₃, rfl, rfl, by lia, by lia, F₂.reb, P₁.trans (Pr.same s₂ (.head _)), ?_⟩
      rw [hd₁, drop_cons ez, List.dropWhile_cons, c]
      rfl
    | false =>
      rw [if_neg (by decide)]
      refine wpAny_execs_nil ?_
      refine q h₁ _ u₁ k F₁ P₁ hlt hik ?_
      rw [hd₁, drop_cons ez, List.dropWhile_cons, c]
      rfl
  · have ekn : k = zs.length := by lia
    subst ekn
    refine x_item_out rfl H₁ F₁.keep l₁ (by lia) (by lia) (fun h₂ e ctx t₂ k₂ ne x₂ hcx => ?_) (by with_unfolding_all rfl)
    refine x_pass rfl S S (F₁.kp k₂) (O₁.kp k₂) h0 (.inl rfl) x₂ fun h₃ t₃ F₃ O₃ P₃ x₃ => ?_
    have PX : XP (env.locals :: fs) h h₃ := fun b o eb dc n => P₃ b o (k₂ _ _ (P₁ b o eb fun m => n (by rw [List.mem_singleton.mp m]; exact .head _))) dc fun m => by
      rcases List.mem_cons.mp m with z | m
      · have := P₁ b o eb fun m => n (by rw [List.mem_singleton.mp m]; exact .head _)
        rw [z, ne] at this; cases this
      · exact n m
    refine qe h₃ e ctx t₃ u₁ F₃ O₃ PX ?_ x₃ hcx
    rw [hd₁, List.drop_length]; rfl

theorem r_getExtend {s : Shared} {a : Addr} {vs : List Value} {n : Nat} {pl : Sem Bool} {Q : Value × List Value → Shared → Prop} (e : s.heap.get? a = some (listOf vs.toArray n)) (q : Q (.builtin "list.extend", [.ref a]) s) :
    wpAny (model prog w) A (getMethod (.ref a) "extend" pl) Q E s :=
  getMethod_builtin (listOf_is e).typeIs PySem.F.plainAttrs_list PySem.F.slot_list_extend PySem.F.type_list_extend (fun b q => by cases q; exact ⟨_, e, rfl⟩) q
theorem r_extend {a b : Addr} {vs ws : List Value} {n m : Nat} {Q : Value → Shared → Prop} (e : h.get? a = some (listOf vs.toArray n)) (eb : h.get? b = some (listOf ws.toArray m)) (hz : vs.length + ws.length ≤ 1000000)
    (q : ∀ h' c, Heap.SameBut a h h' → h'.get? a = some (listOf (vs ++ ws).toArray c) → Q .none ⟨h', g, d, t, os⟩) :
    wpAny (model prog w) A (call (.builtin "list.extend") [.ref a, .ref b]) Q E ⟨h, g, d, t, os⟩ := by
  have hc : ¬(!vs.toArray.isEmpty && Builtin.List.listTooLong (vs.toArray.size + ws.toArray.size)) = true := by
    have : Builtin.List.listTooLong (vs.toArray.size + ws.toArray.size) = false := by
      unfold Builtin.List.listTooLong
      have := sizeLine_eq
      simp
      lia
    rw [this]; simp
  have mm := PySem.AutoSeq1.list_extend_list_list_0 a vs.toArray n b ws.toArray m hc (by rw [List.size_toArray, sizeLine_eq]; lia) (by rw [List.size_toArray, List.size_toArray, sizeLine_eq]; lia)
  refine call_meets PySem.F.slot_list_extend (s := ⟨h, g, d, t, os⟩) ⟨_, e, rfl⟩ PySem.F.entry_list_extend (PySem.F.args_list_extend_2 _ _) mm ⟨e, eb, ?_⟩
  have z := get?_update_seq e (fun x => x ++ ws.toArray)
  rw [show vs.toArray ++ ws.toArray = (vs ++ ws).toArray by simp] at z
  exact q _ _ (Heap.SameBut.update ..) z

structure SdS (h₀ : Heap) (L ea aa ma ua : Addr) (xs ys : List Str) (i j : Nat) (m u : List Str) (h : Heap) : Prop where
  fr : ∃ ti tj, FrL h₀ L h [(Str.ofString "i", .int (i : Nat) ti), (Str.ofString "j", .int (j : Nat) tj), (Str.ofString "missing", .ref ma), (Str.ofString "unexpected", .ref ua), (Str.ofString "expected", .ref ea), (Str.ofString "actual", .ref aa)]
  ms : ∃ ws c, h.get? ma = some (listOf ws.toArray c) ∧ All2 StrV ws m
  us : ∃ ws c, h.get? ua = some (listOf ws.toArray c) ∧ All2 StrV ws u
  hi : i ≤ xs.length
  hj : j ≤ ys.length
  lm : m.length ≤ i
  lu : u.length ≤ j
  inv : sldL xs ys = (m ++ (sldL (xs.drop i) (ys.drop j)).1, u ++ (sldL (xs.drop i) (ys.drop j)).2)
structure SdC (h₀ : Heap) (L ea aa ma ua : Addr) (fs : List Addr) (vs ws : List Value) (xs ys : List Str) : Prop where
  h0 : ∀ a ∈ fs, h₀.get? a = none
  nL : L ∉ fs
  xl : h₀.IsList ea vs.toArray
  yl : h₀.IsList aa ws.toArray
  xa : All2 StrV vs xs
  ya : All2 StrV ws ys
  lx : xs.length ≤ 1000
  ly : ys.length ≤ 1000
  m0 : h₀.get? ma = none
  u0 : h₀.get? ua = none
  mL : ma ≠ L
  uL : ua ≠ L
  mu : ma ≠ ua
  mf : ma ∉ fs
  uf : ua ∉ fs
theorem sldL_nil {xs ys : List Str} (h : xs = [] ∨ ys = []) : sldL xs ys = (xs, ys) := by
  rcases h with rfl | rfl
  · unfold sldL; rfl
  · cases xs with
    | nil => unfold sldL; rfl
    | cons x xs => unfold sldL; rfl
theorem isIdx_exc : isSubtype (.type "IndexError") (.type "BaseException") = pure true := by rw [isSubtype_type]; kernel_rfl
theorem isIdx_self : isSubtype (.type "IndexError") (.type "IndexError") = pure true := by rw [isSubtype_type]; kernel_rfl
theorem isIdx_nt : isSubtype (.type ((Manifest.find? "IndexError").elim "type" fun x => x.metatype)) (.type "tuple") = pure false := by
  rw [isSubtype_type]; kernel_rfl
theorem boot_idx : bootBuiltins (Str.ofString "IndexError") = some (.type "IndexError") := by kernel_rfl
theorem FS.mark {x : Option Value} (S : FS A env outer fs) : FS (A.mark x) env outer fs := ⟨S.fr, S.ef, S.kd, S.sm, S.ofs⟩
theorem XP.seq {X : List Addr} {h h' : Heap} {a : Addr} {vs : Array Value} {c : Nat} (p : XP X h h') (e : h.get? a = some (listOf vs c)) (n : a ∉ X) : h'.get? a = some (listOf vs c) := p _ _ e (by simp) n

theorem x_note01 {e : Addr} {cls ctx : Value} {l : List (Str × Value)} {Q : Unit → Shared → Prop} (S : FS A env outer fs) (F : FrL h₀ env.locals h l) (O : OutF hb fs h) (h0 : ∀ a ∈ fs, h₀.get? a = none) {st : Option Value} (hst : st = none ∨ st = some (rawInt env.locals)) (x : ExcB h₀ h e cls ctx st)
    (q : ∀ h', FrL h₀ env.locals h' l → OutF hb fs h' → Pr (e :: env.locals :: fs) h h' → ExcB h₀ h' e cls ctx (some (rawInt env.locals)) → Q () ⟨h', g, d, t, os⟩) :
    wpAny (model prog w) A (noteFrame (.ref e) env) Q E ⟨h, g, d, t, os⟩ := by
  rcases hst with rfl | rfl
  · exact x_note0 S F O h0 x fun h₁ F₁ O₁ P₁ _ x₁ => q h₁ F₁ O₁ P₁ x₁
  · exact x_note1 S x (q h F O (Pr.refl _ _) x)
theorem ExcB.ne_seq {e a : Addr} {cls ctx : Value} {st : Option Value} {bs : Array Value} {c : Nat} (x : ExcB h₀ h e cls ctx st) (hh : h.get? a = some (listOf bs c)) : a ≠ e := fun z => by
  obtain ⟨o, vs', _, e1, _, e3, _⟩ := x
  rw [z, e1] at hh; cases hh; cases e3
theorem Pr.rkL {h' : Heap} {L : Addr} {l : List (Str × Value)} (p : Pr [L] h h') (F : FrL h₀ L h l) : RK h h' := fun b o vs e d => p b o e fun m => by
  obtain ⟨o', es, n, a, b'⟩ := F.data
  rw [List.mem_singleton.mp m, a] at e; cases e; rw [b'] at d; cases d
theorem x_passOn {e : Addr} {cls ctx f : Value} {l : List (Str × Value)} {what : String} {α : Type} {Q : α → Shared → Prop} (S : FS A env outer fs) (F : FrL h₀ env.locals h l) (O : OutF hb fs h) (x : ExcB h₀ h e cls ctx (some f))
    (q : ∀ h', FrL h₀ env.locals h' l → OutF hb fs h' → XP [] h h' → ExcB h₀ h' e cls ctx (some (rawInt env.locals)) → E (.ref e) ⟨h', g, d, t, os⟩) :
    wpAny (model prog w) A (PySem.passOn what (.ref e) env : Sem α) Q E ⟨h, g, d, t, os⟩ := by
  obtain ⟨o, vs, a0, e1, e2, e3, e4, e5, e6, T, oT, ts, t1, tr⟩ := id x
  unfold PySem.passOn
  refine wpAny_bind (wpAny_field e1 e3 t1 ?_)
  refine KFB.if_not (by simp) ?_
  refine wpAny_bind (x_flight F O x fun h₂ T' F₂ O₂ _ _ P₂ _ x₂ => ?_)
  rw [S.ef] at x₂
  exact wpAny_throw (q h₂ F₂ O₂ P₂ x₂)
theorem OutF.prL {h' : Heap} {L : Addr} (O : OutF hb fs h) (p : Pr [L] h h') (n : L ∉ fs) : OutF hb fs h' := O.pr p fun a m z => n (by rw [List.mem_singleton.mp z] at m; exact m)
theorem sld_lt {xs ys m u : List Str} {x y : Str} {i i' j : Nat} (hx : xs[i]? = some x) (hy : ys[j]? = some y) (c : ltS x y = true) (hd : (xs.drop (i + 1)).dropWhile (· == x) = xs.drop i')
    (inv : sldL xs ys = (m ++ (sldL (xs.drop i) (ys.drop j)).1, u ++ (sldL (xs.drop i) (ys.drop j)).2)) : sldL xs ys = ((m ++ [x]) ++ (sldL (xs.drop i') (ys.drop j)).1, u ++ (sldL (xs.drop i') (ys.drop j)).2) := by
  rw [inv, drop_cons hx, drop_cons hy]
  have : sldL (x :: xs.drop (i + 1)) (y :: ys.drop (j + 1)) = (x :: (sldL (xs.drop i') (y :: ys.drop (j + 1))).1, (sldL (xs.drop i') (y :: ys.drop (j + 1))).2) := by
    rw [sldL, if_pos c, hd]
  rw [this]
  simp
theorem sld_gt {xs ys m u : List Str} {x y : Str} {i j' j : Nat} (hx : xs[i]? = some x) (hy : ys[j]? = some y) (c0 : ltS x y = false) (c : ltS y x = true) (hd : (ys.drop (j + 1)).dropWhile (· == y) = ys.drop j')
    (inv : sldL xs ys = (m ++ (sldL (xs.drop i) (ys.drop j)).1, u ++ (sldL (xs.drop i) (ys.drop j)).2)) : sldL xs ys = (m ++ (sldL (xs.drop i) (ys.drop j')).1, (u ++ [y]) ++ (sldL (xs.drop i) (ys.drop j')).2) := by
  rw [inv, drop_cons hx, drop_cons hy]
  have : sldL (x :: xs.drop (i + 1)) (y :: ys.drop (j + 1)) = ((sldL (x :: xs.drop (i + 1)) (ys.drop j')).1, y :: (sldL (x :: xs.drop (i + 1)) (ys.drop j')).2) := by
    rw [sldL, if_neg (by rw [c0]; decide), if_pos c, hd]
  rw [this]
  simp
theorem sld_eq {xs ys m u : List Str} {x y : Str} {i i' j' j : Nat} (hx : xs[i]? = some x) (hy : ys[j]? = some y) (c0 : ltS x y = false) (c : ltS y x = false) (hd : (xs.drop (i + 1)).dropWhile (· == x) = xs.drop i') (hd' : (ys.drop (j + 1)).dropWhile (· == y) = ys.drop j')
    (inv : sldL xs ys = (m ++ (sldL (xs.drop i) (ys.drop j)).1, u ++ (sldL (xs.drop i) (ys.drop j)).2)) : sldL xs ys = (m ++ (sldL (xs.drop i') (ys.drop j')).1, u ++ (sldL (xs.drop i') (ys.drop j')).2) := by
  rw [inv, drop_cons hx, drop_cons hy]
  have : sldL (x :: xs.drop (i + 1)) (y :: ys.drop (j + 1)) = sldL (xs.drop i') (ys.drop j') := by
    rw [sldL, if_neg (by rw [c0]; decide), if_neg (by rw [c]; decide), hd, hd']
  rw [this]
theorem SdS.kp {L ea aa ma ua : Addr} {xs ys : List Str} {i j : Nat} {m u : List Str} {h' : Heap} (I : SdS h₀ L ea aa ma ua xs ys i j m u h) (k : Kp h h') : SdS h₀ L ea aa ma ua xs ys i j m u h' := by
  obtain ⟨⟨ti, tj, F⟩, ⟨mw, mc, em, am⟩, ⟨uw, uc, eu, au⟩, r1, r2, r3, r4, r5⟩ := I
  exact ⟨⟨ti, tj, F.kp k⟩, ⟨mw, mc, k _ _ em, am⟩, ⟨uw, uc, k _ _ eu, au⟩, r1, r2, r3, r4, r5⟩

noncomputable def SdE (hb h₀ : Heap) (g : Array GenState) (d : Drawn) (os : OsState) (L ea aa ma ua : Addr) (fs : List Addr) (xs ys : List Str) (v : Value) (s : Shared) : Prop :=
  ∃ i j m u e ctx st h t, v = .ref e ∧ s = ⟨h, g, d, t, os⟩ ∧ SdS h₀ L ea aa ma ua xs ys i j m u h ∧ OutF hb fs h ∧ (xs.drop i = [] ∨ ys.drop j = []) ∧ (st = none ∨ st = some (rawInt L)) ∧ ExcB h₀ h e (.type "IndexError") ctx st
noncomputable def SdJ (hb h₀ : Heap) (L ea aa ma ua : Addr) (fs : List Addr) (xs ys : List Str) (a : Nat × Nat × List Str × List Str) (h : Heap) : Prop := SdS h₀ L ea aa ma ua xs ys a.1 a.2.1 a.2.2.1 a.2.2.2 h ∧ OutF hb fs h
noncomputable def SdZ (hb h₀ : Heap) (L ma ua : Addr) (fs : List Addr) (xs ys : List Str) (_a : Nat) (h : Heap) : Prop :=
  OutF hb fs h ∧ (∃ bs cs c c', h.get? ma = some (listOf bs.toArray c) ∧ All2 StrV bs (sldL xs ys).1 ∧ h.get? ua = some (listOf cs.toArray c') ∧ All2 StrV cs (sldL xs ys).2) ∧ FrL h₀ L h [(Str.ofString "missing", .ref ma), (Str.ofString "unexpected", .ref ua)]
theorem sd_ok {ea aa : Addr} {vs ws : List Value} {xs ys : List Str} {s : Shared} {R : Value → Shared → Prop} (G : Gd w mg mb (hideAll s.heap fs)) (a : Ar A 2) (hf : A.frames = some outer) (hkd : ∀ e ∈ outer, e.scope.kind ≠ .module) (hsm : ∀ e ∈ outer, ∃ a, e.frame = some a) (hfs : outer.filterMap (·.frame) = fs)
    (hout : OutF s.heap fs s.heap) (hx : LstH (Of s.heap fs) ea vs) (hy : LstH (Of s.heap fs) aa ws) (ax : All2 StrV vs xs) (ay : All2 StrV ws ys) (lx : xs.length ≤ 1000) (ly : ys.length ≤ 1000)
    (q : ∀ T ma ua bs cs h' t', Pr fs s.heap h' → OutF s.heap fs h' → TupH (Of h' fs) T [.ref ma, .ref ua] → LstH (Of h' fs) ma bs → LstH (Of h' fs) ua cs → All2 StrV bs (sldL xs ys).1 → All2 StrV cs (sldL xs ys).2 → R (.ref T) ⟨h', s.gens, s.drawn, t', s.os⟩) :
    codeAny (model prog w) A (.call (.ref 69) ⟨[.ref ea, .ref aa], []⟩) (RetR R) s := by
  have kb : Kp (hideAll s.heap fs) s.heap := fun _ _ e => of_hideAll _ e
  refine enter [(Str.ofString "expected", .ref ea), (Str.ofString "actual", .ref aa)] (G.keeps kb) a.d0 (by k_is) (by k_is) rfl rfl ?_
  intro env h₁ t₁ F0
  have a1 : Ar (A.deeper env) 1 := a.deeper
  have F : FrL (hideAll s.heap fs) env.locals h₁ _ := F0.ghost (Pr.refl _ _) fun a m => let ⟨o, _, e, _⟩ := hout a m; ⟨o, e⟩
  have S : FS (A.deeper env) env outer fs := ⟨by show A.frames.map _ = _; rw [hf]; rfl, rfl, fun e m => by
    rcases List.mem_cons.mp m with rfl | m
    · intro z; cases z
    · exact hkd e m, hsm, hfs⟩
  have O : OutF s.heap fs h₁ := hout.kp F0.keep
  have h0 : ∀ a ∈ fs, (hideAll s.heap fs).get? a = none := fun a m => hideAll_none _ m
  have nL : env.locals ∉ fs := fun m => by
    obtain ⟨o, _, e, _⟩ := hout _ m
    have : s.heap.get? env.locals = none := new_none _
    rw [this] at e; cases e
  have xl : (hideAll s.heap fs).IsList ea vs.toArray := let ⟨o, e, r⟩ := hx; ⟨o, hideAll_get _ e.1 e.2, r⟩
  have yl : (hideAll s.heap fs).IsList aa ws.toArray := let ⟨o, e, r⟩ := hy; ⟨o, hideAll_get _ e.1 e.2, r⟩
  refine wpAny_execs_cons (wpAny_Assign_two ?_ (by with_unfolding_all rfl) (by with_unfolding_all rfl))
  refine r_int fun u₁ t₂ => ?_
  refine wpAny_assign_Name (r_store F ?_ (by with_unfolding_all rfl) (by with_unfolding_all rfl))
  intro h₂ t₃ F₂ s₂
  refine wpAny_assign_Name (r_store F₂ ?_ (by with_unfolding_all rfl) (by with_unfolding_all rfl))
  intro h₃ t₄ F₃ s₃
  have O₃ : OutF s.heap fs h₃ := (O.pr (Pr.same (X := [env.locals]) s₂ (.head _)) fun a m z => nL (by rw [List.mem_singleton.mp z] at m; exact m)).pr (Pr.same (X := [env.locals]) s₃ (.head _)) fun a m z => nL (by rw [List.mem_singleton.mp z] at m; exact m)
  clear F₂ F O
  walk_at "xs"
  refine r_newList (by decide) fun ma h₄ k₄ n₄ e₄ => ?_
  refine r_store (F₃.kp k₄) ?_ (by with_unfolding_all rfl) (by with_unfolding_all rfl)
  intro h₅ t₅ F₅ s₅
  have mL : ma ≠ env.locals := fun z => by
    obtain ⟨o, _, _, e, _⟩ := F₃.data
    rw [z, e] at n₄; cases n₄
  have e₅ : h₅.get? ma = some (listOf ([] : List Value).toArray 0) := (s₅.2 _ mL).trans e₄
  have m0 : (hideAll s.heap fs).get? ma = none := none_of n₄ F₃.keep
  have mf : ma ∉ fs := fun m => by
    obtain ⟨o, e, _⟩ := O₃.at m
    rw [e] at n₄; cases n₄
  have O₅ : OutF s.heap fs h₅ := (O₃.kp k₄).pr (Pr.same (X := [env.locals]) s₅ (.head _)) fun a m z => nL (by rw [List.mem_singleton.mp z] at m; exact m)
  walk_at "xs"
  refine r_newList (by decide) fun ua h₆ k₆ n₆ e₆ => ?_
  refine r_store (F₅.kp k₆) ?_ (by with_unfolding_all rfl) (by with_unfolding_all rfl)
  intro h₇ t₇ F₇ s₇
  have uL : ua ≠ env.locals := fun z => by
    obtain ⟨o, _, _, e, _⟩ := F₅.data
    rw [z, e] at n₆; cases n₆
  have mu : ma ≠ ua := fun z => by rw [← z, e₅] at n₆; cases n₆
  have eu₇ : h₇.get? ua = some (listOf ([] : List Value).toArray 0) := (s₇.2 _ uL).trans e₆
  have em₇ : h₇.get? ma = some (listOf ([] : List Value).toArray 0) := (s₇.2 _ mL).trans (k₆ _ _ e₅)
  have u0 : (hideAll s.heap fs).get? ua = none := none_of n₆ F₅.keep
  have uf : ua ∉ fs := fun m => by
    obtain ⟨o, e, _⟩ := O₅.at m
    rw [e] at n₆; cases n₆
  have O₇ : OutF s.heap fs h₇ := (O₅.kp k₆).pr (Pr.same (X := [env.locals]) s₇ (.head _)) fun a m z => nL (by rw [List.mem_singleton.mp z] at m; exact m)
  have K : SdC (hideAll s.heap fs) env.locals ea aa ma ua fs vs ws xs ys := ⟨h0, nL, xl, yl, ax, ay, lx, ly, m0, u0, mL, uL, mu, mf, uf⟩
  refine s_whileX (SdJ s.heap (hideAll s.heap fs) env.locals ea aa ma ua fs xs ys) (fun _ => SdZ s.heap (hideAll s.heap fs) env.locals ma ua fs xs ys 0) (fun a => (xs.length - a.1) + (ys.length - a.2.1)) (0, 0, [], []) ?_ ?_ ?_
  · refine ⟨⟨⟨_, _, F₇.sub ⟨rfl, rfl, rfl, rfl, rfl, rfl, trivial⟩⟩, ⟨_, _, em₇, .nil⟩, ⟨_, _, eu₇, .nil⟩, Nat.zero_le _, Nat.zero_le _, Nat.le_refl _, Nat.le_refl _, ?_⟩, O₇⟩
    simp
  · rintro ⟨i, j, m, u⟩ h t ⟨I, O⟩
    dsimp only at I
    refine isTrue_plain (Constant_bool (wpAny_truthy_bool ?_))
    rw [if_pos rfl]
    refine s_any (wpAny_Try_except (wpAny_mono (E := SdE s.heap (hideAll s.heap fs) s.gens s.drawn s.os env.locals ea aa ma ua fs xs ys) ?_ (fun _ _ z => z) ?_))
    · obtain ⟨ti, tj, F⟩ := I.fr
      obtain ⟨mw, mc, em, am⟩ := I.ms
      obtain ⟨uw, uc, eu, au⟩ := I.us
      have lmw := am.length
      have luw := au.length
      have hi := I.hi
      have hj := I.hj
      have hlm := I.lm
      have hlu := I.lu
      have hvx := K.xa.length
      have hvy := K.ya.length
      have xl₁ : h.IsList ea vs.toArray := let ⟨o, e, r⟩ := K.xl; ⟨o, F.keep _ _ e, r⟩
      have yl₁ : h.IsList aa ws.toArray := let ⟨o, e, r⟩ := K.yl; ⟨o, F.keep _ _ e, r⟩
      have H : ∀ h', Hd (A.deeper env) h' := fun _ => .inl a1.hd
      clear F₇ F₅ F₃ e₅ em₇ eu₇ O₇ O₅ O₃
      walk_at "xs"
      by_cases ci : i < xs.length
      case neg =>
        refine x_item_out rfl (H _) F.keep xl₁ (by lia) (by lia) (fun h₂ e ctx t₂ k₂ ne x₂ hcx => ?_) (by with_unfolding_all rfl)
        exact ⟨i, j, m, u, e, ctx, none, h₂, t₂, rfl, rfl, I.kp k₂, O.kp k₂, .inl (List.drop_eq_nil_of_le (by lia)), .inl rfl, x₂⟩
      obtain ⟨x, ex⟩ : ∃ z, xs[i]? = some z := ⟨_, List.getElem?_eq_getElem ci⟩
      obtain ⟨_, ev, tx, rfl⟩ := K.xa.get ex
      refine r_itemX rfl xl₁ ev (by lia) ?_ (by with_unfolding_all rfl)
      refine r_store F ?_ (by with_unfolding_all rfl) (by with_unfolding_all rfl)
      intro h₁ t₁ F₁ s₁
      have P₁ := Pr.same (X := [env.locals]) s₁ (.head _)
      have O₁ := O.prL P₁ nL
      have em₁ := (s₁.2 _ mL).trans em
      have eu₁ := (s₁.2 _ uL).trans eu
      have yl₂ : h₁.IsList aa ws.toArray := let ⟨o, e, r⟩ := K.yl; ⟨o, F₁.keep _ _ e, r⟩
      clear F O em eu xl₁ yl₁
      walk_at "xs"
      by_cases cj : j < ys.length
      case neg =>
        refine x_item_out rfl (H _) F₁.keep yl₂ (by lia) (by lia) (fun h₂ e ctx t₂ k₂ ne x₂ hcx => ?_) (by with_unfolding_all rfl)
        refine ⟨i, j, m, u, e, ctx, none, h₂, t₂, rfl, rfl, ⟨⟨ti, tj, (F₁.kp k₂).sub ⟨rfl, rfl, rfl, rfl, rfl, rfl, trivial⟩⟩, ⟨_, _, k₂ _ _ em₁, am⟩, ⟨_, _, k₂ _ _ eu₁, au⟩, hi, hj, hlm, hlu, I.inv⟩, O₁.kp k₂, .inr (List.drop_eq_nil_of_le (by lia)), .inl rfl, x₂⟩
      obtain ⟨y, ey⟩ : ∃ z, ys[j]? = some z := ⟨_, List.getElem?_eq_getElem cj⟩
      obtain ⟨_, ev', ty, rfl⟩ := K.ya.get ey
      refine r_itemX rfl yl₂ ev' (by lia) ?_ (by with_unfolding_all rfl)
      refine r_store F₁ ?_ (by with_unfolding_all rfl) (by with_unfolding_all rfl)
      intro h₂ t₂ F₂ s₂
      have O₂ := O₁.prL (Pr.same (X := [env.locals]) s₂ (.head _)) nL
      have em₂ := (s₂.2 _ mL).trans em₁
      have eu₂ := (s₂.2 _ uL).trans eu₁
      have hinv := I.inv
      clear F₁ O₁ em₁ eu₁ I s₁ s₂ P₁ yl₂
      walk_at "xs"
      refine ite_b (fun c1 => ?_) fun c1 => ?_
      · walk_at "xs"
        refine r_getAppend em₂ ?_
        walk_at "xs"
        refine r_append em₂ (by lia) fun h₃ c₃ s₃ em₃ => ?_
        have F₃ := F₂.pr (X := [ma]) (Pr.same s₃ (.head _)) (fun z => mL (List.mem_singleton.mp z).symm) (fun a z => by rw [List.mem_singleton.mp z]; exact m0)
        have eu₃ := (s₃.2 _ mu.symm).trans eu₂
        have O₃ := O₂.pr (Pr.same (X := [ma]) s₃ (.head _)) fun a z y => mf (by rw [List.mem_singleton.mp y] at z; exact z)
        clear F₂ O₂ em₂ eu₂
        walk_at "xs"
        refine r_iadd fun u₃ t₃ => r_store F₃ ?_ (by with_unfolding_all rfl) (by with_unfolding_all rfl)
        intro h₄ t₄ F₄ s₄
        have P₄ := Pr.same (X := [env.locals]) s₄ (.head _)
        have O₄ := O₃.prL P₄ nL
        have em₄ := (s₄.2 _ mL).trans em₃
        have eu₄ := (s₄.2 _ uL).trans eu₃
        clear F₃ O₃ em₃ eu₃
        refine sd_skip (i := i + 1) S F₄ O₄ h0 nL (H _) rfl rfl xl ax lx (by lia) ?_ ?_
        · intro h₅ t₅ u₅ i' F₅ P₅ hlt hle hd
          have nm : ∀ {b : Addr}, b ≠ env.locals → b ∉ [env.locals] := fun z y => z (List.mem_singleton.mp y)
          refine s_nil (s_nil (s_nil (s_nil ⟨h₅, t₅, rfl, (i', j, m ++ [x], u), ?_, ⟨⟨u₅, tj, F₅.sub ⟨rfl, rfl, rfl, rfl, rfl, rfl, trivial⟩⟩, ⟨_, _, P₅ _ _ em₄ (nm mL), am.append (.cons ⟨tx, rfl⟩ .nil)⟩, ⟨_, _, P₅ _ _ eu₄ (nm uL), au⟩, ?_, hj, ?_, hlu, ?_⟩, O₄.prL P₅ nL⟩)))
          · dsimp only; lia
          · dsimp only; lia
          · simp; lia
          · exact sld_lt ex ey c1 hd hinv
        · intro h₅ e ctx t₅ u₅ F₅ O₅ P₅ hd x₅ hcx
          have nm : ∀ {b : Addr}, b ≠ env.locals → b ∉ fs → b ∉ env.locals :: fs := fun z z' y => (List.mem_cons.mp y).elim z z'
          refine ⟨xs.length, j, m ++ [x], u, e, ctx, _, h₅, t₅, rfl, rfl, ⟨⟨u₅, tj, F₅.sub ⟨rfl, rfl, rfl, rfl, rfl, rfl, trivial⟩⟩, ⟨_, _, P₅.seq em₄ (nm mL mf), am.append (.cons ⟨tx, rfl⟩ .nil)⟩, ⟨_, _, P₅.seq eu₄ (nm uL uf), au⟩, Nat.le_refl _, hj, ?_, hlu, ?_⟩, O₅, .inl (List.drop_length ..), .inr rfl, x₅⟩
          · simp; lia
          · exact sld_lt ex ey c1 (by rw [hd, List.drop_length]) hinv
      · walk_at "xs"
        refine ite_b (fun c2 => ?_) fun c2 => ?_
        · walk_at "xs"
          refine r_getAppend eu₂ ?_
          walk_at "xs"
          refine r_append eu₂ (by lia) fun h₃ c₃ s₃ eu₃ => ?_
          have F₃ := F₂.pr (X := [ua]) (Pr.same s₃ (.head _)) (fun z => uL (List.mem_singleton.mp z).symm) (fun a z => by rw [List.mem_singleton.mp z]; exact u0)
          have em₃ := (s₃.2 _ mu).trans em₂
          have O₃ := O₂.pr (Pr.same (X := [ua]) s₃ (.head _)) fun a z y => uf (by rw [List.mem_singleton.mp y] at z; exact z)
          clear F₂ O₂ em₂ eu₂
          walk_at "xs"
          refine r_iadd fun u₃ t₃ => r_store F₃ ?_ (by with_unfolding_all rfl) (by with_unfolding_all rfl)
          intro h₄ t₄ F₄ s₄
          have P₄ := Pr.same (X := [env.locals]) s₄ (.head _)
          have O₄ := O₃.prL P₄ nL
          have em₄ := (s₄.2 _ mL).trans em₃
          have eu₄ := (s₄.2 _ uL).trans eu₃
          clear F₃ O₃ em₃ eu₃
          refine sd_skip (i := j + 1) S F₄ O₄ h0 nL (H _) rfl rfl yl ay ly (by lia) ?_ ?_
          · intro h₅ t₅ u₅ j' F₅ P₅ hlt hle hd
            have nm : ∀ {b : Addr}, b ≠ env.locals → b ∉ [env.locals] := fun z y => z (List.mem_singleton.mp y)
            refine s_nil (s_nil (s_nil (s_nil (s_nil ⟨h₅, t₅, rfl, (i, j', m, u ++ [y]), ?_, ⟨⟨ti, u₅, F₅.sub ⟨rfl, rfl, rfl, rfl, rfl, rfl, trivial⟩⟩, ⟨_, _, P₅ _ _ em₄ (nm mL), am⟩, ⟨_, _, P₅ _ _ eu₄ (nm uL), au.append (.cons ⟨ty, rfl⟩ .nil)⟩, hi, ?_, hlm, ?_, ?_⟩, O₄.prL P₅ nL⟩))))
            · dsimp only; lia
            · dsimp only; lia
            · simp; lia
            · exact sld_gt ex ey c1 c2 hd hinv
          · intro h₅ e ctx t₅ u₅ F₅ O₅ P₅ hd x₅ hcx
            have nm : ∀ {b : Addr}, b ≠ env.locals → b ∉ fs → b ∉ env.locals :: fs := fun z z' y => (List.mem_cons.mp y).elim z z'
            refine ⟨i, ys.length, m, u ++ [y], e, ctx, _, h₅, t₅, rfl, rfl, ⟨⟨ti, u₅, F₅.sub ⟨rfl, rfl, rfl, rfl, rfl, rfl, trivial⟩⟩, ⟨_, _, P₅.seq em₄ (nm mL mf), am⟩, ⟨_, _, P₅.seq eu₄ (nm uL uf), au.append (.cons ⟨ty, rfl⟩ .nil)⟩, hi, Nat.le_refl _, hlm, ?_, ?_⟩, O₅, .inr (List.drop_length ..), .inr rfl, x₅⟩
            · simp; lia
            · exact sld_gt ex ey c1 c2 (by rw [hd, List.drop_length]) hinv
        · walk_at "xs"
          refine r_iadd fun u₃ t₃ => r_store F₂ ?_ (by with_unfolding_all rfl) (by with_unfolding_all rfl)
          intro h₄ t₄ F₄ s₄
          have P₄ := Pr.same (X := [env.locals]) s₄ (.head _)
          have O₄ := O₂.prL P₄ nL
          have em₄ := (s₄.2 _ mL).trans em₂
          have eu₄ := (s₄.2 _ uL).trans eu₂
          clear F₂ O₂ em₂ eu₂
          have nm : ∀ {b : Addr}, b ≠ env.locals → b ∉ [env.locals] := fun z y => z (List.mem_singleton.mp y)
          have nm' : ∀ {b : Addr}, b ≠ env.locals → b ∉ fs → b ∉ env.locals :: fs := fun z z' y => (List.mem_cons.mp y).elim z z'
          refine s_any (wpAny_Try_finally (wpAny_mono (E := fun v s' => ∃ e h' t' u', v = .ref e ∧ s' = (⟨h', s.gens, s.drawn, t', s.os⟩ : Shared) ∧ FrL (hideAll s.heap fs) env.locals h' ((Str.ofString "i", .int (xs.length : Nat) u') :: [(Str.ofString "a", .str y ty), (Str.ofString "e", .str x tx), (Str.ofString "j", .int (j : Nat) tj), (Str.ofString "missing", .ref ma), (Str.ofString "unexpected", .ref ua), (Str.ofString "expected", .ref ea), (Str.ofString "actual", .ref aa)]) ∧
            OutF s.heap fs h' ∧ XP (env.locals :: fs) h₄ h' ∧ (xs.drop (i + 1)).dropWhile (· == x) = [] ∧ ExcB (hideAll s.heap fs) h' e (.type "IndexError") .none (some (rawInt env.locals))) ?_ (fun _ _ z => z) ?_))
          · refine sd_skip (i := i + 1) S F₄ O₄ h0 nL (H _) rfl rfl xl ax lx (by lia) ?_ ?_
            · intro h₅ t₅ u₅ i' F₅ P₅ hlt hle hd
              refine s_nil (s_nil ?_)
              have O₅ := O₄.prL P₅ nL
              have em₅ := P₅ _ _ em₄ (nm mL)
              have eu₅ := P₅ _ _ eu₄ (nm uL)
              clear F₄
              walk_at "xs"
              refine r_iadd fun u₆ t₆ => r_store F₅ ?_ (by with_unfolding_all rfl) (by with_unfolding_all rfl)
              intro h₇ t₇ F₇ s₇
              have P₇ := Pr.same (X := [env.locals]) s₇ (.head _)
              have O₇ := O₅.prL P₇ nL
              have em₇ := (s₇.2 _ mL).trans em₅
              have eu₇ := (s₇.2 _ uL).trans eu₅
              refine sd_skip (i := j + 1) S F₇ O₇ h0 nL (H _) rfl rfl yl ay ly (by lia) ?_ ?_
              · intro h₈ t₈ u₈ j' F₈ P₈ hlt' hle' hd'
                refine s_nil (s_nil (s_nil (s_nil (s_nil (s_nil ⟨h₈, t₈, rfl, (i', j', m, u), ?_, ⟨⟨u₅, u₈, F₈.sub ⟨rfl, rfl, rfl, rfl, rfl, rfl, trivial⟩⟩, ⟨_, _, P₈ _ _ em₇ (nm mL), am⟩, ⟨_, _, P₈ _ _ eu₇ (nm uL), au⟩, ?_, ?_, ?_, ?_, ?_⟩, O₇.prL P₈ nL⟩)))))
                · dsimp only; lia
                · dsimp only; lia
                · dsimp only; lia
                · dsimp only; lia
                · dsimp only; lia
                · exact sld_eq ex ey c1 c2 hd hd' hinv
              · intro h₈ e ctx t₈ u₈ F₈ O₈ P₈ hd' x₈ hcx
                refine x_pass rfl S S F₈ O₈ h0 (.inr rfl) x₈ fun h₉ t₉ F₉ O₉ P₉ x₉ => ?_
                have em₈ := P₈.seq em₇ (nm' mL mf)
                have eu₈ := P₈.seq eu₇ (nm' uL uf)
                refine ⟨i', ys.length, m, u, e, ctx, _, h₉, t₉, rfl, rfl, ⟨⟨u₅, u₈, F₉.sub ⟨rfl, rfl, rfl, rfl, rfl, rfl, trivial⟩⟩, ⟨_, _, P₉.seq em₈ fun z => (List.mem_cons.mp z).elim (x₈.ne_seq em₈) (nm' mL mf), am⟩, ⟨_, _, P₉.seq eu₈ fun z => (List.mem_cons.mp z).elim (x₈.ne_seq eu₈) (nm' uL uf), au⟩, by lia, Nat.le_refl _, by lia, by lia, ?_⟩, O₉, .inr (List.drop_length ..), .inr rfl, x₉⟩
                exact sld_eq ex ey c1 c2 hd (by rw [hd', List.drop_length]) hinv
            · intro h₅ e ctx t₅ u₅ F₅ O₅ P₅ hd x₅ hcx
              obtain rfl := hcx a1.hd
              exact ⟨e, h₅, t₅, u₅, rfl, rfl, F₅.sub ⟨rfl, rfl, rfl, rfl, rfl, rfl, rfl, rfl, trivial⟩, O₅, P₅, hd, x₅⟩
          · rintro _ _ ⟨e, h₅, t₅, u₅, rfl, rfl, F₅, O₅, P₅, hd, x₅⟩
            have em₅ := P₅.seq em₄ (nm' mL mf)
            have eu₅ := P₅.seq eu₄ (nm' uL uf)
            refine x_note1 S x₅ ⟨ref_ne_byPass _, x_note1 S x₅ (x_flight (fr := none) F₅ O₅ x₅ fun h₆ T F₆ O₆ _ _ P₆ _ x₆ => ?_)⟩
            have em₆ := P₆.seq em₅ fun z => nomatch z
            have eu₆ := P₆.seq eu₅ fun z => nomatch z
            clear F₄ F₅ O₅ O₄
            walk_at "xs"
            refine r_iadd fun u₆ t₆ => r_store F₆ ?_ (by with_unfolding_all rfl) (by with_unfolding_all rfl)
            intro h₇ t₇ F₇ s₇
            have P₇ := Pr.same (X := [env.locals]) s₇ (.head _)
            have O₇ := O₆.prL P₇ nL
            have em₇ := (s₇.2 _ mL).trans em₆
            have eu₇ := (s₇.2 _ uL).trans eu₆
            have x₇ := x₆.rk (P₇.rkL F₆)
            have H₇ : Hd ((A.deeper env).mark (some (.ref e))) h₇ := by
              obtain ⟨o, vs', a0, e1, e2, e3, e4, e5, e6, e7⟩ := x₇
              exact .inr ⟨e, o, vs', rfl, e1, e3, e5, by rw [e2]; simp⟩
            refine sd_skip (i := j + 1) S.mark F₇ O₇ h0 nL H₇ rfl rfl yl ay ly (by lia) ?_ ?_
            · intro h₈ t₈ u₈ j' F₈ P₈ hlt' hle' hd'
              refine s_nil ?_
              have x₈ := x₇.rk (P₈.rkL F₇)
              refine x_passOn S F₈ (O₇.prL P₈ nL) x₈ fun h₉ F₉ O₉ P₉ x₉ => ?_
              refine ⟨xs.length, j', m, u, e, .none, _, h₉, _, rfl, rfl, ⟨⟨u₅, u₈, F₉.sub ⟨rfl, rfl, rfl, rfl, rfl, rfl, trivial⟩⟩, ⟨_, _, P₉.seq (P₈ _ _ em₇ (nm mL)) (fun z => nomatch z), am⟩, ⟨_, _, P₉.seq (P₈ _ _ eu₇ (nm uL)) (fun z => nomatch z), au⟩, Nat.le_refl _, by lia, by lia, by lia, ?_⟩, O₉, .inl (List.drop_length ..), .inr rfl, x₉⟩
              exact sld_eq ex ey c1 c2 (by rw [hd, List.drop_length]) hd' hinv
            · intro h₈ e' ctx t₈ u₈ F₈ O₈ P₈ hd' x₈ hcx
              refine x_pass rfl S S.mark F₈ O₈ h0 (.inr rfl) x₈ fun h₉ t₉ F₉ O₉ P₉ x₉ => ?_
              have em₈ := P₈.seq em₇ (nm' mL mf)
              have eu₈ := P₈.seq eu₇ (nm' uL uf)
              refine ⟨xs.length, ys.length, m, u, e', ctx, _, h₉, t₉, rfl, rfl, ⟨⟨u₅, u₈, F₉.sub ⟨rfl, rfl, rfl, rfl, rfl, rfl, trivial⟩⟩, ⟨_, _, P₉.seq em₈ fun z => (List.mem_cons.mp z).elim (x₈.ne_seq em₈) (nm' mL mf), am⟩, ⟨_, _, P₉.seq eu₈ fun z => (List.mem_cons.mp z).elim (x₈.ne_seq eu₈) (nm' uL uf), au⟩, Nat.le_refl _, Nat.le_refl _, by lia, by lia, ?_⟩, O₉, .inr (List.drop_length ..), .inr rfl, x₉⟩
              exact sld_eq ex ey c1 c2 (by rw [hd, List.drop_length]) (by rw [hd', List.drop_length]) hinv
    · clear I O
      rintro _ _ ⟨i, j, m, u, e, ctx, st, h, t, rfl, rfl, I, O, hb, hst, x⟩
      obtain ⟨ti, tj, F⟩ := I.fr
      obtain ⟨mw, mc, em, am⟩ := I.ms
      obtain ⟨uw, uc, eu, au⟩ := I.us
      have lmw := am.length
      have luw := au.length
      have hi := I.hi
      have hj := I.hj
      have hlm := I.lm
      have hlu := I.lu
      have hlx := K.lx
      have hly := K.ly
      have hvx := K.xa.length
      have hvy := K.ya.length
      have hinv : sldL xs ys = (m ++ xs.drop i, u ++ ys.drop j) := by rw [I.inv, sldL_nil hb]
      refine x_note01 S F O K.h0 hst x fun h₁ F₁ O₁ P₁ x₁ => ?_
      have nX : ∀ {a : Addr} {bs : Array Value} {c : Nat}, h.get? a = some (listOf bs c) → a ≠ env.locals → a ∉ fs → a ∉ e :: env.locals :: fs := fun h1 h2 h3 z =>
        (List.mem_cons.mp z).elim (x.ne_seq h1) fun z => (List.mem_cons.mp z).elim h2 h3
      have em₁ := P₁ _ _ em (nX em K.mL K.mf)
      have eu₁ := P₁ _ _ eu (nX eu K.uL K.uf)
      clear nX
      refine x_flight F₁ O₁ x₁ fun h₂ T F₂ O₂ _ _ P₂ _ x₂ => ?_
      have em₂ := P₂.seq em₁ (fun m => nomatch m)
      have eu₂ := P₂.seq eu₁ (fun m => nomatch m)
      refine wpAny_handleBy_builtin (X := "IndexError") (T := "IndexError") (b := true) isIdx_exc isIdx_nt isIdx_self ?_
      refine r_bltn F₂ G (by k_is) boot_idx (by decide) ?_ (by with_unfolding_all rfl) (by with_unfolding_all rfl) (by with_unfolding_all rfl) (by with_unfolding_all rfl) (by decide)
      refine ⟨rfl, ?_, ?_⟩
      · obtain ⟨o, _, _, e1, e2, _⟩ := x₂; exact ⟨o, e1, e2⟩
      rw [if_pos rfl]
      refine x_flight F₂ O₂ x₂ fun h₃ T' F₃ O₃ _ _ P₃ _ x₃ => ?_
      have em₃ := P₃.seq em₂ (fun m => nomatch m)
      have eu₃ := P₃.seq eu₂ (fun m => nomatch m)
      clear x₁ x₂ x₃ F₁ F₂ O₁ O₂
      have xl₃ : h₃.IsList ea vs.toArray := let ⟨o, e, r⟩ := K.xl; ⟨o, F₃.keep _ _ e, r⟩
      walk_at "xs"
      refine r_getExtend em₃ ?_
      walk_at "xs"
      refine r_slL_from xl₃ (by lia) (by lia) (fun b1 h₄ k₄ n₄ e₄ => ?_) (by intro _; with_unfolding_all rfl) (by intro _; with_unfolding_all rfl)
      have F₄ := F₃.kp k₄
      walk_at "xs"
      have e₄' : h₄.get? b1 = some (listOf (vs.drop i).toArray 0) := by rw [show ((i : Nat) : Int).toNat = i by lia] at e₄; exact e₄
      refine r_extend (k₄ _ _ em₃) e₄' (by simp; lia) fun h₅ c₅ s₅ em₅ => ?_
      have mL : ma ∉ [env.locals] := by simpa using K.mL
      have F₅ : FrL (hideAll s.heap fs) env.locals h₅ _ := F₄.pr (X := [ma]) (Pr.same s₅ (.head _)) (fun z => K.mL (List.mem_singleton.mp z).symm) (fun a z => by rw [List.mem_singleton.mp z]; exact K.m0)
      have eu₅ : h₅.get? ua = some (listOf uw.toArray uc) := (s₅.2 _ (Ne.symm K.mu)).trans (k₄ _ _ eu₃)
      have O₅ : OutF s.heap fs h₅ := (O₃.kp k₄).pr (Pr.same (X := [ma]) s₅ (.head _)) fun a z y => K.mf (by rw [List.mem_singleton.mp y] at z; exact z)
      have yl₅ : h₅.IsList aa ws.toArray := let ⟨o, e, r⟩ := K.yl; ⟨o, F₅.keep _ _ e, r⟩
      clear F₃ F₄
      walk_at "xs"
      refine r_getExtend eu₅ ?_
      walk_at "xs"
      refine r_slL_from yl₅ (by lia) (by lia) (fun b2 h₆ k₆ n₆ e₆ => ?_) (by intro _; with_unfolding_all rfl) (by intro _; with_unfolding_all rfl)
      have F₆ := F₅.kp k₆
      walk_at "xs"
      have e₆' : h₆.get? b2 = some (listOf (ws.drop j).toArray 0) := by rw [show ((j : Nat) : Int).toNat = j by lia] at e₆; exact e₆
      refine r_extend (k₆ _ _ eu₅) e₆' (by simp; lia) fun h₇ c₇ s₇ eu₇ => ?_
      have F₇ : FrL (hideAll s.heap fs) env.locals h₇ _ := F₆.pr (X := [ua]) (Pr.same s₇ (.head _)) (fun z => K.uL (List.mem_singleton.mp z).symm) (fun a z => by rw [List.mem_singleton.mp z]; exact K.u0)
      have em₇ : h₇.get? ma = some (listOf (mw ++ vs.drop i).toArray c₅) := (s₇.2 _ K.mu).trans (k₆ _ _ em₅)
      have O₇ : OutF s.heap fs h₇ := (O₅.kp k₆).pr (Pr.same (X := [ua]) s₇ (.head _)) fun a z y => K.uf (by rw [List.mem_singleton.mp y] at z; exact z)
      refine s_brk ?_
      refine ⟨(0, 0, [], []), h₇, _, rfl, O₇, ⟨_, _, c₅, c₇, em₇, ?_, eu₇, ?_⟩, F₇.sub ⟨rfl, rfl, trivial⟩⟩
      · rw [hinv]; exact am.append (K.xa.drop i)
      · rw [hinv]; exact au.append (K.ya.drop j)
  · rintro _ h t ⟨O, ⟨bs, cs, c, c', em, am, eu, au⟩, F⟩
    walk_at "xs"
    refine r_newTuple (by simp) fun T h' k' n' e' => ?_
    have nf : ∀ {b : Addr}, b ∈ fs → h'.get? b ≠ none := fun m z => by
      obtain ⟨o, e, _⟩ := O.at m
      rw [k' _ _ e] at z; cases z
    refine q T ma ua bs cs h' _ (fun b o eb n => k' _ _ (F.keep _ _ (hideAll_get _ eb n))) (O.kp k') (TupH.mk e' fun m => ?_) ?_ ?_ am au
    · obtain ⟨o, e, _⟩ := O.at m
      rw [e] at n'; cases n'
    · exact LstH.mk (listOf_is (k' _ _ em)) mf
    · exact LstH.mk (listOf_is (k' _ _ eu)) uf
end
end

section
theorem strs_of {vs : List Value} {ss : List Str} (h : All2 StrV vs ss) : StrsAre vs ss := by
  induction h with
  | nil => exact .nil
  | cons a _ ih => obtain ⟨t, rfl⟩ := a; exact .cons _ t ih
theorem of_strs {vs : List Value} {ss : List Str} (h : StrsAre vs ss) : All2 StrV vs ss := by
  induction h with
  | nil => exact .nil
  | cons x t _ ih => exact .cons ⟨t, rfl⟩ ih
theorem natl_total : ∀ a b : List Nat, a < b ∨ a = b ∨ b < a
  | [], [] => .inr (.inl rfl)
  | [], _ :: _ => .inl (List.Lex.nil)
  | _ :: _, [] => .inr (.inr (List.Lex.nil))
  | x :: a, y :: b => by
    rcases Nat.lt_trichotomy x y with h | rfl | h
    · exact .inl (List.Lex.rel h)
    · rcases natl_total a b with h | rfl | h
      · exact .inl (List.Lex.cons h)
      · exact .inr (.inl rfl)
      · exact .inr (.inr (List.Lex.cons h))
    · exact .inr (.inr (List.Lex.rel h))
theorem natl_irr (a : List Nat) : ¬ a < a := List.lt_irrefl a
theorem natl_trans {a b c : List Nat} (h : a < b) (h' : b < c) : a < c := List.lt_trans h h'
theorem ltS_nt {a b c : Str} (h1 : ltS b a = false) (h2 : ltS c b = false) : ltS c a = false := by
  unfold ltS at *
  rw [decide_eq_false_iff_not] at *
  intro h
  rcases natl_total b.cps.toList a.cps.toList with z | z | z
  · exact h1 z
  · rw [z] at h2; exact h2 h
  · exact h2 (natl_trans h z)
theorem sortedS_pw : ∀ (l : List Str), sortedS l = true → l.Pairwise (fun a b => ltS b a = false)
  | [], _ => .nil
  | [x], _ => .cons (fun _ m => nomatch m) .nil
  | x :: y :: r, h => by
    have h : (!Spec.ltCps y.cps.toList x.cps.toList && risingS y r) = true := h
    rw [Bool.and_eq_true, Bool.not_eq_true'] at h
    have ih := sortedS_pw (y :: r) h.2
    have h1 : ltS y x = false := by unfold ltS; rw [← ltCps_eq]; exact h.1
    refine .cons (fun z m => ?_) ih
    rcases List.mem_cons.mp m with rfl | m
    · exact h1
    · exact ltS_nt h1 (List.rel_of_pairwise_cons ih m)
section
variable {prog : Program} {w : World} {A : Around} {E : Value → Shared → Prop} {h : Heap} {g : Array GenState} {d : Drawn} {t : Nat} {os : OsState}
theorem r_sortedS {l : Addr} {vs : List Value} {ss : List Str} {Q : Value → Shared → Prop} (hl : h.IsList l vs.toArray) (hS : All2 StrV vs ss) (h64 : ss.length < 64)
    (q : ∀ D h' vs' ss' c, Kp h h' → h.get? D = none → h'.get? D = some (listOf vs'.toArray c) → All2 StrV vs' ss' → ss'.Perm ss → ss'.Pairwise (fun a b => ltS b a = false) → Q (.ref D) ⟨h', g, d, t, os⟩) :
    wpAny (model prog w) A (call (.builtin "sorted") [.ref l]) Q E ⟨h, g, d, t, os⟩ := by
  refine sorted_strs hl (strs_of hS) (by rw [hS.length]; exact h64) fun out ss' a1 a2 a3 => ?_
  obtain ⟨e, he⟩ := sortedAll_at h vs out
  have hn : h.get? (h.objs.size + 1) = none := by
    cases z : h.get? (h.objs.size + 1) with
    | none => rfl
    | some o => exact absurd (Heap.lt_size z) (Nat.not_lt.mpr (Nat.le_succ _))
  exact q _ _ out.toList ss' e (fun _ _ => sortedAll_old) hn he (of_strs a1) a2 (sortedS_pw _ a3)
end
end

section
noncomputable def scanL : List Nat → List Nat
  | 34 :: 34 :: r => 34 :: scanL r
  | 34 :: _ => []
  | c :: r => c :: scanL r
  | [] => []
noncomputable def parseL (l : List Nat) : List Nat := if (l.drop 3).take 2 = [32, 34] then scanL (l.drop 5) else []
theorem scanL_ne {c : Nat} {r : List Nat} (h : ¬ c = 34) : scanL (c :: r) = c :: scanL r := by
  rw [scanL]
  · intro r' e; exact absurd e h
  · intro e; exact h e

theorem str_app (a b : List Nat) : (⟨a.toArray⟩ : Str) ++ ⟨b.toArray⟩ = ⟨(a ++ b).toArray⟩ := by
  show (⟨a.toArray ++ b.toArray⟩ : Str) = _
  simp
noncomputable def ParseI (h₀ : Heap) (L : Addr) (x : Str) (t : Tok) (k : Nat × List Nat) (h : Heap) : Prop :=
  ∃ u u1 u2, FrL h₀ L h [(Str.ofString "i", .int (k.1 : Nat) u), (Str.ofString "dirname", .str ⟨k.2.toArray⟩ u1), (Str.ofString "n", .int (x.length : Nat) u2), (Str.ofString "resp", .str x t)] ∧
    k.1 ≤ x.length ∧ k.2.length ≤ k.1 ∧ scanL (x.cps.toList.drop 5) = k.2 ++ scanL (x.cps.toList.drop k.1)
noncomputable def ParseZ (h₀ : Heap) (L : Addr) (x : Str) (k : Nat × List Nat) (h : Heap) : Prop :=
  ∃ u1, FrL h₀ L h [(Str.ofString "dirname", .str ⟨k.2.toArray⟩ u1)] ∧ scanL (x.cps.toList.drop 5) = k.2
theorem s257 : (Str.ofString "257") = ⟨#[50, 53, 55]⟩ := by decide +kernel
theorem s_sq : (Str.ofString " \"") = ⟨#[32, 34]⟩ := by decide +kernel
theorem s_em : (Str.ofString "") = ⟨#[]⟩ := by decide +kernel
theorem str_bne (a b : List Nat) : ((⟨a.toArray⟩ : Str) != ⟨b.toArray⟩) = !(a == b) := by
  show (!((⟨a.toArray⟩ : Str) == ⟨b.toArray⟩)) = _
  congr 1
  rw [Bool.eq_iff_iff]; simp

section
variable {prog : Program} {w : World} {mg mb : Str → Option Value} {A : Around}
theorem parse_ok {x : Str} {t : Tok} {s : Shared} {R : Value → Shared → Prop} (G : Gd w mg mb s.heap) (a : Ar A 1) (hz : x.length ≤ 100000) (h5 : 5 ≤ x.length) (h3 : x.cps.toList.take 3 = [50, 53, 55])
    (q : ∀ h' u t', Kp s.heap h' → R (.str ⟨(parseL x.cps.toList).toArray⟩ u) ⟨h', s.gens, s.drawn, t', s.os⟩) :
    codeAny (model prog w) A (.call (.ref 46) ⟨[.str x t], []⟩) (RetR R) s := by
  refine enter [(Str.ofString "resp", .str x t)] G a.d0 (by k_is) (by k_is) rfl rfl ?_
  intro env h₁ t₁ F
  have hz' : x.length ≤ 1000000 := by lia
  have lx : x.cps.toList.length = x.length := by simp [Str.length]
  walk_at "xs"
  refine r_slS_to hz' (by decide) (by lia) fun h₂ u₂ t₂ k₂ => ?_
  have F₂ := F.kp k₂
  walk_at "xs"
  refine ite_n (by rw [s257]; show ((⟨(x.cps.toList.take 3).toArray⟩ : Str) != _) = _; rw [h3]; rfl) ?_
  walk_at "xs"
  refine r_slS_ft hz' (by decide) (by decide) (by lia) fun h₃ u₃ t₃ k₃ => ?_
  have F₃ := F₂.kp k₃
  walk_at "xs"
  refine ite_b (fun c => ?_) (fun c => ?_) <;> rw [s_sq, show (⟨#[32, 34]⟩ : Str) = ⟨[32, 34].toArray⟩ from rfl, str_bne] at c
  · walk_at "xs"
    have c' : ¬ (x.cps.toList.drop 3).take 2 = [32, 34] := by simpa using c
    refine endS (fun u t' => q h₃ u t' F₃.keep) ?_
    rw [s_em]; unfold parseL; rw [if_neg c']
  · have c' : (x.cps.toList.drop 3).take 2 = [32, 34] := by simpa using c
    walk_at "xs"
    with_reducible refine r_store F₃ ?_
    intro h₄ t₄ F₄ e₄
    walk_at "xs"
    with_reducible refine r_store F₄ ?_
    intro h₅ t₅ F₅ e₅
    walk_at "xs"
    with_reducible refine r_store F₅ ?_
    intro h₆ t₆ F₆ e₆
    refine s_whileX (ParseI s.heap env.locals x t) (ParseZ s.heap env.locals x) (fun k => x.length - k.1) (5, []) ⟨_, _, _, F₆.sub ⟨rfl, by rw [s_em]; rfl, rfl, rfl, trivial⟩, h5, Nat.zero_le _, rfl⟩ ?_ ?_
    · rintro ⟨k, D⟩ h₇ t₇ ⟨u, u1, u2, F₇, hk, hD, he⟩
      simp only at F₇ hk hD he
      walk_at "xs"
      refine ite_b (fun c1 => ?_) (fun c1 => ?_)
      · have c1' := of_decide_eq_true c1
        obtain ⟨cx, ex⟩ : ∃ c, x.cps.toList[k]? = some c := ⟨_, List.getElem?_eq_getElem (by lia)⟩
        rw [drop_cons ex] at he
        walk_at "xs"
        with_reducible refine r_store F₇ ?_
        intro h₈ t₈ F₈ e₈
        walk_at "xs"
        with_reducible refine r_store F₈ ?_
        intro h₉ t₉ F₉ e₉
        walk_at "xs"
        refine ite_b (fun c2 => ?_) (fun c2 => ?_) <;> rw [str1_eqq] at c2
        · have c2' : cx = 34 := by simpa using c2
          subst c2'
          have F₉' : FrL s.heap env.locals h₉ [(Str.ofString "i", .int ((k + 1 : Nat) : Int) _), (Str.ofString "c", .str ⟨#[34]⟩ _), (Str.ofString "dirname", .str ⟨D.toArray⟩ u1), (Str.ofString "n", .int (x.length : Nat) u2), (Str.ofString "resp", .str x t)] := F₉.sub ⟨rfl, rfl, rfl, rfl, rfl, trivial⟩
          clear F₉
          walk_at "xs"
          refine ite_b (fun c3 => ?_) (fun c3 => ?_)
          · have c3' := of_decide_eq_true c3
            walk_at "xs"
            refine s_brk ⟨(k, D), h₉, _, rfl, _, F₉'.sub ⟨rfl, trivial⟩, ?_⟩
            have e0 : x.cps.toList.drop (k + 1) = [] := List.drop_eq_nil_of_le (by lia)
            rw [he, e0]; simp [scanL]
          · have c3' := of_decide_eq_false c3
            obtain ⟨cy, ey⟩ : ∃ c, x.cps.toList[k + 1]? = some c := ⟨_, List.getElem?_eq_getElem (by lia)⟩
            rw [drop_cons ey] at he
            walk_at "xs"
            refine ite_b (fun c4 => ?_) (fun c4 => ?_) <;> rw [quote_is, show (⟨#[34]⟩ : Str) = ⟨[34].toArray⟩ from rfl, show (⟨#[cy]⟩ : Str) = ⟨[cy].toArray⟩ from rfl, str_bne] at c4
            · refine s_brk ⟨(k, D), h₉, _, rfl, _, F₉'.sub ⟨rfl, trivial⟩, ?_⟩
              have c4' : ¬ cy = 34 := by simpa using c4
              rw [he]
              have : scanL (34 :: cy :: x.cps.toList.drop (k + 1 + 1)) = [] := by
                rw [scanL]
                intro r' e; cases e; exact c4' rfl
              rw [this]; simp
            · have c4' : cy = 34 := by simpa using c4
              subst c4'
              walk_at "xs"
              with_reducible refine r_store F₉' ?_
              intro h₁₀ t₁₀ F₁₀ e₁₀
              walk_at "xs"
              refine r_addS (by simp [Str.length]; simp [Str.length] at hz hk; lia) fun u₁₁ t₁₁ => ?_
              with_reducible refine r_store F₁₀ ?_
              intro h₁₁ t₁₁ F₁₁ e₁₁
              refine s_nil ⟨h₁₁, t₁₁, rfl, (k + 2, D ++ [34]), ?_, _, _, _, F₁₁.sub ⟨rfl, by rw [← str_app]; rfl, rfl, rfl, trivial⟩, ?_, ?_, ?_⟩
              all_goals simp only
              · lia
              · lia
              · simp; lia
              · rw [he, scanL]; simp
        · have c2' : ¬ cx = 34 := by simpa using c2
          walk_at "xs"
          refine r_addS (by simp [Str.length]; simp [Str.length] at hz hk; lia) fun u₁₁ t₁₁ => ?_
          with_reducible refine r_store F₉ ?_
          intro h₁₁ t₁₁ F₁₁ e₁₁
          refine s_nil ⟨h₁₁, t₁₁, rfl, (k + 1, D ++ [cx]), ?_, _, _, _, F₁₁.sub ⟨rfl, by rw [← str_app]; rfl, rfl, rfl, trivial⟩, ?_, ?_, ?_⟩
          all_goals simp only
          · lia
          · lia
          · simp; lia
          · rw [he, scanL_ne c2']; simp
      · have c1' := of_decide_eq_false c1
        have e0 : x.cps.toList.drop k = [] := List.drop_eq_nil_of_le (by lia)
        refine ⟨(k, D), h₇, _, rfl, _, F₇.sub ⟨rfl, trivial⟩, ?_⟩
        rw [he, e0]; simp [scanL]
    · rintro ⟨k, D⟩ h₇ t₇ ⟨u1, F₇, he⟩
      walk_at "xs"
      refine endS (fun u t' => q h₇ u t' F₇.keep) ?_
      unfold parseL; rw [if_pos c', he]
end
end

section
theorem be_str : Slot "Exception" "__str__" "BaseException.__str__" := PySem.F.excStr_Exception.str
theorem be_split : splitId "BaseException.__str__" = some ("BaseException", "__str__") := by decide +kernel
theorem be_kind : builtinKind "BaseException.__str__" = some .slot := by kernel_rfl
section
variable {prog : Program} {w : World} {mg mb : Str → Option Value} {A : Around} {E : Value → Shared → Prop} {h : Heap} {g : Array GenState} {d : Drawn} {t : Nat} {os : OsState}
noncomputable def OwnX (h : Heap) (e C : Addr) (x : Str) (tk : Tok) : Prop := ∃ o ws t0 ot n, h.get? e = some o ∧ o.cls = .ref C ∧ o.data = .fields ws ∧ ws[0]? = some (.ref t0) ∧ h.get? t0 = some ot ∧ ot.data = .seq #[.str x tk] n
theorem own_entry {e C : Addr} {x : Str} {tk : Tok} {Q : Fin → Shared → Prop} (X : OwnX h e C x tk) (hq : Q (.done (.ret (.str x tk))) ⟨h, g, d, t, os⟩) :
    wpAny (model prog w) A (Builtin.«BaseException.__str__» ⟨[.ref e], []⟩) Q E ⟨h, g, d, t, os⟩ := by
  obtain ⟨o, ws, t0, ot, n, e1, e2, e3, e4, e5, e6⟩ := X
  have hb : ∀ {Q' : Value × List Value → Shared → Prop}, Q' (.ref t0, [.str x tk]) ⟨h, g, d, t, os⟩ → wpAny (model prog w) A (Builtin.BaseException.bexcArgs (.ref e)) Q' E ⟨h, g, d, t, os⟩ := by
    intro Q' hq'
    unfold Builtin.BaseException.bexcArgs
    exact wpAny_bind (wpAny_field e1 e3 e4 (wpAny_bind (wpAny_seqItems e5 e6 (wpAny_pure hq'))))
  unfold Builtin.«BaseException.__str__»
  repeat (first | with_reducible refine hb ?_ | wp_step)
  exact hq
theorem own_call {K : Frag} {e C : Addr} {x : Str} {tk : Tok} {Q : Value → Shared → Prop} (XK : K.In h) (X : OwnX h e C x tk) (hb : subIn K (.ref C) (.type "BaseException") = some true)
    (q : Q (.str x tk) ⟨h, g, d, t, os⟩) : wpAny (model prog w) A (call (.builtin "BaseException.__str__") [.ref e]) Q E ⟨h, g, d, t, os⟩ := by
  obtain ⟨o, ws, t0, ot, n, e1, e2, e3, e4, e5, e6⟩ := id X
  have ty : Looks (model prog w) h (typeOf (.ref e)) (.ref C) := by rw [← e2]; exact (Looks.ld e1).andThen .now
  have t2 : Looks (model prog w) h (isInstance (.ref e) (.type "BaseException")) true := ty.andThen (looks_subIn XK hb)
  refine wpAny_call (codeAny_call_builtin be_str.plain PySem.F.entry_bexc_str (@check_slot (model prog w) _ _ _ "BaseException.__str__" "BaseException" "__str__" (.ref e) [] [] _ be_kind be_split t2 (PySem.F.args_bexc_str _) ?_))
  exact own_entry X q
theorem own_special {K : Frag} {e C : Addr} {x : Str} {tk : Tok} {Q : Option Value → Shared → Prop} (XK : K.In h) (X : OwnX h e C x tk) (hs : findIn K (.ref C) "__str__" = some (some (.builtin "BaseException.__str__"))) (hb : subIn K (.ref C) (.type "BaseException") = some true)
    (q : Q (some (.str x tk)) ⟨h, g, d, t, os⟩) : wpAny (model prog w) A (callSpecial? (.ref e) (Str.ofString "__str__")) Q E ⟨h, g, d, t, os⟩ := by
  obtain ⟨o, ws, t0, ot, n, e1, e2, e3, e4, e5, e6⟩ := id X
  have ty : Looks (model prog w) h (typeOf (.ref e)) (.ref C) := by rw [← e2]; exact (Looks.ld e1).andThen .now
  refine wpAny_bind (wpAny_bind (ty.here ((looks_findIn XK hs).here (wpAny_holding (wpAny_bind ((Looks.of_pure (be_str.bind _)).here ?_))))))
  refine wpAny_bind (m := call (.builtin "BaseException.__str__") [.ref e]) (own_call XK X hb ?_)
  exact wpAny_pure q
open Builtin Builtin.Str in
theorem own_strOf {K : Frag} {e C : Addr} {x : Str} {tk : Tok} {Q : Value → Shared → Prop} (hu : A.units < cLine) (XK : K.In h) (X : OwnX h e C x tk) (hs : findIn K (.ref C) "__str__" = some (some (.builtin "BaseException.__str__"))) (hb : subIn K (.ref C) (.type "BaseException") = some true)
    (q : Q (.str x tk) ⟨h, g, d, t, os⟩) : wpAny (model prog w) A (PySem.Builtin.Str.strOf (.ref e)) Q E ⟨h, g, d, t, os⟩ := by
  unfold PySem.Builtin.Str.strOf
  rw [show isExactStr (.ref e) = false from rfl]
  refine wpAny_bind (m := cRoomFor _ _) (wpAny_cRoomFor hu ?_)
  refine wpAny_bind (m := callSpecial? (.ref e) (Str.ofString "__str__")) (own_special XK X hs hb ?_)
  exact wpAny_pure q
theorem own_str {K : Frag} {e C : Addr} {x : Str} {tk : Tok} {Q : Value → Shared → Prop} (hu : A.in1.in1.units < cLine) (XK : K.In h) (X : OwnX h e C x tk) (hs : findIn K (.ref C) "__str__" = some (some (.builtin "BaseException.__str__"))) (hb : subIn K (.ref C) (.type "BaseException") = some true)
    (q : Q (.str x tk) ⟨h, g, d, t, os⟩) : wpAny (model prog w) A (call (.type "str") [.ref e]) Q E ⟨h, g, d, t, os⟩ := by
  refine callType_codes (T := "str") (Bi := Builtin.«object.__init__») (Q₁ := fun r s₁ => ∃ y u, r = .str y u ∧ Q r s₁) PySem.F.called_str (PySem.F.typeCall_str_1 _) PySem.F.entry_object_init ?_ ?_
  · refine codeAny_of_tree ?_
    show wpAny _ A.in1.in1 (do checkBuiltinCall "str.__new__" ⟨[.type "str", .ref e], []⟩; again (.builtin "str.__new__" ⟨[.type "str", .ref e], []⟩)) _ _ _
    refine wpAny_bind (wpAny_of_eq (PySem.F.newCall_str_1 _) (wpAny_pure ⟨plainId_quiet (by decide +kernel) _, codeAny_builtin PySem.F.entry_str_new ?_⟩))
    rw [Around.under_plainId (by decide +kernel) _]
    rw [PySem.str_new_tree]
    refine wpAny_bind (wpAny_pure ?_)
    refine wpAny_bind (wpAny_of_eq isSubtype_str_str ?_)
    exact wpAny_bind (own_strOf hu XK X hs hb (wpAny_pure ⟨_, _, rfl, q⟩))
  · rintro obj s₁ ⟨y, u, rfl, hq⟩
    exact ⟨typeIs_str _ _ _, PySem.F.args_object_init_2 _ _, object_init_meets PySem.F.called_str.init.lookup PySem.F.called_str.made (by decide) prog w A.in1 _ s₁ ⟨typeIs_str _ _ _, rfl, hq⟩⟩
end
theorem mkFunB {h b : Heap} : ∀ {l : List Env}, (∀ e ∈ l, e.scope.kind ≠ .module ∧ ∃ a o, e.frame = some a ∧ b.get? a = none ∧ h.get? a = some o ∧ ∀ vs, o.data ≠ .fields vs) → h.FunFrames b l
  | [], _ => trivial
  | e :: r, H => by
    obtain ⟨k, a, o, f, m, g, d⟩ := H e (.head _)
    exact ⟨k, ⟨a, o, f, m, g, d⟩, mkFunB fun e' m' => H e' (.tail _ m')⟩
theorem FrL.dataN {h₀ h : Heap} {L : Addr} {l : List (Str × Value)} (F : FrL h₀ L h l) : ∃ o, h.get? L = Option.some o ∧ ∀ vs, o.data ≠ Data.fields vs := by
  obtain ⟨o, es, n, a, b⟩ := F.data
  exact ⟨o, a, fun vs z => by rw [b] at z; cases z⟩
theorem FrL.slots {h₀ h h' : Heap} {L : Addr} {l : List (Str × Value)} (F : FrL h₀ L h l) (k : Kp h₀ h') (sm : h.UpToSlots h') : FrL h₀ L h' l := let ⟨m, F, e⟩ := F.ex; ⟨m, ⟨sm.ns F.ns, k, F.above⟩, e⟩
theorem mkFrames {b h : Heap} {env : Env} {L : Addr} {outer : List Env} {fs : List Addr} (hk : env.scope.kind ≠ .module) (hL : env.frame = some L) (n : b.get? L = none) (F : ∃ o, h.get? L = some o ∧ ∀ vs, o.data ≠ .fields vs)
    (hkd : ∀ e ∈ outer, e.scope.kind ≠ .module) (hsm : ∀ e ∈ outer, ∃ a, e.frame = some a) (hfs : outer.filterMap (·.frame) = fs) (hb : ∀ a ∈ fs, b.get? a = none) (O : ∀ a ∈ fs, ∃ o, h.get? a = some o ∧ ∀ vs, o.data ≠ .fields vs) : h.FunFrames b (env :: outer) := by
  refine mkFunB fun e m => ?_
  rcases List.mem_cons.mp m with rfl | m
  · obtain ⟨o, e1, e2⟩ := F
    exact ⟨hk, _, o, hL, n, e1, e2⟩
  · obtain ⟨a, ea⟩ := hsm e m
    have ma : a ∈ fs := by rw [← hfs]; exact List.mem_filterMap.mpr ⟨e, m, ea⟩
    obtain ⟨o, eo, d⟩ := O a ma
    exact ⟨hkd e m, a, o, ea, hb a ma, eo, d⟩
section
variable {prog : Program} {w : World} {mg mb : Str → Option Value} {A : Around} {outer : List Env} {fs : List Addr}
theorem parse_bad {x : Str} {t : Tok} {s : Shared} {R : Result → Shared → Prop} (G : Gd w mg mb (hideAll s.heap fs)) (a : Ar A 1) (hf : A.frames = some outer) (hkd : ∀ e ∈ outer, e.scope.kind ≠ .module) (hsm : ∀ e ∈ outer, ∃ a, e.frame = some a) (hfs : outer.filterMap (·.frame) = fs)
    (hout : OutF s.heap fs s.heap) (hz : x.length ≤ 100000) (h5 : 5 ≤ x.length) (h3 : x.cps.toList.take 3 ≠ [50, 53, 55])
    (q : ∀ e ta h' t', Heap.FlyingW (hideAll s.heap fs) outer e (.ref 37) (.ref ta) h' → h'.TupAt ta [.str x t] → (hideAll s.heap fs).get? ta = none → s.heap.UpToSlots h' → R (.error (.ref e)) ⟨h', s.gens, s.drawn, t', s.os⟩) :
    codeAny (model prog w) A (.call (.ref 46) ⟨[.str x t], []⟩) R s := by
  have kb : Kp (hideAll s.heap fs) s.heap := fun _ _ e => of_hideAll _ e
  have G' := G.keeps kb
  refine call_plain (binds := [(Str.ofString "resp", .str x t)]) a.d0 (G'.K _ _ (by k_is)) rfl G'.T.nolimit (codeRec_of G'.K (by k_is)) rfl (locs rfl) ?_
  intro h₁ F0
  have F : FrL s.heap s.heap.objs.size h₁ [(Str.ofString "resp", .str x t)] := ⟨_, F0, fun _ _ e => e⟩
  have hz' : x.length ≤ 1000000 := by lia
  have lx : x.cps.toList.length = x.length := by simp [Str.length]
  walk_at "xs"
  refine r_slS_to hz' (by decide) (by lia) fun h₂ u₂ t₂ k₂ => ?_
  have F₂ := F.kp k₂
  walk_at "xs"
  refine ite_y (by rw [s257]; show ((⟨(x.cps.toList.take 3).toArray⟩ : Str) != ⟨[50, 53, 55].toArray⟩) = true; rw [str_bne]; simpa using h3) ?_
  obtain ⟨m, Fm, hm⟩ := F₂.ex
  refine s_any (Raise_own Fm G'.T.g (own_of_in G'.K G'.T (by k_is) (by k_exc)) PySem.F.excBase_Exception a.hd ?_)
  refine spliced_more (r_name F₂ rfl (spliced_none ⟨by simp [sizeLine_eq], F₂.keep, fun h₃ e X => ?_⟩))
  refine wpAny_leaves_madeW (base := hideAll s.heap fs) (outer := outer) (by show A.frames.map _ = _; rw [hf]; rfl) rfl (fun b o q => F₂.keep _ _ (kb _ _ q)) (mkFrames (L := s.heap.objs.size) (fun z => by cases z) rfl (none_of (new_none _) kb) F₂.dataN hkd hsm hfs (fun a m => hideAll_none _ m) fun a m => let ⟨o, e, d⟩ := hout.at m; ⟨o, F₂.keep _ _ e, d⟩) X fun h' ta x1 x2 x3 x4 => ?_
  exact q e ta h' _ x1 x2 x3 (((Heap.UpToSlots.of_keeps F₂.keep).trans (Heap.UpToSlots.of_keeps X.keeps)).trans x4)
theorem refused_ok {x : Str} {t : Tok} {s : Shared} {R : Value → Shared → Prop} (G : Gd w mg mb (hideAll s.heap fs)) (a : Ar A 2) (hf : A.frames = some outer) (hkd : ∀ e ∈ outer, e.scope.kind ≠ .module) (hsm : ∀ e ∈ outer, ∃ a, e.frame = some a) (hfs : outer.filterMap (·.frame) = fs)
    (hout : OutF s.heap fs s.heap) (hz : x.length ≤ 100000) (h5 : 5 ≤ x.length) (h3 : x.cps.toList.take 3 ≠ [50, 53, 55])
    (q : ∀ h' t', Pr fs s.heap h' → OutF s.heap fs h' → R (.bool true) ⟨h', s.gens, s.drawn, t', s.os⟩) :
    codeAny (model prog w) A (.call (.ref 156) ⟨[.str x t], []⟩) (RetR R) s := by
  have kb : Kp (hideAll s.heap fs) s.heap := fun _ _ e => of_hideAll _ e
  refine enter [(Str.ofString "reply", .str x t)] (G.keeps kb) a.d0 (by k_is) (by k_is) rfl rfl ?_
  intro env h₁ t₁ F0
  have a1 : Ar (A.deeper env) 1 := a.deeper
  have F : FrL (hideAll s.heap fs) env.locals h₁ _ := F0.ghost (Pr.refl _ _) fun a m => let ⟨o, _, e, _⟩ := hout a m; ⟨o, e⟩
  have S : FS (A.deeper env) env outer fs := ⟨by show A.frames.map _ = _; rw [hf]; rfl, rfl, fun e m => by
    rcases List.mem_cons.mp m with rfl | m
    · intro z; cases z
    · exact hkd e m, hsm, hfs⟩
  have O : OutF s.heap fs h₁ := hout.kp F0.keep
  have nL : env.locals ∉ fs := fun m => by
    obtain ⟨o, _, e, _⟩ := hout _ m
    have : s.heap.get? env.locals = none := new_none _
    rw [this] at e; cases e
  refine s_any (wpAny_Try_except ?_)
  walk_at "xs"
  have h0 : ∀ a ∈ fs, (hideAll s.heap fs).get? a = none := fun a m => hideAll_none _ m
  have kB : Kp (hideAll s.heap fs) (hideAll h₁ (env.locals :: fs)) := fun b o e => hideAll_get _ (F.keep _ _ e) fun m => by
    rcases List.mem_cons.mp m with rfl | m
    · have := F.base; rw [this] at e; cases e
    · rw [h0 b m] at e; cases e
  have hfs' : (env :: outer).filterMap (·.frame) = env.locals :: fs := by rw [List.filterMap_cons, S.ef]; simp only; rw [hfs]
  have O1 : OutF h₁ (env.locals :: fs) h₁ := fun a m => by
    rcases List.mem_cons.mp m with rfl | m
    · obtain ⟨o, e, d⟩ := F.dataN; exact ⟨o, o, e, e, rfl, d⟩
    · obtain ⟨o, e, d⟩ := O.at m; exact ⟨o, o, e, e, rfl, d⟩
  refine ⟨G.keeps F.keep, wpAny_call (parse_bad (outer := env :: outer) (fs := env.locals :: fs) (G.keeps kB) a1 S.fr S.kd (fun e m => ?_) hfs' O1 hz h5 h3 ?_)⟩
  · rcases List.mem_cons.mp m with rfl | m
    · exact ⟨_, S.ef⟩
    · exact hsm e m
  intro e ta h₂ t₂ fl tup fresh up
  refine wpAny_looks_onW S.fr rfl fl fun h₃ held sm₃ => wpAny_landsW held fun h₄ fl₄ sm₄ => ?_
  have up₄ := (up.trans sm₃).trans sm₄
  have F₄ : FrL (hideAll s.heap fs) env.locals h₄ [(Str.ofString "reply", .str x t)] := F.slots (fun b o e => fl₄.1 _ _ (kB _ _ e)) up₄
  obtain ⟨ob, hob, hobc⟩ := fl₄.there
  have O₄ := O.up up₄
  refine wpAny_handleBy_cons (codeAny_handlers_test (r_glob F₄ G (by k_is) ?_ (by with_unfolding_all rfl) (by with_unfolding_all rfl) (by with_unfolding_all rfl) (by decide))) (by intro q; cases q)
  obtain ⟨bm, N, nm, qn, bs, hdct, sn, sub, ab, col, dd, k0, k1, k2, k3, k5, mN, hC, hN, hni, TL⟩ := ((own_of_in G.K G.T (x := Str.ofString "error_reply") (C := 37) (bmB := [.type "Exception", .type "BaseException", .type "object"]) (newId := "Exception.__new__") (by k_is) (by k_exc)).keeps F₄.keep).obj
  refine wpAny_excMatches_sub_self hC hob hobc (TL.hasType (by decide)) (codeAny_handlers_suite_as ?_)
  refine lands_againW fl₄ fun h₅ fl₅ sm₅ => ?_
  have up₅ := up₄.trans sm₅
  have F₅ : FrL (hideAll s.heap fs) env.locals h₅ [(Str.ofString "reply", .str x t)] := F.slots (fun b o e => fl₅.1 _ _ (kB _ _ e)) up₅
  have O₅ := O.up up₅
  obtain ⟨oe, ws, hoe, hoec, hoed, hoe0⟩ := fl₅.first
  obtain ⟨ot, nt, hot, hotc, hotd⟩ := ((tup.of_slots sm₃).of_slots sm₄).of_slots sm₅
  refine r_store F₅ ?_ (by with_unfolding_all rfl) (by with_unfolding_all rfl)
  intro h₆ t₆ F₆ s₆
  have P₆ := Pr.same (X := [env.locals]) s₆ (.head _)
  have O₆ := O₅.prL P₆ nL
  have X₆ : OwnX h₆ e 37 x t := by
    refine ⟨oe, ws, ta, ot, nt, ?_, hoec, hoed, hoe0, ?_, hotd⟩
    · refine P₆ _ _ hoe fun m => ?_
      obtain ⟨o, a, b⟩ := F₅.dataN
      rw [List.mem_singleton.mp m, a] at hoe; cases hoe; exact b _ hoed
    · refine P₆ _ _ hot fun m => ?_
      obtain ⟨o, es, n, a, b⟩ := F₅.data
      rw [List.mem_singleton.mp m, a] at hot; cases hot; rw [b] at hotd; cases hotd
  clear F F₄ F₅ O O₄ O₅ F0
  walk_at "xs"
  refine r_callT ?_ (by with_unfolding_all rfl) (by with_unfolding_all rfl)
  walk_at "xs"
  refine own_str ?_ (G.K.keeps F₆.keep) X₆ (by k_is) (by k_is) ?_
  · have := a.un; show A.units + 3 + 1 + 1 < cLine; lia
  walk_at "xs"
  obtain ⟨m, Fm, hm⟩ := F₆.ex
  dsimp only
  refine wpAny_nameGoes (by with_unfolding_all rfl) Fm.ns (by rfl) fun h₇ m' _ s₇ => ?_
  have P₇ := Pr.same (X := [env.locals]) s₇ (.head _)
  rw [show (x == x) = true by simp]
  refine q h₇ _ (fun b o eb n => ?_) (O₆.prL P₇ nL)
  have eb' := F₆.keep _ _ (hideAll_get _ eb n)
  refine P₇ _ _ eb' fun m => ?_
  have : s.heap.get? env.locals = none := new_none _
  rw [List.mem_singleton.mp m, this] at eb; cases eb
end
end

section
section
variable {prog : Program} {w : World} {mg mb : Str → Option Value} {A : Around}

noncomputable def replyL (n tl : List Nat) : List Nat := [50, 53, 55, 32, 34] ++ StrLaws.dbl 34 n ++ [34] ++ tl
noncomputable def replyS (n tl : Str) : Str := ⟨(replyL n.cps.toList tl.cps.toList).toArray⟩
theorem dbl_len (c : Nat) : ∀ l : List Nat, (StrLaws.dbl c l).length ≤ 2 * l.length
  | [] => Nat.le_refl _
  | k :: r => by
    have := dbl_len c r
    unfold StrLaws.dbl
    split <;> simp <;> lia

theorem reply_ok {x y : Str} {t u : Tok} {s : Shared} {R : Value → Shared → Prop} (G : Gd w mg mb s.heap) (a : Ar A 1)
    (hx : x.length ≤ 1000) (hy : y.length ≤ 1000) (q : ∀ h' u t', Kp s.heap h' → R (.str (replyS x y) u) ⟨h', s.gens, s.drawn, t', s.os⟩) :
    codeAny (model prog w) A (.call (.ref 90) ⟨[.str x t, .str y u], []⟩) (RetR R) s := by
  refine enter [(Str.ofString "name", .str x t), (Str.ofString "tail", .str y u)] G a.d0 (by k_is) (by k_is) rfl rfl ?_
  intro env h₁ t₁ F
  refine s_ret (wpAny_BinOp (wpAny_BinOp (wpAny_BinOp (r_strT ?_))))
  refine MethodCall_ (pl := ?_) ?_ ?h1
  case h1 => with_unfolding_all rfl
  walk_at "xs"
  refine PySem.GM.replace ?_
  refine r_callB (first := [.str x t]) ?_ (by with_unfolding_all rfl) (by with_unfolding_all rfl)
  refine r_args (r_strT (r_args (r_strT (r_args0 ?_)) (by with_unfolding_all rfl))) (by with_unfolding_all rfl)
  refine PySem.SC.replace (Nat.succ_ne_zero _) (Nat.succ_ne_zero _) (Nat.ne_of_lt (Nat.lt_succ_self _)) (by decide +kernel) ?_ ?_
  · have : (Str.ofString "\"\"").length = 2 := by decide +kernel
    rw [this]; lia
  intro u₂ t₂
  have e1 : Txt.replace x (Str.ofString "\"") (Str.ofString "\"\"") = ⟨(StrLaws.dbl 34 x.cps.toList).toArray⟩ := by
    have e2 : Str.ofString "\"\"" = ⟨#[34, 34]⟩ := by decide +kernel
    rw [quote_is, e2]
    apply Str.ext'
    rw [← Array.toList_inj, StrLaws.replace_double]
  rw [e1]
  have l1 := dbl_len 34 x.cps.toList
  have lx : x.cps.toList.length = x.length := by simp [Str.length]
  have l2 : (Str.ofString "257 \"").length = 5 := by decide +kernel
  have l3 : (Str.ofString "\"").length = 1 := by decide +kernel
  have l4 : (⟨(StrLaws.dbl 34 x.cps.toList).toArray⟩ : Str).length = (StrLaws.dbl 34 x.cps.toList).length := by simp [Str.length]
  refine r_addS (by rw [l2, l4]; lia) ?_
  intro u₃ t₃
  walk_at "xs"
  refine r_addS (by rw [Str.length_append, l2, l3, l4]; lia) ?_
  intro u₄ t₄
  walk_at "xs"
  refine r_addS (by rw [Str.length_append, Str.length_append, l2, l3, l4]; lia) ?_
  intro u₅ t₅
  refine endS (fun u t' => q h₁ u t' F.keep) ?_
  have e3 : Str.ofString "257 \"" = ⟨#[50, 53, 55, 32, 34]⟩ := by decide +kernel
  rw [e3, quote_is]
  apply Str.ext'
  rw [← Array.toList_inj]
  simp [replyS, replyL, Str.cps_append]
end
end

section
theorem FrL.called {h₀ h h' : Heap} {L : Addr} {l : List (Str × Value)} {fs : List Addr} (F : FrL h₀ L h l) (h0 : ∀ a ∈ fs, h₀.get? a = none) (p : Pr (L :: fs) h h') (O : OutF h (L :: fs) h') : FrL h₀ L h' l := by
  have hb := F.base
  obtain ⟨m, F, e⟩ := F.ex
  refine ⟨m, ⟨O.ns (.head _) F.ns, fun b o q => p b o (F.keep b o q) fun hm => ?_, F.above⟩, e⟩
  rcases List.mem_cons.mp hm with rfl | hm
  · rw [hb] at q; cases q
  · rw [h0 b hm] at q; cases q
theorem OutF.trans {hb h h' : Heap} {fs : List Addr} {L : Addr} (O : OutF hb fs h) (O' : OutF h (L :: fs) h') : OutF hb fs h' := fun a m => by
  obtain ⟨o, o', e, e', d, n⟩ := O a m
  obtain ⟨o2, o3, f, f', d', n'⟩ := O' a (.tail _ m)
  rw [e'] at f; cases f
  exact ⟨o, o3, e, f', d'.trans d, n⟩
structure Under (w : World) (mg mb : Str → Option Value) (A : Around) (hb h : Heap) (env : Env) (outer : List Env) (fs : List Addr) : Prop where
  G : Gd w mg mb (hideAll h (env.locals :: fs))
  kd : ∀ e ∈ env :: outer, e.scope.kind ≠ .module
  sm : ∀ e ∈ env :: outer, ∃ a, e.frame = some a
  ofs : (env :: outer).filterMap (·.frame) = env.locals :: fs
  out : OutF h (env.locals :: fs) h
theorem Under.mk' {w : World} {mg mb : Str → Option Value} {A : Around} {hb h₀ h : Heap} {env : Env} {outer : List Env} {fs : List Addr} {l : List (Str × Value)} (G : Gd w mg mb h₀) (S : FS A env outer fs) (F : FrL h₀ env.locals h l) (O : OutF hb fs h) (h0 : ∀ a ∈ fs, h₀.get? a = none) : Under w mg mb A hb h env outer fs := by
  refine ⟨G.keeps fun b o e => hideAll_get _ (F.keep _ _ e) fun m => ?_, S.kd, fun e m => ?_, ?_, fun a m => ?_⟩
  · rcases List.mem_cons.mp m with rfl | m
    · have := F.base; rw [this] at e; cases e
    · rw [h0 b m] at e; cases e
  · rcases List.mem_cons.mp m with rfl | m
    · exact ⟨_, S.ef⟩
    · exact S.sm e m
  · rw [List.filterMap_cons, S.ef]; simp only; rw [S.ofs]
  · rcases List.mem_cons.mp m with rfl | m
    · obtain ⟨o, e, d⟩ := F.dataN; exact ⟨o, o, e, e, rfl, d⟩
    · obtain ⟨o, e, d⟩ := O.at m; exact ⟨o, o, e, e, rfl, d⟩
theorem s250 : (Str.ofString "250") = ⟨#[50, 53, 48]⟩ := by decide +kernel
theorem s217 : (Str.ofString "217") = ⟨#[50, 49, 55]⟩ := by decide +kernel
theorem s357 : (Str.ofString "357") = ⟨#[51, 53, 55]⟩ := by decide +kernel
theorem replyS_len (x y : Str) : 6 + x.length + y.length ≤ (replyS x y).length ∧ (replyS x y).length ≤ 6 + 2 * x.length + y.length := by
  have h : ∀ l : List Nat, l.length ≤ (StrLaws.dbl 34 l).length ∧ (StrLaws.dbl 34 l).length ≤ 2 * l.length := by
    intro l
    induction l with
    | nil => simp [StrLaws.dbl]
    | cons a l ih => unfold StrLaws.dbl; split <;> simp only [List.length_cons] <;> lia
  have := h x.cps.toList
  simp only [Str.length, replyS, replyL, List.size_toArray, List.length_append, List.length_cons, List.length_nil, Array.length_toList] at this ⊢
  lia
section
variable {prog : Program} {w : World} {mg mb : Str → Option Value} {A : Around} {outer : List Env} {fs : List Addr}
theorem parse_ok' {x : Str} {t : Tok} {s : Shared} {R : Value → Shared → Prop} {r : List Nat} (hr : parseL x.cps.toList = r) (G : Gd w mg mb s.heap) (a : Ar A 1) (hz : x.length ≤ 100000) (h5 : 5 ≤ x.length) (h3 : x.cps.toList.take 3 = [50, 53, 55])
    (q : ∀ h' u t', Kp s.heap h' → R (.str ⟨r.toArray⟩ u) ⟨h', s.gens, s.drawn, t', s.os⟩) :
    codeAny (model prog w) A (.call (.ref 46) ⟨[.str x t], []⟩) (RetR R) s := parse_ok G a hz h5 h3 fun h' u t' k => by rw [hr]; exact q h' u t' k
theorem r_sub_int {E : Value → Shared → Prop} {h : Heap} {g : Array GenState} {d : Drawn} {t : Nat} {os : OsState} {a b : Int} {u v : Tok} {Q : Value → Shared → Prop} (q : ∀ u t', Q (.int (a - b) u) ⟨h, g, d, t', os⟩) : wpAny (model prog w) A (binaryOp .Sub (.int a u) (.int b v)) Q E ⟨h, g, d, t, os⟩ := PyProof.Rows.sub_int (q _ _)
theorem spoiled_ok {x y : Str} {t u : Tok} {s : Shared} {R : Value → Shared → Prop} (G : Gd w mg mb (hideAll s.heap fs)) (a : Ar A 3) (hf : A.frames = some outer) (hkd : ∀ e ∈ outer, e.scope.kind ≠ .module) (hsm : ∀ e ∈ outer, ∃ a, e.frame = some a) (hfs : outer.filterMap (·.frame) = fs)
    (hout : OutF s.heap fs s.heap) (hx : x.length ≤ 1000) (hy : y.length ≤ 1000) (p2 : parseL ((replyL x.cps.toList y.cps.toList).take ((replyS x y).length - y.length - 1)) = x.cps.toList)
    (q : ∀ h' t', Pr fs s.heap h' → OutF s.heap fs h' → R (.bool true) ⟨h', s.gens, s.drawn, t', s.os⟩) :
    codeAny (model prog w) A (.call (.ref 163) ⟨[.str x t, .str y u], []⟩) (RetR R) s := by
  have kb : Kp (hideAll s.heap fs) s.heap := fun _ _ e => of_hideAll _ e
  refine enter [(Str.ofString "name", .str x t), (Str.ofString "tail", .str y u)] (G.keeps kb) a.d0 (by k_is) (by k_is) rfl rfl ?_
  intro env h₁ t₁ F0
  have a1 : Ar (A.deeper env) 2 := a.deeper
  have F : FrL (hideAll s.heap fs) env.locals h₁ [(Str.ofString "tail", .str y u), (Str.ofString "name", .str x t)] := F0.ghost (Pr.refl _ _) fun a m => let ⟨o, _, e, _⟩ := hout a m; ⟨o, e⟩
  have S : FS (A.deeper env) env outer fs := ⟨by show A.frames.map _ = _; rw [hf]; rfl, rfl, fun e m => by
    rcases List.mem_cons.mp m with rfl | m
    · intro z; cases z
    · exact hkd e m, hsm, hfs⟩
  have O : OutF s.heap fs h₁ := hout.kp F0.keep
  have h0 : ∀ a ∈ fs, (hideAll s.heap fs).get? a = none := fun a m => hideAll_none _ m
  have nL : env.locals ∉ fs := fun m => by
    obtain ⟨o, _, e, _⟩ := hout _ m
    have : s.heap.get? env.locals = none := new_none _
    rw [this] at e; cases e
  have hlen := replyS_len x y
  clear F0
  walk_at "xs"
  refine ⟨G.keeps F.keep, r_con (reply_ok (G.keeps F.keep) (a1.less (by decide)) hx hy fun h₂ u₂ t₂ k₂ => ?_)⟩
  refine r_store (F.kp k₂) ?_ (by with_unfolding_all rfl) (by with_unfolding_all rfl)
  intro h₃ t₃ F₃ s₃
  have O₃ := (O.kp k₂).prL (Pr.same (X := [env.locals]) s₃ (.head _)) nL
  clear F O
  refine s_for ?_
  walk_at "xs"
  refine r_newList (by simp) fun D h₄ k₄ n₄ e₄ => ?_
  refine r_iterList a1.hd (listOf_is e₄) fun I h₅ St it => ?_
  have F₅ := (F₃.kp k₄).kp it.kp
  have O₅ := (O₃.kp k₄).kp it.kp
  have nIL : I ≠ env.locals := (F₃.kp k₄).ne it.new
  have nDL : D ≠ env.locals := F₃.ne n₄
  have nI0 : (hideAll s.heap fs).get? I = none := none_of it.new (F₃.kp k₄).keep
  have nIf : I ∉ fs := fun m => by obtain ⟨o, e, _⟩ := (O₃.kp k₄).at m; rw [it.new] at e; cases e
  have nDf : D ∉ fs := fun m => by obtain ⟨o, e, _⟩ := O₃.at m; rw [n₄] at e; cases e
  refine forW it.W it.st ?_ ?_ fs ?_ (fun _ l h => SubL l [(Str.ofString "reply", .str (replyS x y) u₂), (Str.ofString "name", .str x t), (Str.ofString "tail", .str y u)] ∧ OutF s.heap fs h) F₅ ⟨⟨rfl, rfl, rfl, trivial⟩, O₅⟩ ?_ ?_
  · intro m
    rcases List.mem_cons.mp m with e | m
    · exact nIL e.symm
    · exact nDL (List.mem_singleton.mp m).symm
  · intro b m; rw [List.mem_singleton.mp m]; exact nI0
  · intro b m hb
    rcases List.mem_cons.mp hb with rfl | hb
    · exact nIf m
    · rw [List.mem_singleton.mp hb] at m; exact nDf m
  · rintro i v l h h₆ t₆ hi hv ⟨sl, O⟩ F₆' p₆
    obtain ⟨c, tc, rfl, hc3, hc⟩ : ∃ (c : List Nat) (tc : Tok), v = .str ⟨c.toArray⟩ tc ∧ c.length = 3 ∧ c ≠ [50, 53, 55] := by
      match i, hi with
      | 0, _ => cases hv; rw [s250]; exact ⟨[50, 53, 48], _, rfl, rfl, by decide⟩
      | 1, _ => cases hv; rw [s217]; exact ⟨[50, 49, 55], _, rfl, rfl, by decide⟩
      | 2, _ => cases hv; rw [s357]; exact ⟨[51, 53, 55], _, rfl, rfl, by decide⟩
    have F₆ : FrL (hideAll s.heap fs) env.locals h₆ [(Str.ofString "code", .str ⟨c.toArray⟩ tc), (Str.ofString "reply", .str (replyS x y) u₂), (Str.ofString "name", .str x t), (Str.ofString "tail", .str y u)] := F₆'.sub ⟨rfl, sl.1, sl.2.1, sl.2.2.1, trivial⟩
    have O₆ : OutF s.heap fs h₆ := O.pr p₆ fun a m z => by
      rcases List.mem_cons.mp z with rfl | z
      · exact nL m
      · rw [List.mem_singleton.mp z] at m; exact nIf m
    clear F₆' F₅ F₃
    walk_at "xs"
    refine r_slS_from (by lia) (by decide) (by lia) (fun h₇ u₇ t₇ k₇ => ?_) (by intro _; with_unfolding_all rfl) (by intro _; with_unfolding_all rfl)
    have F₇ := F₆.kp k₇
    have O₇ := O₆.kp k₇
    walk_at "xs"
    refine r_addS ?_ fun u₈ t₈ => ?_
    · simp only [Str.length, List.size_toArray, List.length_drop]; rw [hc3]; have := hlen.2; simp only [Str.length, replyS, List.size_toArray] at this hx hy ⊢; lia
    walk_at "xs"
    have U := Under.mk' (A := A.deeper env) (hb := s.heap) G S F₇ O₇ h0
    rw [show (⟨(List.drop (Int.toNat 3) (replyS x y).cps.toList).toArray⟩ : Str) = ⟨((replyL x.cps.toList y.cps.toList).drop 3).toArray⟩ from rfl, str_app]
    have hlL : (replyL x.cps.toList y.cps.toList).length = (replyS x y).length := by simp [replyS, Str.length]
    refine ⟨G.keeps F₇.keep, r_con (refused_ok (outer := env :: outer) U.G a1 S.fr U.kd U.sm U.ofs U.out ?_ ?_ ?_ fun h₉ t₉ P₉ O₉ => ?_)⟩
    · simp only [Str.length, List.size_toArray, List.length_append, List.length_drop]; lia
    · simp only [Str.length, List.size_toArray, List.length_append, List.length_drop]; lia
    · show (c ++ _).take 3 ≠ _
      rw [List.take_append_of_le_length (by lia), List.take_of_length_le (by lia)]; exact hc
    have F₉ := F₇.called h0 P₉ O₉
    walk_at "xs"
    refine s_nil ⟨h₉, _, rfl, _, F₉, (k₇.pr _).trans P₉, ⟨rfl, rfl, rfl, trivial⟩, O₇.trans O₉⟩
  · rintro l h h₆ t₆ ⟨sl, O⟩ F₆' p₆
    have F₆ : FrL (hideAll s.heap fs) env.locals h₆ [(Str.ofString "reply", .str (replyS x y) u₂), (Str.ofString "name", .str x t), (Str.ofString "tail", .str y u)] := F₆'.sub sl
    have O₆ : OutF s.heap fs h₆ := O.pr p₆ fun a m z => nIf (by rw [List.mem_singleton.mp z] at m; exact m)
    clear F₆' F₅ F₃
    walk_at "xs"
    refine r_slS_from (by lia) (by decide) (by lia) (fun h₇ u₇ t₇ k₇ => ?_) (by intro _; with_unfolding_all rfl) (by intro _; with_unfolding_all rfl)
    have F₇ := F₆.kp k₇
    have O₇ := O₆.kp k₇
    walk_at "xs"
    have hlL : (replyL x.cps.toList y.cps.toList).length = (replyS x y).length := by simp [replyS, Str.length]
    refine r_addS ?_ fun u₈ t₈ => ?_
    · rw [s257]; simp only [Str.length, List.size_toArray, List.length_drop, replyS]; simp; lia
    walk_at "xs"
    rw [s257, show (⟨#[50, 53, 55]⟩ : Str) = ⟨[50, 53, 55].toArray⟩ from rfl, show (⟨(List.drop (Int.toNat 4) (replyS x y).cps.toList).toArray⟩ : Str) = ⟨((replyL x.cps.toList y.cps.toList).drop 4).toArray⟩ from rfl, str_app]
    refine ⟨G.keeps F₇.keep, r_con (parse_ok' (r := []) ?_ (G.keeps F₇.keep) (a1.less (by decide)) ?_ ?_ ?_ fun h₉ u₉ t₉ k₉ => ?_)⟩
    · show parseL ([50, 53, 55] ++ (replyL x.cps.toList y.cps.toList).drop 4) = []
      unfold parseL
      rw [if_neg]
      unfold replyL
      simp
    · simp only [Str.length, List.size_toArray, List.length_append, List.length_drop, List.length_cons, List.length_nil]; lia
    · simp only [Str.length, List.size_toArray, List.length_append, List.length_drop, List.length_cons, List.length_nil]; lia
    · rfl
    have F₉ := F₇.kp k₉
    have O₉ := O₇.kp k₉
    clear F₆ F₇
    walk_at "xs"
    rw [s_em]
    refine ite_n (by decide) ?_
    walk_at "xs"
    have z1 : (replyS x y).length ≤ 1000000 := by lia
    have z2 : y.length ≤ 1000000 := by lia
    walk_at "xs"
    refine r_sub_int fun u₁₀ t₁₀ => ?_
    walk_at "xs"
    refine r_sub_int fun u₁₁ t₁₁ => ?_
    walk_at "xs"
    have jn : (((replyS x y).length : Int) - (y.length : Int) - 1).toNat = (replyS x y).length - y.length - 1 := by lia
    refine r_slS_to z1 (by lia) (by lia) (fun h₁₂ u₁₂ t₁₂ k₁₂ => ?_) (by intro _; with_unfolding_all rfl) (by intro _; with_unfolding_all rfl)
    have F₁₂ := F₉.kp k₁₂
    have O₁₂ := O₉.kp k₁₂
    walk_at "xs"
    rw [jn]
    refine ⟨G.keeps F₁₂.keep, r_con (parse_ok' (r := x.cps.toList) p2 (G.keeps F₁₂.keep) (a1.less (by decide)) ?_ ?_ ?_ fun h₁₃ u₁₃ t₁₃ k₁₃ => ?_)⟩
    · show (List.toArray _).size ≤ _
      rw [List.size_toArray, List.length_take]; lia
    · show _ ≤ (List.toArray _).size
      rw [List.size_toArray, List.length_take]
      have : (replyS x y).cps.toList.length = (replyS x y).length := by simp [Str.length]
      lia
    · show ((replyL x.cps.toList y.cps.toList).take _).take 3 = _
      rw [List.take_take, Nat.min_eq_left (by lia)]
      unfold replyL
      simp
    have F₁₃ := F₁₂.kp k₁₃
    have O₁₃ := O₁₂.kp k₁₃
    clear F₉ F₁₂
    walk_at "xs"
    have ex : ((⟨x.cps.toList.toArray⟩ : Str) == x) = true := by simp
    rw [ex]
    exact q h₁₃ _ (fun b o eb n => F₁₃.keep _ _ (hideAll_get _ eb n)) O₁₃
end
end

section
noncomputable def isCe : Option NameKind → Bool
  | some .cell => true
  | _ => false
theorem isCe_eq {o : Option NameKind} (h : isCe o = true) : o = some .cell := by
  unfold isCe at h; split at h <;> first | rfl | cases h
theorem Cls.kp {cs : List (Str × Addr)} {h h' : Heap} {lc : List (Str × Value)} (x : Cls cs h lc) (k : Kp h h') : Cls cs h' lc := fun n v e => let ⟨c, a, b⟩ := x n v e; ⟨c, a, b.keeps k⟩
noncomputable def SubC (cs cl : List (Str × Addr)) (lc : List (Str × Value)) : List (Str × Value) → Prop
  | [] => True
  | p :: r => (cl.lookup p.1 = cs.lookup p.1 ∧ lc.lookup p.1 = some p.2) ∧ SubC cs cl lc r
theorem SubC.look {cs cl : List (Str × Addr)} {lc : List (Str × Value)} : ∀ {l' : List (Str × Value)}, SubC cs cl lc l' → ∀ x v, l'.lookup x = some v → cl.lookup x = cs.lookup x ∧ lc.lookup x = some v
  | [], _, _, _, e => by cases e
  | p :: r, ⟨a, b⟩, x, v, e => by
    rw [List.lookup_cons] at e
    by_cases q : (x == p.1) = true
    · rw [q] at e
      have : x = p.1 := by simpa using q
      subst this
      cases e; exact a
    · have q' : (x == p.1) = false := by simpa using q
      rw [q'] at e
      exact SubC.look b x v e
theorem Cls.sub {cs cl : List (Str × Addr)} {h : Heap} {lc lc' : List (Str × Value)} (x : Cls cs h lc) (s : SubC cs cl lc lc') : Cls cl h lc' := fun n v e => by
  obtain ⟨a, b⟩ := s.look n v e
  obtain ⟨c, q, r⟩ := x n v b
  exact ⟨c, a.trans q, r⟩
structure ClF (h₀ : Heap) (cs : List (Str × Addr)) (h : Heap) (lc : List (Str × Value)) : Prop where
  cl : Cls cs h lc
  all : ∀ p ∈ cs, ∃ v, h.IsCell p.2 v
  ap : cs.Pairwise fun x y => x.2 ≠ y.2
  new : ∀ p ∈ cs, h₀.get? p.2 = none
noncomputable abbrev cAd (cs : List (Str × Addr)) : List Addr := cs.map (·.2)
section
variable {h₀ h h' : Heap} {L : Addr} {cs : List (Str × Addr)} {l lc : List (Str × Value)}
theorem mem_ad {x : Str} {c : Addr} (e : cs.lookup x = some c) : c ∈ cAd cs := List.mem_map.mpr ⟨(x, c), mem_of_lookup e, rfl⟩
theorem ClF.kp (X : ClF h₀ cs h lc) (k : Kp h h') : ClF h₀ cs h' lc := ⟨X.cl.kp k, fun p m => let ⟨v, a⟩ := X.all p m; ⟨v, a.keeps k⟩, X.ap, X.new⟩
theorem ClF.pr {Y : List Addr} (X : ClF h₀ cs h lc) (k : Pr Y h h') (n : ∀ a ∈ cAd cs, a ∉ Y) : ClF h₀ cs h' lc := by
  have st : ∀ {c v}, c ∈ cAd cs → h.IsCell c v → h'.IsCell c v := fun m ⟨o, e, d⟩ => ⟨o, k _ _ e (n _ m), d⟩
  exact ⟨fun x v e => let ⟨c, a, b⟩ := X.cl x v e; ⟨c, a, st (mem_ad a) b⟩, fun p m => let ⟨v, a⟩ := X.all p m; ⟨v, st (List.mem_map.mpr ⟨p, m, rfl⟩) a⟩, X.ap, X.new⟩
theorem ClF.neL (X : ClF h₀ cs h lc) (F : FrL h₀ L h l) : L ∉ cAd cs := fun m => by
  obtain ⟨p, mp, e⟩ := List.mem_map.mp m
  obtain ⟨v, o, a, d⟩ := X.all p mp
  obtain ⟨o', es, n, a', d'⟩ := F.data
  rw [e, a'] at a; cases a; rw [d'] at d; cases d
theorem ClF.loc (X : ClF h₀ cs h lc) (F : FrL h₀ L h l) (s : Heap.SameBut L h h') : ClF h₀ cs h' lc := X.pr (Pr.same (X := [L]) s (.head _)) fun a m z => X.neL F (by rw [List.mem_singleton.mp z] at m; exact m)
theorem ClF.of {cm : Str → Option Value} (X : Cl L cs h cm) (F : FrL h₀ L h l) (s : SubM cm lc) (nd : (cs.map (·.1)).Nodup) (hn : (lc.all fun p => (cs.lookup p.1).isSome) = true) : ClF h₀ cs h lc := by
  refine ⟨fun x v e => ?_, fun p m => ?_, X.apart, fun p m => ?_⟩
  · have := List.all_eq_true.mp hn _ (mem_of_lookup e)
    obtain ⟨c, hc⟩ := Option.isSome_iff_exists.mp this
    refine ⟨c, hc, ?_⟩
    have := X.cell _ _ hc
    rw [s.look _ _ e] at this
    exact this
  · refine ⟨cm p.1, X.cell _ _ ?_⟩
    clear X hn s
    induction cs with
    | nil => cases m
    | cons q r ih =>
      rw [List.lookup_cons]
      rw [List.map_cons, List.nodup_cons] at nd
      rcases List.mem_cons.mp m with rfl | m
      · rw [beq_self_eq_true]
      · have : (p.1 == q.1) = false := by
          rw [beq_eq_false_iff_ne]; intro z; exact nd.1 (z ▸ List.mem_map.mpr ⟨p, m, rfl⟩)
        rw [this]; exact ih nd.2 m
  · cases z : h₀.get? p.2 with
    | none => rfl
    | some o => exact absurd (Nat.lt_of_lt_of_le (Heap.lt_size z) F.above) (Nat.not_lt.mpr (Nat.le_of_lt (X.above p.1 p.2 m)))
theorem pw_ne : ∀ {cs : List (Str × Addr)}, cs.Pairwise (fun x y => x.2 ≠ y.2) → ∀ p ∈ cs, ∀ r ∈ cs, p ≠ r → p.2 ≠ r.2
  | [], _, _, m, _, _, _ => nomatch m
  | a :: cs, h, p, mp, r, mr, ne => by
    obtain ⟨h1, h2⟩ := List.pairwise_cons.mp h
    rcases List.mem_cons.mp mp with e1 | mp'
    · rcases List.mem_cons.mp mr with e2 | mr'
      · exact absurd (e1.trans e2.symm) ne
      · rw [e1]; exact h1 _ mr'
    · rcases List.mem_cons.mp mr with e2 | mr'
      · rw [e2]; exact fun z => h1 _ mp' z.symm
      · exact pw_ne h2 p mp' r mr' ne
noncomputable def NSq (X : List Addr) (h : Heap) : Prop := ∀ a ∈ X, ∃ o, h.get? a = some o ∧ ∀ vs n, o.data ≠ .seq vs n
theorem ClF.nsq (X : ClF h₀ cs h lc) (F : FrL h₀ L h l) : NSq (L :: cAd cs) h := fun a m => by
  rcases List.mem_cons.mp m with rfl | m
  · obtain ⟨o', es, n, a', d'⟩ := F.data
    exact ⟨o', a', fun vs n z => by rw [d'] at z; cases z⟩
  · obtain ⟨p, mp, rfl⟩ := List.mem_map.mp m
    obtain ⟨v, o, a, d⟩ := X.all p mp
    exact ⟨o, a, fun vs n z => by rw [d] at z; cases z⟩
theorem NSq.off {X Y : List Addr} (N : NSq X h) {a : Addr} {o : Obj} {vs : Array Value} (x : Of h Y a o) (d : ∃ n, o.data = .seq vs n) : Of h X a o := ⟨x.1, fun m => by
  obtain ⟨o', e, n⟩ := N a m
  obtain ⟨k, d⟩ := d
  have := x.1
  rw [e] at this; cases this; exact n _ _ d⟩
theorem NSq.lst {X Y : List Addr} (N : NSq X h) {a : Addr} {vs : List Value} (x : LstH (Of h Y) a vs) : LstH (Of h X) a vs := let ⟨o, e, c, d⟩ := x; ⟨o, N.off e d, c, d⟩
theorem NSq.tup {X Y : List Addr} (N : NSq X h) {a : Addr} {vs : List Value} (x : TupH (Of h Y) a vs) : TupH (Of h X) a vs := let ⟨o, e, c, d⟩ := x; ⟨o, N.off e d, c, d⟩
theorem NSq.item {X Y : List Addr} (N : NSq X h) {late : Bool} {v : Value} {p : Str × Int} (x : ItemH late (Of h Y) v p) : ItemH late (Of h X) v p := by
  obtain ⟨a, t, u, m, rfl, x, ma, ms, rfl, y, z⟩ := x
  exact ⟨a, t, u, _, rfl, N.tup x, ma, ms, rfl, N.lst y, z⟩
theorem NSq.items {X Y : List Addr} (N : NSq X h) {late : Bool} {v : Value} {ps : List (Str × Int)} (x : ItemsH late (Of h Y) v ps) : ItemsH late (Of h X) v ps := by
  obtain ⟨a, vs, rfl, x, y⟩ := x
  exact ⟨a, vs, rfl, N.lst x, y.mono fun _ _ j => N.item j⟩
end
section
variable {prog : Program} {w : World} {mg mb : Str → Option Value} {A : Around} {E : Value → Shared → Prop} {h₀ h : Heap} {g : Array GenState} {d : Drawn} {t : Nat} {os : OsState} {env : Env} {l lc : List (Str × Value)}
theorem r_storeC {x : Str} {v : Value} {c : Addr} {Q : Unit → Shared → Prop} (F : FrL h₀ env.locals h l) (X : ClF h₀ env.cells h lc) (hc : env.cells.lookup x = some c)
    (q : ∀ h', FrL h₀ env.locals h' l → ClF h₀ env.cells h' ((x, v) :: lc) → Heap.SameBut c h h' → Q () ⟨h', g, d, t, os⟩)
    (hk : env.scope.kind = .function := by with_unfolding_all rfl) (hl : isCe (env.kindOf x) = true := by with_unfolding_all rfl) : wpAny (model prog w) A (storeName env x v) Q E ⟨h, g, d, t, os⟩ := by
  have mc := mem_of_lookup hc
  obtain ⟨v0, hv0⟩ := X.all _ mc
  refine wpAny_storeName_cell hk (isCe_eq hl) hc hv0 fun h' hv' hs => ?_
  have nL : env.locals ∉ [c] := fun m => X.neL F (by rw [List.mem_singleton.mp m]; exact mem_ad hc)
  refine q h' (F.pr (Pr.same (X := [c]) hs (.head _)) nL fun a m => by rw [List.mem_singleton.mp m]; exact X.new _ mc) ⟨fun y z e => ?_, fun p m => ?_, X.ap, X.new⟩ hs
  · rw [List.lookup_cons] at e
    by_cases b : y = x
    · subst b
      rw [beq_self_eq_true] at e
      cases e
      exact ⟨c, hc, hv'⟩
    · have b' : (y == x) = false := by simpa using b
      rw [b'] at e
      obtain ⟨c', e', hc'⟩ := X.cl y z e
      refine ⟨c', e', hc'.sameBut hs fun z => ?_⟩
      have m1 := mem_of_lookup e'
      rw [z] at m1
      by_cases hxy : (y, c) = (x, c)
      · cases hxy; exact b rfl
      · exact pw_ne X.ap _ m1 _ mc hxy rfl
  · by_cases b : p.2 = c
    · rw [b]; exact ⟨_, hv'⟩
    · obtain ⟨v, a⟩ := X.all p m
      exact ⟨v, a.sameBut hs b⟩
end
end

section
section
variable {prog : Program} {w : World} {mg mb : Str → Option Value} {A : Around} {hp h₀ h : Heap} {g : Array GenState} {d : Drawn} {t : Nat} {os : OsState} {env : Env} {l lc : List (Str × Value)} {β : Type}
theorem range_fm {out : Nat → Option β} (i : Nat) : (List.range (i + 1)).filterMap out = (List.range i).filterMap out ++ (out i).toList := by
  rw [List.range_succ, List.filterMap_append]
  cases e : out i with
  | none => simp [e]
  | some b => simp [e]
noncomputable def TurnM (prog : Program) (w : World) (A : Around) (g : Array GenState) (d : Drawn) (os : OsState) (cenv : Env) (ifs : List Expr) (elt : Expr) (Rl : Hp → Value → β → Prop) (o : Option β) (X : List Addr) (h₁ : Heap) (t : Nat) : Prop :=
  wpAny (model prog w) A (forIn ifs true fun c r => if r = true then do let ok ← isTrue c cenv (eval c cenv); pure (ForInStep.yield ok) else pure (ForInStep.yield r))
    (fun ok s₃ => ∃ h₃ t₃, s₃ = ⟨h₃, g, d, t₃, os⟩ ∧ Kp h₁ h₃ ∧ if ok = true then
        wpAny (model prog w) A (eval elt cenv) (fun y s₄ => ∃ h₄ t₄ b, s₄ = ⟨h₄, g, d, t₄, os⟩ ∧ Kp h₃ h₄ ∧ o = some b ∧ Rl (Of h₄ X) y b) NoE ⟨h₃, g, d, t₃, os⟩
      else o = none) NoE ⟨h₁, g, d, t, os⟩
theorem compM {elt iter : Expr} {x : Str} {px : Pos} {ifs : List Expr} {scope : Scope} {cl : List (Str × Addr)} {pos : Pos} {I : Addr} {src : List Addr} {n : Nat} {P : Nat → Value → Prop} {St : Nat → Heap → Prop} {RR : Value → Addr → Result → Shared → Prop}
    (Rl : Hp → Value → β → Prop) (out : Nat → Option β) (mono : ∀ H H' v b, Le H H' → Rl H v b → Rl H' v b)
    (it : ItOn prog w A hp h I src n P St) (hn : n ≤ 1000000) (F : FrL h₀ env.locals hp l)
    (turn : ∀ D C i v h₁ t, hp.get? D = none → hp.get? C = none → i < n → P i v → FrL h₀ C h₁ [(x, v)] → Pr [C, D, I] hp h₁ → Kp hp h₁ → (∃ o, h₁.get? D = some o) → St (i + 1) h₁ → TurnM prog w A g d os (compEnvC scope cl C env) ifs elt Rl (out i) [C, D, I] h₁ t)
    (fin : ∀ D C ys h' t c, hp.get? D = none → hp.get? C = none → D ≠ C → Kp hp h' → h'.get? D = some (listOf ys.toArray c) → All2 (Rl (Of h' [C, D, I])) ys ((List.range n).filterMap out) → FrL h₀ C h' [] → FrL h₀ env.locals h' l → RR (.ref D) C (.ok .next) ⟨h', g, d, t, os⟩)
    (hcell : ∀ y ∈ scope.names, y.2 ≠ .cell) (hkind : scope.kind = .function) (hx : scope.names.lookup x = some .local) :
    wpAny (model prog w) A (newList []) (fun acc s₃ => wpAny (model prog w) A (newFunctionEnv scope env.globals cl [] env.qual none .none (some env)) (fun cenv s₄ =>
      codeAny (model prog w) A (.compStart (.ListComp elt [⟨.Name x px, iter, ifs, 0⟩] scope pos) 0 (.ref I) acc { cenv with scope := relabel scope env }) (RR acc cenv.locals) s₄) NoE s₃) NoE ⟨h, g, d, t, os⟩ := by
  have nI0 : h₀.get? I = none := none_of it.new F.keep
  have kpr : ∀ {D C : Addr} {h' : Heap}, h.get? D = none → h.get? C = none → Pr [C, D, I] h h' → Kp hp h' := fun nD nC p b o e => p b o (it.kp b o e) fun m => by
    rcases List.mem_cons.mp m with rfl | m
    · rw [it.kp _ _ e] at nC; cases nC
    rcases List.mem_cons.mp m with rfl | m
    · rw [it.kp _ _ e] at nD; cases nD
    · rw [List.mem_singleton.mp m, it.new] at e; cases e
  have hpr : ∀ {D C : Addr} {h' : Heap}, Pr [C, D, I] h h' → Pr [C, D, I] hp h' := fun p b o e n => p b o (it.kp b o e) n
  refine comp_block (h₀ := h₀) (h := h) it.W it.st it.lt (fun b hb => by rw [List.mem_singleton.mp hb]; exact nI0) hn (F.kp it.kp) (fun D C i ys h' => Pr [C, D, I] h h' ∧ All2 (Rl (Of h' [C, D, I])) ys ((List.range i).filterMap out)) ?_ ?_ ?_ hcell hkind hx
  · intro D C h' _ _ _ k
    exact ⟨k.pr _, .nil⟩
  · rintro D C i v ys h' h₁ t nD nC hDC hi hP ⟨p, ay⟩ F₁ p₁ eD st
    have P₁ : Pr [C, D, I] h h₁ := p.trans (p₁.mono (by simp))
    have ay₁ : All2 (Rl (Of h₁ [C, D, I])) ys ((List.range i).filterMap out) := ay.mono fun _ _ r => mono _ _ _ _ (p₁.le (by simp)) r
    refine wpAny_mono (turn D C i v h₁ t (none_of nD it.kp) (none_of nC it.kp) hi hP F₁ (hpr P₁) (kpr nD nC P₁) eD st) (fun ok s₃ z => ?_) fun _ _ f => f
    obtain ⟨h₃, t₃, rfl, k₃, z⟩ := z
    refine ⟨h₃, t₃, rfl, k₃, ?_⟩
    cases ok with
    | false =>
      simp only [Bool.false_eq_true, if_false] at z ⊢
      refine ⟨P₁.trans (k₃.pr _), ?_⟩
      rw [range_fm, z]
      simp only [Option.toList_none, List.append_nil]
      exact ay₁.mono fun _ _ r => mono _ _ _ _ (k₃.le _) r
    | true =>
      simp only [if_true] at z ⊢
      refine wpAny_mono z (fun y s₄ z => ?_) fun _ _ f => f
      obtain ⟨h₄, t₄, b, rfl, k₄, eo, r⟩ := z
      refine ⟨h₄, t₄, rfl, k₄, fun h₅ hs => ?_⟩
      have s5 : Pr [C, D, I] h₄ h₅ := Pr.same hs (by simp)
      refine ⟨((P₁.trans (k₃.pr _)).trans (k₄.pr _)).trans s5, ?_⟩
      rw [range_fm, eo]
      refine All2.append (ay₁.mono fun _ _ r => mono _ _ _ _ (((k₃.trans k₄).le _).trans (s5.le fun _ m => m)) r) (.cons (mono _ _ _ _ (s5.le fun _ m => m) r) .nil)
  · rintro D C ys h₁ h' t c nD nC hDC ⟨p, ay⟩ p₁ eD FC
    have P₁ : Pr [C, D, I] h h' := p.trans (p₁.mono (by simp))
    have kk := kpr nD nC P₁
    exact fin D C ys h' t c (none_of nD it.kp) (none_of nC it.kp) hDC kk eD (ay.mono fun _ _ r => mono _ _ _ _ (p₁.le (by simp)) r) FC (F.kp kk)
theorem compE {elt iter : Expr} {x : Str} {px : Pos} {ifs : List Expr} {scope : Scope} {cl : List (Str × Addr)} {pos : Pos} {I : Addr} {src : List Addr} {n : Nat} {P : Nat → Value → Prop} {St : Nat → Heap → Prop} {Q : Value → Shared → Prop}
    (Rl : Hp → Value → β → Prop) (out : Nat → Option β) (mono : ∀ H H' v b, Le H H' → Rl H v b → Rl H' v b)
    (it : ItOn prog w A hp h I src n P St) (hn : n ≤ 1000000) (F : FrL h₀ env.locals hp l)
    (turn : ∀ D C i v h₁ t, hp.get? D = none → hp.get? C = none → i < n → P i v → FrL h₀ C h₁ [(x, v)] → Pr [C, D, I] hp h₁ → Kp hp h₁ → (∃ o, h₁.get? D = some o) → St (i + 1) h₁ → TurnM prog w A g d os (compEnvC scope cl C env) ifs elt Rl (out i) [C, D, I] h₁ t)
    (q : ∀ D ys h' t c, hp.get? D = none → Kp hp h' → h'.get? D = some (listOf ys.toArray c) → All2 (Rl (Of h' [])) ys ((List.range n).filterMap out) → Q (.ref D) ⟨h', g, d, t, os⟩)
    (hcell : ∀ y ∈ scope.names, y.2 ≠ .cell) (hkind : scope.kind = .function) (hx : scope.names.lookup x = some .local) :
    wpAny (model prog w) A (newList []) (fun acc s₃ => wpAny (model prog w) A (newFunctionEnv scope env.globals cl [] env.qual none .none (some env)) (fun cenv s₄ =>
      codeAny (model prog w) A (.compStart (.ListComp elt [⟨.Name x px, iter, ifs, 0⟩] scope pos) 0 (.ref I) acc { cenv with scope := relabel scope env }) (compPost (model prog w) A NoE none Q acc cenv.locals) s₄) NoE s₃) NoE ⟨h, g, d, t, os⟩ := by
  refine compM Rl out mono it hn F turn ?_ hcell hkind hx
  intro D C ys h' t c nD nC hDC kk eD ay FC F'
  refine compEnd FC fun h'' hs => ?_
  have P := Pr.same (X := [C, D, I]) hs (.head _)
  refine q D ys h'' t c nD (fun b o e => (hs.2 b fun z => by rw [z, nC] at e; cases e).trans (kk b o e)) ((hs.2 D hDC).trans eD) (ay.mono fun _ _ r => mono _ _ _ _ ((P.le fun _ m => m).trans fun b o e => ⟨e.1, fun m => nomatch m⟩) r)
noncomputable def OffK (Rl : Hp → Value → β → Prop) : Prop := ∀ h a X v b, (∃ o, h.get? a = some o ∧ ∀ vs n, o.data ≠ .seq vs n) → Rl (Of h X) v b → Rl (Of h (a :: X)) v b
theorem compS {elt iter : Expr} {x y : Str} {px py : Pos} {ifs : List Expr} {scope : Scope} {cl : List (Str × Addr)} {pos : Pos} {I : Addr} {src : List Addr} {n : Nat} {P : Nat → Value → Prop} {St : Nat → Heap → Prop} {Q : Value → Shared → Prop}
    (Rl : Hp → Value → β → Prop) (out : Nat → Option β) (mono : ∀ H H' v b, Le H H' → Rl H v b → Rl H' v b)
    (it : ItOn prog w A hp h I src n P St) (hn : n ≤ 1000000) (F : FrL h₀ env.locals hp l)
    (turn : ∀ D C i v h₁ t, hp.get? D = none → hp.get? C = none → i < n → P i v → FrL h₀ C h₁ [(x, v)] → Pr [C, D, I] hp h₁ → Kp hp h₁ → (∃ o, h₁.get? D = some o) → St (i + 1) h₁ → TurnM prog w A g d os (compEnvC scope cl C env) ifs elt Rl (out i) [C, D, I] h₁ t)
    (q : ∀ D ys h' t c, hp.get? D = none → D ≠ env.locals → Pr [env.locals] hp h' → FrL h₀ env.locals h' ((y, .ref D) :: l) → h'.get? D = some (listOf ys.toArray c) → All2 (Rl (Of h' [env.locals])) ys ((List.range n).filterMap out) → Q .none ⟨h', g, d, t, os⟩)
    (off : OffK Rl)
    (hcell : ∀ y ∈ scope.names, y.2 ≠ .cell) (hkind : scope.kind = .function) (hx : scope.names.lookup x = some .local) (hk : env.scope.kind = .function := by with_unfolding_all rfl) (hl : isLoc (env.kindOf y) = true := by with_unfolding_all rfl) :
    wpAny (model prog w) A (newList []) (fun acc s₃ => wpAny (model prog w) A (newFunctionEnv scope env.globals cl [] env.qual none .none (some env)) (fun cenv s₄ =>
      codeAny (model prog w) A (.compStart (.ListComp elt [⟨.Name x px, iter, ifs, 0⟩] scope pos) 0 (.ref I) acc { cenv with scope := relabel scope env }) (compPost (model prog w) A NoE (some (assign (.Name y py) env)) Q acc cenv.locals) s₄) NoE s₃) NoE ⟨h, g, d, t, os⟩ := by
  refine compM Rl out mono it hn F turn ?_ hcell hkind hx
  intro D C ys h' t c nD nC hDC kk eD ay FC F'
  have nCL : C ≠ env.locals := F.ne nC
  have nDL : D ≠ env.locals := F.ne nD
  refine compEndA FC F' nCL (fun h'' t'' F'' p => ?_) hk hl
  refine q D ys h'' t'' c nD nDL (fun b o e n => p b o (kk b o e) fun m => ?_) F'' (p _ _ eD fun m => ?_) (ay.mono fun _ _ r => ?_)
  · rcases List.mem_cons.mp m with rfl | m
    · rw [nC] at e; cases e
    · exact n m
  · rcases List.mem_cons.mp m with z | m
    · exact hDC z
    · exact nDL (List.mem_singleton.mp m)
  · have r1 := off h' env.locals [C, D, I] _ _ (let ⟨o, es, n, e, dd⟩ := F'.data; ⟨o, e, fun vs n z => by rw [dd] at z; cases z⟩) r
    refine mono _ _ _ _ (fun b o e => ⟨p b o e.1 fun m => ?_, fun m => e.2 (by rw [List.mem_singleton.mp m]; exact .head _)⟩) r1
    rcases List.mem_cons.mp m with rfl | m
    · exact e.2 (.tail _ (.head _))
    · exact e.2 (by rw [List.mem_singleton.mp m]; exact .head _)
theorem compC {elt iter : Expr} {x y : Str} {px py : Pos} {ifs : List Expr} {scope : Scope} {cl : List (Str × Addr)} {pos : Pos} {I cy : Addr} {src : List Addr} {n : Nat} {P : Nat → Value → Prop} {St : Nat → Heap → Prop} {Q : Value → Shared → Prop}
    (Rl : Hp → Value → β → Prop) (out : Nat → Option β) (mono : ∀ H H' v b, Le H H' → Rl H v b → Rl H' v b)
    (it : ItOn prog w A hp h I src n P St) (hn : n ≤ 1000000) (F : FrL h₀ env.locals hp l) (X : ClF h₀ env.cells hp lc) (hc : env.cells.lookup y = some cy)
    (turn : ∀ D C i v h₁ t, hp.get? D = none → hp.get? C = none → i < n → P i v → FrL h₀ C h₁ [(x, v)] → Pr [C, D, I] hp h₁ → Kp hp h₁ → (∃ o, h₁.get? D = some o) → St (i + 1) h₁ → TurnM prog w A g d os (compEnvC scope cl C env) ifs elt Rl (out i) [C, D, I] h₁ t)
    (q : ∀ D ys h' t c, hp.get? D = none → Pr [cy] hp h' → FrL h₀ env.locals h' l → ClF h₀ env.cells h' ((y, .ref D) :: lc) → h'.get? D = some (listOf ys.toArray c) → All2 (Rl (Of h' [cy])) ys ((List.range n).filterMap out) → Q .none ⟨h', g, d, t, os⟩)
    (off : OffK Rl)
    (hcell : ∀ y ∈ scope.names, y.2 ≠ .cell) (hkind : scope.kind = .function) (hx : scope.names.lookup x = some .local) (hk : env.scope.kind = .function := by with_unfolding_all rfl) (hl : isCe (env.kindOf y) = true := by with_unfolding_all rfl) :
    wpAny (model prog w) A (newList []) (fun acc s₃ => wpAny (model prog w) A (newFunctionEnv scope env.globals cl [] env.qual none .none (some env)) (fun cenv s₄ =>
      codeAny (model prog w) A (.compStart (.ListComp elt [⟨.Name x px, iter, ifs, 0⟩] scope pos) 0 (.ref I) acc { cenv with scope := relabel scope env }) (compPost (model prog w) A NoE (some (assign (.Name y py) env)) Q acc cenv.locals) s₄) NoE s₃) NoE ⟨h, g, d, t, os⟩ := by
  refine compM Rl out mono it hn F turn ?_ hcell hkind hx
  intro D C ys h' t c nD nC hDC kk eD ay FC F'
  have X' := X.kp kk
  have mc : cy ∈ cAd env.cells := mem_ad hc
  obtain ⟨v0, oc, ec, dc⟩ := X.all _ (mem_of_lookup hc)
  have nCc : C ≠ cy := fun z => by rw [z, ec] at nC; cases nC
  have nDc : D ≠ cy := fun z => by rw [z, ec] at nD; cases nD
  refine wpAny_assign_Name (r_storeC F' X' hc (fun h₂ F₂ X₂ hs => ?_) hk hl)
  obtain ⟨m, FC', _⟩ := FC.ex
  refine ⟨m, FC'.ns.sameBut hs nCc, fun h₃ hs₃ => ?_⟩
  have nCb : h₀.get? C = none := none_of nC F.keep
  have nCL : C ≠ env.locals := F.ne nC
  have p : Pr [C, cy] h' h₃ := (Pr.same hs (by simp)).trans (Pr.same hs₃ (by simp))
  refine q D ys h₃ t c nD (fun b o e n => p b o (kk b o e) fun m => ?_) (F₂.pr (X := [C]) (Pr.same hs₃ (.head _)) (fun m => nCL (List.mem_singleton.mp m).symm) fun a m => by rw [List.mem_singleton.mp m]; exact nCb) (X₂.pr (Y := [C]) (Pr.same hs₃ (.head _)) fun a m z => ?_) (p _ _ eD fun m => ?_) (ay.mono fun _ _ r => ?_)
  · rcases List.mem_cons.mp m with rfl | m
    · rw [nC] at e; cases e
    · exact n m
  · rw [List.mem_singleton.mp z] at m
    obtain ⟨pp, mp, ep⟩ := List.mem_map.mp m
    obtain ⟨v, o, e, _⟩ := X.all pp mp
    rw [ep, nC] at e; cases e
  · rcases List.mem_cons.mp m with z | m
    · exact hDC z
    · exact nDc (List.mem_singleton.mp m)
  · have r1 := off h' cy [C, D, I] _ _ ⟨oc, kk _ _ ec, fun vs n z => by rw [dc] at z; cases z⟩ r
    refine mono _ _ _ _ (fun b o e => ⟨p b o e.1 fun m => ?_, fun m => e.2 (by rw [List.mem_singleton.mp m]; exact .head _)⟩) r1
    rcases List.mem_cons.mp m with rfl | m
    · exact e.2 (.tail _ (.head _))
    · exact e.2 (by rw [List.mem_singleton.mp m]; exact .head _)
end
theorem strM (H H' : Hp) (v : Value) (b : Str) (_ : Le H H') (x : StrV v b) : StrV v b := x
theorem strO : OffK (fun _ => StrV) := fun _ _ _ _ _ _ x => x
theorem offSeq {h : Heap} {a b : Addr} {X : List Addr} {o : Obj} {vs : Array Value} (n : ∃ o, h.get? a = some o ∧ ∀ vs n, o.data ≠ .seq vs n) (x : Of h X b o) (d : ∃ n, o.data = .seq vs n) : Of h (a :: X) b o := ⟨x.1, fun m => by
  rcases List.mem_cons.mp m with z | m
  · obtain ⟨o', e, n⟩ := n
    obtain ⟨k, d⟩ := d
    have := x.1
    rw [z, e] at this; cases this; exact n _ _ d
  · exact x.2 m⟩
theorem itemO {late : Bool} : OffK (ItemH late) := fun h a X v b n x => by
  obtain ⟨c, t, u, m, rfl, ⟨o, x, k, d⟩, ma, ms, rfl, ⟨o', y, k', d'⟩, z⟩ := x
  exact ⟨c, t, u, _, rfl, ⟨o, offSeq n x d, k, d⟩, ma, ms, rfl, ⟨o', offSeq n y d', k', d'⟩, z⟩
theorem itemM {late : Bool} (H H' : Hp) (v : Value) (b : Str × Int) (k : Le H H') (x : ItemH late H v b) : ItemH late H' v b := x.le k
end

section
noncomputable def StrsH (H : Hp) (v : Value) (xs : List Str) : Prop := ∃ a vs, v = .ref a ∧ LstH H a vs ∧ All2 StrV vs xs
theorem StrsH.le {H H' : Hp} {v : Value} {xs : List Str} (x : StrsH H v xs) (k : Le H H') : StrsH H' v xs := let ⟨a, vs, e, l, r⟩ := x; ⟨a, vs, e, l.le k, r⟩
noncomputable def lackB (late : Bool) (xs ys : List Str) (k : Nat) : Option Str := match xs[k]? with
  | none => none
  | some x => if !ys.contains x && ((ys.filter fun n => aheadL x.cps.toList n.cps.toList late).isEmpty || k == 0 || xs[k - 1]? != some x) then some x else none
noncomputable def lacksF (late : Bool) (xs ys : List Str) : List Str := (List.range xs.length).filterMap (lackB late xs ys)
section
variable {prog : Program} {w : World} {mg mb : Str → Option Value} {A : Around}
noncomputable def eqS (x : Str) (v : Value) : Bool := match v with
  | .str z _ => z == x
  | _ => false
theorem any_eqS {vs : List Value} {xs : List Str} (h : All2 StrV vs xs) (x : Str) : vs.any (eqS x) = xs.contains x := by
  induction h with
  | nil => rfl
  | cons p _ ih =>
    obtain ⟨t, rfl⟩ := p
    rw [List.any_cons, List.contains_cons, ih]
    show (_ == x || _) = _
    rw [show (x == _) = (_ == x) from BEq.comm]
theorem r_notInS {E : Value → Shared → Prop} {s : Shared} {a : Addr} {vs : List Value} {xs : List Str} {x : Str} {tx : Tok} {Q : Value → Shared → Prop} (hl : s.heap.IsList a vs.toArray) (hv : All2 StrV vs xs) (q : Q (.bool (!xs.contains x)) s) :
    wpAny (model prog w) A (compareOp .NotIn (.str x tx) (.ref a)) Q E s := by
  refine PySem.SeqAt.notIn_listAt (eqS x) hl (fun y m => ?_) (by rw [show vs.toArray.any (eqS x) = vs.any (eqS x) from List.any_toArray .., any_eqS hv]; exact q)
  have m' : y ∈ vs := by simpa using m
  obtain ⟨i, hi⟩ := List.getElem?_of_mem m'
  obtain ⟨b, _, t, rfl⟩ := hv.get' hi
  exact PySem.SeqAt.EqAt.str_str b t x tx
theorem r_eqNil {E : Value → Shared → Prop} {s : Shared} {l b : Addr} {vs : List Value} {Q : Value → Shared → Prop} (hl : s.heap.IsList l vs.toArray) (hb : s.heap.IsList b #[]) (hu : A.units < cLine) (q : Q (.bool vs.isEmpty) s) :
    wpAny (model prog w) A (compareOp .Eq (.ref l) (.ref b)) Q E s := by
  cases vs with
  | nil => exact rc_lists (vs := []) (ws := []) hl hb hu .nil prog w E Q q
  | cons v vs => exact PySem.SeqAt.eq_list_lengthsAt hl hb (by simp) hu q
theorem TurnM.one {β : Type} {g : Array GenState} {d : Drawn} {os : OsState} {cenv : Env} {c elt : Expr} {Rl : Hp → Value → β → Prop} {o : Option β} {X : List Addr} {h₁ : Heap} {t : Nat}
    (z : wpAny (model prog w) A (isTrue c cenv (eval c cenv)) (fun ok s₃ => ∃ h₃ t₃, s₃ = ⟨h₃, g, d, t₃, os⟩ ∧ Kp h₁ h₃ ∧ if ok = true then
        wpAny (model prog w) A (eval elt cenv) (fun y s₄ => ∃ h₄ t₄ b, s₄ = ⟨h₄, g, d, t₄, os⟩ ∧ Kp h₃ h₄ ∧ o = some b ∧ Rl (Of h₄ X) y b) NoE ⟨h₃, g, d, t₃, os⟩
      else o = none) NoE ⟨h₁, g, d, t, os⟩) : TurnM prog w A g d os cenv [c] elt Rl o X h₁ t := by
  unfold TurnM
  rw [List.forIn_cons]
  refine wpAny_bind ?_
  rw [if_pos rfl]
  refine wpAny_bind (wpAny_mono z (fun ok s₃ z => wpAny_pure ?_) fun _ _ f => f)
  dsimp only
  rw [List.forIn_nil]
  exact wpAny_pure z
theorem range_filter (ys : List Str) (p : Str → Bool) : (List.range ys.length).filterMap (fun j => match ys[j]? with | some n => if p n then some n else none | none => none) = ys.filter p := by
  have h : ∀ k, k ≤ ys.length → (List.range k).filterMap (fun j => match ys[j]? with | some n => if p n then some n else none | none => none) = (ys.take k).filter p := by
    intro k
    induction k with
    | zero => intro _; rfl
    | succ k ih =>
      intro hk
      have e : ys[k]? = some ys[k] := List.getElem?_eq_getElem (by lia)
      rw [range_fm, ih (by lia), List.take_add_one, List.filter_append, e]
      congr 1
      dsimp only
      by_cases c : p ys[k] = true
      · simp [c]
      · simp [c]
  rw [h _ (Nat.le_refl _), List.take_length]
theorem lacks_ok {xv yv : Value} {late : Bool} {xs ys : List Str} {s : Shared} {R : Value → Shared → Prop} (G : Gd w mg mb s.heap) (a : Ar A 2) (hx : StrsH (Of s.heap []) xv xs) (hy : StrsH (Of s.heap []) yv ys) (lx : xs.length ≤ 1000) (ly : ys.length ≤ 1000) (zx : ∀ x ∈ xs, x.length ≤ 1000) (zy : ∀ x ∈ ys, x.length ≤ 1000)
    (q : ∀ v h' t', Kp s.heap h' → StrsH (Of h' []) v (lacksF late xs ys) → R v ⟨h', s.gens, s.drawn, t', s.os⟩) :
    codeAny (model prog w) A (.call (.ref 149) ⟨[xv, yv, .bool late], []⟩) (RetR R) s := by
  refine enterC [(Str.ofString "mine", xv), (Str.ofString "yours", yv), (Str.ofString "late", .bool late)] [(Str.ofString "yours", yv)] G a.d0 (by k_is) (by k_is) rfl rfl ⟨rfl, trivial⟩ ?_
  intro env h₁ t₁ F Cl0
  have a1 : Ar (A.deeper env) 1 := a.deeper
  have X : ClF s.heap env.cells h₁ [(Str.ofString "mine", xv), (Str.ofString "late", .bool late)] := ClF.of Cl0 F ⟨rfl, rfl, trivial⟩ (by show [Str.ofString "k", Str.ofString "late", Str.ofString "mine"].Nodup; decide) rfl
  obtain ⟨xa, vs, rfl, xl, xi⟩ := hx
  obtain ⟨ya, ws, rfl, yl, yi⟩ := hy
  walk_at "xs"
  refine r_newList (by simp) fun D h₂ k₂ nD eD => ?_
  refine r_store (F.kp k₂) ?_ (by with_unfolding_all rfl) (by with_unfolding_all rfl)
  intro h₃ t₃ F₃ s₃
  have X₃ := (X.kp k₂).loc (F.kp k₂) s₃
  have eD₃ : h₃.get? D = some (listOf ([] : List Value).toArray 0) := (s₃.2 D (F.ne nD)).trans eD
  have nD0 : s.heap.get? D = none := none_of nD F.keep
  have nDX : D ∉ env.locals :: cAd env.cells := fun m => by
    obtain ⟨o, e, n⟩ := X₃.nsq F₃ D m
    rw [eD₃] at e; cases e; exact n _ _ rfl
  obtain ⟨ck, hck⟩ : ∃ c, env.cells.lookup (Str.ofString "k") = some c := ⟨_, rfl⟩
  have xl₃ : h₃.IsList xa vs.toArray := let ⟨o, e, r⟩ := xl; ⟨o, F₃.keep _ _ e.1, r⟩
  refine s_forG ?_
  refine r_call ?_ (by with_unfolding_all rfl)
  walk_at "xs"
  refine r_callT ?_
  refine r_args ?_ (by with_unfolding_all rfl)
  have C₃ := X₃.cl
  walk_at "xs"
  refine r_len_list xl₃ (by rw [xi.length]; lia) fun u₄ t₄ => ?_
  walk_at "xs"
  refine r_rangeS (n := xs.length) a1.hd (by rw [xi.length]) (by lia) fun I h₅ t₅ St it hit => ?_
  have nI0 : s.heap.get? I = none := none_of it.new F₃.keep
  have nIX : I ∉ env.locals :: cAd env.cells := fun m => by
    obtain ⟨o, e, n⟩ := X₃.nsq F₃ I m
    rw [it.new] at e; cases e
  have nID : I ≠ D := fun z => by have := it.new; rw [z, eD₃] at this; cases this
  refine forG it.W it.st ?_ ?_ [D, ck] ?_ (fun i l h => SubL l [(Str.ofString "got", .ref D), (Str.ofString "yours", .ref ya)] ∧ ClF s.heap env.cells h [(Str.ofString "mine", .ref xa), (Str.ofString "late", .bool late)] ∧ ∃ gs c, h.get? D = some (listOf gs.toArray c) ∧ All2 StrV gs ((List.range i).filterMap (lackB late xs ys))) (F₃.kp it.kp) ⟨⟨rfl, rfl, trivial⟩, X₃.kp it.kp, [], 0, it.kp _ _ eD₃, .nil⟩ ?_ ?_ ?_
  · intro m; rw [List.mem_singleton] at m; exact nIX (m ▸ .head _)
  · intro b m; rw [List.mem_singleton.mp m]; exact nI0
  · intro b m hb
    rw [List.mem_singleton.mp hb] at m
    rcases List.mem_cons.mp m with z | m
    · exact nID z
    · exact nIX (.tail _ (by rw [List.mem_singleton.mp m]; exact mem_ad hck))
  · rintro i v l h h₆ t₆ hi ⟨u, rfl⟩ ⟨sl, X₅, gs, c, eg, ag⟩ F₆ p₆ st₆
    have X₆ := X₅.pr p₆ fun a m z => nIX (.tail _ (by rw [List.mem_singleton.mp z] at m; exact m))
    have eg₆ := p₆ _ _ eg fun m => nID (List.mem_singleton.mp m).symm
    refine wpAny_assign_Name (r_storeC F₆ X₆ hck (fun h₇ F₇' X₇ s₇ => ?_) (by with_unfolding_all rfl) (by with_unfolding_all rfl))
    have F₇ : FrL s.heap env.locals h₇ [(Str.ofString "got", .ref D), (Str.ofString "yours", .ref ya)] := F₇'.sub sl
    have nDk : D ≠ ck := fun z => nDX (.tail _ (z ▸ mem_ad hck))
    have eg₇ := (s₇.2 D nDk).trans eg₆
    have xl₇ : h₇.IsList xa vs.toArray := let ⟨o, e, r⟩ := xl; ⟨o, F₇.keep _ _ e.1, r⟩
    have yl₇ : h₇.IsList ya ws.toArray := let ⟨o, e, r⟩ := yl; ⟨o, F₇.keep _ _ e.1, r⟩
    have C₇ := X₇.cl
    clear F₇' F₆ F₃ C₃ F
    obtain ⟨x, ex⟩ : ∃ z, xs[i]? = some z := ⟨_, List.getElem?_eq_getElem hi⟩
    obtain ⟨_, ev, tx, rfl⟩ := xi.get ex
    walk_at "xs"
    refine r_itemX rfl xl₇ ev (by lia) ?_ (by with_unfolding_all rfl)
    walk_at "xs"
    refine r_notInS yl₇ yi ?_
    walk_at "xs"
    have key : ∀ (b : Bool), (b = (!ys.contains x && ((ys.filter fun n => aheadL x.cps.toList n.cps.toList late).isEmpty || i == 0 || xs[i - 1]? != some x))) → lackB late xs ys i = if b then some x else none := by
      intro b hb; unfold lackB; rw [ex, hb]
    have XD : ∀ {h'}, ClF s.heap env.cells h' [(Str.ofString "k", .int (i : Nat) u), (Str.ofString "mine", .ref xa), (Str.ofString "late", .bool late)] → ClF s.heap env.cells h' [(Str.ofString "mine", .ref xa), (Str.ofString "late", .bool late)] := fun X => ⟨X.cl.sub ⟨⟨rfl, rfl⟩, ⟨rfl, rfl⟩, trivial⟩, X.all, X.ap, X.new⟩
    have nDL : D ≠ env.locals := fun z => nDX (z ▸ .head _)
    have skip : lackB late xs ys i = none → ∃ l', FrL s.heap env.locals h₇ l' ∧ Pr (env.locals :: [D, ck]) h₆ h₇ ∧ SubL l' [(Str.ofString "got", .ref D), (Str.ofString "yours", .ref ya)] ∧ ClF s.heap env.cells h₇ [(Str.ofString "mine", .ref xa), (Str.ofString "late", .bool late)] ∧ ∃ gs c, h₇.get? D = some (listOf gs.toArray c) ∧ All2 StrV gs ((List.range (i + 1)).filterMap (lackB late xs ys)) := fun e => by
      refine ⟨_, F₇, Pr.same s₇ (by simp), ⟨rfl, rfl, trivial⟩, XD X₇, gs, c, eg₇, ?_⟩
      rw [range_fm, e]; simpa using ag
    refine ite_b (fun c1 => ?_) fun c1 => ?_
    · walk_at "xs"
      refine r_comp (cl := _) (by with_unfolding_all rfl) ?_
      walk_at "xs"
      refine r_iterList a1.hd yl₇ fun J h₈ St₈ it₈ => ?_
      refine compE (β := Str) (fun _ => StrV) (fun j => match ys[j]? with | some n => if aheadL x.cps.toList n.cps.toList late then some n else none | none => none) strM it₈ (by rw [yi.length]; lia) F₇ ?_ ?_ (by decide) rfl rfl
      · rintro D' C j v h₉ t₉ nD' nC hj hv F₉ P₉ K₉ _ _
        obtain ⟨n, en, tn, rfl⟩ := yi.get' hv
        have C₉ : Cls [(Str.ofString "mine", s.heap.objs.size + 1), (Str.ofString "late", s.heap.objs.size + 1 + 1), (Str.ofString "k", s.heap.objs.size + 1 + 1 + 1)] h₉ [(Str.ofString "k", .int (i : Nat) u), (Str.ofString "mine", .ref xa), (Str.ofString "late", .bool late)] := (C₇.kp K₉).sub ⟨⟨rfl, rfl⟩, ⟨rfl, rfl⟩, ⟨rfl, rfl⟩, trivial⟩
        have xl₉ : h₉.IsList xa vs.toArray := let ⟨o, e, r⟩ := xl₇; ⟨o, K₉ _ _ e, r⟩
        refine TurnM.one ?_
        walk_at "xs"
        refine r_itemX rfl xl₉ ev (by lia) ?_ (by with_unfolding_all rfl)
        walk_at "xs"
        have hxz := zx x (List.mem_of_getElem? ex)
        have hnz := zy n (List.mem_of_getElem? en)
        refine ⟨G.keeps F₉.keep, r_con (ahead_ok (G.keeps F₉.keep) a1 (by lia) (by lia) fun h₁₀ t₁₀ k₁₀ => ?_)⟩
        have F₁₀ := F₉.kp k₁₀
        clear F₉
        walk_at "xs"
        refine ⟨h₁₀, t₁₀, rfl, k₁₀, ?_⟩
        rw [en]
        dsimp only
        refine ite_b (fun e => ?_) fun e => ?_
        · walk_at "xs"
          refine ⟨h₁₀, _, n, rfl, Kp.refl _, by rw [e]; rfl, tn, rfl⟩
        · rw [e]; rfl
      · intro B bs h₉ t₉ c₉ nB k₉ eB ab
        have F₉ := F₇.kp k₉
        have X₉ := X₇.kp k₉
        have C₉ := X₉.cl
        have eg₉ := k₉ _ _ eg₇
        have eb : bs.isEmpty = (ys.filter fun n => aheadL x.cps.toList n.cps.toList late).isEmpty := by
          have h1 := ab.length
          have h2 : (List.range ws.length).filterMap (fun j => match ys[j]? with | some n => if aheadL x.cps.toList n.cps.toList late then some n else none | none => none) = ys.filter fun n => aheadL x.cps.toList n.cps.toList late := by
            rw [yi.length]; exact range_filter ys _
          rw [h2] at h1
          rw [Bool.eq_iff_iff, List.isEmpty_iff_length_eq_zero, List.isEmpty_iff_length_eq_zero, h1]
        clear F₇ C₇
        walk_at "xs"
        refine r_newList (by simp) fun Z h₁₀ k₁₀ nZ eZ => ?_
        refine r_eqNil (listOf_is (k₁₀ _ _ eB)) (listOf_is (vs := []) eZ) (by have := a1.un; lia) ?_
        refine r_store (F₉.kp k₁₀) ?_ (by with_unfolding_all rfl) (by with_unfolding_all rfl)
        intro h₁₁ t₁₁ F₁₁ s₁₁
        have X₁₁ := (X₉.kp k₁₀).loc (F₉.kp k₁₀) s₁₁
        have C₁₁ := X₁₁.cl
        have eg₁₁ := (s₁₁.2 D nDL).trans (k₁₀ _ _ eg₉)
        have P₁₁ : Pr (env.locals :: [D, ck]) h₆ h₁₁ := (((Pr.same s₇ (by simp)).trans (k₉.pr _)).trans (k₁₀.pr _)).trans (Pr.same s₁₁ (by simp))
        clear F₉ C₉
        have lg : gs.length ≤ i := by rw [ag.length]; exact Nat.le_trans (List.length_filterMap_le ..) (by simp)
        have xl₁₁ : h₁₁.IsList xa vs.toArray := let ⟨o, e, r⟩ := xl; ⟨o, F₁₁.keep _ _ e.1, r⟩
        have addF : ∀ h' c', Heap.SameBut D h₁₁ h' → h'.get? D = some (listOf (gs ++ [Value.str x tx]).toArray c') → lackB late xs ys i = some x → ∃ l', FrL s.heap env.locals h' l' ∧ Pr (env.locals :: [D, ck]) h₆ h' ∧ SubL l' [(Str.ofString "got", .ref D), (Str.ofString "yours", .ref ya)] ∧ ClF s.heap env.cells h' [(Str.ofString "mine", .ref xa), (Str.ofString "late", .bool late)] ∧ ∃ gs c, h'.get? D = some (listOf gs.toArray c) ∧ All2 StrV gs ((List.range (i + 1)).filterMap (lackB late xs ys)) := by
          intro h' c' hs e' lk
          refine ⟨_, F₁₁.pr (X := [D]) (Pr.same hs (.head _)) (fun m => nDL (List.mem_singleton.mp m).symm) (fun a m => by rw [List.mem_singleton.mp m]; exact nD0), P₁₁.trans (Pr.same hs (by simp)), ⟨rfl, rfl, trivial⟩, XD (X₁₁.pr (Pr.same (X := [D]) hs (.head _)) fun a m z => nDX (.tail _ (by rw [List.mem_singleton.mp z] at m; exact m))), _, c', e', ?_⟩
          rw [range_fm, lk]; exact ag.append (.cons ⟨tx, rfl⟩ .nil)
        have skip' : lackB late xs ys i = none → ∃ l', FrL s.heap env.locals h₁₁ l' ∧ Pr (env.locals :: [D, ck]) h₆ h₁₁ ∧ SubL l' [(Str.ofString "got", .ref D), (Str.ofString "yours", .ref ya)] ∧ ClF s.heap env.cells h₁₁ [(Str.ofString "mine", .ref xa), (Str.ofString "late", .bool late)] ∧ ∃ gs c, h₁₁.get? D = some (listOf gs.toArray c) ∧ All2 StrV gs ((List.range (i + 1)).filterMap (lackB late xs ys)) := fun e => by
          refine ⟨_, F₁₁, P₁₁, ⟨rfl, rfl, trivial⟩, XD X₁₁, gs, c, eg₁₁, ?_⟩
          rw [range_fm, e]; simpa using ag
        walk_at "xs"
        refine ite_b (fun c2 => ?_) fun c2 => ?_
        · walk_at "xs"
          walk_at "xs"
          refine r_getAppend eg₁₁ ?_
          walk_at "xs"
          refine r_itemX rfl xl₁₁ ev (by lia) ?_ (by with_unfolding_all rfl)
          walk_at "xs"
          refine r_append eg₁₁ (by lia) fun h₁₂ c₁₂ s₁₂ e₁₂ => ?_
          refine s_nil (s_nil (s_nil ⟨h₁₂, _, rfl, addF h₁₂ c₁₂ s₁₂ e₁₂ ?_⟩))
          rw [key true (by rw [c1, ← eb, c2]; rfl)]; rfl
        · walk_at "xs"
          refine ite_b (fun c3 => ?_) fun c3 => ?_
          · have i0 : i = 0 := by
              first
                | (have := of_decide_eq_true c3; lia)
                | (have := beq_iff_eq.mp c3; lia)
            walk_at "xs"
            refine r_getAppend eg₁₁ ?_
            walk_at "xs"
            refine r_itemX rfl xl₁₁ ev (by lia) ?_ (by with_unfolding_all rfl)
            walk_at "xs"
            refine r_append eg₁₁ (by lia) fun h₁₂ c₁₂ s₁₂ e₁₂ => ?_
            refine s_nil (s_nil (s_nil ⟨h₁₂, _, rfl, addF h₁₂ c₁₂ s₁₂ e₁₂ ?_⟩))
            rw [key true (by rw [c1, i0]; simp)]; rfl
          · have i0 : i ≠ 0 := by
              intro z; rw [z] at c3; first | (exact absurd c3 (by decide)) | simp at c3
            obtain ⟨x', ex'⟩ : ∃ z, xs[i - 1]? = some z := ⟨_, List.getElem?_eq_getElem (by lia)⟩
            obtain ⟨_, ev', tx', rfl⟩ := xi.get ex'
            walk_at "xs"
            refine r_sub_int fun u₁₂ t₁₂ => ?_
            refine r_itemX (i := i - 1) (by lia) xl₁₁ ev' (by lia) ?_ (by with_unfolding_all rfl)
            walk_at "xs"
            refine r_itemX rfl xl₁₁ ev (by lia) ?_ (by with_unfolding_all rfl)
            walk_at "xs"
            have bn : (x' != x) = (xs[i - 1]? != some x) := by rw [ex']; simp [bne]
            refine ite_b (fun c4 => ?_) fun c4 => ?_
            · walk_at "xs"
              walk_at "xs"
              refine r_getAppend eg₁₁ ?_
              walk_at "xs"
              refine r_itemX rfl xl₁₁ ev (by lia) ?_ (by with_unfolding_all rfl)
              walk_at "xs"
              refine r_append eg₁₁ (by lia) fun h₁₂ c₁₂ s₁₂ e₁₂ => ?_
              refine s_nil (s_nil (s_nil ⟨h₁₂, _, rfl, addF h₁₂ c₁₂ s₁₂ e₁₂ ?_⟩))
              rw [key true (by rw [c1, ← bn, c4]; simp)]; rfl
            · walk_at "xs"
              refine s_nil ⟨h₁₁, _, rfl, skip' ?_⟩
              rw [key false (by rw [c1, ← bn, c4, ← eb, c2]; simp [i0])]; rfl
    · walk_at "xs"
      exact s_nil ⟨h₇, _, rfl, skip (by rw [key false (by rw [c1]; rfl)]; rfl)⟩
  · rintro l h h' t ⟨sl, X, gs, c, eg, ag⟩ F' p'
    have F'' : FrL s.heap env.locals h' [(Str.ofString "got", .ref D), (Str.ofString "yours", .ref ya)] := F'.sub sl
    clear F' F₃ C₃ F
    walk_at "xs"
    refine q _ h' _ F''.keep ⟨D, gs, rfl, LstH.mk (listOf_is (p' _ _ eg fun m => nID (List.mem_singleton.mp m).symm)) (by simp), ag⟩
  · intro i v h t Q' _ q
    exact wpAny_pure q
end
end

section
section
variable {prog : Program} {w : World} {mg mb : Str → Option Value} {A : Around} {E : Value → Shared → Prop} {h : Heap} {g : Array GenState} {d : Drawn} {t : Nat} {os : OsState}
theorem r_iterB {a : Addr} {vs : List Value} {Q : Value → Shared → Prop} (hl : h.IsList a vs.toArray) (q : ∀ I h', Kp h h' → h.get? I = none → h'.IsListIter I a 0 → Q (.ref I) ⟨h', g, d, t, os⟩) :
    wpAny (model prog w) A (call (.builtin "iter") [.ref a]) Q E ⟨h, g, d, t, os⟩ := by
  refine call_function_entry (by decide +kernel) (by decide +kernel) kdk_entry_iter (kdk_args_iter _) ?_
  unfold Builtin.«iter»
  refine wpAny_bind (m := someArgs "iter" 1 2 _) (wpAny_of_eq (a := [Value.ref a]) (by first | rfl | kernel_rfl!) ?_)
  show wpAny _ _ (pyIter (.ref a) >>= _) _ _ _
  refine wpAny_bind (wpAny_pyIter_list hl ?_)
  exact wpAny_pure ⟨_, rfl, q _ _ (Kp.push _ _) (new_none h) ⟨_, Heap.get?_push_size _ rfl, rfl, rfl⟩⟩
theorem r_nextB {I a : Addr} {i : Nat} {vs : List Value} {x : Value} {Q : Value → Shared → Prop} (hit : h.IsListIter I a i) (hl : h.IsList a vs.toArray) (hx : vs[i]? = some x)
    (q : ∀ h', h'.IsListIter I a (i + 1) → Heap.SameBut I h h' → Q x ⟨h', g, d, t, os⟩) :
    wpAny (model prog w) A (call (.builtin "next") [.ref I]) Q E ⟨h, g, d, t, os⟩ := by
  obtain ⟨o, ho, hc, hd⟩ := id hit
  obtain ⟨ol, hol, _, nl, hdl⟩ := hl
  have hx' : vs.toArray[i]? = some x := by simpa using hx
  refine call_function_entry (by decide +kernel) (by decide +kernel) kdk_entry_next (kdk_args_next _) ?_
  unfold Builtin.«next»
  refine wpAny_bind (m := someArgs "next" 1 2 _) (wpAny_of_eq (a := [Value.ref I]) (by first | rfl | kernel_rfl!) ?_)
  dsimp only
  refine wpAny_bind (wpAny_specialOf (name := Str.ofString "__next__") hit.typeIs slot_listiter_next.lookup ?_)
  refine wpAny_ite_split (fun hab => absurd hab (by decide)) (fun _ => ?_)
  refine wpAny_bind (wpAny_callSpecial?_slot (name := Str.ofString "__next__") hit.typeIs slot_listiter_next
    (wpAny_call_entry slot_listiter_next hit.typeIs entry_listiter_next ?_ (args_listiter_next _)))
  show wpAny _ _ (field (.ref I) 0 >>= _) _ _ _
  refine wpAny_bind (wpAny_field ho hd (x := .ref a) rfl ?_)
  show wpAny _ _ (if (Value.ref a == Value.none) = true then _ else _) _ _ _
  rw [if_neg (show ¬ ((Value.ref a == Value.none) = true) from Bool.false_ne_true)]
  show wpAny _ _ (field (.ref I) 1 >>= _) _ _ _
  refine wpAny_bind (wpAny_field ho hd (x := .int i 0) rfl ?_)
  show wpAny _ _ (seqItems? (.ref a) >>= _) _ _ _
  refine wpAny_bind (wpAny_seqItems hol hdl ?_)
  simp only [Int.toNat_natCast, hx']
  refine wpAny_bind (wpAny_setField ho hd (by simp) (wpAny_pure ⟨x, rfl, wpAny_pure ⟨_, rfl, q _ ?_ (Heap.SameBut.update ..)⟩⟩))
  exact ⟨_, Heap.get?_update_self _ ho (Obj.isFreed_of_fields (Obj.data_mapFields hd _)), (Obj.cls_mapFields ..).trans hc, by
    rw [Obj.data_mapFields hd]; simp [rawInt]⟩
noncomputable def FnAt (f : Addr) (h : Heap) : Prop := ∃ o fd, h.get? f = some o ∧ o.data = .func fd
theorem keeps_F {M : Model} {f : Addr} (h : Heap) (y : FnAt f h) : ∃ k, (k = Keeper.frame ∨ k = Keeper.machine ∨ k = Keeper.boundFrame) ∧ Looks M h (keeperOf (.ref f)) k := by
  obtain ⟨o, fd, e, dd⟩ := y
  refine ⟨.frame, .inl rfl, ?_⟩
  unfold keeperOf
  refine (Looks.ld e).andThen ?_
  rw [dd]
  exact .now
theorem r_callF {s : Shared} {env : Env} {pos : Pos} {f : Addr} {e : Expr} {rest : List Expr} {Q : Value → Shared → Prop}
    (c : wpAny (model prog w) A (spliced (backTo pos (starEach (e :: rest) env))) (fun vs s₁ => FnAt f s₁.heap ∧ wpAny (model prog w) A (call (.ref f) vs) Q E s₁) E s)
    (he : starEach (e :: rest) env = (false, eval e env) :: starEach rest env := by with_unfolding_all rfl) (hplain : (backTo pos (starEach rest env)).any (·.1) = false := by with_unfolding_all rfl) :
    wpAny (model prog w) A (callWith pos (.ref f) [] (backTo pos (starEach (e :: rest) env)) []) Q E s := by
  rw [he] at c ⊢
  exact callWith_of (P := FnAt f) (by show ((false || (backTo pos (starEach rest env)).any (·.1)) || false) = false; rw [hplain]; rfl) keeps_F (evalArgs_plain c)
theorem is_other {s : Shared} {x y : Addr} {ox oy : Obj} {Q : Value → Shared → Prop} (hxy : x ≠ y) (hx : s.heap.get? x = some ox) (hy : s.heap.get? y = some oy) (hnt : ox.cls ≠ .type "tuple") (q : Q (.bool false) s) :
    wpAny (model prog w) A (compareOp .Is (.ref x) (.ref y)) Q E s := by
  show wpAny _ A (do return .bool (← isSame (.ref x) (.ref y))) Q E s
  exact wpAny_bind (wpAny_isSame_ref_other hxy hx hy hnt (wpAny_pure q))
theorem enterD {R : Value → Shared → Prop} {s : Shared} {f : Addr} {fd : FuncData} {body : List Stmt} {oc : Value} {od : Option Addr} {osl : Array (Option Value)} {args : List Value} (binds : List (Str × Value))
    (G : Gd w mg mb s.heap) (hroom : A.depth < recursionLimit)
    (ho : (Mine.hd.heap_39 w.params).lookup f = some ⟨oc, od, .func fd, osl⟩) (hcd : codeIn (Mine.hd.heap_39 w.params) fd.code fd.qualname = true) (hbody : fd.body = .stmts body)
    (hb : BindsTo s fd ⟨args, []⟩ binds) (hloc : (binds.all fun x => decide (fd.scope.names.lookup x.1 = some .local)) = true)
    (h : let env := callEnv fd s.heap.objs.size f; ∀ h₁ t₁, FrL s.heap env.locals h₁ binds.reverse →
      wpAny (model prog w) (A.deeper env) (execs body env) (fun fl s' => R (match fl with | .ret v => v | _ => .none) s') NoE ⟨h₁, s.gens, s.drawn, t₁, s.os⟩)
    (hcell : ∀ x ∈ fd.scope.names, x.2 ≠ .cell) (hco : fd.scope.isCoroutine = false) (hgen : fd.scope.isGenerator = false) (hk : fd.scope.kind = .function) : codeAny (model prog w) A (.call (.ref f) ⟨args, []⟩) (RetR R) s := by
  refine codeAny_call_def (binds := binds) hroom (G.K _ _ ho) rfl G.T.nolimit (codeRec_of G.K hcd) hbody hb hcell (locs hloc) (fun h₁ hns hk₁ => ?_) hco hgen hk
  exact wpAny_mono (h h₁ _ ⟨_, ⟨hns, hk₁, Nat.le_refl _⟩, fun _ _ e => e⟩) (fun _ _ x => x) (fun _ _ x => x.elim)
theorem walks_drop {I : Addr} {fp wr : List Addr} {n j : Nat} {P : Nat → Value → Prop} {St : Nat → Heap → Prop} (W : Walks prog w A I fp wr n P St) (hj : j ≤ n) : Walks prog w A I fp wr (n - j) (fun i => P (i + j)) (fun i => St (i + j)) where
  sub := W.sub
  frame := fun i h h' st k => W.frame (i + j) h h' st k
  item := fun i s Q E hi st hQ => W.item (i + j) s Q E (by lia) st fun v h' tk p st' => hQ v h' tk p (by rw [show i + 1 + j = i + j + 1 by lia]; exact st')
  done := fun s Q E st hQ => W.done s Q E (by rw [show n - j + j = n by lia] at st; exact st) hQ
  self := fun i s Q E st hQ => W.self (i + j) s Q E st hQ
noncomputable def RedI (s : Shared) (vs : List Value) (Rl : Nat → Hp → Value → Prop) (iv : Value) (j : Nat) : Prop :=
  (∃ D o, iv = .ref D ∧ D ≠ 54 ∧ s.heap.get? D = some o ∧ o.cls ≠ .type "tuple" ∧ Rl 0 (Of s.heap []) iv ∧ j = 0) ∨ (iv = .ref 54 ∧ j = 1 ∧ ∃ x, vs[0]? = some x ∧ Rl 1 (Of s.heap []) x)
theorem reduce_ok {f la j m : Nat} {iv : Value} {vs : List Value} {args : List Value} {s : Shared} {R : Value → Shared → Prop} (Rl : Nat → Hp → Value → Prop) (mono : ∀ i H H' v, Le H H' → Rl i H v → Rl i H' v)
    (off : ∀ i h a X v, (∃ o, h.get? a = some o ∧ ∀ vs n, o.data ≠ .seq vs n) → Rl i (Of h X) v → Rl i (Of h (a :: X)) v)
    (G : Gd w mg mb s.heap) (a : Ar A (m + 1)) (hf : FnAt f s.heap) (hl : LstH (Of s.heap []) la vs) (hz : vs.length ≤ 1000) (hi : RedI s vs Rl iv j)
    (ha : args = [.ref f, .ref la, iv] ∨ (args = [.ref f, .ref la] ∧ iv = .ref 54))
    (step : ∀ i v e A' h t, vs[i]? = some e → Ar A' m → Kp s.heap h → Rl i (Of h []) v → codeAny (model prog w) A' (.call (.ref f) ⟨[v, e], []⟩) (RetR fun v' s'' => ∃ h'' t'', s'' = ⟨h'', s.gens, s.drawn, t'', s.os⟩ ∧ Kp h h'' ∧ Rl (i + 1) (Of h'' []) v') ⟨h, s.gens, s.drawn, t, s.os⟩)
    (q : ∀ v h' t', Kp s.heap h' → Rl vs.length (Of h' []) v → R v ⟨h', s.gens, s.drawn, t', s.os⟩) :
    codeAny (model prog w) A (.call (.ref 62) ⟨args, []⟩) (RetR R) s := by
  have t55 : ∃ oc od osl n, (Mine.hd.heap_39 w.params).lookup 55 = some ⟨oc, od, .seq #[.ref 54] n, osl⟩ := ⟨_, _, _, _, by k_is⟩
  refine enterD [(Str.ofString "function", .ref f), (Str.ofString "sequence", .ref la), (Str.ofString "initial", iv)] G a.d0 (by k_is) (by k_is) (by rfl) ?_ (by rfl) ?_ (by decide) (by rfl) (by rfl) (by rfl)
  · obtain ⟨oc, od, osl, n, e⟩ := t55
    rcases ha with rfl | ⟨rfl, rfl⟩
    · first
        | exact .of_eq rfl
        | exact .of_defaults rfl (G.K _ _ e) rfl rfl rfl
    · exact .of_defaults rfl (G.K _ _ e) rfl rfl rfl
  intro env h₁ t₁ F
  have a1 : Ar (A.deeper env) m := a.deeper
  have hl₁ : h₁.IsList la vs.toArray := let ⟨o, e, r⟩ := hl; ⟨o, F.keep _ _ e.1, r⟩
  walk_at "xs"
  refine r_iterB hl₁ fun I h₂ k₂ nI it₂ => ?_
  refine r_store (F.kp k₂) ?_ (by with_unfolding_all rfl) (by with_unfolding_all rfl)
  intro h₃ t₃ F₃ s₃
  have nIL : I ≠ env.locals := F.ne nI
  have nI0 : s.heap.get? I = none := none_of nI F.keep
  have nlI : la ≠ I := fun z => by obtain ⟨o, e, _⟩ := hl₁; rw [z, nI] at e; cases e
  have nlL : la ≠ env.locals := fun z => by obtain ⟨o, e, _⟩ := hl; have h1 := e.1; rw [z, F.base] at h1; cases h1
  have it₃ : h₃.IsListIter I la 0 := let ⟨o, e, r⟩ := it₂; ⟨o, (s₃.2 I nIL).trans e, r⟩
  have up : ∀ {h : Heap} {l : List (Str × Value)}, FrL s.heap env.locals h l → Le (Of s.heap []) (Of h [I, env.locals]) := fun F b o e => ⟨F.keep _ _ e.1, fun m => by
    rcases List.mem_cons.mp m with rfl | m
    · have := e.1; rw [nI0] at this; cases this
    · have := e.1; rw [List.mem_singleton.mp m, F.base] at this; cases this⟩
  have hj : j ≤ vs.length := by
    rcases hi with ⟨_, _, _, _, _, _, _, rfl⟩ | ⟨_, rfl, x, ex, _⟩
    · lia
    · have := (List.getElem?_eq_some_iff.mp ex).1; lia
  refine s_any (wpAny_mono (E := NoE) (Q := fun fl s' => fl = .next ∧ ∃ h v t, s' = (⟨h, s.gens, s.drawn, t, s.os⟩ : Shared) ∧ FrL s.heap env.locals h [(Str.ofString "value", v), (Str.ofString "it", .ref I), (Str.ofString "function", .ref f)] ∧ h.IsListIter I la j ∧ Rl j (Of h [I, env.locals]) v) ?_ ?_ (fun _ _ z => z))
  · refine wpAny_If ?_
    walk_at "xs"
    rcases hi with ⟨D, o, rfl, n54, eD, cD, rD, rfl⟩ | ⟨rfl, rfl, x, ex, rx⟩
    · obtain ⟨o54, e54⟩ : ∃ o, (Mine.hd.heap_39 w.params).lookup 54 = some o := ⟨_, by k_is⟩
      refine is_other n54 (F₃.keep _ _ eD) (F₃.keep _ _ (G.K _ _ e54)) cD ?_
      walk_at "xs"
      refine r_store F₃ ?_ (by with_unfolding_all rfl) (by with_unfolding_all rfl)
      intro h₄ t₄ F₄ s₄
      exact s_nil ⟨rfl, h₄, _, _, rfl, F₄.sub ⟨rfl, rfl, rfl, trivial⟩, (let ⟨o, e, r⟩ := it₃; ⟨o, (s₄.2 I nIL).trans e, r⟩), mono _ _ _ _ (up F₄) rD⟩
    · refine wpAny_is_ref_self ?_
      walk_at "xs"
      refine s_any (wpAny_Try_except (wpAny_mono (E := NoE) ?_ (fun _ _ z => z) fun _ _ f => f.elim))
      walk_at "xs"
      refine r_nextB it₃ (let ⟨o, e, r⟩ := hl; ⟨o, F₃.keep _ _ e.1, r⟩) ex fun h₄ it₄ s₄ => ?_
      have F₄ := F₃.pr (X := [I]) (Pr.same s₄ (.head _)) (fun m => nIL (List.mem_singleton.mp m).symm) fun a m => by rw [List.mem_singleton.mp m]; exact nI0
      refine r_store F₄ ?_ (by with_unfolding_all rfl) (by with_unfolding_all rfl)
      intro h₅ t₅ F₅ s₅
      exact s_nil (s_nil (s_nil ⟨rfl, h₅, _, _, rfl, F₅.sub ⟨rfl, rfl, rfl, trivial⟩, (let ⟨o, e, r⟩ := it₄; ⟨o, (s₅.2 I nIL).trans e, r⟩), mono _ _ _ _ (up F₅) rx⟩))
  · rintro _ _ ⟨rfl, h₄, v, t₄, rfl, F₄, it₄, r₄⟩
    have hl₄ : h₄.IsList la vs.toArray := let ⟨o, e, r⟩ := hl; ⟨o, F₄.keep _ _ e.1, r⟩
    show wpAny _ _ (execs _ env) _ _ _
    clear F F₃
    refine s_forG ?_
    walk_at "xs"
    refine wpAny_pyIter_listiter it₄ ?_
    have W := walks_drop (Walks.list (prog := prog) (w := w) (A := A.deeper env) a1.hd I la nlI vs.toArray) (j := j) (by simpa using hj)
    refine forG W ⟨by rw [Nat.zero_add]; exact it₄, hl₄⟩ ?_ ?_ [] ?_ (fun i l h => SubL l [(Str.ofString "function", .ref f)] ∧ ∃ v, l.lookup (Str.ofString "value") = some v ∧ Rl (i + j) (Of h [I, env.locals]) v) F₄ ⟨⟨rfl, trivial⟩, v, rfl, by rw [Nat.zero_add]; exact r₄⟩ ?_ ?_ ?_
    · intro m
      rcases List.mem_cons.mp m with e | m
      · exact nIL e.symm
      · exact nlL (List.mem_singleton.mp m).symm
    · intro b m; rw [List.mem_singleton.mp m]; exact nI0
    · intro b m; cases m
    · rintro i e l h h₅ t₅ hi' hP ⟨sl, v, ev, rv⟩ F₅ p₅ st₅
      have hP' : vs[i + j]? = some e := by simpa using hP
      have rv₅ : Rl (i + j) (Of h₅ [I, env.locals]) v := mono _ _ _ _ (p₅.le (by simp)) rv
      refine wpAny_assign_Name (r_store F₅ (fun h₆ t₆ F₆' s₆ => ?_) (by with_unfolding_all rfl) (by with_unfolding_all rfl))
      have F₆ : FrL s.heap env.locals h₆ [(Str.ofString "element", e), (Str.ofString "value", v), (Str.ofString "function", .ref f)] := F₆'.sub ⟨rfl, look_ne (by show (Str.ofString "value" == Str.ofString "element") = false; decide) ev, look_ne (by show (Str.ofString "function" == Str.ofString "element") = false; decide) sl.1, trivial⟩
      have rv₆ : Rl (i + j) (Of h₆ [I, env.locals]) v := mono _ _ _ _ ((Pr.same (X := [env.locals]) s₆ (.head _)).le (by simp)) rv₅
      have it₆ : h₆.IsListIter I la (i + 1 + j) := let ⟨o, e, r⟩ := st₅.1; ⟨o, (s₆.2 I nIL).trans e, r⟩
      clear F₆' F₅ F₄
      walk_at "xs"
      refine r_callF ?_ (by with_unfolding_all rfl) (by with_unfolding_all rfl)
      walk_at "xs"
      refine ⟨(let ⟨o, fd, e, d⟩ := hf; ⟨o, fd, F₆.keep _ _ e, d⟩), r_con (codeAny_mono (step (i + j) v e (A.deeper env) h₆ t₆ hP' a1 F₆.keep (mono _ _ _ _ Of.all rv₆)) fun r s' z => ?_)⟩
      cases r with
      | error e => exact z.elim
      | ok fl =>
        cases fl with
        | ret v' =>
          obtain ⟨h₇, t₇, rfl, k₇, rv'⟩ := z
          have F₇ := F₆.kp k₇
          refine r_store F₇ ?_ (by with_unfolding_all rfl) (by with_unfolding_all rfl)
          intro h₈ t₈ F₈ s₈
          have it₇ : ∃ o, h₇.get? I = some o ∧ ∀ vs n, o.data ≠ .seq vs n := let ⟨o, e, c, d⟩ := it₆; ⟨o, k₇ _ _ e, fun vs n z => by rw [d] at z; cases z⟩
          have iL : ∃ o, h₇.get? env.locals = some o ∧ ∀ vs n, o.data ≠ .seq vs n := let ⟨o, es, n, e, d⟩ := F₇.data; ⟨o, e, fun vs n z => by rw [d] at z; cases z⟩
          have r₇ : Rl (i + 1 + j) (Of h₇ [I, env.locals]) v' := by
            rw [show i + 1 + j = i + j + 1 by lia]; exact off _ _ _ _ _ it₇ (off _ _ _ _ _ iL rv')
          refine s_nil ⟨h₈, t₈, rfl, _, F₈, ((Pr.same s₆ (.head _)).trans (k₇.pr _)).trans (Pr.same s₈ (.head _)), ⟨rfl, trivial⟩, v', rfl, mono _ _ _ _ ((Pr.same (X := [env.locals]) s₈ (.head _)).le (by simp)) r₇⟩
        | _ => exact z.elim
    · rintro l h h₅ t₅ ⟨sl, v, ev, rv⟩ F₅ p₅
      have F₆ : FrL s.heap env.locals h₅ [(Str.ofString "value", v)] := F₅.sub ⟨ev, trivial⟩
      clear F₅ F₄
      walk_at "xs"
      refine q v h₅ _ F₆.keep (mono _ (Of h [I, env.locals]) _ _ ((p₅.le (Y := [I, env.locals]) (by simp)).trans Of.all) ?_)
      have e1 : vs.toArray.size - j + j = vs.length := by simp; lia
      rw [e1] at rv; exact rv
    · intro i v h t Q' _ q
      exact wpAny_pure q
end
end

section
section
variable {prog : Program} {w : World} {mg mb : Str → Option Value} {A : Around}
theorem r_sum {E : Value → Shared → Prop} {h : Heap} {g : Array GenState} {d : Drawn} {t : Nat} {os : OsState} {l : Addr} {vs : List Value} {ns : List Int} {Q : Value → Shared → Prop} (hh : A.handled = none) (hl : h.IsList l vs.toArray) (hi : IntsAre vs ns)
    (q : ∀ h' u t', Kp h h' → Q (.int ns.sum u) ⟨h', g, d, t', os⟩) : wpAny (model prog w) A (call (.builtin "sum") [.ref l]) Q E ⟨h, g, d, t, os⟩ := by
  obtain ⟨xs, hx⟩ := hi.allInts.items
  have hl' : h.IsList l (intItems xs) := hx ▸ hl
  refine sum_intListG (s := ⟨h, g, d, t, os⟩) hh hl' fun h' tk t' hk => ?_
  have e1 : ns = xs.toList.map (·.1) := by
    rw [← nums_intItems, ← hx]
    exact (show numsOf vs.toArray.toList = ns from hi.numsOf).symm
  have e2 : preSum (numAt xs) xs.size = ns.sum := by
    rw [preSum_eq, List.take_of_length_le (by simp), e1]
  rw [e2]
  exact q h' t' tk hk
theorem r_min8 {E : Value → Shared → Prop} {h : Heap} {g : Array GenState} {d : Drawn} {t : Nat} {os : OsState} {n : Nat} {u u8 : Tok} {Q : Value → Shared → Prop} (hh : A.handled = none)
    (q : ∀ (N : Nat) u' h' t', N ≤ 8 → N ≤ n → Kp h h' → Q (.int (N : Nat) u') ⟨h', g, d, t', os⟩) : wpAny (model prog w) A (call (.builtin "min") [.int 8 u8, .int (n : Nat) u]) Q E ⟨h, g, d, t, os⟩ := by
  refine min_two_ints (s := ⟨h, g, d, t, os⟩) hh fun h' tk k => ?_
  by_cases c : ((n : Nat) : Int) < 8
  · rw [if_pos c]; exact q n u h' tk (by lia) (Nat.le_refl _) k
  · rw [if_neg c]; exact q 8 u8 h' tk (Nat.le_refl _) (by lia) k
theorem r_mod {E : Value → Shared → Prop} {h : Heap} {g : Array GenState} {d : Drawn} {t : Nat} {os : OsState} {a b : Int} {u v : Tok} {Q : Value → Shared → Prop} (hb : b ≠ 0) (q : ∀ u t', Q (.int (a.fmod b) u) ⟨h, g, d, t', os⟩) :
    wpAny (model prog w) A (binaryOp .Mod (.int a u) (.int b v)) Q E ⟨h, g, d, t, os⟩ := mod_int hb (q _ _)
theorem r_fdiv {E : Value → Shared → Prop} {h : Heap} {g : Array GenState} {d : Drawn} {t : Nat} {os : OsState} {a b : Int} {u v : Tok} {Q : Value → Shared → Prop} (hb : b ≠ 0) (hs : b.natAbs < 1073741824) (q : ∀ u t', Q (.int (a.fdiv b) u) ⟨h, g, d, t', os⟩) :
    wpAny (model prog w) A (binaryOp .FloorDiv (.int a u) (.int b v)) Q E ⟨h, g, d, t, os⟩ := floordiv_int hb (q _ _) (.inl (PyProof.noPylong_small hs))
theorem r_pow {E : Value → Shared → Prop} {h : Heap} {g : Array GenState} {d : Drawn} {t : Nat} {os : OsState} {a n : Int} {u v : Tok} {Q : Value → Shared → Prop} (hn : 0 ≤ n) (hn2 : n ≤ 1000000) (ha : a.natAbs < 2 ^ 64) (q : ∀ u t', Q (.int (a ^ n.toNat) u) ⟨h, g, d, t', os⟩) :
    wpAny (model prog w) A (binaryOp .Pow (.int a u) (.int n v)) Q E ⟨h, g, d, t, os⟩ := pow_int_small hn hn2 ha (q _ _)
noncomputable def NameH (H : Hp) (v : Value) (p : Str × Int) : Prop := ∃ a t u, v = .ref a ∧ TupH H a [.str p.1 t, .int p.2 u]
theorem NameH.le {H H' : Hp} {v : Value} {p : Str × Int} (x : NameH H v p) (k : Le H H') : NameH H' v p := let ⟨a, t, u, e, l⟩ := x; ⟨a, t, u, e, l.le k⟩
noncomputable def NamesH (H : Hp) (v : Value) (ns : List (Str × Int)) : Prop := ∃ a vs, v = .ref a ∧ LstH H a vs ∧ All2 (NameH H) vs ns
theorem NamesH.le {H H' : Hp} {v : Value} {ns : List (Str × Int)} (x : NamesH H v ns) (k : Le H H') : NamesH H' v ns := let ⟨a, vs, e, l, r⟩ := x; ⟨a, vs, e, l.le k, r.mono fun _ _ i => i.le k⟩
noncomputable def isSign (c : Nat) : Bool := c == 32 || c == 33 || c == 34 || c == 35 || c == 97
theorem signs_at {k : Nat} (hk : k < 5) : ∃ c, (Str.ofString " !\"#a").cps.toList[k]? = some c ∧ isSign c = true := by
  have : ∀ k : Fin 5, ∃ c, (Str.ofString " !\"#a").cps.toList[k.val]? = some c ∧ isSign c = true := by decide +kernel
  exact this ⟨k, hk⟩
noncomputable def NameOk (p : Str × Int) : Prop := p.1.length ≤ 3 ∧ (∀ c ∈ p.1.cps.toList, isSign c = true) ∧ 0 ≤ p.2 ∧ p.2 ≤ 2
noncomputable def NameOkB (p : Str × Int) : Bool := decide (p.1.length ≤ 3) && p.1.cps.toList.all isSign && decide (0 ≤ p.2) && decide (p.2 ≤ 2)
theorem NameOkB_iff {p : Str × Int} (h : NameOkB p = true) : NameOk p := by
  unfold NameOkB at h
  simp only [Bool.and_eq_true, decide_eq_true_eq, List.all_eq_true] at h
  exact ⟨h.1.1.1, h.1.1.2, h.1.2, h.2⟩
noncomputable def NmJ (hb : Heap) (rv : Value) (L I D : Addr) (i : Nat) (l : List (Str × Value)) (h : Heap) : Prop :=
  ∃ ws c ns, SubL l [(Str.ofString "names", .ref D), (Str.ofString "row", rv)] ∧ h.get? D = some (listOf ws.toArray c) ∧ Pr [I, D, L] hb h ∧ All2 (NameH (Of h [I, D, L])) ws ns ∧ ns.length = 5 + i ∧ ∀ p ∈ ns, NameOk p
noncomputable def NmI (hb : Heap) (rv : Value) (D : Addr) (k : Nat) (u : Tok) (x : Int) (ux : Tok) (L I : Addr) (i : Nat) (l : List (Str × Value)) (h : Heap) : Prop :=
  ∃ nm tn, SubL l [(Str.ofString "name", .str nm tn), (Str.ofString "x", .int x ux), (Str.ofString "k", .int (k : Nat) u), (Str.ofString "names", .ref D), (Str.ofString "row", rv)] ∧ Pr [I, L] hb h ∧ nm.length = i ∧ ∀ c ∈ nm.cps.toList, isSign c = true
set_option maxHeartbeats 2000000 in
theorem names_ok {rv : Value} {row : List Int} {s : Shared} {R : Value → Shared → Prop} (G : Gd w mg mb s.heap) (a : Ar A 1) (hr : IntsH (Of s.heap []) rv row) (hz : row.length ≤ 1000)
    (q : ∀ v ns h' t', Kp s.heap h' → NamesH (Of h' []) v ns → 5 ≤ ns.length → ns.length ≤ 13 → (∀ p ∈ ns, NameOk p) → R v ⟨h', s.gens, s.drawn, t', s.os⟩) :
    codeAny (model prog w) A (.call (.ref 83) ⟨[rv], []⟩) (RetR R) s := by
  refine enter [(Str.ofString "row", rv)] G a.d0 (by k_is) (by k_is) rfl rfl ?_
  intro env h₁ t₁ F
  have a1 : Ar (A.deeper env) 0 := a.deeper
  obtain ⟨ra, vs, rfl, xl, xi⟩ := hr.le F.args
  have hlen := xi.length
  walk_at "xs"
  refine r_newTuple (by simp) fun T1 h₂ k₂ n₂ e₂ => ?_
  have F₂ := F.kp k₂
  walk_at "xs"
  refine r_newTuple (by simp) fun T2 h₃ k₃ n₃ e₃ => ?_
  have F₃ := F₂.kp k₃
  walk_at "xs"
  refine r_newTuple (by simp) fun T3 h₄ k₄ n₄ e₄ => ?_
  have F₄ := F₃.kp k₄
  walk_at "xs"
  refine r_newTuple (by simp) fun T4 h₅ k₅ n₅ e₅ => ?_
  have F₅ := F₄.kp k₅
  walk_at "xs"
  refine r_newTuple (by simp) fun T5 h₆ k₆ n₆ e₆ => ?_
  have F₆ := F₅.kp k₆
  walk_at "xs"
  refine r_newList (by simp) fun D h₇ k₇ nD eD => ?_
  have F₇ := F₆.kp k₇
  with_reducible refine r_store F₇ ?_
  intro h₈ t₈ F₈ s₈
  refine s_for ?_
  refine r_call ?_ (by with_unfolding_all rfl)
  walk_at "xs"
  refine r_callT ?_
  walk_at "xs"
  have m₇ : Kp h₁ h₇ := (((((k₂.trans k₃).trans k₄).trans k₅).trans k₆).trans k₇)
  have M₈ : Le (Of h₁ [env.locals]) (Of h₈ [env.locals]) := (m₇.le _).trans (Pr.same (X := [env.locals]) s₈ (.head _)).le'
  have xl₈ := xl.le M₈
  refine r_len_list xl₈.is (by lia) fun u₉ t₉ => ?_
  walk_at "xs"
  refine r_min8 a1.hd fun N u₁₀ h₉ t₁₀ hN8 hNl k₉ => ?_
  rw [hlen] at hNl
  have F₉ := F₈.kp k₉
  walk_at "xs"
  refine r_rangeS (n := N) a1.hd rfl (by lia) fun I h₁₀ t₁₁ St it hSt => ?_
  have F₁₀ := F₉.kp it.kp
  have nIL : I ≠ env.locals := F₉.ne it.new
  have nDL : D ≠ env.locals := F₆.ne nD
  have eD₉ : h₉.get? D = some (listOf [.ref T1, .ref T2, .ref T3, .ref T4, .ref T5].toArray 0) := k₉ _ _ ((s₈.2 D nDL).trans eD)
  have nID : I ≠ D := by rintro rfl; rw [it.new] at eD₉; cases eD₉
  have nD0 : s.heap.get? D = none := none_of nD F₆.keep
  have nI0 : s.heap.get? I = none := none_of it.new F₉.keep
  have xl₁₀ : LstH (Of h₁₀ [I, D, env.locals]) ra vs := by
    have z : LstH (Of h₉ [D, env.locals]) ra vs := by
      obtain ⟨o, ⟨e, n⟩, r⟩ := (xl₈.le (k₉.le _))
      refine ⟨o, ⟨e, fun m => ?_⟩, r⟩
      rcases List.mem_cons.mp m with rfl | m
      · obtain ⟨o', ⟨e', _⟩, _⟩ := xl
        have e6 : h₆.get? ra = some o' := ((((k₂.trans k₃).trans k₄).trans k₅).trans k₆) _ _ e'
        rw [nD] at e6; cases e6
      · exact n m
    exact z.le (Of.more (it.kp.le _) it.new)
  have tup : ∀ {T : Addr} {ws : List Value} {h' : Heap}, IsTup h' T ws.toArray → Kp h' h₆ → TupH (Of h₁₀ [I, D, env.locals]) T ws := by
    intro T ws h' e k
    have e₆ : TupH (Of h₆ []) T ws := by obtain ⟨o, eo, r⟩ := e; exact ⟨o, ⟨k _ _ eo, by simp⟩, r⟩
    have e₇ : TupH (Of h₇ [D, env.locals]) T ws := (e₆.offL F₆).le (Of.more (k₇.le _) nD)
    have e₉ : TupH (Of h₉ [D, env.locals]) T ws := (e₇.le ((Pr.same (X := [env.locals]) s₈ (.head _)).le (by simp))).le (k₉.le _)
    exact e₉.le (Of.more (it.kp.le _) it.new)
  refine forG it.W it.st ?_ ?_ [D] ?_ (NmJ h₁₀ (.ref ra) env.locals I D) F₁₀ ?_ ?_ ?_ ?_
  · intro m; exact nIL (List.mem_singleton.mp m).symm
  · intro b m; rw [List.mem_singleton.mp m]; exact nI0
  · intro b m hb
    rw [List.mem_singleton.mp m] at hb
    exact nID (List.mem_singleton.mp hb).symm
  · refine ⟨_, 0, [(Str.ofString "a", 0), (Str.ofString "a\"", 2), (Str.ofString "a!", 1), (Str.ofString "a", 0), (Str.ofString "", 1)], ⟨rfl, rfl, trivial⟩, it.kp _ _ eD₉, Pr.refl _ _, ?_, rfl, ?_⟩
    · exact .cons ⟨T1, _, _, rfl, tup (ws := [_, _]) e₂ (((k₃.trans k₄).trans k₅).trans k₆)⟩ (.cons ⟨T2, _, _, rfl, tup (ws := [_, _]) e₃ ((k₄.trans k₅).trans k₆)⟩ (.cons ⟨T3, _, _, rfl, tup (ws := [_, _]) e₄ (k₅.trans k₆)⟩
        (.cons ⟨T4, _, _, rfl, tup (ws := [_, _]) e₅ k₆⟩ (.cons ⟨T5, _, _, rfl, tup (ws := [_, _]) e₆ (Kp.refl _)⟩ .nil))))
    · have z : ∀ p ∈ [(Str.ofString "a", (0 : Int)), (Str.ofString "a\"", 2), (Str.ofString "a!", 1), (Str.ofString "a", 0), (Str.ofString "", 1)], NameOkB p = true := by decide +kernel
      exact fun p m => NameOkB_iff (z p m)
  · rintro i v l h h₁₁' t₁₂' hi ⟨u, rfl⟩ ⟨ws, c, ns, sl, ew, pw, aw, ln, okn⟩ F₁₁' p₁₁' st'
    obtain ⟨oI, eI⟩ := hSt _ _ st'
    refine wpAny_assign_Name (r_store F₁₁' ?_ (by with_unfolding_all rfl) (by with_unfolding_all rfl))
    intro h₁₁ t₁₂ F₁₁ s₁₁
    have eI₁₁ : h₁₁.get? I = some oI := (s₁₁.2 _ nIL).trans eI
    have p₁₁ : Pr [env.locals, I] h h₁₁ := (p₁₁'.mono (by simp)).trans (Pr.same s₁₁ (by simp))
    clear F₁₁'
    have P₁₁ : Pr [I, D, env.locals] h₁₀ h₁₁ := pw.trans (p₁₁.mono (by simp))
    have ew₁₁ : h₁₁.get? D = some (listOf ws.toArray c) := p₁₁.get ew (by simp [nDL, Ne.symm nID])
    have aw₁₁ : All2 (NameH (Of h₁₁ [I, D, env.locals])) ws ns := aw.mono fun _ _ j => j.le (p₁₁.le (by simp))
    have F₁₁' : FrL s.heap env.locals h₁₁ [(Str.ofString "k", .int (i : Nat) u), (Str.ofString "names", .ref D), (Str.ofString "row", .ref ra)] := F₁₁.sub ⟨rfl, sl.1, sl.2.1, trivial⟩
    clear F₁₁
    have lw := aw.length
    walk_at "xs"
    refine r_slL (ops := fun n => [.ref ra] ++ n.map .ref) (xl₁₀.le P₁₁.le').is (.int _ _) .none (.int _ _) (by simp) (by lia) (fun b h₁₂ k₁₂ nb eb => ?_) (fun n => by with_unfolding_all rfl) (fun _ => by with_unfolding_all rfl)
    have F₁₂ := F₁₁'.kp k₁₂
    walk_at "xs"
    have eb' : h₁₂.IsList b (slicePick vs.toArray (some (i : Int)) none (some 8)).toList.toArray := ⟨_, eb, rfl, 0, by simp⟩
    refine r_sum a1.hd eb' (xi.pick _ _ _) fun h₁₃ u₁₃ t₁₃ k₁₃ => ?_
    have F₁₃ := F₁₂.kp k₁₃
    generalize List.sum (pickNums row (some (i : Int)) none (some 8)) = S
    walk_at "xs"
    refine r_mod (by decide) fun u₁₄ t₁₄' => ?_
    obtain ⟨x, hx, hx0, hx1⟩ : ∃ x : Int, S.fmod 1000000 = x ∧ 0 ≤ x ∧ x < 1000000 := ⟨_, rfl, Int.fmod_nonneg_of_pos _ (by decide), Int.fmod_lt_of_pos _ (by decide)⟩
    rw [hx]
    with_reducible refine r_store F₁₃ ?_
    intro h₁₄ t₁₄ F₁₄ s₁₄
    walk_at "xs"
    with_reducible refine r_store F₁₄ ?_
    intro h₁₅ t₁₅ F₁₅ s₁₅
    have P₁₅ : Pr [env.locals] h₁₁ h₁₅ := (((k₁₂.trans k₁₃).pr _).trans (Pr.same s₁₄ (.head _))).trans (Pr.same s₁₅ (.head _))
    refine s_for ?_
    refine r_call ?_ (by with_unfolding_all rfl)
    walk_at "xs"
    refine r_callT ?_
    walk_at "xs"
    refine r_mod (by decide) fun u₁₆ t₁₆ => ?_
    walk_at "xs"
    obtain ⟨m, hm, hm3⟩ : ∃ m : Nat, x.fmod 4 = (m : Int) ∧ m ≤ 3 := by
      have h1 : 0 ≤ x.fmod 4 := Int.fmod_nonneg_of_pos _ (by decide)
      have h2 : x.fmod 4 < 4 := Int.fmod_lt_of_pos _ (by decide)
      exact ⟨(x.fmod 4).toNat, by lia, by lia⟩
    refine r_range (n := m) a1.hd hm (by lia) fun I2 h₁₆ t₁₇ St2 it2 => ?_
    have F₁₆ := F₁₅.kp it2.kp
    have n2L : I2 ≠ env.locals := F₁₅.ne it2.new
    refine forW it2.W it2.st ?_ ?_ [] ?_ (NmI h₁₆ (.ref ra) D i u x u₁₄ env.locals I2) F₁₆ ?_ ?_ ?_
    · intro m'; exact n2L (List.mem_singleton.mp m').symm
    · intro b' m'; rw [List.mem_singleton.mp m']; exact none_of it2.new F₁₅.keep
    · intro b' m'; cases m'
    · exact ⟨Str.ofString "", _, ⟨rfl, rfl, rfl, rfl, rfl, trivial⟩, Pr.refl _ _, by decide +kernel, by decide +kernel⟩
    · rintro j v l' h h₁₇ t₁₈ hj ⟨u₁₈, rfl⟩ ⟨nm, tn, sl', pw', ln', hs'⟩ F₁₇ p₁₇
      have P₁₇ : Pr [I2, env.locals] h₁₆ h₁₇ := pw'.trans (p₁₇.mono (by simp))
      have F₁₇' : FrL s.heap env.locals h₁₇ [(Str.ofString "j", .int (j : Nat) u₁₈), (Str.ofString "name", .str nm tn), (Str.ofString "x", .int x u₁₄), (Str.ofString "k", .int (i : Nat) u), (Str.ofString "names", .ref D), (Str.ofString "row", .ref ra)] :=
        F₁₇.sub ⟨rfl, sl'.1, sl'.2.1, sl'.2.2.1, sl'.2.2.2.1, sl'.2.2.2.2.1, trivial⟩
      clear F₁₇
      walk_at "xs"
      refine r_pow (by lia) (by lia) (by decide) fun u₁₉ t₁₉ => ?_
      refine r_mul (by decide) (by decide) fun u₂₀ t₂₀ => ?_
      have hpos : (4 : Int) * 5 ^ (((j : Nat) : Int).toNat) ≠ 0 := Int.mul_ne_zero (by decide) (by have : (5 : Int) ^ (((j : Nat) : Int).toNat) > 0 := Int.pow_pos (by decide); lia)
      refine r_fdiv hpos (by rcases (show j = 0 ∨ j = 1 ∨ j = 2 by lia) with rfl | rfl | rfl <;> decide) fun u₂₁ t₂₁ => ?_
      walk_at "xs"
      refine r_mod (by decide) fun u₂₂ t₂₂ => ?_
      obtain ⟨e, he, he5⟩ : ∃ e : Nat, (x.fdiv (4 * 5 ^ (((j : Nat) : Int).toNat))).fmod 5 = (e : Int) ∧ e < 5 := by
        have h1 : 0 ≤ (x.fdiv (4 * 5 ^ (((j : Nat) : Int).toNat))).fmod 5 := Int.fmod_nonneg_of_pos _ (by decide)
        have h2 : (x.fdiv (4 * 5 ^ (((j : Nat) : Int).toNat))).fmod 5 < 5 := Int.fmod_lt_of_pos _ (by decide)
        exact ⟨((x.fdiv (4 * 5 ^ (((j : Nat) : Int).toNat))).fmod 5).toNat, by lia, by lia⟩
      rw [he]
      obtain ⟨c', hc', hsc⟩ := signs_at he5
      refine r_item_str (by decide +kernel) hc' ?_ (by with_unfolding_all rfl) (by intro _; with_unfolding_all rfl)
      intro u₂₃ t₂₃
      refine r_addS (by simp [Str.length] at ln' ⊢; lia) fun u₂₄ t₂₄ => ?_
      with_reducible refine r_store F₁₇' ?_
      intro h₁₈ t₁₉' F₁₈ s₁₈
      refine s_nil ⟨h₁₈, t₁₉', rfl, _, F₁₈, Pr.same s₁₈ (.head _), ?_⟩
      refine ⟨nm ++ ⟨#[c']⟩, u₂₄, ⟨rfl, rfl, rfl, rfl, rfl, trivial⟩, P₁₇.trans (Pr.same s₁₈ (by simp)), ?_, ?_⟩
      · rw [Str.length_append, ln']; rfl
      · intro c'' m''
        rw [Str.cps_append] at m''
        simp at m''
        rcases m'' with m'' | rfl
        · exact hs' _ (by simpa using m'')
        · exact hsc
    · rintro l' h h₁₇ t₁₈ ⟨nm, tn, sl', pw', ln', hs'⟩ F₁₇ p₁₇
      have P₁₇ : Pr [I2, env.locals] h₁₆ h₁₇ := pw'.trans (p₁₇.mono (by simp))
      have PL : Pr [env.locals] h₁₁ h₁₇ := fun b' o e n => P₁₇ b' o (it2.kp _ _ (P₁₅ b' o e n)) fun m' => by
        rcases List.mem_cons.mp m' with z | m'
        · have := P₁₅ b' o e n; rw [z, it2.new] at this; cases this
        · exact n m'
      have F₁₇' : FrL s.heap env.locals h₁₇ [(Str.ofString "name", .str nm tn), (Str.ofString "x", .int x u₁₄), (Str.ofString "names", .ref D), (Str.ofString "row", .ref ra)] :=
        F₁₇.sub ⟨sl'.1, sl'.2.1, sl'.2.2.2.1, sl'.2.2.2.2.1, trivial⟩
      clear F₁₇
      have ew₁₇ : h₁₇.get? D = some (listOf ws.toArray c) := PL.get ew₁₁ (by simp [nDL])
      walk_at "xs"
      refine r_getAppend ew₁₇ ?_
      walk_at "xs"
      refine r_fdiv (by decide) (by decide) fun u₂₁ t₂₁ => ?_
      walk_at "xs"
      refine r_mod (by decide) fun u₂₂ t₂₂ => ?_
      walk_at "xs"
      refine r_newTuple (by simp) fun T h₁₈ k₁₈ nT eT => ?_
      have F₁₈ := F₁₇'.kp k₁₈
      walk_at "xs"
      refine r_append (k₁₈ _ _ ew₁₇) (by lia) fun h₁₉ c' s₁₉ ew₁₉ => ?_
      have nTL : T ≠ env.locals := F₁₇'.ne nT
      have nTD : T ≠ D := by rintro rfl; rw [ew₁₇] at nT; cases nT
      have nTI : T ≠ I := fun z => by
        have := PL.get eI₁₁ (by simpa using nIL)
        rw [← z, nT] at this; cases this
      have F₁₉ := F₁₈.pr (X := [D]) (Pr.same s₁₉ (.head _)) (fun m' => nDL (List.mem_singleton.mp m').symm) (fun b' m' => by rw [List.mem_singleton.mp m']; exact nD0)
      have P₁₉ : Pr [env.locals, D] h₁₁ h₁₉ := ((PL.trans (k₁₈.pr _)).mono (by simp)).trans (Pr.same s₁₉ (by simp))
      have M₁₉ : Le (Of h₁₁ [I, D, env.locals]) (Of h₁₉ [I, D, env.locals]) := P₁₉.le (by simp)
      refine s_nil ⟨h₁₉, _, rfl, _, F₁₉, fun b' o e n => P₁₉ b' o ((s₁₁.2 b' fun z => n (z ▸ .head _)).trans e) n, ?_⟩
      refine ⟨_, c', ns ++ [(nm, (x.fdiv 500).fmod 3)], ⟨rfl, rfl, trivial⟩, ew₁₉, P₁₁.trans (P₁₉.mono (by simp)), (aw₁₁.mono fun _ _ j => j.le M₁₉).snoc ?_, by simp [ln]; lia, ?_⟩
      · obtain ⟨o, eo, r⟩ := eT
        exact ⟨T, _, _, rfl, o, ⟨(s₁₉.2 _ nTD).trans eo, by simp [nTL, nTD, nTI]⟩, r⟩
      · intro p m'
        rcases List.mem_append.mp m' with m' | m'
        · exact okn p m'
        · rw [List.mem_singleton.mp m']
          exact ⟨by show nm.length ≤ 3; lia, hs', Int.fmod_nonneg_of_pos _ (by decide), by have : (x.fdiv 500).fmod 3 < 3 := Int.fmod_lt_of_pos _ (by decide); lia⟩
  · rintro l h h' t' ⟨ws, c, ns, sl, ew, pw, aw, ln, okn⟩ F' p'
    have F'' : FrL s.heap env.locals h' [(Str.ofString "names", .ref D), (Str.ofString "row", .ref ra)] := F'.sub sl
    walk_at "xs"
    refine q _ ns _ _ F''.keep ⟨D, ws, rfl, LstH.mk (listOf_is (p'.get ew (by simp [Ne.symm nID]))) (by simp), ?_⟩ (by lia) (by lia) okn
    exact aw.mono fun _ _ j => j.le ((p'.le (by simp)).trans Of.all)
  · intro i v h t Q' _ q'
    exact wpAny_pure q'
end
end

section
open PySem PySem.W PyProof.Rows

noncomputable def KOk {α : Type} (N : Nat) (lt : Nat → Nat → Bool) : KasT α → (α → Prop) → Prop
  | .ret a, Q => Q a
  | .ask i j k, Q => i < N ∧ j < N ∧ KOk N lt (k (lt i j)) Q
theorem KOk.bind {α β : Type} {N : Nat} {lt : Nat → Nat → Bool} {f : α → KasT β} {Q : β → Prop} : ∀ (t : KasT α), KOk N lt t (fun a => KOk N lt (f a) Q) → KOk N lt (t.bind f) Q
  | .ret _, h => h
  | .ask _ _ k, ⟨a, b, h⟩ => ⟨a, b, KOk.bind (k _) h⟩
theorem KOk.mono {α : Type} {N : Nat} {lt : Nat → Nat → Bool} {Q Q' : α → Prop} (hq : ∀ a, Q a → Q' a) : ∀ (t : KasT α), KOk N lt t Q → KOk N lt t Q'
  | .ret _, h => hq _ h
  | .ask _ _ k, ⟨a, b, h⟩ => ⟨a, b, KOk.mono hq (k _) h⟩
theorem KOk.wp {α : Type} {N : Nat} {lt : Nat → Nat → Bool} {cmp : Nat → Nat → (Bool → Shared → Prop) → Shared → Prop} (I : Shared → Prop)
    (hc : ∀ i j C s, i < N → j < N → I s → (∀ s', I s' → C (lt i j) s') → cmp i j C s) {Q : α → Prop} {P : α → Shared → Prop} (hq : ∀ a s, Q a → I s → P a s) :
    ∀ (t : KasT α) (s : Shared), KOk N lt t Q → I s → t.kasWp cmp P s
  | .ret a, s, h, hi => hq a s h hi
  | .ask i j k, s, ⟨a, b, h⟩, hi => hc i j _ s a b hi fun s' hi' => KOk.wp I hc hq (k _) s' h hi'

structure Swo (N : Nat) (lt : Nat → Nat → Bool) : Prop where
  irr : ∀ a, a < N → lt a a = false
  tr : ∀ a b c, a < N → b < N → c < N → lt a b = true → lt b c = true → lt a c = true
  ng : ∀ a b c, a < N → b < N → c < N → lt a b = true → lt a c = true ∨ lt c b = true
noncomputable def slt (lt : Nat → Nat → Bool) (i j : Nat) : Prop := lt i j = true ∨ (lt j i = false ∧ i < j)
section
variable {N : Nat} {lt : Nat → Nat → Bool}
theorem Swo.asym (O : Swo N lt) {a b : Nat} (ha : a < N) (hb : b < N) (h : lt a b = true) : lt b a = false := by
  cases e : lt b a with
  | false => rfl
  | true => have := O.tr a b a ha hb ha h e; rw [O.irr a ha] at this; cases this
theorem slt.trans (O : Swo N lt) {a b c : Nat} (ha : a < N) (hb : b < N) (hc : c < N) (h1 : slt lt a b) (h2 : slt lt b c) : slt lt a c := by
  rcases h1 with h1 | ⟨h1, l1⟩ <;> rcases h2 with h2 | ⟨h2, l2⟩
  · exact .inl (O.tr a b c ha hb hc h1 h2)
  · rcases O.ng a b c ha hb hc h1 with h | h
    · exact .inl h
    · rw [h2] at h; cases h
  · rcases O.ng b c a hb hc ha h2 with h | h
    · rw [h1] at h; cases h
    · exact .inl h
  · right
    refine ⟨?_, Nat.lt_trans l1 l2⟩
    cases e : lt c a with
    | false => rfl
    | true =>
      rcases O.ng c a b hc ha hb e with h | h
      · rw [h2] at h; cases h
      · rw [h1] at h; cases h
theorem slt.ngt (O : Swo N lt) {a b : Nat} (ha : a < N) (hb : b < N) (h : slt lt a b) : lt b a = false := h.elim (O.asym ha hb) (·.1)

structure SrtA (N : Nat) (lt : Nat → Nat → Bool) (p : Array Nat) (k : Nat) : Prop where
  size : p.size = N
  perm : p.Perm (List.range N).toArray
  le : k ≤ N
  low : ∀ a x, a < k → p[a]? = some x → x < k
  idn : ∀ c, k ≤ c → c < N → p[c]? = some c
  srt : ∀ a b x y, a < b → b < k → p[a]? = some x → p[b]? = some y → slt lt x y
theorem getD_of {p : Array Nat} {a x : Nat} (h : p[a]? = some x) : p.getD a 0 = x := by
  rw [Array.getD_eq_getD_getElem?, h]; rfl
theorem at_of {p : Array Nat} {a : Nat} (h : a < p.size) : ∃ x, p[a]? = some x := ⟨_, Array.getElem?_eq_getElem h⟩

theorem asc_ok (O : Swo N lt) {p : Array Nat} : ∀ (f n : Nat), 1 ≤ n → n + f = N → SrtA N lt p n → KOk N lt (kas_asc p f n) (fun m => n ≤ m ∧ SrtA N lt p m ∧ (m < N → ∃ x, p[m - 1]? = some x ∧ lt m x = true))
  | 0, n, _, hf, S => ⟨Nat.le_refl _, S, fun h => by lia⟩
  | f + 1, n, h1, hf, S => by
    unfold kas_asc
    have en := S.idn n (Nat.le_refl _) (by lia)
    obtain ⟨x, ex⟩ := at_of (p := p) (a := n - 1) (by have := S.size; lia)
    have hx := S.low _ _ (by lia) ex
    rw [getD_of en, getD_of ex]
    refine ⟨by lia, by lia, ?_⟩
    cases e : lt n x with
    | true =>
      dsimp only
      rw [if_pos rfl]
      exact ⟨Nat.le_refl _, S, fun _ => ⟨x, ex, e⟩⟩
    | false =>
      dsimp only
      rw [if_neg (by decide)]
      have sx : slt lt x n := .inr ⟨e, hx⟩
      refine KOk.mono (fun m hm => ⟨by lia, hm.2⟩) _ (asc_ok O f (n + 1) (by lia) (by lia) ⟨S.size, S.perm, by lia, fun a y ha ey => ?_, fun c hc => S.idn c (by lia), fun a b y z hab hb ey ez => ?_⟩)
      · by_cases c : a = n
        · rw [c, en] at ey; cases ey; lia
        · have := S.low a y (by lia) ey; lia
      · by_cases c : b = n
        · rw [c, en] at ez; cases ez
          by_cases c2 : a = n - 1
          · rw [c2, ex] at ey; cases ey; exact sx
          · exact (S.srt a (n - 1) y x (by lia) (by lia) ey ex).trans O (by have := S.low a y (by lia) ey; lia) (by lia) (by lia) sx
        · exact S.srt a b y z hab (by lia) ey ez

theorem SrtA.bd {p : Array Nat} {k : Nat} (S : SrtA N lt p k) {a x : Nat} (h : p[a]? = some x) : x < N := by
  by_cases c : a < k
  · exact Nat.lt_of_lt_of_le (S.low a x c h) S.le
  · have ha : a < p.size := (Array.getElem?_eq_some_iff.mp h).1
    have := S.idn a (by lia) (by have := S.size; lia)
    rw [this] at h; cases h
    have := S.size; lia

structure DscA (N : Nat) (lt : Nat → Nat → Bool) (p : Array Nat) (m n : Nat) : Prop where
  size : p.size = N
  perm : p.Perm (List.range N).toArray
  le : n ≤ N
  mn : m < n
  low : ∀ a x, a < m → p[a]? = some x → x < m
  idn : ∀ c, m ≤ c → c < N → p[c]? = some c
  dsc : ∀ a b x y, a < b → b < m → p[a]? = some x → p[b]? = some y → slt lt y x
  run : ∀ a x c, a < m → p[a]? = some x → m ≤ c → c < n → lt c x = true
  tie : ∀ c d, m ≤ c → c < n → m ≤ d → d < n → lt c d = false
structure RvA (N : Nat) (lt : Nat → Nat → Bool) (p : Array Nat) (n : Nat) : Prop where
  size : p.size = N
  perm : p.Perm (List.range N).toArray
  le : n ≤ N
  low : ∀ a x, a < n → p[a]? = some x → x < n
  idn : ∀ c, n ≤ c → c < N → p[c]? = some c
  dsc : ∀ a b x y, a < b → b < n → p[a]? = some x → p[b]? = some y → slt lt y x
theorem rev_at {p : Array Nat} {i j : Nat} (hj : j ≤ p.size) (k : Nat) : (kas_rev p i j)[k]? = if i ≤ k ∧ k < j then p[i + j - 1 - k]? else p[k]? := getElem?_mirror_all hj k
theorem DscA.turn {p : Array Nat} {m n : Nat} (D : DscA N lt p m n) : RvA N lt (kas_rev p m n) n := by
  have hz := D.size
  have hle := D.le
  have hmn := D.mn
  refine ⟨(mirror_size _ _ _ _).trans hz, (mirror_perm _ _ _ _).trans D.perm, hle, fun a x ha ex => ?_, fun c hc hN => ?_, fun a b x y hab hb ex ey => ?_⟩
  · rw [rev_at (by lia)] at ex
    split at ex
    · rw [D.idn _ (by lia) (by lia)] at ex; cases ex; lia
    · have := D.low a x (by lia) ex; lia
  · rw [rev_at (by lia), if_neg (by lia)]
    exact D.idn c (by lia) hN
  · rw [rev_at (by lia)] at ex ey
    by_cases cb : m ≤ b
    · rw [if_pos ⟨cb, hb⟩, D.idn _ (by lia) (by lia)] at ey; cases ey
      by_cases ca : m ≤ a
      · rw [if_pos ⟨ca, by lia⟩, D.idn _ (by lia) (by lia)] at ex; cases ex
        exact .inr ⟨D.tie _ _ (by lia) (by lia) (by lia) (by lia), by lia⟩
      · rw [if_neg (by lia)] at ex
        exact .inl (D.run a x _ (by lia) ex (by lia) (by lia))
    · rw [if_neg (by lia)] at ex ey
      exact D.dsc a b x y hab (by lia) ex ey
theorem DscA.one {p : Array Nat} {m : Nat} (D : DscA N lt p m (m + 1)) : RvA N lt p (m + 1) := by
  have hle := D.le
  refine ⟨D.size, D.perm, hle, fun a x ha ex => ?_, fun c hc hN => D.idn c (by lia) hN, fun a b x y hab hb ex ey => ?_⟩
  · by_cases c : a = m
    · rw [c, D.idn m (Nat.le_refl _) (by lia)] at ex; cases ex; lia
    · have := D.low a x (by lia) ex; lia
  · by_cases c : b = m
    · rw [c, D.idn m (Nat.le_refl _) (by lia)] at ey; cases ey
      exact .inl (D.run a x m (by lia) ex (Nat.le_refl _) (by lia))
    · exact D.dsc a b x y hab (by lia) ex ey
theorem RvA.bd {p : Array Nat} {n : Nat} (R : RvA N lt p n) {a x : Nat} (ha : a < n) (h : p[a]? = some x) : x < N := Nat.lt_of_lt_of_le (R.low a x ha h) R.le
theorem RvA.more (O : Swo N lt) {p : Array Nat} {n : Nat} (R : RvA N lt p n) (hn : n < N) (h0 : 0 < n) {x : Nat} (ex : p[n - 1]? = some x) (h : lt n x = true) : DscA N lt p n (n + 1) := by
  refine ⟨R.size, R.perm, hn, Nat.lt_succ_self _, R.low, R.idn, R.dsc, fun a y c ha ey hc hc' => ?_, fun c d hc hc' hd hd' => ?_⟩
  · obtain rfl : c = n := by lia
    by_cases ca : a = c - 1
    · rw [ca, ex] at ey; cases ey; exact h
    · have s1 := R.dsc a (c - 1) y x (by lia) (by lia) ey ex
      have hy := R.bd ha ey
      have hx := R.bd (by lia) ex
      rcases O.ng c x y hn hx hy h with z | z
      · exact z
      · rw [s1.ngt O hx hy] at z; cases z
  · obtain rfl : c = n := by lia
    obtain rfl : d = c := by lia
    exact O.irr _ hn
theorem RvA.turn {p : Array Nat} {n : Nat} (R : RvA N lt p n) : SrtA N lt (kas_rev p 0 n) n := by
  have hz := R.size
  have hle := R.le
  refine ⟨(mirror_size _ _ _ _).trans hz, (mirror_perm _ _ _ _).trans R.perm, hle, fun a x ha ex => ?_, fun c hc hN => ?_, fun a b x y hab hb ex ey => ?_⟩
  · rw [rev_at (by lia), if_pos ⟨by lia, ha⟩] at ex
    exact R.low _ x (by lia) ex
  · rw [rev_at (by lia), if_neg (by lia)]
    exact R.idn c hc hN
  · rw [rev_at (by lia), if_pos ⟨by lia, by lia⟩] at ex ey
    exact R.dsc _ _ y x (by lia) (by lia) ey ex

theorem desc_ok (O : Swo N lt) : ∀ (f : Nat) (p : Array Nat) (m n q : Nat), n + f = N → n = m + q + 1 → DscA N lt p m n → KOk N lt (kas_desc f p n q) (fun r => ∃ m, r.2.1 = m + r.2.2 + 1 ∧ DscA N lt r.1 m r.2.1)
  | 0, p, m, n, q, _, hq, D => ⟨m, hq, D⟩
  | f + 1, p, m, n, q, hf, hq, D => by
    unfold kas_desc
    have hz := D.size
    have en := D.idn n (by lia) (by lia)
    have ep := D.idn (n - 1) (by lia) (by lia)
    rw [getD_of en, getD_of ep]
    refine ⟨by lia, by lia, ?_⟩
    cases e : lt n (n - 1) with
    | true =>
      dsimp only
      rw [if_pos rfl]
      by_cases hq0 : q > 0
      · rw [if_pos hq0]
        have em : n - (q + 1) = m := by lia
        rw [em]
        have R := D.turn
        have ex : (kas_rev p m n)[n - 1]? = some m := by
          rw [rev_at (by lia), if_pos ⟨by lia, by lia⟩]
          have := D.idn m (Nat.le_refl _) (by lia)
          rw [← this]; congr 1; lia
        have hl : lt n m = true := by
          rcases O.ng n (n - 1) m (by lia) (by lia) (by lia) e with z | z
          · exact z
          · rw [D.tie m (n - 1) (by lia) (by lia) (by lia) (by lia)] at z; cases z
        exact desc_ok O f _ n (n + 1) 0 (by lia) (by lia) (R.more O (by lia) (by lia) ex hl)
      · rw [if_neg hq0]
        have hq' : q = 0 := by lia
        subst hq'
        have R := (show n = m + 1 by lia) ▸ D |>.one
        have R' : RvA N lt p n := by rw [show n = m + 1 by lia]; exact R
        exact desc_ok O f p n (n + 1) 0 (by lia) (by lia) (R'.more O (by lia) (by lia) ep e)
    | false =>
      dsimp only
      rw [if_neg (by decide)]
      refine ⟨by lia, by lia, ?_⟩
      cases e2 : lt (n - 1) n with
      | true =>
        dsimp only
        rw [if_pos rfl]
        exact ⟨m, hq, D⟩
      | false =>
        dsimp only
        rw [if_neg (by decide)]
        refine desc_ok O f p m (n + 1) (q + 1) (by lia) (by lia) ⟨hz, D.perm, by lia, by lia, D.low, D.idn, D.dsc, fun a x c ha ex hc hc' => ?_, fun c d hc hc' hd hd' => ?_⟩
        · by_cases cn : c = n
          · subst cn
            have h1 := D.run a x (c - 1) ha ex (by lia) (by lia)
            have hx : x < N := by have := D.low a x ha ex; lia
            rcases O.ng (c - 1) x c (by lia) hx (by lia) h1 with z | z
            · rw [e2] at z; cases z
            · exact z
          · exact D.run a x c ha ex hc (by lia)
        · have t1 : ∀ c, m ≤ c → c < n → lt n c = false ∧ lt c n = false := by
            intro c hc hc'
            constructor
            · cases z : lt n c with
              | false => rfl
              | true =>
                rcases O.ng n c (n - 1) (by lia) (by lia) (by lia) z with y | y
                · rw [e] at y; cases y
                · rw [D.tie (n - 1) c (by lia) (by lia) hc hc'] at y; cases y
            · cases z : lt c n with
              | false => rfl
              | true =>
                rcases O.ng c n (n - 1) (by lia) (by lia) (by lia) z with y | y
                · rw [D.tie c (n - 1) hc hc' (by lia) (by lia)] at y; cases y
                · rw [e2] at y; cases y
          by_cases cn : c = n <;> by_cases dn : d = n
          · subst cn; subst dn; exact O.irr _ (by lia)
          · subst cn; exact (t1 d hd (by lia)).1
          · subst dn; exact (t1 c hc (by lia)).2
          · exact D.tie c d hc (by lia) hd (by lia)
theorem tail3_ok (O : Swo N lt) {p : Array Nat} {n : Nat} (h1 : 1 ≤ n) (R : RvA N lt p n) : KOk N lt (kas_tail3 n N p) (fun r => 1 ≤ r.1 ∧ SrtA N lt r.2 r.1) := by
  unfold kas_tail3
  have hle := R.le
  exact KOk.bind _ (KOk.mono (fun m hm => (⟨by show 1 ≤ m; lia, hm.2.1⟩ : 1 ≤ m ∧ SrtA N lt _ m)) _ (asc_ok O (N - n) n h1 (by lia) R.turn))
theorem descPart_ok (O : Swo N lt) {p : Array Nat} {n : Nat} (hn : n + 1 ≤ N) (D : DscA N lt p n (n + 1)) : KOk N lt (kas_descPart n N p) (fun r => 1 ≤ r.1 ∧ SrtA N lt r.2 r.1) := by
  unfold kas_descPart
  refine KOk.bind _ (KOk.mono (fun r hr => ?_) _ (desc_ok O (N - (n + 1)) p n (n + 1) 0 (by lia) (by lia) D))
  obtain ⟨m, hm, D'⟩ := hr
  split
  · have em : r.2.1 - (r.2.2 + 1) = m := by lia
    rw [em]
    exact tail3_ok O (by lia) D'.turn
  · have e0 : r.2.1 = m + 1 := by lia
    rw [e0] at D' ⊢
    exact tail3_ok O (by lia) D'.one
theorem count_ok (O : Swo N lt) (hN : 1 ≤ N) : KOk N lt (kas_count N (List.range N).toArray) (fun r => 1 ≤ r.1 ∧ SrtA N lt r.2 r.1) := by
  have hid : ∀ c, c < N → (List.range N).toArray[c]? = some c := fun c hc => by simp [hc]
  unfold kas_count
  have S0 : SrtA N lt (List.range N).toArray 1 := ⟨by simp, Array.Perm.refl _, hN, fun a x ha ex => by
      obtain rfl : a = 0 := by lia
      rw [hid 0 (by lia)] at ex; cases ex; lia, fun c _ hc => hid c hc, fun a b _ _ hab hb => by lia⟩
  refine KOk.bind _ (KOk.mono (fun n hn => ?_) _ (asc_ok O (N - 1) 1 (Nat.le_refl _) (by lia) S0))
  obtain ⟨h1, S, hlast⟩ := hn
  have hle := S.le
  split
  · exact ⟨h1, S⟩
  · rename_i hne
    have hlt : n < N := by have : n ≠ N := by simpa using hne
                           lia
    obtain ⟨x, ex, hx⟩ := hlast hlt
    have ex' : x = n - 1 := by rw [hid (n - 1) (by lia)] at ex; cases ex; rfl
    subst ex'
    split
    · rename_i h2
      rw [getD_of (hid 0 (by lia)), getD_of (hid (n - 1) (by lia))]
      refine ⟨by lia, by lia, ?_⟩
      cases e : lt 0 (n - 1) with
      | true =>
        dsimp only
        rw [if_pos rfl]
        exact ⟨h1, S⟩
      | false =>
        dsimp only
        rw [if_neg (by decide)]
        -- all of them are ties
        have tie : ∀ c d, c < n → d < n → lt c d = false := by
          intro c d hc hd
          cases z : lt c d with
          | false => rfl
          | true =>
            have h0 : lt c 0 = false := by
              by_cases c0 : c = 0
              · subst c0; exact O.irr _ (by lia)
              · exact (S.srt 0 c 0 c (by lia) hc (hid 0 (by lia)) (hid c (by lia))).ngt O (by lia) (by lia)
            have h3 : lt (n - 1) d = false := by
              by_cases c0 : d = n - 1
              · rw [c0]; exact O.irr _ (by lia)
              · exact (S.srt d (n - 1) d (n - 1) (by lia) (by lia) (hid d (by lia)) (hid (n - 1) (by lia))).ngt O (by lia) (by lia)
            rcases O.ng c d 0 (by lia) (by lia) (by lia) z with y | y
            · rw [h0] at y; cases y
            · rcases O.ng 0 d (n - 1) (by lia) (by lia) (by lia) y with y | y
              · rw [e] at y; cases y
              · rw [h3] at y; cases y
        have D0 : DscA N lt (List.range N).toArray 0 n := ⟨by simp, Array.Perm.refl _, hle, by lia, fun a _ ha => by lia, fun c _ hc => hid c hc, fun a b _ _ _ hb => by lia, fun a _ _ ha => by lia, fun c d _ hc _ hd => tie c d hc hd⟩
        have R := D0.turn
        have ez : (kas_rev (List.range N).toArray 0 n)[n - 1]? = some 0 := by
          rw [rev_at (by simp; lia), if_pos ⟨by lia, by lia⟩]
          have := hid 0 (by lia)
          rw [← this]; congr 1; lia
        have hl : lt n 0 = true := by
          rcases O.ng n (n - 1) 0 (by lia) (by lia) (by lia) hx with z | z
          · exact z
          · rw [e] at z; cases z
        exact descPart_ok O (by lia) (R.more O hlt (by lia) ez hl)
    · have e1 : n = 1 := by lia
      subst e1
      refine descPart_ok O (by lia) ?_
      have R : RvA N lt (List.range N).toArray 1 := ⟨by simp, Array.Perm.refl _, by lia, S.low, S.idn, fun a b _ _ _ hb => by lia⟩
      exact R.more O hlt (by lia) ex hx
theorem place_ok (O : Swo N lt) {p : Array Nat} {k : Nat} (hk : k < N) (S : SrtA N lt p k) : ∀ (f l r : Nat), l ≤ r → r ≤ k → r - l ≤ f → (∀ a x, a < l → p[a]? = some x → lt k x = false) → (∀ a x, r ≤ a → a < k → p[a]? = some x → lt k x = true) →
    KOk N lt (kas_place p k f l r) (fun c => c ≤ k ∧ (∀ a x, a < c → p[a]? = some x → lt k x = false) ∧ ∀ a x, c ≤ a → a < k → p[a]? = some x → lt k x = true)
  | 0, l, r, h1, h2, h3, hl, hr => ⟨by lia, hl, fun a x ha => hr a x (by lia)⟩
  | f + 1, l, r, h1, h2, h3, hl, hr => by
    unfold kas_place
    split
    · exact ⟨by lia, hl, fun a x ha => hr a x (by lia)⟩
    · have hz := S.size
      obtain ⟨y, ey⟩ := at_of (p := p) (a := (l + r) / 2) (by lia)
      have hy := S.bd ey
      rw [getD_of (S.idn k (Nat.le_refl _) hk), getD_of ey]
      refine ⟨hk, hy, ?_⟩
      cases e : lt k y with
      | true =>
        dsimp only
        rw [if_pos rfl]
        refine place_ok O hk S f l ((l + r) / 2) (by lia) (by lia) (by lia) hl fun a x ha ha' ex => ?_
        by_cases c : a = (l + r) / 2
        · rw [c, ey] at ex; cases ex; exact e
        · have s1 := S.srt _ a y x (by lia) ha' ey ex
          rcases O.ng k y x hk hy (S.bd ex) e with z | z
          · exact z
          · rw [s1.ngt O hy (S.bd ex)] at z; cases z
      | false =>
        dsimp only
        rw [if_neg (by decide)]
        refine place_ok O hk S f ((l + r) / 2 + 1) r (by lia) h2 (by lia) (fun a x ha ex => ?_) hr
        by_cases c : a = (l + r) / 2
        · rw [c, ey] at ex; cases ex; exact e
        · have s1 := S.srt a _ x y (by lia) (by lia) ex ey
          cases z : lt k x with
          | false => rfl
          | true =>
            rcases O.ng k x y hk (S.bd ex) hy z with w | w
            · rw [e] at w; cases w
            · rw [s1.ngt O (S.bd ex) hy] at w; cases w
theorem bin_ok (O : Swo N lt) : ∀ (f : Nat) (p : Array Nat) (k : Nat), k + f = N → SrtA N lt p k → KOk N lt (kas_bin f p k) (fun p => SrtA N lt p N)
  | 0, p, k, hf, S => by
    obtain rfl : k = N := by lia
    exact S
  | f + 1, p, k, hf, S => by
    unfold kas_bin
    have hk : k < N := by lia
    refine KOk.bind _ (KOk.mono (fun l hl => ?_) _ (place_ok O hk S k 0 k (by lia) (Nat.le_refl _) (by lia) (fun a _ ha => by lia) (fun a _ ha ha' => by lia)))
    obtain ⟨hlk, hlo, hhi⟩ := hl
    have hz := S.size
    have bat : ∀ i : Nat, (bubble p k (k - l))[i]? = if i = l then some k else if l < i ∧ i ≤ k then p[i - 1]? else p[i]? := by
      intro i
      rw [getElem?_bubble (by lia) _ (by lia), show k - (k - l) = l by lia, S.idn k (Nat.le_refl _) hk]
    refine bin_ok O f _ (k + 1) (by lia) ⟨(bubble_size _ _ _).trans hz, (bubble_perm _ _ _).trans S.perm, by lia, fun a x ha ex => ?_, fun c hc hN => ?_, fun a b x y hab hb ex ey => ?_⟩
    · rw [bat] at ex
      split at ex
      · cases ex; lia
      · split at ex
        · have := S.low _ x (by lia) ex; lia
        · have := S.low a x (by lia) ex; lia
    · rw [bat, if_neg (by lia), if_neg (by lia)]
      exact S.idn c (by lia) hN
    · rw [bat] at ex ey
      by_cases ca : a = l
      · rw [if_pos ca] at ex; cases ex
        rw [if_neg (by lia), if_pos (by lia)] at ey
        exact .inl (hhi _ y (by lia) (by lia) ey)
      · rw [if_neg ca] at ex
        by_cases cb : b = l
        · rw [if_pos cb] at ey; cases ey
          rw [if_neg (by lia)] at ex
          exact .inr ⟨hlo a x (by lia) ex, S.low a x (by lia) ex⟩
        · rw [if_neg cb] at ey
          by_cases c1 : l < a ∧ a ≤ k <;> by_cases c2 : l < b ∧ b ≤ k
          · rw [if_pos c1] at ex; rw [if_pos c2] at ey
            exact S.srt _ _ x y (by lia) (by lia) ex ey
          · exfalso; lia
          · rw [if_neg c1] at ex; rw [if_pos c2] at ey
            exact S.srt _ _ x y (by lia) (by lia) ex ey
          · rw [if_neg c1] at ex; rw [if_neg c2] at ey
            exact S.srt _ _ x y hab (by lia) ex ey
theorem sort_ok (O : Swo N lt) (hN : 1 ≤ N) : KOk N lt (kas_sort N) (fun p => SrtA N lt p N) := by
  unfold kas_sort
  refine KOk.bind _ (KOk.mono (fun r hr => ?_) _ (count_ok O hN))
  obtain ⟨h1, S⟩ := hr
  split
  · have e : max r.1 1 = r.1 := by lia
    rw [e]
    exact bin_ok O _ _ _ (by have := S.le; lia) S
  · have := S.le
    obtain e : r.1 = N := by lia
    rw [e] at S
    exact S
end
end

section
noncomputable def newsX (h₀ h : Heap) (X : List Addr) : List (Addr × Obj) := (List.range h.objs.size).filterMap fun a => match h.get? a with
  | some o => if a ∈ X ∨ (h₀.get? a).isSome = true then none else some (a, o)
  | none => none
theorem mem_newsX {h₀ h : Heap} {X : List Addr} {p : Addr × Obj} : p ∈ newsX h₀ h X ↔ h.get? p.1 = some p.2 ∧ p.1 ∉ X ∧ h₀.get? p.1 = none := by
  unfold newsX
  rw [List.mem_filterMap]
  constructor
  · rintro ⟨a, _, e⟩
    split at e
    · rename_i o ho
      split at e
      · cases e
      · rename_i hn
        cases e
        have : ¬ (h₀.get? a).isSome = true := fun z => hn (.inr z)
        exact ⟨ho, fun m => hn (.inl m), by simpa using this⟩
    · cases e
  · rintro ⟨h1, h2, h3⟩
    refine ⟨p.1, List.mem_range.mpr (Heap.lt_size h1), ?_⟩
    rw [h1, h3]
    simp [h2]
theorem news_newsX {h₀ h : Heap} {L : Addr} {X : List Addr} (hL : L ∈ X) : News h₀ L h (newsX h₀ h X) := fun p m => by
  obtain ⟨a, b, c⟩ := mem_newsX.mp m
  exact ⟨a, fun z => b (z ▸ hL), c⟩
theorem pr_newsX {h₀ h h' : Heap} {L : Addr} {X : List Addr} {m : Str → Option Value} {news : List (Addr × Obj)} (F : Fr h₀ L h' m) (N : News h₀ L h' news) (hs : ∀ p ∈ newsX h₀ h X, p ∈ news) (F0 : Kp h₀ h) : Pr X h h' := fun a o e n => by
  cases q : h₀.get? a with
  | some o' =>
    have := F0 _ _ q
    rw [e] at this; cases this
    exact F.keep _ _ q
  | none => exact (N (a, o) (hs _ (mem_newsX.mpr ⟨e, n, q⟩))).1

section
variable {prog : Program} {w : World} {mg mb : Str → Option Value} {A : Around} {C : Addr}
theorem key_lt {E : Value → Shared → Prop} {late : Bool} {v1 v2 x1 x2 : Value} {p r : Str × Int} {s : Shared} {Q : Bool → Shared → Prop} (G : Gd w mg mb s.heap) (y : KAt (Of s.heap []) C) (a : Ar A 4)
    (k1 : KeyH (Of s.heap []) C v1 x1) (k2 : KeyH (Of s.heap []) C v2 x2) (i1 : ItemH late (Of s.heap []) x1 p) (i2 : ItemH late (Of s.heap []) x2 r)
    (q : ∀ h' t', Kp s.heap h' → Q (ltK late p r) ⟨h', s.gens, s.drawn, t', s.os⟩) : wpAny (model prog w) A (keyLt' oneType' v1 v2) Q E s := by
  rw [keyLt'_oneType, oneLt'_eq]
  simp only [if_true]
  refine wpAny_bind (wpAny_cRoomFor (by have := a.un; lia) ?_)
  refine wpAny_bind (key_ifb (op := .Lt) rfl G y a k1 k2 i1 i2 fun h' t' k => ?_)
  exact wpAny_truthy_bool (q h' t' k)

structure SkI (w : World) (mg mb : Str → Option Value) (h₀ h : Heap) (L kS D : Addr) (m : Str → Option Value) (g : Array GenState) (d : Drawn) (os : OsState) (C : Addr) (e1 : Nat) (vs : List Value) (ks : List Value) (e : Nat) (s : Shared) : Prop where
  eq : ∃ h' t', s = ⟨h', g, d, t', os⟩
  fr : Fr h₀ L s.heap m
  pr : Pr [L] h s.heap
  hk : s.heap.get? kS = some (seqObj "list" ks.toArray e)
  hD : s.heap.get? D = some (seqObj "list" #[] e1)
  keys : All2 (KeyH (Of s.heap [L, kS, D]) C) ks vs
theorem SkI.kp {h₀ h : Heap} {L kS D : Addr} {m : Str → Option Value} {g : Array GenState} {d : Drawn} {os : OsState} {e1 : Nat} {vs ks : List Value} {e : Nat} {s : Shared} {h' : Heap} {t' : Nat}
    (I : SkI w mg mb h₀ h L kS D m g d os C e1 vs ks e s) (k : Kp s.heap h') : SkI w mg mb h₀ h L kS D m g d os C e1 vs ks e ⟨h', s.gens, s.drawn, t', s.os⟩ := by
  obtain ⟨h2, t2, rfl⟩ := I.eq
  exact ⟨⟨_, _, rfl⟩, ⟨I.fr.ns.keeps k, fun b o q => k b o (I.fr.keep b o q), I.fr.above⟩, I.pr.trans (k.pr _), k _ _ I.hk, k _ _ I.hD, I.keys.mono fun _ _ x => x.le (k.le _)⟩

theorem r_sortedK {E : Value → Shared → Prop} {h₀ h : Heap} {g : Array GenState} {d : Drawn} {t : Nat} {os : OsState} {L l : Addr} {lc : List (Str × Value)} {vs : List Value} {its : List (Str × Int)} {late : Bool} {X : List Addr} {Q : Value → Shared → Prop}
    (F : FrL h₀ L h lc) (G : Gd w mg mb h₀) (y : KAt (Of h [L]) C) (a : Ar A 5) (hl : h.IsList l vs.toArray) (hi : All2 (ItemH late (Of h [L])) vs its) (h2 : 2 ≤ its.length) (h64 : its.length < 64)
    (O : Swo its.length (fun i j => match its[i]?, its[j]? with | some p, some r => ltK late p r | _, _ => false))
    (q : ∀ D p h' t' c, FrL h₀ L h' lc → Pr [L] h h' → h.get? D = none → D ≠ L → h'.get? D = some (listOf (p.toList.map fun i => vs.getD i .none).toArray c) →
      SrtA its.length (fun i j => match its[i]?, its[j]? with | some p, some r => ltK late p r | _, _ => false) p its.length → Q (.ref D) ⟨h', g, d, t', os⟩) :
    wpAny (model prog w) A (call (.builtin "sorted") [.ref l] [(Str.ofString "key", .ref C)]) Q E ⟨h, g, d, t, os⟩ := by
  obtain ⟨m, Fm, hm⟩ := F.ex
  have hlen := hi.length
  have F0 : Kp h₀ h := F.keep
  have a2 : Ar A.in1.in1 4 := ⟨a.hd, by show A.depth + 4 < _; have := a.dp; lia, by show A.units + 1 + 1 + 20 * 4 < _; have := a.un; lia⟩
  refine kat_sortedK (s := ⟨h, g, d, t, os⟩) (b := false) (f := .ref C) (news := newsX h₀ h [L]) Fm (news_newsX (.head _)) hl (by lia) (by lia) (ksk_s1 _ _) (fun x => ksk_l1 _ _) (fun x => ksk_t1 _ _) ?_
  intro D kS e1 h₁ F₁ N₁ hDk hnD
  have P₁ : Pr [L] h h₁ := pr_newsX F₁ N₁ (fun p m => .tail _ (.tail _ m)) F0
  have nk := N₁ _ (.head _)
  have nD := N₁ _ (.tail _ (.head _))
  have fresh : ∀ b o, b ≠ L → h₀.get? b = none → D ≤ b → h.get? b = some o → False := fun b o hb h0 hle e => by
    have := hnD (b, o) (mem_newsX.mpr ⟨e, by simpa using hb, h0⟩)
    exact absurd this (Nat.not_lt.mpr hle)
  have hD : h.get? D = none := by
    cases e : h.get? D with
    | none => rfl
    | some o => exact (fresh D o nD.2.1 nD.2.2 (Nat.le_refl _) e).elim
  have hk : h.get? kS = none := by
    cases e : h.get? kS with
    | none => rfl
    | some o => exact (fresh kS o nk.2.1 nk.2.2 (Nat.le_of_lt hDk) e).elim
  have hne : kS ≠ D := Nat.ne_of_gt hDk
  have off : ∀ {hh : Heap}, Pr [L] h hh → Le (Of h [L]) (Of hh [L, kS, D]) := fun p b o e => ⟨p b o e.1 e.2, fun m => by
    rcases List.mem_cons.mp m with z | m
    · exact e.2 (by rw [z]; exact .head _)
    rcases List.mem_cons.mp m with z | m
    · have e1 := e.1; rw [z, hk] at e1; cases e1
    · have e1 := e.1; rw [List.mem_singleton.mp m, hD] at e1; cases e1⟩
  have gd : ∀ {hh : Heap}, Fr h₀ L hh m → Gd w mg mb hh := fun f => G.keeps f.keep
  -- the keys are made
  have made : ∀ (r done : List Value) (ks : List Value) (e : Nat) (s : Shared), done ++ r = vs → SkI w mg mb h₀ h L kS D m g d os C e1 done ks e s →
      KatKeys prog w A.in1.in1 h₀ L m kS (.ref C) (fun ks e s' => wpAny (model prog w) A.in1.in1 (keyKind' (List.toArray ks)) (fun κ s'' => (kas_sort vs.length).kasWp (kas_ask prog w A.in1.in1 κ (katRev false ks)) (fun p s3 => KatFin h₀ L m kS D ks e e1 (katRev false (p.toList.map fun i => (katRev false vs).getD i Value.none)) (fun s4 => Q (.ref D) s4) s3) s'') (fun _ _ => False) s') r ks e s := by
    intro r
    induction r with
    | nil =>
      intro done ks e s ed I
      rw [List.append_nil] at ed
      subst ed
      refine KatKeys.nil ?_
      have kl := I.keys.length
      refine kas_kind (T := .ref C) (by lia) (fun v hv => ?_) (by simp) (by simp) ?_
      · obtain ⟨j, hj⟩ := List.getElem?_of_mem hv
        obtain ⟨x, _, n1, d1, rfl, ⟨g1, _⟩, ⟨e1, _⟩⟩ := I.keys.get' hj
        exact (Looks.ld g1).andThen .now
      · refine KOk.wp (SkI w mg mb h₀ h L kS D m g d os C e1 done ks e) (fun i j c s' hi' hj' I' hc => ?_) (fun p s' hp I' => ?_) _ s (by rw [hlen]; exact sort_ok O (by lia)) I
        · unfold kas_ask katRev
          simp only [Bool.false_eq_true, if_false]
          obtain ⟨p, ep⟩ : ∃ p, its[i]? = some p := ⟨_, List.getElem?_eq_getElem hi'⟩
          obtain ⟨r, er⟩ : ∃ p, its[j]? = some p := ⟨_, List.getElem?_eq_getElem hj'⟩
          obtain ⟨v1, ev1, j1⟩ := hi.get ep
          obtain ⟨v2, ev2, j2⟩ := hi.get er
          obtain ⟨k1, ek1, y1⟩ := I'.keys.get ev1
          obtain ⟨k2, ek2, y2⟩ := I'.keys.get ev2
          have e1' : ks.getD i Value.none = k1 := by rw [List.getD_eq_getElem?_getD, ek1]; rfl
          have e2' : ks.getD j Value.none = k2 := by rw [List.getD_eq_getElem?_getD, ek2]; rfl
          rw [e1', e2']
          have M := off I'.pr
          refine key_lt (gd I'.fr) ((y.keeps M).keeps Of.all) a2 (y1.le Of.all) (y2.le Of.all) ((j1.le M).le Of.all) ((j2.le M).le Of.all) fun h' t' k => ?_
          have := hc _ (I'.kp (t' := t') k)
          rw [ep, er] at this
          exact this
        · obtain ⟨h', t', rfl⟩ := I'.eq
          have hp' : Kp h₀ h' := I'.fr.keep
          refine KatFin.intro (news := (kS, seqObj "list" ks.toArray e) :: newsX h₀ h' [L, kS]) (g := fun o => (kS, o) :: newsX h₀ h' [L, kS]) I'.fr (fun p m' => ?_) (.head fun p m' z => (mem_newsX.mp m').2.1 (by rw [z]; simp)) fun h3 c F3 N3 => ?_
          · rcases List.mem_cons.mp m' with rfl | m'
            · exact ⟨I'.hk, nk.2.1, nk.2.2⟩
            · exact news_newsX (.head _) p m'
          · have P3 : Pr [L, kS] h' h3 := pr_newsX F3 N3 (fun p m' => .tail _ m') hp'
            have hD3 : h3.get? D = some (seqObj "list" #[] e1) := P3.get I'.hD (by simp [nD.2.1, Ne.symm hne])
            refine KasFin.intro (news := (D, seqObj "list" #[] e1) :: newsX h₀ h3 [L, D]) (g := fun o => (D, o) :: newsX h₀ h3 [L, D]) F3 (fun p m' => ?_) (.head fun p m' z => (mem_newsX.mp m').2.1 (by rw [z]; simp)) fun h4 c4 F4 N4 => ?_
            · rcases List.mem_cons.mp m' with rfl | m'
              · exact ⟨hD3, nD.2.1, nD.2.2⟩
              · exact news_newsX (.head _) p m'
            · have P4 : Pr [L, D] h3 h4 := pr_newsX F4 N4 (fun p m' => .tail _ m') F3.keep
              have PL : Pr [L] h h4 := fun b o e n => P4 b o (P3 b o (I'.pr b o e n) fun m' => by
                  rcases List.mem_cons.mp m' with z | m'
                  · exact n (by rw [z]; exact .head _)
                  · rw [List.mem_singleton.mp m', hk] at e; cases e) fun m' => by
                rcases List.mem_cons.mp m' with z | m'
                · exact n (by rw [z]; exact .head _)
                · rw [List.mem_singleton.mp m', hD] at e; cases e
              exact q D p h4 _ c4 ⟨m, F4, hm⟩ PL hD nD.2.1 (N4 _ (.head _)).1 hp
    | cons v r ih =>
      intro done ks e s ed I
      refine KatKeys.cons ?_
      have M := off I.pr
      refine r_con (mk_ok (gd I.fr) ((y.keeps M).keeps Of.all) (a2.less (by decide)) fun k h2 t2 k2 ke => ?_)
      have I2 := I.kp (t' := t2) k2
      obtain ⟨h1, t1, rfl⟩ := I.eq
      have ke2 : KeyH (Of h2 [L, kS, D]) C k v := ke.of fun b mb => by
        rcases List.mem_cons.mp mb with rfl | mb
        · obtain ⟨o, es, ep, x, _⟩ := I.fr.ns; exact ⟨o, x⟩
        rcases List.mem_cons.mp mb with rfl | mb
        · exact ⟨_, I.hk⟩
        · rw [List.mem_singleton.mp mb]; exact ⟨_, I.hD⟩
      refine KatBack.intro (news := (kS, seqObj "list" ks.toArray e) :: newsX h₀ h2 [L, kS]) (g := fun o => (kS, o) :: newsX h₀ h2 [L, kS]) I2.fr (fun p m' => ?_) (.head fun p m' z => (mem_newsX.mp m').2.1 (by rw [z]; simp)) fun h3 c F3 N3 => ?_
      · rcases List.mem_cons.mp m' with rfl | m'
        · exact ⟨I2.hk, nk.2.1, nk.2.2⟩
        · exact news_newsX (.head _) p m'
      · have P3 : Pr [L, kS] h2 h3 := pr_newsX F3 N3 (fun p m' => .tail _ m') I2.fr.keep
        refine ih (done ++ [v]) _ c _ (by rw [← ed]; simp) ⟨⟨h3, t2, rfl⟩, F3, fun b o eb n => P3 b o (I2.pr b o eb n) fun m' => ?_, (N3 _ (.head _)).1, P3.get I2.hD (by simp [nD.2.1, Ne.symm hne]), (I2.keys.mono fun _ _ x => x.le (P3.le (by simp))).snoc (ke2.le (P3.le (by simp)))⟩
        rcases List.mem_cons.mp m' with z | m'
        · exact n (by rw [z]; exact .head _)
        · rw [List.mem_singleton.mp m', hk] at eb; cases eb
  exact made vs [] [] 0 ⟨h₁, g, d, t, os⟩ rfl ⟨⟨_, _, rfl⟩, F₁, P₁, nk.1, nD.1, .nil⟩
end
end

section
theorem lex_marks (late : Bool) : ∀ a b : List Nat, lexI (marksL a late) (marksL b late) = aheadL a b late
  | [], [] => by cases late <;> rfl
  | [], c :: b => by
    show lexI [if late then 69 else 67] ((2 * (c : Int)) :: _) = (decide (34 < c) || (c == 34 && !late))
    unfold lexI
    cases late
    · simp only [Bool.false_eq_true, if_false]
      rw [if_neg (by lia), Bool.eq_iff_iff]; simp; lia
    · simp only [if_true]
      rw [if_neg (by lia), Bool.eq_iff_iff]; simp; lia
  | c :: a, [] => by
    show lexI ((2 * (c : Int)) :: _) [if late then 69 else 67] = (decide (c < 34) || (c == 34 && late))
    unfold lexI
    cases late
    · simp only [Bool.false_eq_true, if_false]
      rw [if_neg (by lia), Bool.eq_iff_iff]; simp; lia
    · simp only [if_true]
      rw [if_neg (by lia), Bool.eq_iff_iff]; simp; lia
  | x :: a, y :: b => by
    show lexI ((2 * (x : Int)) :: marksL a late) ((2 * (y : Int)) :: marksL b late) = (if x = y then aheadL a b late else decide (x < y))
    unfold lexI
    by_cases e : x = y
    · rw [if_pos (by rw [e]), if_pos e]; exact lex_marks late a b
    · rw [if_neg (by lia), if_neg e, Bool.eq_iff_iff]; simp
theorem ahead_asym (late : Bool) : ∀ a b : List Nat, aheadL a b late = true → aheadL b a late = false
  | [], [], h => by cases h
  | [], c :: b, h => by
    simp only [aheadL] at h ⊢
    cases late <;> simp at h ⊢ <;> lia
  | c :: a, [], h => by
    simp only [aheadL] at h ⊢
    cases late <;> simp at h ⊢ <;> lia
  | x :: a, y :: b, h => by
    simp only [aheadL] at h ⊢
    by_cases e : x = y
    · rw [if_pos e] at h; rw [if_pos e.symm]; exact ahead_asym late a b h
    · rw [if_neg e] at h; rw [if_neg (Ne.symm e)]; simp at h ⊢; lia
theorem ahead_eq (late : Bool) : ∀ a b : List Nat, aheadL a b late = false → aheadL b a late = false → a = b
  | [], [], _, _ => rfl
  | [], c :: b, h, h' => by
    simp only [aheadL] at h h'
    cases late <;> simp at h h' <;> lia
  | c :: a, [], h, h' => by
    simp only [aheadL] at h h'
    cases late <;> simp at h h' <;> lia
  | x :: a, y :: b, h, h' => by
    simp only [aheadL] at h h'
    by_cases e : x = y
    · rw [if_pos e] at h; rw [if_pos e.symm] at h'; rw [e, ahead_eq late a b h h']
    · rw [if_neg e] at h; rw [if_neg (Ne.symm e)] at h'; simp at h h'; lia
theorem ahead_irr (late : Bool) (a : List Nat) : aheadL a a late = false := by
  cases h : aheadL a a late with
  | false => rfl
  | true => rw [ahead_asym late a a h] at h; cases h
theorem key_ok (late : Bool) (p r : Str × Int) : KeyOk late p r := by
  have h1 := lex_marks late p.1.cps.toList r.1.cps.toList
  have h2 := lex_marks late r.1.cps.toList p.1.cps.toList
  have h3 : ltI late p r = true → ltI late r p = false := ahead_asym late _ _
  have e1 : lexI (marksL p.1.cps.toList late) (marksL r.1.cps.toList late) = ltI late p r := h1
  have e2 : lexI (marksL r.1.cps.toList late) (marksL p.1.cps.toList late) = ltI late r p := h2
  have c : cmp3 (marksL p.1.cps.toList late) (marksL r.1.cps.toList late) = dueC (ltI late p r) (ltI late r p) := by
    unfold cmp3
    rw [e1, e2]
    cases a : ltI late p r with
    | true => rw [h3 a]; rfl
    | false => cases ltI late r p <;> rfl
  refine ⟨?_, ?_, ?_, ?_, ?_, c⟩ <;> rw [c] <;> cases a : ltI late p r <;> cases b : ltI late r p <;> first | rfl | (rw [h3 a] at b; cases b)
theorem ltK_eq (late : Bool) (p r : Str × Int) : ltK late p r = ltI late p r := (key_ok late p r).lt
noncomputable def tlOk (late : Bool) : List Nat → Prop
  | [] => late = false
  | c :: _ => c ≠ 34 ∧ late = decide (34 < c)
theorem reply_lt (late : Bool) {tl : List Nat} (ht : tlOk late tl) : ∀ a b : List Nat, decide (StrLaws.dbl 34 a ++ 34 :: tl < StrLaws.dbl 34 b ++ 34 :: tl) = aheadL a b late
  | [], [] => by
    simp only [StrLaws.dbl, aheadL, List.nil_append]
    simp
  | [], c :: b => by
    simp only [StrLaws.dbl, aheadL, List.nil_append]
    by_cases e : c = 34
    · subst e
      simp only [if_true, List.cons_append, List.cons_lt_cons_iff]
      cases tl with
      | nil => simp only [tlOk] at ht; subst ht; simp
      | cons d tl =>
        obtain ⟨h1, h2⟩ := ht
        subst h2
        rw [Bool.eq_iff_iff]
        simp [List.cons_lt_cons_iff]
        lia
    · rw [Bool.eq_iff_iff]
      simp [List.cons_lt_cons_iff, e]
      lia
  | c :: a, [] => by
    simp only [StrLaws.dbl, aheadL, List.nil_append]
    by_cases e : c = 34
    · subst e
      simp only [if_true, List.cons_append, List.cons_lt_cons_iff]
      cases tl with
      | nil => simp only [tlOk] at ht; subst ht; simp
      | cons d tl =>
        obtain ⟨h1, h2⟩ := ht
        subst h2
        rw [Bool.eq_iff_iff]
        simp [List.cons_lt_cons_iff]
        lia
    · rw [Bool.eq_iff_iff]
      simp [List.cons_lt_cons_iff, e]
  | x :: a, y :: b => by
    have ih := reply_lt late ht a b
    simp only [StrLaws.dbl, aheadL]
    by_cases e : x = y
    · subst e
      rw [if_pos rfl, ← ih]
      by_cases e' : x = 34
      · simp [e', List.cons_lt_cons_iff]
      · simp [e', List.cons_lt_cons_iff]
    · rw [if_neg e, Bool.eq_iff_iff]
      by_cases e1 : x = 34 <;> by_cases e2 : y = 34 <;> simp [e1, e2, e, List.cons_lt_cons_iff] <;> lia
theorem scan_dbl : ∀ n : List Nat, scanL (StrLaws.dbl 34 n) = n
  | [] => rfl
  | c :: n => by
    simp only [StrLaws.dbl]
    by_cases e : c = 34
    · rw [if_pos e]; subst e; rw [scanL, scan_dbl n]
    · rw [if_neg e, scanL_ne e, scan_dbl n]
theorem scan_reply {tl : List Nat} {late : Bool} (ht : tlOk late tl) : ∀ n : List Nat, scanL (StrLaws.dbl 34 n ++ 34 :: tl) = n
  | [] => by
    show scanL (34 :: tl) = []
    cases tl with
    | nil => rfl
    | cons d tl =>
      rw [scanL]
      intro r e
      injection e with e1 e2
      exact ht.1 e1
  | c :: n => by
    simp only [StrLaws.dbl]
    by_cases e : c = 34
    · rw [if_pos e]; subst e
      show scanL (34 :: 34 :: (StrLaws.dbl 34 n ++ 34 :: tl)) = _
      rw [scanL, scan_reply ht n]
    · rw [if_neg e]
      show scanL (c :: (StrLaws.dbl 34 n ++ 34 :: tl)) = _
      rw [scanL_ne e, scan_reply ht n]
end

section
theorem ahead_nt (late : Bool) {a b c : List Nat} (h1 : aheadL b a late = false) (h2 : aheadL c b late = false) : aheadL c a late = false := by
  obtain ⟨tl, ht⟩ : ∃ tl, tlOk late tl := by
    cases late
    · exact ⟨[], rfl⟩
    · exact ⟨[35], by decide, rfl⟩
  rw [← reply_lt late ht, decide_eq_false_iff_not] at *
  intro h
  rcases natl_total (StrLaws.dbl 34 b ++ 34 :: tl) (StrLaws.dbl 34 a ++ 34 :: tl) with z | z | z
  · exact h1 z
  · rw [z] at h2; exact h2 h
  · exact h2 (natl_trans h z)
theorem srt_uniq {α : Type} {lt : α → α → Bool} : ∀ {l1 l2 : List α}, (∀ a ∈ l1, ∀ b ∈ l1, lt a b = false → lt b a = false → a = b) → l1.Perm l2 → l1.Pairwise (fun a b => lt b a = false) → l2.Pairwise (fun a b => lt b a = false) → l1 = l2
  | [], l2, _, p, _, _ => (List.Perm.nil_eq p)
  | a :: l1, [], _, p, _, _ => absurd p.length_eq (by simp)
  | a :: l1, b :: l2, an, p, s1, s2 => by
    have ma : a ∈ b :: l2 := p.subset (.head _)
    have mb : b ∈ a :: l1 := p.symm.subset (.head _)
    have e : a = b := by
      rcases List.mem_cons.mp ma with e | ma
      · exact e
      rcases List.mem_cons.mp mb with e | mb
      · exact e.symm
      · exact an a (.head _) b (.tail _ mb) (List.rel_of_pairwise_cons s2 ma) (List.rel_of_pairwise_cons s1 mb)
    subst e
    rw [srt_uniq (fun a ma b mb => an a (.tail _ ma) b (.tail _ mb)) (List.perm_cons a |>.mp p) (List.pairwise_cons.mp s1).2 (List.pairwise_cons.mp s2).2]
noncomputable def sltI (late : Bool) (p r : Str × Int) : Bool := ltI late p r || (!ltI late r p && decide (p.2 < r.2))
theorem sltI_anti (late : Bool) {p r : Str × Int} (h1 : sltI late p r = false) (h2 : sltI late r p = false) : p = r := by
  unfold sltI at h1 h2
  rw [Bool.or_eq_false_iff] at h1 h2
  obtain ⟨a1, b1⟩ := h1
  obtain ⟨a2, b2⟩ := h2
  rw [a2] at b1
  rw [a1] at b2
  simp at b1 b2
  have e := ahead_eq late _ _ a1 a2
  exact Prod.ext (Str.ext' (Array.toList_inj.mp e)) (by lia)
theorem put_srt (late : Bool) {x : Str × Int} : ∀ {l : List (Str × Int)}, l.Pairwise (fun a b => sltI late b a = false) → (∀ y ∈ l, y.2 < x.2) → (putF (ltI late) x l).Pairwise (fun a b => sltI late b a = false)
  | [], _, _ => .cons (fun _ m => nomatch m) .nil
  | y :: ys, s, hx => by
    unfold putF
    obtain ⟨s1, s2⟩ := List.pairwise_cons.mp s
    have asy : ∀ {p r : Str × Int}, ltI late p r = true → ltI late r p = false := fun h => ahead_asym late _ _ h
    cases c : ltI late x y with
    | true =>
      rw [if_pos rfl]
      refine .cons (fun z m => ?_) s
      have xz : ltI late x z = true := by
        rcases List.mem_cons.mp m with rfl | m
        · exact c
        · have h1 := s1 z m
          unfold sltI at h1
          rw [Bool.or_eq_false_iff] at h1
          cases d : ltI late x z with
          | true => rfl
          | false =>
            have := ahead_nt late (a := y.1.cps.toList) (b := z.1.cps.toList) (c := x.1.cps.toList) h1.1 d
            rw [show aheadL x.1.cps.toList y.1.cps.toList late = ltI late x y from rfl, c] at this; cases this
      unfold sltI
      rw [asy xz, xz]; rfl
    | false =>
      rw [if_neg (by decide)]
      refine .cons (fun z m => ?_) (put_srt late s2 fun z m => hx z (.tail _ m))
      rcases List.mem_cons.mp ((putF_perm _ _).subset m) with rfl | m
      · unfold sltI
        have := hx y (.head _)
        rw [c]; simp; lia
      · exact s1 z m
theorem lay_srt (late : Bool) {its : List (Str × Int)} (inc : its.Pairwise (fun a b => a.2 < b.2)) : (layF (ltI late) its).Pairwise (fun a b => sltI late b a = false) := by
  have h : ∀ n, (layF (ltI late) (its.take n)).Pairwise (fun a b => sltI late b a = false) := by
    intro n
    induction n with
    | zero => exact .nil
    | succ n ih =>
      rw [List.take_add_one]
      cases e : its[n]? with
      | none => simpa using ih
      | some x =>
        simp only [Option.toList_some]
        rw [layF_snoc]
        refine put_srt late ih fun y m => ?_
        have m' := (layF_perm _).subset m
        obtain ⟨i, hi⟩ := List.getElem?_of_mem m'
        rw [List.getElem?_take] at hi
        split at hi
        · obtain ⟨h1, e1⟩ := List.getElem?_eq_some_iff.mp hi
          obtain ⟨h2, e2⟩ := List.getElem?_eq_some_iff.mp e
          rw [← e1, ← e2]
          exact List.pairwise_iff_getElem.mp inc i n h1 h2 (by assumption)
        · cases hi
  have := h its.length
  rwa [List.take_length] at this
end

section
noncomputable def ltN (late : Bool) (its : List (Str × Int)) (i j : Nat) : Bool := match its[i]?, its[j]? with
  | some p, some r => ltK late p r
  | _, _ => false
theorem ltN_at {late : Bool} {its : List (Str × Int)} {i j : Nat} {p r : Str × Int} (h1 : its[i]? = some p) (h2 : its[j]? = some r) : ltN late its i j = ltI late p r := by
  unfold ltN; rw [h1, h2]; exact ltK_eq late p r
theorem swoN (late : Bool) (its : List (Str × Int)) : Swo its.length (ltN late its) := by
  have g : ∀ a, a < its.length → ∃ p, its[a]? = some p := fun a h => ⟨_, List.getElem?_eq_getElem h⟩
  refine ⟨fun a ha => ?_, fun a b c ha hb hc h1 h2 => ?_, fun a b c ha hb hc h1 => ?_⟩
  · obtain ⟨p, e⟩ := g a ha
    rw [ltN_at e e]; exact ahead_irr late _
  · obtain ⟨p, ea⟩ := g a ha; obtain ⟨r, eb⟩ := g b hb; obtain ⟨s, ec⟩ := g c hc
    rw [ltN_at ea eb] at h1; rw [ltN_at eb ec] at h2; rw [ltN_at ea ec]
    cases d : ltI late p s with
    | true => rfl
    | false =>
      have h3 : ltI late s r = false := ahead_asym late _ _ h2
      have := ahead_nt late (a := r.1.cps.toList) (b := s.1.cps.toList) (c := p.1.cps.toList) h3 d
      rw [show aheadL p.1.cps.toList r.1.cps.toList late = ltI late p r from rfl, h1] at this; cases this
  · obtain ⟨p, ea⟩ := g a ha; obtain ⟨r, eb⟩ := g b hb; obtain ⟨s, ec⟩ := g c hc
    rw [ltN_at ea eb] at h1; rw [ltN_at ea ec, ltN_at ec eb]
    cases d : ltI late p s with
    | true => exact .inl rfl
    | false =>
      cases f : ltI late s r with
      | true => exact .inr rfl
      | false =>
        have := ahead_nt late (a := r.1.cps.toList) (b := s.1.cps.toList) (c := p.1.cps.toList) f d
        rw [show aheadL p.1.cps.toList r.1.cps.toList late = ltI late p r from rfl, h1] at this; cases this
theorem sortK_eq (late : Bool) {its : List (Str × Int)} (idx : ∀ (k : Nat) p, its[k]? = some p → p.2 = (k : Int)) {p : Array Nat} (S : SrtA its.length (ltN late its) p its.length) :
    p.toList.map (fun i => its.getD i (⟨#[]⟩, 0)) = layF (ltI late) its := by
  have hm : (List.range its.length).map (fun i => its.getD i (⟨#[]⟩, 0)) = its := by
    apply List.ext_getElem?
    intro k
    rw [List.getElem?_map]
    by_cases h : k < its.length
    · rw [List.getElem?_range h]; simp [List.getD_eq_getElem?_getD, List.getElem?_eq_getElem h]
    · rw [List.getElem?_eq_none (by simp; lia), List.getElem?_eq_none (by lia)]; rfl
  have pm : (p.toList.map (fun i => its.getD i (⟨#[]⟩, 0))).Perm its := by
    have := (Array.perm_iff_toList_perm.mp S.perm).map (fun i => its.getD i (⟨#[]⟩, 0))
    rw [show (List.range its.length).toArray.toList = List.range its.length from rfl, hm] at this
    exact this
  have inc : its.Pairwise (fun a b => a.2 < b.2) := by
    rw [List.pairwise_iff_getElem]
    intro i j hi hj hij
    rw [idx i _ (List.getElem?_eq_getElem hi), idx j _ (List.getElem?_eq_getElem hj)]
    lia
  refine srt_uniq (lt := sltI late) (fun a _ b _ h1 h2 => sltI_anti late h1 h2) (pm.trans (layF_perm its).symm) ?_ (lay_srt late inc)
  rw [List.pairwise_map, List.pairwise_iff_getElem]
  intro a b ha hb hab
  have ha' : a < p.size := by simpa using ha
  have hb' : b < p.size := by simpa using hb
  have ea : p[a]? = some p.toList[a] := by simp [ha']
  have eb : p[b]? = some p.toList[b] := by simp [hb']
  have sl := S.srt a b _ _ hab (by rw [← S.size]; exact hb') ea eb
  have la := S.low a _ (by rw [← S.size]; exact ha') ea
  have lb := S.low b _ (by rw [← S.size]; exact hb') eb
  generalize p.toList[a] = x at *
  generalize p.toList[b] = y at *
  obtain ⟨px, ex⟩ : ∃ q, its[x]? = some q := ⟨_, List.getElem?_eq_getElem la⟩
  obtain ⟨py, ey⟩ : ∃ q, its[y]? = some q := ⟨_, List.getElem?_eq_getElem lb⟩
  rw [List.getD_eq_getElem?_getD, List.getD_eq_getElem?_getD, ex, ey]
  show sltI late py px = false
  unfold slt at sl
  rw [ltN_at ex ey, ltN_at ey ex] at sl
  unfold sltI
  rcases sl with h | ⟨h1, h2⟩
  · rw [show ltI late py px = false from ahead_asym late _ _ h, h]; rfl
  · rw [h1, idx _ _ ex, idx _ _ ey]; simp; lia
theorem replyS_lt {late : Bool} {tl : Str} (ht : tlOk late tl.cps.toList) (a b : Str) : ltS (replyS a tl) (replyS b tl) = aheadL a.cps.toList b.cps.toList late := by
  rw [← reply_lt late ht]
  unfold ltS replyS replyL
  simp [List.cons_lt_cons_iff]
theorem parse_reply {late : Bool} {tl : Str} (ht : tlOk late tl.cps.toList) (a : Str) : parseL (replyS a tl).cps.toList = a.cps.toList := by
  unfold parseL replyS replyL
  simp [scan_reply ht]
theorem sorted_replies {late : Bool} {tl : Str} (ht : tlOk late tl.cps.toList) {its : List (Str × Int)} (idx : ∀ (k : Nat) p, its[k]? = some p → p.2 = (k : Int)) (c : Str × Int → Bool) {rs : List Str} (pm : rs.Perm ((its.filter c).map fun p => replyS p.1 tl)) (srt : rs.Pairwise (fun a b => ltS b a = false)) :
    rs = ((layF (ltI late) its).filter c).map fun p => replyS p.1 tl := by
  have inc : its.Pairwise (fun a b => a.2 < b.2) := by
    rw [List.pairwise_iff_getElem]
    intro i j hi hj hij
    rw [idx i _ (List.getElem?_eq_getElem hi), idx j _ (List.getElem?_eq_getElem hj)]
    lia
  refine srt_uniq (lt := ltS) (fun a _ b _ h1 h2 => ?_) (pm.trans ((((layF_perm its).filter c).map _).symm)) srt ?_
  · unfold ltS at h1 h2
    rw [decide_eq_false_iff_not] at h1 h2
    rcases natl_total a.cps.toList b.cps.toList with z | z | z
    · exact absurd z h1
    · exact Str.ext' (Array.toList_inj.mp z)
    · exact absurd z h2
  · rw [List.pairwise_map]
    refine ((lay_srt late inc).filter c).imp fun {a b} h => ?_
    rw [replyS_lt ht]
    unfold sltI at h
    rw [Bool.or_eq_false_iff] at h
    exact h.1
end

section
noncomputable def lackC (lt : Str → Str → Bool) (Y : List Str) (prev : Option Str) (x : Str) : Bool := !Y.contains x && ((Y.filter fun n => lt x n).isEmpty || prev != some x)
noncomputable def lacksG (lt : Str → Str → Bool) (Y : List Str) : Option Str → List Str → List Str
  | _, [] => []
  | prev, x :: r => if lackC lt Y prev x then x :: lacksG lt Y (some x) r else lacksG lt Y (some x) r
theorem lacksG_congr {lt : Str → Str → Bool} {Y Z : List Str} : ∀ {l : List Str} {prev : Option Str}, (∀ x ∈ l, ∀ p, lackC lt Y p x = lackC lt Z p x) → lacksG lt Y prev l = lacksG lt Z prev l
  | [], _, _ => rfl
  | x :: r, prev, h => by
    unfold lacksG
    rw [h x (.head _), lacksG_congr fun y m => h y (.tail _ m)]
theorem lacksG_skip {lt : Str → Str → Bool} {Y : List Str} {x : Str} (h : lackC lt Y (some x) x = false) : ∀ r : List Str, lacksG lt Y (some x) r = lacksG lt Y none (r.dropWhile (· == x))
  | [] => rfl
  | y :: r => by
    rw [List.dropWhile_cons]
    by_cases e : (y == x) = true
    · rw [if_pos e]
      have : y = x := by simpa using e
      subst this
      rw [lacksG, h, if_neg (by decide)]
      exact lacksG_skip h r
    · rw [if_neg e]
      have ne : y ≠ x := by simpa using e
      have : lackC lt Y (some x) y = lackC lt Y none y := by
        unfold lackC
        have : (some x != some y) = true := by simp [Ne.symm ne]
        rw [this]; rfl
      rw [lacksG, lacksG, this]
noncomputable def SrtS (l : List Str) : Prop := l.Pairwise (fun a b => ltS b a = false)
theorem ltS_eq {a b : Str} (h1 : ltS a b = false) (h2 : ltS b a = false) : a = b := by
  unfold ltS at h1 h2
  rw [decide_eq_false_iff_not] at h1 h2
  rcases natl_total a.cps.toList b.cps.toList with z | z | z
  · exact absurd z h1
  · exact Str.ext' (Array.toList_inj.mp z)
  · exact absurd z h2
theorem ltS_irr (a : Str) : ltS a a = false := by unfold ltS; rw [decide_eq_false_iff_not]; exact natl_irr _
theorem ltS_asym {a b : Str} (h : ltS a b = true) : ltS b a = false := by
  unfold ltS at *
  rw [decide_eq_true_eq] at h
  rw [decide_eq_false_iff_not]
  exact fun z => natl_irr _ (natl_trans h z)
theorem ltS_lt {a b c : Str} (h : ltS a b = true) (h' : ltS c b = false) : ltS a c = true := by
  cases d : ltS a c with
  | true => rfl
  | false => rw [ltS_nt h' d] at h; cases h
theorem srt_drop {x : Str} : ∀ {xs : List Str}, SrtS (x :: xs) → ∀ z ∈ xs.dropWhile (· == x), ltS x z = true
  | [], _, z, m => by cases m
  | y :: r, s, z, m => by
    rw [List.dropWhile_cons] at m
    obtain ⟨s1, s2⟩ := List.pairwise_cons.mp s
    by_cases e : (y == x) = true
    · rw [if_pos e] at m
      have : y = x := by simpa using e
      subst this
      exact srt_drop s2 z m
    · rw [if_neg e] at m
      have ne : y ≠ x := by simpa using e
      have xy : ltS x y = true := by
        cases d : ltS x y with
        | true => rfl
        | false => exact absurd (ltS_eq (s1 y (.head _)) d) ne
      rcases List.mem_cons.mp m with rfl | m
      · exact xy
      · exact ltS_lt xy (List.rel_of_pairwise_cons s2 m)
theorem srtS_drop {x : Str} {xs : List Str} (s : SrtS xs) : SrtS (xs.dropWhile (· == x)) := s.sublist (List.dropWhile_suffix _).sublist
theorem lackC_drop {x z : Str} (xz : ltS x z = true) (xs : List Str) (p : Option Str) : lackC ltS (x :: xs) p z = lackC ltS (xs.dropWhile (· == x)) p z := by
  have ne : z ≠ x := fun e => by rw [e, ltS_irr] at xz; cases xz
  have zx : ltS z x = false := ltS_asym xz
  have h : ∀ r : List Str, r.contains z = (r.dropWhile (· == x)).contains z ∧ (r.filter fun n => ltS z n) = (r.dropWhile (· == x)).filter fun n => ltS z n := by
    intro r
    induction r with
    | nil => exact ⟨rfl, rfl⟩
    | cons y r ih =>
      rw [List.dropWhile_cons]
      by_cases e : (y == x) = true
      · rw [if_pos e]
        have : y = x := by simpa using e
        subst this
        refine ⟨?_, ?_⟩
        · rw [List.contains_cons, ih.1]; simp [ne]
        · rw [List.filter_cons, zx]; simpa using ih.2
      · rw [if_neg e]; exact ⟨rfl, rfl⟩
  have h1 : (x :: xs).contains z = xs.contains z := by rw [List.contains_cons]; simp [ne]
  have h2 : ((x :: xs).filter fun n => ltS z n) = xs.filter fun n => ltS z n := by rw [List.filter_cons, zx]; rfl
  unfold lackC
  rw [h1, h2, (h xs).1, (h xs).2]
theorem lack_all {l : List Str} : ∀ {p : Option Str}, lacksG ltS [] p l = l := by
  induction l with
  | nil => intro p; rfl
  | cons x r ih => intro p; rw [lacksG, if_pos (by simp [lackC]), ih]
theorem lack_cut {x y : Str} {xs ys : List Str} (sx : SrtS (x :: xs)) (sy : SrtS (y :: ys)) (h : ltS x y = true) :
    lacksG ltS (y :: ys) none (x :: xs) = x :: lacksG ltS (y :: ys) none (xs.dropWhile (· == x)) ∧ lacksG ltS (x :: xs) none (y :: ys) = lacksG ltS (xs.dropWhile (· == x)) none (y :: ys) := by
  have gt : ∀ z ∈ y :: ys, ltS x z = true := fun z m => by
    rcases List.mem_cons.mp m with rfl | m
    · exact h
    · exact ltS_lt h (List.rel_of_pairwise_cons sy m)
  have nin : (y :: ys).contains x = false := by
    cases c : (y :: ys).contains x with
    | false => rfl
    | true =>
      have := gt x (by simpa using c)
      rw [ltS_irr] at this; cases this
  constructor
  · rw [lacksG, if_pos (by unfold lackC; rw [nin]; simp)]
    rw [lacksG_skip]
    unfold lackC
    rw [List.filter_cons, h]; simp
  · exact lacksG_congr fun z m p => lackC_drop (gt z m) xs p
theorem sld_lacks : ∀ xs ys : List Str, SrtS xs → SrtS ys → sldL xs ys = (lacksG ltS ys none xs, lacksG ltS xs none ys)
  | [], ys, _, _ => by rw [sldL, lack_all]; rfl
  | x :: xs, [], _, _ => by rw [sldL, lack_all]; rfl
  | x :: xs, y :: ys, sx, sy => by
    have dx := dropW_len (· == x) xs
    have dy := dropW_len (· == y) ys
    have tx := srtS_drop (x := x) (List.pairwise_cons.mp sx).2
    have ty := srtS_drop (x := y) (List.pairwise_cons.mp sy).2
    rw [sldL]
    by_cases c1 : ltS x y = true
    · rw [if_pos c1, sld_lacks (xs.dropWhile (· == x)) (y :: ys) tx sy]
      obtain ⟨h1, h2⟩ := lack_cut sx sy c1
      rw [h1, h2]
    rw [if_neg c1]
    by_cases c2 : ltS y x = true
    · rw [if_pos c2, sld_lacks (x :: xs) (ys.dropWhile (· == y)) sx ty]
      obtain ⟨h1, h2⟩ := lack_cut sy sx c2
      rw [h1, h2]
    rw [if_neg c2, sld_lacks (xs.dropWhile (· == x)) (ys.dropWhile (· == y)) tx ty]
    obtain rfl : x = y := ltS_eq (by simpa using c1) (by simpa using c2)
    have e : ∀ {us vs : List Str}, SrtS (x :: us) → lacksG ltS (x :: vs) none (x :: us) = lacksG ltS (vs.dropWhile (· == x)) none (us.dropWhile (· == x)) := fun {us vs} s => by
      have f : ∀ p, lackC ltS (x :: vs) p x = false := fun p => by unfold lackC; simp
      rw [lacksG, f, if_neg (by decide), lacksG_skip (f _)]
      exact lacksG_congr fun z m p => lackC_drop (srt_drop s z m) vs p
    rw [e sx, e sy]
termination_by xs ys => xs.length + ys.length
decreasing_by
  all_goals
    simp only [List.length_cons]
    lia
end

section
noncomputable def ltA (late : Bool) (a b : Str) : Bool := aheadL a.cps.toList b.cps.toList late
noncomputable def lastO (prev : Option Str) (l : List Str) : Option Str := match l.getLast? with
  | some z => some z
  | none => prev
theorem lastO_cons (prev : Option Str) (x : Str) (l : List Str) : lastO prev (x :: l) = lastO (some x) l := by
  unfold lastO
  cases l with
  | nil => rfl
  | cons y l =>
    rw [List.getLast?_cons_cons]
    cases z : (y :: l).getLast? with
    | none => rw [List.getLast?_eq_none_iff] at z; cases z
    | some v => rfl
theorem lacksG_snoc {lt : Str → Str → Bool} {Y : List Str} {x : Str} : ∀ (l : List Str) (prev : Option Str), lacksG lt Y prev (l ++ [x]) = lacksG lt Y prev l ++ (if lackC lt Y (lastO prev l) x then [x] else [])
  | [], prev => by
    show lacksG lt Y prev [x] = [] ++ _
    rw [lacksG, List.nil_append]
    rfl
  | y :: l, prev => by
    show lacksG lt Y prev (y :: (l ++ [x])) = _
    rw [lacksG, lacksG, lacksG_snoc l, lastO_cons]
    split <;> simp
theorem lacksF_eq (late : Bool) (xs ys : List Str) : lacksF late xs ys = lacksG (ltA late) ys none xs := by
  have h : ∀ n, n ≤ xs.length → (List.range n).filterMap (lackB late xs ys) = lacksG (ltA late) ys none (xs.take n) := by
    intro n
    induction n with
    | zero => intro _; rfl
    | succ n ih =>
      intro hn
      have e : xs[n]? = some xs[n] := List.getElem?_eq_getElem (by lia)
      rw [range_fm, ih (by lia), List.take_add_one, e]
      simp only [Option.toList_some]
      rw [lacksG_snoc]
      congr 1
      have hl : lastO none (xs.take n) = if n = 0 then none else xs[n - 1]? := by
        unfold lastO
        rw [List.getLast?_take]
        by_cases z : n = 0
        · rw [if_pos z, if_pos z]
        · rw [if_neg z, if_neg z, List.getElem?_eq_getElem (show n - 1 < xs.length by lia)]
          rfl
      have hc : lackC (ltA late) ys (lastO none (xs.take n)) xs[n] = (!ys.contains xs[n] && ((ys.filter fun m => aheadL xs[n].cps.toList m.cps.toList late).isEmpty || n == 0 || xs[n - 1]? != some xs[n])) := by
        rw [hl]
        unfold lackC ltA
        by_cases z : n = 0
        · simp [z]
        · have z' : (n == 0) = false := by simpa using z
          rw [z', if_neg z, Bool.or_false]
      rw [hc]
      unfold lackB
      rw [e]
      dsimp only
      split <;> rfl
  unfold lacksF
  rw [h _ (Nat.le_refl _), List.take_length]
theorem lacksG_map {lt lt' : Str → Str → Bool} {f : Str → Str} (inj : ∀ a b, f a = f b → a = b) (ho : ∀ a b, lt' (f a) (f b) = lt a b) (Y : List Str) : ∀ (l : List Str) (p : Option Str), lacksG lt' (Y.map f) (p.map f) (l.map f) = (lacksG lt Y p l).map f
  | [], _ => rfl
  | x :: l, p => by
    have ih := lacksG_map inj ho Y l (some x)
    have hc : lackC lt' (Y.map f) (p.map f) (f x) = lackC lt Y p x := by
      unfold lackC
      have h1 : (Y.map f).contains (f x) = Y.contains x := by
        rw [Bool.eq_iff_iff]
        simp only [List.contains_iff_mem, List.mem_map]
        constructor
        · rintro ⟨y, m, e⟩; rw [← inj _ _ e]; exact m
        · intro m; exact ⟨x, m, rfl⟩
      have h2 : ((Y.map f).filter fun n => lt' (f x) n).isEmpty = (Y.filter fun n => lt x n).isEmpty := by
        rw [List.filter_map, List.isEmpty_map]
        congr 1
        apply List.filter_congr
        intro n _
        exact ho x n
      have h3 : (p.map f != some (f x)) = (p != some x) := by
        cases p with
        | none => rfl
        | some y =>
          rw [Bool.eq_iff_iff]
          simp
          constructor
          · intro h e; exact h (by rw [e])
          · intro h e; exact h (inj _ _ e)
      rw [h1, h2, h3]
    show lacksG lt' (Y.map f) (p.map f) (f x :: l.map f) = _
    rw [lacksG, lacksG, hc]
    have ih' : lacksG lt' (Y.map f) (some (f x)) (l.map f) = (lacksG lt Y (some x) l).map f := ih
    rw [ih']
    split <;> simp
theorem replyS_inj {late : Bool} {tl : Str} (ht : tlOk late tl.cps.toList) {a b : Str} (h : replyS a tl = replyS b tl) : a = b := by
  have := congrArg (fun s => parseL s.cps.toList) h
  simp only [parse_reply ht] at this
  exact Str.ext' (Array.toList_inj.mp this)
theorem sld_replies {late : Bool} {tl : Str} (ht : tlOk late tl.cps.toList) {xs ys : List Str} (sx : xs.Pairwise (fun a b => ltA late b a = false)) (sy : ys.Pairwise (fun a b => ltA late b a = false)) :
    sldL (xs.map fun n => replyS n tl) (ys.map fun n => replyS n tl) = ((lacksF late xs ys).map fun n => replyS n tl, (lacksF late ys xs).map fun n => replyS n tl) := by
  have st : ∀ {l : List Str}, l.Pairwise (fun a b => ltA late b a = false) → SrtS (l.map fun n => replyS n tl) := fun s => by
    unfold SrtS
    rw [List.pairwise_map]
    exact s.imp fun {a b} h => (replyS_lt ht b a).trans h
  rw [sld_lacks _ _ (st sx) (st sy), lacksF_eq, lacksF_eq]
  have inj : ∀ a b : Str, replyS a tl = replyS b tl → a = b := fun a b h => replyS_inj ht h
  have ho : ∀ a b : Str, ltS (replyS a tl) (replyS b tl) = ltA late a b := fun a b => replyS_lt ht a b
  rw [← lacksG_map inj ho ys xs none, ← lacksG_map inj ho xs ys none]
  rfl
theorem head_put {α : Type} {lt : α → α → Bool} {x y : α} {l : List α} (h : l.head? = some y) : (putF lt x l).head? = some (if lt x y then x else y) := by
  cases l with
  | nil => cases h
  | cons z l =>
    cases h
    unfold putF
    split <;> rfl
theorem putK_eq (late : Bool) (x : Str × Int) (l : List (Str × Int)) : putF (ltK late) x l = putF (ltI late) x l := by
  have : (ltK late) = ltI late := by funext p r; exact ltK_eq late p r
  rw [this]
theorem parse_cut {tl : Str} (a : Str) : parseL ((replyL a.cps.toList tl.cps.toList).take ((replyS a tl).length - tl.length - 1)) = a.cps.toList := by
  have e : (replyL a.cps.toList tl.cps.toList).take ((replyS a tl).length - tl.length - 1) = [50, 53, 55, 32, 34] ++ StrLaws.dbl 34 a.cps.toList := by
    have hl : (replyS a tl).length - tl.length - 1 = ([50, 53, 55, 32, 34] ++ StrLaws.dbl 34 a.cps.toList).length := by
      simp only [Str.length, replyS, replyL, List.size_toArray, List.length_append, List.length_cons, List.length_nil, Array.length_toList]
      lia
    rw [hl]
    unfold replyL
    rw [List.append_assoc, List.take_left]
  rw [e]
  unfold parseL
  simp [scan_dbl]
end

section
section
variable {prog : Program} {w : World} {mg mb : Str → Option Value} {A : Around}
theorem enterE {R : Value → Shared → Prop} {s : Shared} {f c : Addr} {name qual : Str} {params : Arguments} {body : Expr} {scope : Scope} {clos : List (Str × Addr)} {dV doc pm ctv : Value} {args : List Value} (binds : List (Str × Value))
    (hlim : s.heap.NoLimit) (hroom : A.depth < recursionLimit) (ho : s.heap.get? f = some (kdv_obj name qual params (.expr body) scope clos dV doc pm c ctv)) (hcd : s.heap.CodeRec (.ref c) qual)
    (hbind : BindsTo s (kdv_fn name qual params (.expr body) scope clos dV doc pm (.ref c) ctv) ⟨args, []⟩ binds) (hloc : (binds.all fun x => decide (scope.names.lookup x.1 = some .local)) = true)
    (h : let env := envX qual scope s.heap.objs.size f (.ref c) clos; ∀ h₁ t₁, FrL s.heap env.locals h₁ binds.reverse →
      wpAny (model prog w) (A.deeper env) (eval body env) (fun v s' => R v s') NoE ⟨h₁, s.gens, s.drawn, t₁, s.os⟩)
    (hco : scope.isCoroutine = false := by rfl) (hgen : scope.isGenerator = false := by rfl) (hk : scope.kind = .function := by rfl)
    (hcell : ∀ x ∈ scope.names, x.2 ≠ .cell := by decide) : codeAny (model prog w) A (.call (.ref f) ⟨args, []⟩) (RetR R) s := by
  refine kla_callFunE hroom ho rfl hco hgen rfl hcd (hbind _ _ _ _ ?_)
  refine wpAny_newFunctionEnv hcell (locs hloc) (fun h₁ hns hsb => ⟨hlim.fresh _ hsb, ?_⟩) hk
  show codeAny _ _ (.expr body (envX qual scope s.heap.objs.size f (.ref c) clos)) _ _
  have hk₁ : Kp s.heap h₁ := fun b o e => hsb.extBut b o (Nat.ne_of_lt (Heap.lt_size e)) (Heap.get?_push_of_some _ e)
  exact kla_codeExpr (wpAny_mono (h h₁ _ ⟨_, ⟨hns, hk₁, Nat.le_refl _⟩, fun _ _ e => e⟩) (fun v s' hl => hl) fun _ _ y => y.elim)
end
end

section
noncomputable def IntV (v : Value) (n : Int) : Prop := ∃ t, v = .int n t
theorem ints_of {vs : List Value} {ns : List Int} (h : All2 IntV vs ns) : IntsAre vs ns := by
  induction h with
  | nil => exact .nil
  | cons a _ ih => obtain ⟨t, rfl⟩ := a; exact .cons _ t ih
theorem all2_ints {vs : List Value} {ns : List Int} (h : IntsAre vs ns) : All2 IntV vs ns := by
  induction h with
  | nil => exact .nil
  | cons a t _ ih => exact .cons ⟨t, rfl⟩ ih
noncomputable def lawM {b : List Stmt} {sc : Scope} {prm : Arguments} {pm doc oc : Value} {od : Option Addr} {osl : Array (Option Value)} (_h : ∀ w : World, (Mine.hd.heap_39 w.params).lookup 168 = some ⟨oc, od, .func (docDef (Str.ofString "law") prm b sc pm (.ref 167) doc), osl⟩) : List Stmt × Scope := (b, sc)
noncomputable def lawD : List Stmt × Scope := by
  apply lawM
  intro w
  k_is
noncomputable def lawB : List Stmt := lawD.1
noncomputable def lawEnv (n : Addr) : Env := envOfC (Str.ofString "law") lawD.2 n 168 (.ref 167)
structure LawS (h₀ : Heap) (n : Addr) (p q : Array Value) (h : Heap) (l lc : List (Str × Value)) : Prop where
  F : FrL h₀ (lawEnv n).locals h l
  X : ClF h₀ (lawEnv n).cells h lc
  a : h.get? 48 = some (tabObj p)
  b : h.get? 165 = some (tabObj q)
  a0 : h₀.get? 48 = none
  b0 : h₀.get? 165 = none
noncomputable abbrev lawX (n : Addr) : List Addr := 48 :: 165 :: (lawEnv n).locals :: cAd (lawEnv n).cells
section
variable {h₀ h h' : Heap} {n : Addr} {p p' r r' : Array Value} {l lc : List (Str × Value)}
theorem LawS.kp (S : LawS h₀ n p r h l lc) (k : Kp h h') : LawS h₀ n p r h' l lc := ⟨S.F.kp k, S.X.kp k, k _ _ S.a, k _ _ S.b, S.a0, S.b0⟩
theorem LawS.nsq (S : LawS h₀ n p r h l lc) : NSq (lawX n) h := fun a m => by
  rcases List.mem_cons.mp m with rfl | m
  · exact ⟨_, S.a, fun vs n z => by cases z⟩
  rcases List.mem_cons.mp m with rfl | m
  · exact ⟨_, S.b, fun vs n z => by cases z⟩
  · exact S.X.nsq S.F a m
theorem LawS.some (S : LawS h₀ n p r h l lc) : ∀ a ∈ lawX n, ∃ o, h.get? a = Option.some o := fun a m => let ⟨o, e, _⟩ := S.nsq a m; ⟨o, e⟩
theorem LawS.tne (S : LawS h₀ n p r h l lc) {c : Addr} {ps : Array Value} (e : h.get? c = Option.some (tabObj ps)) : (lawEnv n).locals ≠ c ∧ c ∉ cAd (lawEnv n).cells := by
  refine ⟨fun z => ?_, fun m => ?_⟩
  · obtain ⟨o, es, n, e', d⟩ := S.F.data
    rw [z, e] at e'; cases e'; cases d
  · obtain ⟨p, mp, rfl⟩ := List.mem_map.mp m
    obtain ⟨v, o, e', d⟩ := S.X.all p mp
    rw [e] at e'; cases e'; cases d
theorem LawS.loc {x : Str} {v : Value} (S : LawS h₀ n p r h l lc) (F : FrL h₀ (lawEnv n).locals h' ((x, v) :: l)) (s : Heap.SameBut (lawEnv n).locals h h') : LawS h₀ n p r h' ((x, v) :: l) lc :=
  ⟨F, S.X.loc S.F s, (s.2 _ (Ne.symm (S.tne S.a).1)).trans S.a, (s.2 _ (Ne.symm (S.tne S.b).1)).trans S.b, S.a0, S.b0⟩
theorem LawS.pr1 {l' : List (Str × Value)} (S : LawS h₀ n p r h l lc) (F : FrL h₀ (lawEnv n).locals h' l') (P : Pr [(lawEnv n).locals] h h') : LawS h₀ n p r h' l' lc :=
  ⟨F, S.X.pr P (fun a m z => S.X.neL S.F (by rw [List.mem_singleton.mp z] at m; exact m)), P _ _ S.a (fun m => (S.tne S.a).1 (List.mem_singleton.mp m).symm), P _ _ S.b (fun m => (S.tne S.b).1 (List.mem_singleton.mp m).symm), S.a0, S.b0⟩
theorem LawS.prC {c : Addr} {x : Str} {v : Value} (S : LawS h₀ n p r h l lc) (hc : (lawEnv n).cells.lookup x = Option.some c) (F : FrL h₀ (lawEnv n).locals h' l) (X : ClF h₀ (lawEnv n).cells h' ((x, v) :: lc)) (P : Pr [c] h h') : LawS h₀ n p r h' l ((x, v) :: lc) :=
  ⟨F, X, P _ _ S.a (fun m => (S.tne S.a).2 (by rw [List.mem_singleton.mp m]; exact mem_ad hc)), P _ _ S.b (fun m => (S.tne S.b).2 (by rw [List.mem_singleton.mp m]; exact mem_ad hc)), S.a0, S.b0⟩
theorem LawS.cel {x : Str} {v : Value} {c : Addr} (S : LawS h₀ n p r h l lc) (hc : (lawEnv n).cells.lookup x = Option.some c) (F : FrL h₀ (lawEnv n).locals h' l) (X : ClF h₀ (lawEnv n).cells h' ((x, v) :: lc)) (s : Heap.SameBut c h h') : LawS h₀ n p r h' l ((x, v) :: lc) :=
  ⟨F, X, (s.2 48 fun z => (S.tne S.a).2 (by rw [z]; exact mem_ad hc)).trans S.a, (s.2 165 fun z => (S.tne S.b).2 (by rw [z]; exact mem_ad hc)).trans S.b, S.a0, S.b0⟩
theorem lawX_loc : (lawEnv n).locals ∈ lawX n := .tail _ (.tail _ (.head _))
theorem lawX_cel {x : Str} {c : Addr} (hc : (lawEnv n).cells.lookup x = Option.some c) : c ∈ lawX n := .tail _ (.tail _ (.tail _ (mem_ad hc)))
theorem leP {X : List Addr} (s : Pr X h h') (m : ∀ a ∈ X, a ∈ lawX n) : Le (Of h (lawX n)) (Of h' (lawX n)) := s.le m
theorem leL (s : Heap.SameBut (lawEnv n).locals h h') : Le (Of h (lawX n)) (Of h' (lawX n)) := leP (Pr.same (X := [(lawEnv n).locals]) s (.head _)) fun p m => by rw [List.mem_singleton.mp m]; exact lawX_loc
theorem leC {x : Str} {c : Addr} (hc : (lawEnv n).cells.lookup x = Option.some c) (s : Heap.SameBut c h h') : Le (Of h (lawX n)) (Of h' (lawX n)) := leP (Pr.same (X := [c]) s (.head _)) fun p m => by rw [List.mem_singleton.mp m]; exact lawX_cel hc
theorem SubC.same {cs : List (Str × Addr)} {lc : List (Str × Value)} : ∀ {l' : List (Str × Value)}, SubL lc l' → SubC cs cs lc l'
  | [], _ => trivial
  | _ :: _, ⟨a, b⟩ => ⟨⟨rfl, a⟩, SubC.same b⟩
theorem ClF.sub {cs : List (Str × Addr)} {l' : List (Str × Value)} (X : ClF h₀ cs h lc) (s : SubL lc l') : ClF h₀ cs h l' := ⟨X.cl.sub (SubC.same s), X.all, X.ap, X.new⟩
theorem LawS.sub {l' lc' : List (Str × Value)} (S : LawS h₀ n p r h l lc) (s : SubL l l') (s' : SubL lc lc') : LawS h₀ n p r h l' lc' := ⟨S.F.sub s, S.X.sub s', S.a, S.b, S.a0, S.b0⟩
end
structure LawC (w : World) (mg mb : Str → Option Value) (A : Around) (h₀ : Heap) (n : Addr) (g : Array GenState) (d : Drawn) (os : OsState) (Q : Flow → Shared → Prop) : Prop where
  G : Gd w mg mb h₀
  M : BmAt mg h₀
  a : Ar A 11
  hf : A.frames = some [lawEnv n]
  q : ∀ h' t', Kp h₀ h' → (∃ ps, h'.get? 48 = some (tabObj ps)) → (∃ ps, h'.get? 165 = some (tabObj ps)) → Q (.ret (.bool true)) ⟨h', g, d, t', os⟩
noncomputable def LAt (prog : Program) (w : World) (A : Around) (h₀ : Heap) (n : Addr) (g : Array GenState) (d : Drawn) (os : OsState) (Q : Flow → Shared → Prop) (k : Nat) (p r : Array Value) (l lc : List (Str × Value)) (D : Hp → Prop) : Prop :=
  ∀ h t, LawS h₀ n p r h l lc → D (Of h (lawX n)) → wpAny (model prog w) A (execs (lawB.drop k) (lawEnv n)) Q NoE ⟨h, g, d, t, os⟩
noncomputable def hdS : List Stmt → Stmt
  | a :: _ => a
  | [] => .Break ⟨0, 0, 0, 0⟩
noncomputable def lawSt (k : Nat) : Stmt := hdS (lawB.drop k)
section
variable {h₀ h : Heap} {n : Addr} {p r : Array Value} {l lc : List (Str × Value)}
theorem LawS.strs {Y : List Addr} {v : Value} {xs : List Str} (S : LawS h₀ n p r h l lc) (x : StrsH (Of h Y) v xs) : StrsH (Of h (lawX n)) v xs := let ⟨a, vs, e, y, z⟩ := x; ⟨a, vs, e, S.nsq.lst y, z⟩
theorem LawS.names {Y : List Addr} {v : Value} {xs : List (Str × Int)} (S : LawS h₀ n p r h l lc) (x : NamesH (Of h Y) v xs) : NamesH (Of h (lawX n)) v xs := let ⟨a, vs, e, y, z⟩ := x; ⟨a, vs, e, S.nsq.lst y, z.mono fun _ _ ⟨b, t, u, e, z⟩ => ⟨b, t, u, e, S.nsq.tup z⟩⟩
end
noncomputable def itsOf (nms : List (Str × Int)) : List (Str × Int) := (List.range nms.length).filterMap fun (k : Nat) => (nms[k]?).map fun p => (p.1, (k : Int))
theorem range_map {α β : Type} (l : List α) (f : Nat → α → β) : (List.range l.length).filterMap (fun k => (l[k]?).map (f k)) = l.mapIdx f := by
  have go : ∀ m, m ≤ l.length → (List.range m).filterMap (fun k => (l[k]?).map (f k)) = (l.take m).mapIdx f := by
    intro m
    induction m with
    | zero => intro _; rfl
    | succ m ih =>
      intro hm
      rw [range_fm, ih (by lia), List.take_add_one, List.mapIdx_append]
      have e : l[m]? = some l[m] := List.getElem?_eq_getElem (by lia)
      rw [e]
      have e2 : (l.take m).length = m := by rw [List.length_take]; lia
      simp [e2]
  have := go l.length (Nat.le_refl _)
  rw [List.take_length] at this
  exact this
theorem itsOf_eq (nms : List (Str × Int)) : itsOf nms = nms.mapIdx fun k p => (p.1, (k : Int)) := range_map nms _
theorem itsOf_get (nms : List (Str × Int)) (k : Nat) : (itsOf nms)[k]? = (nms[k]?).map fun p => (p.1, (k : Int)) := by rw [itsOf_eq, List.getElem?_mapIdx]
theorem itsOf_len (nms : List (Str × Int)) : (itsOf nms).length = nms.length := by rw [itsOf_eq, List.length_mapIdx]
theorem itsOf_idx (nms : List (Str × Int)) (k : Nat) (p : Str × Int) (h : (itsOf nms)[k]? = some p) : p.2 = (k : Int) := by
  rw [itsOf_get] at h
  cases e : nms[k]? with
  | none => rw [e] at h; cases h
  | some q => rw [e] at h; cases h; rfl
theorem itsOf_ok {nms : List (Str × Int)} (h : ∀ p ∈ nms, NameOk p) : ∀ p ∈ itsOf nms, p.1.length ≤ 3 := by
  intro p m
  obtain ⟨k, hk, rfl⟩ := List.mem_iff_getElem.mp m
  have e := List.getElem?_eq_getElem hk
  rw [itsOf_get] at e
  cases z : nms[k]? with
  | none => rw [z] at e; cases e
  | some q =>
    rw [z] at e
    injection e with e
    rw [← e]
    exact (h q (List.mem_of_getElem? z)).1
theorem leL1 {h h' : Heap} {n : Addr} (P : Pr [(lawEnv n).locals] h h') : Le (Of h (lawX n)) (Of h' (lawX n)) := leP P fun a m => by rw [List.mem_singleton.mp m]; exact lawX_loc
theorem leC1 {h h' : Heap} {n : Addr} {x : Str} {c : Addr} (hc : (lawEnv n).cells.lookup x = Option.some c) (P : Pr [c] h h') : Le (Of h (lawX n)) (Of h' (lawX n)) := leP P fun a m => by rw [List.mem_singleton.mp m]; exact lawX_cel hc
noncomputable def MonoH (Z : Hp → Prop) : Prop := ∀ H H', Le H H' → Z H → Z H'
theorem MonoH.and {Z Y : Hp → Prop} (a : MonoH Z) (b : MonoH Y) : MonoH fun H => Z H ∧ Y H := fun _ _ k x => ⟨a _ _ k x.1, b _ _ k x.2⟩
theorem monoS {v : Value} {xs : List Str} : MonoH fun H => StrsH H v xs := fun _ _ k x => x.le k
theorem monoN {v : Value} {xs : List (Str × Int)} : MonoH fun H => NamesH H v xs := fun _ _ k x => x.le k
theorem monoI {late : Bool} {v : Value} {xs : List (Str × Int)} : MonoH fun H => ItemsH late H v xs := fun _ _ k x => x.le k
theorem monoM {late : Bool} {v : Value} {x : Str × Int} : MonoH fun H => ItemH late H v x := fun _ _ k x => x.le k
theorem monoK {K : Addr} : MonoH fun H => KAt H K := fun _ _ k x => KAt.keeps x k
theorem monoR {v : Value} {xs : List Int} : MonoH fun H => IntsH H v xs := fun _ _ k x => x.le k
theorem monoT : MonoH fun _ => True := fun _ _ _ x => x
theorem range_map0 {α β : Type} (l : List α) (f : α → β) : (List.range l.length).filterMap (fun k => (l[k]?).map f) = l.map f := by
  rw [range_map l fun _ => f]
  apply List.ext_getElem?
  intro k
  rw [List.getElem?_mapIdx, List.getElem?_map]
theorem itsOf_map {nms : List (Str × Int)} : (itsOf nms).map (·.1) = nms.map (·.1) := by
  apply List.ext_getElem?
  intro k
  rw [List.getElem?_map, List.getElem?_map, itsOf_get]
  cases nms[k]? <;> rfl
end

section
section
variable {prog : Program} {w : World} {mg mb : Str → Option Value} {A : Around} {h₀ : Heap} {n : Addr} {g : Array GenState} {d : Drawn} {os : OsState} {Q : Flow → Shared → Prop} {p r : Array Value} {l lc : List (Str × Value)} {Z : Hp → Prop}
theorem law_row (C : LawC w mg mb A h₀ n g d os Q) {sa : Addr} {vs : List Value} {ns : List Int} (mz : MonoH Z) (sl : SubL l [(Str.ofString "script", .ref sa)]) (hz : vs.length ≤ 63) (hi : IntsAre vs ns) (z1 : ∀ H, Z H → LstH H sa vs)
    (next : ∀ rv row, row.length ≤ 63 → LAt prog w A h₀ n g d os Q 1 p r ((Str.ofString "row", rv) :: l) lc (fun H => Z H ∧ IntsH H rv row)) : LAt prog w A h₀ n g d os Q 0 p r l lc Z := by
  rintro h t S D
  have F := S.F.sub sl
  have hl₁ := (z1 _ D).is
  have hi2 := all2_ints hi
  rw [show lawB.drop 0 = lawSt 0 :: lawB.drop 1 from rfl]
  generalize hr : lawB.drop 1 = rest
  unfold lawSt lawB lawD lawM
  dsimp only [List.drop, hdS]
  refine s_assignComp (cl := _) (by with_unfolding_all rfl) (by with_unfolding_all rfl) ?_
  walk_at "xs"
  refine r_slL_to hl₁ (by lia) (by decide) (fun S' h₂ k₂ nS eS => ?_) (by intro _; with_unfolding_all rfl) (by intro _; with_unfolding_all rfl)
  refine r_iterList C.a.hd (listOf_is eS) fun I h₃ St it => ?_
  refine compS (β := Int) (fun _ => IntV) (fun j => (ns[j]?).map fun n => n.fmod 1000000) (fun _ _ _ _ _ x => x) it (by simp; lia) (S.F.kp k₂) ?_ ?_ (fun _ _ _ _ _ _ x => x) (by decide) rfl rfl
  · rintro D C i v h₄ t₄ nD nC hi' hv F₄ P₄ K₄ _ _
    rw [List.getElem?_take, if_pos (by have := hi'; simp at this; lia)] at hv
    obtain ⟨n, en, tn, rfl⟩ := hi2.get' hv
    refine wpAny_pure ⟨h₄, t₄, rfl, Kp.refl _, ?_⟩
    clear F
    walk_at "xs"
    refine r_mod (by decide) fun u₅ t₅ => ?_
    exact ⟨h₄, t₅, _, rfl, Kp.refl _, by rw [en]; rfl, u₅, rfl⟩
  · intro RW ys h₄ t₄ c₄ nRW nRL P₄ F₄ eRW ay
    subst hr
    have S₄ := (S.kp k₂).pr1 F₄ P₄
    have le := (k₂.le (lawX n)).trans (leL1 P₄)
    refine next (.ref RW) _ ?_ h₄ t₄ S₄ ⟨mz _ _ le D, RW, ys, rfl, S₄.nsq.lst (LstH.mk (X := []) (listOf_is eRW) (by simp)), ints_of ay⟩
    refine Nat.le_trans (List.length_filterMap_le ..) ?_
    simp; lia
theorem law_names (C : LawC w mg mb A h₀ n g d os Q) {rv : Value} {row : List Int} (mz : MonoH Z) (sl : SubL l [(Str.ofString "row", rv)]) (hz : row.length ≤ 63) (z1 : ∀ H, Z H → IntsH H rv row)
    (next : ∀ nv nms, 5 ≤ nms.length → nms.length ≤ 13 → (∀ p ∈ nms, NameOk p) → LAt prog w A h₀ n g d os Q 2 p r l ((Str.ofString "names", nv) :: lc) (fun H => Z H ∧ NamesH H nv nms)) : LAt prog w A h₀ n g d os Q 1 p r l lc Z := by
  rintro h t S D
  have F := S.F.sub sl
  have G := C.G
  rw [show lawB.drop 1 = lawSt 1 :: lawB.drop 2 from rfl]
  generalize hr : lawB.drop 2 = rest
  unfold lawSt lawB lawD lawM
  dsimp only [List.drop, hdS]
  obtain ⟨cN, hcN⟩ : ∃ c, (lawEnv n).cells.lookup (Str.ofString "names") = some c := ⟨_, rfl⟩
  walk_at "xs"
  refine ⟨G.keeps S.F.keep, r_con (names_ok (G.keeps S.F.keep) (C.a.less (by decide)) ((z1 _ D).le Of.all) (by lia) fun nv nms h₅ t₅ k₅ nh n5 n13 nok => ?_)⟩
  have S₅ := S.kp k₅
  refine r_storeC S₅.F S₅.X hcN (fun h₆ F₆ X₆ s₆ => ?_) (by with_unfolding_all rfl) (by with_unfolding_all rfl)
  subst hr
  have S₆ := S₅.cel hcN F₆ X₆ s₆
  have le := (k₅.le (lawX n)).trans (leC hcN s₆)
  exact next nv nms n5 n13 nok h₆ _ S₆ ⟨mz _ _ le D, (S₅.names nh).le (leC hcN s₆)⟩
theorem law_tail (C : LawC w mg mb A h₀ n g d os Q) {rv : Value} {row : List Int} (mz : MonoH Z) (sl : SubL l [(Str.ofString "row", rv)]) (z1 : ∀ H, Z H → IntsH H rv row)
    (next : ∀ tl tt, tlOk (row.sum.fmod 3 == 2) tl.cps.toList → tl.length ≤ 100 → LAt prog w A h₀ n g d os Q 3 p r l ((Str.ofString "tail", .str tl tt) :: lc) Z) : LAt prog w A h₀ n g d os Q 2 p r l lc Z := by
  rintro h t S D
  have F := S.F.sub sl
  have G := C.G
  rw [show lawB.drop 2 = lawSt 2 :: lawB.drop 3 from rfl]
  generalize hr : lawB.drop 3 = rest
  unfold lawSt lawB lawD lawM
  dsimp only [List.drop, hdS]
  obtain ⟨cN, hcN⟩ : ∃ c, (lawEnv n).cells.lookup (Str.ofString "tail") = some c := ⟨_, rfl⟩
  walk_at "xs"
  refine r_newList (by simp) fun TL h₇ k₇ nT eT => ?_
  have S₇ := S.kp k₇
  obtain ⟨ra, rs, rfl, lrw, irw⟩ := z1 _ D
  have F₇ := F.kp k₇
  clear F
  walk_at "xs"
  refine r_sum C.a.hd (lrw.le (k₇.le _)).is irw fun h₈ u₈ t₈ k₈ => ?_
  have S₈ := S₇.kp k₈
  have F₈ := F₇.kp k₈
  clear F₇
  walk_at "xs"
  refine r_mod (by decide) fun u₉ t₉ => ?_
  obtain ⟨j, hj, ej⟩ : ∃ j : Nat, j < 3 ∧ row.sum.fmod 3 = (j : Int) := ⟨(row.sum.fmod 3).toNat, by
    have h1 := Int.fmod_nonneg_of_pos row.sum (show (0 : Int) < 3 by decide)
    have h2 := Int.fmod_lt_of_pos row.sum (show (0 : Int) < 3 by decide)
    lia, by
    have h1 := Int.fmod_nonneg_of_pos row.sum (show (0 : Int) < 3 by decide)
    lia⟩
  rename_i a0 _ a1 _ a2 _ a3 _
  obtain ⟨tl, tt, etl, htl, ltl⟩ : ∃ (tl : Str) (tt : Tok), [Value.str (Str.ofString "") a0, Value.str (Str.ofString " is \"!\"") a1, Value.str (Str.ofString "#\"") a2][j]? = some (.str tl tt) ∧ tlOk ((j : Int) == 2) tl.cps.toList ∧ tl.length ≤ 100 := by
    match j, hj with
    | 0, _ => exact ⟨_, _, rfl, by rw [show (Str.ofString "").cps.toList = [] by decide +kernel]; rfl, by decide +kernel⟩
    | 1, _ => exact ⟨_, _, rfl, by rw [show (Str.ofString " is \"!\"").cps.toList = [32, 105, 115, 32, 34, 33, 34] by decide +kernel]; exact ⟨by decide, by decide⟩, by decide +kernel⟩
    | 2, _ => exact ⟨_, _, rfl, by rw [show (Str.ofString "#\"").cps.toList = [35, 34] by decide +kernel]; exact ⟨by decide, by decide⟩, by decide +kernel⟩
  refine r_itemX ej (listOf_is (k₈ _ _ eT)) etl (by lia) ?_ (by with_unfolding_all rfl)
  refine r_storeC S₈.F S₈.X hcN (fun h₁₀ F₁₀ X₁₀ s₁₀ => ?_) (by with_unfolding_all rfl) (by with_unfolding_all rfl)
  subst hr
  have S₁₀ := S₈.cel hcN F₁₀ X₁₀ s₁₀
  have le := ((k₇.trans k₈).le (lawX n)).trans (leC hcN s₁₀)
  exact next tl tt (by rw [ej]; exact htl) ltl h₁₀ _ S₁₀ (mz _ _ le D)
theorem law_late (C : LawC w mg mb A h₀ n g d os Q) {rv : Value} {row : List Int} (mz : MonoH Z) (sl : SubL l [(Str.ofString "row", rv)]) (z1 : ∀ H, Z H → IntsH H rv row)
    (next : LAt prog w A h₀ n g d os Q 4 p r l ((Str.ofString "late", .bool (row.sum.fmod 3 == 2)) :: lc) Z) : LAt prog w A h₀ n g d os Q 3 p r l lc Z := by
  rintro h t S D
  have F := S.F.sub sl
  have G := C.G
  rw [show lawB.drop 3 = lawSt 3 :: lawB.drop 4 from rfl]
  generalize hr : lawB.drop 4 = rest
  unfold lawSt lawB lawD lawM
  dsimp only [List.drop, hdS]
  obtain ⟨cN, hcN⟩ : ∃ c, (lawEnv n).cells.lookup (Str.ofString "late") = some c := ⟨_, rfl⟩
  walk_at "xs"
  obtain ⟨ra, rs, rfl, lrw, irw⟩ := z1 _ D
  refine r_sum C.a.hd lrw.is irw fun h₈ u₈ t₈ k₈ => ?_
  have S₈ := S.kp k₈
  have F₈ := F.kp k₈
  clear F
  walk_at "xs"
  refine r_mod (by decide) fun u₉ t₉ => ?_
  walk_at "xs"
  refine r_storeC S₈.F S₈.X hcN (fun h₁₀ F₁₀ X₁₀ s₁₀ => ?_) (by with_unfolding_all rfl) (by with_unfolding_all rfl)
  subst hr
  have S₁₀ := S₈.cel hcN F₁₀ X₁₀ s₁₀
  have le := (k₈.le (lawX n)).trans (leC hcN s₁₀)
  exact next h₁₀ _ S₁₀ (mz _ _ le D)
end
end

section
section
variable {prog : Program} {w : World} {mg mb : Str → Option Value} {A : Around} {h₀ : Heap} {n : Addr} {g : Array GenState} {d : Drawn} {os : OsState} {Q : Flow → Shared → Prop} {p r : Array Value} {l lc : List (Str × Value)} {Z : Hp → Prop}
theorem law_items (C : LawC w mg mb A h₀ n g d os Q) {nv : Value} {nms : List (Str × Int)} {late : Bool} (mz : MonoH Z) (sc : SubL lc [(Str.ofString "names", nv), (Str.ofString "late", .bool late)]) (hz : nms.length ≤ 13) (hn : ∀ p ∈ nms, NameOk p) (z1 : ∀ H, Z H → NamesH H nv nms)
    (next : ∀ iv, LAt prog w A h₀ n g d os Q 5 p r ((Str.ofString "items", iv) :: l) lc (fun H => Z H ∧ ItemsH late H iv (itsOf nms))) :
    LAt prog w A h₀ n g d os Q 4 p r l lc Z := by
  rintro h t S D
  have F : FrL h₀ (lawEnv n).locals h [] := S.F.sub trivial
  have X := (S.X.sub sc).cl
  have G := C.G
  rw [show lawB.drop 4 = lawSt 4 :: lawB.drop 5 from rfl]
  generalize hr : lawB.drop 5 = rest
  unfold lawSt lawB lawD lawM
  dsimp only [List.drop, hdS]
  refine s_assignComp (cl := _) (by with_unfolding_all rfl) (by with_unfolding_all rfl) ?_
  obtain ⟨na, us, rfl, nl, ni⟩ := z1 _ D
  refine r_call ?_ (by with_unfolding_all rfl)
  walk_at "xs"
  refine r_callT ?_
  refine r_args ?_ (by with_unfolding_all rfl)
  walk_at "xs"
  refine r_len_list nl.is (by rw [ni.length]; lia) fun u₁ t₁ => ?_
  walk_at "xs"
  refine r_rangeS (n := nms.length) C.a.hd (by rw [ni.length]) (by lia) fun I h₂ t₂ St it hit => ?_
  refine compS (β := Str × Int) (ItemH late) (fun (k : Nat) => (nms[k]?).map fun p => (p.1, (k : Int))) itemM it (by lia) S.F ?_ ?_ itemO (by decide) rfl rfl
  · rintro D' C' i v h₃ t₃ nD nC hi ⟨u, rfl⟩ F₃ P₃ K₃ eD st
    refine wpAny_pure ⟨h₃, t₃, rfl, Kp.refl _, ?_⟩
    have X₃ : Cls [(Str.ofString "names", n + 1), (Str.ofString "late", n + 1 + 1 + 1 + 1 + 1)] h₃ [(Str.ofString "names", .ref na), (Str.ofString "late", .bool late)] := (X.kp K₃).sub ⟨⟨rfl, rfl⟩, ⟨rfl, rfl⟩, trivial⟩
    clear X F
    obtain ⟨p, ep⟩ : ∃ z, nms[i]? = some z := ⟨_, List.getElem?_eq_getElem hi⟩
    obtain ⟨_, ev, b, tb, ub, rfl, hb⟩ := ni.get ep
    have hp := (hn p (List.mem_of_getElem? ep)).1
    have nl₃ := (nl.le (K₃.le _)).is
    have hb₃ := (hb.le (K₃.le _)).is
    walk_at "xs"
    refine r_itemX rfl nl₃ ev (by lia) ?_ (by with_unfolding_all rfl)
    walk_at "xs"
    refine r_itemX rfl nl₃ ev (by lia) ?_ (by with_unfolding_all rfl)
    walk_at "xs"
    refine ⟨G.keeps F₃.keep, r_con (marks_okN (G.keeps F₃.keep) (C.a.less (by decide)) (by lia) fun m h₄ t₄ k₄ hm mN => ?_)⟩
    walk_at "xs"
    refine r_newTuple (by simp) fun T h₅ k₅ nT eT => ?_
    have off : ∀ a ∈ [C', D', I], ∃ o, h₃.get? a = some o := fun a m => by
      rcases List.mem_cons.mp m with rfl | m
      · exact F₃.some
      rcases List.mem_cons.mp m with rfl | m
      · exact eD
      · rw [List.mem_singleton.mp m]; exact hit _ _ st
    refine ⟨h₅, _, (p.1, (i : Int)), rfl, k₄.trans k₅, by rw [ep]; rfl, T, tb, u, m, rfl, ?_, ?_⟩
    · refine TupH.mk eT fun z => ?_
      obtain ⟨o, e⟩ := off _ z
      rw [k₄ _ _ e] at nT; cases nT
    · obtain ⟨ma, ms, rfl, y, z⟩ := hm
      refine ⟨ma, ms, rfl, LstH.mk (y.le (k₅.le _)).is fun x => ?_, z⟩
      obtain ⟨o, e⟩ := off _ x
      rw [mN ma rfl] at e; cases e
  · intro ia ys h₃ t₃ c₃ nI nIL P₃ F₃ eI ai
    subst hr
    have S₃ := S.pr1 F₃ P₃
    exact next (.ref ia) h₃ t₃ S₃ ⟨mz _ _ (leL1 P₃) D, ia, ys, rfl, S₃.nsq.lst (LstH.mk (X := []) (listOf_is eI) (by simp)), ai.mono fun _ _ x => S₃.nsq.item x⟩
end
end

section
section
variable {prog : Program} {w : World} {mg mb : Str → Option Value} {A : Around} {h₀ : Heap} {n : Addr} {g : Array GenState} {d : Drawn} {os : OsState} {Q : Flow → Shared → Prop} {p r : Array Value} {l lc : List (Str × Value)} {Z : Hp → Prop}
theorem law_laid (C : LawC w mg mb A h₀ n g d os Q) {iv : Value} {late : Bool} {its : List (Str × Int)} (mz : MonoH Z) (sl : SubL l [(Str.ofString "items", iv)]) (sc : SubL lc [(Str.ofString "late", .bool late)]) (hz : its.length ≤ 13) (hn : ∀ p ∈ its, p.1.length ≤ 3) (z1 : ∀ H, Z H → ItemsH late H iv its)
    (next : ∀ lv, LAt prog w A h₀ n g d os Q 6 p r ((Str.ofString "laid", lv) :: l) lc (fun H => Z H ∧ ItemsH late H lv (layF (ltI late) its))) :
    LAt prog w A h₀ n g d os Q 5 p r l lc Z := by
  rintro h t S D
  have F := S.F.sub sl
  have X := (S.X.sub sc).cl
  have G := C.G
  rw [show lawB.drop 5 = lawSt 5 :: lawB.drop 6 from rfl]
  generalize hr : lawB.drop 6 = rest
  unfold lawSt lawB lawD lawM
  dsimp only [List.drop, hdS]
  walk_at "xs"
  refine ⟨G.keeps F.keep, r_con (laid_ok (G.keeps F.keep) (C.a.less (by decide)) ((z1 _ D).le Of.all) (by lia) (fun p m => by have := hn p m; lia) fun lv h₁ t₁ k₁ il => ?_)⟩
  have S₁ := S.kp k₁
  refine r_store S₁.F (fun h₂ t₂ F₂ s₂ => ?_) (by with_unfolding_all rfl) (by with_unfolding_all rfl)
  subst hr
  have le := (k₁.le (lawX n)).trans (leL s₂)
  exact next lv h₂ t₂ (S₁.loc F₂ s₂) ⟨mz _ _ le D, (S₁.nsq.items il).le (leL s₂)⟩
theorem law_due (C : LawC w mg mb A h₀ n g d os Q) {lv : Value} {late : Bool} {its : List (Str × Int)} (mz : MonoH Z) (sl : SubL l [(Str.ofString "laid", lv)]) (hz : its.length ≤ 13) (z1 : ∀ H, Z H → ItemsH late H lv its)
    (next : ∀ dv, LAt prog w A h₀ n g d os Q 7 p r ((Str.ofString "due", dv) :: l) lc (fun H => Z H ∧ StrsH H dv (its.map (·.1)))) :
    LAt prog w A h₀ n g d os Q 6 p r l lc Z := by
  rintro h t S D
  have F := S.F.sub sl
  have G := C.G
  rw [show lawB.drop 6 = lawSt 6 :: lawB.drop 7 from rfl]
  generalize hr : lawB.drop 7 = rest
  unfold lawSt lawB lawD lawM
  dsimp only [List.drop, hdS]
  refine s_assignComp (cl := _) (by with_unfolding_all rfl) (by with_unfolding_all rfl) ?_
  obtain ⟨la, vs, rfl, ll, li⟩ := z1 _ D
  walk_at "xs"
  refine r_iterList C.a.hd ll.is fun I h₂ St it => ?_
  refine compS (β := Str) (fun _ => StrV) (fun k => (its[k]?).map (·.1)) strM it (by rw [li.length]; lia) S.F ?_ ?_ strO (by decide) rfl rfl
  · rintro D' C' i v h₃ t₃ nD nC hi hv F₃ P₃ K₃ _ _
    obtain ⟨p, ep, a, tb, u, m, rfl, hb, _⟩ := li.get' hv
    refine wpAny_pure ⟨h₃, t₃, rfl, Kp.refl _, ?_⟩
    have hb₃ := (hb.le (K₃.le _)).is
    clear F
    walk_at "xs"
    exact ⟨h₃, _, p.1, rfl, Kp.refl _, by rw [ep]; rfl, _, rfl⟩
  · intro ia ys h₃ t₃ c₃ nI nIL P₃ F₃ eI ai
    subst hr
    have S₃ := S.pr1 F₃ P₃
    rw [li.length, range_map0] at ai
    exact next (.ref ia) h₃ t₃ S₃ ⟨mz _ _ (leL1 P₃) D, ia, ys, rfl, S₃.nsq.lst (LstH.mk (X := []) (listOf_is eI) (by simp)), ai⟩
end
end

section
theorem KAt.law {h₀ h h' : Heap} {n K : Addr} {p r : Array Value} {l lc : List (Str × Value)} {X : List Addr} (S : LawS h₀ n p r h l lc) (y : KAt (NewOf h h' X) K) : KAt (Of h' (lawX n)) K := y.keeps fun b o e => ⟨e.1.1, fun m => by
  obtain ⟨o', z⟩ := S.some b m
  rw [e.2] at z; cases z⟩
section
variable {prog : Program} {w : World} {mg mb : Str → Option Value} {A : Around} {h₀ : Heap} {n : Addr} {g : Array GenState} {d : Drawn} {os : OsState} {Q : Flow → Shared → Prop} {p r : Array Value} {l lc : List (Str × Value)} {Z : Hp → Prop}
theorem law_kind (C : LawC w mg mb A h₀ n g d os Q) (mz : MonoH Z)
    (next : ∀ K p, LAt prog w A h₀ n g d os Q 8 p r l ((Str.ofString "kind", .ref K) :: lc) (fun H => Z H ∧ KAt H K)) :
    LAt prog w A h₀ n g d os Q 7 #[] r l lc Z := by
  rintro h t S D
  have F : FrL h₀ (lawEnv n).locals h [] := S.F.sub trivial
  have G := C.G
  rw [show lawB.drop 7 = lawSt 7 :: lawB.drop 8 from rfl]
  generalize hr : lawB.drop 8 = rest
  unfold lawSt lawB lawD lawM
  dsimp only [List.drop, hdS]
  obtain ⟨cN, hcN⟩ : ∃ c, (lawEnv n).cells.lookup (Str.ofString "kind") = some c := ⟨_, rfl⟩
  walk_at "xs"
  refine ⟨G.keeps F.keep, r_con (ck_ok (G.keeps F.keep) (C.M.keeps F.keep) S.a (C.a.less (by decide)) fun K h₁ t₁ P₁ e48 y => ?_)⟩
  obtain ⟨p', e48⟩ := e48
  have S₁ : LawS h₀ n p' r h₁ l lc := ⟨S.F.pr P₁ (fun m => (S.tne S.a).1 (List.mem_singleton.mp m)) (fun a m => by rw [List.mem_singleton.mp m]; exact S.a0), S.X.pr P₁ (fun a m z => (S.tne S.a).2 (by rw [List.mem_singleton.mp z] at m; exact m)), e48, P₁ _ _ S.b (by decide), S.a0, S.b0⟩
  have y₁ := KAt.law S y
  refine r_storeC S₁.F S₁.X hcN (fun h₂ F₂ X₂ s₂ => ?_) (by with_unfolding_all rfl) (by with_unfolding_all rfl)
  subst hr
  have S₂ := S₁.cel hcN F₂ X₂ s₂
  have le := (leP (n := n) P₁ (fun a m => by rw [List.mem_singleton.mp m]; exact .head _)).trans (leC hcN s₂)
  exact next K p' h₂ _ S₂ ⟨mz _ _ le D, y₁.keeps (leC hcN s₂)⟩
theorem law_replies (C : LawC w mg mb A h₀ n g d os Q) {iv : Value} {late : Bool} {its : List (Str × Int)} {tl : Str} {tt : Tok} (mz : MonoH Z) (sl : SubL l [(Str.ofString "items", iv)]) (sc : SubL lc [(Str.ofString "tail", .str tl tt)]) (hz : its.length ≤ 13) (hn : ∀ p ∈ its, p.1.length ≤ 3) (ht : tl.length ≤ 100) (z1 : ∀ H, Z H → ItemsH late H iv its)
    (next : ∀ rv, LAt prog w A h₀ n g d os Q 9 p r l ((Str.ofString "replies", rv) :: lc) (fun H => Z H ∧ StrsH H rv (its.map fun p => replyS p.1 tl))) :
    LAt prog w A h₀ n g d os Q 8 p r l lc Z := by
  rintro h t S D
  have F := S.F.sub sl
  have X := (S.X.sub sc).cl
  have G := C.G
  rw [show lawB.drop 8 = lawSt 8 :: lawB.drop 9 from rfl]
  generalize hr : lawB.drop 9 = rest
  unfold lawSt lawB lawD lawM
  dsimp only [List.drop, hdS]
  obtain ⟨cN, hcN⟩ : ∃ c, (lawEnv n).cells.lookup (Str.ofString "replies") = some c := ⟨_, rfl⟩
  obtain ⟨la, vs, rfl, ll, li⟩ := z1 _ D
  refine s_assign (r_comp (cl := _) (by with_unfolding_all rfl) ?_) (by with_unfolding_all rfl)
  walk_at "xs"
  refine r_iterList C.a.hd ll.is fun I h₂ St it => ?_
  refine compE (β := Str) (fun _ => StrV) (fun k => (its[k]?).map fun p => replyS p.1 tl) strM it (by rw [li.length]; lia) F ?_ ?_ (by decide) rfl rfl
  · rintro D' C' i v h₃ t₃ nD nC hi hv F₃ P₃ K₃ _ _
    obtain ⟨p, ep, a, tb, u, m, rfl, hb, _⟩ := li.get' hv
    refine wpAny_pure ⟨h₃, t₃, rfl, Kp.refl _, ?_⟩
    have hb₃ := (hb.le (K₃.le _)).is
    have X₃ : Cls [(Str.ofString "tail", n + 1 + 1)] h₃ [(Str.ofString "tail", .str tl tt)] := (X.kp K₃).sub ⟨⟨rfl, rfl⟩, trivial⟩
    clear F X
    have hp := hn p (List.mem_of_getElem? ep)
    walk_at "xs"
    refine ⟨G.keeps F₃.keep, r_con (reply_ok (G.keeps F₃.keep) (C.a.less (by decide)) (by lia) (by lia) fun h₄ u₄ t₄ k₄ => ?_)⟩
    exact ⟨h₄, _, _, rfl, k₄, by rw [ep]; rfl, _, rfl⟩
  · intro ia ys h₃ t₃ c₃ nI k₃ eI ai
    have S₃ := S.kp k₃
    rw [li.length, range_map0] at ai
    have x₃ : StrsH (Of h₃ (lawX n)) (.ref ia) (its.map fun p => replyS p.1 tl) := ⟨ia, ys, rfl, S₃.nsq.lst (LstH.mk (X := []) (listOf_is eI) (by simp)), ai⟩
    refine r_storeC S₃.F S₃.X hcN (fun h₄ F₄ X₄ s₄ => ?_) (by with_unfolding_all rfl) (by with_unfolding_all rfl)
    subst hr
    have S₄ := S₃.cel hcN F₄ X₄ s₄
    exact next (.ref ia) h₄ _ S₄ ⟨mz _ _ ((k₃.le _).trans (leC hcN s₄)) D, x₃.le (leC hcN s₄)⟩
end
end

section
noncomputable def sideOf (nms : List (Str × Int)) (k : Int) : Int := match nms[k.toNat]? with
  | some q => q.2
  | none => 0
theorem range_bind {α β : Type} (l : List α) (f : α → Option β) : (List.range l.length).filterMap (fun k => (l[k]?).bind f) = l.filterMap f := by
  have go : ∀ m, m ≤ l.length → (List.range m).filterMap (fun k => (l[k]?).bind f) = (l.take m).filterMap f := by
    intro m
    induction m with
    | zero => intro _; rfl
    | succ m ih =>
      intro hm
      have e : l[m]? = some l[m] := List.getElem?_eq_getElem (by lia)
      rw [range_fm, ih (by lia), List.take_add_one, List.filterMap_append, e]
      congr 1
  have := go l.length (Nat.le_refl _)
  rw [List.take_length] at this
  exact this
theorem fm_filter {α β : Type} (l : List α) (c : α → Bool) (f : α → β) : l.filterMap (fun p => if c p = true then some (f p) else none) = (l.filter c).map f := by
  induction l with
  | nil => rfl
  | cons a l ih =>
    rw [List.filter_cons]
    by_cases z : c a = true
    · simp [z, ih]
    · simp [z, ih]
section
variable {prog : Program} {w : World} {mg mb : Str → Option Value} {A : Around} {h₀ : Heap} {n : Addr} {g : Array GenState} {d : Drawn} {os : OsState} {Q : Flow → Shared → Prop} {p r : Array Value} {l lc : List (Str × Value)} {Z : Hp → Prop}
theorem law_heres (C : LawC w mg mb A h₀ n g d os Q) {nv rv : Value} {nms : List (Str × Int)} {tl : Str} (mz : MonoH Z) (sc : SubL lc [(Str.ofString "replies", rv), (Str.ofString "names", nv)]) (hz : nms.length ≤ 13) (z1 : ∀ H, Z H → NamesH H nv nms) (z2 : ∀ H, Z H → StrsH H rv ((itsOf nms).map fun p => replyS p.1 tl))
    (next : ∀ hv rs, rs.Perm (((itsOf nms).filter fun p => sideOf nms p.2 != 1).map fun p => replyS p.1 tl) → rs.Pairwise (fun a b => ltS b a = false) → LAt prog w A h₀ n g d os Q 10 p r ((Str.ofString "heres", hv) :: l) lc (fun H => Z H ∧ StrsH H hv rs)) :
    LAt prog w A h₀ n g d os Q 9 p r l lc Z := by
  rintro h t S D
  have F : FrL h₀ (lawEnv n).locals h [] := S.F.sub trivial
  have X := (S.X.sub sc).cl
  have G := C.G
  rw [show lawB.drop 9 = lawSt 9 :: lawB.drop 10 from rfl]
  generalize hr : lawB.drop 10 = rest
  unfold lawSt lawB lawD lawM
  dsimp only [List.drop, hdS]
  obtain ⟨na, us, rfl, nl, ni⟩ := z1 _ D
  obtain ⟨ra, ws, rfl, rl, ri⟩ := z2 _ D
  walk_at "xs"
  refine r_comp (cl := _) (by with_unfolding_all rfl) ?_
  refine r_call ?_ (by with_unfolding_all rfl)
  walk_at "xs"
  refine r_callT ?_
  refine r_args ?_ (by with_unfolding_all rfl)
  walk_at "xs"
  refine r_len_list nl.is (by rw [ni.length]; lia) fun u₁ t₁ => ?_
  walk_at "xs"
  refine r_range (n := nms.length) C.a.hd (by rw [ni.length]) (by lia) fun I h₂ t₂ St it => ?_
  refine compE (β := Str) (fun _ => StrV) (fun (k : Nat) => ((itsOf nms)[k]?).bind fun p => if (sideOf nms p.2 != 1) = true then some (replyS p.1 tl) else none) strM it (by lia) F ?_ ?_ (by decide) rfl rfl
  · rintro D' C' i v h₃ t₃ nD nC hi ⟨u, rfl⟩ F₃ P₃ K₃ _ _
    have X₃ : Cls [(Str.ofString "replies", n + 1 + 1 + 1), (Str.ofString "names", n + 1)] h₃ [(Str.ofString "replies", .ref ra), (Str.ofString "names", .ref na)] := (X.kp K₃).sub ⟨⟨rfl, rfl⟩, ⟨rfl, rfl⟩, trivial⟩
    clear X F
    obtain ⟨p, ep⟩ : ∃ z, nms[i]? = some z := ⟨_, List.getElem?_eq_getElem hi⟩
    obtain ⟨_, ev, b, tb, ub, rfl, hb⟩ := ni.get ep
    have nl₃ := (nl.le (K₃.le _)).is
    have hb₃ := (hb.le (K₃.le _)).is
    have rl₃ := (rl.le (K₃.le _)).is
    have eit : (itsOf nms)[i]? = some (p.1, (i : Int)) := by rw [itsOf_get, ep]; rfl
    have esd : sideOf nms (i : Int) = p.2 := by unfold sideOf; rw [Int.toNat_natCast, ep]
    obtain ⟨_, er, tr, rfl⟩ := ri.get (show ((itsOf nms).map fun p => replyS p.1 tl)[i]? = some (replyS p.1 tl) by rw [List.getElem?_map, eit]; rfl)
    refine TurnM.one ?_
    walk_at "xs"
    refine r_itemX rfl nl₃ ev (by lia) ?_ (by with_unfolding_all rfl)
    walk_at "xs"
    refine ⟨h₃, _, rfl, Kp.refl _, ?_⟩
    refine ite_b (fun e => ?_) fun e => ?_
    · walk_at "xs"
      refine r_itemX rfl rl₃ er (by lia) ?_ (by with_unfolding_all rfl)
      refine ⟨h₃, _, replyS p.1 tl, rfl, Kp.refl _, ?_, _, rfl⟩
      rw [eit]; show (if (sideOf nms (i : Int) != 1) = true then _ else _) = _; rw [esd, e]; rfl
    · rw [eit]; show (if (sideOf nms (i : Int) != 1) = true then _ else _) = _; rw [esd, e]; rfl
  · intro ia ys h₃ t₃ c₃ nI k₃ eI ai
    rw [← itsOf_len nms, range_bind, fm_filter] at ai
    walk_at "xs"
    refine r_sortedS (listOf_is eI) ai ?_ fun D' h₄ vs' ss' c k₄ nD eD av pm srt => ?_
    · have h1 := List.length_filter_le (fun p => sideOf nms p.2 != 1) (itsOf nms)
      rw [List.length_map]; rw [itsOf_len] at h1; lia
    have S₄ := (S.kp k₃).kp k₄
    refine r_store S₄.F (fun h₅ t₅ F₅ s₅ => ?_) (by with_unfolding_all rfl) (by with_unfolding_all rfl)
    subst hr
    have x₄ : StrsH (Of h₄ (lawX n)) (.ref D') ss' := ⟨D', vs', rfl, S₄.nsq.lst (LstH.mk (X := []) (listOf_is eD) (by simp)), av⟩
    exact next (.ref D') ss' pm srt h₅ t₅ (S₄.loc F₅ s₅) ⟨mz _ _ (((k₃.trans k₄).le _).trans (leL s₅)) D, x₄.le (leL s₅)⟩
theorem law_theres (C : LawC w mg mb A h₀ n g d os Q) {nv rv : Value} {nms : List (Str × Int)} {tl : Str} (mz : MonoH Z) (sc : SubL lc [(Str.ofString "replies", rv), (Str.ofString "names", nv)]) (hz : nms.length ≤ 13) (z1 : ∀ H, Z H → NamesH H nv nms) (z2 : ∀ H, Z H → StrsH H rv ((itsOf nms).map fun p => replyS p.1 tl))
    (next : ∀ hv rs, rs.Perm (((itsOf nms).filter fun p => sideOf nms p.2 != 0).map fun p => replyS p.1 tl) → rs.Pairwise (fun a b => ltS b a = false) → LAt prog w A h₀ n g d os Q 11 p r ((Str.ofString "theres", hv) :: l) lc (fun H => Z H ∧ StrsH H hv rs)) :
    LAt prog w A h₀ n g d os Q 10 p r l lc Z := by
  rintro h t S D
  have F : FrL h₀ (lawEnv n).locals h [] := S.F.sub trivial
  have X := (S.X.sub sc).cl
  have G := C.G
  rw [show lawB.drop 10 = lawSt 10 :: lawB.drop 11 from rfl]
  generalize hr : lawB.drop 11 = rest
  unfold lawSt lawB lawD lawM
  dsimp only [List.drop, hdS]
  obtain ⟨na, us, rfl, nl, ni⟩ := z1 _ D
  obtain ⟨ra, ws, rfl, rl, ri⟩ := z2 _ D
  walk_at "xs"
  refine r_comp (cl := _) (by with_unfolding_all rfl) ?_
  refine r_call ?_ (by with_unfolding_all rfl)
  walk_at "xs"
  refine r_callT ?_
  refine r_args ?_ (by with_unfolding_all rfl)
  walk_at "xs"
  refine r_len_list nl.is (by rw [ni.length]; lia) fun u₁ t₁ => ?_
  walk_at "xs"
  refine r_range (n := nms.length) C.a.hd (by rw [ni.length]) (by lia) fun I h₂ t₂ St it => ?_
  refine compE (β := Str) (fun _ => StrV) (fun (k : Nat) => ((itsOf nms)[k]?).bind fun p => if (sideOf nms p.2 != 0) = true then some (replyS p.1 tl) else none) strM it (by lia) F ?_ ?_ (by decide) rfl rfl
  · rintro D' C' i v h₃ t₃ nD nC hi ⟨u, rfl⟩ F₃ P₃ K₃ _ _
    have X₃ : Cls [(Str.ofString "replies", n + 1 + 1 + 1), (Str.ofString "names", n + 1)] h₃ [(Str.ofString "replies", .ref ra), (Str.ofString "names", .ref na)] := (X.kp K₃).sub ⟨⟨rfl, rfl⟩, ⟨rfl, rfl⟩, trivial⟩
    clear X F
    obtain ⟨p, ep⟩ : ∃ z, nms[i]? = some z := ⟨_, List.getElem?_eq_getElem hi⟩
    obtain ⟨_, ev, b, tb, ub, rfl, hb⟩ := ni.get ep
    have nl₃ := (nl.le (K₃.le _)).is
    have hb₃ := (hb.le (K₃.le _)).is
    have rl₃ := (rl.le (K₃.le _)).is
    have eit : (itsOf nms)[i]? = some (p.1, (i : Int)) := by rw [itsOf_get, ep]; rfl
    have esd : sideOf nms (i : Int) = p.2 := by unfold sideOf; rw [Int.toNat_natCast, ep]
    obtain ⟨_, er, tr, rfl⟩ := ri.get (show ((itsOf nms).map fun p => replyS p.1 tl)[i]? = some (replyS p.1 tl) by rw [List.getElem?_map, eit]; rfl)
    refine TurnM.one ?_
    walk_at "xs"
    refine r_itemX rfl nl₃ ev (by lia) ?_ (by with_unfolding_all rfl)
    walk_at "xs"
    refine ⟨h₃, _, rfl, Kp.refl _, ?_⟩
    refine ite_b (fun e => ?_) fun e => ?_
    · walk_at "xs"
      refine r_itemX rfl rl₃ er (by lia) ?_ (by with_unfolding_all rfl)
      refine ⟨h₃, _, replyS p.1 tl, rfl, Kp.refl _, ?_, _, rfl⟩
      rw [eit]; show (if (sideOf nms (i : Int) != 0) = true then _ else _) = _; rw [esd, e]; rfl
    · rw [eit]; show (if (sideOf nms (i : Int) != 0) = true then _ else _) = _; rw [esd, e]; rfl
  · intro ia ys h₃ t₃ c₃ nI k₃ eI ai
    rw [← itsOf_len nms, range_bind, fm_filter] at ai
    walk_at "xs"
    refine r_sortedS (listOf_is eI) ai ?_ fun D' h₄ vs' ss' c k₄ nD eD av pm srt => ?_
    · have h1 := List.length_filter_le (fun p => sideOf nms p.2 != 0) (itsOf nms)
      rw [List.length_map]; rw [itsOf_len] at h1; lia
    have S₄ := (S.kp k₃).kp k₄
    refine r_store S₄.F (fun h₅ t₅ F₅ s₅ => ?_) (by with_unfolding_all rfl) (by with_unfolding_all rfl)
    subst hr
    have x₄ : StrsH (Of h₄ (lawX n)) (.ref D') ss' := ⟨D', vs', rfl, S₄.nsq.lst (LstH.mk (X := []) (listOf_is eD) (by simp)), av⟩
    exact next (.ref D') ss' pm srt h₅ t₅ (S₄.loc F₅ s₅) ⟨mz _ _ (((k₃.trans k₄).le _).trans (leL s₅)) D, x₄.le (leL s₅)⟩
end
end

section
section
variable {prog : Program} {w : World} {mg mb : Str → Option Value} {A : Around} {h₀ : Heap} {n : Addr} {g : Array GenState} {d : Drawn} {os : OsState} {Q : Flow → Shared → Prop} {p r : Array Value} {l lc : List (Str × Value)} {Z : Hp → Prop}
theorem law_here (C : LawC w mg mb A h₀ n g d os Q) {nv lv : Value} {nms its : List (Str × Int)} {late : Bool} (mz : MonoH Z) (sl : SubL l [(Str.ofString "laid", lv)]) (sc : SubL lc [(Str.ofString "names", nv)]) (hz : its.length ≤ 13) (hn : ∀ p ∈ its, ∃ k : Nat, p.2 = (k : Int) ∧ k < nms.length) (hz' : nms.length ≤ 13) (z1 : ∀ H, Z H → NamesH H nv nms) (z2 : ∀ H, Z H → ItemsH late H lv its)
    (next : ∀ hv, LAt prog w A h₀ n g d os Q 12 p r ((Str.ofString "here", hv) :: l) lc (fun H => Z H ∧ StrsH H hv ((its.filter fun p => sideOf nms p.2 != 1).map (·.1)))) :
    LAt prog w A h₀ n g d os Q 11 p r l lc Z := by
  rintro h t S D
  have F := S.F.sub sl
  have X := (S.X.sub sc).cl
  have G := C.G
  rw [show lawB.drop 11 = lawSt 11 :: lawB.drop 12 from rfl]
  generalize hr : lawB.drop 12 = rest
  unfold lawSt lawB lawD lawM
  dsimp only [List.drop, hdS]
  obtain ⟨na, us, rfl, nl, ni⟩ := z1 _ D
  obtain ⟨la, vs, rfl, ll, li⟩ := z2 _ D
  refine s_assignComp (cl := _) (by with_unfolding_all rfl) (by with_unfolding_all rfl) ?_
  walk_at "xs"
  refine r_iterList C.a.hd ll.is fun I h₂ St it => ?_
  refine compS (β := Str) (fun _ => StrV) (fun (k : Nat) => (its[k]?).bind fun p => if (sideOf nms p.2 != 1) = true then some p.1 else none) strM it (by rw [li.length]; lia) S.F ?_ ?_ strO (by decide) rfl rfl
  · rintro D' C' i v h₃ t₃ nD nC hi hv F₃ P₃ K₃ _ _
    obtain ⟨p, ep, a, tb, u, m, rfl, hb, _⟩ := li.get' hv
    have X₃ : Cls [(Str.ofString "names", n + 1)] h₃ [(Str.ofString "names", .ref na)] := (X.kp K₃).sub ⟨⟨rfl, rfl⟩, trivial⟩
    clear X F
    obtain ⟨k, ek, hk⟩ := hn p (List.mem_of_getElem? ep)
    obtain ⟨q, eq⟩ : ∃ z, nms[k]? = some z := ⟨_, List.getElem?_eq_getElem hk⟩
    obtain ⟨_, ev, b, tc, ub, rfl, hq⟩ := ni.get eq
    have nl₃ := (nl.le (K₃.le _)).is
    have hb₃ := (hb.le (K₃.le _)).is
    have hq₃ := (hq.le (K₃.le _)).is
    have esd : sideOf nms p.2 = q.2 := by unfold sideOf; rw [ek, Int.toNat_natCast, eq]
    refine TurnM.one ?_
    walk_at "xs"
    refine r_itemX ek nl₃ ev (by lia) ?_ (by with_unfolding_all rfl)
    walk_at "xs"
    refine ⟨h₃, _, rfl, Kp.refl _, ?_⟩
    refine ite_b (fun e => ?_) fun e => ?_
    · walk_at "xs"
      refine ⟨h₃, _, p.1, rfl, Kp.refl _, ?_, _, rfl⟩
      rw [ep]; show (if (sideOf nms p.2 != 1) = true then _ else _) = _; rw [esd, e]; rfl
    · rw [ep]; show (if (sideOf nms p.2 != 1) = true then _ else _) = _; rw [esd, e]; rfl
  · intro ia ys h₃ t₃ c₃ nI nIL P₃ F₃ eI ai
    subst hr
    have S₃ := S.pr1 F₃ P₃
    rw [li.length, range_bind, fm_filter] at ai
    exact next (.ref ia) h₃ t₃ S₃ ⟨mz _ _ (leL1 P₃) D, ia, ys, rfl, S₃.nsq.lst (LstH.mk (X := []) (listOf_is eI) (by simp)), ai⟩
theorem law_there (C : LawC w mg mb A h₀ n g d os Q) {nv lv : Value} {nms its : List (Str × Int)} {late : Bool} (mz : MonoH Z) (sl : SubL l [(Str.ofString "laid", lv)]) (sc : SubL lc [(Str.ofString "names", nv)]) (hz : its.length ≤ 13) (hn : ∀ p ∈ its, ∃ k : Nat, p.2 = (k : Int) ∧ k < nms.length) (hz' : nms.length ≤ 13) (z1 : ∀ H, Z H → NamesH H nv nms) (z2 : ∀ H, Z H → ItemsH late H lv its)
    (next : ∀ hv, LAt prog w A h₀ n g d os Q 13 p r ((Str.ofString "there", hv) :: l) lc (fun H => Z H ∧ StrsH H hv ((its.filter fun p => sideOf nms p.2 != 0).map (·.1)))) :
    LAt prog w A h₀ n g d os Q 12 p r l lc Z := by
  rintro h t S D
  have F := S.F.sub sl
  have X := (S.X.sub sc).cl
  have G := C.G
  rw [show lawB.drop 12 = lawSt 12 :: lawB.drop 13 from rfl]
  generalize hr : lawB.drop 13 = rest
  unfold lawSt lawB lawD lawM
  dsimp only [List.drop, hdS]
  obtain ⟨na, us, rfl, nl, ni⟩ := z1 _ D
  obtain ⟨la, vs, rfl, ll, li⟩ := z2 _ D
  refine s_assignComp (cl := _) (by with_unfolding_all rfl) (by with_unfolding_all rfl) ?_
  walk_at "xs"
  refine r_iterList C.a.hd ll.is fun I h₂ St it => ?_
  refine compS (β := Str) (fun _ => StrV) (fun (k : Nat) => (its[k]?).bind fun p => if (sideOf nms p.2 != 0) = true then some p.1 else none) strM it (by rw [li.length]; lia) S.F ?_ ?_ strO (by decide) rfl rfl
  · rintro D' C' i v h₃ t₃ nD nC hi hv F₃ P₃ K₃ _ _
    obtain ⟨p, ep, a, tb, u, m, rfl, hb, _⟩ := li.get' hv
    have X₃ : Cls [(Str.ofString "names", n + 1)] h₃ [(Str.ofString "names", .ref na)] := (X.kp K₃).sub ⟨⟨rfl, rfl⟩, trivial⟩
    clear X F
    obtain ⟨k, ek, hk⟩ := hn p (List.mem_of_getElem? ep)
    obtain ⟨q, eq⟩ : ∃ z, nms[k]? = some z := ⟨_, List.getElem?_eq_getElem hk⟩
    obtain ⟨_, ev, b, tc, ub, rfl, hq⟩ := ni.get eq
    have nl₃ := (nl.le (K₃.le _)).is
    have hb₃ := (hb.le (K₃.le _)).is
    have hq₃ := (hq.le (K₃.le _)).is
    have esd : sideOf nms p.2 = q.2 := by unfold sideOf; rw [ek, Int.toNat_natCast, eq]
    refine TurnM.one ?_
    walk_at "xs"
    refine r_itemX ek nl₃ ev (by lia) ?_ (by with_unfolding_all rfl)
    walk_at "xs"
    refine ⟨h₃, _, rfl, Kp.refl _, ?_⟩
    refine ite_b (fun e => ?_) fun e => ?_
    · walk_at "xs"
      refine ⟨h₃, _, p.1, rfl, Kp.refl _, ?_, _, rfl⟩
      rw [ep]; show (if (sideOf nms p.2 != 0) = true then _ else _) = _; rw [esd, e]; rfl
    · rw [ep]; show (if (sideOf nms p.2 != 0) = true then _ else _) = _; rw [esd, e]; rfl
  · intro ia ys h₃ t₃ c₃ nI nIL P₃ F₃ eI ai
    subst hr
    have S₃ := S.pr1 F₃ P₃
    rw [li.length, range_bind, fm_filter] at ai
    exact next (.ref ia) h₃ t₃ S₃ ⟨mz _ _ (leL1 P₃) D, ia, ys, rfl, S₃.nsq.lst (LstH.mk (X := []) (listOf_is eI) (by simp)), ai⟩
end
end

section
noncomputable def ToldH (H : Hp) (v : Value) (xs ys : List Str) : Prop := ∃ T ma ua bs cs, v = .ref T ∧ TupH H T [.ref ma, .ref ua] ∧ LstH H ma bs ∧ LstH H ua cs ∧ All2 StrV bs xs ∧ All2 StrV cs ys
theorem ToldH.le {H H' : Hp} {v : Value} {xs ys : List Str} (x : ToldH H v xs ys) (k : Le H H') : ToldH H' v xs ys := let ⟨T, ma, ua, bs, cs, e, a, b, c, r⟩ := x; ⟨T, ma, ua, bs, cs, e, a.le k, b.le k, c.le k, r⟩
theorem monoTo {v : Value} {xs ys : List Str} : MonoH fun H => ToldH H v xs ys := fun _ _ k x => x.le k
section
variable {prog : Program} {w : World} {mg mb : Str → Option Value} {A : Around} {h₀ : Heap} {n : Addr} {g : Array GenState} {d : Drawn} {os : OsState} {Q : Flow → Shared → Prop} {p r : Array Value} {l lc : List (Str × Value)} {Z : Hp → Prop}
theorem LawC.fs (C : LawC w mg mb A h₀ n g d os Q) : FS A (lawEnv n) [] [] := ⟨C.hf, rfl, (fun e m => by
  rw [List.mem_singleton.mp m]; intro z; cases z), (fun _ m => nomatch m), rfl⟩
theorem LawC.under (C : LawC w mg mb A h₀ n g d os Q) {h : Heap} (F : FrL h₀ (lawEnv n).locals h l) : Under w mg mb A h h (lawEnv n) [] [] := Under.mk' C.G C.fs F (fun _ m => nomatch m) (fun _ m => nomatch m)
theorem LawS.called {h h' : Heap} (S : LawS h₀ n p r h l lc) (P : Pr [(lawEnv n).locals] h h') (O : OutF h [(lawEnv n).locals] h') : LawS h₀ n p r h' l lc := S.pr1 (S.F.called (fs := []) (fun _ m => nomatch m) P O) P
theorem law_told (C : LawC w mg mb A h₀ n g d os Q) {hv tv : Value} {xs ys : List Str} (mz : MonoH Z) (sl : SubL l [(Str.ofString "heres", hv), (Str.ofString "theres", tv)]) (lx : xs.length ≤ 1000) (ly : ys.length ≤ 1000) (z1 : ∀ H, Z H → StrsH H hv xs) (z2 : ∀ H, Z H → StrsH H tv ys)
    (next : ∀ tv, LAt prog w A h₀ n g d os Q 14 p r ((Str.ofString "told", tv) :: l) lc (fun H => Z H ∧ ToldH H tv (sldL xs ys).1 (sldL xs ys).2)) :
    LAt prog w A h₀ n g d os Q 13 p r l lc Z := by
  rintro h t S D
  have F := S.F.sub sl
  have G := C.G
  rw [show lawB.drop 13 = lawSt 13 :: lawB.drop 14 from rfl]
  generalize hr : lawB.drop 14 = rest
  unfold lawSt lawB lawD lawM
  dsimp only [List.drop, hdS]
  obtain ⟨ha, vs, rfl, hl, hi⟩ := z1 _ D
  obtain ⟨ta, ws, rfl, tl, ti⟩ := z2 _ D
  have U := C.under F
  walk_at "xs"
  refine ⟨G.keeps F.keep, r_con (sd_ok (outer := [lawEnv n]) (fs := [(lawEnv n).locals]) U.G (C.a.less (by decide)) C.hf U.kd U.sm U.ofs U.out (hl.le (Of.sub fun a m => by rw [List.mem_singleton.mp m]; exact lawX_loc)) (tl.le (Of.sub fun a m => by rw [List.mem_singleton.mp m]; exact lawX_loc)) hi ti lx ly fun T ma ua bs cs h₁ t₁ P₁ O₁ eT em eu ab ac => ?_)⟩
  have S₁ := S.called P₁ O₁
  have x₁ : ToldH (Of h₁ (lawX n)) (.ref T) (sldL xs ys).1 (sldL xs ys).2 := ⟨T, ma, ua, bs, cs, rfl, S₁.nsq.tup eT, S₁.nsq.lst em, S₁.nsq.lst eu, ab, ac⟩
  refine r_store S₁.F (fun h₂ t₂ F₂ s₂ => ?_) (by with_unfolding_all rfl) (by with_unfolding_all rfl)
  subst hr
  exact next (.ref T) h₂ t₂ (S₁.loc F₂ s₂) ⟨mz _ _ ((leL1 P₁).trans (leL s₂)) D, x₁.le (leL s₂)⟩
end
end

section
theorem itemsO {late : Bool} {h : Heap} {a : Addr} {X : List Addr} {v : Value} {ps : List (Str × Int)} (n : ∃ o, h.get? a = some o ∧ ∀ vs n, o.data ≠ .seq vs n) (x : ItemsH late (Of h X) v ps) : ItemsH late (Of h (a :: X)) v ps := by
  obtain ⟨b, vs, rfl, ⟨o, y, k, dd⟩, z⟩ := x
  exact ⟨b, vs, rfl, ⟨o, offSeq n y dd, k, dd⟩, z.mono fun _ _ j => itemO _ _ _ _ _ n j⟩
section
variable {prog : Program} {w : World} {mg mb : Str → Option Value} {A : Around} {h₀ h : Heap} {n : Addr} {g : Array GenState} {d : Drawn} {t : Nat} {os : OsState} {Q : Flow → Shared → Prop} {p r : Array Value} {l lc : List (Str × Value)} {Z : Hp → Prop}
theorem law_lam {QQ : Value → Shared → Prop} {params : Arguments} {body : Expr} {scope : Scope} {pos : Pos} {clos : List (Str × Addr)} (C : LawC w mg mb A h₀ n g d os Q) (S : LawS h₀ n p r h l lc) (hcl : closureFor scope (lawEnv n) = pure clos) (hd : defaultsOf params (lawEnv n) = ([], []))
    (ht : TriplesOk r.toList) (hnf : codeAmong pos r.toList = none)
    (q : ∀ f c' ctv h' t', h.get? f = none → h'.get? f = some (kdv_obj "<lambda>" ((lawEnv n).qual ++ "<lambda>") params (.expr body) scope clos .none .none ((mg "__name__").getD .none) c' ctv) → h'.CodeRec (.ref c') ((lawEnv n).qual ++ "<lambda>") →
      LawS h₀ n p (r ++ #[rawInt pos.line, rawInt pos.col, .ref c']) h' l lc → Pr [165] h h' → QQ (.ref f) ⟨h', g, d, t', os⟩) :
    wpAny (model prog w) A (eval (.Lambda params body scope pos) (lawEnv n)) QQ NoE ⟨h, g, d, t, os⟩ := by
  have C0 : CodeHd h₀ 167 165 := codeHd_of_K C.G.K (by kernel_rfl)
  obtain ⟨bm, ob, b1, b2, b3, b4, b5, b6⟩ := C.M.keeps S.F.keep
  have hbP : bm ≠ 165 := fun z => by rw [z, S.b] at b3; cases b3; cases b4
  have hbG : bm ≠ mainGlobals := fun z => by
    obtain ⟨o, es, ep, e, hd, _⟩ := C.G.T.g.keeps S.F.keep
    rw [z, e] at b3; cases b3; rw [hd] at b6; cases b6
  have hgP : mainGlobals ≠ 165 := fun z => by
    obtain ⟨o, es, ep, e, hd, _⟩ := C.G.T.g.keeps S.F.keep
    rw [z, S.b] at e; cases e; cases hd
  refine kla_eval hd ?_
  refine kla_makeFunction (s := ⟨h, g, d, t, os⟩) (mg := mg) hcl (by with_unfolding_all rfl) (C.G.T.g.keeps S.F.keep) (c := 167) (by with_unfolding_all rfl) (C0.keeps S.F.keep) S.b ht hnf hgP ⟨bm, ob, b1, b2, hbG, hbP, b3, b4, b5, b6⟩ fun c' ctv h' tk hx hge hlt hrec htb => ?_
  have P : Pr [165] h (h'.push (kla_obj "<lambda>" ((lawEnv n).qual ++ "<lambda>") params body scope clos ((mg "__name__").getD .none) c' ctv)) := fun b o e m => Heap.get?_push_of_some _ (hx b o (by simpa using m) e)
  have S' := S.tne S.b
  refine q h'.objs.size c' ctv _ tk (Heap.get?_none_of_le (Nat.le_trans hge (Nat.le_of_lt hlt))) (Heap.get?_push_size _ rfl) (hrec.push _) ⟨S.F.pr P (fun m => S'.1 (List.mem_singleton.mp m)) (fun a m => by rw [List.mem_singleton.mp m]; exact S.b0), S.X.pr P (fun a m z => S'.2 (by rw [List.mem_singleton.mp z] at m; exact m)), P _ _ S.a (by decide), Heap.get?_push_of_some _ htb, S.a0, S.b0⟩ P
end
end

section
theorem lay_snoc {lt : (Str × Int) → (Str × Int) → Bool} {its : List (Str × Int)} {i : Nat} {p : Str × Int} (e : its[i]? = some p) : layF lt (its.take (i + 1)) = putF lt p (layF lt (its.take i)) := by
  unfold layF
  rw [List.take_add_one, e, List.foldl_append]; rfl
theorem str_back (x : Str) : (⟨x.cps.toList.toArray⟩ : Str) = x := by simp
section
variable {prog : Program} {w : World} {mg mb : Str → Option Value} {A : Around} {h₀ h : Heap} {n : Addr} {g : Array GenState} {d : Drawn} {t : Nat} {os : OsState} {Q : Flow → Shared → Prop} {p : Array Value} {l lc : List (Str × Value)} {Z : Hp → Prop}
theorem law_grown (C : LawC w mg mb A h₀ n g d os Q) {rv : Value} {its : List (Str × Int)} {tl : Str} {late : Bool} {K : Addr} (mz : MonoH Z) (sc : SubL lc [(Str.ofString "replies", rv), (Str.ofString "kind", .ref K), (Str.ofString "late", .bool late)]) (hz : its.length ≤ 13) (hn : ∀ p ∈ its, p.1.length ≤ 3) (hi : ∀ (k : Nat) p, its[k]? = some p → p.2 = (k : Int)) (ht : tlOk late tl.cps.toList) (ltl : tl.length ≤ 100)
    (z1 : ∀ H, Z H → StrsH H rv (its.map fun p => replyS p.1 tl)) (z2 : ∀ H, Z H → KAt H K)
    (next : ∀ gv c', LAt prog w A h₀ n g d os Q 15 p #[rawInt 190, rawInt 19, .ref c'] ((Str.ofString "grown", gv) :: l) lc (fun H => Z H ∧ ItemsH late H gv (layF (ltI late) its))) :
    LAt prog w A h₀ n g d os Q 14 p #[] l lc Z := by
  rintro h t S D
  have F : FrL h₀ (lawEnv n).locals h [] := S.F.sub trivial
  have X := (S.X.sub sc).cl
  have G := C.G
  rw [show lawB.drop 14 = lawSt 14 :: lawB.drop 15 from rfl]
  generalize hr : lawB.drop 15 = rest
  unfold lawSt lawB lawD lawM
  dsimp only [List.drop, hdS]
  walk_at "xs"
  refine law_lam C S (clos := _) (by with_unfolding_all rfl) (by with_unfolding_all rfl) (by simp [TriplesOk]) (by simp [codeAmong]) fun f c' ctv h₁ t₁ nf ef cf S₁ P₁ => ?_
  obtain ⟨ra, vs, rfl, rl, ri⟩ := z1 _ D
  have le₁ : Le (Of h (lawX n)) (Of h₁ (lawX n)) := leP P₁ fun a m => by rw [List.mem_singleton.mp m]; exact .tail _ (.head _)
  have F₁ : FrL h₀ (lawEnv n).locals h₁ [] := S₁.F.sub trivial
  have X₁ := (S₁.X.sub sc).cl
  have hvl : vs.length = its.length := by rw [ri.length, List.length_map]
  clear F X
  walk_at "xs"
  refine r_newList (by simp) fun D₂ h₂ k₂ nD eD => ?_
  refine r_args0 ?_
  have S₂ := S₁.kp k₂
  obtain ⟨o54, e54⟩ : ∃ o, h₁.get? 54 = some o := ⟨_, (G.keeps S₁.F.keep).K _ _ (by k_is)⟩
  refine ⟨G.keeps S₂.F.keep, r_con (reduce_ok (m := 6) (j := 0) (iv := .ref D₂) (vs := vs) (fun i H v => ItemsH late H v (layF (ltI late) (its.take i))) (fun _ _ _ _ k x => x.le k) (fun i h a X v nn x => itemsO nn x) (G.keeps S₂.F.keep) (C.a.less (by decide)) ⟨_, _, k₂ _ _ ef, rfl⟩ ((rl.le (le₁.trans (k₂.le _))).le Of.all) (by lia)
    (.inl ⟨D₂, _, rfl, (fun z => by rw [z, e54] at nD; cases nD), eD, (by simp), ⟨D₂, [], rfl, LstH.mk (listOf_is eD) (by simp), .nil⟩, rfl⟩) (.inl rfl) ?_ fun gv h₃ t₃ k₃ xg => ?_)⟩
  · intro i v e A' h₄ t₄ he a' k₄ xv
    obtain ⟨x, ex, te, rfl⟩ := ri.get' he
    rw [List.getElem?_map] at ex
    obtain ⟨p', ep⟩ : ∃ z, its[i]? = some z := by
      cases z : its[i]? with
      | none => rw [z] at ex; cases ex
      | some z' => exact ⟨z', rfl⟩
    rw [ep] at ex
    injection ex with ex
    have ex2 : replyS p'.1 tl = x := ex
    subst ex2
    have hi' := (List.getElem?_eq_some_iff.mp ep).1
    have hp := hn p' (List.mem_of_getElem? ep)
    have hl := replyS_len p'.1 tl
    have G₄ : Gd w mg mb h₄ := (G.keeps S₂.F.keep).keeps k₄
    have hz4 : (layF (ltI late) (its.take i)).length = i := by
      rw [layF_len, List.length_take]
      have := (List.getElem?_eq_some_iff.mp ep).1
      lia
    refine enterE [(Str.ofString "so", v), (Str.ofString "reply", .str (replyS p'.1 tl) te)] G₄.T.nolimit a'.d0 (k₄ _ _ (k₂ _ _ ef)) (cf.keeps (k₂.trans k₄)) (.of_eq rfl) rfl ?_
    intro env h₅ t₅ F₅
    have a1 : Ar (A'.deeper env) 5 := a'.deeper
    have X₅ : Cls [(Str.ofString "late", n + 1 + 1 + 1 + 1 + 1), (Str.ofString "kind", n + 1 + 1 + 1 + 1)] h₅ [(Str.ofString "late", .bool late), (Str.ofString "kind", .ref K)] := (X₁.kp ((k₂.trans k₄).trans F₅.keep)).sub ⟨⟨rfl, rfl⟩, ⟨rfl, rfl⟩, trivial⟩
    have yK : KAt (Of h₅ []) K := ((z2 _ D).keeps (le₁.trans (((k₂.trans k₄).trans F₅.keep).le _))).keeps Of.all
    clear X₁ F₁
    walk_at "xs"
    refine ⟨G₄.keeps F₅.keep, r_con (parse_ok' (r := p'.1.cps.toList) ?_ (G₄.keeps F₅.keep) (a1.less (by decide)) ?_ ?_ ?_ fun h₆ u₆ t₆ k₆ => ?_)⟩
    · exact parse_reply ht p'.1
    · lia
    · lia
    · show (replyL _ _).take 3 = _; unfold replyL; simp
    rw [str_back]
    have F₆ := F₅.kp k₆
    have X₆ := X₅.kp k₆
    have xv₆ : ItemsH late (Of h₆ []) v (layF (ltI late) (its.take i)) := xv.le ((F₅.keep.trans k₆).le _)
    clear F₅ X₅
    walk_at "xs"
    refine ⟨G₄.keeps F₆.keep, r_con (put_ok (G₄.keeps F₆.keep) (yK.keeps (k₆.le _)) a1 xv₆ (by lia) (by lia) fun v' h₇ t₇ k₇ x₇ => ?_)⟩
    refine ⟨h₇, t₇, rfl, F₆.keep.trans k₇, ?_⟩
    rw [lay_snoc ep]
    rw [putK_eq, hz4, ← hi _ _ ep] at x₇
    exact x₇
  · rw [hvl, List.take_length] at xg
    have S₃ := S₂.kp k₃
    refine r_store S₃.F (fun h₄ t₄ F₄ s₄ => ?_) (by with_unfolding_all rfl) (by with_unfolding_all rfl)
    subst hr
    exact next gv c' h₄ t₄ (S₃.loc F₄ s₄) ⟨mz _ _ ((le₁.trans ((k₂.trans k₃).le _)).trans (leL s₄)) D, (S₃.nsq.items xg).le (leL s₄)⟩
end
end

section
section
variable {prog : Program} {w : World} {mg mb : Str → Option Value} {A : Around} {h₀ h : Heap} {n : Addr} {g : Array GenState} {d : Drawn} {t : Nat} {os : OsState} {Q : Flow → Shared → Prop} {p : Array Value} {l lc : List (Str × Value)} {Z : Hp → Prop}
theorem law_least (C : LawC w mg mb A h₀ n g d os Q) {iv : Value} {its : List (Str × Int)} {late : Bool} {K c₀ : Addr} (mz : MonoH Z) (sl : SubL l [(Str.ofString "items", iv)]) (sc : SubL lc [(Str.ofString "kind", .ref K)]) (hz : its.length ≤ 13) (h5 : 5 ≤ its.length)
    (z1 : ∀ H, Z H → ItemsH late H iv its) (z2 : ∀ H, Z H → KAt H K)
    (next : ∀ ev b r, (layF (ltI late) its).head? = some b → LAt prog w A h₀ n g d os Q 16 p r ((Str.ofString "least", ev) :: l) lc (fun H => Z H ∧ ItemH late H ev b)) :
    LAt prog w A h₀ n g d os Q 15 p #[rawInt 190, rawInt 19, .ref c₀] l lc Z := by
  rintro h t S D
  have F := S.F.sub sl
  have G := C.G
  rw [show lawB.drop 15 = lawSt 15 :: lawB.drop 16 from rfl]
  generalize hr : lawB.drop 16 = rest
  unfold lawSt lawB lawD lawM
  dsimp only [List.drop, hdS]
  obtain ⟨ia, vs, rfl, il, ii⟩ := z1 _ D
  walk_at "xs"
  refine law_lam C S (clos := _) (by with_unfolding_all rfl) (by with_unfolding_all rfl) (by simp [TriplesOk, rawInt]) (by simp [codeAmong, rawInt]) fun f c' ctv h₁ t₁ nf ef cf S₁ P₁ => ?_
  have le₁ : Le (Of h (lawX n)) (Of h₁ (lawX n)) := leP P₁ fun a m => by rw [List.mem_singleton.mp m]; exact .tail _ (.head _)
  have F₁ := S₁.F.sub sl
  have X₁ := (S₁.X.sub sc).cl
  have hvl : vs.length = its.length := ii.length
  clear F
  walk_at "xs"
  obtain ⟨p0, e0⟩ : ∃ z, its[0]? = some z := ⟨_, List.getElem?_eq_getElem (by lia)⟩
  obtain ⟨x0, ex0, hx0⟩ := ii.get e0
  refine ⟨G.keeps S₁.F.keep, r_con (reduce_ok (m := 6) (j := 1) (iv := .ref 54) (vs := vs) (fun i H v => ∃ b, (layF (ltI late) (its.take i)).head? = some b ∧ ItemH late H v b) (fun _ _ _ _ k ⟨b, e, x⟩ => ⟨b, e, x.le k⟩) (fun i h a X v nn ⟨b, e, x⟩ => ⟨b, e, itemO _ _ _ _ _ nn x⟩) (G.keeps S₁.F.keep) (C.a.less (by decide)) ⟨_, _, ef, rfl⟩ ((il.le le₁).le Of.all) (by lia)
    (.inr ⟨rfl, rfl, x0, ex0, p0, ?_, (hx0.le le₁).le Of.all⟩) (.inr ⟨rfl, rfl⟩) ?_ fun ev h₃ t₃ k₃ xg => ?_)⟩
  · rw [lay_snoc e0]; rfl
  · rintro i v e A' h₄ t₄ he a' k₄ ⟨b, eb, xv⟩
    obtain ⟨p', ep, xe⟩ := ii.get' he
    have G₄ : Gd w mg mb h₄ := (G.keeps S₁.F.keep).keeps k₄
    refine enterE [(Str.ofString "best", v), (Str.ofString "item", e)] G₄.T.nolimit a'.d0 (k₄ _ _ ef) (cf.keeps k₄) (.of_eq rfl) rfl ?_
    intro env h₅ t₅ F₅
    have a1 : Ar (A'.deeper env) 5 := a'.deeper
    have X₅ : Cls [(Str.ofString "kind", n + 1 + 1 + 1 + 1)] h₅ [(Str.ofString "kind", .ref K)] := (X₁.kp (k₄.trans F₅.keep)).sub ⟨⟨rfl, rfl⟩, trivial⟩
    have yK : KAt (Of h₅ []) K := ((z2 _ D).keeps (le₁.trans ((k₄.trans F₅.keep).le _))).keeps Of.all
    have xe₅ : ItemH late (Of h₅ []) e p' := (xe.le (le₁.trans ((k₄.trans F₅.keep).le _))).le Of.all
    have xv₅ : ItemH late (Of h₅ []) v b := xv.le (F₅.keep.le _)
    clear X₁ F₁
    walk_at "xs"
    refine r_callC ?_
    walk_at "xs"
    refine ⟨yK, r_con (mk_ok (G₄.keeps F₅.keep) yK (a1.less (by decide)) fun me h₆ t₆ k₆ ke => ?_)⟩
    have F₆ := F₅.kp k₆
    have X₆ := X₅.kp k₆
    have yK₆ := yK.keeps (k₆.le [])
    have ke₆ : KeyH (Of h₆ []) K me e := ke.of fun b m => nomatch m
    clear F₅ X₅
    walk_at "xs"
    refine r_callC ?_
    walk_at "xs"
    refine ⟨yK₆, r_con (mk_ok (G₄.keeps F₆.keep) yK₆ (a1.less (by decide)) fun you h₇ t₇ k₇ ky => ?_)⟩
    have F₇ := F₆.kp k₇
    have yK₇ := yK₆.keeps (k₇.le [])
    have ky₇ : KeyH (Of h₇ []) K you v := ky.of fun b m => nomatch m
    clear F₆ X₆
    walk_at "xs"
    refine key_cmp rfl (G₄.keeps F₇.keep) yK₇ (a1.less (by decide)) (ke₆.le (k₇.le _)) ky₇ (xe₅.le ((k₆.trans k₇).le _)) (xv₅.le ((k₆.trans k₇).le _)) fun h₈ t₈ k₈ => ?_
    have F₈ := F₇.kp k₈
    have kk : Kp h₄ h₈ := F₈.keep
    have eq8 : (layF (ltI late) (its.take (i + 1))).head? = some (if ltI late p' b then p' else b) := by rw [lay_snoc ep]; exact head_put eb
    rw [(key_ok late p' b).lt]
    clear F₇
    walk_at "xs"
    refine ite_b (fun c1 => ?_) fun c1 => ?_
    · walk_at "xs"
      rw [c1] at eq8
      exact ⟨h₈, _, rfl, kk, p', eq8, xe₅.le (((k₆.trans k₇).trans k₈).le _)⟩
    · walk_at "xs"
      rw [c1] at eq8
      exact ⟨h₈, _, rfl, kk, b, eq8, xv₅.le (((k₆.trans k₇).trans k₈).le _)⟩
  · obtain ⟨b, eb, xb⟩ := xg
    rw [hvl, List.take_length] at eb
    have S₃ := S₁.kp k₃
    refine r_store S₃.F (fun h₄ t₄ F₄ s₄ => ?_) (by with_unfolding_all rfl) (by with_unfolding_all rfl)
    subst hr
    exact next ev b _ eb h₄ t₄ (S₃.loc F₄ s₄) ⟨mz _ _ ((le₁.trans (k₃.le _)).trans (leL s₄)) D, (S₃.nsq.item xb).le (leL s₄)⟩
end
end

section
section
variable {prog : Program} {w : World} {mg mb : Str → Option Value} {A : Around} {h₀ h : Heap} {n : Addr} {g : Array GenState} {d : Drawn} {t : Nat} {os : OsState} {Q : Flow → Shared → Prop} {p r : Array Value} {l lc : List (Str × Value)} {Z : Hp → Prop}
theorem law_if16 (C : LawC w mg mb A h₀ n g d os Q) {rv dv : Value} {its : List (Str × Int)} {tl : Str} {late : Bool} (mz : MonoH Z) (sl : SubL l [(Str.ofString "due", dv)]) (sc : SubL lc [(Str.ofString "replies", rv)]) (hz : its.length ≤ 13) (hn : ∀ p ∈ its, p.1.length ≤ 3) (hi : ∀ (k : Nat) p, its[k]? = some p → p.2 = (k : Int)) (ht : tlOk late tl.cps.toList) (ltl : tl.length ≤ 100)
    (z1 : ∀ H, Z H → StrsH H rv (its.map fun p => replyS p.1 tl)) (z2 : ∀ H, Z H → StrsH H dv ((layF (ltI late) its).map (·.1)))
    (next : LAt prog w A h₀ n g d os Q 17 p r l lc Z) : LAt prog w A h₀ n g d os Q 16 p r l lc Z := by
  rintro h t S D
  have F := S.F.sub sl
  have X := (S.X.sub sc).cl
  have G := C.G
  rw [show lawB.drop 16 = lawSt 16 :: lawB.drop 17 from rfl]
  generalize hr : lawB.drop 17 = rest
  unfold lawSt lawB lawD lawM
  dsimp only [List.drop, hdS]
  obtain ⟨ra, vs, rfl, rl, ri⟩ := z1 _ D
  obtain ⟨da, ds, rfl, dl, di⟩ := z2 _ D
  walk_at "xs"
  refine r_comp (cl := _) (by with_unfolding_all rfl) ?_
  walk_at "xs"
  refine r_sortedS rl.is ri (by rw [List.length_map]; lia) fun D₁ h₁ vs' ss' c₁ k₁ nD eD av pm srt => ?_
  have es := sorted_replies ht hi (fun _ => true) (rs := ss') (by rw [List.filter_eq_self.mpr fun _ _ => rfl]; exact pm) srt
  rw [List.filter_eq_self.mpr fun _ _ => rfl] at es
  have hlen : (layF (ltI late) its).length = its.length := layF_len its
  refine r_iterList C.a.hd (listOf_is eD) fun I h₂ St it => ?_
  have F₂ := F.kp (k₁.trans it.kp)
  have F₁ := F.kp k₁
  refine compE (β := Str) (fun _ => StrV) (fun (k : Nat) => ((layF (ltI late) its)[k]?).map (·.1)) strM it (by rw [av.length, es, List.length_map]; lia) F₁ ?_ ?_ (by decide) rfl rfl
  · rintro D' C' i v h₃ t₃ nD' nC hi' hv F₃ P₃ K₃ _ _
    obtain ⟨x, ex, tx, rfl⟩ := av.get' hv
    rw [es, List.getElem?_map] at ex
    obtain ⟨p', ep⟩ : ∃ z, (layF (ltI late) its)[i]? = some z := by
      cases z : (layF (ltI late) its)[i]? with
      | none => rw [z] at ex; cases ex
      | some z' => exact ⟨z', rfl⟩
    rw [ep] at ex
    injection ex with ex
    have ex2 : replyS p'.1 tl = x := ex
    subst ex2
    have hp := hn p' ((layF_mem its p').mp (List.mem_of_getElem? ep))
    have hl := replyS_len p'.1 tl
    refine wpAny_pure ⟨h₃, t₃, rfl, Kp.refl _, ?_⟩
    clear F X F₁ F₂
    walk_at "xs"
    refine ⟨G.keeps F₃.keep, r_con (parse_ok' (r := p'.1.cps.toList) ?_ (G.keeps F₃.keep) (C.a.less (by decide)) ?_ ?_ ?_ fun h₆ u₆ t₆ k₆ => ?_)⟩
    · exact parse_reply ht p'.1
    · lia
    · lia
    · show (replyL _ _).take 3 = _; unfold replyL; simp
    rw [str_back]
    exact ⟨h₆, _, p'.1, rfl, k₆, by rw [ep]; rfl, _, rfl⟩
  · intro B bs h₃ t₃ c₃ nB k₃ eB ab
    have kk := k₁.trans k₃
    have S₃ := S.kp kk
    have F₃ := F.kp kk
    rw [av.length, es, List.length_map, range_map0] at ab
    clear F X F₁ F₂
    walk_at "xs"
    refine ne_lists (listOf_is eB) (dl.le (kk.le _)).is (by have := C.a.un; lia) (eq_strs (ws := []) ab di) ?_
    walk_at "xs"
    subst hr
    exact next h₃ _ S₃ (mz _ _ (kk.le _) D)
end
end

section
theorem all2_pick {α β : Type} {P : α → β → Prop} {as : List α} {bs : List β} (h : All2 P as bs) (x : α) (y : β) : ∀ {is : List Nat}, (∀ i ∈ is, i < bs.length) → All2 P (is.map fun i => as.getD i x) (is.map fun i => bs.getD i y)
  | [], _ => .nil
  | i :: is, hi => by
    have h1 := hi i (.head _)
    obtain ⟨a, ea, pa⟩ := h.get (List.getElem?_eq_getElem h1)
    refine .cons ?_ (all2_pick h x y fun j m => hi j (.tail _ m))
    show P (as.getD i x) (bs.getD i y)
    rw [List.getD_eq_getElem?_getD, List.getD_eq_getElem?_getD, ea, List.getElem?_eq_getElem h1]
    exact pa
section
variable {prog : Program} {w : World} {mg mb : Str → Option Value} {A : Around} {h₀ h : Heap} {n : Addr} {g : Array GenState} {d : Drawn} {t : Nat} {os : OsState} {Q : Flow → Shared → Prop} {p r : Array Value} {l lc : List (Str × Value)} {Z : Hp → Prop}
theorem eq_itemL {s : Shared} {late : Bool} {X Y : List Addr} {vs ws : List Value} {ps : List (Str × Int)} (hu : A.units + 5 < cLine) (h1 : All2 (ItemH late (Of s.heap X)) vs ps) : ∀ {ws : List Value}, All2 (ItemH late (Of s.heap Y)) ws ps → All2 (fun y x => PySem.SeqAt.EqAt A s y x true) vs ws := by
  induction h1 with
  | nil => intro ws h2; cases h2; exact .nil
  | cons a _ ih =>
    intro ws h2
    cases h2 with
    | cons b h2 => exact .cons (eq_item hu a b) (ih h2)
theorem ne_itemL {s : Shared} {late : Bool} {X Y : List Addr} {v v' : Value} {ps : List (Str × Int)} {QQ : Value → Shared → Prop} (hu : A.units + 10 < cLine) (h1 : ItemsH late (Of s.heap X) v ps) (h2 : ItemsH late (Of s.heap Y) v' ps) (q : QQ (.bool false) s) :
    wpAny (model prog w) A (compareOp .NotEq v v') QQ NoE s := by
  obtain ⟨a, vs, rfl, x1, i1⟩ := h1
  obtain ⟨b, ws, rfl, x2, i2⟩ := h2
  exact ne_lists x1.is x2.is (by lia) (eq_itemL (A := A.in1) (by show A.units + 1 + 5 < _; lia) (ws := []) i1 i2) q
theorem law_if17 (C : LawC w mg mb A h₀ n g d os Q) {iv lv gv ev : Value} {its : List (Str × Int)} {late : Bool} {b : Str × Int} {K : Addr} (mz : MonoH Z) (sl : SubL l [(Str.ofString "items", iv), (Str.ofString "laid", lv), (Str.ofString "grown", gv), (Str.ofString "least", ev)]) (sc : SubL lc [(Str.ofString "kind", .ref K)]) (hz : its.length ≤ 13) (h5 : 5 ≤ its.length) (hi : ∀ (k : Nat) p, its[k]? = some p → p.2 = (k : Int))
    (eb : (layF (ltI late) its).head? = some b)
    (z1 : ∀ H, Z H → ItemsH late H iv its) (z2 : ∀ H, Z H → ItemsH late H lv (layF (ltI late) its)) (z3 : ∀ H, Z H → ItemsH late H gv (layF (ltI late) its)) (z4 : ∀ H, Z H → ItemH late H ev b) (z5 : ∀ H, Z H → KAt H K)
    (next : LAt prog w A h₀ n g d os Q 18 p r l lc Z) : LAt prog w A h₀ n g d os Q 17 p r l lc Z := by
  rintro h t S D
  have F := S.F.sub sl
  have X := (S.X.sub sc).cl
  have G := C.G
  rw [show lawB.drop 17 = lawSt 17 :: lawB.drop 18 from rfl]
  generalize hr : lawB.drop 18 = rest
  unfold lawSt lawB lawD lawM
  dsimp only [List.drop, hdS]
  obtain ⟨ia, vs, rfl, il, ii⟩ := z1 _ D
  have hlen : (layF (ltI late) its).length = its.length := layF_len its
  have subL : Le (Of h (lawX n)) (Of h [(lawEnv n).locals]) := Of.sub fun a m => by rw [List.mem_singleton.mp m]; exact lawX_loc
  walk_at "xs"
  refine wpAny_Call_Name_kw ?_
  walk_at "xs"
  refine callWith_kw ?_ (by with_unfolding_all rfl) (by with_unfolding_all rfl) (by with_unfolding_all rfl) (by with_unfolding_all rfl)
  walk_at "xs"
  refine kws_cons ?_
  walk_at "xs"
  refine kws_nil ?_
  show wpAny _ _ (call (.builtin "sorted") [.ref ia] [(Str.ofString "key", .ref K)]) _ _ _
  refine r_sortedK (X := []) S.F C.G ((z5 _ D).keeps subL) (C.a.less (by decide)) il.is (ii.mono fun _ _ x => x.le subL) (by lia) (by lia) (swoN late its) fun D₁ ps h₁ t₁ c₁ F₁ P₁ nD nDL eD srt => ?_
  have S₁ := S.pr1 F₁ P₁
  have le₁ := leL1 P₁
  have hlow : ∀ i ∈ ps.toList, i < its.length := fun i m => by
    obtain ⟨j, hj, ej⟩ := List.mem_iff_getElem.mp m
    have hj' : j < ps.size := by simpa using hj
    refine srt.low j i (by rw [← srt.size]; exact hj') ?_
    rw [← ej]; simp [hj']
  have hs : ItemsH late (Of h₁ (lawX n)) (.ref D₁) (layF (ltI late) its) := by
    rw [← sortK_eq late hi srt]
    exact ⟨D₁, _, rfl, S₁.nsq.lst (LstH.mk (X := []) (listOf_is eD) (by simp)), all2_pick (ii.mono fun _ _ x => x.le le₁) _ _ hlow⟩
  have D' := mz _ _ le₁ D
  have F₂ := S₁.F.sub sl
  have X₂ := (S₁.X.sub sc).cl
  have hu : A.units + 10 < cLine := by have := C.a.un; lia
  clear F X
  walk_at "xs"
  refine ne_itemL hu hs (z2 _ D') ?_
  walk_at "xs"
  refine ne_itemL hu (z3 _ D') (z2 _ D') ?_
  walk_at "xs"
  obtain ⟨la, ls, rfl, ll, li⟩ := z2 _ D'
  obtain ⟨lb, elb, hlb⟩ := li.get (show (layF (ltI late) its)[0]? = some b by rw [← List.head?_eq_getElem?]; exact eb)
  refine r_itemX (i := 0) rfl ll.is elb (by lia) ?_ (by with_unfolding_all rfl)
  refine ne_items (by lia) (z4 _ D') hlb ?_
  walk_at "xs"
  subst hr
  exact next h₁ _ S₁ D'
theorem law_if18 (C : LawC w mg mb A h₀ n g d os Q) {lv : Value} {its : List (Str × Int)} {late : Bool} {K : Addr} (mz : MonoH Z) (sl : SubL l [(Str.ofString "laid", lv)]) (sc : SubL lc [(Str.ofString "late", .bool late), (Str.ofString "kind", .ref K)]) (hz : its.length ≤ 13) (h5 : 5 ≤ its.length) (hn : ∀ p ∈ its, p.1.length ≤ 3)
    (z1 : ∀ H, Z H → ItemsH late H lv its) (z5 : ∀ H, Z H → KAt H K)
    (next : LAt prog w A h₀ n g d os Q 19 p r l lc Z) : LAt prog w A h₀ n g d os Q 18 p r l lc Z := by
  rintro h t S D
  have F := S.F.sub sl
  have X := (S.X.sub sc).cl
  have G := C.G
  rw [show lawB.drop 18 = lawSt 18 :: lawB.drop 19 from rfl]
  generalize hr : lawB.drop 19 = rest
  unfold lawSt lawB lawD lawM
  dsimp only [List.drop, hdS]
  walk_at "xs"
  refine ⟨G.keeps F.keep, r_con (kright_ok (G.keeps F.keep) ((z5 _ D).keeps Of.all) (C.a.less (by decide)) ((z1 _ D).le Of.all) (by lia) h5 (fun p m => by have := hn p m; lia) (fun p _ r _ => key_ok late p r) fun h₁ t₁ k₁ => ?_)⟩
  have S₁ := S.kp k₁
  walk_at "xs"
  subst hr
  exact next h₁ _ S₁ (mz _ _ (k₁.le _) D)
end
end

section
section
variable {prog : Program} {w : World} {mg mb : Str → Option Value} {A : Around} {h₀ h : Heap} {n : Addr} {g : Array GenState} {d : Drawn} {t : Nat} {os : OsState} {Q : Flow → Shared → Prop} {p r : Array Value} {l lc : List (Str × Value)} {Z : Hp → Prop}
theorem r_iterTup {a : Addr} {vs : List Value} {E : Value → Shared → Prop} {Q : Value → Shared → Prop} (hh : A.handled = none) (hl : h.IsTuple a vs.toArray)
    (q : ∀ I h' St, ItOn prog w A h h' I [a] vs.length (fun i v => vs[i]? = some v) St → (∀ i h, St i h → ∃ o, h.get? I = some o) → Q (.ref I) ⟨h', g, d, t, os⟩) :
    wpAny (model prog w) A (pyIter (.ref a)) Q E ⟨h, g, d, t, os⟩ := by
  obtain ⟨oa, hoa, _⟩ := id hl
  have hne : a ≠ h.objs.size := Nat.ne_of_lt (Heap.lt_size hoa)
  have W := Walks.tuple (prog := prog) (w := w) hh h.objs.size a hne vs.toArray
  rw [List.size_toArray] at W
  have e : (fun (i : Nat) v => vs.toArray[i]? = some v) = fun (i : Nat) v => vs[i]? = some v := by funext i v; simp
  rw [e] at W
  refine wpAny_pyIter_tuple hl (q _ _ (fun i h' => h'.IsTupleIter h.objs.size a i ∧ h'.IsTuple a vs.toArray) ⟨W, ⟨⟨_, Heap.get?_push_size _ rfl, rfl, rfl⟩, hl.push _⟩, Kp.push _ _, new_none h, fun b hb => ?_⟩ fun i h' st => let ⟨o, e, _⟩ := st.1; ⟨o, e⟩)
  show b < (h.push _).objs.size
  rw [Heap.size_push]
  rcases List.mem_cons.mp hb with rfl | hb
  · exact Nat.lt_succ_self _
  · rw [List.mem_singleton.mp hb]; exact Nat.lt_succ_of_lt (Heap.lt_size hoa)
theorem law_if19 (C : LawC w mg mb A h₀ n g d os Q) {tv hv ev : Value} {xs ys : List Str} {tl : Str} {late : Bool} (mz : MonoH Z) (sl : SubL l [(Str.ofString "told", tv), (Str.ofString "here", hv), (Str.ofString "there", ev)]) (sc : SubL lc [(Str.ofString "late", .bool late)]) (ht : tlOk late tl.cps.toList) (ltl : tl.length ≤ 100)
    (lx : xs.length ≤ 1000) (ly : ys.length ≤ 1000) (zx : ∀ x ∈ xs, x.length ≤ 3) (zy : ∀ x ∈ ys, x.length ≤ 3) (zz : ∀ x ∈ lacksF late xs ys, x.length ≤ 3) (zw : ∀ x ∈ lacksF late ys xs, x.length ≤ 3) (l1 : (lacksF late xs ys).length ≤ 1000) (l2 : (lacksF late ys xs).length ≤ 1000)
    (z1 : ∀ H, Z H → ToldH H tv ((lacksF late xs ys).map fun n => replyS n tl) ((lacksF late ys xs).map fun n => replyS n tl)) (z2 : ∀ H, Z H → StrsH H hv xs) (z3 : ∀ H, Z H → StrsH H ev ys)
    (next : LAt prog w A h₀ n g d os Q 20 p r l lc Z) : LAt prog w A h₀ n g d os Q 19 p r l lc Z := by
  rintro h t S D
  have F := S.F.sub sl
  have X := (S.X.sub sc).cl
  have G := C.G
  rw [show lawB.drop 19 = lawSt 19 :: lawB.drop 20 from rfl]
  generalize hr : lawB.drop 20 = rest
  unfold lawSt lawB lawD lawM
  dsimp only [List.drop, hdS]
  obtain ⟨T, ma, ua, bs, cs, rfl, hT, hm, hu, ab, ac⟩ := z1 _ D
  obtain ⟨oT, eT, cT, dT⟩ := id hT
  walk_at "xs"
  refine PySem.IsiPair.tuple_tuple eT.1 cT ?_
  walk_at "xs"
  refine ite_n rfl ?_
  walk_at "xs"
  refine r_comp (cl := _) (by with_unfolding_all rfl) ?_
  walk_at "xs"
  refine r_iterTup C.a.hd hT.isT fun I h₂ St it hit => ?_
  refine compE (β := List Str) StrsH (fun (k : Nat) => ([lacksF late xs ys, lacksF late ys xs] : List (List Str))[k]?) (fun _ _ _ _ k x => x.le k) it (by simp) F ?_ ?_ (by decide) rfl rfl
  · rintro D' C' i v h₃ t₃ nD nC hi hv F₃ P₃ K₃ eD st
    obtain ⟨pa, pv, zs, rfl, hp, ap, eo, zl, zn⟩ : ∃ pa pv zs, v = .ref pa ∧ LstH (Of h (lawX n)) pa pv ∧ All2 StrV pv (zs.map fun n => replyS n tl) ∧ ([lacksF late xs ys, lacksF late ys xs] : List (List Str))[i]? = some zs ∧ (∀ x ∈ zs, x.length ≤ 3) ∧ zs.length ≤ 1000 := by
      match i, hi with
      | 0, _ => cases hv; exact ⟨_, _, _, rfl, hm, ab, rfl, zz, l1⟩
      | 1, _ => cases hv; exact ⟨_, _, _, rfl, hu, ac, rfl, zw, l2⟩
    have off : ∀ a ∈ [C', D', I], ∃ o, h₃.get? a = some o := fun a m => by
      rcases List.mem_cons.mp m with rfl | m
      · exact F₃.some
      rcases List.mem_cons.mp m with rfl | m
      · exact eD
      · rw [List.mem_singleton.mp m]; exact hit _ _ st
    refine wpAny_pure ⟨h₃, t₃, rfl, Kp.refl _, ?_⟩
    clear F X
    refine r_comp (cl := _) (by with_unfolding_all rfl) ?_
    walk_at "xs"
    refine r_iterList C.a.hd (hp.le (K₃.le _)).is fun J h₄ St₄ it₄ => ?_
    refine compE (β := Str) (fun _ => StrV) (fun (k : Nat) => (zs[k]?).map id) strM it₄ (by rw [ap.length, List.length_map]; lia) F₃ ?_ ?_ (by decide) rfl rfl
    · rintro D₅ C₅ j v h₅ t₅ nD₅ nC₅ hj hv F₅ P₅ K₅ _ _
      obtain ⟨x, ex, tx, rfl⟩ := ap.get' hv
      rw [List.getElem?_map] at ex
      obtain ⟨z, ez⟩ : ∃ z, zs[j]? = some z := by
        cases z : zs[j]? with
        | none => rw [z] at ex; cases ex
        | some z' => exact ⟨z', rfl⟩
      rw [ez] at ex
      injection ex with ex
      have ex2 : replyS z tl = x := ex
      subst ex2
      have hp := zl z (List.mem_of_getElem? ez)
      have hl := replyS_len z tl
      refine wpAny_pure ⟨h₅, t₅, rfl, Kp.refl _, ?_⟩
      clear F₃
      walk_at "xs"
      refine ⟨G.keeps F₅.keep, r_con (parse_ok' (r := z.cps.toList) ?_ (G.keeps F₅.keep) (C.a.less (by decide)) ?_ ?_ ?_ fun h₆ u₆ t₆ k₆ => ?_)⟩
      · exact parse_reply ht z
      · lia
      · lia
      · show (replyL _ _).take 3 = _; unfold replyL; simp
      rw [str_back]
      exact ⟨h₆, _, z, rfl, k₆, by rw [ez]; rfl, _, rfl⟩
    · intro B vs h₅ t₅ c₅ nB k₅ eB av
      rw [ap.length, List.length_map, range_map0, List.map_id] at av
      refine ⟨h₅, _, zs, rfl, k₅, eo, B, vs, rfl, LstH.mk (listOf_is eB) fun m => ?_, av⟩
      obtain ⟨o, e⟩ := off _ m
      rw [nB] at e; cases e
  · intro B vs h₃ t₃ c₃ nB k₃ eB av
    have S₃ := S.kp k₃
    have F₃ := F.kp k₃
    have X₃ := X.kp k₃
    have D₃ := mz _ _ (k₃.le _) D
    clear F X
    walk_at "xs"
    refine ⟨G.keeps F₃.keep, r_con (lacks_ok (G.keeps F₃.keep) (C.a.less (by decide)) ((z2 _ D₃).le Of.all) ((z3 _ D₃).le Of.all) lx ly (fun x m => by have := zx x m; lia) (fun x m => by have := zy x m; lia) fun v1 h₄ t₄ k₄ x1 => ?_)⟩
    have S₄ := S₃.kp k₄
    have F₄ := F₃.kp k₄
    have X₄ := X₃.kp k₄
    have D₄ := mz _ _ (k₄.le _) D₃
    clear F₃ X₃
    walk_at "xs"
    refine ⟨G.keeps F₄.keep, r_con (lacks_ok (G.keeps F₄.keep) (C.a.less (by decide)) ((z3 _ D₄).le Of.all) ((z2 _ D₄).le Of.all) ly lx (fun x m => by have := zy x m; lia) (fun x m => by have := zx x m; lia) fun v2 h₅ t₅ k₅ x2 => ?_)⟩
    have S₅ := S₄.kp k₅
    have F₅ := F₄.kp k₅
    have D₅ := mz _ _ (k₅.le _) D₄
    clear F₄
    walk_at "xs"
    refine r_newList (by simp) fun L₆ h₆ k₆ nL eL => ?_
    have S₆ := S₅.kp k₆
    have D₆ := mz _ _ (k₆.le _) D₅
    have av₆ : All2 (StrsH (Of h₆ [])) vs [lacksF late xs ys, lacksF late ys xs] := (show All2 (StrsH (Of h₃ [])) vs [lacksF late xs ys, lacksF late ys xs] from av).mono fun _ _ x => x.le (((k₄.trans k₅).trans k₆).le _)
    have bv₆ : All2 (StrsH (Of h₆ [])) [v1, v2] [lacksF late xs ys, lacksF late ys xs] := .cons (x1.le ((k₅.trans k₆).le _)) (.cons (x2.le (k₆.le _)) .nil)
    have hu : A.units + 5 < cLine := by have := C.a.un; lia
    refine ne_lists (listOf_is (k₆ _ _ (k₅ _ _ (k₄ _ _ eB)))) (listOf_is eL) (by lia) ?_ ?_
    · cases av₆ with
      | cons a1 av₆ =>
        cases av₆ with
        | cons a2 av₆ =>
          cases av₆
          cases bv₆ with
          | cons b1 bv₆ =>
            cases bv₆ with
            | cons b2 _ =>
              obtain ⟨_, _, rfl, q1, q2⟩ := a1
              obtain ⟨_, _, rfl, q3, q4⟩ := a2
              obtain ⟨_, _, rfl, q5, q6⟩ := b1
              obtain ⟨_, _, rfl, q7, q8⟩ := b2
              exact .cons (eq_lists q1.is q5.is (by show A.units + 1 < _; lia) (eq_strs (ws := []) q2 q6)) (.cons (eq_lists q3.is q7.is (by show A.units + 1 < _; lia) (eq_strs (ws := []) q4 q8)) .nil)
    · walk_at "xs"
      subst hr
      exact next h₆ _ S₆ D₆
end
end

section
section
variable {prog : Program} {w : World} {mg mb : Str → Option Value} {A : Around} {h₀ h : Heap} {n : Addr} {g : Array GenState} {d : Drawn} {t : Nat} {os : OsState} {Q : Flow → Shared → Prop} {p r : Array Value} {l lc : List (Str × Value)} {Z : Hp → Prop}
theorem law_ret (C : LawC w mg mb A h₀ n g d os Q) {nv : Value} {nms : List (Str × Int)} {tl : Str} {tt : Tok} (mz : MonoH Z) (sc : SubL lc [(Str.ofString "names", nv), (Str.ofString "tail", .str tl tt)]) (ltl : tl.length ≤ 100) (h5 : 5 ≤ nms.length) (hz : nms.length ≤ 13) (hn : ∀ p ∈ nms, NameOk p)
    (z1 : ∀ H, Z H → NamesH H nv nms) : LAt prog w A h₀ n g d os Q 20 p r l lc Z := by
  rintro h t S D
  have F : FrL h₀ (lawEnv n).locals h [] := S.F.sub trivial
  have X := (S.X.sub sc).cl
  have G := C.G
  rw [show lawB.drop 20 = lawSt 20 :: lawB.drop 21 from rfl]
  generalize hr : lawB.drop 21 = rest
  unfold lawSt lawB lawD lawM
  dsimp only [List.drop, hdS]
  have U := C.under F
  walk_at "xs"
  refine ⟨G.keeps F.keep, r_con (spoiled_ok (outer := [lawEnv n]) (fs := [(lawEnv n).locals]) U.G (C.a.less (by decide)) C.hf U.kd U.sm U.ofs U.out (by decide +kernel) (by lia) (parse_cut _) fun h₁ t₁ P₁ O₁ => ?_)⟩
  have S₁ := S.called P₁ O₁
  have F₁ : FrL h₀ (lawEnv n).locals h₁ [] := S₁.F.sub trivial
  have X₁ := (S₁.X.sub sc).cl
  have D₁ := mz _ _ (leL1 P₁) D
  clear F X
  walk_at "xs"
  obtain ⟨na, us, rfl, nl, ni⟩ := z1 _ D₁
  refine PyProof.Rows.neg_int ?_
  have hul : us.length = nms.length := ni.length
  obtain ⟨p', ep⟩ : ∃ z, nms[nms.length - 1]? = some z := ⟨_, List.getElem?_eq_getElem (by lia)⟩
  obtain ⟨_, ev, b, tb, ub, rfl, hb⟩ := ni.get ep
  have hb₁ := hb.is
  have hp := (hn p' (List.mem_of_getElem? ep)).1
  refine tail_any nl.is.typeIs slot_list_getitem.lookup (wpAny_getItem_list_neg nl.is (by decide) (by rw [List.size_toArray]; lia) (by decide) (x := .ref b) ?_ ?_) (by with_unfolding_all rfl)
  · rw [List.size_toArray, show ((-1 : Int) + (us.length : Int)).toNat = nms.length - 1 by lia]
    simpa using ev
  walk_at "xs"
  have U₁ := C.under F₁
  refine ⟨G.keeps F₁.keep, r_con (spoiled_ok (outer := [lawEnv n]) (fs := [(lawEnv n).locals]) U₁.G (C.a.less (by decide)) C.hf U₁.kd U₁.sm U₁.ofs U₁.out (by lia) (by lia) (parse_cut _) fun h₂ t₂ P₂ O₂ => ?_)⟩
  exact C.q h₂ t₂ (S₁.called P₂ O₂).F.keep ⟨_, (S₁.called P₂ O₂).a⟩ ⟨_, (S₁.called P₂ O₂).b⟩
end
end

section
theorem lacks_sub {late : Bool} {xs ys : List Str} : (∀ x ∈ lacksF late xs ys, x ∈ xs) ∧ (lacksF late xs ys).length ≤ xs.length := by
  constructor
  · intro x m
    obtain ⟨k, _, e⟩ := List.mem_filterMap.mp m
    unfold lackB at e
    cases z : xs[k]? with
    | none => rw [z] at e; cases e
    | some y =>
      rw [z] at e
      dsimp only at e
      split at e
      · cases e; exact List.mem_of_getElem? z
      · cases e
  · exact Nat.le_trans (List.length_filterMap_le ..) (by simp)
theorem names_srt {late : Bool} {its : List (Str × Int)} (idx : ∀ (k : Nat) p, its[k]? = some p → p.2 = (k : Int)) (c : Str × Int → Bool) : (((layF (ltI late) its).filter c).map (·.1)).Pairwise (fun a b => ltA late b a = false) := by
  have inc : its.Pairwise (fun a b => a.2 < b.2) := by
    rw [List.pairwise_iff_getElem]
    intro i j hi hj hij
    rw [idx i its[i] (List.getElem?_eq_getElem hi), idx j its[j] (List.getElem?_eq_getElem hj)]
    lia
  have h := (lay_srt late inc).sublist (List.filter_sublist (p := c))
  rw [List.pairwise_map]
  refine h.imp ?_
  intro a b h
  unfold sltI at h
  rw [Bool.or_eq_false_iff] at h
  exact h.1
section
variable {prog : Program} {w : World} {mg mb : Str → Option Value} {A : Around} {h₀ h : Heap} {n : Addr} {g : Array GenState} {d : Drawn} {t : Nat} {os : OsState} {Q : Flow → Shared → Prop}
theorem law_all (C : LawC w mg mb A h₀ n g d os Q) {sa : Addr} {vs : List Value} {ns : List Int} (hz : vs.length ≤ 63) (hi : IntsAre vs ns) :
    LAt prog w A h₀ n g d os Q 0 #[] #[] [(Str.ofString "script", .ref sa)] [] (fun H => LstH H sa vs) := by
  have m0 : MonoH fun H => LstH H sa vs := fun _ _ k x => x.le k
  refine law_row C m0 ⟨rfl, trivial⟩ hz hi (fun H z => z) fun rv row hrow => ?_
  have m1 := m0.and (monoR (v := rv) (xs := row))
  refine law_names C m1 ⟨rfl, trivial⟩ hrow (fun H z => z.2) fun nv nms n5 n13 nok => ?_
  have m2 := m1.and (monoN (v := nv) (xs := nms))
  refine law_tail C m2 ⟨rfl, trivial⟩ (fun H z => z.1.2) fun tl tt htl ltl => ?_
  refine law_late C m2 ⟨rfl, trivial⟩ (fun H z => z.1.2) ?_
  generalize (row.sum.fmod 3 == 2) = late at htl ⊢
  have its_len := itsOf_len nms
  have its_ok := itsOf_ok nok
  have its_idx := itsOf_idx nms
  refine law_items C m2 ⟨rfl, rfl, trivial⟩ n13 nok (fun H z => z.2) fun iv => ?_
  have its_k : ∀ p ∈ itsOf nms, ∃ k : Nat, p.2 = (k : Int) ∧ k < nms.length := fun p m => by
    obtain ⟨k, hk, rfl⟩ := List.mem_iff_getElem.mp m
    exact ⟨k, its_idx k _ (List.getElem?_eq_getElem hk), by lia⟩
  generalize hits : itsOf nms = its at its_len its_ok its_idx its_k ⊢
  have m3 := m2.and (monoI (late := late) (v := iv) (xs := its))
  refine law_laid C m3 ⟨rfl, trivial⟩ ⟨rfl, trivial⟩ (by lia) its_ok (fun H z => z.2) fun lv => ?_
  have lay_len : (layF (ltI late) its).length = its.length := layF_len its
  have lay_ok : ∀ p ∈ layF (ltI late) its, p.1.length ≤ 3 := fun p m => its_ok p ((layF_mem its p).mp m)
  have lay_k : ∀ p ∈ layF (ltI late) its, ∃ k : Nat, p.2 = (k : Int) ∧ k < nms.length := fun p m => its_k p ((layF_mem its p).mp m)
  have m4 := m3.and (monoI (late := late) (v := lv) (xs := layF (ltI late) its))
  refine law_due C m4 ⟨rfl, trivial⟩ (by lia) (fun H z => z.2) fun dv => ?_
  have m5 := m4.and (monoS (v := dv) (xs := (layF (ltI late) its).map (·.1)))
  refine law_kind C m5 fun K p => ?_
  have m6 := m5.and (monoK (K := K))
  refine law_replies C m6 ⟨rfl, trivial⟩ ⟨rfl, trivial⟩ (by lia) its_ok ltl (fun H z => z.1.1.1.2) fun pv => ?_
  have m7 := m6.and (monoS (v := pv) (xs := its.map fun p => replyS p.1 tl))
  subst hits
  refine law_heres C m7 ⟨rfl, rfl, trivial⟩ n13 (fun H z => z.1.1.1.1.1.2) (fun H z => z.2) fun hv rs1 pm1 srt1 => ?_
  have e1 := sorted_replies htl its_idx (fun p => sideOf nms p.2 != 1) pm1 srt1
  have m8 := m7.and (monoS (v := hv) (xs := rs1))
  refine law_theres C m8 ⟨rfl, rfl, trivial⟩ n13 (fun H z => z.1.1.1.1.1.1.2) (fun H z => z.1.2) fun tv rs2 pm2 srt2 => ?_
  have e2 := sorted_replies htl its_idx (fun p => sideOf nms p.2 != 0) pm2 srt2
  have m9 := m8.and (monoS (v := tv) (xs := rs2))
  refine law_here C m9 ⟨rfl, trivial⟩ ⟨rfl, trivial⟩ (by lia) lay_k n13 (fun H z => z.1.1.1.1.1.1.1.2) (fun H z => z.1.1.1.1.1.2) fun ev => ?_
  have sx := names_srt (late := late) its_idx (fun p => sideOf nms p.2 != 1)
  have sy := names_srt (late := late) its_idx (fun p => sideOf nms p.2 != 0)
  have lx : (((layF (ltI late) (itsOf nms)).filter fun p => sideOf nms p.2 != 1).map (·.1)).length ≤ 13 := by
    have := List.length_filter_le (fun p => sideOf nms p.2 != 1) (layF (ltI late) (itsOf nms))
    rw [List.length_map]; lia
  have ly : (((layF (ltI late) (itsOf nms)).filter fun p => sideOf nms p.2 != 0).map (·.1)).length ≤ 13 := by
    have := List.length_filter_le (fun p => sideOf nms p.2 != 0) (layF (ltI late) (itsOf nms))
    rw [List.length_map]; lia
  have zx : ∀ x ∈ ((layF (ltI late) (itsOf nms)).filter fun p => sideOf nms p.2 != 1).map (·.1), x.length ≤ 3 := fun x m => by
    obtain ⟨q, mq, rfl⟩ := List.mem_map.mp m
    exact lay_ok q (List.mem_filter.mp mq).1
  have zy : ∀ x ∈ ((layF (ltI late) (itsOf nms)).filter fun p => sideOf nms p.2 != 0).map (·.1), x.length ≤ 3 := fun x m => by
    obtain ⟨q, mq, rfl⟩ := List.mem_map.mp m
    exact lay_ok q (List.mem_filter.mp mq).1
  have q1 : rs1 = (((layF (ltI late) (itsOf nms)).filter fun p => sideOf nms p.2 != 1).map (·.1)).map fun n => replyS n tl := by rw [e1, List.map_map]; rfl
  have q2 : rs2 = (((layF (ltI late) (itsOf nms)).filter fun p => sideOf nms p.2 != 0).map (·.1)).map fun n => replyS n tl := by rw [e2, List.map_map]; rfl
  have m10 := m9.and (monoS (v := ev) (xs := ((layF (ltI late) (itsOf nms)).filter fun p => sideOf nms p.2 != 1).map (·.1)))
  refine law_there C m10 ⟨rfl, trivial⟩ ⟨rfl, trivial⟩ (by lia) lay_k n13 (fun H z => z.1.1.1.1.1.1.1.1.2) (fun H z => z.1.1.1.1.1.1.2) fun fv => ?_
  have m11 := m10.and (monoS (v := fv) (xs := ((layF (ltI late) (itsOf nms)).filter fun p => sideOf nms p.2 != 0).map (·.1)))
  generalize ((layF (ltI late) (itsOf nms)).filter fun p => sideOf nms p.2 != 1).map (·.1) = xs at *
  generalize ((layF (ltI late) (itsOf nms)).filter fun p => sideOf nms p.2 != 0).map (·.1) = ys at *
  have sld := sld_replies htl sx sy
  rw [← q1, ← q2] at sld
  have k1 := lacks_sub (late := late) (xs := xs) (ys := ys)
  have k2 := lacks_sub (late := late) (xs := ys) (ys := xs)
  refine law_told C m11 ⟨rfl, rfl, trivial⟩ (by rw [q1, List.length_map]; lia) (by rw [q2, List.length_map]; lia) (fun H z => z.1.1.1.2) (fun H z => z.1.1.2) fun ov => ?_
  rw [sld]
  have m12 := m11.and (monoTo (v := ov) (xs := (lacksF late xs ys).map fun n => replyS n tl) (ys := (lacksF late ys xs).map fun n => replyS n tl))
  refine law_grown C m12 ⟨rfl, rfl, rfl, trivial⟩ (by lia) its_ok its_idx htl ltl (fun H z => z.1.1.1.1.1.2) (fun H z => z.1.1.1.1.1.1.2) fun gv c' => ?_
  have m13 := m12.and (monoI (late := late) (v := gv) (xs := layF (ltI late) (itsOf nms)))
  refine law_least C m13 ⟨rfl, trivial⟩ ⟨rfl, trivial⟩ (by lia) (by lia) (fun H z => z.1.1.1.1.1.1.1.1.1.1.2) (fun H z => z.1.1.1.1.1.1.1.2) fun yv b r eb => ?_
  have m14 := m13.and (monoM (late := late) (v := yv) (x := b))
  refine law_if16 C m14 ⟨rfl, trivial⟩ ⟨rfl, trivial⟩ (by lia) its_ok its_idx htl ltl (fun H z => z.1.1.1.1.1.1.1.2) (fun H z => z.1.1.1.1.1.1.1.1.1.2) ?_
  refine law_if17 C m14 ⟨rfl, rfl, rfl, rfl, trivial⟩ ⟨rfl, trivial⟩ (by lia) (by lia) its_idx eb (fun H z => z.1.1.1.1.1.1.1.1.1.1.1.2) (fun H z => z.1.1.1.1.1.1.1.1.1.1.2) (fun H z => z.1.2) (fun H z => z.2) (fun H z => z.1.1.1.1.1.1.1.1.2) ?_
  refine law_if18 C m14 ⟨rfl, trivial⟩ ⟨rfl, rfl, trivial⟩ (by lia) (by lia) lay_ok (fun H z => z.1.1.1.1.1.1.1.1.1.1.2) (fun H z => z.1.1.1.1.1.1.1.1.2) ?_
  refine law_if19 C m14 ⟨rfl, rfl, rfl, trivial⟩ ⟨rfl, trivial⟩ htl ltl (by lia) (by lia) zx zy (fun x m => zx x (k1.1 x m)) (fun x m => zy x (k2.1 x m)) (by lia) (by lia) (fun H z => z.1.1.2) (fun H z => z.1.1.1.1.2) (fun H z => z.1.1.1.2) ?_
  exact law_ret C m14 ⟨rfl, rfl, trivial⟩ ltl n5 n13 nok (fun H z => z.1.1.1.1.1.1.1.1.1.1.1.1.2)
end
section
variable {prog : Program} {w : World} {mg mb : Str → Option Value} {A : Around}
theorem law_ok {sc : Addr} {vs : List Value} {ns : List Int} {s : Shared} {R : Value → Shared → Prop} (G : Gd w mg mb s.heap) (M : BmAt mg s.heap) (T48 : s.heap.get? 48 = some (tabObj #[])) (T165 : s.heap.get? 165 = some (tabObj #[])) (a : Ar A 12) (hf : A.frames = some [])
    (hl : s.heap.IsList sc vs.toArray) (hi : IntsAre vs ns) (hz : vs.length ≤ 63)
    (q : ∀ h' t', Pr [48, 165] s.heap h' → (∃ ps, h'.get? 48 = some (tabObj ps)) → (∃ ps, h'.get? 165 = some (tabObj ps)) → R (.bool true) ⟨h', s.gens, s.drawn, t', s.os⟩) :
    codeAny (model prog w) A (.call (.ref 168) ⟨[.ref sc], []⟩) (RetR R) s := by
  refine enterC [(Str.ofString "script", .ref sc)] [(Str.ofString "script", .ref sc)] G a.d0 (by k_is) (by k_is) rfl rfl ⟨rfl, trivial⟩ ?_
  intro env h₁ t₁ F Cl0
  have a1 : Ar (A.deeper env) 11 := a.deeper
  have hT : TabsAt [(52, 48), (167, 165)] s.heap := fun q hq => by
    rcases List.mem_cons.mp hq with rfl | hq
    · exact ⟨codeHd_of_K G.K (by kernel_rfl), T48⟩
    · rw [List.mem_singleton.mp hq]; exact ⟨codeHd_of_K G.K (by kernel_rfl), T165⟩
  have G0 : Gd w mg mb (hideAll s.heap [48, 165]) := G.ghost (tabs := [(52, 48), (167, 165)]) hT
  have M0 : BmAt mg (hideAll s.heap [48, 165]) := M.ghost (tabs := [(52, 48), (167, 165)]) hT
  have F₁ : FrL (hideAll s.heap [48, 165]) env.locals h₁ [(Str.ofString "script", .ref sc)] := F.ghost (Pr.refl _ _) fun a m => by
    rcases List.mem_cons.mp m with rfl | m
    · exact ⟨_, T48⟩
    · rw [List.mem_singleton.mp m]; exact ⟨_, T165⟩
  have X₁ : ClF (hideAll s.heap [48, 165]) env.cells h₁ [] := ClF.of Cl0 F₁ trivial (by show [Str.ofString "late", Str.ofString "kind", Str.ofString "replies", Str.ofString "tail", Str.ofString "names"].Nodup; decide) rfl
  have C : LawC w mg mb (A.deeper env) (hideAll s.heap [48, 165]) s.heap.objs.size s.gens s.drawn s.os (fun fl s' => R (match fl with | .ret v => v | _ => .none) s') :=
    ⟨G0, M0, a1, by show A.frames.map _ = _; rw [hf]; rfl, fun h' t' k e1 e2 => q h' t' (fun b o e m => k b o (hideAll_get _ e m)) e1 e2⟩
  have S : LawS (hideAll s.heap [48, 165]) s.heap.objs.size #[] #[] h₁ [(Str.ofString "script", .ref sc)] [] := ⟨F₁, X₁, F.keep _ _ T48, F.keep _ _ T165, hideAll_none _ (.head _), hideAll_none _ (.tail _ (.head _))⟩
  have hl₁ : LstH (Of h₁ (lawX s.heap.objs.size)) sc vs := S.nsq.lst (LstH.mk (X := []) (let ⟨o, e, r⟩ := hl; ⟨o, F.keep _ _ e, r⟩) (by simp))
  exact law_all C hz hi h₁ t₁ S hl₁
end
end

section
theorem lw_eq : looseW Mine.hd.view_39 [Str.ofString "_initial_missing", Str.ofString "reduce"] = looseN := by decide +kernel
theorem end_ok {c : ClaimW} {cl : Str → Option Addr} {mean : ExcName → Option Value} {args : List WData} {s₁ : Shared} {h : Heap} {t : Nat} {G48 : CodeHd s₁.heap 52 48} {G165 : CodeHd s₁.heap 167 165}
    (T48 : s₁.heap.get? 48 = some (tabObj #[])) (T165 : s₁.heap.get? 165 = some (tabObj #[])) (P : Pr [48, 165] s₁.heap h) (e48 : ∃ ps, h.get? 48 = some (tabObj ps)) (e165 : ∃ ps, h.get? 165 = some (tabObj ps))
    (hr : ∀ cls, c.raises args cls = false) (hp : c.post args (.bool true) args = true) (hb : AllBare s₁.gens) :
    GoodWG c cl mean args s₁ (.ok (.ret (.bool true))) ⟨h, s₁.gens, s₁.drawn, t, s₁.os⟩ := by
  refine ⟨.inl ⟨_, _, [], rfl, hr, ReadsW.bool true, hp, fun _ => ⟨List.nodup_nil, fun _ hm => (nomatch hm)⟩⟩, ⟨fun b o e => ?_, fun b o e => ?_⟩, rfl, hb⟩
  · by_cases m : b ∈ [48, 165]
    · rcases List.mem_cons.mp m with rfl | m
      · obtain ⟨ps, e'⟩ := e48
        rw [T48] at e; cases e
        exact .inr (.inl ⟨(G48.tab T48).isCodeTable, rfl, #[], ps, rfl, by rw [e']; simp⟩)
      · rw [List.mem_singleton] at m
        subst m
        obtain ⟨ps, e'⟩ := e165
        rw [T165] at e; cases e
        exact .inr (.inl ⟨(G165.tab T165).isCodeTable, rfl, #[], ps, rfl, by rw [e']; simp⟩)
    · exact .inl (P b o e m)
  · by_cases m : b ∈ [48, 165]
    · rcases List.mem_cons.mp m with rfl | m
      · obtain ⟨ps, e'⟩ := e48; exact ⟨_, e'⟩
      · rw [List.mem_singleton] at m
        subst m
        obtain ⟨ps, e'⟩ := e165; exact ⟨_, e'⟩
    · exact ⟨_, P b o e m⟩
theorem fin_ok {M : Model} {A : Around} {C : Code} {s : Shared} {R : Result → Shared → Prop} (c : codeAny M A C (RetR fun v s' => R (.ok (.ret v)) s') s) : codeAny M A C R s := codeAny_mono c fun r s' z => by
  cases r with
  | ok fl => cases fl with
    | ret v => exact z
    | _ => exact z.elim
  | error e => exact z.elim
end

end Mine
open PySem PySem.W PyProof.Rows
set_option maxHeartbeats 8000000 in
theorem PySem.Challenge.cw_nq0048_01_holds : PySem.Challenge.rw_nq0048_01.Holds := by
  refine Mine.hd fun d kwd hdn => ?_
  intro w s₀ s₁ mg mb G Y fa o pm cd doc dV kV ho hd hcd hD hmg hg args vals as hpre hlay hrd hwl hlo
  have KX := km_in_of Y
  have hT8 := km_tabs_of Y
  refine Ground.open G ?_
  intro T B D TE TW
  rw [hdn] at hmg
  clear hd ho hcd hD D
  have hfa : fa = 168 := by
    have e := mg_of KX T.g (n := Str.ofString "law") (v := .ref 168) (by k_is)
    rw [hmg] at e
    exact Value.ref.inj (Option.some.inj e)
  subst hfa
  have GG : Mine.Gd w mg mb s₁.heap := ⟨KX, by have := topRead_of T; rw [Mine.lw_eq] at this; exact this⟩
  have MM : Mine.BmAt mg s₁.heap := by
    obtain ⟨bm, ob, b1, b2, b3, b4, b5, b6⟩ := T.bmain
    exact ⟨bm, ob, b1, b2, b3, b4, b5, b6⟩
  wrow_args hpre hlay hrd hwl hlo
  rename_i ns _ _ _ _ _ _ _ a vs _ hL _ _ _ hI _ hlen _
  have T48 := hT8 48 (by simp)
  have T165 := hT8 165 (by simp)
  have hvl : vs.length = ns.length := hI.length
  refine enter_call ?_
  refine Mine.fin_ok (Mine.law_ok (vs := vs) (ns := ns) GG MM T48 T165 ⟨rfl, by decide, by decide⟩ rfl hL hI (by lia) fun h' t' P e48 e165 => ?_)
  exact Mine.end_ok (G48 := codeHd_of_K KX (by kernel_rfl)) (G165 := codeHd_of_K KX (by kernel_rfl)) T48 T165 P e48 e165 (fun _ => rfl) (by first | rfl | wrow_post) (.of_eq hg)
