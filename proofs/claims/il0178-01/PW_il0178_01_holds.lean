import PyProof.Rows.All
import Wide.All
import OpenK.AllK
import Wide.FinOn
import PySem.Challenge.RW_il0178_01
set_option Elab.async false
set_option compiler.extract_closed false
set_option maxRecDepth 100000
set_option linter.all false
set_option maxHeartbeats 8000000
open PySem PySem.W PyProof.Rows
open PySem.Calls
namespace Mine
section
/-! ## the defs of the text -/
noncomputable def stmtBody : Stmt → List Stmt
  | .FunctionDef _ _ b _ _ _ _ _ _ _ => b
  | _ => []
noncomputable def stmtScope : Stmt → Option Scope
  | .FunctionDef _ _ _ _ _ _ sc _ _ _ => some sc
  | _ => none
noncomputable def bodyAt (i : Nat) : List Stmt := match PySem.Challenge.pw_il0178_01.main.body[i]? with
  | some s => stmtBody s
  | none => []
noncomputable def topAt (i : Nat) : Stmt := match PySem.Challenge.pw_il0178_01.main.body[i]? with
  | some s => s
  | none => .Pass ⟨0, 0, 0, 0⟩
noncomputable def inAt (i j : Nat) : Stmt := match topAt i with
  | .ClassDef _ _ _ b _ _ _ _ _ _ _ => (match b[j]? with | some s => s | none => .Pass ⟨0, 0, 0, 0⟩)
  | s => s
noncomputable def sArgs : Stmt → Arguments
  | .FunctionDef _ a _ _ _ _ _ _ _ _ => a
  | _ => ⟨[], [], none, [], [], none, []⟩
noncomputable def sScope : Stmt → Scope
  | .FunctionDef _ _ _ _ _ _ sc _ _ _ => sc
  | _ => ⟨.function, [], false, false, []⟩
/-! ## the objects that the walk looks at -/
noncomputable def ko2 (P : Params) : Obj := PySem.Obj.mk (PySem.Value.none) (Option.none) (PySem.Data.dict (List.toArray ([])) (0)) (List.toArray ([]))
noncomputable def ko3 (P : Params) : Obj := PySem.Obj.mk (PySem.Value.type ("dict")) (Option.none) (PySem.Data.dict (List.toArray ([PySem.DictEntry.mk (PySem.PyData.keyHash (P) (PySem.Str.ofString ("__name__"))) (PySem.Value.str (PySem.Str.ofString ("__name__")) (165)) (PySem.Value.str (PySem.Str.ofString ("law_il0178_01")) (445)), PySem.DictEntry.mk (PySem.PyData.keyHash (P) (PySem.Str.ofString ("__doc__"))) (PySem.Value.str (PySem.Str.ofString ("__doc__")) (166)) (PySem.Value.none), PySem.DictEntry.mk (PySem.PyData.keyHash (P) (PySem.Str.ofString ("__package__"))) (PySem.Value.str (PySem.Str.ofString ("__package__")) (167)) (PySem.Value.none), PySem.DictEntry.mk (PySem.PyData.keyHash (P) (PySem.Str.ofString ("__loader__"))) (PySem.Value.str (PySem.Str.ofString ("__loader__")) (168)) (PySem.Value.builtin ("__main__.__loader__#opaque")), PySem.DictEntry.mk (PySem.PyData.keyHash (P) (PySem.Str.ofString ("__spec__"))) (PySem.Value.str (PySem.Str.ofString ("__spec__")) (169)) (PySem.Value.none), PySem.DictEntry.mk (PySem.PyData.keyHash (P) (PySem.Str.ofString ("__annotations__"))) (PySem.Value.str (PySem.Str.ofString ("__annotations__")) (170)) (PySem.Value.ref (6)), PySem.DictEntry.mk (PySem.PyData.keyHash (P) (PySem.Str.ofString ("__builtins__"))) (PySem.Value.str (PySem.Str.ofString ("__builtins__")) (171)) (PySem.Value.ref (4)), PySem.DictEntry.mk (PySem.PyData.keyHash (P) (PySem.Str.ofString ("__file__"))) (PySem.Value.str (PySem.Str.ofString ("__file__")) (173)) (PySem.Value.str (PySem.Str.ofString ("/claim/cut.py")) (172)), PySem.DictEntry.mk (PySem.PyData.keyHash (P) (PySem.Str.ofString ("__cached__"))) (PySem.Value.str (PySem.Str.ofString ("__cached__")) (174)) (PySem.Value.none), PySem.DictEntry.mk (PySem.PyData.keyHash (P) (PySem.Str.ofString ("_wall"))) (PySem.Value.str (PySem.Str.ofString ("_wall")) (193)) (PySem.Value.ref (21)), PySem.DictEntry.mk (PySem.PyData.keyHash (P) (PySem.Str.ofString ("Flags"))) (PySem.Value.str (PySem.Str.ofString ("Flags")) (279)) (PySem.Value.ref (73)), PySem.DictEntry.mk (PySem.PyData.keyHash (P) (PySem.Str.ofString ("_plain_name"))) (PySem.Value.str (PySem.Str.ofString ("_plain_name")) (290)) (PySem.Value.ref (84)), PySem.DictEntry.mk (PySem.PyData.keyHash (P) (PySem.Str.ofString ("ABCMeta"))) (PySem.Value.str (PySem.Str.ofString ("ABCMeta")) (316)) (PySem.Value.ref (101)), PySem.DictEntry.mk (PySem.PyData.keyHash (P) (PySem.Str.ofString ("_ABCLike"))) (PySem.Value.str (PySem.Str.ofString ("_ABCLike")) (359)) (PySem.Value.ref (134)), PySem.DictEntry.mk (PySem.PyData.keyHash (P) (PySem.Str.ofString ("_abc_plain_meta"))) (PySem.Value.str (PySem.Str.ofString ("_abc_plain_meta")) (366)) (PySem.Value.ref (143)), PySem.DictEntry.mk (PySem.PyData.keyHash (P) (PySem.Str.ofString ("fspath"))) (PySem.Value.str (PySem.Str.ofString ("fspath")) (378)) (PySem.Value.ref (150)), PySem.DictEntry.mk (PySem.PyData.keyHash (P) (PySem.Str.ofString ("_check_arg_types"))) (PySem.Value.str (PySem.Str.ofString ("_check_arg_types")) (391)) (PySem.Value.ref (157)), PySem.DictEntry.mk (PySem.PyData.keyHash (P) (PySem.Str.ofString ("_get_sep"))) (PySem.Value.str (PySem.Str.ofString ("_get_sep")) (400)) (PySem.Value.ref (164)), PySem.DictEntry.mk (PySem.PyData.keyHash (P) (PySem.Str.ofString ("join"))) (PySem.Value.str (PySem.Str.ofString ("join")) (411)) (PySem.Value.ref (171)), PySem.DictEntry.mk (PySem.PyData.keyHash (P) (PySem.Str.ofString ("split"))) (PySem.Value.str (PySem.Str.ofString ("split")) (422)) (PySem.Value.ref (178)), PySem.DictEntry.mk (PySem.PyData.keyHash (P) (PySem.Str.ofString ("commonpath"))) (PySem.Value.str (PySem.Str.ofString ("commonpath")) (428)) (PySem.Value.ref (183)), PySem.DictEntry.mk (PySem.PyData.keyHash (P) (PySem.Str.ofString ("sorted_list_difference"))) (PySem.Value.str (PySem.Str.ofString ("sorted_list_difference")) (444)) (PySem.Value.ref (190)), PySem.DictEntry.mk (PySem.PyData.keyHash (P) (PySem.Str.ofString ("_law_place"))) (PySem.Value.str (PySem.Str.ofString ("_law_place")) (455)) (PySem.Value.ref (197)), PySem.DictEntry.mk (PySem.PyData.keyHash (P) (PySem.Str.ofString ("_law_quotas"))) (PySem.Value.str (PySem.Str.ofString ("_law_quotas")) (468)) (PySem.Value.ref (204)), PySem.DictEntry.mk (PySem.PyData.keyHash (P) (PySem.Str.ofString ("_law_lines"))) (PySem.Value.str (PySem.Str.ofString ("_law_lines")) (483)) (PySem.Value.ref (211)), PySem.DictEntry.mk (PySem.PyData.keyHash (P) (PySem.Str.ofString ("_law_tells"))) (PySem.Value.str (PySem.Str.ofString ("_law_tells")) (489)) (PySem.Value.ref (216)), PySem.DictEntry.mk (PySem.PyData.keyHash (P) (PySem.Str.ofString ("_law_run"))) (PySem.Value.str (PySem.Str.ofString ("_law_run")) (495)) (PySem.Value.ref (221)), PySem.DictEntry.mk (PySem.PyData.keyHash (P) (PySem.Str.ofString ("_law_rooms"))) (PySem.Value.str (PySem.Str.ofString ("_law_rooms")) (501)) (PySem.Value.ref (226)), PySem.DictEntry.mk (PySem.PyData.keyHash (P) (PySem.Str.ofString ("_law_heads"))) (PySem.Value.str (PySem.Str.ofString ("_law_heads")) (507)) (PySem.Value.ref (231)), PySem.DictEntry.mk (PySem.PyData.keyHash (P) (PySem.Str.ofString ("_law_only"))) (PySem.Value.str (PySem.Str.ofString ("_law_only")) (513)) (PySem.Value.ref (236)), PySem.DictEntry.mk (PySem.PyData.keyHash (P) (PySem.Str.ofString ("_law_differ"))) (PySem.Value.str (PySem.Str.ofString ("_law_differ")) (524)) (PySem.Value.ref (243)), PySem.DictEntry.mk (PySem.PyData.keyHash (P) (PySem.Str.ofString ("law"))) (PySem.Value.str (PySem.Str.ofString ("law")) (530)) (PySem.Value.ref (248))])) (32)) (List.toArray ([]))
noncomputable def ko34 (P : Params) : Obj := PySem.Obj.mk (PySem.Value.type ("code")) (Option.none) (PySem.Data.fields (List.toArray ([PySem.Value.str (PySem.Str.ofString ("__init__")) (212), PySem.Value.str (PySem.Str.ofString ("Flags.__init__")) (213), PySem.Value.str (PySem.Str.ofString ("/claim/cut.py")) (214), PySem.Value.int (9) (0), PySem.Value.int (1) (0), PySem.Value.int (0) (0), PySem.Value.int (0) (0), PySem.Value.int (3) (0), PySem.Value.ref (29), PySem.Value.bool (Bool.true), PySem.Value.int (181) (0), PySem.Value.ref (30), PySem.Value.none, PySem.Value.ref (31), PySem.Value.ref (32), PySem.Value.ref (33), PySem.Value.int (216) (0), PySem.Value.int (9) (0), PySem.Value.str (PySem.Str.ofString ("/claim/cut.py")) (217)]))) (List.toArray ([]))
noncomputable def ko35 (P : Params) : Obj := PySem.Obj.mk (PySem.Value.type ("function")) (Option.none) (PySem.Data.func (PySem.FuncData.mk (PySem.Str.ofString ("__init__")) (PySem.Str.ofString ("Flags.__init__")) (sArgs (inAt 2 2)) (PySem.FuncBody.stmts (stmtBody (inAt 2 2))) (sScope (inAt 2 2)) (3) ([]) (PySem.Value.none) (PySem.Value.none) (PySem.Value.none) (PySem.Value.str (PySem.Str.ofString ("cpy313.tomllib._parser")) (194)) (Option.none) (PySem.Value.ref (34)) (PySem.Value.none) (0))) (List.toArray ([]))
noncomputable def ko62 (P : Params) : Obj := PySem.Obj.mk (PySem.Value.type ("code")) (Option.none) (PySem.Data.fields (List.toArray ([PySem.Value.str (PySem.Str.ofString ("set")) (243), PySem.Value.str (PySem.Str.ofString ("Flags.set")) (244), PySem.Value.str (PySem.Str.ofString ("/claim/cut.py")) (245), PySem.Value.int (22) (0), PySem.Value.int (3) (0), PySem.Value.int (0) (0), PySem.Value.int (1) (0), PySem.Value.int (3) (0), PySem.Value.ref (57), PySem.Value.bool (Bool.true), PySem.Value.int (181) (0), PySem.Value.ref (58), PySem.Value.none, PySem.Value.ref (59), PySem.Value.ref (60), PySem.Value.ref (61), PySem.Value.int (254) (0), PySem.Value.int (22) (0), PySem.Value.str (PySem.Str.ofString ("/claim/cut.py")) (255)]))) (List.toArray ([]))
noncomputable def ko63 (P : Params) : Obj := PySem.Obj.mk (PySem.Value.type ("function")) (Option.none) (PySem.Data.func (PySem.FuncData.mk (PySem.Str.ofString ("set")) (PySem.Str.ofString ("Flags.set")) (sArgs (inAt 2 6)) (PySem.FuncBody.stmts (stmtBody (inAt 2 6))) (sScope (inAt 2 6)) (3) ([]) (PySem.Value.none) (PySem.Value.none) (PySem.Value.none) (PySem.Value.str (PySem.Str.ofString ("cpy313.tomllib._parser")) (194)) (Option.none) (PySem.Value.ref (62)) (PySem.Value.none) (0))) (List.toArray ([]))
noncomputable def ko69 (P : Params) : Obj := PySem.Obj.mk (PySem.Value.type ("code")) (Option.none) (PySem.Data.fields (List.toArray ([PySem.Value.str (PySem.Str.ofString ("is_")) (257), PySem.Value.str (PySem.Str.ofString ("Flags.is_")) (258), PySem.Value.str (PySem.Str.ofString ("/claim/cut.py")) (259), PySem.Value.int (33) (0), PySem.Value.int (3) (0), PySem.Value.int (0) (0), PySem.Value.int (0) (0), PySem.Value.int (3) (0), PySem.Value.ref (64), PySem.Value.bool (Bool.true), PySem.Value.int (181) (0), PySem.Value.ref (65), PySem.Value.none, PySem.Value.ref (66), PySem.Value.ref (67), PySem.Value.ref (68), PySem.Value.int (267) (0), PySem.Value.int (33) (0), PySem.Value.str (PySem.Str.ofString ("/claim/cut.py")) (268)]))) (List.toArray ([]))
noncomputable def ko70 (P : Params) : Obj := PySem.Obj.mk (PySem.Value.type ("function")) (Option.none) (PySem.Data.func (PySem.FuncData.mk (PySem.Str.ofString ("is_")) (PySem.Str.ofString ("Flags.is_")) (sArgs (inAt 2 7)) (PySem.FuncBody.stmts (stmtBody (inAt 2 7))) (sScope (inAt 2 7)) (3) ([]) (PySem.Value.none) (PySem.Value.none) (PySem.Value.none) (PySem.Value.str (PySem.Str.ofString ("cpy313.tomllib._parser")) (194)) (Option.none) (PySem.Value.ref (69)) (PySem.Value.none) (0))) (List.toArray ([]))
noncomputable def ko72 (P : Params) : Obj := PySem.Obj.mk (PySem.Value.type ("dict")) (Option.none) (PySem.Data.dict (List.toArray ([PySem.DictEntry.mk (PySem.PyData.keyHash (P) (PySem.Str.ofString ("__module__"))) (PySem.Value.str (PySem.Str.ofString ("__module__")) (203)) (PySem.Value.str (PySem.Str.ofString ("cpy313.tomllib._parser")) (194)), PySem.DictEntry.mk (PySem.PyData.keyHash (P) (PySem.Str.ofString ("__firstlineno__"))) (PySem.Value.str (PySem.Str.ofString ("__firstlineno__")) (207)) (PySem.Value.int (5) (206)), PySem.DictEntry.mk (PySem.PyData.keyHash (P) (PySem.Str.ofString ("FROZEN"))) (PySem.Value.str (PySem.Str.ofString ("FROZEN")) (209)) (PySem.Value.int (0) (208)), PySem.DictEntry.mk (PySem.PyData.keyHash (P) (PySem.Str.ofString ("EXPLICIT_NEST"))) (PySem.Value.str (PySem.Str.ofString ("EXPLICIT_NEST")) (211)) (PySem.Value.int (1) (210)), PySem.DictEntry.mk (PySem.PyData.keyHash (P) (PySem.Str.ofString ("__init__"))) (PySem.Value.str (PySem.Str.ofString ("__init__")) (218)) (PySem.Value.ref (35)), PySem.DictEntry.mk (PySem.PyData.keyHash (P) (PySem.Str.ofString ("add_pending"))) (PySem.Value.str (PySem.Str.ofString ("add_pending")) (227)) (PySem.Value.ref (42)), PySem.DictEntry.mk (PySem.PyData.keyHash (P) (PySem.Str.ofString ("finalize_pending"))) (PySem.Value.str (PySem.Str.ofString ("finalize_pending")) (234)) (PySem.Value.ref (49)), PySem.DictEntry.mk (PySem.PyData.keyHash (P) (PySem.Str.ofString ("unset_all"))) (PySem.Value.str (PySem.Str.ofString ("unset_all")) (242)) (PySem.Value.ref (56)), PySem.DictEntry.mk (PySem.PyData.keyHash (P) (PySem.Str.ofString ("set"))) (PySem.Value.str (PySem.Str.ofString ("set")) (256)) (PySem.Value.ref (63)), PySem.DictEntry.mk (PySem.PyData.keyHash (P) (PySem.Str.ofString ("is_"))) (PySem.Value.str (PySem.Str.ofString ("is_")) (269)) (PySem.Value.ref (70)), PySem.DictEntry.mk (PySem.PyData.keyHash (P) (PySem.Str.ofString ("__static_attributes__"))) (PySem.Value.str (PySem.Str.ofString ("__static_attributes__")) (272)) (PySem.Value.ref (71)), PySem.DictEntry.mk (PySem.PyData.keyHash (P) (PySem.Str.ofString ("__dict__"))) (PySem.Value.str (PySem.Str.ofString ("__dict__")) (274)) (PySem.Value.ref (74)), PySem.DictEntry.mk (PySem.PyData.keyHash (P) (PySem.Str.ofString ("__weakref__"))) (PySem.Value.str (PySem.Str.ofString ("__weakref__")) (276)) (PySem.Value.ref (75)), PySem.DictEntry.mk (PySem.PyData.keyHash (P) (PySem.Str.ofString ("__doc__"))) (PySem.Value.str (PySem.Str.ofString ("__doc__")) (277)) (PySem.Value.none)])) (4)) (List.toArray ([]))
noncomputable def ko73 (P : Params) : Obj := PySem.Obj.mk (PySem.Value.type ("type")) (Option.none) (PySem.Data.cls (PySem.ClassData.mk (PySem.Str.ofString ("Flags")) ([PySem.Value.type ("object")]) ([PySem.Value.ref (73), PySem.Value.type ("object")]) (72) (PySem.Str.ofString ("Flags")) (Bool.true) ([]) ([]) (Bool.false) (Option.none) (Bool.false))) (List.toArray ([Option.none, Option.none, Option.some (PySem.Value.str (PySem.Str.ofString ("Flags")) (196)), Option.some (PySem.Value.str (PySem.Str.ofString ("Flags")) (204)), Option.some (PySem.Value.builtin ("object.__new__")), Option.some (PySem.Value.bool (Bool.true))]))
noncomputable def ko149 (P : Params) : Obj := PySem.Obj.mk (PySem.Value.type ("code")) (Option.none) (PySem.Data.fields (List.toArray ([PySem.Value.str (PySem.Str.ofString ("fspath")) (369), PySem.Value.str (PySem.Str.ofString ("fspath")) (370), PySem.Value.str (PySem.Str.ofString ("/claim/cut.py")) (371), PySem.Value.int (80) (0), PySem.Value.int (1) (0), PySem.Value.int (0) (0), PySem.Value.int (0) (0), PySem.Value.int (3) (0), PySem.Value.ref (144), PySem.Value.bool (Bool.true), PySem.Value.int (181) (0), PySem.Value.ref (145), PySem.Value.none, PySem.Value.ref (146), PySem.Value.ref (147), PySem.Value.ref (148), PySem.Value.int (376) (0), PySem.Value.int (80) (0), PySem.Value.str (PySem.Str.ofString ("/claim/cut.py")) (377)]))) (List.toArray ([]))
noncomputable def ko150 (P : Params) : Obj := PySem.Obj.mk (PySem.Value.type ("function")) (Option.none) (PySem.Data.func (PySem.FuncData.mk (PySem.Str.ofString ("fspath")) (PySem.Str.ofString ("fspath")) (sArgs (topAt 11)) (PySem.FuncBody.stmts (stmtBody (topAt 11))) (sScope (topAt 11)) (3) ([]) (PySem.Value.none) (PySem.Value.none) (PySem.Value.none) (PySem.Value.str (PySem.Str.ofString ("os")) (367)) (Option.none) (PySem.Value.ref (149)) (PySem.Value.none) (0))) (List.toArray ([]))
noncomputable def ko163 (P : Params) : Obj := PySem.Obj.mk (PySem.Value.type ("code")) (Option.none) (PySem.Data.fields (List.toArray ([PySem.Value.str (PySem.Str.ofString ("_get_sep")) (394), PySem.Value.str (PySem.Str.ofString ("_get_sep")) (395), PySem.Value.str (PySem.Str.ofString ("/claim/cut.py")) (396), PySem.Value.int (109) (0), PySem.Value.int (1) (0), PySem.Value.int (0) (0), PySem.Value.int (0) (0), PySem.Value.int (3) (0), PySem.Value.ref (158), PySem.Value.bool (Bool.true), PySem.Value.int (181) (0), PySem.Value.ref (159), PySem.Value.none, PySem.Value.ref (160), PySem.Value.ref (161), PySem.Value.ref (162), PySem.Value.int (398) (0), PySem.Value.int (109) (0), PySem.Value.str (PySem.Str.ofString ("/claim/cut.py")) (399)]))) (List.toArray ([]))
noncomputable def ko164 (P : Params) : Obj := PySem.Obj.mk (PySem.Value.type ("function")) (Option.none) (PySem.Data.func (PySem.FuncData.mk (PySem.Str.ofString ("_get_sep")) (PySem.Str.ofString ("_get_sep")) (sArgs (topAt 15)) (PySem.FuncBody.stmts (stmtBody (topAt 15))) (sScope (topAt 15)) (3) ([]) (PySem.Value.none) (PySem.Value.none) (PySem.Value.none) (PySem.Value.str (PySem.Str.ofString ("cpy313.posixpath")) (392)) (Option.none) (PySem.Value.ref (163)) (PySem.Value.none) (0))) (List.toArray ([]))
noncomputable def ko170 (P : Params) : Obj := PySem.Obj.mk (PySem.Value.type ("code")) (Option.none) (PySem.Data.fields (List.toArray ([PySem.Value.str (PySem.Str.ofString ("join")) (401), PySem.Value.str (PySem.Str.ofString ("join")) (402), PySem.Value.str (PySem.Str.ofString ("/claim/cut.py")) (403), PySem.Value.int (114) (0), PySem.Value.int (1) (0), PySem.Value.int (0) (0), PySem.Value.int (0) (0), PySem.Value.int (7) (0), PySem.Value.ref (165), PySem.Value.bool (Bool.true), PySem.Value.int (181) (0), PySem.Value.ref (166), PySem.Value.none, PySem.Value.ref (167), PySem.Value.ref (168), PySem.Value.ref (169), PySem.Value.int (409) (0), PySem.Value.int (114) (0), PySem.Value.str (PySem.Str.ofString ("/claim/cut.py")) (410)]))) (List.toArray ([]))
noncomputable def ko171 (P : Params) : Obj := PySem.Obj.mk (PySem.Value.type ("function")) (Option.none) (PySem.Data.func (PySem.FuncData.mk (PySem.Str.ofString ("join")) (PySem.Str.ofString ("join")) (sArgs (topAt 16)) (PySem.FuncBody.stmts (stmtBody (topAt 16))) (sScope (topAt 16)) (3) ([]) (PySem.Value.none) (PySem.Value.none) (PySem.Value.none) (PySem.Value.str (PySem.Str.ofString ("cpy313.posixpath")) (392)) (Option.none) (PySem.Value.ref (170)) (PySem.Value.none) (0))) (List.toArray ([]))
noncomputable def ko177 (P : Params) : Obj := PySem.Obj.mk (PySem.Value.type ("code")) (Option.none) (PySem.Data.fields (List.toArray ([PySem.Value.str (PySem.Str.ofString ("split")) (412), PySem.Value.str (PySem.Str.ofString ("split")) (413), PySem.Value.str (PySem.Str.ofString ("/claim/cut.py")) (414), PySem.Value.int (131) (0), PySem.Value.int (1) (0), PySem.Value.int (0) (0), PySem.Value.int (0) (0), PySem.Value.int (3) (0), PySem.Value.ref (172), PySem.Value.bool (Bool.true), PySem.Value.int (181) (0), PySem.Value.ref (173), PySem.Value.none, PySem.Value.ref (174), PySem.Value.ref (175), PySem.Value.ref (176), PySem.Value.int (420) (0), PySem.Value.int (131) (0), PySem.Value.str (PySem.Str.ofString ("/claim/cut.py")) (421)]))) (List.toArray ([]))
noncomputable def ko178 (P : Params) : Obj := PySem.Obj.mk (PySem.Value.type ("function")) (Option.none) (PySem.Data.func (PySem.FuncData.mk (PySem.Str.ofString ("split")) (PySem.Str.ofString ("split")) (sArgs (topAt 17)) (PySem.FuncBody.stmts (stmtBody (topAt 17))) (sScope (topAt 17)) (3) ([]) (PySem.Value.none) (PySem.Value.none) (PySem.Value.none) (PySem.Value.str (PySem.Str.ofString ("cpy313.posixpath")) (392)) (Option.none) (PySem.Value.ref (177)) (PySem.Value.none) (0))) (List.toArray ([]))
noncomputable def ko182 (P : Params) : Obj := PySem.Obj.mk (PySem.Value.type ("code")) (Option.none) (PySem.Data.fields (List.toArray ([PySem.Value.str (PySem.Str.ofString ("commonpath")) (423), PySem.Value.str (PySem.Str.ofString ("commonpath")) (424), PySem.Value.str (PySem.Str.ofString ("/claim/cut.py")) (425), PySem.Value.int (139) (0), PySem.Value.int (1) (0), PySem.Value.int (0) (0), PySem.Value.int (0) (0), PySem.Value.int (3) (0), PySem.Value.ref (179), PySem.Value.bool (Bool.true), PySem.Value.int (181) (0), PySem.Value.ref (180), PySem.Value.none, PySem.Value.none, PySem.Value.none, PySem.Value.ref (181), PySem.Value.int (426) (0), PySem.Value.int (139) (0), PySem.Value.str (PySem.Str.ofString ("/claim/cut.py")) (427)]))) (List.toArray ([]))
noncomputable def ko183 (P : Params) : Obj := PySem.Obj.mk (PySem.Value.type ("function")) (Option.none) (PySem.Data.func (PySem.FuncData.mk (PySem.Str.ofString ("commonpath")) (PySem.Str.ofString ("commonpath")) (sArgs (topAt 18)) (PySem.FuncBody.stmts (stmtBody (topAt 18))) (sScope (topAt 18)) (3) ([]) (PySem.Value.none) (PySem.Value.none) (PySem.Value.none) (PySem.Value.str (PySem.Str.ofString ("cpy313.posixpath")) (392)) (Option.none) (PySem.Value.ref (182)) (PySem.Value.none) (0))) (List.toArray ([]))
noncomputable def ko189 (P : Params) : Obj := PySem.Obj.mk (PySem.Value.type ("code")) (Option.none) (PySem.Data.fields (List.toArray ([PySem.Value.str (PySem.Str.ofString ("sorted_list_difference")) (431), PySem.Value.str (PySem.Str.ofString ("sorted_list_difference")) (432), PySem.Value.str (PySem.Str.ofString ("/claim/cut.py")) (433), PySem.Value.int (169) (0), PySem.Value.int (2) (0), PySem.Value.int (0) (0), PySem.Value.int (0) (0), PySem.Value.int (3) (0), PySem.Value.ref (184), PySem.Value.bool (Bool.true), PySem.Value.int (181) (0), PySem.Value.ref (185), PySem.Value.none, PySem.Value.ref (186), PySem.Value.ref (187), PySem.Value.ref (188), PySem.Value.int (442) (0), PySem.Value.int (169) (0), PySem.Value.str (PySem.Str.ofString ("/claim/cut.py")) (443)]))) (List.toArray ([]))
noncomputable def ko190 (P : Params) : Obj := PySem.Obj.mk (PySem.Value.type ("function")) (Option.none) (PySem.Data.func (PySem.FuncData.mk (PySem.Str.ofString ("sorted_list_difference")) (PySem.Str.ofString ("sorted_list_difference")) (sArgs (topAt 20)) (PySem.FuncBody.stmts (stmtBody (topAt 20))) (sScope (topAt 20)) (3) ([]) (PySem.Value.none) (PySem.Value.none) (PySem.Value.none) (PySem.Value.str (PySem.Str.ofString ("cpy313.unittest.util")) (429)) (Option.none) (PySem.Value.ref (189)) (PySem.Value.none) (0))) (List.toArray ([]))
noncomputable def ko196 (P : Params) : Obj := PySem.Obj.mk (PySem.Value.type ("code")) (Option.none) (PySem.Data.fields (List.toArray ([PySem.Value.str (PySem.Str.ofString ("_law_place")) (447), PySem.Value.str (PySem.Str.ofString ("_law_place")) (448), PySem.Value.str (PySem.Str.ofString ("/claim/cut.py")) (449), PySem.Value.int (202) (0), PySem.Value.int (1) (0), PySem.Value.int (0) (0), PySem.Value.int (0) (0), PySem.Value.int (3) (0), PySem.Value.ref (191), PySem.Value.bool (Bool.true), PySem.Value.int (181) (0), PySem.Value.ref (192), PySem.Value.none, PySem.Value.ref (193), PySem.Value.ref (194), PySem.Value.ref (195), PySem.Value.int (453) (0), PySem.Value.int (202) (0), PySem.Value.str (PySem.Str.ofString ("/claim/cut.py")) (454)]))) (List.toArray ([]))
noncomputable def ko197 (P : Params) : Obj := PySem.Obj.mk (PySem.Value.type ("function")) (Option.none) (PySem.Data.func (PySem.FuncData.mk (PySem.Str.ofString ("_law_place")) (PySem.Str.ofString ("_law_place")) (sArgs (topAt 22)) (PySem.FuncBody.stmts (stmtBody (topAt 22))) (sScope (topAt 22)) (3) ([]) (PySem.Value.none) (PySem.Value.none) (PySem.Value.none) (PySem.Value.str (PySem.Str.ofString ("law_il0178_01")) (445)) (Option.none) (PySem.Value.ref (196)) (PySem.Value.none) (0))) (List.toArray ([]))
noncomputable def ko203 (P : Params) : Obj := PySem.Obj.mk (PySem.Value.type ("code")) (Option.none) (PySem.Data.fields (List.toArray ([PySem.Value.str (PySem.Str.ofString ("_law_quotas")) (456), PySem.Value.str (PySem.Str.ofString ("_law_quotas")) (457), PySem.Value.str (PySem.Str.ofString ("/claim/cut.py")) (458), PySem.Value.int (208) (0), PySem.Value.int (2) (0), PySem.Value.int (0) (0), PySem.Value.int (0) (0), PySem.Value.int (3) (0), PySem.Value.ref (198), PySem.Value.bool (Bool.true), PySem.Value.int (181) (0), PySem.Value.ref (199), PySem.Value.none, PySem.Value.ref (200), PySem.Value.ref (201), PySem.Value.ref (202), PySem.Value.int (466) (0), PySem.Value.int (208) (0), PySem.Value.str (PySem.Str.ofString ("/claim/cut.py")) (467)]))) (List.toArray ([]))
noncomputable def ko204 (P : Params) : Obj := PySem.Obj.mk (PySem.Value.type ("function")) (Option.none) (PySem.Data.func (PySem.FuncData.mk (PySem.Str.ofString ("_law_quotas")) (PySem.Str.ofString ("_law_quotas")) (sArgs (topAt 23)) (PySem.FuncBody.stmts (stmtBody (topAt 23))) (sScope (topAt 23)) (3) ([]) (PySem.Value.none) (PySem.Value.none) (PySem.Value.none) (PySem.Value.str (PySem.Str.ofString ("law_il0178_01")) (445)) (Option.none) (PySem.Value.ref (203)) (PySem.Value.none) (0))) (List.toArray ([]))
noncomputable def ko210 (P : Params) : Obj := PySem.Obj.mk (PySem.Value.type ("code")) (Option.none) (PySem.Data.fields (List.toArray ([PySem.Value.str (PySem.Str.ofString ("_law_lines")) (469), PySem.Value.str (PySem.Str.ofString ("_law_lines")) (470), PySem.Value.str (PySem.Str.ofString ("/claim/cut.py")) (471), PySem.Value.int (215) (0), PySem.Value.int (1) (0), PySem.Value.int (0) (0), PySem.Value.int (0) (0), PySem.Value.int (3) (0), PySem.Value.ref (205), PySem.Value.bool (Bool.true), PySem.Value.int (181) (0), PySem.Value.ref (206), PySem.Value.none, PySem.Value.ref (207), PySem.Value.ref (208), PySem.Value.ref (209), PySem.Value.int (481) (0), PySem.Value.int (215) (0), PySem.Value.str (PySem.Str.ofString ("/claim/cut.py")) (482)]))) (List.toArray ([]))
noncomputable def ko211 (P : Params) : Obj := PySem.Obj.mk (PySem.Value.type ("function")) (Option.none) (PySem.Data.func (PySem.FuncData.mk (PySem.Str.ofString ("_law_lines")) (PySem.Str.ofString ("_law_lines")) (sArgs (topAt 24)) (PySem.FuncBody.stmts (stmtBody (topAt 24))) (sScope (topAt 24)) (3) ([]) (PySem.Value.none) (PySem.Value.none) (PySem.Value.none) (PySem.Value.str (PySem.Str.ofString ("law_il0178_01")) (445)) (Option.none) (PySem.Value.ref (210)) (PySem.Value.none) (0))) (List.toArray ([]))
noncomputable def ko215 (P : Params) : Obj := PySem.Obj.mk (PySem.Value.type ("code")) (Option.none) (PySem.Data.fields (List.toArray ([PySem.Value.str (PySem.Str.ofString ("_law_tells")) (484), PySem.Value.str (PySem.Str.ofString ("_law_tells")) (485), PySem.Value.str (PySem.Str.ofString ("/claim/cut.py")) (486), PySem.Value.int (227) (0), PySem.Value.int (5) (0), PySem.Value.int (0) (0), PySem.Value.int (0) (0), PySem.Value.int (3) (0), PySem.Value.ref (212), PySem.Value.bool (Bool.true), PySem.Value.int (181) (0), PySem.Value.ref (213), PySem.Value.none, PySem.Value.none, PySem.Value.none, PySem.Value.ref (214), PySem.Value.int (487) (0), PySem.Value.int (227) (0), PySem.Value.str (PySem.Str.ofString ("/claim/cut.py")) (488)]))) (List.toArray ([]))
noncomputable def ko216 (P : Params) : Obj := PySem.Obj.mk (PySem.Value.type ("function")) (Option.none) (PySem.Data.func (PySem.FuncData.mk (PySem.Str.ofString ("_law_tells")) (PySem.Str.ofString ("_law_tells")) (sArgs (topAt 25)) (PySem.FuncBody.stmts (stmtBody (topAt 25))) (sScope (topAt 25)) (3) ([]) (PySem.Value.none) (PySem.Value.none) (PySem.Value.none) (PySem.Value.str (PySem.Str.ofString ("law_il0178_01")) (445)) (Option.none) (PySem.Value.ref (215)) (PySem.Value.none) (0))) (List.toArray ([]))
noncomputable def ko220 (P : Params) : Obj := PySem.Obj.mk (PySem.Value.type ("code")) (Option.none) (PySem.Data.fields (List.toArray ([PySem.Value.str (PySem.Str.ofString ("_law_run")) (490), PySem.Value.str (PySem.Str.ofString ("_law_run")) (491), PySem.Value.str (PySem.Str.ofString ("/claim/cut.py")) (492), PySem.Value.int (231) (0), PySem.Value.int (5) (0), PySem.Value.int (0) (0), PySem.Value.int (0) (0), PySem.Value.int (3) (0), PySem.Value.ref (217), PySem.Value.bool (Bool.true), PySem.Value.int (181) (0), PySem.Value.ref (218), PySem.Value.none, PySem.Value.none, PySem.Value.none, PySem.Value.ref (219), PySem.Value.int (493) (0), PySem.Value.int (231) (0), PySem.Value.str (PySem.Str.ofString ("/claim/cut.py")) (494)]))) (List.toArray ([]))
noncomputable def ko221 (P : Params) : Obj := PySem.Obj.mk (PySem.Value.type ("function")) (Option.none) (PySem.Data.func (PySem.FuncData.mk (PySem.Str.ofString ("_law_run")) (PySem.Str.ofString ("_law_run")) (sArgs (topAt 26)) (PySem.FuncBody.stmts (stmtBody (topAt 26))) (sScope (topAt 26)) (3) ([]) (PySem.Value.none) (PySem.Value.none) (PySem.Value.none) (PySem.Value.str (PySem.Str.ofString ("law_il0178_01")) (445)) (Option.none) (PySem.Value.ref (220)) (PySem.Value.none) (0))) (List.toArray ([]))
noncomputable def ko225 (P : Params) : Obj := PySem.Obj.mk (PySem.Value.type ("code")) (Option.none) (PySem.Data.fields (List.toArray ([PySem.Value.str (PySem.Str.ofString ("_law_rooms")) (496), PySem.Value.str (PySem.Str.ofString ("_law_rooms")) (497), PySem.Value.str (PySem.Str.ofString ("/claim/cut.py")) (498), PySem.Value.int (250) (0), PySem.Value.int (3) (0), PySem.Value.int (0) (0), PySem.Value.int (0) (0), PySem.Value.int (3) (0), PySem.Value.ref (222), PySem.Value.bool (Bool.true), PySem.Value.int (181) (0), PySem.Value.ref (223), PySem.Value.none, PySem.Value.none, PySem.Value.none, PySem.Value.ref (224), PySem.Value.int (499) (0), PySem.Value.int (250) (0), PySem.Value.str (PySem.Str.ofString ("/claim/cut.py")) (500)]))) (List.toArray ([]))
noncomputable def ko226 (P : Params) : Obj := PySem.Obj.mk (PySem.Value.type ("function")) (Option.none) (PySem.Data.func (PySem.FuncData.mk (PySem.Str.ofString ("_law_rooms")) (PySem.Str.ofString ("_law_rooms")) (sArgs (topAt 27)) (PySem.FuncBody.stmts (stmtBody (topAt 27))) (sScope (topAt 27)) (3) ([]) (PySem.Value.none) (PySem.Value.none) (PySem.Value.none) (PySem.Value.str (PySem.Str.ofString ("law_il0178_01")) (445)) (Option.none) (PySem.Value.ref (225)) (PySem.Value.none) (0))) (List.toArray ([]))
noncomputable def ko230 (P : Params) : Obj := PySem.Obj.mk (PySem.Value.type ("code")) (Option.none) (PySem.Data.fields (List.toArray ([PySem.Value.str (PySem.Str.ofString ("_law_heads")) (502), PySem.Value.str (PySem.Str.ofString ("_law_heads")) (503), PySem.Value.str (PySem.Str.ofString ("/claim/cut.py")) (504), PySem.Value.int (253) (0), PySem.Value.int (1) (0), PySem.Value.int (0) (0), PySem.Value.int (0) (0), PySem.Value.int (3) (0), PySem.Value.ref (227), PySem.Value.bool (Bool.true), PySem.Value.int (181) (0), PySem.Value.ref (228), PySem.Value.none, PySem.Value.none, PySem.Value.none, PySem.Value.ref (229), PySem.Value.int (505) (0), PySem.Value.int (253) (0), PySem.Value.str (PySem.Str.ofString ("/claim/cut.py")) (506)]))) (List.toArray ([]))
noncomputable def ko231 (P : Params) : Obj := PySem.Obj.mk (PySem.Value.type ("function")) (Option.none) (PySem.Data.func (PySem.FuncData.mk (PySem.Str.ofString ("_law_heads")) (PySem.Str.ofString ("_law_heads")) (sArgs (topAt 28)) (PySem.FuncBody.stmts (stmtBody (topAt 28))) (sScope (topAt 28)) (3) ([]) (PySem.Value.none) (PySem.Value.none) (PySem.Value.none) (PySem.Value.str (PySem.Str.ofString ("law_il0178_01")) (445)) (Option.none) (PySem.Value.ref (230)) (PySem.Value.none) (0))) (List.toArray ([]))
noncomputable def ko235 (P : Params) : Obj := PySem.Obj.mk (PySem.Value.type ("code")) (Option.none) (PySem.Data.fields (List.toArray ([PySem.Value.str (PySem.Str.ofString ("_law_only")) (508), PySem.Value.str (PySem.Str.ofString ("_law_only")) (509), PySem.Value.str (PySem.Str.ofString ("/claim/cut.py")) (510), PySem.Value.int (255) (0), PySem.Value.int (2) (0), PySem.Value.int (0) (0), PySem.Value.int (0) (0), PySem.Value.int (3) (0), PySem.Value.ref (232), PySem.Value.bool (Bool.true), PySem.Value.int (181) (0), PySem.Value.ref (233), PySem.Value.none, PySem.Value.none, PySem.Value.none, PySem.Value.ref (234), PySem.Value.int (511) (0), PySem.Value.int (255) (0), PySem.Value.str (PySem.Str.ofString ("/claim/cut.py")) (512)]))) (List.toArray ([]))
noncomputable def ko236 (P : Params) : Obj := PySem.Obj.mk (PySem.Value.type ("function")) (Option.none) (PySem.Data.func (PySem.FuncData.mk (PySem.Str.ofString ("_law_only")) (PySem.Str.ofString ("_law_only")) (sArgs (topAt 29)) (PySem.FuncBody.stmts (stmtBody (topAt 29))) (sScope (topAt 29)) (3) ([]) (PySem.Value.none) (PySem.Value.none) (PySem.Value.none) (PySem.Value.str (PySem.Str.ofString ("law_il0178_01")) (445)) (Option.none) (PySem.Value.ref (235)) (PySem.Value.none) (0))) (List.toArray ([]))
noncomputable def ko242 (P : Params) : Obj := PySem.Obj.mk (PySem.Value.type ("code")) (Option.none) (PySem.Data.fields (List.toArray ([PySem.Value.str (PySem.Str.ofString ("_law_differ")) (514), PySem.Value.str (PySem.Str.ofString ("_law_differ")) (515), PySem.Value.str (PySem.Str.ofString ("/claim/cut.py")) (516), PySem.Value.int (257) (0), PySem.Value.int (2) (0), PySem.Value.int (0) (0), PySem.Value.int (0) (0), PySem.Value.int (3) (0), PySem.Value.ref (237), PySem.Value.bool (Bool.true), PySem.Value.int (181) (0), PySem.Value.ref (238), PySem.Value.none, PySem.Value.ref (239), PySem.Value.ref (240), PySem.Value.ref (241), PySem.Value.int (522) (0), PySem.Value.int (257) (0), PySem.Value.str (PySem.Str.ofString ("/claim/cut.py")) (523)]))) (List.toArray ([]))
noncomputable def ko243 (P : Params) : Obj := PySem.Obj.mk (PySem.Value.type ("function")) (Option.none) (PySem.Data.func (PySem.FuncData.mk (PySem.Str.ofString ("_law_differ")) (PySem.Str.ofString ("_law_differ")) (sArgs (topAt 30)) (PySem.FuncBody.stmts (stmtBody (topAt 30))) (sScope (topAt 30)) (3) ([]) (PySem.Value.none) (PySem.Value.none) (PySem.Value.none) (PySem.Value.str (PySem.Str.ofString ("law_il0178_01")) (445)) (Option.none) (PySem.Value.ref (242)) (PySem.Value.none) (0))) (List.toArray ([]))
noncomputable def ko247 (P : Params) : Obj := PySem.Obj.mk (PySem.Value.type ("code")) (Option.none) (PySem.Data.fields (List.toArray ([PySem.Value.str (PySem.Str.ofString ("law")) (525), PySem.Value.str (PySem.Str.ofString ("law")) (526), PySem.Value.str (PySem.Str.ofString ("/claim/cut.py")) (527), PySem.Value.int (263) (0), PySem.Value.int (1) (0), PySem.Value.int (0) (0), PySem.Value.int (0) (0), PySem.Value.int (3) (0), PySem.Value.ref (244), PySem.Value.bool (Bool.true), PySem.Value.int (181) (0), PySem.Value.ref (245), PySem.Value.none, PySem.Value.none, PySem.Value.none, PySem.Value.ref (246), PySem.Value.int (528) (0), PySem.Value.int (263) (0), PySem.Value.str (PySem.Str.ofString ("/claim/cut.py")) (529)]))) (List.toArray ([]))
noncomputable def ko248 (P : Params) : Obj := PySem.Obj.mk (PySem.Value.type ("function")) (Option.none) (PySem.Data.func (PySem.FuncData.mk (PySem.Str.ofString ("law")) (PySem.Str.ofString ("law")) (sArgs (topAt 31)) (PySem.FuncBody.stmts (stmtBody (topAt 31))) (sScope (topAt 31)) (3) ([]) (PySem.Value.none) (PySem.Value.none) (PySem.Value.none) (PySem.Value.str (PySem.Str.ofString ("law_il0178_01")) (445)) (Option.none) (PySem.Value.ref (247)) (PySem.Value.none) (0))) (List.toArray ([]))
noncomputable def KT (P : Params) : Frag := [(2, ko2 P), (3, ko3 P), (34, ko34 P), (35, ko35 P), (62, ko62 P), (63, ko63 P), (69, ko69 P), (70, ko70 P), (72, ko72 P), (73, ko73 P), (149, ko149 P), (150, ko150 P), (163, ko163 P), (164, ko164 P), (170, ko170 P), (171, ko171 P), (177, ko177 P), (178, ko178 P), (182, ko182 P), (183, ko183 P), (189, ko189 P), (190, ko190 P), (196, ko196 P), (197, ko197 P), (203, ko203 P), (204, ko204 P), (210, ko210 P), (211, ko211 P), (215, ko215 P), (216, ko216 P), (220, ko220 P), (221, ko221 P), (225, ko225 P), (226, ko226 P), (230, ko230 P), (231, ko231 P), (235, ko235 P), (236, ko236 P), (242, ko242 P), (243, ko243 P), (247, ko247 P), (248, ko248 P)]
noncomputable abbrev KA : List Addr := [2, 3, 34, 35, 62, 63, 69, 70, 72, 73, 149, 150, 163, 164, 170, 171, 177, 178, 182, 183, 189, 190, 196, 197, 203, 204, 210, 211, 215, 216, 220, 221, 225, 226, 230, 231, 235, 236, 242, 243, 247, 248]
/-- the statements of the text that the head asks for -/
noncomputable def qv : Program := { PySem.Challenge.pw_il0178_01 with main := { PySem.Challenge.pw_il0178_01.main with body := [0, 2, 4, 6, 8, 9, 11, 13, 15, 16, 17, 18, 20, 22, 23, 24, 25, 26, 27, 28, 29, 30, 31].map topAt } }
noncomputable abbrev HK : Hook := kHook KT KA (fun _ => by kernel_rfl)
theorem top_runs : LeftO PySem.Challenge.pw_il0178_01 qv ["Flags"] (fun s => xlAt qv [] s && recOk PySem.Challenge.rw_il0178_01.row.records s) (Hook.obs HK) (Hook.val HK) 3356 := by
  intro w
  kernel_rfl
theorem well_said : PySem.Challenge.rw_il0178_01.wellSaid = true := by kernel_rfl
end
section
theorem ex2 {α0 α1 : Type} {P : α0 → α1 → Prop} {g : Prop} (h : ∃ a0 a1, P a0 a1) (k : ∀ a0 a1, P a0 a1 → g) : g := h.elim fun a0 h => h.elim fun a1 h => k a0 a1 h
theorem ei2 {α0 α1 : Type} {P : α0 → α1 → Prop} (a0 : α0) (a1 : α1) (h : P a0 a1) : ∃ a0 a1, P a0 a1 := ⟨a0, a1, h⟩
theorem ex3 {α0 α1 α2 : Type} {P : α0 → α1 → α2 → Prop} {g : Prop} (h : ∃ a0 a1 a2, P a0 a1 a2) (k : ∀ a0 a1 a2, P a0 a1 a2 → g) : g := h.elim fun a0 h => h.elim fun a1 h => h.elim fun a2 h => k a0 a1 a2 h
theorem ei3 {α0 α1 α2 : Type} {P : α0 → α1 → α2 → Prop} (a0 : α0) (a1 : α1) (a2 : α2) (h : P a0 a1 a2) : ∃ a0 a1 a2, P a0 a1 a2 := ⟨a0, a1, a2, h⟩
theorem ex4 {α0 α1 α2 α3 : Type} {P : α0 → α1 → α2 → α3 → Prop} {g : Prop} (h : ∃ a0 a1 a2 a3, P a0 a1 a2 a3) (k : ∀ a0 a1 a2 a3, P a0 a1 a2 a3 → g) : g := h.elim fun a0 h => h.elim fun a1 h => h.elim fun a2 h => h.elim fun a3 h => k a0 a1 a2 a3 h
theorem ei4 {α0 α1 α2 α3 : Type} {P : α0 → α1 → α2 → α3 → Prop} (a0 : α0) (a1 : α1) (a2 : α2) (a3 : α3) (h : P a0 a1 a2 a3) : ∃ a0 a1 a2 a3, P a0 a1 a2 a3 := ⟨a0, a1, a2, a3, h⟩
theorem ex5 {α0 α1 α2 α3 α4 : Type} {P : α0 → α1 → α2 → α3 → α4 → Prop} {g : Prop} (h : ∃ a0 a1 a2 a3 a4, P a0 a1 a2 a3 a4) (k : ∀ a0 a1 a2 a3 a4, P a0 a1 a2 a3 a4 → g) : g := h.elim fun a0 h => h.elim fun a1 h => h.elim fun a2 h => h.elim fun a3 h => h.elim fun a4 h => k a0 a1 a2 a3 a4 h
theorem ei5 {α0 α1 α2 α3 α4 : Type} {P : α0 → α1 → α2 → α3 → α4 → Prop} (a0 : α0) (a1 : α1) (a2 : α2) (a3 : α3) (a4 : α4) (h : P a0 a1 a2 a3 a4) : ∃ a0 a1 a2 a3 a4, P a0 a1 a2 a3 a4 := ⟨a0, a1, a2, a3, a4, h⟩
theorem ex6 {α0 α1 α2 α3 α4 α5 : Type} {P : α0 → α1 → α2 → α3 → α4 → α5 → Prop} {g : Prop} (h : ∃ a0 a1 a2 a3 a4 a5, P a0 a1 a2 a3 a4 a5) (k : ∀ a0 a1 a2 a3 a4 a5, P a0 a1 a2 a3 a4 a5 → g) : g := h.elim fun a0 h => h.elim fun a1 h => h.elim fun a2 h => h.elim fun a3 h => h.elim fun a4 h => h.elim fun a5 h => k a0 a1 a2 a3 a4 a5 h
theorem ei6 {α0 α1 α2 α3 α4 α5 : Type} {P : α0 → α1 → α2 → α3 → α4 → α5 → Prop} (a0 : α0) (a1 : α1) (a2 : α2) (a3 : α3) (a4 : α4) (a5 : α5) (h : P a0 a1 a2 a3 a4 a5) : ∃ a0 a1 a2 a3 a4 a5, P a0 a1 a2 a3 a4 a5 := ⟨a0, a1, a2, a3, a4, a5, h⟩
theorem ex7 {α0 α1 α2 α3 α4 α5 α6 : Type} {P : α0 → α1 → α2 → α3 → α4 → α5 → α6 → Prop} {g : Prop} (h : ∃ a0 a1 a2 a3 a4 a5 a6, P a0 a1 a2 a3 a4 a5 a6) (k : ∀ a0 a1 a2 a3 a4 a5 a6, P a0 a1 a2 a3 a4 a5 a6 → g) : g := h.elim fun a0 h => h.elim fun a1 h => h.elim fun a2 h => h.elim fun a3 h => h.elim fun a4 h => h.elim fun a5 h => h.elim fun a6 h => k a0 a1 a2 a3 a4 a5 a6 h
theorem ei7 {α0 α1 α2 α3 α4 α5 α6 : Type} {P : α0 → α1 → α2 → α3 → α4 → α5 → α6 → Prop} (a0 : α0) (a1 : α1) (a2 : α2) (a3 : α3) (a4 : α4) (a5 : α5) (a6 : α6) (h : P a0 a1 a2 a3 a4 a5 a6) : ∃ a0 a1 a2 a3 a4 a5 a6, P a0 a1 a2 a3 a4 a5 a6 := ⟨a0, a1, a2, a3, a4, a5, a6, h⟩
theorem ex8 {α0 α1 α2 α3 α4 α5 α6 α7 : Type} {P : α0 → α1 → α2 → α3 → α4 → α5 → α6 → α7 → Prop} {g : Prop} (h : ∃ a0 a1 a2 a3 a4 a5 a6 a7, P a0 a1 a2 a3 a4 a5 a6 a7) (k : ∀ a0 a1 a2 a3 a4 a5 a6 a7, P a0 a1 a2 a3 a4 a5 a6 a7 → g) : g := h.elim fun a0 h => h.elim fun a1 h => h.elim fun a2 h => h.elim fun a3 h => h.elim fun a4 h => h.elim fun a5 h => h.elim fun a6 h => h.elim fun a7 h => k a0 a1 a2 a3 a4 a5 a6 a7 h
theorem ei8 {α0 α1 α2 α3 α4 α5 α6 α7 : Type} {P : α0 → α1 → α2 → α3 → α4 → α5 → α6 → α7 → Prop} (a0 : α0) (a1 : α1) (a2 : α2) (a3 : α3) (a4 : α4) (a5 : α5) (a6 : α6) (a7 : α7) (h : P a0 a1 a2 a3 a4 a5 a6 a7) : ∃ a0 a1 a2 a3 a4 a5 a6 a7, P a0 a1 a2 a3 a4 a5 a6 a7 := ⟨a0, a1, a2, a3, a4, a5, a6, a7, h⟩
theorem ex10 {α0 α1 α2 α3 α4 α5 α6 α7 α8 α9 : Type} {P : α0 → α1 → α2 → α3 → α4 → α5 → α6 → α7 → α8 → α9 → Prop} {g : Prop} (h : ∃ a0 a1 a2 a3 a4 a5 a6 a7 a8 a9, P a0 a1 a2 a3 a4 a5 a6 a7 a8 a9) (k : ∀ a0 a1 a2 a3 a4 a5 a6 a7 a8 a9, P a0 a1 a2 a3 a4 a5 a6 a7 a8 a9 → g) : g := h.elim fun a0 h => h.elim fun a1 h => h.elim fun a2 h => h.elim fun a3 h => h.elim fun a4 h => h.elim fun a5 h => h.elim fun a6 h => h.elim fun a7 h => h.elim fun a8 h => h.elim fun a9 h => k a0 a1 a2 a3 a4 a5 a6 a7 a8 a9 h
theorem ei10 {α0 α1 α2 α3 α4 α5 α6 α7 α8 α9 : Type} {P : α0 → α1 → α2 → α3 → α4 → α5 → α6 → α7 → α8 → α9 → Prop} (a0 : α0) (a1 : α1) (a2 : α2) (a3 : α3) (a4 : α4) (a5 : α5) (a6 : α6) (a7 : α7) (a8 : α8) (a9 : α9) (h : P a0 a1 a2 a3 a4 a5 a6 a7 a8 a9) : ∃ a0 a1 a2 a3 a4 a5 a6 a7 a8 a9, P a0 a1 a2 a3 a4 a5 a6 a7 a8 a9 := ⟨a0, a1, a2, a3, a4, a5, a6, a7, a8, a9, h⟩
theorem ei12 {α0 α1 α2 α3 α4 α5 α6 α7 α8 α9 α10 α11 : Type} {P : α0 → α1 → α2 → α3 → α4 → α5 → α6 → α7 → α8 → α9 → α10 → α11 → Prop} (a0 : α0) (a1 : α1) (a2 : α2) (a3 : α3) (a4 : α4) (a5 : α5) (a6 : α6) (a7 : α7) (a8 : α8) (a9 : α9) (a10 : α10) (a11 : α11) (h : P a0 a1 a2 a3 a4 a5 a6 a7 a8 a9 a10 a11) : ∃ a0 a1 a2 a3 a4 a5 a6 a7 a8 a9 a10 a11, P a0 a1 a2 a3 a4 a5 a6 a7 a8 a9 a10 a11 := ⟨a0, a1, a2, a3, a4, a5, a6, a7, a8, a9, a10, a11, h⟩
theorem an3 {a0 a1 a2 g : Prop} (h : a0 ∧ a1 ∧ a2) (k : a0 → a1 → a2 → g) : g := k h.1 h.2.1 h.2.2
theorem an4 {a0 a1 a2 a3 g : Prop} (h : a0 ∧ a1 ∧ a2 ∧ a3) (k : a0 → a1 → a2 → a3 → g) : g := k h.1 h.2.1 h.2.2.1 h.2.2.2
theorem an5 {a0 a1 a2 a3 a4 g : Prop} (h : a0 ∧ a1 ∧ a2 ∧ a3 ∧ a4) (k : a0 → a1 → a2 → a3 → a4 → g) : g := k h.1 h.2.1 h.2.2.1 h.2.2.2.1 h.2.2.2.2
theorem an6 {a0 a1 a2 a3 a4 a5 g : Prop} (h : a0 ∧ a1 ∧ a2 ∧ a3 ∧ a4 ∧ a5) (k : a0 → a1 → a2 → a3 → a4 → a5 → g) : g := k h.1 h.2.1 h.2.2.1 h.2.2.2.1 h.2.2.2.2.1 h.2.2.2.2.2
theorem an7 {a0 a1 a2 a3 a4 a5 a6 g : Prop} (h : a0 ∧ a1 ∧ a2 ∧ a3 ∧ a4 ∧ a5 ∧ a6) (k : a0 → a1 → a2 → a3 → a4 → a5 → a6 → g) : g := k h.1 h.2.1 h.2.2.1 h.2.2.2.1 h.2.2.2.2.1 h.2.2.2.2.2.1 h.2.2.2.2.2.2
end
section
noncomputable abbrev PR : Program := PySem.Challenge.rw_il0178_01.row.prog
noncomputable abbrev KK (w : World) : Frag := KT w.params
noncomputable abbrev Kp (h h' : Heap) : Prop := ∀ b o, h.get? b = some o → h'.get? b = some o
theorem Kp.rfl {h : Heap} : Kp h h := fun _ _ e => e
theorem Kp.tr {a b c : Heap} (x : Kp a b) (y : Kp b c) : Kp a c := fun _ _ e => y _ _ (x _ _ e)
theorem Kp.push {a b : Heap} (x : Kp a b) (o : Obj) : Kp a (b.push o) := fun _ _ e => Heap.get?_push_of_some o (x _ _ e)
/-- the same but for the heap and the tokens -/
structure Sm (s s' : Shared) : Prop where
  gens : s'.gens = s.gens
  drawn : s'.drawn = s.drawn
  os : s'.os = s.os
theorem Sm.rfl {s : Shared} : Sm s s := ⟨Eq.refl _, Eq.refl _, Eq.refl _⟩
theorem Sm.tr {a b c : Shared} (x : Sm a b) (y : Sm b c) : Sm a c := ⟨y.gens.trans x.gens, y.drawn.trans x.drawn, y.os.trans x.os⟩
theorem Sm.mk' {s : Shared} {h : Heap} {tk : Nat} : Sm s { s with heap := h, toks := tk } := ⟨Eq.refl _, Eq.refl _, Eq.refl _⟩
/-! ## cells: what is owned -/
noncomputable abbrev Cell := Addr × (Obj → Prop)
structure Own (h₀ h : Heap) (Φ : List Cell) : Prop where
  keep : Kp h₀ h
  own : ∀ p ∈ Φ, h₀.get? p.1 = none ∧ ∃ o, h.get? p.1 = some o ∧ p.2 o
  nd : (Φ.map (·.1)).Nodup
inductive Upd (c : Addr) (P' : Obj → Prop) : List Cell → List Cell → Prop
  | head {P r} : Upd c P' ((c, P) :: r) ((c, P') :: r)
  | tail {p r r'} : Upd c P' r r' → Upd c P' (p :: r) (p :: r')
theorem Upd.keys {c P' Φ Φ'} (U : Upd c P' Φ Φ') : Φ'.map (·.1) = Φ.map (·.1) := by
  induction U with
  | head => rfl
  | tail _ ih => simp only [List.map_cons, ih]
theorem Upd.mem {c P' Φ Φ'} (U : Upd c P' Φ Φ') : c ∈ Φ.map (·.1) := by
  induction U with
  | head => simp
  | tail _ ih => simp only [List.map_cons]; exact List.mem_cons_of_mem _ ih
theorem Upd.cases {c P' Φ Φ'} (U : Upd c P' Φ Φ') (nd : (Φ.map (·.1)).Nodup) : ∀ q ∈ Φ', q = (c, P') ∨ (q ∈ Φ ∧ q.1 ≠ c) := by
  induction U with
  | head =>
    intro q hq
    rw [List.map_cons, List.nodup_cons] at nd
    rcases List.mem_cons.mp hq with e | hq
    · exact .inl e
    · exact .inr ⟨List.mem_cons_of_mem _ hq, fun e => nd.1 (List.mem_map.mpr ⟨q, hq, e⟩)⟩
  | @tail p r r' U ih =>
    intro q hq
    rw [List.map_cons, List.nodup_cons] at nd
    rcases List.mem_cons.mp hq with e | hq
    · refine .inr ⟨e ▸ List.mem_cons_self, fun e' => nd.1 ?_⟩
      have := U.mem
      rw [← e', e] at this; exact this
    · rcases ih nd.2 q hq with e | ⟨a, b⟩
      · exact .inl e
      · exact .inr ⟨List.mem_cons_of_mem _ a, b⟩
section
variable {h₀ h h' : Heap} {Φ Φ' : List Cell} {c : Addr} {P P' : Obj → Prop}
theorem Own.start (h : Heap) : Own h h [] := ⟨Kp.rfl, fun _ hp => (nomatch hp), List.nodup_nil⟩
theorem Own.get (O : Own h₀ h Φ) (hm : (c, P) ∈ Φ) : ∃ o, h.get? c = some o ∧ P o := (O.own _ hm).2
theorem Own.fresh (O : Own h₀ h Φ) (hm : c ∈ Φ.map (·.1)) : h₀.get? c = none := by
  obtain ⟨p, hp, rfl⟩ := List.mem_map.mp hm
  exact (O.own p hp).1
theorem Own.upd (O : Own h₀ h Φ) (U : Upd c P' Φ Φ') (hs : Heap.SameBut c h h') (hP : ∃ o, h'.get? c = some o ∧ P' o) : Own h₀ h' Φ' := by
  refine ⟨fun b o e => (hs.2 b fun q => ?_).trans (O.keep b o e), fun q hq => ?_, U.keys ▸ O.nd⟩
  · have := O.fresh U.mem; rw [← q, e] at this; cases this
  · rcases U.cases O.nd q hq with rfl | ⟨a, b⟩
    · exact ⟨O.fresh U.mem, hP⟩
    · obtain ⟨x, o, y, z⟩ := O.own q a
      exact ⟨x, o, (hs.2 _ b).trans y, z⟩
theorem Own.kp (O : Own h₀ h Φ) (k : Kp h h') : Own h₀ h' Φ :=
  ⟨O.keep.tr k, fun p hp => let ⟨x, o, y, z⟩ := O.own p hp; ⟨x, o, k _ _ y, z⟩, O.nd⟩
/-- new objects, none of which stood before -/
structure New (h h' : Heap) (Ψ : List Cell) : Prop where
  own : ∀ p ∈ Ψ, h.get? p.1 = none ∧ ∃ o, h'.get? p.1 = some o ∧ p.2 o
  nd : (Ψ.map (·.1)).Nodup
theorem New.nil : New h h' [] := ⟨fun _ hp => (nomatch hp), List.nodup_nil⟩
theorem New.one (h1 : h.get? c = none) (h2 : ∃ o, h'.get? c = some o ∧ P o) : New h h' [(c, P)] :=
  ⟨fun p hp => by rcases List.mem_singleton.mp hp with rfl; exact ⟨h1, h2⟩, by simp⟩
theorem Own.new {Ψ : List Cell} (O : Own h₀ h Φ) (k : Kp h h') (N : New h h' Ψ) : Own h₀ h' (Ψ ++ Φ) := by
  have K := O.kp k
  refine ⟨K.keep, fun p hp => ?_, ?_⟩
  · rcases List.mem_append.mp hp with hp | hp
    · obtain ⟨a, b⟩ := N.own p hp
      refine ⟨?_, b⟩
      cases q : h₀.get? p.1 with
      | none => rfl
      | some o => rw [O.keep _ _ q] at a; cases a
    · exact K.own p hp
  · rw [List.map_append, List.nodup_append]
    refine ⟨N.nd, O.nd, fun a ha b hb e => ?_⟩
    obtain ⟨p, hp, rfl⟩ := List.mem_map.mp ha
    obtain ⟨q, hq, rfl⟩ := List.mem_map.mp hb
    obtain ⟨_, o, y, _⟩ := O.own q hq
    rw [← e, (N.own p hp).1] at y; cases y
theorem Own.sub (O : Own h₀ h Φ) (hs : Φ'.Sublist Φ) : Own h₀ h Φ' :=
  ⟨O.keep, fun p hp => O.own p (hs.subset hp), O.nd.sublist (hs.map _)⟩
theorem Own.drop (O : Own h₀ h (c' :: Φ)) : Own h₀ h Φ := O.sub (List.sublist_cons_self ..)
theorem Own.perm (O : Own h₀ h Φ) (hp : Φ.Perm Φ') : Own h₀ h Φ' :=
  ⟨O.keep, fun p hq => O.own p (hp.mem_iff.mpr hq), (hp.map (fun x : Cell => x.1)).nodup_iff.mp O.nd⟩
theorem Own.mapP (O : Own h₀ h ((c, P) :: Φ)) (f : ∀ o, P o → P' o) : Own h₀ h ((c, P') :: Φ) :=
  ⟨O.keep, fun p hp => by
    rcases List.mem_cons.mp hp with rfl | hp
    · obtain ⟨a, o, b, d⟩ := O.own (c, P) (.head _); exact ⟨a, o, b, f o d⟩
    · exact O.own p (.tail _ hp), O.nd⟩
/-- one object is lost, all else stands -/
theorem Own.lose (O : Own h₀ h ((c, P) :: Φ)) (hs : Heap.ExtBut c h h') : Own h₀ h' Φ := by
  have nd := O.nd
  rw [List.map_cons, List.nodup_cons] at nd
  refine ⟨fun b o e => hs b o (fun q => ?_) (O.keep b o e), fun p hp => ?_, nd.2⟩
  · have := (O.own _ (.head _)).1; rw [← q, e] at this; cases this
  · obtain ⟨x, o, y, z⟩ := O.own p (.tail _ hp)
    exact ⟨x, o, hs _ _ (fun q => nd.1 (List.mem_map.mpr ⟨p, hp, q⟩)) y, z⟩
/-- what was made is new to the base -/
theorem Own.toNew (O : Own h₀ h Φ) : New h₀ h Φ := ⟨O.own, O.nd⟩
theorem New.sub {Ψ Ψ' : List Cell} (N : New h h' Ψ) (hs : Ψ'.Sublist Ψ) : New h h' Ψ' := ⟨fun p hp => N.own p (hs.subset hp), N.nd.sublist (hs.map _)⟩
end
/-! ## locals -/
noncomputable def look : List Str → List (Option Value) → Str → Option Value
  | x :: nm, v :: vs, y => if y = x then v else look nm vs y
  | _, _, _ => none
noncomputable def locP (nm : List Str) (vs : List (Option Value)) : Obj → Prop := fun o => ∃ es ep, o.data = .dict es ep ∧ StrKeys es ∧ ∀ x, nsFind es x = look nm vs x
theorem locP_ns {h : Heap} {L : Addr} {nm vs} (H : ∃ o, h.get? L = some o ∧ locP nm vs o) : h.Ns L (look nm vs) :=
  let ⟨o, e, es, ep, a, b, c⟩ := H; ⟨o, es, ep, e, a, b, c⟩
theorem ns_locP {h : Heap} {L : Addr} {nm vs} {m : Str → Option Value} (H : h.Ns L m) (hm : ∀ x, m x = look nm vs x) : ∃ o, h.get? L = some o ∧ locP nm vs o :=
  let ⟨o, es, ep, e, a, b, c⟩ := H; ⟨o, e, es, ep, a, b, fun x => (c x).trans (hm x)⟩
/-- the name x stands with the value v -/
inductive At (x : Str) (v : Value) : List Str → List (Option Value) → Prop
  | head {nm vs} : At x v (x :: nm) (some v :: vs)
  | tail {y u nm vs} : At x v nm vs → At x v (y :: nm) (u :: vs)
theorem At.mem {x v nm vs} (a : At x v nm vs) : x ∈ nm := by
  induction a with
  | head => exact List.mem_cons_self
  | tail _ ih => exact List.mem_cons_of_mem _ ih
theorem At.look {x v nm vs} (a : At x v nm vs) (nd : nm.Nodup) : look nm vs x = some v := by
  induction a with
  | head => simp [Mine.look]
  | @tail y u nm vs a ih =>
    rw [List.nodup_cons] at nd
    have : x ≠ y := fun e => nd.1 (e ▸ a.mem)
    simp [Mine.look, this, ih nd.2]
inductive Put (x : Str) (v : Value) : List Str → List (Option Value) → List (Option Value) → Prop
  | head {nm u vs} : Put x v (x :: nm) (u :: vs) (some v :: vs)
  | tail {y u nm vs vs'} : Put x v nm vs vs' → Put x v (y :: nm) (u :: vs) (u :: vs')
theorem Put.mem {x v nm vs vs'} (a : Put x v nm vs vs') : x ∈ nm := by
  induction a with
  | head => exact List.mem_cons_self
  | tail _ ih => exact List.mem_cons_of_mem _ ih
theorem Put.look {x v nm vs vs'} (a : Put x v nm vs vs') (nd : nm.Nodup) (y : Str) : (if y = x then some v else look nm vs y) = look nm vs' y := by
  induction a with
  | head => simp only [Mine.look]; split <;> rfl
  | @tail z u nm vs vs' a ih =>
    rw [List.nodup_cons] at nd
    have : x ≠ z := fun e => nd.1 (e ▸ a.mem)
    simp only [Mine.look]
    by_cases hy : y = z
    · subst hy; simp [Ne.symm this]
    · simp only [if_neg hy]; exact ih nd.2
inductive Sel (p : Cell) : List Cell → List Cell → Prop
  | head {r} : Sel p (p :: r) r
  | tail {q r r'} : Sel p r r' → Sel p (q :: r) (q :: r')
inductive Pick : List Cell → List Cell → Prop
  | refl {r} : Pick r r
  | nil {r} : Pick r []
  | take {p r r' t} : Sel p r r' → Pick r' t → Pick r (p :: t)
  | drop {p r t} : Pick r t → Pick (p :: r) t
theorem mm1 {α : Type} {a : α} {b0 : α} {l : List α} : a ∈ b0 :: a :: l := .tail _ List.mem_cons_self
theorem mm2 {α : Type} {a : α} {b0 b1 : α} {l : List α} : a ∈ b0 :: b1 :: a :: l := .tail _ (.tail _ List.mem_cons_self)
theorem mm3 {α : Type} {a : α} {b0 b1 b2 : α} {l : List α} : a ∈ b0 :: b1 :: b2 :: a :: l := .tail _ (.tail _ (.tail _ List.mem_cons_self))
theorem mm4 {α : Type} {a : α} {b0 b1 b2 b3 : α} {l : List α} : a ∈ b0 :: b1 :: b2 :: b3 :: a :: l := .tail _ (.tail _ (.tail _ (.tail _ List.mem_cons_self)))
theorem mm5 {α : Type} {a : α} {b0 b1 b2 b3 b4 : α} {l : List α} : a ∈ b0 :: b1 :: b2 :: b3 :: b4 :: a :: l := .tail _ (.tail _ (.tail _ (.tail _ (.tail _ List.mem_cons_self))))
theorem mm6 {α : Type} {a : α} {b0 b1 b2 b3 b4 b5 : α} {l : List α} : a ∈ b0 :: b1 :: b2 :: b3 :: b4 :: b5 :: a :: l := .tail _ (.tail _ (.tail _ (.tail _ (.tail _ (.tail _ List.mem_cons_self)))))
theorem at1 {x : Str} {v : Value} {y0 : Str} {u0 : Option Value} {nm vs} : At x v (y0 :: x :: nm) (u0 :: some v :: vs) := .tail .head
theorem at2 {x : Str} {v : Value} {y0 y1 : Str} {u0 u1 : Option Value} {nm vs} : At x v (y0 :: y1 :: x :: nm) (u0 :: u1 :: some v :: vs) := .tail (.tail .head)
theorem at3 {x : Str} {v : Value} {y0 y1 y2 : Str} {u0 u1 u2 : Option Value} {nm vs} : At x v (y0 :: y1 :: y2 :: x :: nm) (u0 :: u1 :: u2 :: some v :: vs) := .tail (.tail (.tail .head))
theorem at4 {x : Str} {v : Value} {y0 y1 y2 y3 : Str} {u0 u1 u2 u3 : Option Value} {nm vs} : At x v (y0 :: y1 :: y2 :: y3 :: x :: nm) (u0 :: u1 :: u2 :: u3 :: some v :: vs) := .tail (.tail (.tail (.tail .head)))
theorem at5 {x : Str} {v : Value} {y0 y1 y2 y3 y4 : Str} {u0 u1 u2 u3 u4 : Option Value} {nm vs} : At x v (y0 :: y1 :: y2 :: y3 :: y4 :: x :: nm) (u0 :: u1 :: u2 :: u3 :: u4 :: some v :: vs) := .tail (.tail (.tail (.tail (.tail .head))))
theorem pu1 {x : Str} {v : Value} {y0 : Str} {u0 : Option Value} {w : Option Value} {nm vs} : Put x v (y0 :: x :: nm) (u0 :: w :: vs) (u0 :: some v :: vs) := .tail .head
theorem pu2 {x : Str} {v : Value} {y0 y1 : Str} {u0 u1 : Option Value} {w : Option Value} {nm vs} : Put x v (y0 :: y1 :: x :: nm) (u0 :: u1 :: w :: vs) (u0 :: u1 :: some v :: vs) := .tail (.tail .head)
theorem pu3 {x : Str} {v : Value} {y0 y1 y2 : Str} {u0 u1 u2 : Option Value} {w : Option Value} {nm vs} : Put x v (y0 :: y1 :: y2 :: x :: nm) (u0 :: u1 :: u2 :: w :: vs) (u0 :: u1 :: u2 :: some v :: vs) := .tail (.tail (.tail .head))
theorem pu4 {x : Str} {v : Value} {y0 y1 y2 y3 : Str} {u0 u1 u2 u3 : Option Value} {w : Option Value} {nm vs} : Put x v (y0 :: y1 :: y2 :: y3 :: x :: nm) (u0 :: u1 :: u2 :: u3 :: w :: vs) (u0 :: u1 :: u2 :: u3 :: some v :: vs) := .tail (.tail (.tail (.tail .head)))
theorem pu5 {x : Str} {v : Value} {y0 y1 y2 y3 y4 : Str} {u0 u1 u2 u3 u4 : Option Value} {w : Option Value} {nm vs} : Put x v (y0 :: y1 :: y2 :: y3 :: y4 :: x :: nm) (u0 :: u1 :: u2 :: u3 :: u4 :: w :: vs) (u0 :: u1 :: u2 :: u3 :: u4 :: some v :: vs) := .tail (.tail (.tail (.tail (.tail .head))))
theorem up1 {c : Addr} {P P' : Obj → Prop} {b0 : Cell} {r : List Cell} : Upd c P' (b0 :: (c, P) :: r) (b0 :: (c, P') :: r) := .tail .head
theorem up2 {c : Addr} {P P' : Obj → Prop} {b0 b1 : Cell} {r : List Cell} : Upd c P' (b0 :: b1 :: (c, P) :: r) (b0 :: b1 :: (c, P') :: r) := .tail (.tail .head)
theorem up3 {c : Addr} {P P' : Obj → Prop} {b0 b1 b2 : Cell} {r : List Cell} : Upd c P' (b0 :: b1 :: b2 :: (c, P) :: r) (b0 :: b1 :: b2 :: (c, P') :: r) := .tail (.tail (.tail .head))
theorem up4 {c : Addr} {P P' : Obj → Prop} {b0 b1 b2 b3 : Cell} {r : List Cell} : Upd c P' (b0 :: b1 :: b2 :: b3 :: (c, P) :: r) (b0 :: b1 :: b2 :: b3 :: (c, P') :: r) := .tail (.tail (.tail (.tail .head)))
theorem up5 {c : Addr} {P P' : Obj → Prop} {b0 b1 b2 b3 b4 : Cell} {r : List Cell} : Upd c P' (b0 :: b1 :: b2 :: b3 :: b4 :: (c, P) :: r) (b0 :: b1 :: b2 :: b3 :: b4 :: (c, P') :: r) := .tail (.tail (.tail (.tail (.tail .head))))
theorem se1 {p : Cell} {b0 : Cell} {r : List Cell} : Sel p (b0 :: p :: r) (b0 :: r) := .tail .head
theorem se2 {p : Cell} {b0 b1 : Cell} {r : List Cell} : Sel p (b0 :: b1 :: p :: r) (b0 :: b1 :: r) := .tail (.tail .head)
theorem se3 {p : Cell} {b0 b1 b2 : Cell} {r : List Cell} : Sel p (b0 :: b1 :: b2 :: p :: r) (b0 :: b1 :: b2 :: r) := .tail (.tail (.tail .head))
theorem se4 {p : Cell} {b0 b1 b2 b3 : Cell} {r : List Cell} : Sel p (b0 :: b1 :: b2 :: b3 :: p :: r) (b0 :: b1 :: b2 :: b3 :: r) := .tail (.tail (.tail (.tail .head)))
theorem mmS {α : Type} {a b0 b1 b2 b3 b4 b5 b6 : α} {l : List α} (h : a ∈ l) : a ∈ b0 :: b1 :: b2 :: b3 :: b4 :: b5 :: b6 :: l := .tail _ (.tail _ (.tail _ (.tail _ (.tail _ (.tail _ (.tail _ h))))))
theorem atS {x : Str} {v : Value} {y0 y1 y2 y3 y4 y5 : Str} {u0 u1 u2 u3 u4 u5 : Option Value} {nm vs} (h : At x v nm vs) : At x v (y0 :: y1 :: y2 :: y3 :: y4 :: y5 :: nm) (u0 :: u1 :: u2 :: u3 :: u4 :: u5 :: vs) := .tail (.tail (.tail (.tail (.tail (.tail h)))))
theorem puS {x : Str} {v : Value} {y0 y1 y2 y3 y4 y5 : Str} {u0 u1 u2 u3 u4 u5 : Option Value} {nm vs vs'} (h : Put x v nm vs vs') : Put x v (y0 :: y1 :: y2 :: y3 :: y4 :: y5 :: nm) (u0 :: u1 :: u2 :: u3 :: u4 :: u5 :: vs) (u0 :: u1 :: u2 :: u3 :: u4 :: u5 :: vs') := .tail (.tail (.tail (.tail (.tail (.tail h)))))
theorem upS {c : Addr} {P' : Obj → Prop} {b0 b1 b2 b3 b4 b5 : Cell} {r r' : List Cell} (h : Upd c P' r r') : Upd c P' (b0 :: b1 :: b2 :: b3 :: b4 :: b5 :: r) (b0 :: b1 :: b2 :: b3 :: b4 :: b5 :: r') := .tail (.tail (.tail (.tail (.tail (.tail h)))))
theorem seS {p b0 b1 b2 b3 b4 : Cell} {r r' : List Cell} (h : Sel p r r') : Sel p (b0 :: b1 :: b2 :: b3 :: b4 :: r) (b0 :: b1 :: b2 :: b3 :: b4 :: r') := .tail (.tail (.tail (.tail (.tail h))))
/-! ## the written part of the heap -/
structure Base (w : World) (h : Heap) : Prop where
  X : (KK w).In h
  seer : h.NoSeer
  ns : ∃ mg mb, h.Ns mainGlobals mg ∧ h.Ns builtinsNs mb ∧ h.NoLimit ∧ ∀ x : Str, x ≠ "__name__" → mb x = bootBuiltins x
theorem Base.keeps {w : World} {h h' : Heap} (B : Base w h) (k : Kp h h') : Base w h' :=
  ⟨B.X.keeps k, B.seer.keeps k, let ⟨mg, mb, a, b, c, d⟩ := B.ns; ⟨mg, mb, a.keeps k, b.keeps k, c.keeps k, d⟩⟩
theorem Base.nolimit {w : World} {h : Heap} (B : Base w h) : h.NoLimit := let ⟨_, _, _, _, c, _⟩ := B.ns; c
/-! ## a block's environment -/
structure EnvOK (env : Env) (L : Addr) (nm : List Str) (cl : List (Str × Addr)) (gl : List Str) : Prop where
  kind : env.scope.kind = .function
  locals : env.locals = L
  loc : ∀ x ∈ nm, env.kindOf x = some .local
  nodup : nm.Nodup
  cel : ∀ p ∈ cl, (env.kindOf p.1 = some .cell ∨ env.kindOf p.1 = some .free ∧ (p.1 == ("__classdict__" : Str)) = false) ∧ env.cells.lookup p.1 = some p.2
  glob : ∀ x ∈ gl, env.kindOf x = some .globalImplicit
  globals : env.globals = mainGlobals
  builtins : env.builtins = builtinsNs
  dbg : ∀ x, x ∈ nm ∨ x ∈ cl.map (·.1) ∨ x ∈ gl → (x == ("__debug__" : Str)) = false
  gen : env.scope.isGenerator = false
  co : env.scope.isCoroutine = false
section
variable {w : World} {A : Around} {E : Value → Shared → Prop} {s : Shared} {h₀ : Heap} {Φ Φ' : List Cell} {env : Env} {L : Addr} {nm : List Str} {vs vs' : List (Option Value)} {cl : List (Str × Addr)} {gl : List Str}
noncomputable def celP (v : Option Value) : Obj → Prop := fun o => o.data = .cell v
theorem r_ld {x : Str} {p : Pos} {v : Value} {Q : Value → Shared → Prop} (V : EnvOK env L nm cl gl) (O : Own h₀ s.heap Φ) (hm : (L, locP nm vs) ∈ Φ) (hx : At x v nm vs) (h : Q v s) :
    wpAny (model PR w) A (eval (.Name x p) env) Q E s :=
  wpAny_Name (wpAny_loadName_local V.kind (V.loc x hx.mem) (by rw [V.locals]; exact locP_ns (O.get hm)) (hx.look V.nodup) h) (V.dbg x (.inl hx.mem))
theorem r_ldn {x : Str} {v : Value} {Q : Value → Shared → Prop} (V : EnvOK env L nm cl gl) (O : Own h₀ s.heap Φ) (hm : (L, locP nm vs) ∈ Φ) (hx : At x v nm vs) (h : Q v s) :
    wpAny (model PR w) A (loadName env x) Q E s :=
  wpAny_loadName_local V.kind (V.loc x hx.mem) (by rw [V.locals]; exact locP_ns (O.get hm)) (hx.look V.nodup) h
theorem r_st {x : Str} {v : Value} {Q : Unit → Shared → Prop} (V : EnvOK env L nm cl gl) (O : Own h₀ s.heap Φ) (hm : (L, locP nm vs) ∈ Φ) (hx : Put x v nm vs vs') (U : Upd L (locP nm vs') Φ Φ')
    (h : ∀ s', Sm s s' → Own h₀ s'.heap Φ' → Q () s') :
    wpAny (model PR w) A (storeName env x v) Q E s := by
  refine wpAny_storeName_local (V.loc x hx.mem) (by rw [V.locals]; exact locP_ns (O.get hm)) (fun h' hn hs => ?_) (by rw [V.kind]; rfl)
  rw [V.locals] at hn hs
  exact h _ Sm.mk' (O.upd U hs (ns_locP hn (hx.look V.nodup)))
theorem r_ldc {x : Str} {p : Pos} {c : Addr} {v : Value} {Q : Value → Shared → Prop} (V : EnvOK env L nm cl gl) (O : Own h₀ s.heap Φ) (hx : (x, c) ∈ cl) (hm : (c, celP (some v)) ∈ Φ) (h : Q v s) :
    wpAny (model PR w) A (eval (.Name x p) env) Q E s := by
  obtain ⟨k, l⟩ := V.cel _ hx
  refine wpAny_Name ?_ (V.dbg x (.inr (.inl (List.mem_map_of_mem hx))))
  rcases k with k | ⟨k, k'⟩
  · exact wpAny_loadName_cell V.kind k l (O.get hm) h
  · exact wpAny_loadName_free V.kind k l (O.get hm) h k'
/-- a cell of an outer block that stands still -/
theorem r_ldcb {x : Str} {p : Pos} {c : Addr} {v : Value} {Q : Value → Shared → Prop} (V : EnvOK env L nm cl gl) (hm : ∃ o, s.heap.get? c = some o ∧ celP (some v) o) (hx : (x, c) ∈ cl) (h : Q v s) :
    wpAny (model PR w) A (eval (.Name x p) env) Q E s := by
  obtain ⟨k, l⟩ := V.cel _ hx
  refine wpAny_Name ?_ (V.dbg x (.inr (.inl (List.mem_map_of_mem hx))))
  rcases k with k | ⟨k, k'⟩
  · exact wpAny_loadName_cell V.kind k l hm h
  · exact wpAny_loadName_free V.kind k l hm h k'
theorem r_stc {x : Str} {c : Addr} {v₀ : Option Value} {v : Value} {Q : Unit → Shared → Prop} (V : EnvOK env L nm cl gl) (hk : env.kindOf x = some .cell) (O : Own h₀ s.heap Φ) (hx : (x, c) ∈ cl) (hm : (c, celP v₀) ∈ Φ)
    (U : Upd c (celP (some v)) Φ Φ') (h : ∀ s', Sm s s' → Own h₀ s'.heap Φ' → Q () s') :
    wpAny (model PR w) A (storeName env x v) Q E s :=
  wpAny_storeName_cell V.kind hk (V.cel _ hx).2 (O.get hm) fun h' hv hs => h _ Sm.mk' (O.upd U hs hv)
/-! ## global names -/
noncomputable abbrev GF : List (Str × Value) := [("fspath", .ref 150), ("_get_sep", .ref 164), ("join", .ref 171), ("split", .ref 178), ("commonpath", .ref 183), ("sorted_list_difference", .ref 190),
  ("_law_place", .ref 197), ("_law_quotas", .ref 204), ("_law_lines", .ref 211), ("_law_tells", .ref 216), ("_law_run", .ref 221), ("_law_rooms", .ref 226), ("_law_heads", .ref 231), ("_law_only", .ref 236),
  ("_law_differ", .ref 243), ("Flags", .ref 73)]
noncomputable abbrev GBl : List (Str × Value) := [("type", .type "type"), ("issubclass", .builtin "issubclass"), ("isinstance", .builtin "isinstance"), ("str", .type "str"), ("bytes", .type "bytes"), ("len", .builtin "len"), ("tuple", .type "tuple"), ("map", .type "map"),
  ("min", .builtin "min"), ("max", .builtin "max"), ("enumerate", .type "enumerate"), ("range", .type "range"), ("sorted", .builtin "sorted"), ("list", .type "list"), ("dict", .type "dict"), ("set", .type "set"), ("sum", .builtin "sum"), ("bool", .type "bool"),
  ("TypeError", .type "TypeError"), ("AttributeError", .type "AttributeError"), ("ValueError", .type "ValueError"), ("IndexError", .type "IndexError")]
theorem gf_ok (w : World) : (GF.map fun p => nsIn (KK w) mainGlobals p.1) = GF.map fun p => some (some p.2) := by kernel_rfl
theorem gb_none (w : World) : (GBl.map fun p => nsIn (KK w) mainGlobals p.1) = GBl.map fun _ => some none := by kernel_rfl
theorem gb_ok : (GBl.map fun p => bootBuiltins p.1) = GBl.map fun p => some p.2 := by decide +kernel
theorem gb_nn : ∀ p ∈ GBl, p.1 ≠ ("__name__" : Str) := by decide +kernel
theorem map_mem {α β : Type} {f g : α → β} : ∀ {l : List α}, l.map f = l.map g → ∀ a ∈ l, f a = g a
  | [], _, _, h => nomatch h
  | x :: l, e, a, h => by
    rw [List.map_cons, List.map_cons] at e
    injection e with e1 e2
    rcases List.mem_cons.mp h with rfl | h
    · exact e1
    · exact map_mem e2 a h
theorem r_glob {x : Str} {p : Pos} {v : Value} {Q : Value → Shared → Prop} (V : EnvOK env L nm cl gl) (B : Base w s.heap) (hx : x ∈ gl) (hv : (x, v) ∈ GF) (h : Q v s) :
    wpAny (model PR w) A (eval (.Name x p) env) Q E s := by
  obtain ⟨mg, mb, hg, _⟩ := B.ns
  exact Name_function_global V.kind (V.glob x hx) (loadGlobal_global (by rw [V.globals]; exact hg) (mg_of B.X hg (map_mem (gf_ok w) _ hv)) h) (V.dbg x (.inr (.inr hx)))
theorem r_boot {x : Str} {p : Pos} {v : Value} {Q : Value → Shared → Prop} (V : EnvOK env L nm cl gl) (B : Base w s.heap) (hx : x ∈ gl) (hv : (x, v) ∈ GBl) (h : Q v s) :
    wpAny (model PR w) A (eval (.Name x p) env) Q E s := by
  obtain ⟨mg, mb, hg, hb, _, hbb⟩ := B.ns
  exact Name_function_global V.kind (V.glob x hx) (loadGlobal_builtin (by rw [V.globals]; exact hg) (mg_none_of B.X hg (map_mem (gb_none w) _ hv)) (by rw [V.builtins]; exact hb) ((hbb x (gb_nn _ hv)).trans (map_mem gb_ok _ hv)) h) (V.dbg x (.inr (.inr hx)))
end
end
local macro_rules | `(tactic| lia) => `(tactic| with_reducible assumption)
local macro_rules | `(tactic| ktr_rel) => `(tactic| with_reducible first
  | exact List.mem_cons_self | exact mm1 | exact mm2 | exact mm3 | exact mm4 | exact mm5 | exact mm6 | (apply mmS; ktr_rel)
  | exact Upd.head | exact up1 | exact up2 | exact up3 | exact up4 | exact up5 | (apply upS; ktr_rel)
  | exact At.head | exact at1 | exact at2 | exact at3 | exact at4 | exact at5 | (apply atS; ktr_rel)
  | exact Put.head | exact pu1 | exact pu2 | exact pu3 | exact pu4 | exact pu5 | (apply puS; ktr_rel)
  | exact Sm.rfl | assumption | (apply Sm.tr; rotate_left; assumption; ktr_rel) | (apply Sm.tr; rotate_left; exact Sm.mk'; ktr_rel)
  | exact Sel.head | exact se1 | exact se2 | exact se3 | exact se4 | (apply seS; ktr_rel)
  | exact Pick.refl | exact Pick.nil | (apply Pick.take; ktr_rel; ktr_rel) | (apply Pick.drop; ktr_rel)
  | (apply List.mem_cons_of_mem; ktr_rel)
  | (dsimp only [List.cons_append, List.nil_append]; ktr_rel))
section
/-! ## the rooms around a call -/
structure Rm (A : Around) (n : Nat) : Prop where
  hd : A.handled = none
  dp : A.depth + n + 200 < recursionLimit
  un : A.units + 8 * n < cLine
  fr : ∃ l, A.frames = some l
theorem Rm.le {A : Around} {n m : Nat} (R : Rm A n) (h : m ≤ n) : Rm A m := ⟨R.hd, by have := R.dp; lia, by have := R.un; lia, R.fr⟩
theorem Rm.deeper {A : Around} {n : Nat} {env : Env} (R : Rm A (n + 1)) : Rm (A.deeper env) n :=
  ⟨R.hd, by have := R.dp; show A.depth + 1 + n + 200 < _; lia, by have := R.un; show A.units + 3 + 8 * n < _; lia, let ⟨l, e⟩ := R.fr; ⟨env :: l, by show A.frames.map _ = _; rw [e]; rfl⟩⟩
theorem Rm.in1 {A : Around} {n : Nat} (R : Rm A (n + 1)) : Rm A.in1 n :=
  ⟨R.hd, by have := R.dp; show A.depth + n + 200 < _; lia, by have := R.un; show A.units + 1 + 8 * n < _; lia, R.fr⟩
theorem Rm.room {A : Around} {n : Nat} (R : Rm A n) : A.depth < recursionLimit := by have := R.dp; lia
theorem Rm.cline {A : Around} {n : Nat} (R : Rm A n) : A.units < cLine := by have := R.un; lia
theorem Rm.pylong {w : World} {A : Around} {n : Nat} {env : Env} {s : Shared} {L : Addr} {nm gl : List Str} {cl : List (Str × Addr)} (R : Rm A (n + 1)) (B : Base w s.heap) (V : EnvOK env L nm cl gl) : PySem.PylongRoom (model PR w) (A.deeper env) s := by
  obtain ⟨l, e⟩ := R.fr
  exact PySem.PylongRoom.of B.nolimit (by have := R.dp; show A.depth + 1 + 100 < _; lia) (PySem.SeerAt.of (env := env) (l := l) B.seer rfl (by show A.frames.map _ = _; rw [e]; rfl) V.gen V.co V.builtins V.globals)
/-! ## the defs of the text -/
noncomputable def fdOf (w : World) (a : Addr) : FuncData := match (KK w).lookup a with
  | some ⟨_, _, .func fd, _⟩ => fd
  | _ => default
noncomputable def isDef (K : Frag) (a : Addr) : Bool := match K.lookup a with
  | some ⟨_, _, .func _, _⟩ => true
  | _ => false
theorem isDef_at {w : World} {a : Addr} (h : isDef (KK w) a = true) : ∃ o, (KK w).lookup a = some o ∧ o.data = .func (fdOf w a) := by
  unfold isDef at h
  unfold fdOf
  split at h
  · rename_i e; rw [e]; exact ⟨_, rfl, rfl⟩
  · cases h
/-- a plain def of the text's -/
structure FnAt (w : World) (a : Addr) (body : List Stmt) : Prop where
  isd : isDef (KK w) a = true
  body : (fdOf w a).body = .stmts body
  code : codeIn (KK w) (fdOf w a).code (fdOf w a).qualname = true
  co : (fdOf w a).scope.isCoroutine = false
  gen : (fdOf w a).scope.isGenerator = false
  kind : (fdOf w a).scope.kind = .function
  globals : (fdOf w a).globals = mainGlobals
  builtins : (fdOf w a).builtins = builtinsNs
  keep : keepIn (KK w) (.ref a) = true
  closure : (fdOf w a).closure = []
noncomputable def dbgFree (l : List Str) : Bool := l.all fun x => !(x == ("__debug__" : Str))
/-- what a block's names are, looked at once -/
noncomputable def chk (sc : Scope) (nm gl : List Str) : Bool :=
  nm.all (fun x => sc.names.lookup x == some .local) && gl.all (fun x => sc.names.lookup x == some .globalImplicit) && decide nm.Nodup && dbgFree nm && dbgFree gl
noncomputable def chkC (sc : Scope) (cn : List (Str × Bool)) : Bool :=
  cn.all (fun p => if p.2 then sc.names.lookup p.1 == some .cell else sc.names.lookup p.1 == some .free && !(p.1 == ("__classdict__" : Str))) && dbgFree (cn.map (·.1))
theorem dbgFree_at {l : List Str} (h : dbgFree l = true) {x : Str} (hx : x ∈ l) : (x == ("__debug__" : Str)) = false := by
  have := List.all_eq_true.mp h x hx
  simpa using this
theorem envOK_of {env : Env} {nm gl : List Str} {cl : List (Str × Addr)} {cn : List (Str × Bool)} (hk : env.scope.kind = .function) (h : chk env.scope nm gl = true) (hc : chkC env.scope cn = true) (hcn : cl.map (·.1) = cn.map (·.1))
    (hl : ∀ p ∈ cl, env.cells.lookup p.1 = some p.2) (hg : env.globals = mainGlobals) (hb : env.builtins = builtinsNs) (hge : env.scope.isGenerator = false) (hco : env.scope.isCoroutine = false) : EnvOK env env.locals nm cl gl := by
  simp only [chk, Bool.and_eq_true, List.all_eq_true, beq_iff_eq, decide_eq_true_eq] at h
  obtain ⟨⟨⟨⟨h1, h2⟩, h3⟩, h4⟩, h5⟩ := h
  simp only [chkC, Bool.and_eq_true, List.all_eq_true] at hc
  refine ⟨hk, rfl, fun x hx => h1 x hx, h3, fun p hp => ⟨?_, hl p hp⟩, fun x hx => h2 x hx, hg, hb, fun x hx => ?_, hge, hco⟩
  · have : p.1 ∈ cn.map (·.1) := hcn ▸ List.mem_map_of_mem hp
    obtain ⟨q, hq, e⟩ := List.mem_map.mp this
    have z := hc.1 q hq
    rw [e] at z
    split at z
    · exact .inl (by simpa [Env.kindOf] using z)
    · right
      simp only [Bool.and_eq_true, beq_iff_eq, Bool.not_eq_true'] at z
      exact z
  · rcases hx with hx | hx | hx
    · exact dbgFree_at h4 hx
    · exact dbgFree_at hc.2 (hcn ▸ hx)
    · exact dbgFree_at h5 hx
theorem lookup_append {α : Type} (x : Str) : ∀ (l l' : List (Str × α)), (l ++ l').lookup x = (l.lookup x).or (l'.lookup x)
  | [], _ => by simp
  | (k, v) :: l, l' => by
    simp only [List.cons_append, List.lookup_cons]
    cases h : x == k <;> simp [lookup_append x l l']
theorem lookup_none {α : Type} (x : Str) : ∀ (l : List (Str × α)), x ∉ l.map (·.1) → l.lookup x = none
  | [], _ => rfl
  | (k, v) :: l, h => by
    rw [List.map_cons, List.mem_cons, not_or] at h
    rw [List.lookup_cons]
    have : (x == k) = false := by simpa using h.1
    rw [this]; exact lookup_none x l h.2
theorem lookup_rev {α : Type} (x : Str) : ∀ (l : List (Str × α)), (l.map (·.1)).Nodup → l.reverse.lookup x = l.lookup x
  | [], _ => rfl
  | (k, v) :: l, h => by
    rw [List.map_cons, List.nodup_cons] at h
    rw [List.reverse_cons, lookup_append, lookup_rev x l h.2, List.lookup_cons]
    cases hk : x == k with
    | true =>
      have : x = k := by simpa using hk
      subst this
      rw [lookup_none x l h.1]
      simp
    | false => cases h' : l.lookup x <;> simp [hk, h', List.lookup_cons]
noncomputable def noneOf : List Str → List (Option Value)
  | [] => []
  | _ :: r => none :: noneOf r
theorem look_init (x : Str) : ∀ (l : List (Str × Value)) (r : List Str), look (l.map (·.1) ++ r) (l.map (fun p => some p.2) ++ noneOf r) x = l.lookup x
  | [], r => by
    induction r with
    | nil => rfl
    | cons y r ih => show (if x = y then none else look r (noneOf r) x) = none; split; rfl; exact ih
  | (k, v) :: l, r => by
    show (if x = k then some v else look (l.map (·.1) ++ r) (l.map (fun p => some p.2) ++ noneOf r) x) = _
    rw [List.lookup_cons]
    by_cases h : x = k
    · subst h; simp
    · have : (x == k) = false := by simpa using h
      rw [if_neg h, this]; exact look_init x l r
section
variable {w : World} {A : Around} {E : Value → Shared → Prop} {s : Shared}
/-- a call of a plain def (no cells) whose body raises nothing -/
theorem enter {a : Addr} {body : List Stmt} {args : List Value} {kw : List (Str × Value)} {binds : List (Str × Value)} {rest : List Str} {Q : Value → Shared → Prop} (FA : FnAt w a body) (B : Base w s.heap) (R : Rm A 1)
    (hbind : BindsTo s (fdOf w a) ⟨args, kw⟩ binds) (hcell : ((fdOf w a).scope.names.all fun x => x.2 != .cell) = true) (hloc : (binds.all fun x => (fdOf w a).scope.names.lookup x.1 == some .local) = true) (hnd : (binds.map (·.1)).Nodup)
    (h : ∀ h₁ tk, Own s.heap h₁ [(s.heap.objs.size, locP (binds.map (·.1) ++ rest) (binds.map (fun p => some p.2) ++ noneOf rest))] →
      wpAny (model PR w) (A.deeper (callEnv (fdOf w a) s.heap.objs.size a)) (execs body (callEnv (fdOf w a) s.heap.objs.size a))
        (fun fl s' => Q (match fl with | .ret v => v | _ => .none) s') (fun _ _ => False) { s with heap := h₁, toks := tk }) :
    wpAny (model PR w) A (call (.ref a) args kw) Q E s := by
  obtain ⟨o, ho, hd⟩ := isDef_at FA.isd
  refine wpAny_call (codeAny_call_def (fd := fdOf w a) R.room (B.X _ _ ho) hd B.nolimit (codeRec_of B.X FA.code) FA.body hbind (fun x hx => ?_) (fun x hx => ?_) (fun h₁ hns hk => ?_) FA.co FA.gen FA.kind)
  · have := List.all_eq_true.mp hcell x hx
    simpa using this
  · have := List.all_eq_true.mp hloc x hx
    simpa using this
  · refine wpAny_mono (h h₁ _ ⟨hk, fun p hp => ?_, by simp⟩) (fun fl s' hq => ?_) (fun _ _ hf => hf.elim)
    · rcases List.mem_singleton.mp hp with rfl
      refine ⟨?_, ns_locP hns fun x => ?_⟩
      · cases q : s.heap.get? s.heap.objs.size with
        | none => rfl
        | some o => exact absurd (Heap.lt_size q) (Nat.lt_irrefl _)
      · rw [lookup_rev x _ hnd, look_init]
    · cases fl <;> exact hq
/-- a plain def with its names -/
structure FnOK (w : World) (a : Addr) (body : List Stmt) (nm gl : List Str) : Prop where
  FA : FnAt w a body
  V : ∀ L, EnvOK (callEnv (fdOf w a) L a) L nm [] gl
  cell : ((fdOf w a).scope.names.all fun x => x.2 != .cell) = true
theorem fnOK_of {w : World} {a : Addr} {body : List Stmt} {nm gl : List Str} (FA : FnAt w a body) (h : chk (fdOf w a).scope nm gl = true) (hc : ((fdOf w a).scope.names.all fun x => x.2 != .cell) = true) : FnOK w a body nm gl :=
  ⟨FA, fun L => envOK_of (env := callEnv (fdOf w a) L a) (cn := []) FA.kind h rfl rfl (fun _ hp => nomatch hp) FA.globals FA.builtins FA.gen FA.co, hc⟩
theorem enterF {a : Addr} {body : List Stmt} {nm gl : List Str} {args : List Value} {kw : List (Str × Value)} {Q : Value → Shared → Prop} (F : FnOK w a body nm gl) (B : Base w s.heap) (R : Rm A 1) (binds : List (Str × Value)) (rest : List Str) (vs : List (Option Value))
    (hbind : bindArgs (fdOf w a) ⟨args, kw⟩ = pure binds) (hnm : nm = binds.map (·.1) ++ rest) (hvs : vs = binds.map (fun p => some p.2) ++ noneOf rest)
    (h : ∀ L env s₁, Sm s s₁ → EnvOK env L nm [] gl → Own s.heap s₁.heap [(L, locP nm vs)] → env.frame = some L →
      wpAny (model PR w) (A.deeper env) (execs body env) (fun fl s' => Q (match fl with | .ret v => v | _ => .none) s') (fun _ _ => False) s₁) :
    wpAny (model PR w) A (call (.ref a) args kw) Q E s := by
  subst hnm hvs
  have nd := (F.V 0).nodup
  refine enter (rest := rest) F.FA B R (BindsTo.of_eq hbind) F.cell ?_ ?_ (fun h₁ tk O => h _ _ _ Sm.mk' (F.V _) O rfl)
  · refine List.all_eq_true.mpr fun p hp => ?_
    have : (fdOf w a).scope.names.lookup p.1 = some .local := (F.V 0).loc p.1 (List.mem_append_left _ (List.mem_map_of_mem hp))
    rw [this]; rfl
  · rw [List.nodup_append] at nd; exact nd.1
theorem r_seq {env : Env} {body : List Stmt} {st : Stmt} {rest : List Stmt} {Q : Flow → Shared → Prop} (hb : body = st :: rest)
    (h : wpAny (model PR w) A (exec st env) (fun f s' => match f with | .next => wpAny (model PR w) A (execs rest env) Q E s' | f => Q f s') E s) : wpAny (model PR w) A (execs body env) Q E s := by
  subst hb; exact wpAny_execs_cons h
theorem r_nil {env : Env} {Q : Flow → Shared → Prop} (h : Q .next s) : wpAny (model PR w) A (execs [] env) Q E s := wpAny_execs_nil h
theorem r_call {x : Str} {p pos : Pos} {args : List Expr} {env : Env} {Q : Value → Shared → Prop}
    (h : wpAny (model PR w) A (eval (.Name x p) env) (fun f s₁ => wpAny (model PR w) A (callWith pos f [] (backTo pos (starEach args env)) []) Q E s₁) E s) :
    wpAny (model PR w) A (eval (.Call (.Name x p) args [] pos) env) Q E s := wpAny_Call_NameR h
theorem r_fn {pos : Pos} {a : Addr} {e : Expr} {rest : List Expr} {env : Env} {body : List Stmt} {Q : Value → Shared → Prop} (FA : FnAt w a body) (B : Base w s.heap)
    (h : wpAny (model PR w) A (spliced (backTo pos (starEach (e :: rest) env))) (fun vs s₁ => Base w s₁.heap ∧ wpAny (model PR w) A (call (.ref a) vs) Q E s₁) E s)
    (he : starEach (e :: rest) env = (false, eval e env) :: starEach rest env := by rfl) (hplain : (backTo pos (starEach rest env)).any (·.1) = false := by rfl) :
    wpAny (model PR w) A (callWith pos (.ref a) [] (backTo pos (starEach (e :: rest) env)) []) Q E s :=
  callWith_K (K := KK w) (h₀ := s.heap) B.X FA.keep (wpAny_mono h (fun _ _ h => ⟨h.1.X, h.2⟩) fun _ _ h => h) he hplain
theorem r_bi {pos : Pos} {id : String} {e : Expr} {rest : List Expr} {env : Env} {Q : Value → Shared → Prop}
    (h : wpAny (model PR w) A (spliced (backTo pos (starEach (e :: rest) env))) (fun vs s₁ => wpAny (model PR w) A (call (.builtin id) vs) Q E s₁) E s)
    (he : starEach (e :: rest) env = (false, eval e env) :: starEach rest env := by rfl) (hplain : (backTo pos (starEach rest env)).any (·.1) = false := by rfl) :
    wpAny (model PR w) A (callWith pos (.builtin id) [] (backTo pos (starEach (e :: rest) env)) []) Q E s := by
  rw [he] at h ⊢
  exact callWith_builtin (by show (false || (backTo pos (starEach rest env)).any (·.1)) = false; rw [hplain]; rfl) (evalArgs_plain h)
theorem r_ty {pos : Pos} {T : String} {e : Expr} {rest : List Expr} {env : Env} {Q : Value → Shared → Prop}
    (h : wpAny (model PR w) A (spliced (backTo pos (starEach (e :: rest) env))) (fun vs s₁ => wpAny (model PR w) A (call (.type T) vs) Q E s₁) E s)
    (he : starEach (e :: rest) env = (false, eval e env) :: starEach rest env := by rfl) (hplain : (backTo pos (starEach rest env)).any (·.1) = false := by rfl) :
    wpAny (model PR w) A (callWith pos (.type T) [] (backTo pos (starEach (e :: rest) env)) []) Q E s := by
  rw [he] at h ⊢
  exact PySem.callWith_type (by show (false || (backTo pos (starEach rest env)).any (·.1)) = false; rw [hplain]; rfl) (evalArgs_plain h)
theorem r_arg {pos : Pos} {e : Expr} {rest : List Expr} {env : Env} {Q : List Value → Shared → Prop}
    (h : wpAny (model PR w) A (eval e env) (fun v s₁ => wpAny (model PR w) A (spliced (backTo pos (starEach rest env))) (fun vs s₂ => Q (v :: vs) s₂) E s₁) E s)
    (he : starEach (e :: rest) env = (false, eval e env) :: starEach rest env := by rfl) :
    wpAny (model PR w) A (spliced (backTo pos (starEach (e :: rest) env))) Q E s := by
  rw [he]; exact spliced_cons h
theorem r_args {pos : Pos} {env : Env} {Q : List Value → Shared → Prop} (h : Q [] s) : wpAny (model PR w) A (spliced (backTo pos (starEach [] env))) Q E s := spliced_nil h
end
end
section
section
variable {w : World} {A : Around} {E : Value → Shared → Prop} {s : Shared} {h₀ : Heap} {Φ Φ' : List Cell}
/-! ## objects -/
noncomputable def tupP (vs : List Value) : Obj → Prop := fun o => o = { cls := .type "tuple", data := .seq vs.toArray }
noncomputable def lstP (vs : List Value) : Obj → Prop := fun o => ∃ n, o = { cls := .type "list", data := .seq vs.toArray n }
theorem lstP.is {h : Heap} {a : Addr} {vs : List Value} (H : ∃ o, h.get? a = some o ∧ lstP vs o) : h.IsList a vs.toArray := by
  obtain ⟨o, e, n, rfl⟩ := H; exact ⟨_, e, rfl, n, rfl⟩
theorem tupP.is {h : Heap} {a : Addr} {vs : List Value} (H : ∃ o, h.get? a = some o ∧ tupP vs o) : h.IsTuple a vs.toArray := by
  obtain ⟨o, e, rfl⟩ := H; exact ⟨_, e, rfl, 0, rfl⟩
theorem Own.isList {h : Heap} {a : Addr} {vs : List Value} (O : Own h₀ h Φ) (hm : (a, lstP vs) ∈ Φ) : h.IsList a vs.toArray := lstP.is (O.get hm)
theorem Own.isTuple {h : Heap} {a : Addr} {vs : List Value} (O : Own h₀ h Φ) (hm : (a, tupP vs) ∈ Φ) : h.IsTuple a vs.toArray := tupP.is (O.get hm)
theorem own_push {h : Heap} {P : Obj → Prop} {o : Obj} {G : Addr → Heap → Prop} (O : Own h₀ h Φ) (hP : P o) (hf : o.isFreed = false) (hG : ∀ a h', h.get? a = none → Kp h h' → Own h₀ h' ((a, P) :: Φ) → G a h') : G h.objs.size (h.push o) := by
  have hn : h.get? h.objs.size = none := by
    cases q : h.get? h.objs.size with
    | none => rfl
    | some o' => exact absurd (Heap.lt_size q) (Nat.lt_irrefl _)
  have k : Kp h (h.push o) := fun _ _ e => Heap.get?_push_of_some o e
  exact hG _ _ hn k (O.new k (New.one hn ⟨o, Heap.get?_push_size _ hf, hP⟩))
theorem r_newTup {vs : List Value} {Q : Value → Shared → Prop} (O : Own h₀ s.heap Φ) (h : ∀ a s', Sm s s' → s.heap.get? a = none → Kp s.heap s'.heap → Own h₀ s'.heap ((a, tupP vs) :: Φ) → Q (.ref a) s') (hl : Nat.ble vs.length 100000 = true := by rfl) :
    wpAny (model PR w) A (newTuple vs) Q E s :=
  wpAny_newTuple (own_push (P := tupP vs) (G := fun a h' => Q (.ref a) { s with heap := h' }) O rfl rfl fun a h' => h a _ Sm.mk') (by have := Nat.le_of_ble_eq_true hl; rw [sizeLine_eq]; lia)
theorem r_newLst {vs : List Value} {Q : Value → Shared → Prop} (O : Own h₀ s.heap Φ) (h : ∀ a s', Sm s s' → s.heap.get? a = none → Kp s.heap s'.heap → Own h₀ s'.heap ((a, lstP vs) :: Φ) → Q (.ref a) s') (hl : Nat.ble vs.length 100000 = true := by rfl) :
    wpAny (model PR w) A (newList vs) Q E s :=
  wpAny_newList (own_push (P := lstP vs) (G := fun a h' => Q (.ref a) { s with heap := h' }) O ⟨0, rfl⟩ rfl fun a h' => h a _ Sm.mk') (by have := Nat.le_of_ble_eq_true hl; rw [sizeLine_eq]; lia)
/-! ## calls of methods of built-in types -/
theorem r_bim {pos : Pos} {id : String} {ov : Value} {e : Expr} {rest : List Expr} {env : Env} {Q : Value → Shared → Prop}
    (h : wpAny (model PR w) A (spliced (backTo pos (starEach (e :: rest) env))) (fun vs s₁ => wpAny (model PR w) A (call (.builtin id) (ov :: vs)) Q E s₁) E s)
    (he : starEach (e :: rest) env = (false, eval e env) :: starEach rest env := by rfl) (hplain : (backTo pos (starEach rest env)).any (·.1) = false := by rfl) :
    wpAny (model PR w) A (callWith pos (.builtin id) [ov] (backTo pos (starEach (e :: rest) env)) []) Q E s := by
  rw [he] at h ⊢
  exact callWith_builtin (by show (false || (backTo pos (starEach rest env)).any (·.1)) = false; rw [hplain]; rfl) (evalArgs_plain h)
theorem r_meth {o e : Expr} {rest : List Expr} {name : Str} {apos pos : Pos} {T id : String} {env : Env} {Q : Value → Shared → Prop} (pa : PlainAttrs T) (slot : Slot T name id) (hty : typeOf (.builtin id) = pure (.type "method_descriptor"))
    (h : wpAny (model PR w) A (eval o env) (fun ov s₁ => (s₁.TypeIs ov T ∧ ∀ a, ov = .ref a → ∃ ob, s₁.heap.get? a = some ob ∧ ob.dict = none) ∧
      wpAny (model PR w) A (spliced (backTo pos (starEach (e :: rest) env))) (fun vs s₂ => wpAny (model PR w) A (call (.builtin id) (ov :: vs)) Q E s₂) E s₁) E s)
    (hbase : attributeBase o name env (eval o env) = eval o env := by rfl)
    (hfew : ((backTo pos (starEach (e :: rest) env)).all (fun x => !x.1) && (backToKw pos (keywordEach [] env)).all (fun x => x.1.isSome)
      && decide ((e :: rest).length + ([] : List Keyword).length + (if ([] : List Keyword).isEmpty then 0 else 1) < 30)) = true := by rfl)
    (hline : (apos.endLine == pos.line) = true := by rfl)
    (he : starEach (e :: rest) env = (false, eval e env) :: starEach rest env := by rfl) (hplain : (backTo pos (starEach rest env)).any (·.1) = false := by rfl) :
    wpAny (model PR w) A (eval (.Call (.Attribute o name apos) (e :: rest) [] pos) env) Q E s :=
  wpAny_Call_method hbase hfew hline pa slot hty (wpAny_mono h (fun ov s₁ h₁ => ⟨h₁.1.1, h₁.1.2, r_bim h₁.2 he hplain⟩) fun _ _ x => x)
theorem r_meth0 {o : Expr} {name : Str} {apos pos : Pos} {T id : String} {env : Env} {Q : Value → Shared → Prop} (pa : PlainAttrs T) (slot : Slot T name id) (hty : typeOf (.builtin id) = pure (.type "method_descriptor"))
    (h : wpAny (model PR w) A (eval o env) (fun ov s₁ => (s₁.TypeIs ov T ∧ ∀ a, ov = .ref a → ∃ ob, s₁.heap.get? a = some ob ∧ ob.dict = none) ∧
      wpAny (model PR w) A (call (.builtin id) [ov]) Q E s₁) E s)
    (hbase : attributeBase o name env (eval o env) = eval o env := by rfl)
    (hline : (apos.endLine == pos.line) = true := by rfl) :
    wpAny (model PR w) A (eval (.Call (.Attribute o name apos) [] [] pos) env) Q E s :=
  wpAny_Call_method hbase rfl hline pa slot hty (wpAny_mono h (fun ov s₁ h₁ => ⟨h₁.1.1, h₁.1.2, callWith_builtin rfl (PySem.evalArgs_none h₁.2)⟩) fun _ _ x => x)
theorem str_here {s : Shared} {x : Str} {t : Tok} : s.TypeIs (.str x t) "str" ∧ ∀ a, Value.str x t = .ref a → ∃ ob, s.heap.get? a = some ob ∧ ob.dict = none := ⟨typeIs_str _ _ _, fun _ e => nomatch e⟩
theorem Own.lstHere {a : Addr} {vs : List Value} (O : Own h₀ s.heap Φ) (hm : (a, lstP vs) ∈ Φ) : s.TypeIs (.ref a) "list" ∧ ∀ b, Value.ref a = .ref b → ∃ ob, s.heap.get? b = some ob ∧ ob.dict = none := by
  obtain ⟨o, e, n, rfl⟩ := O.get hm
  exact ⟨⟨_, e, rfl⟩, fun b eb => by cases eb; exact ⟨_, e, rfl⟩⟩
/-! ## tests -/
theorem truth_bool {b : Bool} {Q : Bool → Shared → Prop} (h : Q b s) : wpAny (model PR w) A (truthy (.bool b)) Q E s := fun _ _ _ => h
end
end
section
section
variable {w : World} {A : Around} {E : Value → Shared → Prop} {s : Shared} {h₀ : Heap} {Φ Φ' : List Cell} {env : Env} {L : Addr} {nm : List Str} {vs vs' vs'' vs₃ : List (Option Value)} {cl : List (Str × Addr)} {gl : List Str}
theorem Own.kept (h₀ : Heap) (Φ : List Cell) : KeptH (fun h => Own h₀ h Φ) := fun _ ob O => O.kp fun _ _ e => Heap.get?_push_of_some ob e
theorem r_gen {α : Type} {t : Sem α} {Q : α → Shared → Prop} (O : Own h₀ s.heap Φ) (h : ∀ s', Sm s s' → Own h₀ s'.heap Φ → wpAny (model PR w) A t Q E s') : wpAny (model PR w) A t Q E s := h _ Sm.rfl O
theorem truth_str {x : Str} {t : Tok} {Q : Bool → Shared → Prop} (hx : x.length ≤ 100000) (h : ∀ tk, Q (decide (x.length ≠ 0)) { s with toks := tk }) : wpAny (model PR w) A (truthy (.str x t)) Q E s := by
  refine P.truthy_str (by lia) ?_
  have e : ((x.length : Int) != 0) = decide (x.length ≠ 0) := by
    by_cases h : x.length = 0
    · rw [h]; rfl
    · rw [decide_eq_true h]; simp [h]
  rw [e]; exact h _
/-! ## slices of texts -/
theorem r_ss_ns {value slice : Expr} {x : Str} {t uj : Tok} {j : Int} {Q : Value → Shared → Prop} (O : Own h₀ s.heap Φ) (hl : x.length ≤ 100000) (h : ∀ t' s', Sm s s' → Own h₀ s'.heap Φ → Q (.str (Txt.slice x none (some j)) t') s')
    (hs : subscripted slice false (.str x t) (.ref s.heap.objs.size) = operate [.ref s.heap.objs.size, .str x t] (getItem (.str x t) (.ref s.heap.objs.size)) := by with_unfolding_all rfl)
    (ht : ∀ r, letTemporaryGo value (.str x t) r = pure () := by intro _; with_unfolding_all rfl) :
    wpAny (model PR w) A (subscriptTail value slice (.str x t) (.ref s.heap.objs.size)) Q E { s with heap := s.heap.push { cls := .type "slice", data := .fields #[.none, .int j uj, .none] } } :=
  tail_of_ItemOn (SBH.sliceItem_ns (Own.kept h₀ Φ) O (fun h' t' k a => h t' _ Sm.mk' a) (by rw [sizeLine_eq]; lia)) hs ht
theorem r_ss_sn {value slice : Expr} {x : Str} {t uj : Tok} {j : Int} {Q : Value → Shared → Prop} (O : Own h₀ s.heap Φ) (hl : x.length ≤ 100000) (h : ∀ t' s', Sm s s' → Own h₀ s'.heap Φ → Q (.str (Txt.slice x (some j) none) t') s')
    (hs : subscripted slice false (.str x t) (.ref s.heap.objs.size) = operate [.ref s.heap.objs.size, .str x t] (getItem (.str x t) (.ref s.heap.objs.size)) := by with_unfolding_all rfl)
    (ht : ∀ r, letTemporaryGo value (.str x t) r = pure () := by intro _; with_unfolding_all rfl) :
    wpAny (model PR w) A (subscriptTail value slice (.str x t) (.ref s.heap.objs.size)) Q E { s with heap := s.heap.push { cls := .type "slice", data := .fields #[.int j uj, .none, .none] } } :=
  tail_of_ItemOn (SBH.sliceItem_sn (Own.kept h₀ Φ) O (fun h' t' k a => h t' _ Sm.mk' a) (by rw [sizeLine_eq]; lia)) hs ht
theorem r_part_none {Q : Value → Shared → Prop} (h : Q .none s) : wpAny (model PR w) A (evalPart none env) Q E s := wpAny_pure h
theorem r_part {e : Expr} {Q : Value → Shared → Prop} (h : wpAny (model PR w) A (eval e env) Q E s) : wpAny (model PR w) A (evalPart (some e) env) Q E s := h
theorem txt_slice_le (x : Str) (l u : Option Int) : (Txt.slice x l u).length ≤ x.length := by
  unfold Txt.slice
  split
  · exact Nat.le_refl _
  · have h1 := sliceIndices_le l u x.length
    have h2 := List.length_filterMap_le (fun i => x.cps[i]?) (Builtin.Str.strSliceIndices l u 1 x.length)
    show (List.toArray _).size ≤ _
    rw [List.size_toArray]
    exact Nat.le_trans h2 h1
/-! ## stores to several names at once -/
noncomputable def notStar : Expr → Bool
  | .Starred .. => false
  | _ => true
theorem eraseDups2 {a b : Str} (h : a ≠ b) : [a, b].eraseDups.length = 2 := by
  have : (b == a) = false := by simpa using Ne.symm h
  simp [List.eraseDups_cons, this]
theorem sw2 {a b : Str} {pa pb tpos vpos : Pos} {k k' : Nat} {e₁ e₂ : Expr} (V : EnvOK env L nm cl gl) (ha : a ∈ nm) (hb : b ∈ nm) (hab : a ≠ b) (hl : pb.line = pa.line)
    (h01 : notStar e₁ = true) (h02 : notStar e₂ = true) (h1 : [e₁, e₂].all (foldedForSure 8) = false) (h2 : [e₁, e₂].all (constantsAlone 8) = false) :
    swappedStores [.Tuple [.Name a pa, .Name b pb] k tpos] (.Tuple [e₁, e₂] k' vpos) env = pure (some [a, b]) := by
  have k1 : env.blockKind = .function := by unfold Env.blockKind; rw [V.kind]; rfl
  have ka := V.loc a ha
  have kb := V.loc b hb
  have ee := eraseDups2 hab
  have h12 : (foldedForSure 8 e₁ && foldedForSure 8 e₂) = false := by simpa using h1
  have h22 : (constantsAlone 8 e₁ && constantsAlone 8 e₂) = false := by simpa using h2
  have hp : (Expr.Name a pa).pos.line = pa.line := rfl
  have hany : ∀ (f : Expr → Bool), f e₁ = false → f e₂ = false → [e₁, e₂].any f = false := fun f a b => by simp [a, b]
  unfold swappedStores
  dsimp only
  rw [hany _ (by cases e₁ <;> first | rfl | cases h01) (by cases e₂ <;> first | rfl | cases h02)]
  simp -iota only [List.length_cons, List.length_nil, k1, List.filterMap_cons, List.filterMap_nil, ka, kb, hl, hp, List.head?_cons, Option.map_some, Option.getD_some, beq_self_eq_true, Bool.and_self, if_true, ee, List.all_cons, List.all_nil, Bool.and_true, h12, h22]; dsimp only; simp -iota only [List.length_cons, List.length_nil, k1, List.filterMap_cons, List.filterMap_nil, ka, kb, hl, hp, List.head?_cons, Option.map_some, Option.getD_some, beq_self_eq_true, Bool.and_self, if_true, ee, List.all_cons, List.all_nil, Bool.and_true, h12, h22]; dsimp only; simp -iota only [ee]
  rfl
theorem r_swap2 {a b : Str} {pa pb tpos vpos pos : Pos} {k k' : Nat} {e₁ e₂ : Expr} {Q : Flow → Shared → Prop} (V : EnvOK env L nm cl gl) (ha : a ∈ nm) (hb : b ∈ nm) (R : Rm A 0)
    (h : wpAny (model PR w) A (eval (.Tuple [e₁, e₂] k' vpos) env) (fun v s₁ => ∃ t x y h₀ Φ, v = .ref t ∧ Own h₀ s₁.heap Φ ∧ (t, tupP [x, y]) ∈ Φ ∧ ∀ s', Sm s₁ s' → Own h₀ s'.heap Φ →
      wpAny (model PR w) A (storeName env b y) (fun _ s₂ => wpAny (model PR w) A (storeName env a x) (fun _ => Q .next) E s₂) E s') E s)
    (hab : a ≠ b := by decide) (hl : pb.line = pa.line := by rfl) (h01 : notStar e₁ = true := by rfl) (h02 : notStar e₂ = true := by rfl) (h1 : [e₁, e₂].all (foldedForSure 8) = false := by rfl) (h2 : [e₁, e₂].all (constantsAlone 8) = false := by rfl) :
    wpAny (model PR w) A (exec (.Assign [.Tuple [.Name a pa, .Name b pb] k tpos] (.Tuple [e₁, e₂] k' vpos) pos) env) Q E s := by
  refine Assign_Tuple_swapped (names := [a, b]) (wpAny_mono h (fun v s₁ h₁ => ?_) fun _ _ x => x) rfl (sw2 V ha hb hab hl h01 h02 h1 h2)
  obtain ⟨t, x, y, h₀, Φ, rfl, O, hm, h₁⟩ := h₁
  refine wpAny_unpackItems_tuple (items := #[x, y]) R.hd (O.isTuple hm) (fun h' hx => ?_)
  have hn : s₁.heap.get? s₁.heap.objs.size = none := by
    cases q : s₁.heap.get? s₁.heap.objs.size with
    | none => rfl
    | some o' => exact absurd (Heap.lt_size q) (Nat.lt_irrefl _)
  have k : Kp s₁.heap h' := fun b o e => hx b o (fun q => by rw [q, hn] at e; cases e) e
  refine wpAny_assignInOrder_more (wpAny_bindName (wpAny_mono (h₁ _ Sm.mk' (O.kp k)) (fun _ s₂ h₂ => ?_) fun _ _ x => x))
  exact wpAny_assignInOrder_more (wpAny_bindName (wpAny_mono h₂ (fun _ s₃ h₃ => wpAny_assignInOrder_none h₃) fun _ _ x => x))
end
end
section
section
variable {w : World} {A : Around} {E : Value → Shared → Prop} {s : Shared} {h₀ : Heap} {Φ Φ' : List Cell} {env : Env} {L : Addr} {nm : List Str} {vs vs' : List (Option Value)} {cl : List (Str × Addr)} {gl : List Str}
/-! ## choosing cells -/
theorem Sel.perm {p r r'} (x : Sel p r r') : r.Perm (p :: r') := by
  induction x with
  | head => exact List.Perm.refl _
  | @tail q r r' _ ih => exact (ih.cons q).trans (List.Perm.swap p q r')
theorem Own.pick {h : Heap} (O : Own h₀ h Φ) (x : Pick Φ Φ') : Own h₀ h Φ' := by
  have key : ∃ Ψ, Φ.Perm Ψ ∧ Φ'.Sublist Ψ := by
    clear O
    induction x with
    | refl => exact ⟨_, List.Perm.refl _, List.Sublist.refl _⟩
    | nil => exact ⟨_, List.Perm.refl _, List.nil_sublist _⟩
    | take a _ ih =>
      obtain ⟨Ψ, p1, p2⟩ := ih
      exact ⟨_, a.perm.trans (p1.cons _), p2.cons₂ _⟩
    | drop _ ih =>
      obtain ⟨Ψ, p1, p2⟩ := ih
      exact ⟨_, p1.cons _, p2.cons _⟩
  obtain ⟨Ψ, p1, p2⟩ := key
  exact (O.perm p1).sub p2
/-- stands in the base or among the cells -/
inductive Has (h₀ : Heap) (Φ : List Cell) (a : Addr) (P : Obj → Prop) : Prop
  | base : (∃ o, h₀.get? a = some o ∧ P o) → Has h₀ Φ a P
  | cell : (a, P) ∈ Φ → Has h₀ Φ a P
theorem Has.get {h : Heap} {a : Addr} {P : Obj → Prop} (H : Has h₀ Φ a P) (O : Own h₀ h Φ) : ∃ o, h.get? a = some o ∧ P o := by
  cases H with
  | base H => obtain ⟨o, e, p⟩ := H; exact ⟨o, O.keep _ _ e, p⟩
  | cell H => exact O.get H
theorem Has.mono {a : Addr} {P : Obj → Prop} (H : Has h₀ Φ a P) (hs : ∀ p ∈ Φ, p ∈ Φ') : Has h₀ Φ' a P := by
  cases H with
  | base H => exact .base H
  | cell H => exact .cell (hs _ H)
/-! ## iterators -/
structure IterOK (w : World) (A : Around) (h₀ : Heap) (I : Addr) (n : Nat) (own : Nat → List Cell) (Nd : List Cell → Prop) (Y : Nat → Value → List Cell → Prop) : Prop where
  item : ∀ (i : Nat) (s : Shared) (Φ : List Cell) (Q : Option Value → Shared → Prop) (E : Value → Shared → Prop), i < n → Own h₀ s.heap (own i ++ Φ) → Nd Φ →
    (∀ v Ψ s', Y i v Ψ → Sm s s' → Own h₀ s'.heap (own (i + 1) ++ (Ψ ++ Φ)) → Q (some v) s') → wpAny (model PR w) A (pyNext (.ref I)) Q E s
  done : ∀ (s : Shared) (Φ : List Cell) (Q : Option Value → Shared → Prop) (E : Value → Shared → Prop), Own h₀ s.heap (own n ++ Φ) → Nd Φ →
    (∀ s', Sm s s' → Own h₀ s'.heap Φ → Q none s') → wpAny (model PR w) A (pyNext (.ref I)) Q E s
noncomputable def litP (l : Addr) (i : Nat) : Obj → Prop := fun o => o.cls = .type "list_iterator" ∧ o.data = .fields #[.ref l, .int i 0]
noncomputable def titP (l : Addr) (i : Nat) : Obj → Prop := fun o => o.cls = .type "tuple_iterator" ∧ o.data = .fields #[.ref l, .int i 0]
theorem litP.is {h : Heap} {I l : Addr} {i : Nat} (H : ∃ o, h.get? I = some o ∧ litP l i o) : h.IsListIter I l i := let ⟨o, e, a, b⟩ := H; ⟨o, e, a, b⟩
theorem titP.is {h : Heap} {I l : Addr} {i : Nat} (H : ∃ o, h.get? I = some o ∧ titP l i o) : h.IsTupleIter I l i := let ⟨o, e, a, b⟩ := H; ⟨o, e, a, b⟩
theorem iter_list {I l : Addr} {xs : List Value} (hh : A.handled = none) : IterOK w A h₀ I xs.length (fun i => [(I, litP l i)]) (fun Φ => Has h₀ Φ l (lstP xs)) (fun i v Ψ => xs[i]? = some v ∧ Ψ = []) where
  item := fun i s Φ Q E hi O Nd h => by
    have hl := lstP.is ((Nd.mono (Φ' := [(I, litP l i)] ++ Φ) fun p hp => List.mem_append_right _ hp).get O)
    refine wpAny_pyNext_list_item (litP.is (O.get (List.mem_cons_self))) hl (x := xs[i]) (by simp [hi]) fun h' hit hs => ?_
    refine h _ [] _ ⟨by simp [hi], rfl⟩ Sm.mk' ?_
    obtain ⟨o, e, a, b⟩ := hit
    exact O.upd (c := I) (P' := litP l (i + 1)) Upd.head hs ⟨o, e, a, b⟩
  done := fun s Φ Q E O Nd h => by
    have hl := lstP.is ((Nd.mono (Φ' := [(I, litP l xs.length)] ++ Φ) fun p hp => List.mem_append_right _ hp).get O)
    exact wpAny_pyNext_list_end hh (litP.is (O.get (List.mem_cons_self))) hl (by simp) fun h' hs => h _ Sm.mk' (Own.lose O hs)
theorem iter_tuple {I l : Addr} {xs : List Value} (hh : A.handled = none) : IterOK w A h₀ I xs.length (fun i => [(I, titP l i)]) (fun Φ => Has h₀ Φ l (tupP xs)) (fun i v Ψ => xs[i]? = some v ∧ Ψ = []) where
  item := fun i s Φ Q E hi O Nd h => by
    have hl := tupP.is ((Nd.mono (Φ' := [(I, titP l i)] ++ Φ) fun p hp => List.mem_append_right _ hp).get O)
    refine wpAny_pyNext_tuple_item (titP.is (O.get (List.mem_cons_self))) hl (x := xs[i]) (by simp [hi]) fun h' hit hs => ?_
    refine h _ [] _ ⟨by simp [hi], rfl⟩ Sm.mk' ?_
    obtain ⟨o, e, a, b⟩ := hit
    exact O.upd (c := I) (P' := titP l (i + 1)) Upd.head hs ⟨o, e, a, b⟩
  done := fun s Φ Q E O Nd h => by
    have hl := tupP.is ((Nd.mono (Φ' := [(I, titP l xs.length)] ++ Φ) fun p hp => List.mem_append_right _ hp).get O)
    exact wpAny_pyNext_tuple_end hh (titP.is (O.get (List.mem_cons_self))) hl (by simp) fun h' hs => h _ Sm.mk' (Own.lose O hs)
noncomputable def ritP (x left step : Int) : Obj → Prop := fun o => o = { cls := .type "range_iterator", dict := none, data := .fields #[rawInt x, rawInt left, rawInt step], slots := #[] }
theorem iter_range {I : Addr} {a : Int} {n : Nat} (hh : A.handled = none) : IterOK w A h₀ I n (fun i => [(I, ritP (a + i) ((n : Int) - i) 1)]) (fun _ => True) (fun i v Ψ => (∃ t, v = .int (a + i) t) ∧ Ψ = []) where
  item := fun i s Φ Q E hi O Nd h => by
    obtain ⟨o, e, rfl⟩ := O.get (List.mem_cons_self)
    refine wpAny_pyNext_range_item e (by lia) fun h' hit hs => ?_
    refine h _ [] _ ⟨⟨_, rfl⟩, rfl⟩ Sm.mk' ?_
    refine O.upd (c := I) (P' := ritP (a + (i + 1 : Nat)) ((n : Int) - (i + 1 : Nat)) 1) Upd.head hs ⟨_, hit, ?_⟩
    have h1 : a + ((i + 1 : Nat) : Int) = a + i + 1 := by lia
    have h2 : (n : Int) - ((i + 1 : Nat) : Int) = n - i - 1 := by lia
    unfold ritP
    rw [h1, h2]
  done := fun s Φ Q E O Nd h => by
    obtain ⟨o, e, rfl⟩ := O.get (List.mem_cons_self)
    exact wpAny_pyNext_range_end hh e (by lia) fun h' hs => h _ Sm.mk' (Own.lose O hs)
/-! ## for -/
theorem r_forG {target : Expr} {body : List Stmt} {I : Addr} {n : Nat} {own : Nat → List Cell} {Nd : List Cell → Prop} {Y : Nat → Value → List Cell → Prop} {Q : Flow → Shared → Prop} (hh : A.handled = none) (W : IterOK w A h₀ I n own Nd Y)
    (J : Nat → List Cell → Prop) (O : Own h₀ s.heap (own 0 ++ Φ)) (hJ : J 0 Φ) (hN : ∀ i Φ, i ≤ n → J i Φ → Nd Φ)
    (turn : ∀ i v Ψ Φ s₁, i < n → J i Φ → Y i v Ψ → Sm s s₁ → Own h₀ s₁.heap (own (i + 1) ++ (Ψ ++ Φ)) →
      wpAny (model PR w) A (letOwnedTupleGo target (.ref I) v) (fun _ s₁' => wpAny (model PR w) A (assign target env v) (fun _ s₂ => wpAny (model PR w) A (execs body env) (fun f s₃ => match f with
        | .next | .cont => ∃ Φ', Sm s s₃ ∧ Own h₀ s₃.heap (own (i + 1) ++ Φ') ∧ J (i + 1) Φ'
        | .brk => Q .next s₃
        | .ret v => Q (.ret v) s₃) (fun _ _ => False) s₂) (fun _ _ => False) s₁') (fun _ _ => False) s₁)
    (done : ∀ Φ s₁, J n Φ → Sm s s₁ → Own h₀ s₁.heap Φ → Q .next s₁) {R : Result → Shared → Prop} (hR : ∀ f s', Q f s' → R (.ok f) s') :
    codeAny (model PR w) A (.forLoop target (.ref I) body [] env) R s := by
  refine codeAny_forLoop_any (fun k s' => ∃ i Φ', k = n - i ∧ i ≤ n ∧ Sm s s' ∧ Own h₀ s'.heap (own i ++ Φ') ∧ J i Φ') ?_ n ⟨0, Φ, rfl, Nat.zero_le _, Sm.rfl, O, hJ⟩
  intro k s' jy0
  refine ex2 jy0 fun i Φ' jx0 => an5 jx0 fun jr00 hi e O' hJ' => ?_
  clear jx0 jy0
  subst jr00
  by_cases hlt : i < n
  · refine W.item i s' Φ' _ _ hlt O' (hN i Φ' hi hJ') fun v Ψ s₁ y e₁ O₁ => ?_
    have t := turn i v Ψ Φ' s₁ hlt hJ' y (e.tr e₁) O₁
    refine wpAny_mono t (fun _ s₁' h1 => wpAny_mono h1 (fun _ s₂ h2 => wpAny_mono h2 (fun f s₃ h3 => ?_) fun _ _ x => x.elim) fun _ _ x => x.elim) fun _ _ x => x.elim
    cases f with
    | next => obtain ⟨Φ'', e3, O3, j3⟩ := h3; exact ⟨n - (i + 1), by lia, i + 1, Φ'', rfl, hlt, e3, O3, j3⟩
    | cont => obtain ⟨Φ'', e3, O3, j3⟩ := h3; exact ⟨n - (i + 1), by lia, i + 1, Φ'', rfl, hlt, e3, O3, j3⟩
    | brk => exact hR _ _ h3
    | ret v => exact hR _ _ h3
  · have : i = n := by lia
    subst this
    exact W.done s' Φ' _ _ O' (hN i Φ' hi hJ') fun s₁ e₁ O₁ => wpAny_execs_nil (hR _ _ (done Φ' s₁ hJ' (e.tr e₁) O₁))
end
end
section
section
variable {w : World} {A : Around} {E : Value → Shared → Prop} {s : Shared} {h₀ : Heap} {Φ Φ' : List Cell} {env : Env} {L : Addr} {nm : List Str} {vs vs' : List (Option Value)} {cl : List (Str × Addr)} {gl : List Str}
/-- what a turn of a loop leaves behind -/
noncomputable def Turn (h₀ : Heap) (s : Shared) (K : List Cell) (J : List Cell → Prop) (Q : Flow → Shared → Prop) (f : Flow) (s₃ : Shared) : Prop := match f with
  | .next | .cont => ∃ Φ', Sm s s₃ ∧ Own h₀ s₃.heap (K ++ Φ') ∧ J Φ'
  | .brk => Q .next s₃
  | .ret v => Q (.ret v) s₃
theorem Turn.next {K : List Cell} {J : List Cell → Prop} {Q : Flow → Shared → Prop} {s₃ : Shared} (Φ' : List Cell) (e : Sm s s₃) (O : Own h₀ s₃.heap (K ++ Φ')) (j : J Φ') : Turn h₀ s K J Q .next s₃ := ⟨Φ', e, O, j⟩
theorem Turn.cont {K : List Cell} {J : List Cell → Prop} {Q : Flow → Shared → Prop} {s₃ : Shared} (Φ' : List Cell) (e : Sm s s₃) (O : Own h₀ s₃.heap (K ++ Φ')) (j : J Φ') : Turn h₀ s K J Q .cont s₃ := ⟨Φ', e, O, j⟩
theorem Turn.base {s' : Shared} {K : List Cell} {J : List Cell → Prop} {Q : Flow → Shared → Prop} {f : Flow} {s₃ : Shared} (hs : ∀ s₃, Sm s s₃ → Sm s' s₃) (t : Turn h₀ s K J Q f s₃) : Turn h₀ s' K J Q f s₃ := by
  cases f with
  | next => obtain ⟨Φ', e, r⟩ := t; exact ⟨Φ', hs _ e, r⟩
  | cont => obtain ⟨Φ', e, r⟩ := t; exact ⟨Φ', hs _ e, r⟩
  | brk => exact t
  | ret v => exact t
theorem loop_name {x : Str} {px : Pos} {body : List Stmt} {I : Addr} {n : Nat} {own : Nat → Obj → Prop} {Nd : List Cell → Prop} {Y : Nat → Value → List Cell → Prop} {Q : Flow → Shared → Prop} (hh : A.handled = none) (W : IterOK w A h₀ I n (fun i => [(I, own i)]) Nd (fun i v Ψ => Y i v Ψ))
    (J : Nat → List Cell → Prop) (O : Own h₀ s.heap ((I, own 0) :: Φ)) (hJ : J 0 Φ) (hN : ∀ i Φ, i ≤ n → J i Φ → Nd Φ)
    (turn : ∀ i v Ψ Φ s₁ P, i < n → J i Φ → Y i v Ψ → Sm s s₁ → Own h₀ s₁.heap ((I, P) :: (Ψ ++ Φ)) →
      wpAny (model PR w) A (storeName env x v) (fun _ s₂ => wpAny (model PR w) A (execs body env) (Turn h₀ s [(I, P)] (J (i + 1)) Q) (fun _ _ => False) s₂) (fun _ _ => False) s₁)
    (done : ∀ Φ s₁, J n Φ → Sm s s₁ → Own h₀ s₁.heap Φ → Q .next s₁) :
    codeAny (model PR w) A (.forLoop (.Name x px) (.ref I) body [] env) (fun r s' => match r with | .ok f => Q f s' | .error e => cameBackBy (model PR w) A env E e s') s := by
  refine r_forG (Q := Q) hh W J O hJ hN (fun i v Ψ Φ s₁ hi j y e O₁ => ?_) done (fun f s' q => q)
  show wpAny _ _ (pure ()) _ _ _
  refine wpAny_pure (PyProof.Rows.assign_Name (wpAny_mono (turn i v Ψ Φ s₁ (own (i + 1)) hi j y e O₁) (fun _ s₂ h2 => wpAny_mono h2 (fun f s₃ h3 => ?_) fun _ _ x => x) fun _ _ x => x))
  cases f <;> exact h3
theorem r_for_list {x : Str} {px : Pos} {body : List Stmt} {l : Addr} {xs : List Value} {Q : Flow → Shared → Prop} (hh : A.handled = none)
    (J : Nat → List Cell → Prop) (O : Own h₀ s.heap Φ) (hJ : J 0 Φ) (hN : ∀ i Φ, i ≤ xs.length → J i Φ → Has h₀ Φ l (lstP xs))
    (turn : ∀ i v Φ s₁ I P, xs[i]? = some v → J i Φ → Sm s s₁ → Own h₀ s₁.heap ((I, P) :: Φ) →
      wpAny (model PR w) A (storeName env x v) (fun _ s₂ => wpAny (model PR w) A (execs body env) (Turn h₀ s [(I, P)] (J (i + 1)) Q) (fun _ _ => False) s₂) (fun _ _ => False) s₁)
    (done : ∀ Φ s₁, J xs.length Φ → Sm s s₁ → Own h₀ s₁.heap Φ → Q .next s₁) :
    wpAny (model PR w) A (pyIter (.ref l)) (fun it s₂ => codeAny (model PR w) A (.forLoop (.Name x px) it body [] env) (fun r s' => match r with | .ok f => Q f s' | .error e => cameBackBy (model PR w) A env E e s') s₂) E s := by
  refine wpAny_pyIter_list (lstP.is ((hN 0 Φ (Nat.zero_le _) hJ).get O)) ?_
  refine own_push (P := litP l 0) (G := fun a h' => codeAny (model PR w) A (.forLoop (.Name x px) (.ref a) body [] env) (fun r s' => match r with | .ok f => Q f s' | .error e => cameBackBy (model PR w) A env E e s') { s with heap := h' }) O ⟨rfl, rfl⟩ rfl fun I h' _ _ O' => ?_
  refine loop_name hh (iter_list (l := l) (xs := xs) hh) J O' hJ hN (fun i v Ψ Φ s₁ P hi j y e O₁ => ?_) (fun Φ s₁ j e O₁ => done Φ s₁ j (Sm.mk'.tr e) O₁)
  obtain ⟨y1, rfl⟩ := y
  refine wpAny_mono (turn i v Φ s₁ I P y1 j (Sm.mk'.tr e) O₁) (fun _ s₂ h2 => wpAny_mono h2 (fun f s₃ h3 => Turn.base (s := s) (fun _ e => ⟨e.gens, e.drawn, e.os⟩) h3) fun _ _ x => x) fun _ _ x => x
theorem r_for_tuple {x : Str} {px : Pos} {body : List Stmt} {l : Addr} {xs : List Value} {Q : Flow → Shared → Prop} (hh : A.handled = none)
    (J : Nat → List Cell → Prop) (O : Own h₀ s.heap Φ) (hJ : J 0 Φ) (hN : ∀ i Φ, i ≤ xs.length → J i Φ → Has h₀ Φ l (tupP xs))
    (turn : ∀ i v Φ s₁ I P, xs[i]? = some v → J i Φ → Sm s s₁ → Own h₀ s₁.heap ((I, P) :: Φ) →
      wpAny (model PR w) A (storeName env x v) (fun _ s₂ => wpAny (model PR w) A (execs body env) (Turn h₀ s [(I, P)] (J (i + 1)) Q) (fun _ _ => False) s₂) (fun _ _ => False) s₁)
    (done : ∀ Φ s₁, J xs.length Φ → Sm s s₁ → Own h₀ s₁.heap Φ → Q .next s₁) :
    wpAny (model PR w) A (pyIter (.ref l)) (fun it s₂ => codeAny (model PR w) A (.forLoop (.Name x px) it body [] env) (fun r s' => match r with | .ok f => Q f s' | .error e => cameBackBy (model PR w) A env E e s') s₂) E s := by
  refine wpAny_pyIter_tuple (tupP.is ((hN 0 Φ (Nat.zero_le _) hJ).get O)) ?_
  refine own_push (P := titP l 0) (G := fun a h' => codeAny (model PR w) A (.forLoop (.Name x px) (.ref a) body [] env) (fun r s' => match r with | .ok f => Q f s' | .error e => cameBackBy (model PR w) A env E e s') { s with heap := h' }) O ⟨rfl, rfl⟩ rfl fun I h' _ _ O' => ?_
  refine loop_name hh (iter_tuple (l := l) (xs := xs) hh) J O' hJ hN (fun i v Ψ Φ s₁ P hi j y e O₁ => ?_) (fun Φ s₁ j e O₁ => done Φ s₁ j (Sm.mk'.tr e) O₁)
  obtain ⟨y1, rfl⟩ := y
  refine wpAny_mono (turn i v Φ s₁ I P y1 j (Sm.mk'.tr e) O₁) (fun _ s₂ h2 => wpAny_mono h2 (fun f s₃ h3 => Turn.base (s := s) (fun _ e => ⟨e.gens, e.drawn, e.os⟩) h3) fun _ _ x => x) fun _ _ x => x
noncomputable def rngP (a b : Int) : Obj → Prop := fun o => ∃ t u v, o = { cls := .type "range", dict := none, data := .fields #[.int a t, .int b u, .int 1 v], slots := #[] }
theorem rsize {a : Int} {n : Nat} : Builtin.Range.rangeSize a (a + n) 1 = n := by
  unfold Builtin.Range.rangeSize
  simp
  lia
theorem small_range {a : Int} {n : Nat} (h : n ≤ 100000) (ha : 0 ≤ a) (hb : a ≤ 100000) : Builtin.Range.small a (a + n) 1 = true := by
  unfold Builtin.Range.small
  rw [rsize]
  unfold Builtin.Range.rangeFitsLong
  simp
  lia
theorem r_for_range {x : Str} {px : Pos} {body : List Stmt} {r : Addr} {a b : Int} {n : Nat} {Q : Flow → Shared → Prop} (hh : A.handled = none) (hn : n ≤ 100000) (ha : 0 ≤ a) (hb : a ≤ 100000) (hab : b = a + n) (hr : Has h₀ Φ r (rngP a b))
    (J : Nat → List Cell → Prop) (O : Own h₀ s.heap Φ) (hJ : J 0 Φ)
    (turn : ∀ i t Φ s₁ I P, i < n → J i Φ → Sm s s₁ → Own h₀ s₁.heap ((I, P) :: Φ) →
      wpAny (model PR w) A (storeName env x (.int (a + i) t)) (fun _ s₂ => wpAny (model PR w) A (execs body env) (Turn h₀ s [(I, P)] (J (i + 1)) Q) (fun _ _ => False) s₂) (fun _ _ => False) s₁)
    (done : ∀ Φ s₁, J n Φ → Sm s s₁ → Own h₀ s₁.heap Φ → Q .next s₁) :
    wpAny (model PR w) A (pyIter (.ref r)) (fun it s₂ => codeAny (model PR w) A (.forLoop (.Name x px) it body [] env) (fun r s' => match r with | .ok f => Q f s' | .error e => cameBackBy (model PR w) A env E e s') s₂) E s := by
  subst hab
  obtain ⟨o, eo, t, u, v, rfl⟩ := hr.get O
  refine wpAny_pyIter_range eo (small_range hn ha hb) ?_
  rw [rsize]
  refine own_push (P := ritP a n 1) (G := fun a h' => codeAny (model PR w) A (.forLoop (.Name x px) (.ref a) body [] env) (fun r s' => match r with | .ok f => Q f s' | .error e => cameBackBy (model PR w) A env E e s') { s with heap := h' }) O rfl rfl fun I h' _ _ O' => ?_
  have O'' : Own h₀ h' ((I, ritP (a + (0 : Nat)) ((n : Int) - (0 : Nat)) 1) :: Φ) := by simpa using O'
  refine loop_name hh (iter_range (a := a) (n := n) hh) J O'' hJ (fun _ _ _ _ => trivial) (fun i v Ψ Φ s₁ P hi j y e O₁ => ?_) (fun Φ s₁ j e O₁ => done Φ s₁ j (Sm.mk'.tr e) O₁)
  obtain ⟨⟨t, rfl⟩, rfl⟩ := y
  refine wpAny_mono (turn i t Φ s₁ I P hi j (Sm.mk'.tr e) O₁) (fun _ s₂ h2 => wpAny_mono h2 (fun f s₃ h3 => Turn.base (s := s) (fun _ e => ⟨e.gens, e.drawn, e.os⟩) h3) fun _ _ x => x) fun _ _ x => x
theorem r_range1 {n : Int} {t : Tok} {Q : Value → Shared → Prop} (O : Own h₀ s.heap Φ) (h : ∀ a s', Sm s s' → Own h₀ s'.heap ((a, rngP 0 n) :: Φ) → Q (.ref a) s') : wpAny (model PR w) A (call (.type "range") [.int n t]) Q E s := by
  refine call_range_1 ?_
  exact own_push (P := rngP 0 n) (G := fun a h' => Q (.ref a) { s with heap := h', toks := s.toks + 1 + 1 }) O ⟨_, _, _, rfl⟩ rfl fun a h' _ _ O' => h a _ Sm.mk' O'
theorem r_range2 {a b : Int} {t u : Tok} {Q : Value → Shared → Prop} (O : Own h₀ s.heap Φ) (h : ∀ r s', Sm s s' → Own h₀ s'.heap ((r, rngP a b) :: Φ) → Q (.ref r) s') : wpAny (model PR w) A (call (.type "range") [.int a t, .int b u]) Q E s := by
  refine call_range_2 ?_
  exact own_push (P := rngP a b) (G := fun r h' => Q (.ref r) { s with heap := h', toks := s.toks + 1 }) O ⟨_, _, _, rfl⟩ rfl fun r h' _ _ O' => h r _ Sm.mk' O'
end
end
section
theorem hide {P : Prop} (h : ∀ G : Prop, (P → G) → G) : P := h P id
end
section
theorem hideT {w : World} {A : Around} {m : Sem Unit} {body : List Stmt} {env : Env} {T0 : Flow → Shared → Prop} {E : Value → Shared → Prop} {s : Shared}
    (h : ∀ T : Flow → Shared → Prop, (∀ f s', T0 f s' → T f s') → wpAny (model PR w) A m (fun _ s₂ => wpAny (model PR w) A (execs body env) T E s₂) E s) :
    wpAny (model PR w) A m (fun _ s₂ => wpAny (model PR w) A (execs body env) T0 E s₂) E s := h _ (fun _ _ h => h)
end
section
section
variable {w : World} {A : Around} {E : Value → Shared → Prop} {s : Shared}
/-- a def with *p: the rest of the arguments lie in a new tuple -/
theorem enterV {a : Addr} {body : List Stmt} {nm gl : List Str} {args : List Value} {Q : Value → Shared → Prop} (F : FnOK w a body nm gl) (B : Base w s.heap) (R : Rm A 1) (binds : Value → List (Str × Value)) (rest : List Str) (vs : Value → List (Option Value)) (tv : List Value)
    (hbind : bindArgs (fdOf w a) ⟨args, []⟩ = (newTuple tv >>= fun t => pure (binds t))) (hnm : ∀ t, nm = (binds t).map (·.1) ++ rest) (hvs : ∀ t, vs t = (binds t).map (fun p => some p.2) ++ noneOf rest)
    (h : ∀ L env s₁ t, Sm s s₁ → EnvOK env L nm [] gl → Own s.heap s₁.heap [(L, locP nm (vs (.ref t))), (t, tupP tv)] → env.frame = some L →
      wpAny (model PR w) (A.deeper env) (execs body env) (fun fl s' => Q (match fl with | .ret v => v | _ => .none) s') (fun _ _ => False) s₁) (hl : Nat.ble tv.length 100000 = true := by rfl) :
    wpAny (model PR w) A (call (.ref a) args) Q E s := by
  obtain ⟨o, ho, hd⟩ := isDef_at F.FA.isd
  refine wpAny_call (codeAny_call_function (fd := fdOf w a) (body := body) R.room (B.X _ _ ho) hd F.FA.co F.FA.gen F.FA.body (codeRec_of B.X F.FA.code) ?_)
  rw [hbind]
  refine wpAny_bind (r_newTup (Own.start s.heap) (fun t s₁ e₁ ht k₁ O₁ => wpAny_pure ?_) hl)
  have nd := (F.V 0).nodup
  have hc : ∀ x ∈ (fdOf w a).scope.names, x.2 ≠ .cell := fun x hx => by
    have := List.all_eq_true.mp F.cell x hx
    simpa using this
  have hloc : ∀ x ∈ binds (.ref t), (fdOf w a).scope.names.lookup x.1 = some .local := fun p hp =>
    (F.V 0).loc p.1 (by rw [hnm (.ref t)]; exact List.mem_append_left _ (List.mem_map_of_mem hp))
  refine wpAny_newFunctionEnv hc hloc (fun h' hn hs => ⟨(B.nolimit.keeps k₁).fresh _ hs, codeAny_func ?_⟩) F.FA.kind
  have hn0 : s₁.heap.get? s₁.heap.objs.size = none := by
    cases q : s₁.heap.get? s₁.heap.objs.size with
    | none => rfl
    | some o => exact absurd (Heap.lt_size q) (Nat.lt_irrefl _)
  have k₂ : Kp s₁.heap h' := fun b o e => hs.extBut b o (fun q => by rw [q, hn0] at e; cases e) (Heap.get?_push_of_some _ e)
  have O₂ : Own s.heap h' [(s₁.heap.objs.size, locP nm (vs (.ref t))), (t, tupP tv)] := by
    refine O₁.new (Ψ := [(s₁.heap.objs.size, locP nm (vs (.ref t)))]) k₂ (New.one hn0 (ns_locP hn fun x => ?_))
    rw [lookup_rev x _ (by have := nd; rw [hnm (.ref t), List.nodup_append] at this; exact this.1), hnm (.ref t), hvs, look_init]
  have V' := F.V s₁.heap.objs.size
  have e : newEnv (fdOf w a).scope s₁.heap.objs.size (fdOf w a).globals (fdOf w a).closure ((fdOf w a).qualname ++ ".<locals>.") (some a) (fdOf w a).code none (fdOf w a).builtins = callEnv (fdOf w a) s₁.heap.objs.size a := rfl
  rw [e]
  refine wpAny_mono (h _ _ { s₁ with heap := h', toks := s₁.toks + (binds (.ref t)).length } t (e₁.tr Sm.mk') V' O₂ rfl) (fun fl s' hq => ?_) (fun _ _ hf => hf.elim)
  cases fl <;> exact hq
end
end
section
section
variable {w : World} {A : Around} {E : Value → Shared → Prop} {s : Shared} {h₀ : Heap} {Φ Φ' : List Cell} {env : Env} {L : Addr} {nm gl : List Str} {cl : List (Str × Addr)}
theorem Own.head {h : Heap} {c : Addr} {P : Obj → Prop} (O : Own h₀ h ((c, P) :: Φ)) : ∃ o, h.get? c = some o ∧ P o := O.get List.mem_cons_self
theorem Sel.own {h : Heap} {p : Cell} (x : Sel p Φ Φ') (O : Own h₀ h Φ) : Own h₀ h (p :: Φ') := O.perm x.perm
/-! ## a new block, with its cells -/
noncomputable def cellNames (names : List (Str × NameKind)) : List Str := (names.filter (fun x => x.2 == .cell)).map (·.1)
noncomputable def cell (cs : List (Str × Addr)) : List Cell := cs.map fun p => (p.2, celP none)
theorem get_none_size (h : Heap) : h.get? h.objs.size = none := by
  cases q : h.get? h.objs.size with
  | none => rfl
  | some o => exact absurd (Heap.lt_size q) (Nat.lt_irrefl _)
theorem layCells_own (f : Str × NameKind → List (Str × Addr) → Sem (ForInStep (List (Str × Addr))))
    (hf : ∀ name kind cells, f (name, kind) cells = if kind == .cell then (do let a ← alloc { cls := .type "cell", data := .cell none }; pure (.yield ((name, a) :: cells))) else pure (.yield cells)) :
    ∀ (names : List (Str × NameKind)) (acc : List (Str × Addr)) (s : Shared) (Φ : List Cell) (Q : List (Str × Addr) → Shared → Prop), Own h₀ s.heap Φ →
      (∀ s' cs, Sm s s' → Kp s.heap s'.heap → cs.map (·.1) = (cellNames names).reverse → Own h₀ s'.heap (cell cs ++ Φ) → Q (cs ++ acc) s') → wpAny (model PR w) A (forIn names acc f) Q E s
  | [], acc, s, Φ, Q, O, h => by rw [List.forIn_nil]; exact wpAny_pure (h s [] Sm.rfl Kp.rfl rfl O)
  | (name, kind) :: r, acc, s, Φ, Q, O, h => by
    rw [List.forIn_cons, hf]
    by_cases hk : (kind == NameKind.cell) = true
    · rw [if_pos hk]
      refine wpAny_bind (wpAny_bind (wpAny_alloc (wpAny_pure ?_)))
      refine own_push (P := celP none) (G := fun a h' => wpAny (model PR w) A (forIn r ((name, a) :: acc) f) Q E { s with heap := h' }) O rfl rfl fun a h' hn k O' => ?_
      refine layCells_own f hf r _ _ _ Q O' fun s' cs e k' hc O'' => ?_
      have := h s' (cs ++ [(name, a)]) (Sm.mk'.tr e) (k.tr k') (by rw [List.map_append, hc]; simp [cellNames, hk]) (by simpa [cell] using O'')
      simpa using this
    · rw [if_neg hk]
      refine wpAny_bind (wpAny_pure (layCells_own f hf r _ _ _ Q O fun s' cs e k hc O' => h s' cs e k ?_ O'))
      rw [hc]; simp [cellNames, hk]
noncomputable def StB (w : World) (A : Around) (E : Value → Shared → Prop) (env : Env) : List (Str × Value) → (Shared → Prop) → Shared → Prop
  | [], Q, s => Q s
  | (n, v) :: r, Q, s => wpAny (model PR w) A (storeName env n v) (fun _ s' => StB w A E env r Q s') E s
theorem look_none (x : Str) : ∀ nm : List Str, look nm (noneOf nm) x = none
  | [] => rfl
  | y :: r => by show (if x = y then none else look r (noneOf r) x) = none; split; rfl; exact look_none x r
theorem binds_own (f : Str × Value → PUnit → Sem (ForInStep PUnit)) (hf : ∀ n v u, f (n, v) u = (do storeName env n v; pure (.yield ⟨⟩))) :
    ∀ (binds : List (Str × Value)) (s : Shared) (Q : PUnit → Shared → Prop), StB w A E env binds (fun s' => Q ⟨⟩ s') s → wpAny (model PR w) A (forIn binds ⟨⟩ f) Q E s
  | [], s, Q, h => by rw [List.forIn_nil]; exact wpAny_pure h
  | (n, v) :: r, s, Q, h => by
    rw [List.forIn_cons, hf]
    exact wpAny_bind (wpAny_bind (wpAny_mono h (fun _ s' h' => wpAny_pure (binds_own f hf r s' Q h')) fun _ _ x => x))
theorem StB.mono {Q Q' : Shared → Prop} (hq : ∀ s, Q s → Q' s) : ∀ {binds : List (Str × Value)} {s : Shared}, StB w A E env binds Q s → StB w A E env binds Q' s
  | [], _, h => hq _ h
  | (_, _) :: _, _, h => wpAny_mono h (fun _ _ h' => StB.mono hq h') fun _ _ x => x
theorem locP_none (nm : List Str) (cls : Value) : locP nm (noneOf nm) { cls := cls, data := .dict #[] } := ⟨#[], 0, rfl, fun e he => by simp at he, fun x => by rw [look_none]; rfl⟩
theorem r_newEnv {scope : Scope} {globals : Addr} {closure : List (Str × Addr)} {binds : List (Str × Value)} {qual : Str} {func : Option Addr} {code : Value} {around : Option Env} {builtins : Addr} {Q : Env → Shared → Prop} (O : Own h₀ s.heap Φ) (nm : List Str)
    (h : ∀ s' L cs, Sm s s' → Kp s.heap s'.heap → cs.map (·.1) = (cellNames scope.names).reverse → Own h₀ s'.heap (cell cs ++ (L, locP nm (noneOf nm)) :: Φ) →
      StB w A E (newEnv scope L globals (cs ++ closure) qual func code around builtins) binds (fun s'' => Q (newEnv scope L globals (cs ++ closure) qual func code around builtins) s'') s') :
    wpAny (model PR w) A (newFunctionEnv scope globals closure binds qual func code around builtins) Q E s := by
  cases around with
  | none =>
    simp only [newFunctionEnv, Option.isSome_none, Bool.false_eq_true, if_false]
    refine wpAny_bind (wpAny_alloc ?_)
    refine own_push (P := locP nm (noneOf nm)) (G := fun L h' => wpAny (model PR w) A (do
      let cells ← forIn scope.names closure fun x cells => if (x.2 == .cell) = true then (do let a ← alloc { cls := .type "cell", data := .cell none }; pure (.yield ((x.1, a) :: cells))) else pure (.yield cells)
      (forIn binds PUnit.unit fun x _ => do storeName { scope, locals := L, globals, cells, qual, func, code, frame := some L, builtins } x.1 x.2; pure (.yield ⟨⟩)) >>= fun _ => pure { scope, locals := L, globals, cells, qual, func, code, frame := some L, builtins }) Q E { s with heap := h' })
      O (locP_none _ _) rfl fun L h' hn k O' => ?_
    refine wpAny_bind (layCells_own _ (fun _ _ _ => rfl) _ _ _ _ _ O' fun s' cs e k' hc O'' => ?_)
    exact wpAny_bind (binds_own _ (fun _ _ _ => rfl) _ _ _ (StB.mono (fun _ q => wpAny_pure q) (h s' L cs (Sm.mk'.tr e) (k.tr k') hc O'')))
  | some outer =>
    simp only [newFunctionEnv, Option.isSome_some, if_true]
    refine wpAny_bind (wpAny_alloc ?_)
    refine own_push (P := locP nm (noneOf nm)) (G := fun L h' => wpAny (model PR w) A (do
      let cells ← forIn scope.names closure fun x cells => if (x.2 == .cell) = true then (do let a ← alloc { cls := .type "cell", data := .cell none }; pure (.yield ((x.1, a) :: cells))) else pure (.yield cells)
      (forIn binds PUnit.unit fun x _ => do storeName { scope, locals := L, globals, cells, qual, func, code := outer.code, frame := outer.frame, builtins := outer.builtins } x.1 x.2; pure (.yield ⟨⟩)) >>= fun _ => pure { scope, locals := L, globals, cells, qual, func, code := outer.code, frame := outer.frame, builtins := outer.builtins }) Q E { s with heap := h' })
      O (locP_none _ _) rfl fun L h' hn k O' => ?_
    refine wpAny_bind (layCells_own _ (fun _ _ _ => rfl) _ _ _ _ _ O' fun s' cs e k' hc O'' => ?_)
    exact wpAny_bind (binds_own _ (fun _ _ _ => rfl) _ _ _ (StB.mono (fun _ q => wpAny_pure q) (h s' L cs (Sm.mk'.tr e) (k.tr k') hc O'')))
/-- a def with cells -/
structure FnOKc (w : World) (a : Addr) (body : List Stmt) (nm cn gl : List Str) : Prop where
  FA : FnAt w a body
  nms : chk (fdOf w a).scope nm gl = true
  cels : chkC (fdOf w a).scope (cn.map fun x => (x, true)) = true
  nd : cn.Nodup
  cnm : cellNames (fdOf w a).scope.names = cn
theorem lookup_self : ∀ {cs : List (Str × Addr)}, (cs.map (·.1)).Nodup → ∀ p ∈ cs, cs.lookup p.1 = some p.2
  | [], _, _, h => nomatch h
  | (k, v) :: l, nd, p, h => by
    rw [List.map_cons, List.nodup_cons] at nd
    rcases List.mem_cons.mp h with rfl | h
    · simp
    · have : (p.1 == k) = false := by
        rw [beq_eq_false_iff_ne]
        exact fun e => nd.1 (e ▸ List.mem_map.mpr ⟨p, h, rfl⟩)
      rw [List.lookup_cons, this]
      exact lookup_self nd.2 p h
theorem chkC_cell {sc : Scope} {cn : List Str} (h : chkC sc (cn.map fun x => (x, true)) = true) {x : Str} (hx : x ∈ cn) : sc.names.lookup x = some .cell := by
  simp only [chkC, Bool.and_eq_true, List.all_eq_true] at h
  have := h.1 (x, true) (List.mem_map.mpr ⟨x, hx, rfl⟩)
  simpa using this
theorem chkC_perm {sc : Scope} {cn cn' : List (Str × Bool)} (h : chkC sc cn = true) (hs : ∀ x ∈ cn', x ∈ cn) : chkC sc cn' = true := by
  simp only [chkC, Bool.and_eq_true, List.all_eq_true, dbgFree] at h ⊢
  refine ⟨fun x hx => h.1 x (hs x hx), fun x hx => ?_⟩
  obtain ⟨p, hp, rfl⟩ := List.mem_map.mp hx
  exact h.2 p.1 (List.mem_map_of_mem (hs p hp))
theorem enterC {a : Addr} {body : List Stmt} {nm cn gl : List Str} {args : List Value} {kw : List (Str × Value)} {Q : Value → Shared → Prop} (F : FnOKc w a body nm cn gl) (B : Base w s.heap) (R : Rm A 1) (binds : List (Str × Value))
    (hbind : bindArgs (fdOf w a) ⟨args, kw⟩ = pure binds)
    (h : ∀ L env s₁ cs, Sm s s₁ → cs.map (·.1) = cn.reverse → EnvOK env L nm cs gl → (∀ x ∈ cn, env.kindOf x = some .cell) → Own s.heap s₁.heap (cell cs ++ [(L, locP nm (noneOf nm))]) → env.frame = some L →
      StB w A.in1 (fun _ _ => False) env binds (fun s₂ => Base w s₂.heap ∧ wpAny (model PR w) (A.deeper env) (execs body env) (fun fl s' => Q (match fl with | .ret v => v | _ => .none) s') (fun _ _ => False) s₂) s₁) :
    wpAny (model PR w) A (call (.ref a) args kw) Q E s := by
  obtain ⟨o, ho, hd⟩ := isDef_at F.FA.isd
  refine wpAny_call (codeAny_call_function (fd := fdOf w a) (body := body) R.room (B.X _ _ ho) hd F.FA.co F.FA.gen F.FA.body (codeRec_of B.X F.FA.code) ?_)
  rw [hbind]
  refine wpAny_pure (wpAny_mono (r_newEnv (E := fun _ _ => False) (Q := fun env s₂ => ∃ (V : True), Base w s₂.heap ∧ wpAny (model PR w) (A.deeper env) (execs body env) (fun fl s' => Q (match fl with | .ret v => v | _ => .none) s') (fun _ _ => False) s₂) (Own.start s.heap) nm fun s' L cs e k hc O => ?_) (fun env s₂ ⟨_, b, q⟩ => ⟨b.nolimit, codeAny_func (wpAny_mono q (fun fl s' hq => ?_) fun _ _ f => f.elim)⟩) fun _ _ f => f.elim)
  · have hcl := F.FA.closure
    rw [hcl, List.append_nil]
    refine StB.mono (fun _ q => ⟨trivial, q⟩) (h L _ s' cs e (by rw [hc, F.cnm]) ?_ (fun x hx => chkC_cell F.cels hx) O rfl)
    have hcn : cs.map (·.1) = cn.reverse := by rw [hc, F.cnm]
    refine envOK_of (env := newEnv (fdOf w a).scope L (fdOf w a).globals cs _ (some a) (fdOf w a).code none (fdOf w a).builtins) (cn := cn.reverse.map fun x => (x, true)) F.FA.kind F.nms (chkC_perm F.cels fun x hx => ?_) ?_ (lookup_self (by rw [hcn]; exact (List.reverse_perm cn).nodup_iff.mpr F.nd)) F.FA.globals F.FA.builtins F.FA.gen F.FA.co
    · simpa using hx
    · rw [hcn]; simp only [List.map_map, List.map_reverse]; congr 1; exact (List.map_id' cn).symm
  · cases fl <;> exact hq
end
end
section
section
variable {w : World} {A : Around} {E : Value → Shared → Prop} {s : Shared} {h₀ : Heap} {Φ Φ' : List Cell} {env : Env} {L : Addr} {nm gl : List Str} {cl : List (Str × Addr)}
/-! ## the block of a comprehension -/
noncomputable def freeNames (names : List (Str × NameKind)) : List Str := (names.filter (fun x => x.2 == .free)).map (·.1)
noncomputable def chkB (sc : Scope) (nm cn fn gl : List Str) : Bool :=
  chk sc nm gl && cn.all (fun x => sc.names.lookup x == some .cell) && fn.all (fun x => sc.names.lookup x == some .free && !(x == ("__classdict__" : Str))) && decide (cn ++ fn).Nodup && dbgFree cn && dbgFree fn
    && (sc.kind == .function) && !sc.isGenerator && !sc.isCoroutine && sc.names.all (fun x => !(x.2 == .local) || sc.names.lookup x.1 == some .local) && decide (cellNames sc.names = cn) && decide (freeNames sc.names = fn)
structure BlkOK (sc : Scope) (nm cn fn gl : List Str) : Prop where
  nms : chk sc nm gl = true
  cels : ∀ x ∈ cn, sc.names.lookup x = some .cell
  frees : ∀ x ∈ fn, sc.names.lookup x = some .free ∧ (x == ("__classdict__" : Str)) = false
  nd : (cn ++ fn).Nodup
  dc : dbgFree cn = true
  df : dbgFree fn = true
  kind : sc.kind = .function
  gen : sc.isGenerator = false
  co : sc.isCoroutine = false
  loc : ∀ x ∈ sc.names, x.2 = .local → sc.names.lookup x.1 = some .local
  cn : cellNames sc.names = cn
  fn : freeNames sc.names = fn
theorem blkOK_of {sc : Scope} {nm cn fn gl : List Str} (h : chkB sc nm cn fn gl = true) : BlkOK sc nm cn fn gl := by
  simp only [chkB, Bool.and_eq_true, List.all_eq_true, beq_iff_eq, decide_eq_true_eq, Bool.not_eq_true', Bool.or_eq_true] at h
  obtain ⟨⟨⟨⟨⟨⟨⟨⟨⟨⟨⟨h1, h2⟩, h3⟩, h4⟩, h5⟩, h6⟩, h7⟩, h8⟩, h9⟩, h10⟩, h11⟩, h12⟩ := h
  refine ⟨h1, h2, h3, h4, h5, h6, h7, h8, h9, fun x hx hl => ?_, h11, h12⟩
  rcases h10 x hx with h | h
  · rw [hl] at h; simp at h
  · exact h
theorem lookup_relabel {sc : Scope} {env : Env} {x : Str} {k : NameKind} (h : sc.names.lookup x = some k) :
    (relabel sc env).names.lookup x = some k ∨ (k = .free ∧ (relabel sc env).names.lookup x = some .cell) := by
  obtain ⟨knd, names, g, c⟩ := sc
  unfold relabel
  dsimp only at h ⊢
  clear knd g c
  induction names with
  | nil => simp at h
  | cons p r ih =>
    obtain ⟨n, k'⟩ := p
    rw [List.map_cons]
    rw [List.lookup_cons] at h
    by_cases hc : (k' == NameKind.free && env.scope.kind == .function && env.kindOf n == some .cell) = true
    · simp only [if_pos hc, List.lookup_cons]
      cases hx : x == n with
      | true =>
        rw [hx] at h; cases h
        simp only [Bool.and_eq_true, beq_iff_eq] at hc
        exact .inr ⟨hc.1.1, rfl⟩
      | false => rw [hx] at h; exact ih h
    · simp only [if_neg hc, List.lookup_cons]
      cases hx : x == n with
      | true => rw [hx] at h; cases h; exact .inl rfl
      | false => rw [hx] at h; exact ih h
theorem compV {scope : Scope} {nm' cn fn gl' : List Str} {cs cl' : List (Str × Addr)} {C : Addr} (V : EnvOK env L nm cl gl) (H : BlkOK scope nm' cn fn gl') (hcs : cs.map (·.1) = cn.reverse) (hcl : cl'.map (·.1) = fn.reverse) :
    EnvOK (compEnvC scope (cs ++ cl') C env) C nm' (cs ++ cl') gl' := by
  have h := H.nms
  simp only [chk, Bool.and_eq_true, List.all_eq_true, beq_iff_eq, decide_eq_true_eq] at h
  obtain ⟨⟨⟨⟨h1, h2⟩, h3⟩, h4⟩, h5⟩ := h
  have mcs : ∀ p ∈ cs, p.1 ∈ cn := fun p hp => List.mem_reverse.mp (hcs ▸ List.mem_map_of_mem hp)
  have mcl : ∀ p ∈ cl', p.1 ∈ fn := fun p hp => List.mem_reverse.mp (hcl ▸ List.mem_map_of_mem hp)
  have nd : ((cs ++ cl').map (·.1)).Nodup := by
    rw [List.map_append, hcs, hcl]
    exact (((List.reverse_perm cn).append (List.reverse_perm fn)).nodup_iff).mpr H.nd
  refine ⟨H.kind, rfl, fun x hx => ?_, h3, fun p hp => ⟨?_, lookup_self nd p hp⟩, fun x hx => ?_, V.globals, V.builtins, fun x hx => ?_, H.gen, H.co⟩
  · rcases lookup_relabel (env := env) (h1 x hx) with h | h
    · exact h
    · cases h.1
  · rcases List.mem_append.mp hp with hp | hp
    · rcases lookup_relabel (env := env) (H.cels _ (mcs p hp)) with h | h
      · exact .inl h
      · cases h.1
    · obtain ⟨a, b⟩ := H.frees _ (mcl p hp)
      rcases lookup_relabel (env := env) a with h | h
      · exact .inr ⟨h, b⟩
      · exact .inl h.2
  · rcases lookup_relabel (env := env) (h2 x hx) with h | h
    · exact h
    · cases h.1
  · rcases hx with hx | hx | hx
    · exact dbgFree_at h4 hx
    · obtain ⟨p, hp, rfl⟩ := List.mem_map.mp hx
      rcases List.mem_append.mp hp with hp | hp
      · exact dbgFree_at H.dc (mcs p hp)
      · exact dbgFree_at H.df (mcl p hp)
    · exact dbgFree_at h5 hx
theorem compV_cell {scope : Scope} {nm' cn fn gl' : List Str} {cs : List (Str × Addr)} {C : Addr} (H : BlkOK scope nm' cn fn gl') : ∀ x ∈ cn, (compEnvC scope cs C env).kindOf x = some .cell := fun x hx => by
  rcases lookup_relabel (env := env) (H.cels _ hx) with h | h
  · exact h
  · cases h.1
theorem closure_of {scope : Scope} {nm' cn fn gl' : List Str} {cl' : List (Str × Addr)} (V : EnvOK env L nm cl gl) (H : BlkOK scope nm' cn fn gl') (hcl : cl'.map (·.1) = fn.reverse) (hsub : ∀ p ∈ cl', p ∈ cl) : closureFor scope env = pure cl' := by
  have key : ∀ (names : List (Str × NameKind)) (acc cs : List (Str × Addr)), cs.map (·.1) = (freeNames names).reverse → (∀ p ∈ cs, env.cells.lookup p.1 = some p.2) →
      (forIn names acc fun x r => if (x.2 == NameKind.free) = true then (do let c ← cellOf env x.1; pure (ForInStep.yield ((x.1, c) :: r))) else pure (ForInStep.yield r) : Sem _) = pure (cs ++ acc) := by
    intro names
    induction names with
    | nil => intro acc cs h _; simp [freeNames] at h; subst h; rfl
    | cons p r ih =>
      obtain ⟨n, k⟩ := p
      intro acc cs h hl
      rw [List.forIn_cons]
      by_cases hk : (k == NameKind.free) = true
      · have e : freeNames ((n, k) :: r) = n :: freeNames r := by simp [freeNames, hk]
        rw [e, List.reverse_cons] at h
        obtain ⟨ds, d, rfl⟩ : ∃ ds d, cs = ds ++ [d] := by
          rcases List.eq_nil_or_concat cs with rfl | ⟨ds, d, rfl⟩
          · simp at h
          · exact ⟨ds, d, by simp⟩
        rw [List.map_append] at h
        obtain ⟨h1, h2⟩ := List.append_inj' h rfl
        obtain ⟨dn, da⟩ := d
        have hdn : dn = n := by simpa using h2
        subst hdn
        have hc : cellOf env dn = pure da := by
          unfold cellOf
          rw [hl (dn, da) (by simp)]
        simp only [hk, if_true, hc]
        show (forIn r ((dn, da) :: acc) _ : Sem _) = _
        rw [ih _ ds h1 fun p hp => hl p (List.mem_append_left _ hp)]
        simp
      · have e : freeNames ((n, k) :: r) = freeNames r := by simp [freeNames, hk]
        rw [e] at h
        simp only [hk, Bool.false_eq_true, if_false]
        exact ih acc cs h hl
  have := key scope.names [] cl' (by rw [hcl, H.fn]) fun p hp => (V.cel p (hsub p hp)).2
  rw [List.append_nil] at this
  unfold closureFor
  show (forIn scope.names [] _ >>= fun cs => pure cs) = _
  rw [this]
  rfl
end
end
section
section
variable {w : World} {A : Around} {E : Value → Shared → Prop} {s : Shared} {h₀ : Heap} {Φ Φ' : List Cell} {env : Env} {L : Addr} {nm gl : List Str} {cl : List (Str × Addr)}
noncomputable abbrev wTests (w : World) (A : Around) (E : Value → Shared → Prop) (ifs : List Expr) (env : Env) (Q : Bool → Shared → Prop) (s : Shared) : Prop :=
  wpAny (model PR w) A (forIn ifs true fun c r => if r = true then do let ok ← isTrue c env (eval c env); pure (ForInStep.yield ok) else pure (ForInStep.yield r)) Q E s
theorem r_t0 {Q : Bool → Shared → Prop} (h : Q true s) : wTests w A E [] env Q s := wpAny_tests_nil h
theorem r_t1 {c : Expr} {Q : Bool → Shared → Prop} (h : wpAny (model PR w) A (isTrue c env (eval c env)) Q E s) : wTests w A E [c] env Q s := wpAny_tests_one h
theorem compLoop_any {elt target iter : Expr} {ifs : List Expr} {scope : Scope} {pos : Pos} {it acc : Value} {env : Env} {R : Result → Shared → Prop} (I : Nat → Shared → Prop)
    (turn : ∀ n s, I n s → wpAny (model PR w) A (pyNext it) (fun r s₁ => match r with
      | none => R (.ok .next) s₁
      | some v => wpAny (model PR w) A (letOwnedTupleGo target it v) (fun _ s₁' => wpAny (model PR w) A (assign target env v) (fun _ s₂ => wTests w A (fun _ _ => False) ifs env (fun ok s₃ =>
            if ok = true then wpAny (model PR w) A (eval elt env) (fun x s₄ =>
              wpAny (model PR w) A (call (.builtin "list.append") [acc, x]) (fun _ s₅ => ∃ m, m < n ∧ I m s₅) (fun _ _ => False) s₄) (fun _ _ => False) s₃
            else ∃ m, m < n ∧ I m s₃) s₂) (fun _ _ => False) s₁') (fun _ _ => False) s₁) (fun _ _ => False) s)
    (n : Nat) (h : I n s) : codeAny (model PR w) A (.compLoop (.ListComp elt [⟨target, iter, ifs, 0⟩] scope pos) 0 it acc env) R s := by
  refine codeAny_loop rfl I (fun n s hI => ?_) n h
  show wpAny _ A ((compTurn (.ListComp elt [⟨target, iter, ifs, 0⟩] scope pos) 0 it acc env).onRaise (fun x => do noteFrame x env; theTreesLotGoes x)) _ _ s
  refine wpAny_noted ?_
  rw [compTurn_list]
  refine wpAny_bind (wpAny_standAt (wpAny_bind (wpAny_mono (turn n s hI) (fun r s₁ h₁ => ?_) fun _ _ h' => h'.elim)))
  cases r with
  | none => exact wpAny_pure h₁
  | some v =>
    refine wpAny_bind (wpAny_mono h₁ (fun _ s₁' h₁' => ?_) fun _ _ h' => h'.elim)
    refine wpAny_bind (wpAny_mono h₁' (fun _ s₂ h₂ => wpAny_bind (wpAny_mono h₂ (fun ok s₃ h₃ => ?_) fun _ _ h' => h'.elim)) fun _ _ h' => h'.elim)
    cases ok with
    | false => exact wpAny_pure ⟨rfl, h₃⟩
    | true =>
      exact wpAny_bind (wpAny_bind (wpAny_mono h₃ (fun x s₄ h₄ => wpAny_bind (wpAny_mono h₄ (fun _ s₅ h₅ => wpAny_pure (wpAny_pure ⟨rfl, h₅⟩)) fun _ _ h' => h'.elim)) fun _ _ h' => h'.elim))
/-- what is left of a list comprehension once its first iterator stands -/
noncomputable def LC (w : World) (A : Around) (E : Value → Shared → Prop) (use : Option (Value → Sem Unit)) (env : Env) (elt target iter : Expr) (ifs : List Expr) (scope : Scope) (cl' : List (Str × Addr)) (pos : Pos) (it : Value) (Q : Value → Shared → Prop) (s : Shared) : Prop :=
  wpAny (model PR w) A (newList []) (fun acc s₃ => wpAny (model PR w) A (newFunctionEnv scope env.globals cl' [] env.qual none .none (some env)) (fun cenv s₄ =>
    codeAny (model PR w) A (.compStart (.ListComp elt [⟨target, iter, ifs, 0⟩] scope pos) 0 it acc { cenv with scope := relabel scope env }) (compPost (model PR w) A E use Q acc cenv.locals) s₄) E s₃) E s
theorem r_lc {elt target iter : Expr} {ifs : List Expr} {scope : Scope} {pos : Pos} {Q : Value → Shared → Prop} {nm' cn fn gl' : List Str} {cl' : List (Str × Addr)} (V : EnvOK env L nm cl gl) (H : BlkOK scope nm' cn fn gl') (hcl : cl'.map (·.1) = fn.reverse) (hsub : ∀ p ∈ cl', p ∈ cl)
    (h : wpAny (model PR w) A (eval iter env) (fun xv s₁ => wpAny (model PR w) A (pyIter xv) (fun it s₂ => LC w A E none env elt target iter ifs scope cl' pos it Q s₂) E s₁) E s)
    (hs : ∀ x, foldedSetIterable iter env x = pure x := by intro _; rfl) :
    wpAny (model PR w) A (eval (.ListComp elt [⟨target, iter, ifs, 0⟩] scope pos) env) Q E s := by
  rw [eval_ListComp]
  exact wpAny_comprehension_free (use := none) rfl hs (closure_of V H hcl hsub) H.kind H.loc h
/-- y = [..], kept by the block itself -/
theorem r_lcu {elt target iter : Expr} {ifs : List Expr} {scope : Scope} {y : Str} {py pos spos : Pos} {Q : Flow → Shared → Prop} {nm' cn fn gl' : List Str} {cl' : List (Str × Addr)} (V : EnvOK env L nm cl gl) (hy : y ∈ nm) (H : BlkOK scope nm' cn fn gl') (hcl : cl'.map (·.1) = fn.reverse) (hsub : ∀ p ∈ cl', p ∈ cl)
    (hl : py.line = pos.line) (hnot : (scope.names.any fun x => x.1 == y && (x.2 == .local || x.2 == .cell)) = false)
    (h : wpAny (model PR w) A (eval iter env) (fun xv s₁ => wpAny (model PR w) A (pyIter xv) (fun it s₂ => LC w A E (some (assign (.Name y py) env)) env elt target iter ifs scope cl' pos it (fun _ s' => Q .next s') s₂) E s₁) E s)
    (hs : ∀ x, foldedSetIterable iter env x = pure x := by intro _; rfl) :
    wpAny (model PR w) A (exec (.Assign [.Name y py] (.ListComp elt [⟨target, iter, ifs, 0⟩] scope pos) spos) env) Q E s := by
  have k1 : env.blockKind = .function := by unfold Env.blockKind; rw [V.kind]; rfl
  have hsw : swapsWith (.ListComp elt [⟨target, iter, ifs, 0⟩] scope pos) (some (.Name y py)) spos.line env = pure true := by
    unfold swapsWith
    show (pure _ : Sem Bool) = pure true
    congr 1
    rw [k1, V.loc y hy]
    simp only [beq_self_eq_true, Bool.true_and, Bool.and_eq_true, beq_iff_eq, Bool.not_eq_true']
    exact ⟨hl, hnot⟩
  rw [exec_Assign_Name_used _ _ _ _ hsw]
  refine wpAny_bind (wpAny_standAt (wpAny_bind ?_))
  show wpAny _ A (do let _ ← comprehension (.ListComp elt [⟨target, iter, ifs, 0⟩] scope pos) scope env _ (newList []) false (eval iter env) (some (assign (.Name y py) env))) _ _ s
  exact wpAny_bind (wpAny_mono (wpAny_comprehension_free (use := some (assign (.Name y py) env)) (Q := fun _ s' => Q .next s') rfl hs (closure_of V H hcl hsub) H.kind H.loc h) (fun _ s' hq => wpAny_pure (wpAny_pure hq)) fun _ _ e => e)
theorem lst_append {D : Addr} {ys : List Value} {y : Value} {Q : Value → Shared → Prop} (O : Own h₀ s.heap Φ) (hm : (D, lstP ys) ∈ Φ) (hz : ys.length ≤ 100000) (U : Upd D (lstP (ys ++ [y])) Φ Φ') (h : ∀ s', Sm s s' → Own h₀ s'.heap Φ' → Q .none s') :
    wpAny (model PR w) A (call (.builtin "list.append") [.ref D, y]) Q E s := by
  obtain ⟨o, ho, n, rfl⟩ := O.get hm
  have hl : s.heap.IsList D ys.toArray := ⟨_, ho, rfl, n, rfl⟩
  refine wpAny_call_entry slot_list_append hl.typeIs entry_list_append ?_ (args_list_append _ _)
  show wpAny _ _ (updateSeq D (·.push y) >>= fun _ => ret .none) _ _ s
  refine wpAny_bind ?_
  refine wpAny_updateSeq ho rfl (wpAny_pure ⟨.none, rfl, h _ Sm.mk' (O.upd U (Heap.SameBut.update ..) ⟨_, Heap.get?_update_self _ ho rfl, ?_⟩)⟩) (by rw [sizeLine_eq]; simp; lia)
  exact ⟨n + 1, by simp [Obj.mapSeq]⟩
/-- an iterator, as the heads of loops see it -/
structure IterT (w : World) (A : Around) (h₀ : Heap) (I : Addr) (target : Expr) (n : Nat) (own : Nat → List Cell) (Nd : List Cell → Prop) (Y : Nat → Value → List Cell → Prop) : Prop where
  item : ∀ (i : Nat) (s : Shared) (Φ : List Cell) (Q : Option Value → Shared → Prop) (E : Value → Shared → Prop), i < n → Own h₀ s.heap (own i ++ Φ) → Nd Φ →
    (∀ v Ψ s', Y i v Ψ → (∀ (Q' : Unit → Shared → Prop) (E' : Value → Shared → Prop), (∀ s'', Sm s s'' → Own h₀ s''.heap (own (i + 1) ++ (Ψ ++ Φ)) → Q' () s'') → wpAny (model PR w) A (letOwnedTupleGo target (.ref I) v) Q' E' s') → Q (some v) s') → wpAny (model PR w) A (pyNext (.ref I)) Q E s
  done : ∀ (s : Shared) (Φ : List Cell) (Q : Option Value → Shared → Prop) (E : Value → Shared → Prop), Own h₀ s.heap (own n ++ Φ) → Nd Φ →
    (∀ s', Sm s s' → Own h₀ s'.heap Φ → Q none s') → wpAny (model PR w) A (pyNext (.ref I)) Q E s
  self : ∀ (s : Shared) (Φ : List Cell) (Q : Value → Shared → Prop) (E : Value → Shared → Prop), Own h₀ s.heap (own 0 ++ Φ) → Q (.ref I) s → wpAny (model PR w) A (pyIter (.ref I)) Q E s
theorem IterOK.toT {I : Addr} {x : Str} {px : Pos} {n : Nat} {own : Nat → List Cell} {Nd : List Cell → Prop} {Y : Nat → Value → List Cell → Prop} (W : IterOK w A h₀ I n own Nd Y)
    (hself : ∀ (s : Shared) (Φ : List Cell) (Q : Value → Shared → Prop) (E : Value → Shared → Prop), Own h₀ s.heap (own 0 ++ Φ) → Q (.ref I) s → wpAny (model PR w) A (pyIter (.ref I)) Q E s) : IterT w A h₀ I (.Name x px) n own Nd Y where
  item := fun i s Φ Q E hi O Nd h => W.item i s Φ Q E hi O Nd fun v Ψ s' y e O' => h v Ψ s' y fun Q' E' hq => by
    show wpAny _ _ (pure ()) _ _ _
    exact wpAny_pure (hq s' e O')
  done := W.done
  self := hself
/-- how a turn of a list comprehension ends -/
noncomputable def LTurn (h₀ : Heap) (s : Shared) (K : List Cell) (D : Addr) (ys : List Value) (J : List Cell → Prop) (s' : Shared) : Prop := ∃ Φ', Sm s s' ∧ Own h₀ s'.heap (K ++ (D, lstP ys) :: Φ') ∧ J Φ'
theorem upd_append {c : Addr} {P : Obj → Prop} {K : List Cell} (U : Upd c P Φ Φ') : Upd c P (K ++ Φ) (K ++ Φ') := by
  induction K with
  | nil => exact U
  | cons p r ih => exact .tail ih
theorem lc_core {elt target iter : Expr} {ifs : List Expr} {scope : Scope} {pos : Pos} {I D : Addr} {n : Nat} {own : Nat → List Cell} {Nd : List Cell → Prop} {Y : Nat → Value → List Cell → Prop} {R : Result → Shared → Prop} (W : IterT w A h₀ I target n own Nd Y)
    (hn : n ≤ 100000) (J : Nat → List Value → List Cell → Prop) (O : Own h₀ s.heap (own 0 ++ (D, lstP []) :: Φ)) (hJ : J 0 [] Φ) (hN : ∀ i ys Φ, i ≤ n → J i ys Φ → Nd ((D, lstP ys) :: Φ))
    (turn : ∀ i v Ψ ys Φ s₁, i < n → J i ys Φ → Y i v Ψ → Sm s s₁ → Own h₀ s₁.heap (own (i + 1) ++ (Ψ ++ (D, lstP ys) :: Φ)) →
      wpAny (model PR w) A (assign target env v) (fun _ s₃ => wTests w A (fun _ _ => False) ifs env (fun ok s₄ =>
        if ok = true then wpAny (model PR w) A (eval elt env) (fun y s₅ => LTurn h₀ s (own (i + 1)) D ys (J (i + 1) (ys ++ [y])) s₅) (fun _ _ => False) s₄ else LTurn h₀ s (own (i + 1)) D ys (J (i + 1) ys) s₄) s₃) (fun _ _ => False) s₁)
    (done : ∀ ys Φ s₁, J n ys Φ → Sm s s₁ → Own h₀ s₁.heap ((D, lstP ys) :: Φ) → R (.ok .next) s₁) :
    codeAny (model PR w) A (.compStart (.ListComp elt [⟨target, iter, ifs, 0⟩] scope pos) 0 (.ref I) (.ref D) env) R s := by
  have loop : codeAny (model PR w) A (.compLoop (.ListComp elt [⟨target, iter, ifs, 0⟩] scope pos) 0 (.ref I) (.ref D) env) R s := by
    refine compLoop_any (fun k s' => ∃ i ys Φ', k = n - i ∧ i ≤ n ∧ ys.length ≤ i ∧ Sm s s' ∧ Own h₀ s'.heap (own i ++ (D, lstP ys) :: Φ') ∧ J i ys Φ') ?_ n ⟨0, [], Φ, rfl, Nat.zero_le _, Nat.le_refl _, Sm.rfl, O, hJ⟩
    intro k s' jy0
    refine ex3 jy0 fun i ys Φ' jx0 => an6 jx0 fun jr00 hi hy e O' hJ' => ?_
    clear jx0 jy0
    subst jr00
    by_cases hlt : i < n
    · refine W.item i s' ((D, lstP ys) :: Φ') _ _ hlt O' (hN i ys Φ' hi hJ') fun v Ψ s₁ y hg => hg _ _ fun s₁' e₁ O₁ => ?_
      refine wpAny_mono (turn i v Ψ ys Φ' s₁' hlt hJ' y (e.tr e₁) O₁) (fun _ s₂ h2 => wpAny_mono h2 (fun ok s₃ h3 => ?_) fun _ _ x => x.elim) fun _ _ x => x.elim
      cases ok with
      | false =>
        obtain ⟨Φ'', e3, O3, j3⟩ := h3
        exact ⟨n - (i + 1), by lia, i + 1, ys, Φ'', rfl, hlt, by lia, e3, O3, j3⟩
      | true =>
        refine wpAny_mono h3 (fun y s₄ h4 => ?_) fun _ _ x => x.elim
        obtain ⟨Φ'', e3, O3, j3⟩ := h4
        refine lst_append O3 (List.mem_append_right _ List.mem_cons_self) (by lia) (upd_append Upd.head) fun s₅ e₅ O₅ => ?_
        exact ⟨n - (i + 1), by lia, i + 1, ys ++ [y], Φ'', rfl, hlt, by simp; lia, e3.tr e₅, O₅, j3⟩
    · have : i = n := by lia
      subst this
      exact W.done s' ((D, lstP ys) :: Φ') _ _ O' (hN i ys Φ' hi hJ') fun s₁ e₁ O₁ => done ys Φ' s₁ hJ' (e.tr e₁) O₁
  exact codeAny_compStart_list loop (W.self s _ _ _ O loop)
theorem Sm.back {a b c : Shared} (x : Sm a b) (y : Sm a c) : Sm b c := ⟨y.gens.trans x.gens.symm, y.drawn.trans x.drawn.symm, y.os.trans x.os.symm⟩
theorem perm_block {X K Φ : List Cell} {a b : Cell} : (X ++ a :: b :: (K ++ Φ)).Perm (K ++ b :: (X ++ a :: Φ)) := by
  have h1 : (X ++ a :: b :: (K ++ Φ)).Perm (b :: (X ++ a :: (K ++ Φ))) := ((List.Perm.swap _ _ _).append_left X).trans List.perm_middle
  refine h1.trans (List.Perm.trans (List.Perm.cons _ ?_) List.perm_middle.symm)
  have h2 : (X ++ a :: (K ++ Φ)) = (X ++ [a]) ++ (K ++ Φ) := by simp
  have h3 : (K ++ (X ++ a :: Φ)) = K ++ ((X ++ [a]) ++ Φ) := by simp
  rw [h2, h3, ← List.append_assoc, ← List.append_assoc]
  exact List.perm_append_comm.append_right Φ
theorem lc_block {elt target iter : Expr} {ifs : List Expr} {scope : Scope} {pos : Pos} {I : Addr} {n : Nat} {own : Nat → List Cell} {Nd : List Cell → Prop} {Y : Nat → Value → List Cell → Prop} {use : Option (Value → Sem Unit)} {Q : Value → Shared → Prop} {nm' cn fn gl' : List Str} {cl' : List (Str × Addr)}
    (V : EnvOK env L nm cl gl) (H : BlkOK scope nm' cn fn gl') (hcl : cl'.map (·.1) = fn.reverse) (W : IterT w A h₀ I target n own Nd Y)
    (hn : n ≤ 100000) (J : Addr → List (Str × Addr) → Nat → List Value → List Cell → Prop) (O : Own h₀ s.heap (own 0 ++ Φ))
    (start : ∀ C cs, cs.map (·.1) = cn.reverse → J C cs 0 [] (cell cs ++ (C, locP nm' (noneOf nm')) :: Φ)) (hN : ∀ C cs D i ys Φ, i ≤ n → J C cs i ys Φ → Nd ((D, lstP ys) :: Φ))
    (turn : ∀ C cs D cenv, EnvOK cenv C nm' (cs ++ cl') gl' → (∀ x ∈ cn, cenv.kindOf x = some .cell) → cenv.frame = env.frame → cs.map (·.1) = cn.reverse → ∀ i v Ψ ys Φ s₁, i < n → J C cs i ys Φ → Y i v Ψ → Sm s s₁ → Own h₀ s₁.heap (own (i + 1) ++ (Ψ ++ (D, lstP ys) :: Φ)) →
      wpAny (model PR w) A (assign target cenv v) (fun _ s₃ => wTests w A (fun _ _ => False) ifs cenv (fun ok s₄ =>
        if ok = true then wpAny (model PR w) A (eval elt cenv) (fun y s₅ => LTurn h₀ s (own (i + 1)) D ys (J C cs (i + 1) (ys ++ [y])) s₅) (fun _ _ => False) s₄ else LTurn h₀ s (own (i + 1)) D ys (J C cs (i + 1) ys) s₄) s₃) (fun _ _ => False) s₁)
    (done : ∀ C cs D ys Φ s₁, J C cs n ys Φ → Sm s s₁ → Own h₀ s₁.heap ((D, lstP ys) :: Φ) → compPost (model PR w) A E use Q (.ref D) C (.ok .next) s₁) :
    LC w A E use env elt target iter ifs scope cl' pos (.ref I) Q s := by
  unfold LC
  refine r_newLst O (fun D s₃ e₃ _ _ O₃ => ?_)
  refine r_newEnv (w := w) (A := A) (E := E) O₃ nm' fun s₄ C cs e₄ _ hc O₄ => ?_
  have hc' : cs.map (·.1) = cn.reverse := by rw [hc, H.cn]
  have O₅ : Own h₀ s₄.heap (own 0 ++ (D, lstP []) :: (cell cs ++ (C, locP nm' (noneOf nm')) :: Φ)) := O₄.perm perm_block
  refine lc_core (Φ := cell cs ++ (C, locP nm' (noneOf nm')) :: Φ) W hn (J C cs) O₅ (start C cs hc') (fun i ys Φ hi j => hN C cs D i ys Φ hi j) (fun i v Ψ ys Φ s₁ hi j y e O₁ => ?_) (fun ys Φ s₁ j e O₁ => done C cs D ys Φ s₁ j (e₃.tr (e₄.tr e)) O₁)
  have hS : ∀ {K : List Cell} {ys : List Value} {Jx : List Cell → Prop} {s' : Shared}, LTurn h₀ s K D ys Jx s' → LTurn h₀ s₄ K D ys Jx s' := fun ⟨Φ', e', r⟩ => ⟨Φ', (e₃.tr e₄).back e', r⟩
  refine wpAny_mono (turn C cs D _ (compV (C := C) V H hc' hcl) (compV_cell H) rfl hc' i v Ψ ys Φ s₁ hi j y (e₃.tr (e₄.tr e)) O₁) (fun _ s₃ h3 => wpAny_mono h3 (fun ok s₄ h4 => ?_) fun _ _ x => x) fun _ _ x => x
  cases ok with
  | false => exact hS h4
  | true => exact wpAny_mono h4 (fun y s₅ h5 => hS h5) fun _ _ x => x
/-- the end of a comprehension whose value is handed on -/
theorem post_none {C : Addr} {nm' : List Str} {vs : List (Option Value)} {Q : Value → Shared → Prop} {acc : Value} {Ψ : List Cell} (O : Own h₀ s.heap Φ) (x : Sel (C, locP nm' vs) Φ Ψ) (h : ∀ s', Sm s s' → Own h₀ s'.heap Ψ → Q acc s') :
    compPost (model PR w) A E none Q acc C (.ok .next) s := by
  have O' := x.own O
  exact ⟨_, locP_ns O'.head, fun h' hs => h _ ⟨rfl, rfl, rfl⟩ (O'.lose hs.extBut)⟩
theorem post_some {C : Addr} {Q : Value → Shared → Prop} {acc : Value} {u : Value → Sem Unit}
    (h : wpAny (model PR w) A (u acc) (fun _ s'' => ∃ Φ nm' vs Ψ, Own h₀ s''.heap Φ ∧ Sel (C, locP nm' vs) Φ Ψ ∧ ∀ s', Sm s'' s' → Own h₀ s'.heap Ψ → Q .none s') E s) :
    compPost (model PR w) A E (some u) Q acc C (.ok .next) s := by
  refine wpAny_mono h (fun _ s'' h'' => ?_) fun _ _ x => x
  obtain ⟨Φ, nm', vs, Ψ, O, x, h''⟩ := h''
  have O' := x.own O
  exact ⟨_, locP_ns O'.head, fun h' hs => h'' _ ⟨rfl, rfl, rfl⟩ (O'.lose hs.extBut)⟩
end
end
section
section
variable {w : World} {A : Around} {E : Value → Shared → Prop} {s : Shared} {h₀ : Heap} {Φ Φ' : List Cell} {env : Env} {L : Addr} {nm gl : List Str} {cl : List (Str × Addr)}
/-! ## dicts whose keys are texts -/
noncomputable def dctP (w : World) (kvs : List (Str × Value)) : Obj → Prop := fun o => o.IsDictOf (strKind PR w) kvs
noncomputable def dctEP (w : World) (kvs : List (Str × Value)) (ep : Nat) : Obj → Prop := fun o => ∃ es, o.ExactDict ∧ o.data = .dict es ep ∧ KeysOf (strKind PR w) es ∧ Pairs (strKind PR w) es.toList kvs ∧ (kvs.map (·.1)).Nodup
theorem dctP.of {h : Heap} {d : Addr} {kvs : List (Str × Value)} (H : ∃ o, h.get? d = some o ∧ dctP w kvs o) : h.DictOf (strKind PR w) d kvs := Heap.dictOf_iff.mpr H
theorem dctEP.of {h : Heap} {d : Addr} {ep : Nat} {kvs : List (Str × Value)} (H : ∃ o, h.get? d = some o ∧ dctEP w kvs ep o) : h.DictAt (strKind PR w) d kvs ep := let ⟨o, a, es, b⟩ := H; ⟨o, es, a, b⟩
theorem of_dictOf {h : Heap} {d : Addr} {kvs : List (Str × Value)} (H : h.DictOf (strKind PR w) d kvs) : ∃ o, h.get? d = some o ∧ dctP w kvs o := Heap.dictOf_iff.mp H
theorem Own.dict {d : Addr} {kvs : List (Str × Value)} {h : Heap} (O : Own h₀ h Φ) (hm : Has h₀ Φ d (dctP w kvs)) : h.DictOf (strKind PR w) d kvs := dctP.of (hm.get O)
theorem dctP.nodup {kvs : List (Str × Value)} {o : Obj} (h : dctP w kvs o) : (kvs.map (·.1)).Nodup := let ⟨_, _, _, _, _, _, n⟩ := h; n
noncomputable abbrev NS (d : Addr) : Prop := (d == sysModules) = false
theorem own_new {h : Heap} {P : Obj → Prop} {o : Obj} {G : Addr → Heap → Prop} (B : h.NoLimit) (O : Own h₀ h Φ) (hP : P o) (hf : o.isFreed = false) (hG : ∀ a h', h.get? a = none → NS a → Kp h h' → Own h₀ h' ((a, P) :: Φ) → G a h') : G h.objs.size (h.push o) := by
  have hn := get_none_size h
  have k : Kp h (h.push o) := fun _ _ e => Heap.get?_push_of_some o e
  refine hG _ _ hn ?_ k (O.new k (New.one hn ⟨o, Heap.get?_push_size _ hf, hP⟩))
  have := modules_low B
  rw [NS, beq_eq_false_iff_ne]
  exact (Nat.ne_of_lt this).symm
theorem r_dict0 {pos : Pos} {Q : Value → Shared → Prop} (B : Base w s.heap) (O : Own h₀ s.heap Φ) (h : ∀ d s', Sm s s' → s.heap.get? d = none → NS d → Kp s.heap s'.heap → Own h₀ s'.heap ((d, dctP w []) :: Φ) → Q (.ref d) s') :
    wpAny (model PR w) A (eval (.Dict [] [] pos) env) Q E s := by
  show wpAny _ A (do standAt pos; newDict) Q E s
  refine wpAny_bind (wpAny_standAt ?_)
  show wpAny _ _ (newObj (.type "dict") (.dict #[])) _ _ _
  refine wpAny_newObj_type ?_
  exact own_new (P := dctP w []) (G := fun d h' => Q (.ref d) { s with heap := h' }) B.nolimit O ⟨#[], 0, ⟨rfl, rfl, rfl⟩, rfl, fun _ he => by simp at he, Pairs.nil, List.nodup_nil⟩ rfl fun d h' a b c O' => h d _ Sm.mk' a b c O'
theorem r_set {d : Addr} {kvs : List (Str × Value)} {k : Str} {t : Tok} {v : Value} {Q : Unit → Shared → Prop} (O : Own h₀ s.heap Φ) (hm : (d, dctP w kvs) ∈ Φ) (hz : kvs.length ≤ 100000) (U : Upd d (dctP w (stored kvs k v)) Φ Φ')
    (h : ∀ s', Sm s s' → Own h₀ s'.heap Φ' → Q () s') : wpAny (model PR w) A (setItem (.ref d) (.str k t) v) Q E s :=
  wpAny_setItem_pairs (strKind_is _ _ k t) (dctP.of (O.get hm)) (fun h' hd hs => h _ Sm.mk' (O.upd U hs (of_dictOf hd))) (by rw [sizeLine_eq]; lia)
theorem r_dictSet {d : Addr} {kvs : List (Str × Value)} {k : Str} {t : Tok} {v : Value} {Q : Unit → Shared → Prop} (O : Own h₀ s.heap Φ) (hm : (d, dctP w kvs) ∈ Φ) (hz : kvs.length ≤ 100000) (U : Upd d (dctP w (stored kvs k v)) Φ Φ')
    (h : ∀ s', Sm s s' → Own h₀ s'.heap Φ' → Q () s') : wpAny (model PR w) A (dictSet d (.str k t) v) Q E s :=
  wpAny_dictSet_pairs (strKind_is _ _ k t) (dctP.of (O.get hm)) (fun h' hd hs => h _ Sm.mk' (O.upd U hs (of_dictOf hd))) (by rw [sizeLine_eq]; lia)
theorem r_in {d : Addr} {kvs : List (Str × Value)} {k : Str} {t : Tok} {Q : Value → Shared → Prop} (O : Own h₀ s.heap Φ) (hm : Has h₀ Φ d (dctP w kvs)) (hd : NS d) (h : ∀ s', Sm s s' → Own h₀ s'.heap Φ → Q (.bool (valueAt kvs k).isSome) s') :
    wpAny (model PR w) A (compareOp .In (.str k t) (.ref d)) Q E s := wpAny_in_of (strKind_is _ _ k t) hd (O.dict hm).mapOf (h _ Sm.mk' O)
theorem r_notin {d : Addr} {kvs : List (Str × Value)} {k : Str} {t : Tok} {Q : Value → Shared → Prop} (O : Own h₀ s.heap Φ) (hm : Has h₀ Φ d (dctP w kvs)) (hd : NS d) (h : ∀ s', Sm s s' → Own h₀ s'.heap Φ → Q (.bool (!(valueAt kvs k).isSome)) s') :
    wpAny (model PR w) A (compareOp .NotIn (.str k t) (.ref d)) Q E s := wpAny_notIn_of (strKind_is _ _ k t) hd (O.dict hm).mapOf (h _ Sm.mk' O)
theorem r_item {d : Addr} {kvs : List (Str × Value)} {k : Str} {t : Tok} {v : Value} {Q : Value → Shared → Prop} (O : Own h₀ s.heap Φ) (hm : Has h₀ Φ d (dctP w kvs)) (hv : valueAt kvs k = some v) (h : ∀ s', Sm s s' → Own h₀ s'.heap Φ → Q v s') :
    wpAny (model PR w) A (getItem (.ref d) (.str k t)) Q E s := wpAny_getItem_of (strKind_is _ _ k t) (O.dict hm).mapOf hv (h _ Sm.mk' O)
theorem r_sub {d : Addr} {kvs : List (Str × Value)} {k : Str} {t : Tok} {v : Value} {Q : Value → Shared → Prop} (O : Own h₀ s.heap Φ) (hm : Has h₀ Φ d (dctP w kvs)) (hv : valueAt kvs k = some v) (h : ∀ s', Sm s s' → Own h₀ s'.heap Φ → Q v s') :
    SubscriptOn (model PR w) A (.ref d) (.str k t) Q E s := ⟨"dict", _, slot_dict_getitem.lookup, (O.dict hm).typeIs, r_item O hm hv h⟩
/-- o.get(e) -/
theorem r_dget {o e : Expr} {apos pos : Pos} {Q : Value → Shared → Prop}
    (h : wpAny (model PR w) A (eval o env) (fun ov s₁ => ∃ d kvs h₀ Φ, ov = .ref d ∧ NS d ∧ Own h₀ s₁.heap Φ ∧ Has h₀ Φ d (dctP w kvs) ∧
      wpAny (model PR w) A (eval e env) (fun kv s₂ => ∃ k t h₁ Φ₁, kv = .str k t ∧ Own h₁ s₂.heap Φ₁ ∧ Has h₁ Φ₁ d (dctP w kvs) ∧ ∀ s', Sm s₂ s' → Own h₁ s'.heap Φ₁ → Q ((valueAt kvs k).getD .none) s') E s₁) E s)
    (hbase : attributeBase o "get" env (eval o env) = eval o env := by rfl) (hline : (apos.endLine == pos.line) = true := by rfl) (htrees : backTo pos (starEach [e] env) = [(false, eval e env)] := by rfl) :
    wpAny (model PR w) A (eval (.Call (.Attribute o "get" apos) [e] [] pos) env) Q E s := by
  refine wpAny_Call_method1_late hbase hline htrees (wpAny_mono h (fun ov s₁ h₁ => ?_) fun _ _ x => x)
  obtain ⟨d, kvs, h₀, Φ, rfl, hd, O, hm, h₁⟩ := h₁
  have D := O.dict hm
  refine ⟨"dict", "dict.get", F.plainAttrs_dict, F.slot_dict_get, F.type_dict_get, D.typeIs, D.mapOf.noDict, wpAny_dict_get1 (knd := strKind PR w) hd (wpAny_mono h₁ (fun kv s₂ h₂ => ?_) fun _ _ x => x)⟩
  obtain ⟨k, t, h₁, Φ₁, rfl, O₁, hm₁, h₂⟩ := h₂
  exact ⟨k, _, strKind_is _ _ k t, (O₁.dict hm₁).mapOf, h₂ _ Sm.mk' O₁⟩
theorem valueAt_stored {kvs : List (Str × Value)} {k x : Str} {v : Value} : valueAt (stored kvs k v) x = if x = k then some v else valueAt kvs x := by
  unfold stored
  split
  · rename_i h
    induction kvs with
    | nil => simp at h
    | cons p r ih =>
      obtain ⟨a, b⟩ := p
      rw [List.map_cons]
      by_cases ha : a = k
      · subst ha
        by_cases hx : x = a
        · subst hx; simp [valueAt]
        · have hx' : ¬ a = x := fun e => hx e.symm
          simp only [valueAt, if_true, List.find?_cons, hx', decide_false, if_neg hx]
          by_cases hr : (r.any fun kv => decide (kv.1 = a)) = true
          · have := ih hr; simp only [valueAt, if_neg hx] at this; exact this
          · congr 1
            clear ih h
            have : r.map (fun kv => if kv.1 = a then (kv.1, v) else kv) = r := by
              apply map_eq_self
              intro y hy
              have : ¬ y.1 = a := fun e => hr (List.any_eq_true.mpr ⟨y, hy, by simp [e]⟩)
              rw [if_neg this]
            rw [this]
      · have hr : (r.any fun kv => decide (kv.1 = k)) = true := by simpa [ha] using h
        have := ih hr
        simp only [if_neg ha]
        by_cases hx : a = x
        · subst hx
          simp [valueAt, ha]
        · simp only [valueAt, List.find?_cons, hx, decide_false] at this ⊢
          exact this
  · rename_i h
    have hk : ∀ p ∈ kvs, ¬ p.1 = k := fun p hp e => h (List.any_eq_true.mpr ⟨p, hp, by simp [e]⟩)
    clear h
    induction kvs with
    | nil =>
      by_cases hx : x = k
      · subst hx; simp [valueAt]
      · have : ¬ k = x := fun e => hx e.symm
        simp [valueAt, hx, this]
    | cons p r ih =>
      have := ih fun q hq => hk q (List.mem_cons_of_mem _ hq)
      have hp := hk p List.mem_cons_self
      simp only [valueAt, List.cons_append, List.find?_cons] at this ⊢
      by_cases hx : p.1 = x
      · have : ¬ x = k := fun e => hp (hx.trans e)
        simp [hx, this]
      · simp only [hx, decide_false]; exact this
theorem stored_keys {kvs : List (Str × Value)} {k : Str} {v : Value} : (stored kvs k v).map (·.1) = if k ∈ kvs.map (·.1) then kvs.map (·.1) else kvs.map (·.1) ++ [k] := by
  unfold stored
  by_cases h : (kvs.any fun kv => decide (kv.1 = k)) = true
  · rw [if_pos h]
    have : k ∈ kvs.map (·.1) := by
      obtain ⟨p, hp, e⟩ := List.any_eq_true.mp h
      exact List.mem_map.mpr ⟨p, hp, of_decide_eq_true e⟩
    rw [if_pos this, List.map_map]
    apply List.map_congr_left
    intro a _
    show (if a.1 = k then (a.1, v) else a).1 = a.1
    split <;> rfl
  · rw [if_neg h]
    have : k ∉ kvs.map (·.1) := fun hm => by
      obtain ⟨p, hp, e⟩ := List.mem_map.mp hm
      exact h (List.any_eq_true.mpr ⟨p, hp, by simp [e]⟩)
    rw [if_neg this, List.map_append]; rfl
/-! ## iterators: how they begin -/
theorem r_it_list {l : Addr} {xs : List Value} {Q : Value → Shared → Prop} (O : Own h₀ s.heap Φ) (hl : Has h₀ Φ l (lstP xs)) (h : ∀ I s', Sm s s' → Own h₀ s'.heap ((I, litP l 0) :: Φ) → Q (.ref I) s') : wpAny (model PR w) A (pyIter (.ref l)) Q E s := by
  refine wpAny_pyIter_list (lstP.is (hl.get O)) ?_
  exact own_push (P := litP l 0) (G := fun a h' => Q (.ref a) { s with heap := h' }) O ⟨rfl, rfl⟩ rfl fun I h' _ _ O' => h I _ Sm.mk' O'
theorem self_list {I l : Addr} (s : Shared) (Φ : List Cell) (Q : Value → Shared → Prop) (E : Value → Shared → Prop) (O : Own h₀ s.heap ((I, litP l 0) :: Φ)) (h : Q (.ref I) s) : wpAny (model PR w) A (pyIter (.ref I)) Q E s := wpAny_pyIter_listiter (litP.is O.head) h
theorem r_it_tuple {l : Addr} {xs : List Value} {Q : Value → Shared → Prop} (O : Own h₀ s.heap Φ) (hl : Has h₀ Φ l (tupP xs)) (h : ∀ I s', Sm s s' → Own h₀ s'.heap ((I, titP l 0) :: Φ) → Q (.ref I) s') : wpAny (model PR w) A (pyIter (.ref l)) Q E s := by
  refine wpAny_pyIter_tuple (tupP.is (hl.get O)) ?_
  exact own_push (P := titP l 0) (G := fun a h' => Q (.ref a) { s with heap := h' }) O ⟨rfl, rfl⟩ rfl fun I h' _ _ O' => h I _ Sm.mk' O'
theorem self_tuple {I l : Addr} (s : Shared) (Φ : List Cell) (Q : Value → Shared → Prop) (E : Value → Shared → Prop) (O : Own h₀ s.heap ((I, titP l 0) :: Φ)) (h : Q (.ref I) s) : wpAny (model PR w) A (pyIter (.ref I)) Q E s := wpAny_pyIter_tupleiter (titP.is O.head) h
noncomputable def kitP (d : Addr) (n ep i : Nat) : Obj → Prop := fun o => o.cls = .type "dict_keyiterator" ∧ o.data = .fields #[.ref d, .int i 0, .int n 0, .int ep 0]
theorem kitP.is {h : Heap} {I d : Addr} {n ep i : Nat} (H : ∃ o, h.get? I = some o ∧ kitP d n ep i o) : h.IsKeyIter I d i n ep := let ⟨o, e, a, b⟩ := H; ⟨o, e, a, b⟩
theorem r_it_dict {d : Addr} {kvs : List (Str × Value)} {ep : Nat} {Q : Value → Shared → Prop} (O : Own h₀ s.heap Φ) (hd : NS d) (hl : Has h₀ Φ d (dctEP w kvs ep)) (h : ∀ I s', Sm s s' → Own h₀ s'.heap ((I, kitP d kvs.length ep 0) :: Φ) → Q (.ref I) s') : wpAny (model PR w) A (pyIter (.ref d)) Q E s := by
  refine wpAny_pyIter_dict hd (dctEP.of (hl.get O)) ?_
  exact own_push (P := kitP d kvs.length ep 0) (G := fun a h' => Q (.ref a) { s with heap := h' }) O ⟨rfl, rfl⟩ rfl fun I h' _ _ O' => h I _ Sm.mk' O'
theorem self_dict {I d : Addr} {n ep : Nat} (s : Shared) (Φ : List Cell) (Q : Value → Shared → Prop) (E : Value → Shared → Prop) (O : Own h₀ s.heap ((I, kitP d n ep 0) :: Φ)) (h : Q (.ref I) s) : wpAny (model PR w) A (pyIter (.ref I)) Q E s := wpAny_pyIter_keyiter (kitP.is O.head) h
theorem iter_dict {I d : Addr} {kvs : List (Str × Value)} {ep : Nat} (hh : A.handled = none) : IterOK w A h₀ I kvs.length (fun i => [(I, kitP d kvs.length ep i)]) (fun Φ => Has h₀ Φ d (dctEP w kvs ep)) (fun i v Ψ => (∃ t k u, kvs[i]? = some (k, u) ∧ v = .str k t) ∧ Ψ = []) where
  item := fun i s Φ Q E hi O Nd h => by
    have hd := dctEP.of ((Nd.mono (Φ' := [(I, kitP d kvs.length ep i)] ++ Φ) fun p hp => List.mem_append_right _ hp).get O)
    refine wpAny_pyNext_dict_item (kitP.is O.head) hd (k := kvs[i].1) (v := kvs[i].2) (by simp [hi]) fun key h' hk hit hs => ?_
    obtain ⟨t, rfl⟩ : ∃ t, key = .str kvs[i].1 t := Value.isStrOf_shape hk
    refine h _ [] _ ⟨⟨t, kvs[i].1, kvs[i].2, by simp [hi], rfl⟩, rfl⟩ Sm.mk' ?_
    obtain ⟨o, e, a, b⟩ := hit
    exact O.upd (c := I) (P' := kitP d kvs.length ep (i + 1)) Upd.head hs ⟨o, e, a, b⟩
  done := fun s Φ Q E O Nd h => by
    have hd := dctEP.of ((Nd.mono (Φ' := [(I, kitP d kvs.length ep kvs.length)] ++ Φ) fun p hp => List.mem_append_right _ hp).get O)
    exact wpAny_pyNext_dict_end hh (kitP.is O.head) hd (by simp) fun h' hs => h _ Sm.mk' (Own.lose O hs)
theorem has_ep {d : Addr} {kvs : List (Str × Value)} {h : Heap} (H : ∃ o, h.get? d = some o ∧ dctP w kvs o) : ∃ ep, ∃ o, h.get? d = some o ∧ dctEP w kvs ep o := let ⟨o, a, es, ep, b⟩ := H; ⟨ep, o, a, es, b⟩
theorem dctEP.forget {kvs : List (Str × Value)} {ep : Nat} {o : Obj} (h : dctEP w kvs ep o) : dctP w kvs o := let ⟨es, b⟩ := h; ⟨es, ep, b⟩
/-- for a plain name -/
theorem r_tname {x : Str} {px : Pos} {it v : Value} {Q : Unit → Shared → Prop} (h : wpAny (model PR w) A (storeName env x v) Q E s) :
    wpAny (model PR w) A (letOwnedTupleGo (.Name x px) it v) (fun _ s₂ => wpAny (model PR w) A (assign (.Name x px) env v) Q E s₂) E s := by
  show wpAny _ _ (pure ()) _ _ _
  exact wpAny_pure (PyProof.Rows.assign_Name h)
end
end
section
section
open Sem (wp)
variable {prog : Program} {w : World} {A : Around} {E : Value → Shared → Prop} {s : Shared}
theorem nextOf_tuple_item {it l : Addr} {i : Nat} {items} {x : Value} {Q : Value → Shared → Prop} (hit : s.heap.IsTupleIter it l i)
    (hl : s.heap.IsTuple l items) (hx : items[i]? = some x)
    (hQ : ∀ h', h'.IsTupleIter it l (i + 1) → Heap.SameBut it s.heap h' → Q x { s with heap := h' }) :
    wpAny (model prog w) A (Builtin.SmallTypes.nextOf (.ref it)) Q E s := by
  obtain ⟨o, ho, hc, hd⟩ := id hit
  obtain ⟨ol, hol, _, nl, hdl⟩ := hl
  unfold Builtin.SmallTypes.nextOf
  refine wpAny_bind (wpAny_callSpecial?_slot (name := Str.ofString "__next__") hit.typeIs F.slot_tuple_iterator_next
    (wpAny_call_entry F.slot_tuple_iterator_next hit.typeIs F.entry_tuple_iterator_next ?_ (F.args_tuple_iterator_next_1 _)))
  show wpAny _ _ (field (.ref it) 0 >>= _) _ _ s
  refine wpAny_bind (wpAny_field ho hd (x := .ref l) rfl ?_)
  show wpAny _ _ (if (Value.ref l == Value.none) = true then _ else _) _ _ s
  rw [if_neg (show ¬ ((Value.ref l == Value.none) = true) from Bool.false_ne_true)]
  show wpAny _ _ (field (.ref it) 1 >>= _) _ _ s
  refine wpAny_bind (wpAny_field ho hd (x := .int i 0) rfl ?_)
  show wpAny _ _ (seqItems? (.ref l) >>= _) _ _ s
  refine wpAny_bind (wpAny_seqItems hol hdl ?_)
  simp -iota only [Int.toNat_natCast]; dsimp only; rw [hx]; dsimp only
  refine wpAny_bind (wpAny_setField ho hd (by simp) (wpAny_pure ⟨x, rfl, wpAny_pure (hQ _ ?_ (Heap.SameBut.update ..))⟩))
  exact ⟨_, Heap.get?_update_self _ ho (Obj.isFreed_of_fields (Obj.data_mapFields hd _)), (Obj.cls_mapFields ..).trans hc, by
    rw [Obj.data_mapFields hd]; simp [rawInt]⟩
theorem nextOf_tuple_end {it l : Addr} {i : Nat} {items} {Q : Value → Shared → Prop} (hh : A.handled = none)
    (hit : s.heap.IsTupleIter it l i) (hl : s.heap.IsTuple l items) (hx : items[i]? = none)
    (hE : ∀ h' e, Heap.ExtBut it s.heap h' → (∃ o, h'.get? e = some o ∧ o.cls = .type "StopIteration") → E (.ref e) { s with heap := h' }) :
    wpAny (model prog w) A (Builtin.SmallTypes.nextOf (.ref it)) Q E s := by
  obtain ⟨o, ho, hc, hd⟩ := id hit
  obtain ⟨ol, hol, _, nl, hdl⟩ := hl
  unfold Builtin.SmallTypes.nextOf
  refine wpAny_bind (wpAny_callSpecial?_slot (name := Str.ofString "__next__") hit.typeIs F.slot_tuple_iterator_next
    (wpAny_call_entry F.slot_tuple_iterator_next hit.typeIs F.entry_tuple_iterator_next ?_ (F.args_tuple_iterator_next_1 _)))
  show wpAny _ _ (field (.ref it) 0 >>= _) _ _ s
  refine wpAny_bind (wpAny_field ho hd (x := .ref l) rfl ?_)
  show wpAny _ _ (if (Value.ref l == Value.none) = true then _ else _) _ _ s
  rw [if_neg (show ¬ ((Value.ref l == Value.none) = true) from Bool.false_ne_true)]
  show wpAny _ _ (field (.ref it) 1 >>= _) _ _ s
  refine wpAny_bind (wpAny_field ho hd (x := .int i 0) rfl ?_)
  show wpAny _ _ (seqItems? (.ref l) >>= _) _ _ s
  refine wpAny_bind (wpAny_seqItems hol hdl ?_)
  simp -iota only [Int.toNat_natCast]; dsimp only; rw [hx]; dsimp only
  refine wpAny_bind (wpAny_rule (wpAny_bind (wpAny_setField ho hd (by simp) ?_)))
  show wpAny _ _ (newExc (.type "StopIteration") [] >>= _) _ _ _
  refine wpAny_bind ?_
  simp -iota only [newExc, newTuple]
  refine wpAny_bind (wpAny_newObj_type ?_ (by size_fits))
  refine wpAny_bind (m := firstArgMember _ _) (wpAny_of_eq (a := Value.none) (by first | rfl | (simp only [firstArgMember]; rfl)) ?_)
  refine wpAny_newObj_type ?_ (by size_fits)
  simp -iota only [raiseNew]
  refine wpAny_bind (wpAny_handled ?_)
  first | rw [show A.in1.handled = none from hh] | rw [hh]
  refine wpAny_bind (wpAny_pure (wpAny_throw ?_))
  exact hE _ _ (((Heap.SameBut.update ..).extBut.push _).push _) ⟨_, Heap.get?_push_size _ rfl, rfl⟩
theorem isTupIter_at {h h' : Heap} {a t i} (x : h.IsTupleIter a t i) (e : ∀ o, h.get? a = some o → h'.get? a = some o) : h'.IsTupleIter a t i := let ⟨o, ho, r⟩ := x; ⟨o, e o ho, r⟩
theorem isTuple_at {h h' : Heap} {a t} (x : h.IsTuple a t) (e : ∀ o, h.get? a = some o → h'.get? a = some o) : h'.IsTuple a t := let ⟨o, ho, r⟩ := x; ⟨o, e o ho, r⟩
theorem draws_tuple (hh : A.handled = none) (it l : Addr) (hne : l ≠ it) (items : Array Value) :
    Draws prog w A it [it, l] items.size (fun i v => items[i]? = some v) (fun i h => h.IsTupleIter it l i ∧ h.IsTuple l items) where
  live := fun _ _ st => let ⟨o, ho, _⟩ := st.1; ⟨o, ho⟩
  frame := fun _ _ _ st hk => ⟨isTupIter_at st.1 fun o e => hk it (by simp) o e, isTuple_at st.2 fun o e => hk l (by simp) o e⟩
  item := fun i s Q E hi st hQ => by
    refine nextOf_tuple_item st.1 st.2 (x := items[i]) (by simp [hi]) fun h' hit' hs' => ?_
    exact hQ _ h' s.toks (by simp [hi]) ⟨hit', isTuple_at st.2 fun o e => (hs'.2 l hne).trans e⟩ hs'
  done := fun s Q E st hE => nextOf_tuple_end hh st.1 st.2 (by simp) hE
end
section
variable {w : World} {A : Around} {E : Value → Shared → Prop} {s : Shared} {h₀ : Heap} {Φ Φ' : List Cell} {env : Env} {L : Addr} {nm gl : List Str} {cl : List (Str × Addr)}
open AutoSeq1 (wpAny_loadPart')
theorem meets_enumerate_newT (l : Addr) (items : Array Value) (n : Nat) :
    Meets (Builtin.«enumerate.__new__» ⟨[.type "enumerate", .ref l], []⟩) (fun _ R s => s.heap.get? l = some { cls := .type "tuple", data := .seq items n } ∧
      R (.ok (.ret (.ref (s.heap.push { cls := .type "tuple_iterator", data := .fields #[.ref l, .int 0 0] }).objs.size)))
        { s with heap := (s.heap.push { cls := .type "tuple_iterator", data := .fields #[.ref l, .int 0 0] }).push { cls := .type "enumerate", data := .fields #[.none, .bool false, .ref s.heap.objs.size, rawInt 0, .none, .none] } }) :=
  .of_wp fun prog w A R s h => by
    obtain ⟨hp, g, d, tk, os⟩ := s; obtain ⟨hl, h⟩ := h
    have hsub := sub_enumerate
    have hL : Heap.IsTuple (Shared.heap ⟨hp, g, d, tk, os⟩) l items := ⟨_, hl, rfl, n, rfl⟩
    wp_walk using wpAny_loadPart' hl
    refine wpAny_stack_any fun st => wpAny_pure ?_
    split
    · rename_i c _ _ _ _ _
      cases (c == Value.type "enumerate")
      · wp_walk using wpAny_loadPart' hl, wpAny_pyIter_tuple hL
        exact ⟨_, rfl, h⟩
      · wp_walk using wpAny_loadPart' hl, wpAny_pyIter_tuple hL
        exact ⟨_, rfl, h⟩
    · wp_walk using wpAny_loadPart' hl, wpAny_pyIter_tuple hL
      exact ⟨_, rfl, h⟩
noncomputable def enP (it : Addr) (i : Nat) : Obj → Prop := fun o => ∃ old, o = { cls := .type "enumerate", dict := none, data := .fields #[.none, .bool false, .ref it, rawInt i, .none, old], slots := #[] }
theorem own_pushed {h : Heap} {o : Obj} (O : Own h₀ h Φ) (P : Obj → Prop) (hP : P o) (hf : o.isFreed = false) : Own h₀ (h.push o) ((h.objs.size, P) :: Φ) :=
  own_push (P := P) (G := fun a h' => Own h₀ h' ((a, P) :: Φ)) O hP hf fun _ _ _ _ O' => O'
theorem r_enum_list {l : Addr} {xs : List Value} {Q : Value → Shared → Prop} (O : Own h₀ s.heap Φ) (hl : Has h₀ Φ l (lstP xs)) (h : ∀ e it s', Sm s s' → Own h₀ s'.heap ((e, enP it 0) :: (it, litP l 0) :: Φ) → Q (.ref e) s') :
    wpAny (model PR w) A (call (.type "enumerate") [.ref l]) Q E s := by
  obtain ⟨o, ho, n, rfl⟩ := hl.get O
  refine callType_new F.called_enumerate (by decide) (F.typeCall_enumerate_1 _) (F.newCall_enumerate_1 _) (fun obj => F.args_object_init_2 obj _) F.entry_enumerate_new
    (meets_enumerate_newL l xs.toArray n none #[]) ⟨ho, ?_⟩
  have O1 := own_pushed O (litP l 0) (o := { cls := .type "list_iterator", data := .fields #[.ref l, .int 0 0] }) ⟨rfl, rfl⟩ rfl
  have O2 := own_pushed O1 (enP s.heap.objs.size 0) (o := { cls := .type "enumerate", data := .fields #[.none, .bool false, .ref s.heap.objs.size, rawInt 0, .none, .none] }) ⟨_, rfl⟩ rfl
  refine ⟨⟨_, Heap.get?_push_size _ rfl, rfl⟩, h _ s.heap.objs.size _ Sm.mk' O2⟩
theorem r_enum_tuple {l : Addr} {xs : List Value} {Q : Value → Shared → Prop} (O : Own h₀ s.heap Φ) (hl : Has h₀ Φ l (tupP xs)) (h : ∀ e it s', Sm s s' → Own h₀ s'.heap ((e, enP it 0) :: (it, titP l 0) :: Φ) → Q (.ref e) s') :
    wpAny (model PR w) A (call (.type "enumerate") [.ref l]) Q E s := by
  obtain ⟨o, ho, rfl⟩ := hl.get O
  refine callType_new F.called_enumerate (by decide) (F.typeCall_enumerate_1 _) (F.newCall_enumerate_1 _) (fun obj => F.args_object_init_2 obj _) F.entry_enumerate_new
    (meets_enumerate_newT l xs.toArray 0) ⟨ho, ?_⟩
  have O1 := own_pushed O (titP l 0) (o := { cls := .type "tuple_iterator", data := .fields #[.ref l, .int 0 0] }) ⟨rfl, rfl⟩ rfl
  have O2 := own_pushed O1 (enP s.heap.objs.size 0) (o := { cls := .type "enumerate", data := .fields #[.none, .bool false, .ref s.heap.objs.size, rawInt 0, .none, .none] }) ⟨_, rfl⟩ rfl
  refine ⟨⟨_, Heap.get?_push_size _ rfl, rfl⟩, h _ s.heap.objs.size _ Sm.mk' O2⟩
theorem own_two {h h'' : Heap} {e it T : Addr} {P P' R R' S : Obj → Prop} (O : Own h₀ h ((e, P) :: (it, P') :: Φ)) (hk : ∀ b o, b ≠ e → b ≠ it → h.get? b = some o → h''.get? b = some o) (h1 : ∃ o, h''.get? e = some o ∧ R o) (h2 : ∃ o, h''.get? it = some o ∧ R' o)
    (hT : h.get? T = none) (h3 : ∃ o, h''.get? T = some o ∧ S o) : Own h₀ h'' ((e, R) :: (it, R') :: (T, S) :: Φ) := by
  have nd := O.nd
  rw [List.map_cons, List.map_cons, List.nodup_cons, List.nodup_cons] at nd
  have fe := O.fresh (c := e) (by simp)
  have fi := O.fresh (c := it) (by simp)
  have ne : ∀ {x : Addr} {o : Obj}, h.get? x = some o → x ≠ T := fun e' q => by rw [q, hT] at e'; cases e'
  have hTe : h₀.get? T = none := by
    cases q : h₀.get? T with
    | none => rfl
    | some o => exact absurd (O.keep _ _ q) (by rw [hT]; exact fun h => nomatch h)
  obtain ⟨oe, ge, _⟩ := O.get (c := e) List.mem_cons_self
  obtain ⟨oi, gi, _⟩ := O.get (c := it) (List.mem_cons_of_mem _ List.mem_cons_self)
  refine ⟨fun b o g => hk b o (fun q => by rw [q, fe] at g; cases g) (fun q => by rw [q, fi] at g; cases g) (O.keep b o g), fun p hp => ?_, ?_⟩
  · rcases List.mem_cons.mp hp with rfl | hp
    · exact ⟨fe, h1⟩
    rcases List.mem_cons.mp hp with rfl | hp
    · exact ⟨fi, h2⟩
    rcases List.mem_cons.mp hp with rfl | hp
    · exact ⟨hTe, h3⟩
    · obtain ⟨x, o, y, z⟩ := O.own p (List.mem_cons_of_mem _ (List.mem_cons_of_mem _ hp))
      exact ⟨x, o, hk _ _ (fun q => nd.1 (List.mem_cons_of_mem _ (List.mem_map.mpr ⟨p, hp, q⟩))) (fun q => nd.2.1 (List.mem_map.mpr ⟨p, hp, q⟩)) y, z⟩
  · simp only [List.map_cons, List.nodup_cons, List.mem_cons, not_or]
    refine ⟨⟨fun q => nd.1 (q ▸ List.mem_cons_self), ne ge, fun q => nd.1 (List.mem_cons_of_mem _ q)⟩, ⟨ne gi, nd.2.1⟩, fun q => ?_, nd.2.2⟩
    obtain ⟨p, hp, q⟩ := List.mem_map.mp q
    obtain ⟨x, o, y, z⟩ := O.own p (List.mem_cons_of_mem _ (List.mem_cons_of_mem _ hp))
    rw [q, hT] at y; cases y
/-- what an enumerate yields -/
noncomputable def enY (xs : List Value) (i : Nat) (v : Value) (Ψ : List Cell) : Prop := ∃ T t x, xs[i]? = some x ∧ v = .ref T ∧ Ψ = [(T, tupP [.int i t, x])]
theorem has_ne {h : Heap} {l e : Addr} {P R : Obj → Prop} (O : Own h₀ h ((e, R) :: Φ)) (H : Has h₀ Φ l P) : l ≠ e := by
  have nd := O.nd
  rw [List.map_cons, List.nodup_cons] at nd
  cases H with
  | base H => obtain ⟨o, g, _⟩ := H; intro q; rw [q, O.fresh (by simp)] at g; cases g
  | cell H => exact fun q => nd.1 (List.mem_map.mpr ⟨_, H, q⟩)
theorem iter_enum {e it : Addr} {target : Expr} {elts : List Expr} {k pos} {n : Nat} {fp : List Addr} {St : Nat → Heap → Prop} {xs : List Value} {itP : Nat → Obj → Prop} {Nd : List Cell → Prop} (ht : target = .Tuple elts k pos) (hn : n = xs.length) (hfp : ∀ b ∈ fp, b = it ∨ ∃ P, ∀ Φ, Nd Φ → Has h₀ Φ b P)
    (D : Draws PR w A.in1 it fp n (fun i v => xs[i]? = some v) St)
    (hst : ∀ i h Φ, Own h₀ h ((it, itP i) :: Φ) → Nd Φ → St i h) (hts : ∀ i h, St i h → ∃ o, h.get? it = some o ∧ itP i o) :
    IterT w A h₀ e target n (fun i => [(e, enP it i), (it, itP i)]) Nd (enY xs) where
  item := fun i s Φ Q E hi O Nd h => by
    subst ht
    obtain ⟨oe, ge, old, rfl⟩ := O.get (c := e) List.mem_cons_self
    have nd := O.nd
    simp only [List.cons_append, List.nil_append, List.map_cons, List.nodup_cons, List.mem_cons, not_or] at nd
    have hst' : St i s.heap := hst i _ Φ O.drop Nd
    have hef : e ∉ fp := fun hm => by
      rcases hfp e hm with q | ⟨P, q⟩
      · exact nd.1.1 q
      · exact has_ne (O.perm (List.Perm.swap _ _ _)).drop (q Φ Nd) rfl
    refine wpAny_pyNext_enum_itemD D ge hst' hi nd.1.1 hef fun x h' tk hx ho hs' hT hz hk => ?_
    refine h _ [(s.heap.objs.size, tupP [.int i tk, x])] _ ⟨_, tk, x, hx, rfl, rfl⟩ fun Q' E' hq => ?_
    refine wpAny_letOwnedTupleGo_enum ho fun h'' he hs => hq _ Sm.mk' ?_
    have key := own_two (h'' := h'') (T := s.heap.objs.size) (R := enP it (i + 1)) (R' := itP (i + 1)) (S := tupP [.int i tk, x]) O (fun b o b1 b2 g => (hs.2 b b1).trans (hk b o b1 b2 g)) ⟨_, he, _, rfl⟩ (by
      obtain ⟨o, g, p⟩ := hts _ _ hs'
      exact ⟨o, (hs.2 it (fun q => nd.1.1 q.symm)).trans g, p⟩) (get_none_size _) ⟨_, (hs.2 _ (fun q => by have := Heap.lt_size ge; rw [← q] at this; exact Nat.lt_irrefl _ this)).trans hT, rfl⟩
    exact key
  done := fun s Φ Q E O Nd h => by
    obtain ⟨oe, ge, old, rfl⟩ := O.get (c := e) List.mem_cons_self
    have hst' : St n s.heap := hst n _ Φ O.drop Nd
    refine wpAny_pyNext_enum_endD D ge hst' fun h' he => h _ Sm.mk' ?_
    exact (O.perm (List.Perm.swap _ _ _)).lose he |>.drop
  self := fun s Φ Q E O h => by
    obtain ⟨oe, ge, old, rfl⟩ := O.get (c := e) List.mem_cons_self
    exact wpAny_pyIter_enum ge h
theorem iter_enum_list {e it l : Addr} {elts : List Expr} {k pos} {xs : List Value} (hh : A.handled = none) (hne : l ≠ it) :
    IterT w A h₀ e (.Tuple elts k pos) xs.length (fun i => [(e, enP it i), (it, litP l i)]) (fun Φ => Has h₀ Φ l (lstP xs)) (enY xs) := by
  have D := Draws.list (prog := PR) (w := w) (A := A.in1) hh it l hne xs.toArray
  refine iter_enum rfl rfl (fp := [it, l]) (fun b hb => ?_) (n := xs.length) (St := fun i h => h.IsListIter it l i ∧ h.IsList l xs.toArray) (by simpa using D) (fun i h Φ O Nd => ⟨litP.is O.head, lstP.is ((Nd.mono (Φ' := (it, litP l i) :: Φ) fun p hp => List.mem_cons_of_mem _ hp).get O)⟩) (fun i h ⟨⟨o, a, b, c⟩, _⟩ => ⟨o, a, b, c⟩)
  rcases List.mem_cons.mp hb with rfl | hb
  · exact .inl rfl
  · rw [List.mem_singleton.mp hb]; exact .inr ⟨_, fun Φ h => h⟩
theorem iter_enum_tuple {e it l : Addr} {elts : List Expr} {k pos} {xs : List Value} (hh : A.handled = none) (hne : l ≠ it) :
    IterT w A h₀ e (.Tuple elts k pos) xs.length (fun i => [(e, enP it i), (it, titP l i)]) (fun Φ => Has h₀ Φ l (tupP xs)) (enY xs) := by
  have D := draws_tuple (prog := PR) (w := w) (A := A.in1) hh it l hne xs.toArray
  refine iter_enum rfl rfl (fp := [it, l]) (fun b hb => ?_) (n := xs.length) (St := fun i h => h.IsTupleIter it l i ∧ h.IsTuple l xs.toArray) (by simpa using D) (fun i h Φ O Nd => ⟨titP.is O.head, tupP.is ((Nd.mono (Φ' := (it, titP l i) :: Φ) fun p hp => List.mem_cons_of_mem _ hp).get O)⟩) (fun i h ⟨⟨o, a, b, c⟩, _⟩ => ⟨o, a, b, c⟩)
  rcases List.mem_cons.mp hb with rfl | hb
  · exact .inl rfl
  · rw [List.mem_singleton.mp hb]; exact .inr ⟨_, fun Φ h => h⟩
/-- a, b = t, of a tuple that stands -/
theorem r_pair {a b : Str} {pa pb tp : Pos} {k} {T : Addr} {x y : Value} {Q : Unit → Shared → Prop} (hh : A.handled = none) (O : Own h₀ s.heap Φ) (hm : Has h₀ Φ T (tupP [x, y]))
    (h : ∀ s', Sm s s' → Own h₀ s'.heap Φ → wpAny (model PR w) A (storeName env a x) (fun _ s₂ => wpAny (model PR w) A (storeName env b y) Q E s₂) E s') :
    wpAny (model PR w) A (assign (.Tuple [.Name a pa, .Name b pb] k tp) env (.ref T)) Q E s := by
  refine wpAny_assign_Tuple (items := #[x, y]) hh (tupP.is (hm.get O)) rfl rfl fun h' hx => ?_
  have hn := get_none_size s.heap
  have k : Kp s.heap h' := fun b o e => hx b o (fun q => by rw [q, hn] at e; cases e) e
  refine wpAny_assignInOrder_more (PyProof.Rows.assign_Name (wpAny_mono (h _ Sm.mk' (O.kp k)) (fun _ s₂ h₂ => ?_) fun _ _ x => x))
  exact wpAny_assignInOrder_more (PyProof.Rows.assign_Name (wpAny_mono h₂ (fun _ s₃ h₃ => wpAny_assignInOrder_none h₃) fun _ _ x => x))
end
end
section
section
variable {w : World} {A : Around} {E : Value → Shared → Prop} {s : Shared} {h₀ : Heap} {Φ Φ' : List Cell} {env : Env} {L : Addr} {nm gl : List Str} {cl : List (Str × Addr)}
theorem r_forT {target : Expr} {body : List Stmt} {I : Addr} {n : Nat} {own : Nat → List Cell} {Nd : List Cell → Prop} {Y : Nat → Value → List Cell → Prop} {Q : Flow → Shared → Prop} (W : IterT w A h₀ I target n own Nd Y)
    (J : Nat → List Cell → Prop) (O : Own h₀ s.heap (own 0 ++ Φ)) (hJ : J 0 Φ) (hN : ∀ i Φ, i ≤ n → J i Φ → Nd Φ)
    (turn : ∀ i v Ψ Φ s₁, i < n → J i Φ → Y i v Ψ → Sm s s₁ → Own h₀ s₁.heap (own (i + 1) ++ (Ψ ++ Φ)) →
      wpAny (model PR w) A (assign target env v) (fun _ s₂ => wpAny (model PR w) A (execs body env) (Turn h₀ s (own (i + 1)) (J (i + 1)) Q) (fun _ _ => False) s₂) (fun _ _ => False) s₁)
    (done : ∀ Φ s₁, J n Φ → Sm s s₁ → Own h₀ s₁.heap Φ → Q .next s₁) :
    codeAny (model PR w) A (.forLoop target (.ref I) body [] env) (fun r s' => match r with | .ok f => Q f s' | .error e => cameBackBy (model PR w) A env E e s') s := by
  refine codeAny_forLoop_any (fun k s' => ∃ i Φ', k = n - i ∧ i ≤ n ∧ Sm s s' ∧ Own h₀ s'.heap (own i ++ Φ') ∧ J i Φ') ?_ n ⟨0, Φ, rfl, Nat.zero_le _, Sm.rfl, O, hJ⟩
  intro k s' jy0
  refine ex2 jy0 fun i Φ' jx0 => an5 jx0 fun jr00 hi e O' hJ' => ?_
  clear jx0 jy0
  subst jr00
  by_cases hlt : i < n
  · refine W.item i s' Φ' _ _ hlt O' (hN i Φ' hi hJ') fun v Ψ s₁ y hg => hg _ _ fun s₁' e₁ O₁ => ?_
    refine wpAny_mono (turn i v Ψ Φ' s₁' hlt hJ' y (e.tr e₁) O₁) (fun _ s₂ h2 => wpAny_mono h2 (fun f s₃ h3 => ?_) fun _ _ x => x.elim) fun _ _ x => x.elim
    cases f with
    | next => obtain ⟨Φ'', e3, O3, j3⟩ := h3; exact ⟨n - (i + 1), by lia, i + 1, Φ'', rfl, hlt, e3, O3, j3⟩
    | cont => obtain ⟨Φ'', e3, O3, j3⟩ := h3; exact ⟨n - (i + 1), by lia, i + 1, Φ'', rfl, hlt, e3, O3, j3⟩
    | brk => exact h3
    | ret v => exact h3
  · have : i = n := by lia
    subst this
    exact W.done s' Φ' _ _ O' (hN i Φ' hi hJ') fun s₁ e₁ O₁ => wpAny_execs_nil (done Φ' s₁ hJ' (e.tr e₁) O₁)
/-! ## dict comprehensions -/
theorem dictLoop_any {kx vx target iter : Expr} {ifs : List Expr} {scope : Scope} {pos : Pos} {it : Value} {D : Addr} {env : Env} {R : Result → Shared → Prop} (I : Nat → Shared → Prop)
    (turn : ∀ n s, I n s → wpAny (model PR w) A (pyNext it) (fun r s₁ => match r with
      | none => R (.ok .next) s₁
      | some v => wpAny (model PR w) A (letOwnedTupleGo target it v) (fun _ s₁' => wpAny (model PR w) A (assign target env v) (fun _ s₂ => wTests w A (fun _ _ => False) ifs env (fun ok s₃ =>
            if ok = true then wpAny (model PR w) A (eval kx env) (fun kv s₄ => wpAny (model PR w) A (eval vx env) (fun vv s₅ =>
              wpAny (model PR w) A (dictSet D kv vv) (fun _ s₆ => ∃ m, m < n ∧ I m s₆) (fun _ _ => False) s₅) (fun _ _ => False) s₄) (fun _ _ => False) s₃
            else ∃ m, m < n ∧ I m s₃) s₂) (fun _ _ => False) s₁') (fun _ _ => False) s₁) (fun _ _ => False) s)
    (n : Nat) (h : I n s) : codeAny (model PR w) A (.compLoop (.DictComp kx vx [⟨target, iter, ifs, 0⟩] scope pos) 0 it (.ref D) env) R s := by
  refine codeAny_loop rfl I (fun n s hI => ?_) n h
  show wpAny _ A ((compTurn (.DictComp kx vx [⟨target, iter, ifs, 0⟩] scope pos) 0 it (.ref D) env).onRaise (fun x => do noteFrame x env; theTreesLotGoes x)) _ _ s
  refine wpAny_noted ?_
  rw [compTurn_dict]
  refine wpAny_bind (wpAny_standAt (wpAny_bind (wpAny_mono (turn n s hI) (fun r s₁ h₁ => ?_) fun _ _ h' => h'.elim)))
  cases r with
  | none => exact wpAny_pure h₁
  | some v =>
    refine wpAny_bind (wpAny_mono h₁ (fun _ s₁' h₁' => ?_) fun _ _ h' => h'.elim)
    refine wpAny_bind (wpAny_mono h₁' (fun _ s₂ h₂ => wpAny_bind (wpAny_mono h₂ (fun ok s₃ h₃ => ?_) fun _ _ h' => h'.elim)) fun _ _ h' => h'.elim)
    cases ok with
    | false => exact wpAny_pure ⟨rfl, h₃⟩
    | true =>
      exact wpAny_bind (wpAny_bind (wpAny_mono h₃ (fun kv s₄ h₄ => wpAny_bind (wpAny_holding (wpAny_mono h₄ (fun vv s₅ h₅ => wpAny_bind (wpAny_standAt (wpAny_holding (wpAny_mono h₅ (fun _ s₆ h₆ => wpAny_pure ⟨rfl, h₆⟩) fun _ _ h' => h'.elim)))) fun _ _ h' => h'.elim))) fun _ _ h' => h'.elim))
noncomputable def DC (w : World) (A : Around) (E : Value → Shared → Prop) (env : Env) (kx vx target iter : Expr) (ifs : List Expr) (scope : Scope) (cl' : List (Str × Addr)) (pos : Pos) (it : Value) (Q : Value → Shared → Prop) (s : Shared) : Prop :=
  wpAny (model PR w) A newDict (fun acc s₃ => wpAny (model PR w) A (newFunctionEnv scope env.globals cl' [] env.qual none .none (some env)) (fun cenv s₄ =>
    codeAny (model PR w) A (.compStart (.DictComp kx vx [⟨target, iter, ifs, 0⟩] scope pos) 0 it acc { cenv with scope := relabel scope env }) (compPost (model PR w) A E none Q acc cenv.locals) s₄) E s₃) E s
theorem r_dc {kx vx target iter : Expr} {ifs : List Expr} {scope : Scope} {pos : Pos} {Q : Value → Shared → Prop} {nm' cn fn gl' : List Str} {cl' : List (Str × Addr)} (V : EnvOK env L nm cl gl) (H : BlkOK scope nm' cn fn gl') (hcl : cl'.map (·.1) = fn.reverse) (hsub : ∀ p ∈ cl', p ∈ cl)
    (h : wpAny (model PR w) A (eval iter env) (fun xv s₁ => wpAny (model PR w) A (pyIter xv) (fun it s₂ => DC w A E env kx vx target iter ifs scope cl' pos it Q s₂) E s₁) E s)
    (hs : ∀ x, foldedSetIterable iter env x = pure x := by intro _; rfl) :
    wpAny (model PR w) A (eval (.DictComp kx vx [⟨target, iter, ifs, 0⟩] scope pos) env) Q E s := by
  rw [arm_eval_DictComp]
  exact wpAny_comprehension_free (use := none) rfl hs (closure_of V H hcl hsub) H.kind H.loc h
noncomputable def DTurn (w : World) (h₀ : Heap) (s : Shared) (K : List Cell) (D : Addr) (ys : List (Str × Value)) (J : List Cell → Prop) (s' : Shared) : Prop := ∃ Φ', Sm s s' ∧ Own h₀ s'.heap (K ++ (D, dctP w ys) :: Φ') ∧ J Φ'
theorem stored_len {kvs : List (Str × Value)} {k : Str} {v : Value} : (stored kvs k v).length ≤ kvs.length + 1 := stored_length_le kvs k v
theorem dc_block {kx vx target iter : Expr} {ifs : List Expr} {scope : Scope} {pos : Pos} {I : Addr} {n : Nat} {own : Nat → List Cell} {Nd : List Cell → Prop} {Y : Nat → Value → List Cell → Prop} {Q : Value → Shared → Prop} {nm' cn fn gl' : List Str} {cl' : List (Str × Addr)}
    (B : Base w s.heap) (V : EnvOK env L nm cl gl) (H : BlkOK scope nm' cn fn gl') (hcl : cl'.map (·.1) = fn.reverse) (W : IterT w A h₀ I target n own Nd Y)
    (hn : n ≤ 100000) (J : Addr → List (Str × Addr) → Nat → List (Str × Value) → List Cell → Prop) (O : Own h₀ s.heap (own 0 ++ Φ))
    (start : ∀ C cs, cs.map (·.1) = cn.reverse → J C cs 0 [] (cell cs ++ (C, locP nm' (noneOf nm')) :: Φ)) (hN : ∀ C cs D i ys Φ, i ≤ n → J C cs i ys Φ → Nd ((D, dctP w ys) :: Φ))
    (turn : ∀ C cs D cenv, EnvOK cenv C nm' (cs ++ cl') gl' → (∀ x ∈ cn, cenv.kindOf x = some .cell) → cenv.frame = env.frame → cs.map (·.1) = cn.reverse → ∀ i v Ψ ys Φ s₁, i < n → J C cs i ys Φ → Y i v Ψ → Sm s s₁ → Own h₀ s₁.heap (own (i + 1) ++ (Ψ ++ (D, dctP w ys) :: Φ)) →
      wpAny (model PR w) A (assign target cenv v) (fun _ s₃ => wTests w A (fun _ _ => False) ifs cenv (fun ok s₄ =>
        if ok = true then wpAny (model PR w) A (eval kx cenv) (fun kv s₅ => wpAny (model PR w) A (eval vx cenv) (fun vv s₆ => ∃ k t, kv = .str k t ∧ DTurn w h₀ s (own (i + 1)) D ys (J C cs (i + 1) (stored ys k vv)) s₆) (fun _ _ => False) s₅) (fun _ _ => False) s₄
        else DTurn w h₀ s (own (i + 1)) D ys (J C cs (i + 1) ys) s₄) s₃) (fun _ _ => False) s₁)
    (done : ∀ C cs D ys Φ s₁, NS D → J C cs n ys Φ → Sm s s₁ → Own h₀ s₁.heap ((D, dctP w ys) :: Φ) → compPost (model PR w) A E none Q (.ref D) C (.ok .next) s₁) :
    DC w A E env kx vx target iter ifs scope cl' pos (.ref I) Q s := by
  unfold DC
  show wpAny _ _ (newObj (.type "dict") (.dict #[])) _ _ _
  refine wpAny_newObj_type ?_
  refine own_new (P := dctP w []) (G := fun d h' => wpAny (model PR w) A (newFunctionEnv scope env.globals cl' [] env.qual none .none (some env)) (fun cenv s₄ =>
    codeAny (model PR w) A (.compStart (.DictComp kx vx [⟨target, iter, ifs, 0⟩] scope pos) 0 (.ref I) (.ref d) { cenv with scope := relabel scope env }) (compPost (model PR w) A E none Q (.ref d) cenv.locals) s₄) E { s with heap := h' }) B.nolimit O ⟨#[], 0, ⟨rfl, rfl, rfl⟩, rfl, fun _ he => by simp at he, Pairs.nil, List.nodup_nil⟩ rfl fun D h' _ nsD _ O₃ => ?_
  refine r_newEnv (w := w) (A := A) (E := E) (s := { s with heap := h' }) O₃ nm' fun s₄ C cs e₄ _ hc O₄ => ?_
  have hc' : cs.map (·.1) = cn.reverse := by rw [hc, H.cn]
  have O₅ : Own h₀ s₄.heap (own 0 ++ (D, dctP w []) :: (cell cs ++ (C, locP nm' (noneOf nm')) :: Φ)) := O₄.perm perm_block
  have e₃ : Sm s { s with heap := h' } := ⟨rfl, rfl, rfl⟩
  have start' := start C cs hc'
  show codeAny _ _ (.compStart (.DictComp kx vx [⟨target, iter, ifs, 0⟩] scope pos) 0 (.ref I) (.ref D) (compEnvC scope (cs ++ cl') C env)) (compPost (model PR w) A E none Q (.ref D) C) s₄
  have loop : codeAny (model PR w) A (.compLoop (.DictComp kx vx [⟨target, iter, ifs, 0⟩] scope pos) 0 (.ref I) (.ref D) (compEnvC scope (cs ++ cl') C env)) (compPost (model PR w) A E none Q (.ref D) C) s₄ := by
    refine dictLoop_any (fun k s' => ∃ i ys Φ', k = n - i ∧ i ≤ n ∧ ys.length ≤ i ∧ Sm s s' ∧ Own h₀ s'.heap (own i ++ (D, dctP w ys) :: Φ') ∧ J C cs i ys Φ') ?_ n ⟨0, [], _, rfl, Nat.zero_le _, Nat.le_refl _, e₃.tr e₄, O₅, start'⟩
    intro k s' jy0
    refine ex3 jy0 fun i ys Φ' jx0 => an6 jx0 fun jr00 hi hy e O' hJ' => ?_
    clear jx0 jy0
    subst jr00
    by_cases hlt : i < n
    · refine W.item i s' ((D, dctP w ys) :: Φ') _ _ hlt O' (hN C cs D i ys Φ' hi hJ') fun v Ψ s₁ y hg => hg _ _ fun s₁' e₁ O₁ => ?_
      refine wpAny_mono (turn C cs D _ (compV (C := C) V H hc' hcl) (compV_cell H) rfl hc' i v Ψ ys Φ' s₁' hlt hJ' y (e.tr e₁) O₁) (fun _ s₂ h2 => wpAny_mono h2 (fun ok s₃ h3 => ?_) fun _ _ x => x.elim) fun _ _ x => x.elim
      cases ok with
      | false =>
        obtain ⟨Φ'', e3, O3, j3⟩ := h3
        exact ⟨n - (i + 1), by lia, i + 1, ys, Φ'', rfl, hlt, by lia, e3, O3, j3⟩
      | true =>
        refine wpAny_mono h3 (fun kv s₄ h4 => wpAny_mono h4 (fun vv s₅ h5 => ?_) fun _ _ x => x.elim) fun _ _ x => x.elim
        obtain ⟨kk, t, rfl, Φ'', e3, O3, j3⟩ := h5
        refine r_dictSet O3 (List.mem_append_right _ List.mem_cons_self) (by lia) (upd_append Upd.head) fun s₆ e₆ O₆ => ?_
        exact ⟨n - (i + 1), by lia, i + 1, stored ys kk vv, Φ'', rfl, hlt, by have := @stored_len ys kk vv; lia, e3.tr e₆, O₆, j3⟩
    · have : i = n := by lia
      subst this
      exact W.done s' ((D, dctP w ys) :: Φ') _ _ O' (hN C cs D i ys Φ' hi hJ') fun s₁ e₁ O₁ => done C cs D ys Φ' s₁ nsD hJ' (e.tr e₁) O₁
  exact codeAny_compStart_dict loop (W.self s₄ _ _ _ O₅ loop)
end
end
section
section
variable {w : World} {A : Around} {E : Value → Shared → Prop} {s : Shared} {h₀ : Heap} {Φ Φ' : List Cell} {env : Env} {L : Addr} {nm gl : List Str} {cl : List (Str × Addr)}
theorem r_expr {e : Expr} {pos : Pos} {Q : Flow → Shared → Prop} (V : EnvOK env L nm cl gl) (h : wpAny (model PR w) A (eval e env) (fun v s' => match v with | .ref _ => False | _ => Q .next s') E s)
    (hs : swapsWith e none pos.line env = pure false := by rfl) : wpAny (model PR w) A (exec (.Expr e pos) env) Q E s :=
  wpAny_Expr h (by unfold interactive; rw [V.kind]; rfl) hs
theorem Own.lstHere' {a : Addr} {vs : List Value} (O : Own h₀ s.heap Φ) (hm : Has h₀ Φ a (lstP vs)) : s.TypeIs (.ref a) "list" ∧ ∀ b, Value.ref a = .ref b → ∃ ob, s.heap.get? b = some ob ∧ ob.dict = none := by
  obtain ⟨o, e, n, rfl⟩ := hm.get O
  exact ⟨⟨_, e, rfl⟩, fun b eb => by cases eb; exact ⟨_, e, rfl⟩⟩
/-- l.append(e), a statement of its own -/
theorem r_append {o e : Expr} {apos pos spos : Pos} {Q : Flow → Shared → Prop} (V : EnvOK env L nm cl gl)
    (h : wpAny (model PR w) A (eval o env) (fun ov s₁ => ∃ l xs, ov = .ref l ∧ (∃ o, s₁.heap.get? l = some o ∧ lstP xs o) ∧
      wpAny (model PR w) A (eval e env) (fun v s₂ => ∃ h₀ Φ Φ' xs, Own h₀ s₂.heap Φ ∧ (l, lstP xs) ∈ Φ ∧ xs.length ≤ 100000 ∧ Upd l (lstP (xs ++ [v])) Φ Φ' ∧ ∀ s', Sm s₂ s' → Own h₀ s'.heap Φ' → Q .next s') E s₁) E s)
    (hbase : attributeBase o "append" env (eval o env) = eval o env := by rfl) (hline : (apos.endLine == pos.line) = true := by rfl)
    (hfew : ((backTo pos (starEach [e] env)).all (fun x => !x.1) && (backToKw pos (keywordEach [] env)).all (fun x => x.1.isSome)
      && decide ([e].length + ([] : List Keyword).length + (if ([] : List Keyword).isEmpty then 0 else 1) < 30)) = true := by rfl)
    (he : starEach [e] env = (false, eval e env) :: starEach [] env := by rfl)
    (hs : swapsWith (.Call (.Attribute o "append" apos) [e] [] pos) none spos.line env = pure false := by rfl) :
    wpAny (model PR w) A (exec (.Expr (.Call (.Attribute o "append" apos) [e] [] pos) spos) env) Q E s := by
  refine r_expr V (r_meth PySem.F.plainAttrs_list PySem.F.slot_list_append PySem.F.type_list_append (wpAny_mono h (fun ov s₁ h₁ => ?_) fun _ _ x => x) hbase hfew hline he) hs
  obtain ⟨l, xs, rfl, ⟨o, e, n, rfl⟩, h₁⟩ := h₁
  refine ⟨⟨⟨_, e, rfl⟩, fun b eb => by cases eb; exact ⟨_, e, rfl⟩⟩, r_arg (wpAny_mono h₁ (fun v s₂ h₂ => r_args ?_) fun _ _ x => x) he⟩
  obtain ⟨h₀, Φ, Φ', xs, O, hm, hz, U, h₂⟩ := h₂
  exact lst_append O hm hz U fun s' e' O' => h₂ s' e' O'
/-! ## slices of lists and tuples -/
theorem r_lslice {value slice : Expr} {l : Addr} {xs : List Value} {vl vu : Value} {lo hi : Option Int} {Q : Value → Shared → Prop} (O : Own h₀ s.heap Φ) (hl : Has h₀ Φ l (lstP xs)) (pl : IsPart vl lo) (pu : IsPart vu hi) (hz : xs.length ≤ 100000)
    (h : ∀ a s', Sm s s' → Own h₀ s'.heap ((a, lstP (slicePick xs.toArray lo hi none).toList) :: Φ) → Q (.ref a) s')
    (hs : subscripted slice false (.ref l) (.ref s.heap.objs.size) = operate [.ref s.heap.objs.size, .ref l] (getItem (.ref l) (.ref s.heap.objs.size)) := by with_unfolding_all rfl)
    (ht : ∀ r, letTemporaryGo value (.ref l) r = pure () := by intro _; with_unfolding_all rfl) :
    wpAny (model PR w) A (subscriptTail value slice (.ref l) (.ref s.heap.objs.size)) Q E { s with heap := s.heap.push { cls := .type "slice", data := .fields #[vl, vu, .none] } } := by
  have hl' := lstP.is (hl.get O)
  refine subscriptTail_ops (Heap.IsList.typeIs (s := { s with heap := s.heap.push { cls := .type "slice", data := .fields #[vl, vu, .none] } }) (hl'.push _)) list_getitem_lookup
    (wpAny_getItem_list_slice (hl'.push _) (Heap.IsSliceOf.new ..) pl pu .none (by simp) ?_ (by rw [sizeLine_eq]; simp; lia)) hs ht
  have O1 := O.kp (h' := s.heap.push { cls := .type "slice", data := .fields #[vl, vu, .none] }) (fun _ _ e => Heap.get?_push_of_some _ e)
  have O2 := own_pushed O1 (lstP (slicePick xs.toArray lo hi none).toList) (o := { cls := .type "list", data := .seq (slicePick xs.toArray lo hi none) }) ⟨0, by simp⟩ rfl
  exact h _ _ Sm.mk' O2
theorem slice_strs_from {vs : List Value} {ss : List Str} (hi : StrsAre vs ss) {x : Int} (h0 : 0 ≤ x) (h2 : x ≤ ss.length) : StrsAre (slicePick vs.toArray (some x) none none).toList (ss.drop x.toNat) := by
  have ex : x = (x.toNat : Int) := by lia
  rw [ex, slicePick_from vs.toArray x.toNat (by simp [hi.length]; lia)]
  simpa [← ex] using hi.drop' x.toNat
theorem slice_strs_upto {vs : List Value} {ss : List Str} (hi : StrsAre vs ss) {y : Int} (h0 : 0 ≤ y) (h2 : y ≤ ss.length) : StrsAre (slicePick vs.toArray none (some y) none).toList (ss.take y.toNat) := by
  have ey : y = (y.toNat : Int) := by lia
  rw [ey, slicePick_upto vs.toArray y.toNat (by simp [hi.length]; lia)]
  simpa [← ey] using hi.take' y.toNat
/-- where [:b] ends in a tuple of n items -/
noncomputable def upTo (b : Int) (n : Nat) : Nat := (if b < 0 then max (b + n) 0 else min b n).toNat
theorem adjust_upto (b : Int) (n : Nat) : Builtin.Slice.sliceAdjust none (some b) 1 (n : Int) = (0, (upTo b n : Int)) := by
  unfold Builtin.Slice.sliceAdjust upTo
  have h1 : ¬ ((1 : Int) < 0) := by lia
  simp only [h1, if_false]
  congr 1
  split <;> lia
theorem upTo_le (b : Int) (n : Nat) : upTo b n ≤ n := by unfold upTo; split <;> lia
theorem places_upto (e : Nat) : Builtin.Slice.slicePlaces 0 (e : Int) 1 = e := by
  unfold Builtin.Slice.slicePlaces
  have h1 : (1 : Int) > 0 := by lia
  simp only [h1, if_true, Int.ediv_one]
  split <;> lia
theorem sliceApplied_upto {sl : Addr} {b : Int} {n : Nat} {u : Tok} {Q : Int × Int × Nat → Shared → Prop} (hs : s.heap.IsSliceOf sl .none (.int b u) .none) (h : Q (0, 1, upTo b n) s) :
    wpAny (model PR w) A (Builtin.Slice.sliceApplied (.ref sl) (pure (n : Int))) Q E s := by
  obtain ⟨os, hos, hcs, hds⟩ := id hs
  unfold Builtin.Slice.sliceApplied Builtin.Slice.sliceFields
  refine wpAny_bind (wpAny_bind (wpAny_field hos hds (x := .none) rfl (wpAny_bind (wpAny_field hos hds (x := .int b u) rfl (wpAny_bind (wpAny_field hos hds (x := .none) rfl (wpAny_pure ?_)))))))
  refine wpAny_bind (slicePart_none ?_)
  show wpAny _ _ (if ((1 : Int) == 0) = true then _ else _) _ _ s
  rw [if_neg (by decide)]
  refine wpAny_bind (slicePart_none (wpAny_bind (slicePart_int (wpAny_bind (wpAny_pure ?_)))))
  show wpAny _ _ (match Builtin.Slice.sliceAdjust none (some b) 1 (n : Int) with | (lo, hi) => pure (lo, (1 : Int), Builtin.Slice.slicePlaces lo hi 1)) _ _ s
  rw [adjust_upto]
  show wpAny _ _ (pure ((0 : Int), (1 : Int), Builtin.Slice.slicePlaces 0 (upTo b n : Int) 1)) _ _ s
  rw [places_upto]
  exact wpAny_pure h
theorem pick_upto (xs : List Value) (e : Nat) : ((List.range e).filterMap fun (k : Nat) => xs.toArray[((0 : Int) + (k : Int) * 1).toNat]?).toArray = (xs.take e).toArray := by
  have e1 : (fun (k : Nat) => xs.toArray[((0 : Int) + (k : Int) * 1).toNat]?) = fun k => xs.toArray[0 + k]? := by
    funext k
    have : ((0 : Int) + (k : Int) * 1).toNat = 0 + k := by lia
    rw [this]
  rw [e1]
  have := pick_run xs.toArray 0 e
  rw [List.filterMap_map] at this
  have e2 : ((fun x => xs.toArray[x]?) ∘ fun x => 0 + x) = fun k => xs.toArray[0 + k]? := rfl
  rw [e2] at this
  rw [this]; simp
theorem r_tslice {value slice : Expr} {t : Addr} {xs : List Value} {b : Int} {u : Tok} {Q : Value → Shared → Prop} (O : Own h₀ s.heap Φ) (ht : Has h₀ Φ t (tupP xs)) (hz : xs.length ≤ 100000)
    (h1 : upTo b xs.length = xs.length → ∀ s', Sm s s' → Own h₀ s'.heap Φ → Q (.ref t) s')
    (h2 : upTo b xs.length ≠ xs.length → ∀ a s', Sm s s' → Own h₀ s'.heap ((a, tupP (xs.take (upTo b xs.length))) :: Φ) → Q (.ref a) s')
    (hs : subscripted slice false (.ref t) (.ref s.heap.objs.size) = operate [.ref s.heap.objs.size, .ref t] (getItem (.ref t) (.ref s.heap.objs.size)) := by with_unfolding_all rfl)
    (hg : ∀ r, letTemporaryGo value (.ref t) r = pure () := by intro _; with_unfolding_all rfl) :
    wpAny (model PR w) A (subscriptTail value slice (.ref t) (.ref s.heap.objs.size)) Q E { s with heap := s.heap.push { cls := .type "slice", data := .fields #[.none, .int b u, .none] } } := by
  obtain ⟨o, ho, rfl⟩ := ht.get O
  have O1 := O.kp (h' := s.heap.push { cls := .type "slice", data := .fields #[.none, .int b u, .none] }) (fun _ _ e => Heap.get?_push_of_some _ e)
  have ht' : IsTup (s.heap.push { cls := .type "slice", data := .fields #[.none, .int b u, .none] }) t xs.toArray := ⟨_, Heap.get?_push_of_some _ ho, rfl, 0, rfl⟩
  have hs' : (s.heap.push { cls := .type "slice", data := .fields #[.none, .int b u, .none] }).IsSliceOf s.heap.objs.size .none (.int b u) .none := Heap.IsSliceOf.new ..
  generalize hH : s.heap.push { cls := .type "slice", data := .fields #[.none, .int b u, .none] } = H at O1 ht' hs' ⊢
  refine subscriptTail_ops (s := { s with heap := H }) ht'.typeIs slot_tuple_getitem.lookup ?_ hs hg
  have hTs : Shared.TypeIs { s with heap := H } (.ref s.heap.objs.size) "slice" := let ⟨os, hos, hcs, _⟩ := hs'; ⟨os, hos, hcs⟩
  unfold getItem
  try with_reducible refine wpAny_holding ?_
  first | refine wpAny_bind (wpAny_pure ?_) | skip
  refine wpAny_bind (wpAny_sequenceKey (s := { s with heap := H }) ht'.typeIs (by decide) ?_)
  refine wpAny_bind (wpAny_callSpecial?_slot (name := Str.ofString "__getitem__") ht'.typeIs slot_tuple_getitem
    (wpAny_call_entry slot_tuple_getitem ht'.typeIs entry_tuple_getitem ?_ (args_tuple_getitem _ _)))
  show wpAny _ _ (Builtin.Tuple.tupleItemsOf (.ref t) >>= _) _ _ _
  refine wpAny_bind (tupleItemsOf_ ht' ?_)
  refine wpAny_bind (wpAny_typeOf hTs ?_)
  rw [if_pos (by decide)]
  refine wpAny_bind (sliceApplied_upto (s := { s with heap := H }) (n := xs.toArray.size) hs' ?_)
  have hsz : xs.toArray.size = xs.length := by simp
  rw [hsz]
  by_cases hn : upTo b xs.length = xs.length
  · show wpAny _ _ (if ((0 : Int) == 0 && (1 : Int) == 1 && upTo b xs.length == xs.toArray.size) = true then _ else _) _ _ _
    rw [if_pos (by rw [hsz, hn]; simp)]
    unfold Builtin.Tuple.tupleIsExact
    have hq := h1 hn { s with heap := H } Sm.mk' O1
    exact wpAny_bind (wpAny_bind (wpAny_typeOf ht'.typeIs (wpAny_pure (wpAny_bind (wpAny_rule (wpAny_pure ⟨_, rfl, wpAny_pure hq⟩))))))
  · show wpAny _ _ (if ((0 : Int) == 0 && (1 : Int) == 1 && upTo b xs.length == xs.toArray.size) = true then _ else _) _ _ _
    rw [if_neg (by rw [hsz]; simpa using hn), pick_upto]
    have hz' : sizeOk (.seq (xs.take (upTo b xs.length)).toArray) := by
      show (xs.take (upTo b xs.length)).toArray.size ≤ sizeLine
      rw [sizeLine_eq]; simp; lia
    have O2 := own_pushed O1 (tupP (xs.take (upTo b xs.length))) (o := { cls := .type "tuple", data := .seq (xs.take (upTo b xs.length)).toArray }) rfl rfl
    have hq := h2 hn _ { s with heap := H.push { cls := .type "tuple", data := .seq (xs.take (upTo b xs.length)).toArray } } Sm.mk' O2
    first
      | exact wpAny_bind (m := Builtin.Tuple.tupleExact _) (wpAny_newObj_type (wpAny_pure ⟨_, rfl, wpAny_pure hq⟩) hz')
      | exact wpAny_bind (m := Builtin.Tuple.tupleExact _) (wpAny_newObj_type (wpAny_bind (wpAny_pure (wpAny_pure ⟨_, rfl, wpAny_pure hq⟩))) hz')
      | exact wpAny_bind (wpAny_bind (m := Builtin.Tuple.tupleExact _) (wpAny_newObj_type (wpAny_pure (wpAny_pure ⟨_, rfl, wpAny_pure hq⟩)) hz'))
      | exact wpAny_bind (wpAny_bind (m := Builtin.Tuple.tupleExact _) (wpAny_newObj_type (wpAny_pure ⟨_, rfl, wpAny_pure hq⟩) hz'))
end
end
section
section
variable {w : World} {A : Around} {E : Value → Shared → Prop} {s : Shared} {h₀ : Heap} {Φ Φ' : List Cell} {env : Env} {L : Addr} {nm gl : List Str} {cl : List (Str × Addr)}
theorem tupP.tup {h : Heap} {a : Addr} {vs : List Value} (H : ∃ o, h.get? a = some o ∧ tupP vs o) : IsTup h a vs.toArray := let ⟨_, e, p⟩ := H; ⟨_, e, by rw [p], 0, by rw [p]⟩
/-- (x, ..) + t -/
theorem r_tadd {t b : Addr} {vs ws : List Value} {Q : Value → Shared → Prop} (O : Own h₀ s.heap Φ) (ht : Has h₀ Φ t (tupP vs)) (hb : Has h₀ Φ b (tupP ws)) (hv : vs ≠ []) (hz : vs.length + ws.length ≤ 100000)
    (h1 : ws = [] → Q (.ref t) s) (h2 : ws ≠ [] → ∀ a s', Sm s s' → Own h₀ s'.heap ((a, tupP (vs ++ ws)) :: Φ) → Q (.ref a) s') : wpAny (model PR w) A (binaryOp .Add (.ref t) (.ref b)) Q E s := by
  obtain ⟨o, ho, rfl⟩ := ht.get O
  obtain ⟨o, ho2, rfl⟩ := hb.get O
  have e : vs.toArray ++ ws.toArray = (vs ++ ws).toArray := by simp
  by_cases hw : ws = []
  · exact concat_meets ⟨_, ho, rfl⟩ ⟨_, ho2, rfl⟩ noFill_tuple_add seq_tuple_add PySem.F.slot_tuple_add PySem.F.entry_tuple_add (PySem.F.args_tuple_add_2 _ _)
      (tuple_addW1 t b vs.toArray ws.toArray 0 0 none none #[] #[] (by simpa using hv) (by simp [hw])) ⟨ho, ho2, h1 hw⟩
  · refine concat_meets ⟨_, ho, rfl⟩ ⟨_, ho2, rfl⟩ noFill_tuple_add seq_tuple_add PySem.F.slot_tuple_add PySem.F.entry_tuple_add (PySem.F.args_tuple_add_2 _ _)
      (tuple_addW2 t b vs.toArray ws.toArray 0 0 none none #[] #[] (by simpa using hv) (by simpa using hw) (by rw [List.size_toArray, List.size_toArray, sizeLine_eq]; lia)) ⟨ho, ho2, ?_⟩
    rw [e]
    exact h2 hw _ _ Sm.mk' (own_pushed O (tupP (vs ++ ws)) (o := { cls := .type "tuple", data := .seq (vs ++ ws).toArray }) rfl rfl)
theorem r_ladd {l b : Addr} {vs ws : List Value} {Q : Value → Shared → Prop} (O : Own h₀ s.heap Φ) (hl : Has h₀ Φ l (lstP vs)) (hb : Has h₀ Φ b (lstP ws)) (hz : vs.length + ws.length ≤ 100000)
    (h : ∀ a s', Sm s s' → Own h₀ s'.heap ((a, lstP (vs ++ ws)) :: Φ) → Q (.ref a) s') : wpAny (model PR w) A (binaryOp .Add (.ref l) (.ref b)) Q E s := by
  obtain ⟨o, ho, n, rfl⟩ := hl.get O
  obtain ⟨o, ho2, n2, rfl⟩ := hb.get O
  have e : vs.toArray ++ ws.toArray = (vs ++ ws).toArray := by simp
  refine concat_meets ⟨_, ho, rfl⟩ ⟨_, ho2, rfl⟩ noFill_list_add seq_list_add PySem.F.slot_list_add PySem.F.entry_list_add (PySem.F.args_list_add_2 _ _) (list_addW l b vs.toArray ws.toArray n n2 none none #[] #[] (by rw [sizeLine_eq]; simp; lia)) ⟨ho, ho2, ?_⟩
  rw [e]
  exact h _ _ Sm.mk' (own_pushed O (lstP (vs ++ ws)) (o := { cls := .type "list", data := .seq (vs ++ ws).toArray }) ⟨0, rfl⟩ rfl)
theorem r_tlen {t : Addr} {vs : List Value} {Q : Value → Shared → Prop} (O : Own h₀ s.heap Φ) (ht : Has h₀ Φ t (tupP vs)) (hz : vs.length ≤ 100000) (h : ∀ tk s', Sm s s' → Own h₀ s'.heap Φ → Q (.int vs.length tk) s') : wpAny (model PR w) A (call (.builtin "len") [.ref t]) Q E s := by
  refine PyProof.Rows.len_tuple (tupP.tup (ht.get O)) (by simp; lia) ?_
  have := h (s.toks + 1) { s with toks := s.toks + 1 + 1 } Sm.mk' O
  simpa using this
theorem r_llen {l : Addr} {vs : List Value} {Q : Value → Shared → Prop} (O : Own h₀ s.heap Φ) (hl : Has h₀ Φ l (lstP vs)) (hz : vs.length ≤ 100000) (h : ∀ tk s', Sm s s' → Own h₀ s'.heap Φ → Q (.int vs.length tk) s') : wpAny (model PR w) A (call (.builtin "len") [.ref l]) Q E s := by
  refine call_len_list (lstP.is (hl.get O)) (by simp; lia) ?_
  have := h (s.toks + 1) { s with toks := s.toks + 1 + 1 } Sm.mk' O
  simpa using this
/-- while, with no else -/
theorem r_while {test : Expr} {body : List Stmt} {pos : Pos} {Q : Flow → Shared → Prop} (J : Nat → Shared → Prop) (n : Nat) (hJ : J n s)
    (turn : ∀ n s', J n s' → wpAny (model PR w) A (isTrue test env (eval test env)) (fun b s₂ => if b = true then wpAny (model PR w) A (execs body env) (fun f s₃ => match f with
        | .next | .cont => ∃ m, m < n ∧ J m s₃
        | .brk => Q .next s₃
        | .ret v => Q (.ret v) s₃) (fun _ _ => False) s₂ else Q .next s₂) (fun _ _ => False) s') :
    wpAny (model PR w) A (exec (.While test body [] pos) env) Q E s := by
  refine wpAny_While (codeAny_whileLoop J (fun k s' hj => ?_) n hJ)
  refine wpAny_mono (turn k s' hj) (fun b s₂ h₂ => ?_) fun _ _ x => x.elim
  cases b with
  | true => exact wpAny_mono h₂ (fun f s₃ h₃ => by cases f <;> exact h₃) fun _ _ x => x.elim
  | false => exact wpAny_execs_nil h₂
end
end
section
section
variable {w : World} {A : Around} {E : Value → Shared → Prop} {s : Shared} {h₀ : Heap} {Φ Φ' : List Cell} {env : Env} {L : Addr} {nm gl : List Str} {cl : List (Str × Addr)}
/-! ## sets of flags -/
noncomputable def setP (w : World) (S : Int → Bool) (n : Nat) : Obj → Prop := fun o => o.SetObjOf (intKind PR w) S n
theorem scan100 : (100 : Nat) ≤ scanBound := by decide
theorem setP.of {h : Heap} {a : Addr} {S : Int → Bool} {n : Nat} (H : ∃ o, h.get? a = some o ∧ setP w S n o) (hn : n < 100) : h.SetOf (intKind PR w) a S n := let ⟨_, e, p⟩ := H; p.setOf e (Nat.lt_of_lt_of_le hn scan100)
theorem r_setnew {Q : Value → Shared → Prop} (O : Own h₀ s.heap Φ) (h : ∀ a s', Sm s s' → Own h₀ s'.heap ((a, setP w (fun _ => false) 0) :: Φ) → Q (.ref a) s') : wpAny (model PR w) A (call (.type "set") []) Q E s := by
  refine call_set_0 ?_
  intro led
  exact h _ _ Sm.mk' (own_pushed O (setP w (fun _ => false) 0) (setObjOf_fresh led) rfl)
theorem r_sin {a : Addr} {S : Int → Bool} {n : Nat} {k : Int} {t : Tok} {Q : Value → Shared → Prop} (O : Own h₀ s.heap Φ) (hm : Has h₀ Φ a (setP w S n)) (hn : n < 100) (h : ∀ s', Sm s s' → Own h₀ s'.heap Φ → Q (.bool (S k)) s') :
    wpAny (model PR w) A (compareOp .In (.int k t) (.ref a)) Q E s := wpAny_inSet_of (intKind_is _ _ k t) rfl (setP.of (hm.get O) hn) (h _ Sm.mk' O)
theorem r_sadd {a : Addr} {S : Int → Bool} {n : Nat} {k : Int} {t : Tok} {Q : Value → Shared → Prop} (O : Own h₀ s.heap Φ) (hm : (a, setP w S n) ∈ Φ) (hn : n < 50) (U : Upd a (setP w (fun k' => S k' || decide (k' = k)) (if S k then n else n + 1)) Φ Φ')
    (h : ∀ s', Sm s s' → Own h₀ s'.heap Φ' → Q .none s') : wpAny (model PR w) A (call (.builtin "set.add") [.ref a, .int k t]) Q E s := by
  refine call_set_add (intKind_is _ _ k t) rfl (setP.of (O.get hm) (by lia)) (Nat.lt_of_lt_of_le (by lia : n + 1 < 100) scan100) fun h' hs hS => h _ Sm.mk' (O.upd U hs ?_)
  exact hS.objOf
/-! ## the class of flags -/
theorem cls73 (w : World) : (KK w).lookup 73 = some (excClassObj "Flags" "Flags" 73 72 [.type "object"] [.type "object"] true [] [] false none none none none (some (.str "Flags" 196)) (some (.str "Flags" 204)) (some (.bool true)) "object.__new__") := by kernel_rfl
theorem ns72_ok (w : World) : nsOkIn (KK w) 72 = true := by kernel_rfl
noncomputable def inst0 (c0 p0 : Addr) : Str → Option Value := fun y => if y = "_pending_flags" then some (.ref p0) else if y = "_flags" then some (.ref c0) else none
noncomputable def xP (dx : Addr) : Obj → Prop := fun o => o.cls = .ref 73 ∧ (∀ c, o.data ≠ .cls c) ∧ o.dict = some dx
noncomputable def n1P (m : Str → Option Value) : Obj → Prop := fun o => ∃ es ep, o.data = .dict es ep ∧ StrKeys es ∧ UniqKeys es ∧ ∀ name, nsFind es name = m name
end
section
variable {w : World} {A : Around} {E : Value → Shared → Prop} {s : Shared} {h₀ : Heap} {Φ Φ' : List Cell} {env : Env} {L : Addr} {nm gl : List Str} {cl : List (Str × Addr)}
/-- an object of flags, with what it holds -/
structure FI (h : Heap) (x dx : Addr) (m : Str → Option Value) : Prop where
  ox : ∃ o, h.get? x = some o ∧ xP dx o
  od : ∃ o, h.get? dx = some o ∧ n1P m o
  ne : dx ≠ x
theorem FI.inst {h : Heap} {x dx : Addr} {m : Str → Option Value} (I : FI h x dx m) : h.Inst x 73 m := by
  obtain ⟨⟨o, a, b, c, d⟩, ⟨o', a', es, ep, b'⟩, ne⟩ := I
  exact ⟨o, a, b, c, .inr ⟨dx, d, ne, o', es, ep, a', b'⟩⟩
theorem ns72 {h : Heap} (B : Base w h) : h.Ns 72 (h.nsMap 72) := Heap.Ns.of_isNs (isNs_of_in B.X (ns72_ok w))
theorem ns72_none {h : Heap} (B : Base w h) {n : Str} (e : nsIn (KK w) 72 n = some none) : h.nsMap 72 n = none := ns_none_of B.X (ns72 B) e
theorem ns_some_of {K : Frag} {h : Heap} {N : Addr} {m : Str → Option Value} {n : Str} {v : Value} (X : K.In h) (G : h.Ns N m) (e : nsIn K N n = some (some v)) : m n = some v := by
  obtain ⟨o, es, ep, ho, hd, _, hf⟩ := G
  unfold nsIn at e
  split at e
  · rename_i c d es' n' sl q
    have := X _ _ q
    rw [ho] at this
    cases this
    cases hd
    split at e
    · rename_i en he
      injection e with e
      injection e with e
      rw [← hf n, ← e]
      simp only [nsFind, findBy]
      rw [← Array.find?_toList, he]; rfl
    · split at e <;> cases e
  · cases e
theorem ns72_some {h : Heap} (B : Base w h) {n : Str} {v : Value} (e : nsIn (KK w) 72 n = some (some v)) : h.nsMap 72 n = some v := ns_some_of B.X (ns72 B) e
theorem cls73_at {h : Heap} (B : Base w h) : h.get? 73 = some (excClassObj "Flags" "Flags" 73 72 [.type "object"] [.type "object"] true [] [] false none none none none (some (.str "Flags" 196)) (some (.str "Flags" 204)) (some (.bool true)) "object.__new__") := B.X _ _ (cls73 w)
theorem ob_flags : typeLookup (.type "object") "_flags" = pure none := by rw [typeLookup_type, builtinLookup_eq_fast]; kernel_rfl
theorem ob_pending : typeLookup (.type "object") "_pending_flags" = pure none := by rw [typeLookup_type, builtinLookup_eq_fast]; kernel_rfl
theorem ob_is : typeLookup (.type "object") "is_" = pure none := by rw [typeLookup_type, builtinLookup_eq_fast]; kernel_rfl
theorem ob_set : typeLookup (.type "object") "set" = pure none := by rw [typeLookup_type, builtinLookup_eq_fast]; kernel_rfl
theorem n72 (w : World) : ((["__getattribute__", "__getattr__", "__setattr__", "_flags", "_pending_flags"] : List Str).map fun n => nsIn (KK w) 72 n) = (["__getattribute__", "__getattr__", "__setattr__", "_flags", "_pending_flags"] : List Str).map fun _ => some none := by kernel_rfl
theorem n72s (w : World) : (([("__init__", Value.ref 35), ("set", .ref 63), ("is_", .ref 70)] : List (Str × Value)).map fun p => nsIn (KK w) 72 p.1) = ([("__init__", Value.ref 35), ("set", .ref 63), ("is_", .ref 70)] : List (Str × Value)).map fun p => some (some p.2) := by kernel_rfl
theorem inst0_flags (c0 p0 : Addr) : inst0 c0 p0 "_flags" = some (.ref c0) := by unfold inst0; rw [if_neg (by decide), if_pos rfl]
theorem inst0_is (c0 p0 : Addr) : inst0 c0 p0 "is_" = none := by unfold inst0; rw [if_neg (by decide), if_neg (by decide)]
theorem inst0_set (c0 p0 : Addr) : inst0 c0 p0 "set" = none := by unfold inst0; rw [if_neg (by decide), if_neg (by decide)]
/-- x._flags -/
theorem r_flags {x dx c0 p0 : Addr} {expr : Bool} {Q : Value → Shared → Prop} (B : Base w s.heap) (I : FI s.heap x dx (inst0 c0 p0)) (h : ∀ s', Sm s s' → s'.heap = s.heap → Q (.ref c0) s') : wpAny (model PR w) A (getAttr (.ref x) "_flags" expr) Q E s := by
  obtain ⟨hp, g, d, t, os⟩ := s
  exact load_attr (cls73_at B) (ns72 B) (ns72_none B (map_mem (n72 w) "__getattribute__" (by ktr_rel))) (ns72_none B (map_mem (n72 w) "_flags" (by ktr_rel))) ob_flags I.inst (inst0_flags c0 p0) rfl (h _ ⟨rfl, rfl, rfl⟩ rfl)
theorem r_imethod {x dx c0 p0 f : Addr} {name : Str} {pl : Sem Bool} {Q : Value × List Value → Shared → Prop} (B : Base w s.heap) (I : FI s.heap x dx (inst0 c0 p0)) (hn : nsIn (KK w) 72 name = some (some (.ref f))) (hf : isDef (KK w) f = true) (hfc : ∃ o, (KK w).lookup f = some o ∧ o.cls = .type "function") (hB : typeLookup (.type "object") name = pure none)
    (hm : inst0 c0 p0 name = none) (h : Q (.ref f, [.ref x]) s) : wpAny (model PR w) A (getMethod (.ref x) name pl) Q E s := by
  obtain ⟨hp, g, d, t, os⟩ := s
  obtain ⟨o, ho, hc⟩ := hfc
  exact method_of (cls73_at B) (ns72 B) (ns72_none B (map_mem (n72 w) "__getattribute__" (by ktr_rel))) (ns72_none B (map_mem (n72 w) "__getattr__" (by ktr_rel))) (ns72_some B hn) (B.X _ _ ho) hc hB I.inst hm h
/-- a call of a method of an object -/
theorem r_icall {o : Expr} {name : Str} {apos pos : Pos} {args : List Expr} {kws : List Keyword} {Q : Value → Shared → Prop}
    (h : wpAny (model PR w) A (eval o env) (fun ov s₁ => ∀ pl, wpAny (model PR w) A (getMethod ov name pl) (fun r s₂ => wpAny (model PR w) A (callWith pos r.1 r.2 (backTo pos (starEach args env)) (backToKw pos (keywordEach kws env))) Q E s₂) E s₁) E s)
    (hbase : attributeBase o name env (eval o env) = eval o env := by rfl) (hform : methodCallForm (args.length + kws.length) (backTo pos (starEach args env)) (backToKw pos (keywordEach kws env)) = true := by rfl)
    (hline : (apos.endLine == pos.line) = true := by rfl) :
    wpAny (model PR w) A (eval (.Call (.Attribute o name apos) args kws pos) env) Q E s := by
  rw [arm_eval_Call, hbase]
  refine wpAny_bind (wpAny_mono h (fun ov s₁ h₁ => ?_) fun _ _ e => e)
  refine wpAny_bind (wpAny_standAt ?_)
  have hpos : methodCallPos true o env apos pos = pure pos := by unfold methodCallPos; simp [hline]
  unfold methodCall
  rw [hform]
  refine wpAny_bind (wpAny_holding (wpAny_mono (h₁ _) (fun r s₂ h₂ => ?_) fun _ _ e => e))
  exact wpAny_bind (wpAny_of_eq hpos h₂)
theorem r_fnk {pos : Pos} {a : Addr} {first : List Value} {e : Expr} {rest : List Expr} {kws : List Keyword} {body : List Stmt} {Q : Value → Shared → Prop} (FA : FnAt w a body)
    (h : wpAny (model PR w) A (spliced (backTo pos (starEach (e :: rest) env))) (fun vs s₁ => wpAny (model PR w) A (evalAll ((backToKw pos (keywordEach kws env)).map (·.2))) (fun ks s₂ => Base w s₂.heap ∧ wpAny (model PR w) A (call (.ref a) (first ++ vs) (((backToKw pos (keywordEach kws env)).filterMap (·.1)).zip ks)) Q E s₂) E s₁) E s)
    (he : starEach (e :: rest) env = (false, eval e env) :: starEach rest env := by rfl) (hplain : (backTo pos (starEach rest env)).any (·.1) = false := by rfl) (hkw : (backToKw pos (keywordEach kws env)).all (·.1.isSome) = true := by rfl)
    (hno : (backToKw pos (keywordEach kws env)).any (·.1.isNone) = false := by rfl) :
    wpAny (model PR w) A (callWith pos (.ref a) first (backTo pos (starEach (e :: rest) env)) (backToKw pos (keywordEach kws env))) Q E s := by
  rw [he] at h ⊢
  refine callWith_of (by show ((false || (backTo pos (starEach rest env)).any (·.1)) || (backToKw pos (keywordEach kws env)).any (·.1.isNone)) = false; rw [hplain, hno]; rfl) (keeps_K FA.keep) (evalArgs_kw hkw (wpAny_mono h (fun vs s₁ h₁ => wpAny_mono h₁ (fun ks s₂ h₂ => ⟨h₂.1.X, h₂.2⟩) fun _ _ x => x) fun _ _ x => x))
end
end
section
section
variable {w : World} {A : Around} {E : Value → Shared → Prop} {s : Shared}
theorem sub_str_str : isSubtype (.type "str") (.type "str") = pure true := by rw [isSubtype_type]; kernel_rfl
theorem meta_str : typeOf (.type "str") = pure (.type "type") := by kernel_rfl
theorem args_issubclass_nested_3 (a b c : Value) : argsOk "issubclass.nested" ⟨[a, b, c], []⟩ := by unfold argsOk; kernel_rfl
theorem kind_issubclass_nested : builtinKind "issubclass.nested" = none := by decide +kernel
theorem plain_issubclass_nested : plainId "issubclass.nested" = true := by decide +kernel
theorem isSub_nested {R : Fin → Shared → Prop} (h : R (.done (.ret (.bool true))) s) (k : Tok) (i : Int) :
    wpAny (model PR w) A (Builtin.«issubclass.nested» ⟨[.type "str", .type "str", .int i k], []⟩) R E s := by
  have hm := meta_str
  have f1 := sub_str_str
  repeat (any_goals (first | assumption | (rw [if_pos hm]) | (rw [f1]) | wp_step))
theorem code_nested {R : Result → Shared → Prop} (h : R (.ok (.ret (.bool true))) s) :
    codeAny (model PR w) A (.call (.builtin "issubclass.nested") ⟨[.type "str", .type "str", .int 1 0], []⟩) R s := by
  refine codeAny_call_builtin plain_issubclass_nested F.entry_issubclass_nested ?_
  simp only [checkBuiltinCall, kind_issubclass_nested]
  have hfin : wpAny (model PR w) A.in1 (Builtin.«issubclass.nested» ⟨[.type "str", .type "str", .int 1 0], []⟩) (fun fin s' => match fin with | .done f => R (.ok f) s' | .again c' => c'.quiet = true ∧ codeAny (model PR w) A c' R s') (fun e s' => R (.error e) s') s :=
    isSub_nested h _ _
  have ok := args_issubclass_nested_3 (.type "str") (.type "str") (.int 1 0)
  cases hsig : Manifest.signature? "issubclass.nested" with
  | none => exact wpAny_pure hfin
  | some sig =>
    simp only [argsOk, hsig] at ok
    have h2 : Bind.checkArgs "issubclass.nested" sig ⟨[.type "str", .type "str", .int 1 0], []⟩ = pure () := ok
    show wpAny _ _ (Bind.checkArgs "issubclass.nested" sig _) _ _ s
    rw [h2]; exact wpAny_pure hfin
theorem sub_str_tup {t : Addr} {R : Fin → Shared → Prop} {k : Tok} (ht : s.heap.get? t = some { cls := .type "tuple", data := .seq (#[.type "str", .type "bytes"] : Array Value) }) (h : ∀ tk, R (.done (.ret (.bool true))) { s with toks := tk }) :
    wpAny (model PR w) A (Builtin.«issubclass.nested» ⟨[.type "str", .ref t, .int 0 k], []⟩) R E s := by
  obtain ⟨h', g, d, tk, os⟩ := s
  have hT2 : (⟨h', g, d, tk, os⟩ : Shared).TypeIs (.ref t) "tuple" := ⟨_, ht, rfl⟩
  have f1 := F.isi_sub_tuple
  have hm := meta_str
  repeat (any_goals (first | assumption | wp_step))
  refine code_nested ?_
  repeat (any_goals (first | assumption | wp_step))
  exact h _
theorem issubclass_str {t : Addr} {Q : Value → Shared → Prop} (ht : s.heap.get? t = some { cls := .type "tuple", data := .seq (#[.type "str", .type "bytes"] : Array Value) }) (h : ∀ tk, Q (.bool true) { s with toks := tk }) :
    wpAny (model PR w) A (call (.builtin "issubclass") [.type "str", .ref t]) Q E s := by
  refine wpAny_call (codeAny_call_builtin F.plain_issubclass F.entry_issubclass ?_)
  simp only [checkBuiltinCall, F.kind_issubclass]
  have hfin : wpAny (model PR w) A.in1 (Builtin.«issubclass» ⟨[.type "str", .ref t], []⟩) (fun fin s' => match fin with | .done f => (wants Q E) (.ok f) s' | .again c' => c'.quiet = true ∧ codeAny (model PR w) A c' (wants Q E) s') (fun e s' => (wants Q E) (.error e) s') s :=
    issubclass_outer (sub_str_tup ht fun tk => h tk)
  have ok := F.args_issubclass_2 (.type "str") (.ref t)
  cases hsig : Manifest.signature? "issubclass" with
  | none => exact wpAny_pure hfin
  | some sig =>
    simp only [argsOk, hsig] at ok
    have h2 : Bind.checkArgs "issubclass" sig ⟨[.type "str", .ref t], []⟩ = pure () := ok
    show wpAny _ _ (Bind.checkArgs "issubclass" sig _) _ _ s
    rw [h2]; exact wpAny_pure hfin
end
end
section
section
variable {w : World} {A : Around} {E : Value → Shared → Prop} {s : Shared}
theorem fn_fspath (w : World) : FnOK w 150 (bodyAt 11) ["path", "kind", "hook", "given"] ["type", "issubclass", "str", "bytes"] :=
  fnOK_of ⟨by kernel_rfl, by kernel_rfl, by kernel_rfl, by kernel_rfl, by kernel_rfl, by kernel_rfl, by kernel_rfl, by kernel_rfl, by kernel_rfl, by kernel_rfl⟩ (by kernel_rfl) (by kernel_rfl)
theorem fspath_spec {x : Str} {t : Tok} {Q : Value → Shared → Prop} (B : Base w s.heap) (R : Rm A 1) (h : ∀ s', Sm s s' → Kp s.heap s'.heap → Q (.str x t) s') :
    wpAny (model PR w) A (call (.ref 150) [.str x t]) Q E s := by
  refine enterF (fn_fspath w) B R [("path", .str x t)] ["kind", "hook", "given"] [some (.str x t), none, none, none] (by kernel_rfl) rfl rfl ?_
  intro L env s₁ e V O hf
  refine r_seq rfl (wpAny_Assign_Name (r_call (r_boot V (B.keeps O.keep) (by ktr_rel) (by ktr_rel) (r_ty (r_arg (r_ld V O (by ktr_rel) (by ktr_rel) (r_args ?_)))))))
  refine call_type_of (Tx := "str") rfl (by decide +kernel) ?_
  refine r_st V O (by ktr_rel) (by ktr_rel) (by ktr_rel) ?_
  intro s₂ e₂ O₂
  refine r_seq rfl (wpAny_If (wpAny_isTrue_value (r_call (r_boot V (B.keeps O₂.keep) (by ktr_rel) (by ktr_rel) (r_bi (r_arg (r_ld V O₂ (by ktr_rel) (by ktr_rel) (r_arg ?_))))))))
  refine Tuple_ (r_arg (r_boot V (B.keeps O₂.keep) (by ktr_rel) (by ktr_rel) (r_arg (r_boot V (B.keeps O₂.keep) (by ktr_rel) (by ktr_rel) (r_args ?_)))))
  refine r_newTup O₂ (fun a s₃ e₃ _ _ O₃ => ?_)
  obtain ⟨o, ho, eo⟩ := O₃.get (by ktr_rel)
  refine r_args (issubclass_str (ho.trans (congrArg some eo)) fun tk => truth_bool ?_)
  refine r_seq rfl (wpAny_Return_some (r_ld V O₃ (by ktr_rel) (by ktr_rel) ?_))
  exact h _ (e.tr (e₂.tr (e₃.tr Sm.mk'))) O₃.keep
theorem fn_get_sep (w : World) : FnOK w 164 (bodyAt 15) ["path"] ["isinstance", "bytes"] :=
  fnOK_of ⟨by kernel_rfl, by kernel_rfl, by kernel_rfl, by kernel_rfl, by kernel_rfl, by kernel_rfl, by kernel_rfl, by kernel_rfl, by kernel_rfl, by kernel_rfl⟩ (by kernel_rfl) (by kernel_rfl)
theorem get_sep_spec {x : Str} {t : Tok} {Q : Value → Shared → Prop} (B : Base w s.heap) (R : Rm A 1) (h : ∀ t' s', Sm s s' → Kp s.heap s'.heap → Q (.str "/" t') s') :
    wpAny (model PR w) A (call (.ref 164) [.str x t]) Q E s := by
  refine enterF (fn_get_sep w) B R [("path", .str x t)] [] [some (.str x t)] (by kernel_rfl) rfl rfl ?_
  intro L env s₁ e V O hf
  refine r_seq rfl (wpAny_If (wpAny_isTrue_value (r_call (r_boot V (B.keeps O.keep) (by ktr_rel) (by ktr_rel) (r_bi (r_arg (r_ld V O (by ktr_rel) (by ktr_rel) (r_arg (r_boot V (B.keeps O.keep) (by ktr_rel) (by ktr_rel) (r_args ?_))))))))))
  refine IsiPair.str_bytes (truth_bool ?_)
  refine r_seq rfl (wpAny_Return_some (wpAny_Constant_str ?_))
  exact h _ _ (e.tr Sm.mk') O.keep
end
end
section
section
variable {w : World} {A : Around} {E : Value → Shared → Prop} {s : Shared}
noncomputable def splitHead (x : Str) : Str :=
  let h := Txt.slice x none (some (Txt.rfind x "/" + 1))
  if h.length ≠ 0 ∧ h ≠ Txt.mul "/" (h.length : Int) then Txt.rstripChars h "/" else h
noncomputable abbrev splitTail (x : Str) : Str := Txt.slice x (some (Txt.rfind x "/" + 1)) none
theorem fn_split (w : World) : FnOK w 178 (bodyAt 17) ["p", "sep", "i", "head", "tail"] ["fspath", "_get_sep", "len"] :=
  fnOK_of ⟨by kernel_rfl, by kernel_rfl, by kernel_rfl, by kernel_rfl, by kernel_rfl, by kernel_rfl, by kernel_rfl, by kernel_rfl, by kernel_rfl, by kernel_rfl⟩ (by kernel_rfl) (by kernel_rfl)
theorem mulOk_len (n : Nat) (h : n ≤ 1000) : MulOk "/" (n : Int) := by
  have h1 : (("/" : Str)).length = 1 := by decide
  refine ⟨?_, fun a b => ?_, fun a b => ?_⟩
  · rw [Bool.or_eq_false_iff]; exact ⟨decide_eq_false (by lia), decide_eq_false (by lia)⟩
  · rw [h1]
    have : (0 : Int) < n := by lia
    intro hc
    have h2 : (2 ^ 63 - 1 : Int) / n < 1 := hc
    have h3 : (1 : Int) ≤ (2 ^ 63 - 1) / n := by
      rw [Int.le_ediv_iff_mul_le this]; lia
    lia
  · rw [h1]; show decide (1 * (n : Int).toNat > sizeLine) = false; rw [sizeLine_eq]; exact decide_eq_false (by lia)
theorem split_spec {x : Str} {t : Tok} {Q : Value → Shared → Prop} (B : Base w s.heap) (R : Rm A 2) (hx : x.length ≤ 1000)
    (h : ∀ a t₁ t₂ s', Sm s s' → Kp s.heap s'.heap → New s.heap s'.heap [(a, tupP [.str (splitHead x) t₁, .str (splitTail x) t₂])] → Q (.ref a) s') :
    wpAny (model PR w) A (call (.ref 178) [.str x t]) Q E s := by
  refine enterF (fn_split w) B (R.le (by decide)) [("p", .str x t)] ["sep", "i", "head", "tail"] [some (.str x t), none, none, none, none] (by kernel_rfl) rfl rfl ?_
  intro L env s₁ e₁ V O hf
  have R1 : Rm (A.deeper env) 1 := R.deeper
  -- p = fspath(p)
  refine r_seq rfl (wpAny_Assign_Name (r_call (r_glob V (B.keeps O.keep) (by ktr_rel) (by ktr_rel) (r_fn (fn_fspath w).FA (B.keeps O.keep) (r_arg (r_ld V O (by ktr_rel) (by ktr_rel) (r_args ⟨B.keeps O.keep, ?_⟩)))))))
  refine fspath_spec (B.keeps O.keep) R1 (fun s₂ e₂ k => ?_)
  replace O := O.kp k
  refine r_st V O (by ktr_rel) (by ktr_rel) (by ktr_rel) ?_
  clear O; intro s₃ e₃ O
  -- sep = _get_sep(p)
  refine r_seq rfl (wpAny_Assign_Name (r_call (r_glob V (B.keeps O.keep) (by ktr_rel) (by ktr_rel) (r_fn (fn_get_sep w).FA (B.keeps O.keep) (r_arg (r_ld V O (by ktr_rel) (by ktr_rel) (r_args ⟨B.keeps O.keep, ?_⟩)))))))
  refine get_sep_spec (B.keeps O.keep) R1 (fun t₂ s₄ e₄ k => ?_)
  replace O := O.kp k
  refine r_st V O (by ktr_rel) (by ktr_rel) (by ktr_rel) ?_
  clear O; intro s₅ e₅ O
  -- i = p.rfind(sep) + 1
  refine r_seq rfl (wpAny_Assign_Name (wpAny_BinOp (r_meth PySem.F.plainAttrs_str PySem.F.slot_str_rfind PySem.F.type_str_rfind (r_ld V O (by ktr_rel) (by ktr_rel) ⟨str_here, r_arg (r_ld V O (by ktr_rel) (by ktr_rel) (r_args ?_))⟩))))
  refine SC.rfind (wpAny_Constant_int (add_int (r_gen O ?_)))
  clear O; intro s₀ e₀ O
  refine r_st V O (by ktr_rel) (by ktr_rel) (by ktr_rel) ?_
  clear O; intro s₆ e₆ O
  -- head, tail = (p[:i], p[i:])
  refine r_seq rfl (r_swap2 V (by ktr_rel) (by ktr_rel) (R1.le (by decide)) (Tuple_ (r_arg (Subscript_ (r_ld V O (by ktr_rel) (by ktr_rel) (wpAny_Slice (r_part_none (r_part (r_ld V O (by ktr_rel) (by ktr_rel) (r_part_none ?_))))))))))
  refine r_ss_ns O (by lia) (fun t₇ s₇ e₇ O => ?_)
  refine r_arg (Subscript_ (r_ld V O (by ktr_rel) (by ktr_rel) (wpAny_Slice (r_part (r_ld V O (by ktr_rel) (by ktr_rel) (r_part_none (r_part_none ?_)))))))
  refine r_ss_sn O (by lia) (fun t₈ s₈ e₈ O => r_args ?_)
  refine r_newTup O (fun a s₉ e₉ _ _ O => (ei5 a _ _ _ _ ⟨rfl, O, by ktr_rel, fun s₁₀ e₁₀ O => ?_⟩))
  refine r_st V O (by ktr_rel) (by ktr_rel) (by ktr_rel) ?_
  clear O; intro s₁₁ e₁₁ O
  refine r_st V O (by ktr_rel) (by ktr_rel) (by ktr_rel) ?_
  clear O; intro s₁₂ e₁₂ O
  -- if head and head != sep * len(head): head = head.rstrip(sep)
  have hh := txt_slice_le x none (some (Txt.rfind x "/" + 1))
  refine r_seq rfl (wpAny_mono (Q := fun f s' => f = .next ∧ Sm s₁₂ s' ∧ ∃ Ψ, Own s.heap s'.heap Ψ ∧ ∃ u a b c, (L, locP ["p", "sep", "i", "head", "tail"] [a, b, c, some (.str (splitHead x) u), some (.str (splitTail x) t₈)]) ∈ Ψ) ?_ (fun f s' hq => ?_) fun _ _ h => h)
  · refine wpAny_If (wpAny_isTrue_BoolOp (wpAny_allTrue_And_cons (wpAny_isTrue_value (r_ld V O (by ktr_rel) (by ktr_rel) (truth_str (by lia) fun tk => ?_)))))
    by_cases h0 : (Txt.slice x none (some (Txt.rfind x "/" + 1))).length = 0
    · rw [decide_eq_false (not_not_intro h0)]
      have : splitHead x = Txt.slice x none (some (Txt.rfind x "/" + 1)) := by unfold splitHead; simp [h0]
      rw [← this] at O
      exact r_nil ⟨rfl, Sm.mk', _, O, _, _, _, _, by ktr_rel⟩
    · rw [decide_eq_true h0]
      refine wpAny_allTrue_And_cons (wpAny_isTrue_Compare1 (r_ld V O (by ktr_rel) (by ktr_rel) (wpAny_BinOp (r_ld V O (by ktr_rel) (by ktr_rel) (r_call (r_boot V (B.keeps O.keep) (by ktr_rel) (by ktr_rel) (r_bi (r_arg (r_ld V O (by ktr_rel) (by ktr_rel) (r_args ?_))))))))))
      refine P.len_str (by lia) (SB.mul (mulOk_len _ (by lia)) fun t' k => ?_)
      refine PyProof.Rows.ne_str (truth_bool ?_)
      by_cases h1 : Txt.slice x none (some (Txt.rfind x "/" + 1)) = Txt.mul "/" ((Txt.slice x none (some (Txt.rfind x "/" + 1))).length : Int)
      · rw [show (Txt.slice x none (some (Txt.rfind x "/" + 1)) != Txt.mul "/" ((Txt.slice x none (some (Txt.rfind x "/" + 1))).length : Int)) = false from by rw [← h1]; simp]
        have : splitHead x = Txt.slice x none (some (Txt.rfind x "/" + 1)) := by unfold splitHead; simp [← h1]
        rw [← this] at O
        exact r_nil ⟨rfl, Sm.mk', _, O, _, _, _, _, by ktr_rel⟩
      · rw [show (Txt.slice x none (some (Txt.rfind x "/" + 1)) != Txt.mul "/" ((Txt.slice x none (some (Txt.rfind x "/" + 1))).length : Int)) = true from by simpa using h1]
        refine wpAny_allTrue_And_nil (r_seq rfl (wpAny_Assign_Name (r_meth PySem.F.plainAttrs_str PySem.F.slot_str_rstrip PySem.F.type_str_rstrip (r_ld V O (by ktr_rel) (by ktr_rel) ⟨str_here, r_arg (r_ld V O (by ktr_rel) (by ktr_rel) (r_args ?_))⟩))))
        refine SC.rstripChars (fun t'' k'' => ?_) (by rw [sizeLine_eq]; lia)
        refine r_st V O (by ktr_rel) (by ktr_rel) (by ktr_rel) ?_
        intro s₁₃ e₁₃ O₁₃
        have : splitHead x = Txt.rstripChars (Txt.slice x none (some (Txt.rfind x "/" + 1))) "/" := by unfold splitHead; simp [h0, h1]
        rw [← this] at O₁₃
        exact r_nil ⟨rfl, Sm.mk'.tr e₁₃, _, O₁₃, _, _, _, _, by ktr_rel⟩
  · obtain ⟨rfl, e₁₃, Ψ, O₁₃, u, a, b, c, hm⟩ := hq
    refine r_seq rfl (wpAny_Return_some (Tuple_ (r_arg (r_ld V O₁₃ hm (by ktr_rel) (r_arg (r_ld V O₁₃ hm (by ktr_rel) (r_args ?_)))))))
    refine r_newTup O₁₃ (fun a s₁₄ e₁₄ _ _ O => ?_)
    exact h a _ _ _ (e₁.tr (e₂.tr (e₃.tr (e₄.tr (e₅.tr (Sm.mk'.tr (e₀.tr (e₆.tr (e₇.tr (e₈.tr (e₉.tr (e₁₀.tr (e₁₁.tr (e₁₂.tr (e₁₃.tr e₁₄))))))))))))))) O.keep (O.toNew.sub (List.Sublist.cons₂ _ (List.nil_sublist _)))
end
end
section
section
variable {w : World} {A : Around} {E : Value → Shared → Prop} {s : Shared}
theorem fn_join (w : World) : FnOK w 171 (bodyAt 16) ["a", "p", "sep", "path", "b"] ["fspath", "_get_sep"] :=
  fnOK_of ⟨by kernel_rfl, by kernel_rfl, by kernel_rfl, by kernel_rfl, by kernel_rfl, by kernel_rfl, by kernel_rfl, by kernel_rfl, by kernel_rfl, by kernel_rfl⟩ (by kernel_rfl) (by kernel_rfl)
theorem r_iadd_str {x y : Str} {t u : Tok} {Q : Value → Shared → Prop} (hl : x.length + y.length ≤ 1000000) (h : ∀ t' k, Q (.str (x ++ y) t') { s with toks := k }) : wpAny (model PR w) A (inplaceOp .Add (.str x t) (.str y u)) Q E s := by
  refine PyProof.Rows.iadd_str h (by rw [sizeLine_eq]; lia)
noncomputable def joined (x y : Str) : Str := if Txt.startswith y "/" = true ∨ x.length = 0 then y else if Txt.endswith x "/" = true then x ++ y else x ++ ("/" ++ y)
theorem join_spec {x y : Str} {t u : Tok} {Q : Value → Shared → Prop} (B : Base w s.heap) (R : Rm A 3) (hx : x.length ≤ 1000) (hy : y.length ≤ 1000)
    (h : ∀ t' s', Sm s s' → Kp s.heap s'.heap → Q (.str (joined x y) t') s') :
    wpAny (model PR w) A (call (.ref 171) [.str x t, .str y u]) Q E s := by
  refine enterV (fn_join w) B (R.le (by decide)) (fun p => [("a", .str x t), ("p", p)]) ["sep", "path", "b"] (fun p => [some (.str x t), some p, none, none, none]) [.str y u] (by kernel_rfl) (fun _ => rfl) (fun _ => rfl) ?_
  intro L env s₁ tp e₁ V O hf
  have R1 : Rm (A.deeper env) 2 := R.deeper
  -- a = fspath(a)
  refine r_seq rfl (wpAny_Assign_Name (r_call (r_glob V (B.keeps O.keep) (by ktr_rel) (by ktr_rel) (r_fn (fn_fspath w).FA (B.keeps O.keep) (r_arg (r_ld V O (by ktr_rel) (by ktr_rel) (r_args ⟨B.keeps O.keep, ?_⟩)))))))
  refine fspath_spec (B.keeps O.keep) (R1.le (by decide)) (fun s₂ e₂ k => ?_)
  replace O := O.kp k
  refine r_st V O (by ktr_rel) (by ktr_rel) (by ktr_rel) ?_
  clear O; intro s₃ e₃ O
  -- sep = _get_sep(a)
  refine r_seq rfl (wpAny_Assign_Name (r_call (r_glob V (B.keeps O.keep) (by ktr_rel) (by ktr_rel) (r_fn (fn_get_sep w).FA (B.keeps O.keep) (r_arg (r_ld V O (by ktr_rel) (by ktr_rel) (r_args ⟨B.keeps O.keep, ?_⟩)))))))
  refine get_sep_spec (B.keeps O.keep) (R1.le (by decide)) (fun t₂ s₄ e₄ k => ?_)
  replace O := O.kp k
  refine r_st V O (by ktr_rel) (by ktr_rel) (by ktr_rel) ?_
  clear O; intro s₅ e₅ O
  -- path = a
  refine r_seq rfl (wpAny_Assign_Name (r_ld V O (by ktr_rel) (by ktr_rel) ?_))
  refine r_st V O (by ktr_rel) (by ktr_rel) (by ktr_rel) ?_
  clear O; intro s₆ e₆ O
  -- try: for b in p: ..
  refine r_seq rfl (wpAny_Try_except ?_)
  refine r_seq rfl (wpAny_For (r_ld V O (by ktr_rel) (by ktr_rel) ?_))
  refine r_for_tuple (l := tp) (xs := [.str y u]) R1.hd (fun i Φ => ∃ v tk, Φ = [(L, locP ["a", "p", "sep", "path", "b"] [some (.str x t), some (.ref tp), some (.str "/" t₂), some (.str (if i = 0 then x else joined x y) tk), v]), (tp, tupP [.str y u])]) O ⟨_, _, rfl⟩ ?_ ?_ ?_
  · rintro i Φ hi ⟨v, tk, rfl⟩; exact .cell (by ktr_rel)
  · rintro i v Φ s₇ I P hi ⟨v0, tk, rfl⟩ e₇ O₇
    have hi0 : i = 0 := by
      rcases i with _ | i
      · rfl
      · simp at hi
    subst hi0
    have hv : v = .str y u := by simpa using hi.symm
    subst hv
    rw [if_pos rfl] at O₇
    refine r_st V O₇ (by ktr_rel) (by ktr_rel) (by ktr_rel) ?_
    clear O O₇; intro s₈ e₈ O
    refine r_seq rfl (wpAny_Assign_Name (r_call (r_glob V (B.keeps O.keep) (by ktr_rel) (by ktr_rel) (r_fn (fn_fspath w).FA (B.keeps O.keep) (r_arg (r_ld V O (by ktr_rel) (by ktr_rel) (r_args ⟨B.keeps O.keep, ?_⟩)))))))
    refine fspath_spec (B.keeps O.keep) (R1.le (by decide)) (fun s₉ e₉ k => ?_)
    replace O := O.kp k
    refine r_st V O (by ktr_rel) (by ktr_rel) (by ktr_rel) ?_
    clear O; intro s₁₀ e₁₀ O
    have ee := e₇.tr (e₈.tr (e₉.tr e₁₀))
    -- if b.startswith(sep) or not path: .. elif .. else ..
    refine r_seq rfl (wpAny_mono (Q := fun f s' => f = .next ∧ Sm s₁₀ s' ∧ ∃ tk, Own s.heap s'.heap [(I, P), (L, locP ["a", "p", "sep", "path", "b"] [some (.str x t), some (.ref tp), some (.str "/" t₂), some (.str (joined x y) tk), some (.str y u)]), (tp, tupP [.str y u])]) ?_ (fun f s' hq => ?_) fun _ _ h => h)
    · refine wpAny_If (wpAny_isTrue_BoolOp (wpAny_allTrue_Or_cons (wpAny_isTrue_value (r_meth PySem.F.plainAttrs_str PySem.F.slot_str_startswith PySem.F.type_str_startswith (r_ld V O (by ktr_rel) (by ktr_rel) ⟨str_here, r_arg (r_ld V O (by ktr_rel) (by ktr_rel) (r_args ?_))⟩)))))
      refine SC.startswith (truth_bool ?_)
      have short : ∀ {s' : Shared} (hc : Txt.startswith y "/" = true ∨ x.length = 0), Sm s₁₀ s' → Own s.heap s'.heap [(I, P), (L, locP ["a", "p", "sep", "path", "b"] [some (.str x t), some (.ref tp), some (.str "/" t₂), some (.str x tk), some (.str y u)]), (tp, tupP [.str y u])] →
          wpAny (model PR w) (A.deeper env) (storeName env "path" (.str y u)) (fun _ s' => Sm s₁₀ s' ∧ ∃ tk, Own s.heap s'.heap [(I, P), (L, locP ["a", "p", "sep", "path", "b"] [some (.str x t), some (.ref tp), some (.str "/" t₂), some (.str (joined x y) tk), some (.str y u)]), (tp, tupP [.str y u])]) (fun _ _ => False) s' := by
        intro s' hc e O
        refine r_st V O (by ktr_rel) (by ktr_rel) (by ktr_rel) fun s'' e' O' => ⟨e.tr e', u, ?_⟩
        have : joined x y = y := by unfold joined; rw [if_pos hc]
        rw [this]; exact O'
      cases h1 : Txt.startswith y "/" with
      | true =>
        refine r_seq rfl (wpAny_Assign_Name (r_ld V O (by ktr_rel) (by ktr_rel) (wpAny_mono (short (.inl h1) Sm.rfl O) (fun _ s' hq => r_nil ⟨rfl, hq⟩) fun _ _ h => h.elim)))
      | false =>
        refine wpAny_allTrue_Or_cons (PyProof.Rows.isTrue_not (wpAny_isTrue_value (r_ld V O (by ktr_rel) (by ktr_rel) (truth_str (by lia) fun tk' => ?_))))
        by_cases h2 : x.length = 0
        · rw [decide_eq_false (not_not_intro h2)]
          refine r_seq rfl (wpAny_Assign_Name (r_ld V O (by ktr_rel) (by ktr_rel) (wpAny_mono (short (.inr h2) Sm.mk' O) (fun _ s' hq => r_nil ⟨rfl, hq⟩) fun _ _ h => h.elim)))
        · rw [decide_eq_true h2]
          refine wpAny_allTrue_Or_nil (r_seq rfl (wpAny_If (wpAny_isTrue_value (r_meth PySem.F.plainAttrs_str PySem.F.slot_str_endswith PySem.F.type_str_endswith (r_ld V O (by ktr_rel) (by ktr_rel) ⟨str_here, r_arg (r_ld V O (by ktr_rel) (by ktr_rel) (r_args ?_))⟩)))))
          refine SC.endswith (truth_bool ?_)
          cases h3 : Txt.endswith x "/" with
          | true =>
            refine r_seq rfl (wpAny_AugAssign_Name (r_ldn V O (by ktr_rel) (by ktr_rel) (r_ld V O (by ktr_rel) (by ktr_rel) ?_)))
            refine r_iadd_str (by lia) fun t' k => ?_
            refine r_st V O (by ktr_rel) (by ktr_rel) (by ktr_rel) fun s'' e' O' => r_nil (r_nil ⟨rfl, Sm.mk'.tr e', t', ?_⟩)
            have : joined x y = x ++ y := by unfold joined; rw [if_neg (by simp [h1, h2]), if_pos h3]
            rw [this]; exact O'
          | false =>
            refine r_seq rfl (wpAny_AugAssign_Name (r_ldn V O (by ktr_rel) (by ktr_rel) (wpAny_BinOp (r_ld V O (by ktr_rel) (by ktr_rel) (r_ld V O (by ktr_rel) (by ktr_rel) ?_)))))
            refine PyProof.Rows.add_str (fun t' k => ?_) (by rw [sizeLine_eq]; show 1 + y.length ≤ _; lia)
            refine r_iadd_str (by rw [Str.length_append]; show x.length + (1 + y.length) ≤ _; lia) fun t' k => ?_
            refine r_st V O (by ktr_rel) (by ktr_rel) (by ktr_rel) fun s'' e' O' => r_nil (r_nil ⟨rfl, Sm.mk'.tr e', t', ?_⟩)
            have : joined x y = x ++ ("/" ++ y) := by unfold joined; rw [if_neg (by simp [h1, h2]), if_neg (by simp [h3])]
            rw [this]; exact O'
    · obtain ⟨rfl, e₁₁, tk', O₁₁⟩ := hq
      exact r_nil (Turn.next _ (ee.tr e₁₁) O₁₁ ⟨_, tk', rfl⟩)
  · rintro Φ s₇ ⟨v, tk, rfl⟩ e₇ O₇
    refine r_nil (r_nil (r_seq rfl (wpAny_Return_some (r_ld V O₇ (by ktr_rel) (by ktr_rel) ?_))))
    exact h _ _ (e₁.tr (e₂.tr (e₃.tr (e₄.tr (e₅.tr (e₆.tr e₇)))))) O₇.keep
end
end
section
section
variable {w : World} {A : Around} {E : Value → Shared → Prop} {s : Shared}
/-! ## places -/
noncomputable abbrev Key := List (Fin 3)
noncomputable def nmF (i : Fin 3) : Str := if i = 0 then "a" else if i = 1 then "ab" else "b"
noncomputable def S0 : Key → Str
  | [] => Str.empty
  | i :: r => ("/" ++ nmF i) ++ S0 r
noncomputable def S (k : Key) : Str := if k = [] then "/" else S0 k
theorem S_step0 : ∀ c : Fin 3, joined (S []) (nmF c) = S [c] := by decide +kernel
theorem S_step1 : ∀ a c : Fin 3, joined (S [a]) (nmF c) = S [a, c] := by decide +kernel
theorem S_step2 : ∀ a b c : Fin 3, joined (S [a, b]) (nmF c) = S [a, b, c] := by decide +kernel
theorem S_len0 : (S []).length ≤ 10 := by decide +kernel
theorem S_len1 : ∀ a : Fin 3, (S [a]).length ≤ 10 := by decide +kernel
theorem S_len2 : ∀ a b : Fin 3, (S [a, b]).length ≤ 10 := by decide +kernel
theorem S_len3 : ∀ a b c : Fin 3, (S [a, b, c]).length ≤ 10 := by decide +kernel
theorem nm_len : ∀ a : Fin 3, (nmF a).length ≤ 10 := by decide +kernel
theorem S_step (k : Key) (c : Fin 3) (h : k.length ≤ 2) : joined (S k) (nmF c) = S (k ++ [c]) := by
  match k, h with
  | [], _ => exact S_step0 c
  | [a], _ => exact S_step1 a c
  | [a, b], _ => exact S_step2 a b c
  | _ :: _ :: _ :: _, h => simp at h
theorem S_len (k : Key) (h : k.length ≤ 3) : (S k).length ≤ 10 := by
  match k, h with
  | [], _ => exact S_len0
  | [a], _ => exact S_len1 a
  | [a, b], _ => exact S_len2 a b
  | [a, b, c], _ => exact S_len3 a b c
  | _ :: _ :: _ :: _ :: _, h => simp at h
noncomputable def f3 (c : Int) : Fin 3 := ⟨(c.fmod 3).toNat, by
  have h := Int.fmod_nonneg_of_pos c (show (0 : Int) < 3 by decide)
  have h2 := Int.fmod_lt_of_pos c (show (0 : Int) < 3 by decide)
  lia⟩
noncomputable def cc : Nat → Int → Int
  | 0, c => c
  | n + 1, c => (cc n c).fdiv 3
noncomputable def kk : Nat → Int → Key
  | 0, _ => []
  | n + 1, c => kk n c ++ [f3 (cc (n + 1) c)]
theorem kk_len (n : Nat) (c : Int) : (kk n c).length = n := by
  induction n with
  | zero => rfl
  | succ n ih => simp [kk, ih]
/-- the place that a cell tells -/
noncomputable def keyOf (c : Int) : Key := kk ((f3 c).val + 1) c
theorem seq_at {k : Int} {n j : Nat} (h : k = j) (hj : j < n) : seqIndex? k n = some j := by
  subst h
  unfold seqIndex?
  simp
  lia
theorem nm3 (a b d : Tok) (z : Fin 3) : ([Value.str "a" a, Value.str "ab" b, Value.str "b" d] : List Value)[z.val]? = some (.str (nmF z) (if z = 0 then a else if z = 1 then b else d)) := by
  match z with
  | 0 => rfl
  | 1 => rfl
  | 2 => rfl
theorem fn_law_place (w : World) : FnOK w 197 (bodyAt 22) ["cell", "place", "turn"] ["range", "join"] :=
  fnOK_of ⟨by kernel_rfl, by kernel_rfl, by kernel_rfl, by kernel_rfl, by kernel_rfl, by kernel_rfl, by kernel_rfl, by kernel_rfl, by kernel_rfl, by kernel_rfl⟩ (by kernel_rfl) (by kernel_rfl)
theorem law_place_spec {c : Int} {t : Tok} {Q : Value → Shared → Prop} (B : Base w s.heap) (R : Rm A 5)
    (h : ∀ t' s', Sm s s' → Kp s.heap s'.heap → Q (.str (S (keyOf c)) t') s') :
    wpAny (model PR w) A (call (.ref 197) [.int c t]) Q E s := by
  refine enterF (fn_law_place w) B (R.le (by decide)) [("cell", .int c t)] ["place", "turn"] [some (.int c t), none, none] (by kernel_rfl) rfl rfl ?_
  intro L env s₁ e₁ V O hf
  have R1 : Rm (A.deeper env) 4 := R.deeper
  refine r_seq rfl (wpAny_Assign_Name (wpAny_Constant_str ?_))
  refine r_st V O (by ktr_rel) (by ktr_rel) (by ktr_rel) ?_
  clear O; intro s₂ e₂ O
  refine r_seq rfl (wpAny_For (r_call (r_boot V (B.keeps O.keep) (by ktr_rel) (by ktr_rel) (r_ty (r_arg (wpAny_BinOp (wpAny_BinOp (r_ld V O (by ktr_rel) (by ktr_rel) (wpAny_Constant_int ?_)))))))))
  refine PyProof.Rows.mod_int (by decide) (wpAny_Constant_int (PyProof.Rows.add_int (r_args (r_gen O ?_))))
  clear O; intro s₃ e₃ O
  refine r_range1 O (fun r s₄ e₄ O => ?_)
  have hm0 := Int.fmod_nonneg_of_pos c (show (0 : Int) < 3 by decide)
  have hm1 := Int.fmod_lt_of_pos c (show (0 : Int) < 3 by decide)
  refine r_for_range (n := (f3 c).val + 1) R1.hd (by lia) (by decide) (by decide) (by show c.fmod 3 + 1 = 0 + (((c.fmod 3).toNat + 1 : Nat) : Int); lia) (.cell List.mem_cons_self)
    (fun i Φ => ∃ v t₁ t₂, Φ = [(r, rngP 0 (c.fmod 3 + 1)), (L, locP ["cell", "place", "turn"] [some (.int (cc i c) t₁), some (.str (S (kk i c)) t₂), v])]) O ⟨_, _, _, rfl⟩ ?_ ?_
  · intro i t Φ s₅ I P hi jz1 e₅ O₅
    refine hide fun Gz hGz => ?_
    obtain ⟨v, t₁, t₂, rfl⟩ := jz1
    refine hGz ?_
    refine hideT fun TT1 hTT1 => ?_
    refine r_st V O₅ (by ktr_rel) (by ktr_rel) (by ktr_rel) ?_
    clear O O₅; intro s₆ e₆ O
    -- cell = cell // 3
    refine r_seq rfl (wpAny_Assign_Name (wpAny_BinOp (r_ld V O (by ktr_rel) (by ktr_rel) (wpAny_Constant_int ?_))))
    refine PyProof.Rows.floordiv_int (by decide) ?_ (.inr (R.pylong (B.keeps O.keep) V))
    refine r_st V O (by ktr_rel) (by ktr_rel) (by ktr_rel) ?_
    clear O; intro s₇ e₇ O
    -- place = join(place, (..)[cell % 3])
    refine r_seq rfl (wpAny_Assign_Name (r_call (r_glob V (B.keeps O.keep) (by ktr_rel) (by ktr_rel) (r_fn (fn_join w).FA (B.keeps O.keep) (r_arg (r_ld V O (by ktr_rel) (by ktr_rel) ?_))))))
    refine r_arg (Subscript_ (Tuple_ (r_arg (wpAny_Constant_str (r_arg (wpAny_Constant_str (r_arg (wpAny_Constant_str (r_args ?_)))))))))
    refine r_newTup O (fun tp s₈ e₈ _ _ O => wpAny_BinOp (r_ld V O (by ktr_rel) (by ktr_rel) (wpAny_Constant_int (PyProof.Rows.mod_int (by decide) ?_))))
    have hi' : i ≤ 2 := by have := (f3 c).isLt; lia
    have q0 := Int.fmod_nonneg_of_pos (cc (i + 1) c) (show (0 : Int) < 3 by decide)
    have q1 := Int.fmod_lt_of_pos (cc (i + 1) c) (show (0 : Int) < 3 by decide)
    obtain ⟨o, ho, rfl⟩ := O.get List.mem_cons_self
    have hv : (f3 (cc (i + 1) c)).val = ((cc (i + 1) c).fmod 3).toNat := rfl
    refine PyProof.Rows.item_tupleT ⟨_, ho, rfl, 0, rfl⟩ (by show _ ≤ (cc (i + 1) c).fmod 3; lia) (by show (cc (i + 1) c).fmod 3 < _; lia) (seq_at (j := (f3 (cc (i + 1) c)).val) ?_ ?_) (nm3 _ _ _ (f3 (cc (i + 1) c))) (r_args ⟨B.keeps O.keep, ?_⟩)
    · exact (Int.toNat_of_nonneg q0).symm
    · show _ < 3; lia
    refine join_spec (B.keeps O.keep) (R1.le (by decide)) (Nat.le_trans (S_len _ (by rw [kk_len]; lia)) (by decide)) (Nat.le_trans (nm_len _) (by decide)) fun t₉ s₉ e₉ k => ?_
    rw [S_step _ _ (by rw [kk_len]; exact hi')]
    replace O := O.kp k
    refine r_st V O (by ktr_rel) (by ktr_rel) (by ktr_rel) ?_
    clear O; intro s₁₀ e₁₀ O
    refine r_nil (hTT1 _ _ (Turn.next _ (e₅.tr (e₆.tr (Sm.mk'.tr (e₇.tr (Sm.mk'.tr (e₈.tr (Sm.mk'.tr (e₉.tr e₁₀)))))))) (O.pick (Pick.drop Pick.refl)) ⟨_, _, _, rfl⟩))
  · intro Φ s₅ jz2 e₅ O₅
    refine hide fun Gz hGz => ?_
    obtain ⟨v, t₁, t₂, rfl⟩ := jz2
    refine hGz ?_
    refine r_seq rfl (wpAny_Return_some (r_ld V O₅ (by ktr_rel) (by ktr_rel) ?_))
    exact h _ _ (e₁.tr (Sm.mk'.tr (e₂.tr (Sm.mk'.tr (e₃.tr (e₄.tr e₅)))))) O₅.keep
end
end
section
section
variable {w : World} {A : Around} {E : Value → Shared → Prop} {s : Shared}
noncomputable def qKeys : List Key := [[0], [0, 0], [0, 1], [0, 2], [1], [1, 0], [1, 1], [1, 2], [2], [2, 0], [2, 1], [2, 2]]
/-- the quotas -/
noncomputable def qV (outer inner : Int) : Key → Int
  | [i] => 1 + (outer + 2 * (i.val : Int)).fmod 3
  | [i, j] => 1 + (inner + i.val + j.val).fmod 2
  | _ => 0
/-- a dict tells f on the first n keys with a quota -/
structure QD (f : Key → Int) (n : Nat) (kvs : List (Str × Value)) : Prop where
  keys : kvs.map (·.1) = (qKeys.take n).map S
  val : ∀ k ∈ qKeys.take n, ∃ t, valueAt kvs (S k) = some (.int (f k) t)
theorem S_inj39 : ∀ k ∈ qKeys, ∀ k' ∈ qKeys, S k = S k' → k = k' := by decide +kernel
theorem qKeys_nd : qKeys.Nodup := by decide +kernel
theorem QD.len {f : Key → Int} {n : Nat} {kvs : List (Str × Value)} (h : QD f n kvs) : kvs.length ≤ 12 := by
  have := congrArg List.length h.keys
  simp only [List.length_map, List.length_take] at this
  rw [this]
  exact Nat.min_le_right _ _
theorem QD.step {f : Key → Int} {n : Nat} {kvs : List (Str × Value)} (h : QD f n kvs) {k : Key} {t : Tok} {x : Int} (hk : qKeys[n]? = some k) (hx : x = f k) : QD f (n + 1) (stored kvs (S k) (.int x t)) := by
  subst hx
  have hm : k ∈ qKeys := List.mem_of_getElem? hk
  have ht : qKeys.take (n + 1) = qKeys.take n ++ [k] := by rw [List.take_add_one, hk]; rfl
  have hnot : k ∉ qKeys.take n := by
    have nd := qKeys_nd
    have : (qKeys.take n ++ [k]).Nodup := ht ▸ nd.sublist (List.take_sublist _ _)
    rw [List.nodup_append] at this
    exact fun hm' => this.2.2 k hm' k (by simp) rfl
  have hS : S k ∉ kvs.map (·.1) := fun hm' => by
    rw [h.keys] at hm'
    obtain ⟨k', hk', e⟩ := List.mem_map.mp hm'
    exact hnot (S_inj39 _ (List.mem_of_mem_take hk') _ hm e ▸ hk')
  refine ⟨by rw [stored_keys, if_neg hS, h.keys, ht, List.map_append]; rfl, fun k' hk' => ?_⟩
  rw [valueAt_stored]
  rw [ht] at hk'
  rcases List.mem_append.mp hk' with hk' | hk'
  · have : S k' ≠ S k := fun e => hnot (S_inj39 _ (List.mem_of_mem_take hk') _ hm e ▸ hk')
    rw [if_neg this]
    exact h.val k' hk'
  · rw [List.mem_singleton.mp hk', if_pos rfl]
    exact ⟨t, rfl⟩
theorem nm_S1 : ∀ i : Fin 3, "/" ++ nmF i = S [i] := by decide +kernel
theorem nm_S2 : ∀ i j : Fin 3, "/" ++ nmF i ++ "/" ++ nmF j = S [i, j] := by decide +kernel
theorem qk1 : ∀ i : Fin 3, qKeys[4 * i.val]? = some [i] := by decide +kernel
theorem qk2 : ∀ i j : Fin 3, qKeys[4 * i.val + 1 + j.val]? = some [i, j] := by decide +kernel
theorem nm3_at {a b d : Tok} {i : Nat} {x : Value} (h : ([Value.str "a" a, Value.str "ab" b, Value.str "b" d] : List Value)[i]? = some x) : ∃ (z : Fin 3) (u : Tok), i = z.val ∧ x = .str (nmF z) u := by
  match i, h with
  | 0, h => exact ⟨0, a, rfl, (Option.some.inj h).symm⟩
  | 1, h => exact ⟨1, b, rfl, (Option.some.inj h).symm⟩
  | 2, h => exact ⟨2, d, rfl, (Option.some.inj h).symm⟩
  | n + 3, h => exact nomatch h
variable {h₀ : Heap} {Φ Φ' : List Cell} {env : Env}
theorem r_abc {k1 k2 k3 k : Nat} {p1 p2 p3 pos : Pos} {Q : Value → Shared → Prop} (O : Own h₀ s.heap Φ) (h : ∀ tp a b c s', Sm s s' → Own h₀ s'.heap ((tp, tupP [.str "a" a, .str "ab" b, .str "b" c]) :: Φ) → Q (.ref tp) s') :
    wpAny (model PR w) A (eval (.Tuple [.Constant (.str "a") k1 p1, .Constant (.str "ab") k2 p2, .Constant (.str "b") k3 p3] k pos) env) Q E s := by
  refine Tuple_ (r_arg (wpAny_Constant_str (r_arg (wpAny_Constant_str (r_arg (wpAny_Constant_str (r_args ?_)))))))
  refine r_newTup O (fun tp s₄ e₄ _ _ O => h tp _ _ _ _ ⟨e₄.gens, e₄.drawn, e₄.os⟩ O)
theorem self_enum {e it : Addr} {i : Nat} {Q : Value → Shared → Prop} (O : Own h₀ s.heap ((e, enP it i) :: Φ)) (h : Q (.ref e) s) : wpAny (model PR w) A (pyIter (.ref e)) Q E s := by
  refine hide fun Gz1 hGz1 => ?_
  obtain ⟨oe, ge, old, rfl⟩ := O.head
  refine hGz1 ?_
  exact wpAny_pyIter_enum ge h
theorem r_setQ {f : Key → Int} {n : Nat} {d : Addr} {kvs : List (Str × Value)} {k : Key} {x : Int} {t u : Tok} {Φ' : List (Str × Value) → List Cell} {Q : Unit → Shared → Prop} (O : Own h₀ s.heap Φ) (hm : (d, dctP w kvs) ∈ Φ) (hq : QD f n kvs) (hk : qKeys[n]? = some k) (hx : x = f k)
    (U : ∀ kvs', Upd d (dctP w kvs') Φ (Φ' kvs')) (h : ∀ s' kvs', Sm s s' → QD f (n + 1) kvs' → Own h₀ s'.heap (Φ' kvs') → Q () s') : wpAny (model PR w) A (setItem (.ref d) (.str (S k) t) (.int x u)) Q E s :=
  r_set O hm (by have := hq.len; lia) (U _) fun s' e O' => h s' _ e (hq.step hk hx) O'
theorem fn_law_quotas (w : World) : FnOK w 204 (bodyAt 23) ["outer", "inner", "quotas", "i", "name", "j", "below"] ["enumerate"] :=
  fnOK_of ⟨by kernel_rfl, by kernel_rfl, by kernel_rfl, by kernel_rfl, by kernel_rfl, by kernel_rfl, by kernel_rfl, by kernel_rfl, by kernel_rfl, by kernel_rfl⟩ (by kernel_rfl) (by kernel_rfl)
noncomputable abbrev qNm : List Str := ["outer", "inner", "quotas", "i", "name", "j", "below"]
theorem law_quotas_spec {outer inner : Int} {t u : Tok} {Q : Value → Shared → Prop} (B : Base w s.heap) (R : Rm A 3)
    (h : ∀ d kvs s', Sm s s' → Kp s.heap s'.heap → NS d → QD (qV outer inner) 12 kvs → New s.heap s'.heap [(d, dctP w kvs)] → Q (.ref d) s') :
    wpAny (model PR w) A (call (.ref 204) [.int outer t, .int inner u]) Q E s := by
  refine enterF (fn_law_quotas w) B (R.le (by decide)) [("outer", .int outer t), ("inner", .int inner u)] ["quotas", "i", "name", "j", "below"] [some (.int outer t), some (.int inner u), none, none, none, none, none] (by kernel_rfl) rfl rfl ?_
  intro L env s₁ e₁ V O hf
  have R1 : Rm (A.deeper env) 2 := R.deeper
  have hh := R1.hd
  refine r_seq rfl (wpAny_Assign_Name (r_dict0 (B.keeps O.keep) O fun d s₂ e₂ _ nsd _ O => ?_))
  refine r_st V O (by ktr_rel) (by ktr_rel) (by ktr_rel) ?_
  clear O; intro s₃ e₃ O
  -- for i, name in enumerate(..)
  refine r_seq rfl (wpAny_For (r_call (r_boot V (B.keeps O.keep) (by ktr_rel) (by ktr_rel) (r_ty (r_arg (r_abc O fun tp ta tb tc s₄ e₄ O => r_args ?_))))))
  refine r_enum_tuple O (.cell List.mem_cons_self) fun e it s₅ e₅ O => self_enum O ?_
  refine r_forT (iter_enum_tuple (xs := [.str "a" ta, .str "ab" tb, .str "b" tc]) hh (has_ne O.drop (.cell (by ktr_rel)))) (fun i Φ => ∃ kvs a b c d', QD (qV outer inner) (4 * i) kvs ∧ Φ = [(tp, tupP [.str "a" ta, .str "ab" tb, .str "b" tc]), (d, dctP w kvs), (L, locP qNm [some (.int outer t), some (.int inner u), some (.ref d), a, b, c, d'])]) O (ei5 [] _ _ _ _ ⟨⟨rfl, fun _ h => nomatch h⟩, rfl⟩) ?_ ?_ ?_
  · intro i Φ _ jy0
    refine ex5 jy0 fun kvs a b c d' jx0 => And.elim (fun _ jr01 => ?_) jx0
    clear jx0 jy0
    subst jr01
    exact .cell (by ktr_rel)
  · intro i v Ψ Φ s₆ hi jz2 jz3 e₆ O₆
    refine hide fun Gz4 hGz4 => ?_
    refine ex5 jz2 fun kvs a b c d' jx => ?_
    obtain ⟨hq, rfl⟩ := jx
    clear jz2
    refine ex3 jz3 fun T ti x jx => ?_
    refine an3 jx fun hx jr1 jr2 => ?_
    clear jx jz3
    subst jr1
    subst jr2
    refine hGz4 ?_
    refine hideT fun TT1 hTT1 => ?_
    refine hide fun Gz5 hGz5 => ?_
    obtain ⟨z, tz, rfl, rfl⟩ := nm3_at hx
    refine hGz5 ?_
    dsimp only [List.cons_append, List.nil_append] at O₆
    refine r_pair hh O₆ (.cell (by ktr_rel)) fun s₇ e₇ O => ?_
    clear O₆
    refine r_st V O (by ktr_rel) (by ktr_rel) (by ktr_rel) ?_
    clear O; intro s₈ e₈ O
    refine r_st V O (by ktr_rel) (by ktr_rel) (by ktr_rel) ?_
    clear O; intro s₉ e₉ O
    -- quotas['/' + name] = 1 + (outer + 2 * i) % 3
    refine r_seq rfl (wpAny_Assign_Subscript (wpAny_BinOp (wpAny_Constant_int (wpAny_BinOp (wpAny_BinOp (r_ld V O (by ktr_rel) (by ktr_rel) (wpAny_BinOp (wpAny_Constant_int (r_ld V O (by ktr_rel) (by ktr_rel) ?_)))))))))
    refine PyProof.Rows.mul_int (PyProof.Rows.add_int (wpAny_Constant_int (PyProof.Rows.mod_int (by decide) (PyProof.Rows.add_int (r_gen O ?_)))))
    clear O; intro s₁₀ e₁₀ O
    refine r_ld V O (by ktr_rel) (by ktr_rel) (wpAny_BinOp (wpAny_Constant_str (r_ld V O (by ktr_rel) (by ktr_rel) ?_)))
    refine PyProof.Rows.add_str (fun t₁ k₁ => ?_) (by rw [sizeLine_eq]; have := nm_len z; show 1 + (nmF z).length ≤ _; lia)
    rw [nm_S1]
    refine r_gen O ?_
    clear O; intro s₁₁ e₁₁ O
    refine r_setQ O (by ktr_rel) hq (qk1 z) rfl (fun _ => by ktr_rel) ?_
    clear O; intro s₁₂ kvs₁ e₁₂ hq₁ O
    have ee : Sm s₅ s₁₂ := by ktr_rel
    -- for j, below in enumerate(..)
    refine r_seq rfl (wpAny_For (r_call (r_boot V (B.keeps O.keep) (by ktr_rel) (by ktr_rel) (r_ty (r_arg (r_abc O fun tp' ta' tb' tc' s₄' e₄' O => r_args ?_))))))
    refine r_enum_tuple O (.cell List.mem_cons_self) fun e' it' s₁₃ e₁₃ O => self_enum O ?_
    have O' := O.pick (Φ' := [(e', enP it' 0), (it', titP tp' 0), (tp', tupP [.str "a" ta', .str "ab" tb', .str "b" tc']), (d, dctP w kvs₁), (L, locP qNm [some (.int outer t), some (.int inner u), some (.ref d), some (.int z.val ti), some (.str (nmF z) tz), c, d']), (e, enP it (z.val + 1)), (it, titP tp (z.val + 1)), (tp, tupP [.str "a" ta, .str "ab" tb, .str "b" tc])])
      (.take .head (.take .head (.take .head (.take (by repeat (first | exact .head | apply Sel.tail)) (.take (by repeat (first | exact .head | apply Sel.tail)) (.take .head (.take .head (.take (by repeat (first | exact .head | apply Sel.tail)) .nil))))))))
    clear O
    refine r_forT (iter_enum_tuple (xs := [.str "a" ta', .str "ab" tb', .str "b" tc']) hh (has_ne O'.drop (.cell (by ktr_rel)))) (fun j Φ => ∃ kvs c d', QD (qV outer inner) (4 * z.val + 1 + j) kvs ∧
      Φ = [(tp', tupP [.str "a" ta', .str "ab" tb', .str "b" tc']), (d, dctP w kvs), (L, locP qNm [some (.int outer t), some (.int inner u), some (.ref d), some (.int z.val ti), some (.str (nmF z) tz), c, d']), (e, enP it (z.val + 1)), (it, titP tp (z.val + 1)), (tp, tupP [.str "a" ta, .str "ab" tb, .str "b" tc])]) O' (ei3 kvs₁ _ _ ⟨hq₁, rfl⟩) ?_ ?_ ?_
    · intro i Φ _ jy0
      refine ex3 jy0 fun kvs c d' jx0 => And.elim (fun _ jr01 => ?_) jx0
      clear jx0 jy0
      subst jr01
      exact .cell (by ktr_rel)
    · intro j v Ψ Φ s₁₄ hj jz6 jz7 e₁₄ O
      refine hide fun Gz8 hGz8 => ?_
      refine ex3 jz6 fun kvs c d' jx => ?_
      obtain ⟨hq, rfl⟩ := jx
      clear jz6
      refine ex3 jz7 fun T' tj x jx => ?_
      refine an3 jx fun hx jr1 jr2 => ?_
      clear jx jz7
      subst jr1
      subst jr2
      refine hGz8 ?_
      refine hideT fun TT2 hTT2 => ?_
      refine hide fun Gz9 hGz9 => ?_
      obtain ⟨y, ty, rfl, rfl⟩ := nm3_at hx
      refine hGz9 ?_
      dsimp only [List.cons_append, List.nil_append] at O
      refine r_pair hh O (.cell (by ktr_rel)) ?_
      clear O; intro s₁₅ e₁₅ O
      refine r_st V O (by ktr_rel) (by ktr_rel) (by ktr_rel) ?_
      clear O; intro s₁₆ e₁₆ O
      refine r_st V O (by ktr_rel) (by ktr_rel) (by ktr_rel) ?_
      clear O; intro s₁₇ e₁₇ O
      refine r_seq rfl (wpAny_Assign_Subscript (wpAny_BinOp (wpAny_Constant_int (wpAny_BinOp (wpAny_BinOp (wpAny_BinOp (r_ld V O (by ktr_rel) (by ktr_rel) (r_ld V O (by ktr_rel) (by ktr_rel) ?_))))))))
      refine PyProof.Rows.add_int (r_ld V O (by ktr_rel) (by ktr_rel) (PyProof.Rows.add_int (wpAny_Constant_int (PyProof.Rows.mod_int (by decide) (PyProof.Rows.add_int (r_gen O ?_))))))
      clear O; intro s₁₈ e₁₈ O
      refine r_ld V O (by ktr_rel) (by ktr_rel) (wpAny_BinOp (wpAny_BinOp (wpAny_BinOp (wpAny_Constant_str (r_ld V O (by ktr_rel) (by ktr_rel) ?_)))))
      have n1 := nm_len z
      have n2 := nm_len y
      refine PyProof.Rows.add_str (fun t₁ k₁ => ?_) (by rw [sizeLine_eq]; show 1 + (nmF z).length ≤ _; lia)
      refine wpAny_Constant_str (PyProof.Rows.add_str (fun t₂ k₂ => ?_) (by rw [sizeLine_eq, Str.length_append]; show 1 + (nmF z).length + 1 ≤ _; lia))
      refine r_ld V (s := _) O (by ktr_rel) (by ktr_rel) ?_
      refine PyProof.Rows.add_str (fun t₃ k₃ => ?_) (by rw [sizeLine_eq, Str.length_append, Str.length_append]; show 1 + (nmF z).length + 1 + (nmF y).length ≤ _; lia)
      rw [nm_S2]
      refine r_gen O ?_
      clear O; intro s₁₉ e₁₉ O
      refine r_setQ O (by ktr_rel) hq (qk2 z y) rfl (fun _ => by ktr_rel) ?_
      clear O; intro s₂₀ kvs₂ e₂₀ hq₂ O
      refine r_nil (hTT2 _ _ ?_)
      refine Turn.next _ (by ktr_rel) (O.pick (Φ' := _) (.take .head (.take .head (.drop (.take .head (.take .head .refl)))))) (ei3 kvs₂ _ _ ⟨hq₂, rfl⟩)
    · intro Φ s₁₄ jz10 e₁₄ O
      refine hide fun Gz11 hGz11 => ?_
      refine ex3 jz10 fun kvs c d' jx => ?_
      obtain ⟨hq, rfl⟩ := jx
      clear jz10
      refine hGz11 ?_
      have hq' : QD (qV outer inner) (4 * (z.val + 1)) kvs := by have : 4 * z.val + 1 + 3 = 4 * (z.val + 1) := by lia
                                                                 rw [← this]; exact hq
      refine r_nil (hTT1 _ _ ?_)
      refine Turn.next [(tp, tupP [.str "a" ta, .str "ab" tb, .str "b" tc]), (d, dctP w kvs), (L, locP qNm [some (.int outer t), some (.int inner u), some (.ref d), some (.int z.val ti), some (.str (nmF z) tz), c, d'])] (by ktr_rel) (O.pick ?_) (ei5 kvs _ _ _ _ ⟨hq', rfl⟩)
      exact .take (by repeat (first | exact .head | apply Sel.tail)) (.take (by repeat (first | exact .head | apply Sel.tail)) (.take (by repeat (first | exact .head | apply Sel.tail)) (.take (by repeat (first | exact .head | apply Sel.tail)) (.take (by repeat (first | exact .head | apply Sel.tail)) .nil))))
  · intro Φ s₆ jz12 e₆ O₆
    refine hide fun Gz13 hGz13 => ?_
    refine ex5 jz12 fun kvs a b c d' jx => ?_
    obtain ⟨hq, rfl⟩ := jx
    clear jz12
    refine hGz13 ?_
    refine r_seq rfl (wpAny_Return_some (r_ld V O₆ (by ktr_rel) (by ktr_rel) ?_))
    exact h d kvs _ (by ktr_rel) O₆.keep nsd hq ((O₆.pick (.take (.tail .head) .nil)).toNew)
end
end
section
section
/-! ## the tree of flags: the plain part -/
structure Nd where
  p : Key
  a : Addr
  fl : Addr
  rf : Addr
  ne : Addr
  f : Bool
  r : Bool
noncomputable def childOf (q : Key) (n : Nd) : Option (Fin 3) := if n.p.dropLast = q then n.p.getLast? else none
theorem childOf_some {q : Key} {n : Nd} {c : Fin 3} : childOf q n = some c ↔ n.p = q ++ [c] := by
  unfold childOf
  constructor
  · intro h
    split at h
    · rename_i hq
      have hne : n.p ≠ [] := fun e => by rw [e] at h; cases h
      rw [List.getLast?_eq_some_getLast hne] at h
      injection h with h
      rw [← hq, ← h, List.dropLast_concat_getLast hne]
    · cases h
  · intro h
    rw [h]; simp
noncomputable def kids (q : Key) (M : List Nd) : List (Str × Value) := M.filterMap fun n => (childOf q n).map fun c => (nmF c, Value.ref n.a)
theorem nmF_ok : ∀ a b : Fin 3, nmF a = nmF b → a = b := by decide +kernel
theorem kids_at {q : Key} {c : Fin 3} {M : List Nd} (nd : (M.map (·.p)).Nodup) {n : Nd} (hn : n ∈ M) (hp : n.p = q ++ [c]) : valueAt (kids q M) (nmF c) = some (.ref n.a) := by
  induction M with
  | nil => cases hn
  | cons m r ih =>
    rw [List.map_cons, List.nodup_cons] at nd
    unfold kids
    rw [List.filterMap_cons]
    rcases List.mem_cons.mp hn with rfl | hn
    · rw [childOf_some.mpr hp]
      simp [valueAt]
    · have := ih nd.2 hn
      cases hc : childOf q m with
      | none => exact this
      | some c' =>
        have hne : ¬ nmF c' = nmF c := fun e => by
          have := nmF_ok _ _ e
          subst this
          exact nd.1 (by rw [childOf_some.mp hc, ← hp]; exact List.mem_map.mpr ⟨n, hn, rfl⟩)
        simp only [Option.map_some, valueAt, List.find?_cons, hne, decide_false]
        exact this
theorem kids_none {q : Key} {c : Fin 3} {M : List Nd} (h : ∀ n ∈ M, n.p ≠ q ++ [c]) : valueAt (kids q M) (nmF c) = none := by
  induction M with
  | nil => rfl
  | cons m r ih =>
    have := ih fun n hn => h n (List.mem_cons_of_mem _ hn)
    unfold kids
    rw [List.filterMap_cons]
    cases hc : childOf q m with
    | none => exact this
    | some c' =>
      have hne : ¬ nmF c' = nmF c := fun e => by
        have := nmF_ok _ _ e
        subst this
        exact h m List.mem_cons_self (childOf_some.mp hc)
      simp only [Option.map_some, valueAt, List.find?_cons, hne, decide_false]
      exact this
theorem kids_some {q : Key} {c : Fin 3} {M : List Nd} (nd : (M.map (·.p)).Nodup) : (valueAt (kids q M) (nmF c)).isSome = true ↔ ∃ n ∈ M, n.p = q ++ [c] := by
  constructor
  · intro h
    by_cases hx : ∃ n ∈ M, n.p = q ++ [c]
    · exact hx
    · rw [kids_none fun n hn e => hx ⟨n, hn, e⟩] at h; cases h
  · rintro ⟨n, hn, hp⟩
    rw [kids_at nd hn hp]; rfl
theorem kids_snoc {q : Key} {c : Fin 3} {M : List Nd} {n : Nd} (hp : n.p = q ++ [c]) (h : ∀ m ∈ M, m.p ≠ q ++ [c]) : kids q (M ++ [n]) = stored (kids q M) (nmF c) (.ref n.a) := by
  unfold stored
  have hany : ¬ ((kids q M).any fun kv => decide (kv.1 = nmF c)) = true := fun ha => by
    have := kids_none h
    obtain ⟨x, hx, e⟩ := List.any_eq_true.mp ha
    unfold valueAt at this
    rw [Option.map_eq_none_iff, List.find?_eq_none] at this
    exact this x hx e
  rw [if_neg hany]
  unfold kids
  rw [List.filterMap_append]
  congr 1
  simp [childOf_some.mpr hp]
theorem kids_snoc_ne {q q' : Key} {c : Fin 3} {M : List Nd} {n : Nd} (hp : n.p = q ++ [c]) (h : q' ≠ q) : kids q' (M ++ [n]) = kids q' M := by
  unfold kids
  rw [List.filterMap_append]
  have : childOf q' n = none := by
    unfold childOf
    rw [hp]
    simp [Ne.symm h]
  simp [this]
noncomputable def conts (c0 : Addr) (M : List Nd) : List (Key × Addr) := ([], c0) :: M.map fun n => (n.p, n.ne)
noncomputable def sF (f : Bool) : Int → Bool := fun k => f && decide (k = 1)
noncomputable def sR (r : Bool) : Int → Bool := fun k => r && decide (k = 0)
noncomputable def cnt (b : Bool) : Nat := if b then 1 else 0
noncomputable def recOf (n : Nd) : List (Str × Value) := [("flags", .ref n.fl), ("recursive_flags", .ref n.rf), ("nested", .ref n.ne)]
/-- the nodes are a tree, from the root on -/
structure NdOK (M : List Nd) : Prop where
  nd : (M.map (·.p)).Nodup
  ne : ∀ n ∈ M, n.p ≠ []
  up : ∀ n ∈ M, ∀ q c, n.p = q ++ [c] → q = [] ∨ ∃ m ∈ M, m.p = q
  ns : ∀ n ∈ M, NS n.a ∧ NS n.ne
theorem NdOK.prefix {M : List Nd} (h : NdOK M) : ∀ (j : Nat) (q : Key), q.length = j → ∀ t n, n ∈ M → n.p = q ++ t → q = [] ∨ ∃ m ∈ M, m.p = q := by
  intro j q hq t
  generalize hl : t.length = l
  induction l generalizing t with
  | zero =>
    intro n hn hp
    rw [List.length_eq_zero_iff.mp hl, List.append_nil] at hp
    exact .inr ⟨n, hn, hp⟩
  | succ l ih =>
    intro n hn hp
    obtain ⟨t', c, rfl⟩ : ∃ t' c, t = t' ++ [c] := by
      rcases List.eq_nil_or_concat t with rfl | ⟨t', c, rfl⟩
      · cases hl
      · exact ⟨t', c, by simp⟩
    have hl' : t'.length = l := by simpa using hl
    rcases h.up n hn (q ++ t') c (by rw [hp, List.append_assoc]) with e | ⟨m, hm, e⟩
    · exact .inl (List.append_eq_nil_iff.mp e).1
    · exact ih t' hl' m hm e
/-- what is_ answers -/
noncomputable def isF (M : List Nd) (k : Key) (fl : Int) : Bool := if fl = 0 then M.any fun n => n.r && decide (n.p <+: k) else M.any fun n => n.f && decide (n.p = k)
end
end
section
section
variable {w : World} {A : Around} {E : Value → Shared → Prop} {s : Shared} {h₀ : Heap} {Φ Φ' : List Cell} {env : Env} {L : Addr} {nm gl : List Str} {cl : List (Str × Addr)}
theorem tcW (C : Addr) (rest : List Value) : (Code.builtin "type.__call__" ⟨.ref C :: rest, []⟩).weight = 1 := by kernel_rfl
theorem tcU (C : Addr) (rest : List Value) : (Code.builtin "type.__call__" ⟨.ref C :: rest, []⟩).cUnits = 1 := by kernel_rfl
theorem tcE (C : Addr) (rest : List Value) : (Code.builtin "type.__call__" ⟨.ref C :: rest, []⟩).envs = [] := by kernel_rfl
theorem Rm.under {n : Nat} (R : Rm A (n + 1)) (C : Addr) (rest : List Value) : Rm (A.under (.builtin "type.__call__" ⟨.ref C :: rest, []⟩)) n := by
  refine ⟨R.hd, ?_, ?_, ?_⟩
  · have := R.dp
    show A.depth + Code.weight _ + n + 200 < _
    rw [tcW]; lia
  · have := R.un
    show A.units + Code.cUnits _ + 8 * n < _
    rw [tcU]; lia
  · obtain ⟨l, e⟩ := R.fr
    exact ⟨l, by show pushEnvs (Code.builtin "type.__call__" ⟨.ref C :: rest, []⟩).envs A.frames = some l; rw [tcE]; exact e⟩
noncomputable def clsStmts : Stmt → List Stmt
  | .ClassDef _ _ _ b _ _ _ _ _ _ _ => b
  | _ => []
noncomputable def clsBody (j : Nat) : List Stmt := match PySem.Challenge.pw_il0178_01.main.body[2]? with
  | some s => (match (clsStmts s)[j]? with | some s => stmtBody s | none => [])
  | none => []
theorem fn_init (w : World) : FnOK w 35 (clsBody 2) ["self"] ["set"] :=
  fnOK_of ⟨by kernel_rfl, by kernel_rfl, by kernel_rfl, by kernel_rfl, by kernel_rfl, by kernel_rfl, by kernel_rfl, by kernel_rfl, by kernel_rfl, by kernel_rfl⟩ (by kernel_rfl) (by kernel_rfl)
theorem own_both {h h'' : Heap} {e it : Addr} {P P' R R' : Obj → Prop} (O : Own h₀ h ((e, P) :: (it, P') :: Φ)) (hk : ∀ b o, b ≠ e → b ≠ it → h.get? b = some o → h''.get? b = some o) (h1 : ∃ o, h''.get? e = some o ∧ R o) (h2 : ∃ o, h''.get? it = some o ∧ R' o) :
    Own h₀ h'' ((e, R) :: (it, R') :: Φ) := by
  have nd := O.nd
  rw [List.map_cons, List.map_cons, List.nodup_cons, List.nodup_cons] at nd
  have fe := O.fresh (c := e) (by simp)
  have fi := O.fresh (c := it) (by simp)
  refine ⟨fun b o g => hk b o (fun q => by rw [q, fe] at g; cases g) (fun q => by rw [q, fi] at g; cases g) (O.keep b o g), fun p hp => ?_, O.nd⟩
  rcases List.mem_cons.mp hp with rfl | hp
  · exact ⟨fe, h1⟩
  rcases List.mem_cons.mp hp with rfl | hp
  · exact ⟨fi, h2⟩
  · obtain ⟨x, o, y, z⟩ := O.own p (List.mem_cons_of_mem _ (List.mem_cons_of_mem _ hp))
    exact ⟨x, o, hk _ _ (fun q => nd.1 (List.mem_cons_of_mem _ (List.mem_map.mpr ⟨p, hp, q⟩))) (fun q => nd.2.1 (List.mem_map.mpr ⟨p, hp, q⟩)) y, z⟩
theorem Own.fi {h : Heap} {x dx : Addr} {m : Str → Option Value} (O : Own h₀ h ((x, xP dx) :: (dx, n1P m) :: Φ)) : FI h x dx m := by
  refine ⟨O.get List.mem_cons_self, O.get (List.mem_cons_of_mem _ List.mem_cons_self), fun q => ?_⟩
  have nd := O.nd
  rw [List.map_cons, List.map_cons, List.nodup_cons] at nd
  exact nd.1 (q ▸ List.mem_cons_self)
/-- x.name = v -/
theorem r_setattr {x dx : Addr} {m : Str → Option Value} {name : Str} {v : Value} {ns : List Str} {Q : Unit → Shared → Prop} (B : Base w s.heap) (O : Own h₀ s.heap ((x, xP dx) :: (dx, n1P m) :: Φ)) (hx : x ≠ 73) (hn : nsIn (KK w) 72 name = some none) (hB : typeLookup (.type "object") name = pure none) (hw : Within m ns) (hz : ns.length ≤ 100)
    (h : ∀ s', Sm s s' → Own h₀ s'.heap ((x, xP dx) :: (dx, n1P (fun y => if y = name then some v else m y)) :: Φ) → Q () s') : wpAny (model PR w) A (setAttr (.ref x) name v) Q E s := by
  have I := O.fi
  obtain ⟨hp, g, d, t, os⟩ := s
  refine store_attr PySem.F.store_object (cls73_at B) (ns72 B) (ns72_none B (map_mem (n72 w) "__setattr__" (by ktr_rel))) (ns72_none B hn) hB hx I.inst (fun h' tk' I' hk h1 => h _ ⟨rfl, rfl, rfl⟩ ?_) hw (by rw [sizeLine_eq]; lia)
  obtain ⟨⟨o, ox, px⟩, _, ne⟩ := I
  obtain ⟨o₁, ox₁, c1, c2, c3, c4⟩ := h1 o ox
  refine own_both O (fun b o' b1 b2 g' => hk b o' b1 (fun o₀ dx' g1 g2 => ?_) g') ⟨o₁, ox₁, c1.trans px.1, fun c => by rw [c2]; exact px.2.1 c, c4 _ px.2.2⟩ ?_
  · rw [ox] at g1; cases g1
    rw [px.2.2] at g2; cases g2
    exact b2
  · obtain ⟨o', ox', q1, q2, q3⟩ := I'
    rw [ox₁] at ox'; cases ox'
    rcases q3 with ⟨q, _⟩ | ⟨d', q, _, o'', es, ep, r⟩
    · rw [c4 _ px.2.2] at q; cases q
    · rw [c4 _ px.2.2] at q; cases q
      exact ⟨o'', r.1, es, ep, r.2⟩
theorem init_spec {x dx : Addr} {Q : Value → Shared → Prop} (B : Base w h₀) (R : Rm A 2) (hx : x ≠ 73) (O : Own h₀ s.heap ((x, xP dx) :: (dx, n1P (fun _ => none)) :: Φ))
    (h : ∀ c0 p0 s', Sm s s' → NS c0 → Own h₀ s'.heap ((x, xP dx) :: (dx, n1P (inst0 c0 p0)) :: (c0, dctP w []) :: Φ) → Q .none s') :
    wpAny (model PR w) A (call (.ref 35) [.ref x]) Q E s := by
  refine enterF (fn_init w) (B.keeps O.keep) (R.le (by decide)) [("self", .ref x)] [] [some (.ref x)] (by kernel_rfl) rfl rfl ?_
  intro L env s₁ e₁ V O₁ hf
  replace O := O.new O₁.keep O₁.toNew
  replace O := O.pick (Φ' := (x, xP dx) :: (dx, n1P (fun _ => none)) :: (L, locP ["self"] [some (.ref x)]) :: Φ) (by show Pick (_ :: _ :: _ :: Φ) _; ktr_rel)
  -- self._flags = {}
  refine r_seq rfl (plainObj_wpAny_Assign_Attribute (r_dict0 (B.keeps O.keep) O fun c0 s₂ e₂ _ nsc k₂ O => r_ld V O (by ktr_rel) (by ktr_rel) ?_))
  replace O := O.pick (Φ' := (x, xP dx) :: (dx, n1P (fun _ => none)) :: (c0, dctP w []) :: (L, locP ["self"] [some (.ref x)]) :: Φ) (by ktr_rel)
  refine r_setattr (ns := []) (B.keeps O.keep) O hx (map_mem (n72 w) "_flags" (by ktr_rel)) ob_flags Within.nil (by decide) ?_
  clear O; intro s₃ e₃ O
  -- self._pending_flags = set()
  refine r_seq rfl (plainObj_wpAny_Assign_Attribute (r_call (r_boot V (B.keeps O.keep) (by ktr_rel) (by ktr_rel) ?_)))
  refine PySem.callWith_type rfl (PySem.evalArgs_none (r_setnew O ?_))
  clear O; intro p0 s₄ e₄ O
  refine r_ld V O (by ktr_rel) (by ktr_rel) ?_
  replace O := O.pick (Φ' := (x, xP dx) :: (dx, n1P (fun y => if y = "_flags" then some (.ref c0) else none)) :: (c0, dctP w []) :: (L, locP ["self"] [some (.ref x)]) :: (p0, setP w (fun _ => false) 0) :: Φ) (by ktr_rel)
  refine r_setattr (ns := ["_flags"]) (B.keeps O.keep) O hx (map_mem (n72 w) "_pending_flags" (by ktr_rel)) ob_pending (Within.nil.cons _ _) (by decide) ?_
  clear O; intro s₅ e₅ O
  replace O : Own h₀ s₅.heap ((x, xP dx) :: (dx, n1P (inst0 c0 p0)) :: (c0, dctP w []) :: (L, locP ["self"] [some (.ref x)]) :: (p0, setP w (fun _ => false) 0) :: Φ) := O
  exact r_nil (h c0 p0 _ (by ktr_rel) nsc (O.pick (by ktr_rel)))
theorem flags_new {Q : Value → Shared → Prop} (B : Base w h₀) (R : Rm A 3) (O : Own h₀ s.heap Φ)
    (h : ∀ x dx c0 p0 s', Sm s s' → NS c0 → Own h₀ s'.heap ((x, xP dx) :: (dx, n1P (inst0 c0 p0)) :: (c0, dctP w []) :: Φ) → Q (.ref x) s') :
    wpAny (model PR w) A (call (.ref 73) []) Q E s := by
  have B' := B.keeps O.keep
  have O' := O
  obtain ⟨hp, g, d, t, os⟩ := s
  obtain ⟨oI, ho, hd⟩ := isDef_at (w := w) (a := 35) (fn_init w).FA.isd
  have hfc : oI.cls = .type "function" := by
    have : ((KK w).lookup 35).map (·.cls) = some (.type "function") := by kernel_rfl
    rw [ho] at this; exact Option.some.inj this
  refine wpAny_call_obj_init PySem.F.objNew (cls73_at B') (ns72 B') (ns72_some B' (map_mem (n72s w) ("__init__", .ref 35) (by ktr_rel))) (B'.X _ _ ho) hfc fun h' x dx M => ?_
  obtain ⟨M1, M2, M3, M4, M5, _⟩ := M
  have hne : x ≠ 73 := fun q => by rw [q, cls73_at B'] at M2; cases M2
  obtain ⟨o, hx, hc, hnc, hdd⟩ := M4
  have hod := M5 o hx
  have N : New hp h' [(x, xP dx), (dx, n1P (fun _ => none))] := by
    rcases hdd with ⟨q, _⟩ | ⟨d', q, hne', o', es, ep, r⟩
    · rw [hod] at q; cases q
    · rw [hod] at q; cases q
      refine ⟨fun p hp' => ?_, by simp only [List.map_cons, List.map_nil, List.nodup_cons, List.mem_singleton, List.not_mem_nil, not_false_eq_true, List.nodup_nil, and_true]; exact fun q => hne' q.symm⟩
      rcases List.mem_cons.mp hp' with rfl | hp'
      · exact ⟨M2, o, hx, hc, hnc, hod⟩
      · rw [List.mem_singleton.mp hp']; exact ⟨M3, o', r.1, es, ep, r.2⟩
  refine init_spec (s := ⟨h', g, d, t, os⟩) B (R.under 73 []) hne (O.new M1 N) fun c0 p0 s' e nsc O'' => ⟨rfl, h x dx c0 p0 s' ⟨e.gens, e.drawn, e.os⟩ nsc O''⟩
end
end
section
section
variable {w : World} {A : Around} {E : Value → Shared → Prop} {s : Shared} {h₀ : Heap} {Φ Φ' : List Cell}
/-- the flags' object as it stands in a heap -/
structure TR (w : World) (h : Heap) (x dx c0 p0 : Addr) (M : List Nd) : Prop where
  fi : FI h x dx (inst0 c0 p0)
  ok : NdOK M
  ns0 : NS c0
  ct : ∀ q ∈ conts c0 M, ∃ o, h.get? q.2 = some o ∧ dctP w (kids q.1 M) o
  nd : ∀ n ∈ M, (∃ o, h.get? n.a = some o ∧ dctP w (recOf n) o) ∧ (∃ o, h.get? n.fl = some o ∧ setP w (sF n.f) (cnt n.f) o) ∧ ∃ o, h.get? n.rf = some o ∧ setP w (sR n.r) (cnt n.r) o
theorem conts_ns {c0 : Addr} {M : List Nd} (h : NdOK M) (h0 : NS c0) : ∀ q ∈ conts c0 M, NS q.2 := fun q hq => by
  rcases List.mem_cons.mp hq with rfl | hq
  · exact h0
  · obtain ⟨n, hn, rfl⟩ := List.mem_map.mp hq
    exact (h.ns n hn).2
theorem cnt_lt (b : Bool) : cnt b < 50 := by cases b <;> decide
theorem fn_is (w : World) : FnOK w 70 (clsBody 7) ["self", "key", "flag", "cont", "k", "inner_cont", "key_stem"] [] :=
  fnOK_of ⟨by kernel_rfl, by kernel_rfl, by kernel_rfl, by kernel_rfl, by kernel_rfl, by kernel_rfl, by kernel_rfl, by kernel_rfl, by kernel_rfl, by kernel_rfl⟩ (by kernel_rfl) (by kernel_rfl)
noncomputable abbrev isNm : List Str := ["self", "key", "flag", "cont", "k", "inner_cont", "key_stem"]
theorem TR.keeps {h h' : Heap} {x dx c0 p0 : Addr} {M : List Nd} (T : TR w h x dx c0 p0 M) (k : Kp h h') : TR w h' x dx c0 p0 M :=
  ⟨⟨let ⟨o, a, b⟩ := T.fi.ox; ⟨o, k _ _ a, b⟩, let ⟨o, a, b⟩ := T.fi.od; ⟨o, k _ _ a, b⟩, T.fi.ne⟩, T.ok, T.ns0, fun q hq => let ⟨o, a, b⟩ := T.ct q hq; ⟨o, k _ _ a, b⟩,
    fun n hn => let ⟨⟨o, a, b⟩, ⟨o', a', b'⟩, ⟨o'', a'', b''⟩⟩ := T.nd n hn; ⟨⟨o, k _ _ a, b⟩, ⟨o', k _ _ a', b'⟩, ⟨o'', k _ _ a'', b''⟩⟩⟩
theorem rec_at (n : Nd) : valueAt (recOf n) "flags" = some (.ref n.fl) ∧ valueAt (recOf n) "recursive_flags" = some (.ref n.rf) ∧ valueAt (recOf n) "nested" = some (.ref n.ne) := by
  have nd : ((recOf n).map (·.1)).Nodup := by show (["flags", "recursive_flags", "nested"] : List Str).Nodup; decide
  exact ⟨valueAt_of_get nd (i := 0) rfl, valueAt_of_get nd (i := 1) rfl, valueAt_of_get nd (i := 2) rfl⟩
theorem nd_inj {M : List Nd} (nd : (M.map (·.p)).Nodup) {m n : Nd} (hm : m ∈ M) (hn : n ∈ M) (e : m.p = n.p) : m = n := by
  induction M with
  | nil => cases hm
  | cons y r ih =>
    rw [List.map_cons, List.nodup_cons] at nd
    rcases List.mem_cons.mp hm with h1 | h1 <;> rcases List.mem_cons.mp hn with h2 | h2
    · exact h1.trans h2.symm
    · exact (nd.1 (List.mem_map.mpr ⟨n, h2, by rw [← e, h1]⟩)).elim
    · exact (nd.1 (List.mem_map.mpr ⟨m, h1, by rw [e, h2]⟩)).elim
    · exact ih nd.2 h1 h2
theorem isF_none {M : List Nd} (T : NdOK M) {k q : Key} {c : Fin 3} {u : Key} {fl : Int} (hk : k = q ++ c :: u) (hno : ¬ ∃ n ∈ M, n.p = q ++ [c]) (hr : ∀ n ∈ M, n.r = true → fl = 0 → ¬ n.p <+: q) : isF M k fl = false := by
  unfold isF
  have hpre : ∀ n ∈ M, ∀ v, n.p = q ++ c :: v → False := fun n hn v e => by
    rcases T.prefix _ (q ++ [c]) rfl v n hn (by rw [e]; simp) with h | h
    · simp at h
    · exact hno h
  split
  · rename_i h0
    rw [List.any_eq_false]
    intro n hn
    simp only [Bool.and_eq_true, decide_eq_true_eq, not_and]
    intro hnr hp
    obtain ⟨v, hv⟩ := hp
    rw [hk] at hv
    rcases List.append_eq_append_iff.mp hv with ⟨a, e1, e2⟩ | ⟨a, e1, e2⟩
    · exact hr n hn hnr h0 ⟨a, e1.symm⟩
    · cases a with
      | nil => exact hr n hn hnr h0 ⟨[], by rw [e1]; simp⟩
      | cons d a =>
        rw [List.cons_append] at e2
        injection e2 with e2 e3
        subst e2
        exact hpre n hn a e1
  · rw [List.any_eq_false]
    intro n hn
    simp only [Bool.and_eq_true, decide_eq_true_eq, not_and]
    intro _ hp
    exact hpre n hn u (hp.trans hk)
theorem is_spec {x dx c0 p0 tk : Addr} {M : List Nd} {k : Key} {ts : List Value} {fl : Int} {t : Tok} {Q : Value → Shared → Prop} (B : Base w s.heap) (R : Rm A 2) (T : TR w s.heap x dx c0 p0 M) (hk : ∃ o, s.heap.get? tk = some o ∧ tupP ts o) (ht : StrsAre ts (k.map nmF)) (hl : k.length ≤ 3) (hfl : fl = 0 ∨ fl = 1)
    (h : ∀ s', Sm s s' → Kp s.heap s'.heap → Q (.bool (isF M k fl)) s') : wpAny (model PR w) A (call (.ref 70) [.ref x, .ref tk, .int fl t]) Q E s := by
  refine enterF (fn_is w) B (R.le (by decide)) [("self", .ref x), ("key", .ref tk), ("flag", .int fl t)] ["cont", "k", "inner_cont", "key_stem"] [some (.ref x), some (.ref tk), some (.int fl t), none, none, none, none] (by kernel_rfl) rfl rfl ?_
  intro L env s₁ e₁ V O hf
  have R1 : Rm (A.deeper env) 1 := R.deeper
  have hh := R1.hd
  have lts : ts.length = k.length := by rw [ht.length]; simp
  -- if not key
  refine r_seq rfl (wpAny_If (PyProof.Rows.isTrue_not (wpAny_isTrue_value (r_ld V O (by ktr_rel) (by ktr_rel) ?_))))
  refine truthy_tuple (tupP.tup ((Has.base hk).get O)) (by simp; lia) ?_
  by_cases hk0 : k = []
  · subst hk0
    obtain rfl : ts = [] := List.length_eq_zero_iff.mp lts
    rw [if_pos (show (!!([] : List Value).toArray.isEmpty) = true from rfl)]
    refine r_gen O ?_
    clear O; intro s₂ e₂ O
    refine r_seq rfl (wpAny_Return_some (wpAny_Constant_bool ?_))
    have : isF M [] fl = false := by
      unfold isF
      split <;> rw [List.any_eq_false] <;> intro n hn <;> simp only [Bool.and_eq_true, decide_eq_true_eq, not_and, List.prefix_nil] <;> exact fun _ => T.ok.ne n hn
    rw [← this]
    exact h _ (by ktr_rel) O.keep
  have hn0 : k.length ≠ 0 := fun e => hk0 (List.length_eq_zero_iff.mp e)
  have hne : ts.toArray.isEmpty = false := by
    rw [Array.isEmpty_eq_false_iff]
    intro e
    have := congrArg Array.size e
    simp only [List.size_toArray, lts] at this
    exact hn0 this
  rw [hne, if_neg (by decide)]
  refine r_nil (r_gen O ?_)
  clear O; intro s₂ e₂ O
  -- cont = self._flags
  refine r_seq rfl (wpAny_Assign_Name (Attribute_Name_ (r_ld V O (by ktr_rel) (by ktr_rel) (r_flags (B.keeps O.keep) (T.keeps O.keep).fi fun s₃ e₃ h₃ => ?_))))
  replace O : Own s.heap s₃.heap _ := h₃ ▸ O
  refine r_st V O (by ktr_rel) (by ktr_rel) (by ktr_rel) ?_
  clear O; intro s₄ e₄ O
  -- for k in key[:-1]
  refine r_seq rfl (wpAny_For (Subscript_ (r_ld V O (by ktr_rel) (by ktr_rel) (wpAny_Slice (r_part_none (r_part (UnaryOp_ (wpAny_Constant_int (PyProof.Rows.neg_int (r_gen O ?_))))))))))
  clear O; intro s₅ e₅ O
  refine r_part_none ?_
  have hup : upTo (-1) ts.length = k.length - 1 := by rw [lts]; unfold upTo; rw [if_pos (by decide)]; lia
  refine r_tslice O (.base hk) (by lia) (fun e => by rw [hup, lts] at e; lia) ?_
  rw [hup]
  clear O; intro _ tup s₆ e₆ O
  refine r_for_tuple (l := tup) (xs := ts.take (k.length - 1)) hh (fun i Φ => ∃ ci kv iv sv, (k.take i, ci) ∈ conts c0 M ∧ (∀ n ∈ M, n.r = true → fl = 0 → ¬ n.p <+: k.take i) ∧
    Φ = [(tup, tupP (ts.take (k.length - 1))), (L, locP isNm [some (.ref x), some (.ref tk), some (.int fl t), some (.ref ci), kv, iv, sv])]) O (ei3 c0 _ _ ⟨_, List.mem_cons_self, fun n hn _ _ hp => T.ok.ne n hn (List.prefix_nil.mp hp), rfl⟩) ?_ ?_ ?_
  · intro i Φ _ jy0
    refine ex4 jy0 fun ci kv iv sv jx0 => an3 jx0 fun _ _ jr02 => ?_
    clear jx0 jy0
    subst jr02
    exact .cell (by ktr_rel)
  · intro i v Φ s₇ I P hi jz1 e₇ O
    refine hide fun Gz2 hGz2 => ?_
    refine ex4 jz1 fun ci kv iv sv jx => ?_
    refine an3 jx fun hci hno jr2 => ?_
    clear jx jz1
    subst jr2
    refine hGz2 ?_
    refine hideT fun TT1 hTT1 => ?_
    have hil : i < k.length - 1 := by
      rcases Nat.lt_or_ge i (k.length - 1) with h' | h'
      · exact h'
      · rw [List.getElem?_eq_none (by rw [List.length_take, lts]; lia)] at hi; cases hi
    obtain ⟨c, u, hc, rfl⟩ : ∃ c u, k[i]? = some c ∧ v = .str (nmF c) u := by
      rw [List.getElem?_take_of_lt hil] at hi
      refine hide fun Gz3 hGz3 => ?_
      obtain ⟨y, t, rfl, hy⟩ := ht.item i v hi
      refine hGz3 ?_
      rw [List.getElem?_map] at hy
      obtain ⟨c, hc, rfl⟩ := Option.map_eq_some_iff.mp hy
      exact ⟨c, t, hc, rfl⟩
    have hq1 : k.take (i + 1) = k.take i ++ [c] := by rw [List.take_add_one, hc]; rfl
    have hq2 : k = k.take i ++ c :: k.drop (i + 1) := by
      have := List.take_append_drop (i + 1) k
      rw [hq1, List.append_assoc] at this
      exact this.symm
    refine r_st V O (by ktr_rel) (by ktr_rel) (by ktr_rel) ?_
    clear O; intro s₈ e₈ O
    -- if k not in cont: return False
    refine r_seq rfl (wpAny_If (wpAny_isTrue_Compare1 (r_ld V O (by ktr_rel) (by ktr_rel) (r_ld V O (by ktr_rel) (by ktr_rel) ?_))))
    refine r_notin O (.base (T.ct _ hci)) (conts_ns T.ok T.ns0 _ hci) ?_
    clear O; intro s₉ e₉ O
    refine truth_bool ?_
    by_cases hx : ∃ n ∈ M, n.p = k.take i ++ [c]
    · rw [(kids_some T.ok.nd).mpr hx]
      rw [if_neg (by decide)]
      obtain ⟨n, hn, hp⟩ := hx
      refine r_nil ?_
      -- inner_cont = cont[k]
      refine r_seq rfl (wpAny_Assign_Name (wpAny_Subscript_Name_late (r_ld V O (by ktr_rel) (by ktr_rel) (r_ld V O (by ktr_rel) (by ktr_rel) (r_sub O (.base (T.ct _ hci)) (kids_at T.ok.nd hn hp) ?_)))))
      clear O; intro s₁₀ e₁₀ O
      refine r_st V O (by ktr_rel) (by ktr_rel) (by ktr_rel) ?_
      clear O; intro s₁₁ e₁₁ O
      -- if flag in inner_cont['recursive_flags']
      refine r_seq rfl (wpAny_If (wpAny_isTrue_Compare1 (r_ld V O (by ktr_rel) (by ktr_rel) (wpAny_Subscript_Constant_late (r_ld V O (by ktr_rel) (by ktr_rel) (wpAny_Constant_str (r_sub O (.base (T.nd n hn).1) (rec_at n).2.1 ?_)))))))
      clear O; intro s₁₂ e₁₂ O
      refine r_sin O (.base (T.nd n hn).2.2) (Nat.lt_trans (cnt_lt _) (by decide)) ?_
      clear O; intro s₁₃ e₁₃ O
      refine truth_bool ?_
      cases hs : sR n.r fl with
      | true =>
        rw [if_pos rfl]
        refine r_seq rfl (wpAny_Return_some (wpAny_Constant_bool ?_))
        simp only [sR, Bool.and_eq_true, decide_eq_true_eq] at hs
        have : isF M k fl = true := by
          unfold isF
          rw [if_pos hs.2, List.any_eq_true]
          refine ⟨n, hn, ?_⟩
          rw [hs.1, Bool.true_and, decide_eq_true_eq, hp]
          exact ⟨k.drop (i + 1), by rw [List.append_assoc]; exact hq2.symm⟩
        rw [← this]
        exact hTT1 _ _ (h _ (by ktr_rel) O.keep)
      | false =>
        rw [if_neg (by decide)]
        refine r_nil ?_
        -- cont = inner_cont['nested']
        refine r_seq rfl (wpAny_Assign_Name (wpAny_Subscript_Constant_late (r_ld V O (by ktr_rel) (by ktr_rel) (wpAny_Constant_str (r_sub O (.base (T.nd n hn).1) (rec_at n).2.2 ?_)))))
        clear O; intro s₁₄ e₁₄ O
        refine r_st V O (by ktr_rel) (by ktr_rel) (by ktr_rel) ?_
        clear O; intro s₁₅ e₁₅ O
        refine r_nil (hTT1 _ _ ?_)
        refine Turn.next [(tup, tupP (ts.take (k.length - 1))), (L, locP isNm [some (.ref x), some (.ref tk), some (.int fl t), some (.ref n.ne), some (.str (nmF c) u), some (.ref n.a), sv])] (by ktr_rel) (O.pick (by ktr_rel)) ⟨n.ne, _, _, _, ?_, ?_, rfl⟩
        · rw [hq1, ← hp]; exact List.mem_cons_of_mem _ (List.mem_map.mpr ⟨n, hn, rfl⟩)
        · intro m hm hmr h0 hpre
          rw [hq1, List.prefix_concat_iff] at hpre
          rcases hpre with e | hpre
          · have : m = n := nd_inj T.ok.nd hm hn (e.trans hp.symm)
            subst this
            rw [hmr, h0] at hs
            exact absurd hs (by decide)
          · exact hno m hm hmr h0 hpre
    · have hv : (valueAt (kids (k.take i) M) (nmF c)).isSome = false := by rw [Bool.eq_false_iff]; exact fun e => hx ((kids_some T.ok.nd).mp e)
      rw [hv, if_pos (show (!false) = true from rfl)]
      refine r_seq rfl (wpAny_Return_some (wpAny_Constant_bool ?_))
      rw [← isF_none T.ok hq2 hx hno]
      exact hTT1 _ _ (h _ (by ktr_rel) O.keep)
  · intro Φ s₇ jz4 e₇ O
    refine hide fun Gz5 hGz5 => ?_
    refine ex4 jz4 fun ci kv iv sv jx => ?_
    refine an3 jx fun hci hno jr2 => ?_
    clear jx jz4
    subst jr2
    refine hGz5 ?_
    have hlt : (ts.take (k.length - 1)).length = k.length - 1 := by rw [List.length_take, lts]; lia
    rw [hlt] at hci hno
    obtain ⟨c, hc⟩ : ∃ c, k[k.length - 1]? = some c := ⟨k[k.length - 1], List.getElem?_eq_getElem (by lia)⟩
    have hq : k = k.take (k.length - 1) ++ [c] := by
      have : k.take (k.length - 1 + 1) = k.take (k.length - 1) ++ [c] := by rw [List.take_add_one, hc]; rfl
      rw [← this, List.take_of_length_le (by lia)]
    obtain ⟨u, hu⟩ := ht.at (j := k.length - 1) (y := nmF c) (by rw [List.getElem?_map, hc]; rfl)
    -- key_stem = key[-1]
    refine r_seq rfl (wpAny_Assign_Name (Subscript_ (r_ld V O (by ktr_rel) (by ktr_rel) (UnaryOp_ (wpAny_Constant_int (PyProof.Rows.neg_int (r_gen O ?_)))))))
    clear O; intro s₈ e₈ O
    refine PyProof.Rows.item_tupleT (j := k.length - 1) (tupP.tup ((Has.base hk).get O)) (by decide) (by decide) ?_ hu ?_
    · unfold seqIndex?
      rw [lts]
      simp
      lia
    refine r_st V O (by ktr_rel) (by ktr_rel) (by ktr_rel) ?_
    clear O; intro s₉ e₉ O
    -- if key_stem in cont
    refine r_seq rfl (wpAny_If (wpAny_isTrue_Compare1 (r_ld V O (by ktr_rel) (by ktr_rel) (r_ld V O (by ktr_rel) (by ktr_rel) ?_))))
    refine r_in O (.base (T.ct _ hci)) (conts_ns T.ok T.ns0 _ hci) ?_
    clear O; intro s₁₀ e₁₀ O
    refine truth_bool ?_
    by_cases hx : ∃ n ∈ M, n.p = k.take (k.length - 1) ++ [c]
    · rw [(kids_some T.ok.nd).mpr hx, if_pos rfl]
      obtain ⟨n, hn, hp⟩ := hx
      have hpk : n.p = k := hp.trans hq.symm
      refine r_seq rfl (wpAny_Assign_Name (wpAny_Subscript_Name_late (r_ld V O (by ktr_rel) (by ktr_rel) (r_ld V O (by ktr_rel) (by ktr_rel) (r_sub O (.base (T.ct _ hci)) (kids_at T.ok.nd hn hp) ?_)))))
      clear O; intro s₁₁ e₁₁ O
      refine r_st V O (by ktr_rel) (by ktr_rel) (by ktr_rel) ?_
      clear O; intro s₁₂ e₁₂ O
      refine r_seq rfl (wpAny_Return_some (BoolOp_or (wpAny_Compare1 (r_ld V O (by ktr_rel) (by ktr_rel) (wpAny_Subscript_Constant_late (r_ld V O (by ktr_rel) (by ktr_rel) (wpAny_Constant_str (r_sub O (.base (T.nd n hn).1) (rec_at n).1 ?_))))))))
      clear O; intro s₁₃ e₁₃ O
      refine r_sin O (.base (T.nd n hn).2.1) (Nat.lt_trans (cnt_lt _) (by decide)) ?_
      clear O; intro s₁₄ e₁₄ O
      refine truth_bool ?_
      have hisF : isF M k fl = (sF n.f fl || sR n.r fl) := by
        rcases hfl with rfl | rfl
        · have : sF n.f 0 = false := by simp [sF]
          rw [this, Bool.false_or]
          unfold isF sR
          rw [if_pos rfl]
          cases hnr : n.r with
          | true =>
            exact (List.any_eq_true.mpr ⟨n, hn, by rw [hnr, hpk]; simp⟩).trans (by decide)
          | false =>
            rw [Bool.false_and, List.any_eq_false]
            intro m hm
            simp only [Bool.and_eq_true, decide_eq_true_eq, not_and]
            intro hmr hpre
            rw [hq, List.prefix_concat_iff] at hpre
            rcases hpre with e | hpre
            · have : m = n := nd_inj T.ok.nd hm hn (e.trans hp.symm)
              subst this
              rw [hnr] at hmr; cases hmr
            · exact hno m hm hmr rfl hpre
        · have : sR n.r 1 = false := by simp [sR]
          rw [this, Bool.or_false]
          unfold isF sF
          rw [if_neg (by decide)]
          cases hnf : n.f with
          | true =>
            exact (List.any_eq_true.mpr ⟨n, hn, by rw [hnf, hpk]; simp⟩).trans (by decide)
          | false =>
            rw [Bool.false_and, List.any_eq_false]
            intro m hm
            simp only [Bool.and_eq_true, decide_eq_true_eq, not_and]
            intro hmf e
            have : m = n := nd_inj T.ok.nd hm hn (e.trans hpk.symm)
            subst this
            rw [hnf] at hmf; cases hmf
      cases hs : sF n.f fl with
      | true =>
        rw [if_pos rfl]
        rw [hs, Bool.true_or] at hisF
        rw [← hisF]
        exact h _ (by ktr_rel) O.keep
      | false =>
        rw [if_neg (by decide)]
        rw [hs, Bool.false_or] at hisF
        refine BoolOp_one (wpAny_Compare1 (r_ld V O (by ktr_rel) (by ktr_rel) (wpAny_Subscript_Constant_late (r_ld V O (by ktr_rel) (by ktr_rel) (wpAny_Constant_str (r_sub O (.base (T.nd n hn).1) (rec_at n).2.1 ?_))))))
        clear O; intro s₁₅ e₁₅ O
        refine r_sin O (.base (T.nd n hn).2.2) (Nat.lt_trans (cnt_lt _) (by decide)) ?_
        clear O; intro s₁₆ e₁₆ O
        rw [← hisF]
        exact h _ (by ktr_rel) O.keep
    · have hv : (valueAt (kids (k.take (k.length - 1)) M) (nmF c)).isSome = false := by rw [Bool.eq_false_iff]; exact fun e => hx ((kids_some T.ok.nd).mp e)
      rw [hv, if_neg (by decide)]
      refine r_nil (r_seq rfl (wpAny_Return_some (wpAny_Constant_bool ?_)))
      rw [← isF_none T.ok (u := []) hq hx hno]
      exact h _ (by ktr_rel) O.keep
end
end
section
section
variable {w : World} {A : Around} {E : Value → Shared → Prop} {s : Shared} {h₀ : Heap} {Φ Φ' : List Cell} {env : Env} {L : Addr} {nm gl : List Str} {cl : List (Str × Addr)}
theorem r_set0 {pos p : Pos} {Q : Value → Shared → Prop} (B : Base w h₀) (V : EnvOK env L nm cl gl) (hs : ("set" : Str) ∈ gl) (O : Own h₀ s.heap Φ) (h : ∀ a s', Sm s s' → Own h₀ s'.heap ((a, setP w (fun _ => false) 0) :: Φ) → Q (.ref a) s') :
    wpAny (model PR w) A (eval (.Call (.Name "set" p) [] [] pos) env) Q E s := by
  refine r_call (r_boot V (B.keeps O.keep) hs (by ktr_rel) ?_)
  exact PySem.callWith_type rfl (PySem.evalArgs_none (r_setnew O h))
theorem r_node {k1 k2 k3 : Nat} {p1 p2 p3 p4 p5 p6 p7 p8 pos : Pos} {Q : Value → Shared → Prop} (B : Base w h₀) (V : EnvOK env L nm cl gl) (hs : ("set" : Str) ∈ gl) (O : Own h₀ s.heap Φ)
    (h : ∀ a fl rf ne s', Sm s s' → NS a → NS ne → Own h₀ s'.heap ((a, dctP w [("flags", .ref fl), ("recursive_flags", .ref rf), ("nested", .ref ne)]) :: (ne, dctP w []) :: (rf, setP w (fun _ => false) 0) :: (fl, setP w (fun _ => false) 0) :: Φ) → Q (.ref a) s') :
    wpAny (model PR w) A (eval (.Dict [some (.Constant (.str "flags") k1 p1), some (.Constant (.str "recursive_flags") k2 p2), some (.Constant (.str "nested") k3 p3)] [.Call (.Name "set" p4) [] [] p5, .Call (.Name "set" p6) [] [] p7, .Dict [] [] p8] pos) env) Q E s := by
  refine wpAny_Dict_pairs (knd := strKind PR w) (pairs := [(eval (.Constant (.str "flags") k1 p1) env, do let x ← eval (.Call (.Name "set" p4) [] [] p5) env; standAt pos; pure x),
    (eval (.Constant (.str "recursive_flags") k2 p2) env, do let x ← eval (.Call (.Name "set" p6) [] [] p7) env; standAt pos; pure x), (eval (.Constant (.str "nested") k3 p3) env, do let x ← eval (.Dict [] [] p8) env; standAt pos; pure x)]) rfl (by simp) (show 3 ≤ 15 by decide) ?_
  have hns : NS s.heap.objs.size := by
    have := modules_low (B.keeps O.keep).nolimit
    rw [NS, beq_eq_false_iff_ne]
    exact (Nat.ne_of_lt this).symm
  have O1 := own_pushed O (dctP w []) (o := { cls := .type "dict", data := .dict #[] }) ⟨#[], 0, ⟨rfl, rfl, rfl⟩, rfl, fun _ he => by simp at he, Pairs.nil, List.nodup_nil⟩ rfl
  generalize s.heap.objs.size = a at hns O1 ⊢
  refine evalPairs_cons (wpAny_Constant_str (wpAny_bind (r_set0 B V hs O1 fun fl s₂ e₂ O => wpAny_bind (wpAny_standAt (wpAny_pure ?_)))))
  refine evalPairs_cons (wpAny_Constant_str (wpAny_bind (r_set0 B V hs O fun rf s₃ e₃ O => wpAny_bind (wpAny_standAt (wpAny_pure ?_)))))
  refine evalPairs_cons (wpAny_Constant_str (wpAny_bind (r_dict0 (s := { s₃ with toks := s₃.toks + 1 }) (B.keeps O.keep) O fun ne s₄ e₄ _ nsn _ O => wpAny_bind (wpAny_standAt (wpAny_pure (evalPairs_nil ?_))))))
  refine display_done_str (P := fun h' => Q (.ref a) { s₄ with heap := h', toks := s₄.toks + 3 }) rfl (by show (["flags", "recursive_flags", "nested"] : List Str).Nodup; decide) (dctP.of (O.get (by ktr_rel))) fun h' hm hsb => ?_
  refine h a fl rf ne _ ?_ hns nsn ?_
  · exact ⟨e₄.gens.trans (e₃.gens.trans e₂.gens), e₄.drawn.trans (e₃.drawn.trans e₂.drawn), e₄.os.trans (e₃.os.trans e₂.os)⟩
  · have O2 := O.upd (c := a) (P' := dctP w [("flags", .ref fl), ("recursive_flags", .ref rf), ("nested", .ref ne)]) (by ktr_rel) hsb (of_dictOf hm)
    exact O2.pick (by ktr_rel)
/-! ## the cells of the tree -/
theorem upd_right {c : Addr} {P : Obj → Prop} {X X' : List Cell} (U : Upd c P X X') : Upd c P (X ++ Φ) (X' ++ Φ) := by
  induction U with
  | head => exact .head
  | tail _ ih => exact .tail ih
theorem upd_map {α β : Type} {key : α → β} {g g' : α → Cell} {c : Addr} {P P' : Obj → Prop} {x : α} : ∀ {l : List α}, (l.map key).Nodup → x ∈ l → g x = (c, P) → g' x = (c, P') → (∀ y ∈ l, key y ≠ key x → g' y = g y) → Upd c P' (l.map g) (l.map g')
  | [], _, h, _, _, _ => nomatch h
  | y :: r, nd, h, e, e', hs => by
    rw [List.map_cons, List.nodup_cons] at nd
    rw [List.map_cons, List.map_cons]
    rcases List.mem_cons.mp h with rfl | h
    · rw [e, e']
      have : r.map g' = r.map g := List.map_congr_left fun z hz => hs z (List.mem_cons_of_mem _ hz) fun q => nd.1 (q ▸ List.mem_map.mpr ⟨z, hz, rfl⟩)
      rw [this]
      exact .head
    · have : key y ≠ key x := fun q => nd.1 (q ▸ List.mem_map.mpr ⟨x, h, rfl⟩)
      rw [hs y List.mem_cons_self this]
      exact .tail (upd_map nd.2 h e e' fun z hz => hs z (List.mem_cons_of_mem _ hz))
noncomputable def cK (w : World) (c0 : Addr) (M : List Nd) (K : Key → List (Str × Value)) : List Cell := (conts c0 M).map fun q => (q.2, dctP w (K q.1))
noncomputable def cA (w : World) (M : List Nd) : List Cell := M.map fun n => (n.a, dctP w (recOf n))
noncomputable def cF (w : World) (M : List Nd) : List Cell := M.map fun n => (n.fl, setP w (sF n.f) (cnt n.f))
noncomputable def cR (w : World) (M : List Nd) : List Cell := M.map fun n => (n.rf, setP w (sR n.r) (cnt n.r))
noncomputable def trC (w : World) (c0 : Addr) (M : List Nd) (K : Key → List (Str × Value)) : List Cell := cK w c0 M K ++ (cA w M ++ (cF w M ++ cR w M))
theorem conts_nd {c0 : Addr} {M : List Nd} (h : NdOK M) : ((conts c0 M).map (·.1)).Nodup := by
  show (([] : Key) :: (M.map fun n => (n.p, n.ne)).map (·.1)).Nodup
  rw [List.map_map, List.nodup_cons]
  refine ⟨fun hm => ?_, h.nd⟩
  obtain ⟨n, hn, e⟩ := List.mem_map.mp hm
  exact h.ne n hn e
theorem own_TR {h : Heap} {x dx c0 p0 : Addr} {M : List Nd} (O : Own h₀ h ((x, xP dx) :: (dx, n1P (inst0 c0 p0)) :: (trC w c0 M (fun q => kids q M) ++ Φ))) (ok : NdOK M) (ns : NS c0) : TR w h x dx c0 p0 M := by
  have g : ∀ {p : Cell}, p ∈ trC w c0 M (fun q => kids q M) → ∃ o, h.get? p.1 = some o ∧ p.2 o := fun hp => (O.own _ (List.mem_cons_of_mem _ (List.mem_cons_of_mem _ (List.mem_append_left _ hp)))).2
  refine ⟨O.fi, ok, ns, fun q hq => g (p := (q.2, dctP w (kids q.1 M))) (List.mem_append_left _ (List.mem_map.mpr ⟨q, hq, rfl⟩)), fun n hn => ⟨?_, ?_, ?_⟩⟩
  · exact g (p := (n.a, dctP w (recOf n))) (List.mem_append_right _ (List.mem_append_left _ (List.mem_map.mpr ⟨n, hn, rfl⟩)))
  · exact g (p := (n.fl, setP w (sF n.f) (cnt n.f))) (List.mem_append_right _ (List.mem_append_right _ (List.mem_append_left _ (List.mem_map.mpr ⟨n, hn, rfl⟩))))
  · exact g (p := (n.rf, setP w (sR n.r) (cnt n.r))) (List.mem_append_right _ (List.mem_append_right _ (List.mem_append_right _ (List.mem_map.mpr ⟨n, hn, rfl⟩))))
/-- one node more -/
noncomputable def newNd (q : Key) (c : Fin 3) (a fl rf ne : Addr) : Nd := ⟨q ++ [c], a, fl, rf, ne, false, false⟩
theorem NdOK.snoc {M : List Nd} (h : NdOK M) {q : Key} {c : Fin 3} {a fl rf ne : Addr} (hq : q = [] ∨ ∃ m ∈ M, m.p = q) (hn : ∀ m ∈ M, m.p ≠ q ++ [c]) (ha : NS a) (he : NS ne) : NdOK (M ++ [newNd q c a fl rf ne]) := by
  refine ⟨?_, fun n hm => ?_, fun n hm q' c' e => ?_, fun n hm => ?_⟩
  · rw [List.map_append, List.nodup_append]
    refine ⟨h.nd, by simp, fun x hx y hy e => ?_⟩
    obtain ⟨m, hm, rfl⟩ := List.mem_map.mp hx
    rw [List.map_cons, List.map_nil, List.mem_singleton] at hy
    exact hn m hm (e.trans hy)
  · rcases List.mem_append.mp hm with hm | hm
    · exact h.ne n hm
    · rw [List.mem_singleton.mp hm]; simp [newNd]
  · rcases List.mem_append.mp hm with hm | hm
    · rcases h.up n hm q' c' e with e' | ⟨m, hm', e'⟩
      · exact .inl e'
      · exact .inr ⟨m, List.mem_append_left _ hm', e'⟩
    · rw [List.mem_singleton.mp hm] at e
      have : q = q' := (List.append_inj' e rfl).1
      subst this
      rcases hq with rfl | ⟨m, hm', e'⟩
      · exact .inl rfl
      · exact .inr ⟨m, List.mem_append_left _ hm', e'⟩
  · rcases List.mem_append.mp hm with hm | hm
    · exact h.ns n hm
    · rw [List.mem_singleton.mp hm]; exact ⟨ha, he⟩
theorem isF_snoc {M : List Nd} {q : Key} {c : Fin 3} {a fl rf ne : Addr} (k : Key) (f : Int) : isF (M ++ [newNd q c a fl rf ne]) k f = isF M k f := by
  unfold isF
  split <;> simp [newNd]
theorem kids_new {M : List Nd} (h : NdOK M) {q : Key} {c : Fin 3} {a fl rf ne : Addr} (hn : ∀ m ∈ M, m.p ≠ q ++ [c]) : kids (q ++ [c]) (M ++ [newNd q c a fl rf ne]) = [] := by
  unfold kids
  rw [List.filterMap_eq_nil_iff]
  intro n hm
  have : childOf (q ++ [c]) n = none := by
    cases e : childOf (q ++ [c]) n with
    | none => rfl
    | some c' =>
      rw [childOf_some] at e
      rcases List.mem_append.mp hm with hm | hm
      · rcases h.up n hm (q ++ [c]) c' e with e' | ⟨m, hm', e'⟩
        · simp at e'
        · exact absurd e' (hn m hm')
      · rw [List.mem_singleton.mp hm] at e
        have := congrArg List.length e
        simp [newNd] at this
  rw [this]; rfl
theorem perm_mid {α : Type} {x : α} {X R R' : List α} (h : R.Perm R') : ((X ++ [x]) ++ R).Perm (x :: (X ++ R')) := by
  rw [List.append_assoc]
  exact (List.perm_middle).trans ((h.append_left X).cons x)
theorem perm4 {α : Type} {a b c d : α} {X Y Z W : List α} : (a :: b :: c :: d :: (X ++ (Y ++ (Z ++ W)))).Perm ((X ++ [a]) ++ ((Y ++ [b]) ++ ((Z ++ [d]) ++ (W ++ [c])))) := by
  have h4 : (W ++ [c]).Perm (c :: W) := List.perm_append_singleton _ _
  have h3 : ((Z ++ [d]) ++ (W ++ [c])).Perm (c :: d :: (Z ++ W)) := (perm_mid h4).trans ((List.perm_middle.cons d).trans (List.Perm.swap _ _ _))
  have h2 : ((Y ++ [b]) ++ ((Z ++ [d]) ++ (W ++ [c]))).Perm (b :: c :: d :: (Y ++ (Z ++ W))) := (perm_mid h3).trans ((List.perm_middle.trans (List.perm_middle.cons c)).cons b)
  have h1 : ((X ++ [a]) ++ ((Y ++ [b]) ++ ((Z ++ [d]) ++ (W ++ [c])))).Perm (a :: b :: c :: d :: (X ++ (Y ++ (Z ++ W)))) := (perm_mid h2).trans ((List.perm_middle.trans ((List.perm_middle.trans (List.perm_middle.cons c)).cons b)).cons a)
  exact h1.symm
theorem trC_snoc {M : List Nd} {c0 : Addr} {K : Key → List (Str × Value)} {n : Nd} :
    ((n.ne, dctP w (K n.p)) :: (n.a, dctP w (recOf n)) :: (n.rf, setP w (sR n.r) (cnt n.r)) :: (n.fl, setP w (sF n.f) (cnt n.f)) :: trC w c0 M K).Perm (trC w c0 (M ++ [n]) K) := by
  have e1 : cK w c0 (M ++ [n]) K = cK w c0 M K ++ [(n.ne, dctP w (K n.p))] := by simp [cK, conts]
  have e2 : cA w (M ++ [n]) = cA w M ++ [(n.a, dctP w (recOf n))] := by simp [cA]
  have e3 : cF w (M ++ [n]) = cF w M ++ [(n.fl, setP w (sF n.f) (cnt n.f))] := by simp [cF]
  have e4 : cR w (M ++ [n]) = cR w M ++ [(n.rf, setP w (sR n.r) (cnt n.r))] := by simp [cR]
  unfold trC
  rw [e1, e2, e3, e4]
  exact perm4
end
end
section
section
variable {w : World} {A : Around} {E : Value → Shared → Prop} {s : Shared} {h₀ : Heap} {Φ Φ' Y : List Cell} {env : Env} {L : Addr} {nm gl : List Str} {cl : List (Str × Addr)} {vs : List (Option Value)}
theorem kids_len (q : Key) (M : List Nd) : (kids q M).length ≤ M.length := List.length_filterMap_le _ _
theorem mem_cK {c0 : Addr} {M : List Nd} {K : Key → List (Str × Value)} {q : Key} {ci : Addr} (h : (q, ci) ∈ conts c0 M) : (ci, dctP w (K q)) ∈ trC w c0 M K := List.mem_append_left _ (List.mem_map.mpr ⟨_, h, rfl⟩)
theorem r_ensure {xk : Str} {p1 p2 p3 p4 p5 p6 p7 p8 p9 q1 q2 q3 q4 q5 q6 q7 q8 : Pos} {k1 k2 k3 : Nat} {c0 ci : Addr} {M : List Nd} {q : Key} {c : Fin 3} {t : Tok} {Q : Flow → Shared → Prop} (B : Base w h₀) (V : EnvOK env L nm cl gl) (hs : ("set" : Str) ∈ gl)
    (O : Own h₀ s.heap (Y ++ (trC w c0 M (fun q => kids q M) ++ Φ))) (hL : (L, locP nm vs) ∈ Y) (hk : At xk (.str (nmF c) t) nm vs) (hc : At "cont" (.ref ci) nm vs) (hci : (q, ci) ∈ conts c0 M) (ok : NdOK M) (ns0 : NS c0) (hz : M.length ≤ 1000)
    (h : ∀ M' n s', Sm s s' → NdOK M' → M'.length ≤ M.length + 1 → (∀ k f, isF M' k f = isF M k f) → (∀ y ∈ conts c0 M, y ∈ conts c0 M') → n ∈ M' → n.p = q ++ [c] → Own h₀ s'.heap (Y ++ (trC w c0 M' (fun q => kids q M') ++ Φ)) → Q .next s') :
    wpAny (model PR w) A (exec (.If (.Compare (.Name xk p1) [.NotIn] [.Name "cont" p2] p3) [.Assign [.Subscript (.Name "cont" p4) (.Name xk p5) p6]
      (.Dict [some (.Constant (.str "flags") k1 q1), some (.Constant (.str "recursive_flags") k2 q2), some (.Constant (.str "nested") k3 q3)] [.Call (.Name "set" q4) [] [] q5, .Call (.Name "set" q6) [] [] q7, .Dict [] [] q8] p7) p8] [] p9) env) Q E s := by
  have hLm : ∀ {X : List Cell}, (L, locP nm vs) ∈ Y ++ X := List.mem_append_left _ hL
  refine wpAny_If (wpAny_isTrue_Compare1 (r_ld V O hLm hk (r_ld V O hLm hc ?_)))
  refine r_notin O (.cell (List.mem_append_right _ (List.mem_append_left _ (mem_cK hci)))) (conts_ns ok ns0 _ hci) ?_
  clear O; intro s₁ e₁ O
  refine truth_bool ?_
  by_cases hx : ∃ n ∈ M, n.p = q ++ [c]
  · rw [(kids_some ok.nd).mpr hx, if_neg (by decide)]
    obtain ⟨n, hn, hp⟩ := hx
    exact r_nil (h M n s₁ e₁ ok (Nat.le_succ _) (fun _ _ => rfl) (fun _ hy => hy) hn hp O)
  · have hv : (valueAt (kids q M) (nmF c)).isSome = false := by rw [Bool.eq_false_iff]; exact fun e => hx ((kids_some ok.nd).mp e)
    rw [hv, if_pos (show (!false) = true from rfl)]
    have hno : ∀ m ∈ M, m.p ≠ q ++ [c] := fun m hm e => hx ⟨m, hm, e⟩
    refine r_seq rfl (wpAny_Assign_Subscript (r_node B V hs O ?_))
    clear O; intro a fl rf ne s₂ e₂ nsa nse O
    have hL4 : ∀ {a b c d : Cell} {X : List Cell}, (L, locP nm vs) ∈ a :: b :: c :: d :: (Y ++ X) := fun {a b c d X} => List.mem_cons_of_mem _ (List.mem_cons_of_mem _ (List.mem_cons_of_mem _ (List.mem_cons_of_mem _ hLm)))
    refine r_ld V O hL4 hc (r_ld V O hL4 hk ?_)
    have hmem : ∀ {a b c d : Cell}, (ci, dctP w (kids q M)) ∈ a :: b :: c :: d :: (Y ++ (trC w c0 M (fun q => kids q M) ++ Φ)) := fun {a b c d} => List.mem_cons_of_mem _ (List.mem_cons_of_mem _ (List.mem_cons_of_mem _ (List.mem_cons_of_mem _ (List.mem_append_right _ (List.mem_append_left _ (mem_cK hci))))))
    have U : Upd ci (dctP w (stored (kids q M) (nmF c) (.ref a))) (trC w c0 M fun q => kids q M) (trC w c0 M fun q' => kids q' (M ++ [newNd q c a fl rf ne])) := by
      refine upd_right (upd_map (key := fun x => x.1) (x := (q, ci)) (conts_nd ok) hci rfl ?_ fun y hy hne => ?_)
      · show (ci, dctP w (kids q (M ++ [newNd q c a fl rf ne]))) = _
        rw [kids_snoc (n := newNd q c a fl rf ne) rfl hno]; rfl
      · show (y.2, dctP w (kids y.1 (M ++ [newNd q c a fl rf ne]))) = (y.2, dctP w (kids y.1 M))
        rw [kids_snoc_ne (n := newNd q c a fl rf ne) rfl hne]
    refine r_set O hmem (Nat.le_trans (kids_len q M) (by lia)) (.tail (.tail (.tail (.tail (upd_append (upd_right U)))))) ?_
    clear O; intro s₃ e₃ O
    have hq : q = [] ∨ ∃ m ∈ M, m.p = q := by
      rcases List.mem_cons.mp hci with e | hm
      · exact .inl (Prod.mk.inj e).1
      · obtain ⟨m, hm, e⟩ := List.mem_map.mp hm
        exact .inr ⟨m, hm, (Prod.mk.inj e).1⟩
    refine r_nil (h (M ++ [newNd q c a fl rf ne]) (newNd q c a fl rf ne) s₃ (e₁.tr (e₂.tr e₃)) (ok.snoc hq hno nsa nse) (by simp) (fun k f => isF_snoc k f) (fun y hy => ?_) (by simp) rfl ?_)
    · rcases List.mem_cons.mp hy with rfl | hy
      · exact List.mem_cons_self
      · refine List.mem_cons_of_mem _ ?_
        rw [List.map_append]; exact List.mem_append_left _ hy
    · have hk' := kids_new ok (a := a) (fl := fl) (rf := rf) (ne := ne) hno
      refine O.perm ?_
      have p1 := trC_snoc (w := w) (M := M) (c0 := c0) (K := fun q' => kids q' (M ++ [newNd q c a fl rf ne])) (n := newNd q c a fl rf ne)
      have e1 : (newNd q c a fl rf ne).p = q ++ [c] := rfl
      rw [e1, hk'] at p1
      refine List.Perm.trans ?_ (List.Perm.append_left Y (p1.append_right Φ))
      show ((a, _) :: (ne, _) :: (rf, _) :: (fl, _) :: (Y ++ _)).Perm (Y ++ ((ne, _) :: (a, _) :: (rf, _) :: (fl, _) :: (_ ++ Φ)))
      have p2 : ∀ {a b c d : Cell} {X : List Cell}, (a :: b :: c :: d :: (Y ++ X)).Perm (Y ++ (b :: a :: c :: d :: X)) := fun {a b c d X} =>
        (List.Perm.swap _ _ _).trans (((((List.perm_middle.symm.cons c).trans List.perm_middle.symm |>.cons a).trans List.perm_middle.symm).cons b).trans List.perm_middle.symm)
      exact p2
end
end
section
section
variable {w : World} {A : Around} {E : Value → Shared → Prop} {s : Shared} {h₀ : Heap} {Φ Φ' Y : List Cell} {env : Env} {L : Addr} {nm gl : List Str} {cl : List (Str × Addr)} {vs : List (Option Value)}
noncomputable def updN (b : Bool) (k : Key) (m : Nd) : Nd := if m.p = k then (if b then { m with r := true } else { m with f := true }) else m
theorem updN_p (b : Bool) (k : Key) (m : Nd) : (updN b k m).p = m.p ∧ (updN b k m).a = m.a ∧ (updN b k m).fl = m.fl ∧ (updN b k m).rf = m.rf ∧ (updN b k m).ne = m.ne := by
  unfold updN; split
  · cases b <;> exact ⟨rfl, rfl, rfl, rfl, rfl⟩
  · exact ⟨rfl, rfl, rfl, rfl, rfl⟩
theorem updN_rec (b : Bool) (k : Key) (m : Nd) : recOf (updN b k m) = recOf m := by
  obtain ⟨_, _, h1, h2, h3⟩ := updN_p b k m
  unfold recOf; rw [h1, h2, h3]
theorem updN_conts (b : Bool) (k : Key) (c0 : Addr) (M : List Nd) : conts c0 (M.map (updN b k)) = conts c0 M := by
  unfold conts
  rw [List.map_map]
  congr 1
  apply List.map_congr_left
  intro m _
  obtain ⟨h0, _, _, _, h3⟩ := updN_p b k m
  show ((updN b k m).p, (updN b k m).ne) = _
  rw [h0, h3]
theorem updN_kids (b : Bool) (k q : Key) (M : List Nd) : kids q (M.map (updN b k)) = kids q M := by
  unfold kids
  rw [List.filterMap_map]
  have : ((fun n => (childOf q n).map fun c => (nmF c, Value.ref n.a)) ∘ updN b k) = fun n => (childOf q n).map fun c => (nmF c, Value.ref n.a) := by
    funext m
    obtain ⟨h0, h1, _⟩ := updN_p b k m
    show (childOf q (updN b k m)).map _ = _
    unfold childOf
    rw [h0, h1]
  rw [this]
theorem updN_ok {b : Bool} {k : Key} {M : List Nd} (h : NdOK M) : NdOK (M.map (updN b k)) := by
  refine ⟨?_, fun n hn => ?_, fun n hn q c e => ?_, fun n hn => ?_⟩
  · rw [List.map_map]
    have : M.map ((·.p) ∘ updN b k) = M.map (·.p) := List.map_congr_left fun m _ => (updN_p b k m).1
    rw [this]; exact h.nd
  · obtain ⟨m, hm, rfl⟩ := List.mem_map.mp hn
    rw [(updN_p b k m).1]; exact h.ne m hm
  · obtain ⟨m, hm, rfl⟩ := List.mem_map.mp hn
    rw [(updN_p b k m).1] at e
    rcases h.up m hm q c e with e' | ⟨m', hm', e'⟩
    · exact .inl e'
    · exact .inr ⟨_, List.mem_map.mpr ⟨m', hm', rfl⟩, by rw [(updN_p b k m').1, e']⟩
  · obtain ⟨m, hm, rfl⟩ := List.mem_map.mp hn
    obtain ⟨_, h1, _, _, h4⟩ := updN_p b k m
    rw [h1, h4]; exact h.ns m hm
/-- what set adds -/
noncomputable def hit (b : Bool) (k k' : Key) (f : Int) : Bool := if b then decide (f = 0) && decide (k <+: k') else decide (f = 1) && decide (k = k')
theorem isF_upd {b : Bool} {k k' : Key} {M : List Nd} {f : Int} (hf : f = 0 ∨ f = 1) (hk : ∃ n ∈ M, n.p = k) : isF (M.map (updN b k)) k' f = (isF M k' f || hit b k k' f) := by
  obtain ⟨n, hn, hp⟩ := hk
  rw [Bool.eq_iff_iff, Bool.or_eq_true]
  unfold isF hit
  rcases hf with rfl | rfl
  · rw [if_pos rfl, if_pos rfl, List.any_map, List.any_eq_true, List.any_eq_true]
    constructor
    · rintro ⟨m, hm, e⟩
      simp only [Function.comp, Bool.and_eq_true, decide_eq_true_eq, (updN_p b k m).1] at e
      by_cases hr : m.r = true
      · exact .inl ⟨m, hm, by simp only [Bool.and_eq_true, decide_eq_true_eq]; exact ⟨hr, e.2⟩⟩
      · right
        have : m.p = k ∧ b = true := by
          have e1 := e.1
          unfold updN at e1
          split at e1
          · rename_i hp
            cases b
            · exact absurd e1 hr
            · exact ⟨hp, rfl⟩
          · exact absurd e1 hr
        rw [this.2, if_pos rfl]
        simp only [decide_true, Bool.true_and, decide_eq_true_eq]
        exact this.1 ▸ e.2
    · rintro (⟨m, hm, e⟩ | e)
      · refine ⟨m, hm, ?_⟩
        simp only [Function.comp, Bool.and_eq_true, decide_eq_true_eq, (updN_p b k m).1] at e ⊢
        refine ⟨?_, e.2⟩
        unfold updN
        split
        · cases b
          · exact e.1
          · rfl
        · exact e.1
      · cases b
        · simp at e
        · simp only [if_true, decide_true, Bool.true_and, decide_eq_true_eq] at e
          refine ⟨n, hn, ?_⟩
          simp only [Function.comp, Bool.and_eq_true, decide_eq_true_eq, (updN_p true k n).1]
          refine ⟨?_, hp ▸ e⟩
          unfold updN; rw [if_pos hp]; rfl
  · rw [if_neg (by decide), if_neg (by decide), List.any_map, List.any_eq_true, List.any_eq_true]
    constructor
    · rintro ⟨m, hm, e⟩
      simp only [Function.comp, Bool.and_eq_true, decide_eq_true_eq, (updN_p b k m).1] at e
      by_cases hr : m.f = true
      · exact .inl ⟨m, hm, by simp only [Bool.and_eq_true, decide_eq_true_eq]; exact ⟨hr, e.2⟩⟩
      · right
        have : m.p = k ∧ b = false := by
          have e1 := e.1
          unfold updN at e1
          split at e1
          · rename_i hp
            cases b
            · exact ⟨hp, rfl⟩
            · exact absurd e1 hr
          · exact absurd e1 hr
        rw [this.2, if_neg (by decide)]
        simp only [decide_true, Bool.true_and, decide_eq_true_eq]
        exact this.1 ▸ e.2
    · rintro (⟨m, hm, e⟩ | e)
      · refine ⟨m, hm, ?_⟩
        simp only [Function.comp, Bool.and_eq_true, decide_eq_true_eq, (updN_p b k m).1] at e ⊢
        refine ⟨?_, e.2⟩
        unfold updN
        split
        · cases b
          · rfl
          · exact e.1
        · exact e.1
      · cases b
        · simp only [Bool.false_eq_true, if_false, decide_true, Bool.true_and, decide_eq_true_eq] at e
          refine ⟨n, hn, ?_⟩
          simp only [Function.comp, Bool.and_eq_true, decide_eq_true_eq, (updN_p false k n).1]
          refine ⟨?_, hp ▸ e⟩
          unfold updN; rw [if_pos hp]; rfl
        · simp at e
theorem sF_add (f : Bool) : (fun k' => sF f k' || decide (k' = 1)) = sF true ∧ (if sF f 1 = true then cnt f else cnt f + 1) = cnt true := by
  cases f
  · exact ⟨funext fun k => by simp [sF], rfl⟩
  · exact ⟨funext fun k => by simp [sF], rfl⟩
theorem sR_add (f : Bool) : (fun k' => sR f k' || decide (k' = 0)) = sR true ∧ (if sR f 0 = true then cnt f else cnt f + 1) = cnt true := by
  cases f
  · exact ⟨funext fun k => by simp [sR], rfl⟩
  · exact ⟨funext fun k => by simp [sR], rfl⟩
theorem trC_upd {b : Bool} {c0 : Addr} {M : List Nd} (ok : NdOK M) {n : Nd} (hn : n ∈ M) :
    Upd (if b then n.rf else n.fl) (if b then setP w (sR true) (cnt true) else setP w (sF true) (cnt true)) (trC w c0 M (fun q => kids q M)) (trC w c0 (M.map (updN b n.p)) (fun q => kids q (M.map (updN b n.p)))) := by
  have eK : cK w c0 (M.map (updN b n.p)) (fun q => kids q (M.map (updN b n.p))) = cK w c0 M (fun q => kids q M) := by
    unfold cK
    rw [updN_conts]
    apply List.map_congr_left
    intro q _
    show (q.2, dctP w (kids q.1 (M.map (updN b n.p)))) = (q.2, dctP w (kids q.1 M))
    rw [updN_kids]
  have eA : cA w (M.map (updN b n.p)) = cA w M := by
    unfold cA
    rw [List.map_map]
    apply List.map_congr_left
    intro m _
    show ((updN b n.p m).a, dctP w (recOf (updN b n.p m))) = _
    rw [updN_rec, (updN_p b n.p m).2.1]
  unfold trC
  rw [eK, eA]
  refine upd_append (upd_append ?_)
  have other : ∀ m, m.p ≠ n.p → updN b n.p m = m := fun m h => by unfold updN; rw [if_neg h]
  cases b with
  | true =>
    have eF : cF w (M.map (updN true n.p)) = cF w M := by
      unfold cF
      rw [List.map_map]
      apply List.map_congr_left
      intro m _
      show ((updN true n.p m).fl, setP w (sF (updN true n.p m).f) (cnt (updN true n.p m).f)) = _
      have : (updN true n.p m).f = m.f := by unfold updN; split <;> rfl
      rw [this, (updN_p true n.p m).2.2.1]
    rw [eF]
    refine upd_append ?_
    unfold cR
    rw [List.map_map]
    refine upd_map (key := fun m => m.p) ok.nd hn (P := setP w (sR n.r) (cnt n.r)) rfl ?_ fun m _ hne => ?_
    · show ((updN true n.p n).rf, setP w (sR (updN true n.p n).r) (cnt (updN true n.p n).r)) = _
      have : updN true n.p n = { n with r := true } := by unfold updN; rw [if_pos rfl]; rfl
      rw [this]; rfl
    · show ((updN true n.p m).rf, setP w (sR (updN true n.p m).r) (cnt (updN true n.p m).r)) = _
      rw [other m hne]
  | false =>
    have eR : cR w (M.map (updN false n.p)) = cR w M := by
      unfold cR
      rw [List.map_map]
      apply List.map_congr_left
      intro m _
      show ((updN false n.p m).rf, setP w (sR (updN false n.p m).r) (cnt (updN false n.p m).r)) = _
      have : (updN false n.p m).r = m.r := by unfold updN; split <;> rfl
      rw [this, (updN_p false n.p m).2.2.2.1]
    rw [eR]
    refine upd_right ?_
    unfold cF
    rw [List.map_map]
    refine upd_map (key := fun m => m.p) ok.nd hn (P := setP w (sF n.f) (cnt n.f)) rfl ?_ fun m _ hne => ?_
    · show ((updN false n.p n).fl, setP w (sF (updN false n.p n).f) (cnt (updN false n.p n).f)) = _
      have : updN false n.p n = { n with f := true } := by unfold updN; rw [if_pos rfl]; rfl
      rw [this]; rfl
    · show ((updN false n.p m).fl, setP w (sF (updN false n.p m).f) (cnt (updN false n.p m).f)) = _
      rw [other m hne]
end
end
section
section
variable {w : World} {A : Around} {E : Value → Shared → Prop} {s : Shared} {h₀ : Heap} {Φ Φ' Y : List Cell} {env : Env} {L : Addr} {nm gl : List Str} {cl : List (Str × Addr)} {vs : List (Option Value)}
theorem fn_set (w : World) : FnOK w 63 (clsBody 6) ["self", "key", "flag", "recursive", "cont", "key_parent", "key_stem", "k"] ["set"] :=
  fnOK_of ⟨by kernel_rfl, by kernel_rfl, by kernel_rfl, by kernel_rfl, by kernel_rfl, by kernel_rfl, by kernel_rfl, by kernel_rfl, by kernel_rfl, by kernel_rfl⟩ (by kernel_rfl) (by kernel_rfl)
noncomputable abbrev setNm : List Str := ["self", "key", "flag", "recursive", "cont", "key_parent", "key_stem", "k"]
theorem tail_any {value slice : Expr} {o i : Value} {T id : String} {ops : List Value} {Q : Value → Shared → Prop} (hT : s.TypeIs o T)
    (hl : typeLookup (.type T) "__getitem__" = pure (some (.builtin id))) (h : wpAny (model PR w) A (getItem o i) Q E s) (hs : subscripted slice false o i = operate ops (getItem o i)) : wpAny (model PR w) A (subscriptTail value slice o i) Q E s := by
  unfold subscriptTail
  refine wpAny_bind ?_
  rw [getitemInPython_of_ne hT.not_modules]
  refine wpAny_bind (wpAny_specialOf hT hl ?_)
  have fin : wpAny (model PR w) A (subscripted slice false o i) (fun r s₃ => wpAny (model PR w) A (letTemporaryGo value o r >>= fun _ => pure r) Q E s₃) E s := by
    rw [hs]
    exact wpAny_operating (wpAny_mono h (fun r s₃ h₃ => wpAny_bind (wpAny_letTemporaryGo (wpAny_pure h₃))) fun _ _ x => x)
  first
    | exact wpAny_pure (wpAny_bind fin)
    | exact wpAny_bind (wpAny_pure (wpAny_bind fin))
    | exact wpAny_bind fin
/-- d[k] with any index, on any base -/
theorem r_subT {value slice : Expr} {d : Addr} {kvs : List (Str × Value)} {k : Str} {t : Tok} {v : Value} {Q : Value → Shared → Prop} (O : Own h₀ s.heap Φ) (hm : Has h₀ Φ d (dctP w kvs)) (hv : valueAt kvs k = some v) (h : ∀ s', Sm s s' → Own h₀ s'.heap Φ → Q v s')
    (hs : subscripted slice false (.ref d) (.str k t) = operate [.ref d, .str k t] (getItem (.ref d) (.str k t)) := by with_unfolding_all rfl) :
    wpAny (model PR w) A (subscriptTail value slice (.ref d) (.str k t)) Q E s :=
  tail_any (O.dict hm).typeIs slot_dict_getitem.lookup (r_item O hm hv h) hs
theorem set_spec {x dx c0 p0 tk : Addr} {M : List Nd} {k : Key} {ts : List Value} {fl : Int} {b : Bool} {t : Tok} {Q : Value → Shared → Prop} (B : Base w h₀) (R : Rm A 2)
    (O : Own h₀ s.heap ((x, xP dx) :: (dx, n1P (inst0 c0 p0)) :: (trC w c0 M (fun q => kids q M) ++ Φ))) (ok : NdOK M) (ns0 : NS c0) (hz : M.length ≤ 900)
    (hk : Has h₀ Φ tk (tupP ts)) (ht : StrsAre ts (k.map nmF)) (hl : k.length ≤ 3) (hk0 : k ≠ []) (hfl : fl = if b then 0 else 1)
    (h : ∀ M' s', Sm s s' → NdOK M' → M'.length ≤ M.length + 3 → (∀ k' f, f = 0 ∨ f = 1 → isF M' k' f = (isF M k' f || hit b k k' f)) → Own h₀ s'.heap ((x, xP dx) :: (dx, n1P (inst0 c0 p0)) :: (trC w c0 M' (fun q => kids q M') ++ Φ)) → Q .none s') :
    wpAny (model PR w) A (call (.ref 63) [.ref x, .ref tk, .int fl t] [("recursive", .bool b)]) Q E s := by
  refine enterF (fn_set w) (B.keeps O.keep) (R.le (by decide)) [("self", .ref x), ("key", .ref tk), ("flag", .int fl t), ("recursive", .bool b)] ["cont", "key_parent", "key_stem", "k"] [some (.ref x), some (.ref tk), some (.int fl t), some (.bool b), none, none, none, none] (by kernel_rfl) rfl rfl ?_
  intro L env s₁ e₁ V O₁ hf
  have R1 : Rm (A.deeper env) 1 := R.deeper
  have hh := R1.hd
  have lts : ts.length = k.length := by rw [ht.length]; simp
  have hn0 : k.length ≠ 0 := fun e => hk0 (List.length_eq_zero_iff.mp e)
  replace O := O.new O₁.keep O₁.toNew
  clear O₁
  dsimp only [List.cons_append, List.nil_append] at O
  have hK : ∀ {a b c d e : Cell} {X : List Cell}, Has h₀ (a :: b :: c :: (X ++ Φ)) tk (tupP ts) := hk.mono fun p hp => List.mem_cons_of_mem _ (List.mem_cons_of_mem _ (List.mem_cons_of_mem _ (List.mem_append_right _ hp)))
  -- cont = self._flags
  refine r_seq rfl (wpAny_Assign_Name (Attribute_Name_ (r_ld V O (by ktr_rel) (by ktr_rel) (r_flags (B.keeps O.keep) O.drop.fi fun s₂ e₂ h₂ => ?_))))
  replace O : Own h₀ s₂.heap _ := h₂ ▸ O
  refine r_st V O (by ktr_rel) (by ktr_rel) (by ktr_rel) ?_
  clear O; intro s₃ e₃ O
  have hup : upTo (-1) ts.length = k.length - 1 := by rw [lts]; unfold upTo; rw [if_pos (by decide)]; lia
  obtain ⟨c, hc⟩ : ∃ c, k[k.length - 1]? = some c := ⟨k[k.length - 1], List.getElem?_eq_getElem (by lia)⟩
  have hq : k = k.take (k.length - 1) ++ [c] := by
    have : k.take (k.length - 1 + 1) = k.take (k.length - 1) ++ [c] := by rw [List.take_add_one, hc]; rfl
    rw [← this, List.take_of_length_le (by lia)]
  obtain ⟨u, hu⟩ := ht.at (j := k.length - 1) (y := nmF c) (by rw [List.getElem?_map, hc]; rfl)
  -- key_parent, key_stem = (key[:-1], key[-1])
  refine r_seq rfl (r_swap2 V (by ktr_rel) (by ktr_rel) (R1.le (by decide)) (Tuple_ (r_arg (Subscript_ (r_ld V O (by ktr_rel) (by ktr_rel) (wpAny_Slice (r_part_none (r_part (UnaryOp_ (wpAny_Constant_int (PyProof.Rows.neg_int (r_gen O ?_))))))))))))
  clear O; intro s₄ e₄ O
  refine r_part_none ?_
  refine r_tslice O (hk.mono fun p hp => List.mem_cons_of_mem _ (List.mem_cons_of_mem _ (List.mem_cons_of_mem _ (List.mem_append_right _ hp)))) (by lia) (fun e => by rw [hup, lts] at e; lia) ?_
  rw [hup]
  clear O; intro _ tup s₅ e₅ O
  refine r_arg (Subscript_ (r_ld V O (by ktr_rel) (by ktr_rel) (UnaryOp_ (wpAny_Constant_int (PyProof.Rows.neg_int (r_gen O ?_))))))
  clear O; intro s₆ e₆ O
  refine PyProof.Rows.item_tupleT (j := k.length - 1) (tupP.tup (Has.get (hk.mono fun p hp => List.mem_cons_of_mem _ (List.mem_cons_of_mem _ (List.mem_cons_of_mem _ (List.mem_cons_of_mem _ (List.mem_append_right _ hp))))) O)) (by decide) (by decide) ?_ hu (r_args ?_)
  · unfold seqIndex?
    rw [lts]
    simp
    lia
  refine r_newTup O (fun tq s₇ e₇ _ _ O => (ei5 tq _ _ _ _ ⟨rfl, O, by ktr_rel, fun s₈ e₈ O => ?_⟩))
  refine r_st V O (by ktr_rel) (by ktr_rel) (by ktr_rel) ?_
  clear O; intro s₉ e₉ O
  refine r_st V O (by ktr_rel) (by ktr_rel) (by ktr_rel) ?_
  clear O; intro s₁₀ e₁₀ O
  replace O := O.drop
  -- for k in key_parent
  refine r_seq rfl (wpAny_For (r_ld V O (by ktr_rel) (by ktr_rel) ?_))
  refine r_for_tuple (l := tup) (xs := ts.take (k.length - 1)) hh (fun i Ψ => ∃ M' ci kv, NdOK M' ∧ M'.length ≤ M.length + i ∧ (∀ k' f, isF M' k' f = isF M k' f) ∧ (k.take i, ci) ∈ conts c0 M' ∧
    Ψ = (tup, tupP (ts.take (k.length - 1))) :: (L, locP setNm [some (.ref x), some (.ref tk), some (.int fl t), some (.bool b), some (.ref ci), some (.ref tup), some (.str (nmF c) u), kv]) :: (x, xP dx) :: (dx, n1P (inst0 c0 p0)) :: (trC w c0 M' (fun q => kids q M') ++ Φ)) O
    (ei3 M c0 _ ⟨ok, Nat.le_refl _, fun _ _ => rfl, List.mem_cons_self, rfl⟩) ?_ ?_ ?_
  · intro i Ψ _ jy0
    refine ex3 jy0 fun M' ci kv jx0 => an5 jx0 fun _ _ _ _ jr04 => ?_
    clear jx0 jy0
    subst jr04
    exact .cell (by ktr_rel)
  · intro i v Ψ s₁₁ I P hi jz1 e₁₁ O
    refine hide fun Gz2 hGz2 => ?_
    refine ex3 jz1 fun M' ci kv jx => ?_
    refine an5 jx fun ok' hz' hF' hci jr4 => ?_
    clear jx jz1
    subst jr4
    refine hGz2 ?_
    refine hideT fun TT1 hTT1 => ?_
    have hil : i < k.length - 1 := by
      rcases Nat.lt_or_ge i (k.length - 1) with h' | h'
      · exact h'
      · rw [List.getElem?_eq_none (by rw [List.length_take, lts]; lia)] at hi; cases hi
    obtain ⟨c', u', hc', rfl⟩ : ∃ c u, k[i]? = some c ∧ v = .str (nmF c) u := by
      rw [List.getElem?_take_of_lt hil] at hi
      refine hide fun Gz3 hGz3 => ?_
      obtain ⟨y, t, rfl, hy⟩ := ht.item i v hi
      refine hGz3 ?_
      rw [List.getElem?_map] at hy
      obtain ⟨c, hc, rfl⟩ := Option.map_eq_some_iff.mp hy
      exact ⟨c, t, hc, rfl⟩
    have hq1 : k.take (i + 1) = k.take i ++ [c'] := by rw [List.take_add_one, hc']; rfl
    refine r_st V O (by ktr_rel) (by ktr_rel) (by ktr_rel) ?_
    clear O; intro s₁₂ e₁₂ O
    refine r_seq rfl (r_ensure (Y := [(I, P), (tup, _), (L, _), (x, _), (dx, _)]) B V (by ktr_rel) O (by ktr_rel) (by ktr_rel) (by ktr_rel) hci ok' ns0 (by lia) ?_)
    clear O; intro M'' n s₁₃ e₁₃ ok'' hz'' hF'' hsub hn hp O
    dsimp only [List.cons_append, List.nil_append] at O
    have hm0 : (ci, dctP w (kids (k.take i) M'')) ∈ trC w c0 M'' (fun q => kids q M'') ++ Φ := List.mem_append_left _ (mem_cK (K := fun q => kids q M'') (hsub _ hci))
    have hm1 : (n.a, dctP w (recOf n)) ∈ trC w c0 M'' (fun q => kids q M'') ++ Φ := List.mem_append_left _ (List.mem_append_right _ (List.mem_append_left _ (List.mem_map.mpr ⟨n, hn, rfl⟩)))
    refine r_seq rfl (wpAny_Assign_Name (Subscript_ (wpAny_Subscript_Name_late (r_ld V O (by ktr_rel) (by ktr_rel) (r_ld V O (by ktr_rel) (by ktr_rel) (r_sub O (.cell (by ktr_rel)) (kids_at ok''.nd hn hp) ?_))))))
    clear O; intro s₁₄ e₁₄ O
    refine wpAny_Constant_str (r_subT O (.cell (by ktr_rel)) (rec_at n).2.2 ?_)
    clear O; intro s₁₅ e₁₅ O
    refine r_st V O (by ktr_rel) (by ktr_rel) (by ktr_rel) ?_
    clear O; intro s₁₆ e₁₆ O
    refine r_nil (hTT1 _ _ ?_)
    refine Turn.next _ (by ktr_rel) (O.pick (by ktr_rel)) (ei3 M'' n.ne _ ⟨ok'', by lia, fun k' f => (hF'' k' f).trans (hF' k' f), ?_, rfl⟩)
    rw [hq1, ← hp]; exact List.mem_cons_of_mem _ (List.mem_map.mpr ⟨n, hn, rfl⟩)
  · intro Ψ s₁₁ jz4 e₁₁ O
    refine hide fun Gz5 hGz5 => ?_
    refine ex3 jz4 fun M' ci kv jx => ?_
    refine an5 jx fun ok' hz' hF' hci jr4 => ?_
    clear jx jz4
    subst jr4
    refine hGz5 ?_
    have hlt : (ts.take (k.length - 1)).length = k.length - 1 := by rw [List.length_take, lts]; lia
    rw [hlt] at hci hz'
    refine r_seq rfl (r_ensure (Y := [(tup, _), (L, _), (x, _), (dx, _)]) B V (by ktr_rel) O (by ktr_rel) (by ktr_rel) (by ktr_rel) hci ok' ns0 (by lia) ?_)
    clear O; intro M'' n s₁₃ e₁₃ ok'' hz'' hF'' hsub hn hp O
    dsimp only [List.cons_append, List.nil_append] at O
    have hpk : n.p = k := hp.trans hq.symm
    have hm0 : (ci, dctP w (kids (k.take (k.length - 1)) M'')) ∈ trC w c0 M'' (fun q => kids q M'') ++ Φ := List.mem_append_left _ (mem_cK (K := fun q => kids q M'') (hsub _ hci))
    have hm1 : (n.a, dctP w (recOf n)) ∈ trC w c0 M'' (fun q => kids q M'') ++ Φ := List.mem_append_left _ (List.mem_append_right _ (List.mem_append_left _ (List.mem_map.mpr ⟨n, hn, rfl⟩)))
    have hm2 : (n.fl, setP w (sF n.f) (cnt n.f)) ∈ trC w c0 M'' (fun q => kids q M'') ++ Φ := List.mem_append_left _ (List.mem_append_right _ (List.mem_append_right _ (List.mem_append_left _ (List.mem_map.mpr ⟨n, hn, rfl⟩))))
    have hm3 : (n.rf, setP w (sR n.r) (cnt n.r)) ∈ trC w c0 M'' (fun q => kids q M'') ++ Φ := List.mem_append_left _ (List.mem_append_right _ (List.mem_append_right _ (List.mem_append_right _ (List.mem_map.mpr ⟨n, hn, rfl⟩))))
    have U := trC_upd (w := w) (b := b) (c0 := c0) ok'' hn
    have hfin : ∀ s', Sm s s' → Own h₀ s'.heap ((x, xP dx) :: (dx, n1P (inst0 c0 p0)) :: (trC w c0 (M''.map (updN b n.p)) (fun q => kids q (M''.map (updN b n.p))) ++ Φ)) → Q .none s' := fun s' e O' =>
      h _ s' e (updN_ok ok'') (by rw [List.length_map]; lia) (fun k' f hf' => by rw [isF_upd hf' ⟨n, hn, rfl⟩, hF'', hF', hpk]) O'
    -- cont[key_stem][..].add(flag)
    refine r_seq rfl (r_expr V (r_meth PySem.F.plainAttrs_set PySem.F.slot_set_add PySem.F.type_set_add (Subscript_ (wpAny_Subscript_Name_late (r_ld V O (by ktr_rel) (by ktr_rel) (r_ld V O (by ktr_rel) (by ktr_rel) (r_sub O (.cell (by ktr_rel)) (kids_at ok''.nd hn hp) ?_)))))))
    clear O; intro s₁₄ e₁₄ O
    refine IfExp_ (wpAny_isTrue_value (r_ld V O (by ktr_rel) (by ktr_rel) (truth_bool ?_)))
    have setHere : ∀ {a : Addr} {S : Int → Bool} {m : Nat} {s' : Shared} {X : List Cell}, Own h₀ s'.heap X → (a, setP w S m) ∈ X → s'.TypeIs (.ref a) "set" ∧ ∀ b, Value.ref a = .ref b → ∃ ob, s'.heap.get? b = some ob ∧ ob.dict = none := fun O' hm => by
      refine hide fun Gz6 hGz6 => ?_
      obtain ⟨o, ho, hp, _⟩ := O'.get hm
      refine hGz6 ?_
      exact ⟨⟨o, ho, hp.1⟩, fun b e => by cases e; exact ⟨o, ho, hp.2.1⟩⟩
    cases b with
    | true =>
      obtain rfl : fl = 0 := hfl
      rw [if_pos rfl]
      refine wpAny_Constant_str (r_subT O (.cell (by ktr_rel)) (rec_at n).2.1 ?_)
      clear O; intro s₁₅ e₁₅ O
      refine ⟨setHere O (by ktr_rel), r_arg (r_ld V O (by ktr_rel) (by ktr_rel) (r_args ?_))⟩
      rw [if_pos rfl, if_pos rfl] at U
      refine r_sadd O (by ktr_rel) (cnt_lt _) (by rw [(sR_add n.r).1, (sR_add n.r).2]; exact .tail (.tail (.tail (.tail (upd_right U))))) ?_
      clear O; intro s₁₆ e₁₆ O
      exact r_nil (hfin _ (by ktr_rel) (O.pick (by ktr_rel)))
    | false =>
      obtain rfl : fl = 1 := hfl
      rw [if_neg (by decide)]
      refine wpAny_Constant_str (r_subT O (.cell (by ktr_rel)) (rec_at n).1 ?_)
      clear O; intro s₁₅ e₁₅ O
      refine ⟨setHere O (by ktr_rel), r_arg (r_ld V O (by ktr_rel) (by ktr_rel) (r_args ?_))⟩
      rw [if_neg (by decide), if_neg (by decide)] at U
      refine r_sadd O (by ktr_rel) (cnt_lt _) (by rw [(sF_add n.f).1, (sF_add n.f).2]; exact .tail (.tail (.tail (.tail (upd_right U))))) ?_
      clear O; intro s₁₆ e₁₆ O
      exact r_nil (hfin _ (by ktr_rel) (O.pick (by ktr_rel)))
end
end
section
section
variable {w : World} {A : Around} {E : Value → Shared → Prop} {s : Shared} {h₀ : Heap} {Φ Φ' Y : List Cell} {env : Env} {L : Addr} {nm gl : List Str} {cl : List (Str × Addr)}
open PySem.SeqAt
theorem all_range_eq {ss ts : List Str} (h : ss.length = ts.length) : ((List.range ss.length).all fun j => ss.getD j Str.empty == ts.getD j Str.empty) = decide (ss = ts) := by
  rw [Bool.eq_iff_iff, List.all_eq_true, decide_eq_true_eq]
  constructor
  · intro hx
    apply List.ext_getElem h
    intro i h1 h2
    have := hx i (List.mem_range.mpr h1)
    rw [beq_iff_eq] at this
    simpa [List.getD_eq_getElem?_getD, h1, h2] using this
  · rintro rfl i _
    simp
theorem eqs_at {xs ys : List Value} {ss ts : List Str} (hx : StrsAre xs ss) (hy : StrsAre ys ts) (j : Nat) (h1 : j < xs.toArray.size) (h2 : j < ys.toArray.size) : EqAt A s xs.toArray[j] ys.toArray[j] (ss.getD j Str.empty == ts.getD j Str.empty) := by
  have h1' : j < xs.length := by simpa using h1
  have h2' : j < ys.length := by simpa using h2
  obtain ⟨y, t, e, hy1⟩ := hx.item j xs[j] (by simp [h1'])
  obtain ⟨z, u, e', hz1⟩ := hy.item j ys[j] (by simp [h2'])
  have a : xs.toArray[j] = .str y t := by rw [← e]; simp
  have b : ys.toArray[j] = .str z u := by rw [← e']; simp
  rw [a, b, List.getD_eq_getElem?_getD, List.getD_eq_getElem?_getD, hy1, hz1]
  exact EqAt.str_str y t z u
theorem leq_strs {l b : Addr} {xs ys : List Value} {ss ts : List Str} (hl : ∃ o, s.heap.get? l = some o ∧ lstP xs o) (hb : ∃ o, s.heap.get? b = some o ∧ lstP ys o) (hx : StrsAre xs ss) (hy : StrsAre ys ts) (hu : A.units < cLine) : RcAt A s (.ref l) (.ref b) (decide (ss = ts)) := by
  by_cases h : ss.length = ts.length
  · have := RcAt.lists (A := A) (lstP.is hl) (lstP.is hb) (by simp [hx.length, hy.length, h]) hu (fun j h1 h2 => eqs_at hx hy j h1 h2)
    rw [show xs.toArray.size = ss.length from by simp [hx.length], all_range_eq h] at this
    exact this
  · have := RcAt.lists_lengths (A := A) (lstP.is hl) (lstP.is hb) (by simpa [hx.length, hy.length] using h) hu
    rw [decide_eq_false fun e => h (congrArg List.length e)]
    exact this
theorem lne_strs {l b : Addr} {xs ys : List Value} {ss ts : List Str} (hl : ∃ o, s.heap.get? l = some o ∧ lstP xs o) (hb : ∃ o, s.heap.get? b = some o ∧ lstP ys o) (hx : StrsAre xs ss) (hy : StrsAre ys ts) (hu : A.units < cLine) : RcNeAt A s (.ref l) (.ref b) (!decide (ss = ts)) := by
  by_cases h : ss.length = ts.length
  · have := RcNeAt.lists (A := A) (lstP.is hl) (lstP.is hb) (by simp [hx.length, hy.length, h]) hu (fun j h1 h2 => eqs_at hx hy j h1 h2)
    rw [show xs.toArray.size = ss.length from by simp [hx.length], all_range_eq h] at this
    exact this
  · have := RcNeAt.lists_lengths (A := A) (lstP.is hl) (lstP.is hb) (by simpa [hx.length, hy.length] using h) hu
    rw [decide_eq_false fun e => h (congrArg List.length e)]
    exact this
/-- [..] != [] of any values -/
theorem lne_nil {l b : Addr} {xs : List Value} (hl : ∃ o, s.heap.get? l = some o ∧ lstP xs o) (hb : ∃ o, s.heap.get? b = some o ∧ lstP [] o) (hu : A.units < cLine) : RcNeAt A s (.ref l) (.ref b) (!xs.isEmpty) := by
  cases xs with
  | nil => exact RcNeAt.lists (A := A) (lstP.is hl) (lstP.is hb) rfl hu (e := fun _ => true) (fun j h1 _ => absurd h1 (by simp))
  | cons x r => exact RcNeAt.lists_lengths (A := A) (lstP.is hl) (lstP.is hb) (by simp) hu
theorem leq_nil {l b : Addr} {xs : List Value} (hl : ∃ o, s.heap.get? l = some o ∧ lstP xs o) (hb : ∃ o, s.heap.get? b = some o ∧ lstP [] o) (hu : A.units < cLine) : RcAt A s (.ref l) (.ref b) xs.isEmpty := by
  cases xs with
  | nil => exact RcAt.lists (A := A) (lstP.is hl) (lstP.is hb) rfl hu (e := fun _ => true) (fun j h1 _ => absurd h1 (by simp))
  | cons x r => exact RcAt.lists_lengths (A := A) (lstP.is hl) (lstP.is hb) (by simp) hu
theorem leq_two {l b : Addr} {x y x' y' : Value} {e1 e2 : Bool} (hl : ∃ o, s.heap.get? l = some o ∧ lstP [x, y] o) (hb : ∃ o, s.heap.get? b = some o ∧ lstP [x', y'] o) (h1 : EqAt A.in1 s x x' e1) (h2 : EqAt A.in1 s y y' e2) (hu : A.units < cLine) : RcAt A s (.ref l) (.ref b) (e1 && e2) := by
  have := RcAt.lists (A := A) (lstP.is hl) (lstP.is hb) rfl hu (e := fun j => if j = 0 then e1 else e2) (fun j a b => by
    match j, a with
    | 0, _ => exact h1
    | 1, _ => exact h2
    | j + 2, a => exact absurd (show j + 2 < 2 from a) (by lia))
  have e : ((List.range ([x, y].toArray.size)).all fun j => if j = 0 then e1 else e2) = (e1 && e2) := by
    show ((List.range 2).all _) = _
    simp [List.range_succ]
  rw [e] at this
  exact this
theorem r_rc {a b : Value} {k : Bool} {Q : Value → Shared → Prop} (h : RcAt A s a b k) (hq : Q (.bool k) s) : wpAny (model PR w) A (compareOp .Eq a b) Q E s := h PR w E Q hq
theorem r_rcne {a b : Value} {k : Bool} {Q : Value → Shared → Prop} (h : RcNeAt A s a b k) (hq : Q (.bool k) s) : wpAny (model PR w) A (compareOp .NotEq a b) Q E s := h PR w E Q hq
/-- Flags.FROZEN, Flags.EXPLICIT_NEST -/
theorem r_frozen {expr : Bool} {Q : Value → Shared → Prop} (B : Base w s.heap) (h : ∀ t s', Sm s s' → s'.heap = s.heap → Q (.int 0 t) s') : wpAny (model PR w) A (getAttr (.ref 73) "FROZEN" expr) Q E s :=
  cls_value (mc := .type "type") (v := .int 0 208) B.X (by kernel_rfl) (by kernel_rfl) rfl (h _ _ ⟨rfl, rfl, rfl⟩ rfl)
theorem r_explicit {expr : Bool} {Q : Value → Shared → Prop} (B : Base w s.heap) (h : ∀ t s', Sm s s' → s'.heap = s.heap → Q (.int 1 t) s') : wpAny (model PR w) A (getAttr (.ref 73) "EXPLICIT_NEST" expr) Q E s :=
  cls_value (mc := .type "type") (v := .int 1 210) B.X (by kernel_rfl) (by kernel_rfl) rfl (h _ _ ⟨rfl, rfl, rfl⟩ rfl)
end
end
section
section
/-! ## lines and keys: the plain part -/
noncomputable def keys39 : List Key := [[]] ++ ([0, 1, 2] : List (Fin 3)).flatMap (fun a => [a] :: ([0, 1, 2] : List (Fin 3)).flatMap (fun b => [a, b] :: ([0, 1, 2] : List (Fin 3)).map (fun c => [a, b, c])))
theorem f3_mem (a : Fin 3) : a ∈ ([0, 1, 2] : List (Fin 3)) := by
  match a with
  | 0 => decide
  | 1 => decide
  | 2 => decide
theorem mem_keys39 {k : Key} (h : k.length ≤ 3) : k ∈ keys39 := by
  match k, h with
  | [], _ => exact List.mem_append_left _ List.mem_cons_self
  | [a], _ => exact List.mem_append_right _ (List.mem_flatMap.mpr ⟨a, f3_mem a, List.mem_cons_self⟩)
  | [a, b], _ => exact List.mem_append_right _ (List.mem_flatMap.mpr ⟨a, f3_mem a, List.mem_cons_of_mem _ (List.mem_flatMap.mpr ⟨b, f3_mem b, List.mem_cons_self⟩)⟩)
  | [a, b, c], _ => exact List.mem_append_right _ (List.mem_flatMap.mpr ⟨a, f3_mem a, List.mem_cons_of_mem _ (List.mem_flatMap.mpr ⟨b, f3_mem b, List.mem_cons_of_mem _ (List.mem_map.mpr ⟨c, f3_mem c, rfl⟩)⟩)⟩)
  | _ :: _ :: _ :: _ :: _, h => simp at h
noncomputable def keyBack (x : Str) : Key := (keys39.find? fun k => S k == x).getD []
theorem back_ok : keys39.all (fun k => keyBack (S k) == k) = true := by decide +kernel
theorem S_inj {k k' : Key} (h : k.length ≤ 3) (h' : k'.length ≤ 3) (e : S k = S k') : k = k' := by
  have a := List.all_eq_true.mp back_ok k (mem_keys39 h)
  have b := List.all_eq_true.mp back_ok k' (mem_keys39 h')
  rw [beq_iff_eq] at a b
  rw [← a, ← b, e]
theorem S_root {k : Key} (h : k.length ≤ 3) : (S k != "/") = decide (k ≠ []) := by
  by_cases hk : k = []
  · subst hk; decide
  · have : S k ≠ "/" := fun e => hk (S_inj h (Nat.zero_le 3) e)
    rw [decide_eq_true hk]
    simpa using this
theorem split_ok : keys39.all (fun k => k.length == 3 || ([0, 1, 2] : List (Fin 3)).all (fun c => splitHead (S (k ++ [c])) == S k && splitTail (S (k ++ [c])) == nmF c)) = true := by decide +kernel
theorem split_S {k : Key} {c : Fin 3} (h : k.length ≤ 2) : splitHead (S (k ++ [c])) = S k ∧ splitTail (S (k ++ [c])) = nmF c := by
  have a := List.all_eq_true.mp split_ok k (mem_keys39 (by lia))
  have hne : (k.length == 3) = false := by rw [beq_eq_false_iff_ne]; lia
  rw [hne, Bool.false_or] at a
  have b := List.all_eq_true.mp a c (f3_mem c)
  rw [Bool.and_eq_true, beq_iff_eq, beq_iff_eq] at b
  exact b
/-- a place and what lies above it, innermost first -/
noncomputable def anc (k : Key) : List Key := (List.range k.length).map fun j => k.take (k.length - j)
theorem anc_len (k : Key) : (anc k).length = k.length := by simp [anc]
theorem anc_at {k : Key} {j : Nat} (h : j < k.length) : (anc k)[j]? = some (k.take (k.length - j)) := by simp [anc, h]
theorem anc_take_succ {k : Key} {j : Nat} (h : j < k.length) : (anc k).take (j + 1) = (anc k).take j ++ [k.take (k.length - j)] := by rw [List.take_add_one, anc_at h]; rfl
theorem anc_drop {k : Key} {j : Nat} (h : j ≤ k.length) : (anc k).drop j = anc (k.take (k.length - j)) := by
  apply List.ext_getElem?
  intro i
  rw [List.getElem?_drop]
  have hl : (k.take (k.length - j)).length = k.length - j := by rw [List.length_take]; lia
  by_cases hi : j + i < k.length
  · rw [anc_at hi, anc_at (by rw [hl]; lia), hl, List.take_take]
    congr 2
    lia
  · rw [List.getElem?_eq_none (by rw [anc_len]; lia), List.getElem?_eq_none (by rw [anc_len, hl]; lia)]
noncomputable def ins (sp : List Key) (x : Key) : List Key := if x ∈ sp then sp else sp ++ [x]
/-- all the spots of a row, in the order in which they come -/
noncomputable def spots (row : List Key) : List Key := row.foldl (fun sp p => (anc p).foldl ins sp) []
noncomputable abbrev Good (k : Key) : Prop := k ≠ [] ∧ k.length ≤ 3
theorem ins_good {sp : List Key} {x : Key} (h : ∀ k ∈ sp, Good k) (hx : Good x) : ∀ k ∈ ins sp x, Good k := by
  unfold ins; split
  · exact h
  · intro k hk
    rcases List.mem_append.mp hk with hk | hk
    · exact h k hk
    · rw [List.mem_singleton.mp hk]; exact hx
theorem ins_nodup {sp : List Key} {x : Key} (h : sp.Nodup) : (ins sp x).Nodup := by
  unfold ins; split
  · exact h
  · rename_i hx
    rw [List.nodup_append]
    exact ⟨h, by simp, fun a ha b hb => by rw [List.mem_singleton.mp hb]; exact fun e => hx (e ▸ ha)⟩
structure Ent where
  k : Key
  a : Addr
  vs : List Value
  b : Addr
  ts : List Value
noncomputable def Ent.cells (e : Ent) : List Cell := [(e.a, lstP e.vs), (e.b, tupP e.ts)]
noncomputable def cellsM (M : List Ent) : List Cell := M.flatMap Ent.cells
noncomputable def put : List Ent → Ent → List Ent
  | [], e => [e]
  | e' :: r, e => if e'.k = e.k then e :: r else e' :: put r e
theorem put_keys (M : List Ent) (e : Ent) : (put M e).map (·.k) = ins (M.map (·.k)) e.k := by
  induction M with
  | nil => simp [put, ins]
  | cons e' r ih =>
    unfold put
    by_cases h : e'.k = e.k
    · rw [if_pos h]; simp [ins, h]
    · rw [if_neg h, List.map_cons, ih, List.map_cons]
      have h' : ¬ e.k = e'.k := fun x => h x.symm
      unfold ins
      by_cases hm : e.k ∈ r.map (·.k)
      · rw [if_pos hm, if_pos (List.mem_cons_of_mem _ hm)]
      · rw [if_neg hm, if_neg (by rw [List.mem_cons, not_or]; exact ⟨h', hm⟩)]; rfl
theorem put_cells (M : List Ent) (e : Ent) : ∃ Ψ, (e.cells ++ cellsM M).Perm Ψ ∧ (cellsM (put M e)).Sublist Ψ := by
  induction M with
  | nil => exact ⟨_, List.Perm.refl _, by simp [put, cellsM]⟩
  | cons e' r ih =>
    unfold put
    by_cases h : e'.k = e.k
    · rw [if_pos h]
      refine ⟨e.cells ++ (e'.cells ++ cellsM r), List.Perm.refl _, ?_⟩
      exact (List.sublist_append_right _ _).append_left _
    · rw [if_neg h]
      obtain ⟨Ψ, p, q⟩ := ih
      refine ⟨e'.cells ++ Ψ, ?_, q.append_left _⟩
      have : (e.cells ++ (e'.cells ++ cellsM r)).Perm (e'.cells ++ (e.cells ++ cellsM r)) := by
        rw [← List.append_assoc, ← List.append_assoc]
        exact List.perm_append_comm.append_right _
      exact this.trans (p.append_left _)
theorem put_mem {M : List Ent} {e x : Ent} (h : x ∈ put M e) : x = e ∨ x ∈ M := by
  induction M with
  | nil => exact .inl (List.mem_singleton.mp h)
  | cons e' r ih =>
    unfold put at h
    split at h
    · rcases List.mem_cons.mp h with h | h
      · exact .inl h
      · exact .inr (List.mem_cons_of_mem _ h)
    · rcases List.mem_cons.mp h with h | h
      · exact .inr (h ▸ List.mem_cons_self)
      · rcases ih h with h | h
        · exact .inl h
        · exact .inr (List.mem_cons_of_mem _ h)
theorem put_self {M : List Ent} {e : Ent} : e ∈ put M e := by
  induction M with
  | nil => exact List.mem_cons_self
  | cons e' r ih =>
    unfold put
    split
    · exact List.mem_cons_self
    · exact List.mem_cons_of_mem _ ih
theorem put_keep {M : List Ent} {e x : Ent} (h : x ∈ M) (hk : x.k ≠ e.k) : x ∈ put M e := by
  induction M with
  | nil => cases h
  | cons e' r ih =>
    unfold put
    rcases List.mem_cons.mp h with rfl | h
    · rw [if_neg hk]; exact List.mem_cons_self
    · split
      · exact List.mem_cons_of_mem _ h
      · exact List.mem_cons_of_mem _ (ih h)
noncomputable def kvM (f : Ent → Addr) (M : List Ent) : List (Str × Value) := M.map fun e => (S e.k, .ref (f e))
theorem stored_cons_eq {r : List (Str × Value)} {k : Str} {v v' : Value} (h : k ∉ r.map (·.1)) : stored ((k, v') :: r) k v = (k, v) :: r := by
  unfold stored
  rw [if_pos (by simp)]
  rw [List.map_cons]
  congr 1
  · simp
  · apply map_eq_self
    intro y hy
    have : ¬ y.1 = k := fun e => h (e ▸ List.mem_map.mpr ⟨y, hy, rfl⟩)
    rw [if_neg this]
theorem stored_cons_ne {r : List (Str × Value)} {k k' : Str} {v v' : Value} (h : k' ≠ k) : stored ((k', v') :: r) k v = (k', v') :: stored r k v := by
  unfold stored
  have : (((k', v') :: r).any fun kv => decide (kv.1 = k)) = r.any fun kv => decide (kv.1 = k) := by simp [h]
  rw [this]
  split
  · rw [List.map_cons]; simp [h]
  · rfl
theorem put_kv {f : Ent → Addr} {M : List Ent} {e : Ent} (hg : ∀ x ∈ M, Good x.k) (he : Good e.k) (nd : (M.map (·.k)).Nodup) : kvM f (put M e) = stored (kvM f M) (S e.k) (.ref (f e)) := by
  induction M with
  | nil => rfl
  | cons e' r ih =>
    rw [List.map_cons, List.nodup_cons] at nd
    have hr : ∀ x ∈ r, Good x.k := fun x hx => hg x (List.mem_cons_of_mem _ hx)
    unfold put
    by_cases h : e'.k = e.k
    · rw [if_pos h]
      show (S e.k, Value.ref (f e)) :: kvM f r = stored ((S e'.k, .ref (f e')) :: kvM f r) (S e.k) (.ref (f e))
      rw [h, stored_cons_eq]
      intro hm
      simp only [kvM, List.map_map] at hm
      obtain ⟨x, hx, ex⟩ := List.mem_map.mp hm
      have := S_inj (hr x hx).2 he.2 ex
      exact nd.1 (h ▸ this ▸ List.mem_map.mpr ⟨x, hx, rfl⟩)
    · rw [if_neg h]
      show (S e'.k, Value.ref (f e')) :: kvM f (put r e) = stored ((S e'.k, .ref (f e')) :: kvM f r) (S e.k) (.ref (f e))
      rw [stored_cons_ne, ih hr nd.2]
      exact fun ex => h (S_inj (hg e' List.mem_cons_self).2 he.2 ex)
theorem kv_keys (f : Ent → Addr) (M : List Ent) : (kvM f M).map (·.1) = (M.map (·.k)).map S := by simp [kvM, List.map_map, Function.comp_def]
theorem kv_at {f : Ent → Addr} {M : List Ent} (hg : ∀ x ∈ M, Good x.k) (nd : (M.map (·.k)).Nodup) {e : Ent} (he : e ∈ M) : valueAt (kvM f M) (S e.k) = some (.ref (f e)) := by
  induction M with
  | nil => cases he
  | cons e' r ih =>
    rw [List.map_cons, List.nodup_cons] at nd
    rcases List.mem_cons.mp he with rfl | he
    · simp [kvM, valueAt]
    · have : ¬ S e'.k = S e.k := fun ex => nd.1 (S_inj (hg e' List.mem_cons_self).2 (hg e (List.mem_cons_of_mem _ he)).2 ex ▸ List.mem_map.mpr ⟨e, he, rfl⟩)
      have := ih (fun x hx => hg x (List.mem_cons_of_mem _ hx)) nd.2 he
      simp only [kvM, valueAt, List.map_cons, List.find?_cons] at this ⊢
      simp only [*, decide_false]
theorem own_put {h₀ h : Heap} {X : List Cell} {M : List Ent} {e : Ent} (O : Own h₀ h (X ++ (e.cells ++ cellsM M))) : Own h₀ h (X ++ cellsM (put M e)) := by
  obtain ⟨Ψ, p, q⟩ := put_cells M e
  exact (O.perm (p.append_left X)).sub (q.append_left X)
/-- what the dicts of lines and keys tell -/
structure LK (w : World) (h : Heap) (sp : List Key) (dl dk : Addr) : Prop where
  out : ∃ kl kk, (∃ o, h.get? dl = some o ∧ dctP w kl o) ∧ (∃ o, h.get? dk = some o ∧ dctP w kk o) ∧ kl.map (·.1) = sp.map S ∧ kk.map (·.1) = sp.map S ∧
    ∀ k ∈ sp, ∃ a vs b ts, valueAt kl (S k) = some (.ref a) ∧ (∃ o, h.get? a = some o ∧ lstP vs o) ∧ StrsAre vs ((anc k).map S) ∧ valueAt kk (S k) = some (.ref b) ∧ (∃ o, h.get? b = some o ∧ tupP ts o) ∧ StrsAre ts (k.map nmF)
end
end
section
section
variable {w : World} {A : Around} {E : Value → Shared → Prop} {s : Shared}
theorem r_tadd1 {h₀ : Heap} {Φ : List Cell} {t b : Addr} {vs ws : List Value} {Q : Value → Shared → Prop} (O : Own h₀ s.heap ((t, tupP vs) :: Φ)) (hb : Has h₀ Φ b (tupP ws)) (hv : vs ≠ []) (hz : vs.length + ws.length ≤ 100000)
    (h : ∀ a s', Sm s s' → Own h₀ s'.heap ((a, tupP (vs ++ ws)) :: Φ) → Q (.ref a) s') : wpAny (model PR w) A (binaryOp .Add (.ref t) (.ref b)) Q E s := by
  refine r_tadd O (.cell List.mem_cons_self) (hb.mono fun p hp => List.mem_cons_of_mem _ hp) hv hz (fun hw => h t s Sm.rfl (by rw [hw, List.append_nil]; exact O)) fun _ a s' e O' => h a s' e (O'.pick (.take .head (.drop .refl)))
theorem take_snoc {α : Type} {p : List α} {m : Nat} (h : m < p.length) : ∃ c, p.take (p.length - m) = p.take (p.length - (m + 1)) ++ [c] ∧ p.drop (p.length - (m + 1)) = c :: p.drop (p.length - m) := by
  have hi : p.length - (m + 1) < p.length := by lia
  have e : p.length - m = p.length - (m + 1) + 1 := by lia
  refine ⟨p[p.length - (m + 1)], ?_, ?_⟩
  · rw [e, List.take_add_one]
    rw [List.getElem?_eq_getElem hi]; rfl
  · rw [e]; exact List.drop_eq_getElem_cons hi
theorem ins_len (sp : List Key) (x : Key) : (ins sp x).length ≤ sp.length + 1 := by unfold ins; split <;> simp
theorem fold_ins_len : ∀ (l sp : List Key), (l.foldl ins sp).length ≤ sp.length + l.length
  | [], sp => by simp
  | x :: l, sp => by
    have := fold_ins_len l (ins sp x)
    have h2 := ins_len sp x
    rw [List.foldl_cons, List.length_cons]; lia
theorem spots_len : ∀ (row sp : List Key), (∀ k ∈ row, Good k) → (row.foldl (fun sp p => (anc p).foldl ins sp) sp).length ≤ sp.length + 3 * row.length
  | [], sp, _ => by simp
  | x :: l, sp, h => by
    have := spots_len l ((anc x).foldl ins sp) fun k hk => h k (List.mem_cons_of_mem _ hk)
    have h2 := fold_ins_len (anc x) sp
    have h3 := (h x List.mem_cons_self).2
    rw [anc_len] at h2
    rw [List.foldl_cons, List.length_cons]; lia
theorem upTo_sub {n j : Nat} (h : j ≤ n) : upTo ((n : Int) - j) n = n - j := by unfold upTo; rw [if_neg (by lia)]; lia
theorem own_put2 {h₀ h : Heap} {X : List Cell} {M : List Ent} {k : Key} {a b : Addr} {vs ts : List Value} (O : Own h₀ h (X ++ ((a, lstP vs) :: (b, tupP ts) :: cellsM M))) : Own h₀ h (X ++ cellsM (put M ⟨k, a, vs, b, ts⟩)) := own_put (e := ⟨k, a, vs, b, ts⟩) O
theorem fn_law_lines (w : World) : FnOK w 211 (bodyAt 24) ["row", "lines", "keys", "place", "line", "key", "name", "k", "spot"] ["split", "enumerate", "len"] :=
  fnOK_of ⟨by kernel_rfl, by kernel_rfl, by kernel_rfl, by kernel_rfl, by kernel_rfl, by kernel_rfl, by kernel_rfl, by kernel_rfl, by kernel_rfl, by kernel_rfl⟩ (by kernel_rfl) (by kernel_rfl)
noncomputable abbrev llNm : List Str := ["row", "lines", "keys", "place", "line", "key", "name", "k", "spot"]
structure MOK (M : List Ent) (sp : List Key) : Prop where
  keys : M.map (·.k) = sp
  nd : sp.Nodup
  good : ∀ k ∈ sp, Good k
  ok : ∀ e ∈ M, StrsAre e.vs ((anc e.k).map S) ∧ StrsAre e.ts (e.k.map nmF)
theorem MOK.goodM {M : List Ent} {sp : List Key} (h : MOK M sp) : ∀ x ∈ M, Good x.k := fun x hx => h.good _ (h.keys ▸ List.mem_map.mpr ⟨x, hx, rfl⟩)
theorem MOK.put {M : List Ent} {sp : List Key} (h : MOK M sp) {e : Ent} (hg : Good e.k) (h1 : StrsAre e.vs ((anc e.k).map S)) (h2 : StrsAre e.ts (e.k.map nmF)) : MOK (Mine.put M e) (ins sp e.k) := by
  refine ⟨by rw [put_keys, h.keys], ins_nodup h.nd, ins_good h.good hg, fun x hx => ?_⟩
  rcases put_mem hx with rfl | hx
  · exact ⟨h1, h2⟩
  · exact h.ok x hx
theorem MOK.len {M : List Ent} {sp : List Key} (h : MOK M sp) (f : Ent → Addr) : (kvM f M).length = sp.length := by rw [← h.keys]; simp [kvM]
/-- the same, for any reading of the cells -/
structure LKG (w : World) (G : Addr → (Obj → Prop) → Prop) (sp : List Key) (dl dk : Addr) : Prop where
  out : ∃ kl kk, G dl (dctP w kl) ∧ G dk (dctP w kk) ∧ kl.map (·.1) = sp.map S ∧ kk.map (·.1) = sp.map S ∧
    ∀ k ∈ sp, ∃ a vs b ts, valueAt kl (S k) = some (.ref a) ∧ G a (lstP vs) ∧ StrsAre vs ((anc k).map S) ∧ valueAt kk (S k) = some (.ref b) ∧ G b (tupP ts) ∧ StrsAre ts (k.map nmF)
theorem LKG.lk {h : Heap} {sp : List Key} {dl dk : Addr} (H : LKG w (fun a P => ∃ o, h.get? a = some o ∧ P o) sp dl dk) : LK w h sp dl dk := ⟨H.out⟩
theorem law_lines_spec {l : Addr} {vs : List Value} {row : List Key} {Q : Value → Shared → Prop} (B : Base w s.heap) (R : Rm A 3) (hl : ∃ o, s.heap.get? l = some o ∧ lstP vs o) (hv : StrsAre vs (row.map S)) (hg : ∀ k ∈ row, Good k) (hz : row.length ≤ 100)
    (h : ∀ T dl dk X s', Sm s s' → Kp s.heap s'.heap → NS dl → NS dk → New s.heap s'.heap ((T, tupP [.ref dl, .ref dk]) :: X) → (∀ G : Addr → (Obj → Prop) → Prop, (∀ p ∈ X, G p.1 p.2) → LKG w G (spots row) dl dk) → Q (.ref T) s') :
    wpAny (model PR w) A (call (.ref 211) [.ref l]) Q E s := by
  refine enterF (fn_law_lines w) B (R.le (by decide)) [("row", .ref l)] ["lines", "keys", "place", "line", "key", "name", "k", "spot"] [some (.ref l), none, none, none, none, none, none, none, none] (by kernel_rfl) rfl rfl ?_
  intro L env s₁ e₁ V O hf
  have R1 : Rm (A.deeper env) 2 := R.deeper
  have hh := R1.hd
  -- lines, keys = ({}, {})
  refine r_seq rfl (r_swap2 V (by ktr_rel) (by ktr_rel) (R1.le (by decide)) (Tuple_ (r_arg (r_dict0 (B.keeps O.keep) O fun dl s₂ e₂ _ nsl _ O => r_arg (r_dict0 (B.keeps O.keep) O fun dk s₃ e₃ _ nsk _ O => r_args ?_)))))
  refine r_newTup O (fun tp s₄ e₄ _ _ O => (ei5 tp _ _ _ _ ⟨rfl, O, by ktr_rel, fun s₅ e₅ O => ?_⟩))
  refine r_st V O (by ktr_rel) (by ktr_rel) (by ktr_rel) ?_
  clear O; intro s₆ e₆ O
  refine r_st V O (by ktr_rel) (by ktr_rel) (by ktr_rel) ?_
  clear O; intro s₇ e₇ O
  replace O := O.pick (Φ' := [(L, locP llNm [some (.ref l), some (.ref dl), some (.ref dk), none, none, none, none, none, none]), (dl, dctP w []), (dk, dctP w [])]) (by ktr_rel)
  -- for place in row
  refine r_seq rfl (wpAny_For (r_ld V O (by ktr_rel) (by ktr_rel) ?_))
  refine r_for_list (l := l) (xs := vs) hh (fun i Φ => ∃ M a b c d e f, MOK M (spots (row.take i)) ∧ Φ = (L, locP llNm [some (.ref l), some (.ref dl), some (.ref dk), a, b, c, d, e, f]) :: (dl, dctP w (kvM (·.a) M)) :: (dk, dctP w (kvM (·.b) M)) :: cellsM M) O
    (ei7 [] _ _ _ _ _ _ ⟨⟨rfl, List.nodup_nil, (fun _ h => nomatch h), (fun _ h => nomatch h)⟩, rfl⟩) (fun i Φ _ _ => .base hl) ?_ ?_
  · intro i v Φ s₈ I P hi jz1 e₈ O
    refine hide fun Gz2 hGz2 => ?_
    refine ex7 jz1 fun M a b c d e f jx => ?_
    obtain ⟨hM, rfl⟩ := jx
    clear jz1
    refine hGz2 ?_
    refine hideT fun TT1 hTT1 => ?_
    obtain ⟨p, tp', rfl, hp⟩ : ∃ p t, v = .str (S p) t ∧ row[i]? = some p := by
      refine hide fun Gz3 hGz3 => ?_
      obtain ⟨y, t, rfl, hy⟩ := hv.item i v hi
      refine hGz3 ?_
      rw [List.getElem?_map] at hy
      obtain ⟨p, hp, rfl⟩ := Option.map_eq_some_iff.mp hy
      exact ⟨p, t, rfl, hp⟩
    have gp := hg p (List.mem_of_getElem? hp)
    have lp : p.length ≠ 0 := fun hz => gp.1 (List.length_eq_zero_iff.mp hz)
    refine r_st V O (by ktr_rel) (by ktr_rel) (by ktr_rel) ?_
    clear O; intro s₉ e₉ O
    -- line, key = ([], ())
    refine r_seq rfl (r_swap2 V (by ktr_rel) (by ktr_rel) (R1.le (by decide)) (Tuple_ (r_arg (List_ (r_args (r_newLst O fun ll s₁₀ e₁₀ _ _ O => r_arg (Tuple_ (r_args (r_newTup O fun t0 s₁₁ e₁₁ _ _ O => r_args ?_)))))))))
    refine r_newTup O (fun tq s₁₂ e₁₂ _ _ O => (ei5 tq _ _ _ _ ⟨rfl, O, by ktr_rel, fun s₁₃ e₁₃ O => ?_⟩))
    refine r_st V O (by ktr_rel) (by ktr_rel) (by ktr_rel) ?_
    clear O; intro s₁₄ e₁₄ O
    refine r_st V O (by ktr_rel) (by ktr_rel) (by ktr_rel) ?_
    clear O; intro s₁₅ e₁₅ O
    have ee : Sm s₇ s₁₅ := by ktr_rel
    -- while place != '/'
    refine r_seq rfl (r_while (fun n s' => ∃ m tkey lvs kts tt nm' kk' sp', n = p.length - m ∧ m ≤ p.length ∧ Sm s₁₅ s' ∧ StrsAre lvs (((anc p).take m).map S) ∧ StrsAre kts ((p.drop (p.length - m)).map nmF) ∧
      Own s.heap s'.heap ((tkey, tupP kts) :: (ll, lstP lvs) :: (L, locP llNm [some (.ref l), some (.ref dl), some (.ref dk), some (.str (S (p.take (p.length - m))) tt), some (.ref ll), some (.ref tkey), nm', kk', sp']) :: (I, P) :: (dl, dctP w (kvM (·.a) M)) :: (dk, dctP w (kvM (·.b) M)) :: cellsM M)) p.length ?_ ?_)
    · have hpp : p.take (p.length - 0) = p := by simp
      refine ei8 0 t0 [] [] tp' d e f ⟨rfl, Nat.zero_le _, Sm.rfl, .nil, by simpa using StrsAre.nil, ?_⟩
      rw [hpp]
      exact O.pick (by ktr_rel)
    · intro n s' jz4
      refine hide fun Gz5 hGz5 => ?_
      refine ex8 jz4 fun m tkey lvs kts tt nm' kk' sp' jx => ?_
      refine an6 jx fun jr0 hm eW hlv hkt O => ?_
      clear jx jz4
      subst jr0
      refine hGz5 ?_
      refine wpAny_isTrue_Compare1 (r_ld V O (by ktr_rel) (by ktr_rel) (wpAny_Constant_str (PyProof.Rows.ne_str (truth_bool ?_))))
      have hl3 : (p.take (p.length - m)).length ≤ 3 := by rw [List.length_take]; have := gp.2; lia
      rw [S_root hl3]
      have llv : lvs.length = m := by rw [hlv.length]; simp [anc_len]; lia
      have lkt : kts.length = m := by rw [hkt.length]; simp; lia
      have gp2 := gp.2
      by_cases hlt : m < p.length
      · have hne : p.take (p.length - m) ≠ [] := fun e => by have := congrArg List.length e; rw [List.length_take, List.length_nil] at this; lia
        rw [decide_eq_true hne, if_pos rfl]
        refine r_gen O ?_
        clear O; intro s₁₆ e₁₆ O
        obtain ⟨c, hc1, hc2⟩ := take_snoc hlt
        -- line.append(place)
        refine r_seq rfl (r_append V (r_ld V O (by ktr_rel) (by ktr_rel) (ei2 ll lvs ⟨rfl, O.get (by ktr_rel), r_ld V O (by ktr_rel) (by ktr_rel) (ei4 _ _ _ lvs ⟨O, by ktr_rel, by lia, by ktr_rel, ?_⟩)⟩)))
        clear O; intro s₁₇ e₁₇ O
        -- place, name = split(place)
        refine r_seq rfl (Assign_Tuple (r_call (r_glob V (B.keeps O.keep) (by ktr_rel) (by ktr_rel) (r_fn (fn_split w).FA (B.keeps O.keep) (r_arg (r_ld V O (by ktr_rel) (by ktr_rel) (r_args ⟨B.keeps O.keep, ?_⟩)))))))
        refine split_spec (B.keeps O.keep) (R1.le (by decide)) (Nat.le_trans (S_len _ hl3) (by decide)) fun ta t₁ t₂ s₁₈ e₁₈ k₁₈ N₁₈ => ?_
        replace O := O.new k₁₈ N₁₈
        have hq : (p.take (p.length - (m + 1))).length ≤ 2 := by rw [List.length_take]; lia
        have hsp := split_S (c := c) hq
        rw [hc1, hsp.1, hsp.2] at O
        dsimp only [List.cons_append, List.nil_append] at O
        refine r_pair hh O (.cell (by ktr_rel)) ?_
        clear O; intro s₁₉ e₁₉ O
        refine r_st V O (by ktr_rel) (by ktr_rel) (by ktr_rel) ?_
        clear O; intro s₂₀ e₂₀ O
        refine r_st V O (by ktr_rel) (by ktr_rel) (by ktr_rel) ?_
        clear O; intro s₂₁ e₂₁ O
        -- key = (name,) + key
        refine r_seq rfl (wpAny_Assign_Name (wpAny_BinOp (Tuple_ (r_arg (r_ld V O (by ktr_rel) (by ktr_rel) (r_args ?_))))))
        refine r_newTup O (fun tn s₂₂ e₂₂ _ _ O => r_ld V O (by ktr_rel) (by ktr_rel) ?_)
        refine r_tadd1 O (.cell (by ktr_rel)) (by simp) (by simp; lia) ?_
        clear O; intro a₁ s₂₃ e₂₃ O
        refine r_st V O (by ktr_rel) (by ktr_rel) (by ktr_rel) ?_
        clear O; intro s₂₄ e₂₄ O
        refine r_nil ⟨p.length - (m + 1), by lia, ei8 (m + 1) a₁ _ _ t₁ (some (.str (nmF c) t₂)) kk' sp' ⟨rfl, hlt, by ktr_rel, ?_, ?_, O.pick (by ktr_rel)⟩⟩
        · rw [anc_take_succ hlt, List.map_append, hc1]; exact kct_snoc hlv
        · rw [hc2]; exact .cons _ _ hkt
      · have hm' : m = p.length := by lia
        subst hm'
        have h0 : p.length - p.length = 0 := by lia
        rw [h0, List.take_zero, decide_eq_false (by simp), if_neg (by simp)]
        rw [h0, List.take_zero] at O
        rw [h0, List.drop_zero] at hkt
        rw [List.take_of_length_le (by rw [anc_len]; exact Nat.le_refl _)] at hlv
        refine r_gen O ?_
        clear O; intro s₁₆ e₁₆ O
        have eV : Sm s₇ s₁₆ := by ktr_rel
        -- for k, spot in enumerate(line)
        refine r_seq rfl (wpAny_For (r_call (r_boot V (B.keeps O.keep) (by ktr_rel) (by ktr_rel) (r_ty (r_arg (r_ld V O (by ktr_rel) (by ktr_rel) (r_args ?_)))))))
        refine r_enum_list O (.cell (by ktr_rel)) fun en it s₁₇ e₁₇ O => self_enum O ?_
        replace O := O.pick (Φ' := (en, enP it 0) :: (it, litP ll 0) :: (ll, lstP lvs) :: (L, locP llNm [some (.ref l), some (.ref dl), some (.ref dk), some (.str (S []) tt), some (.ref ll), some (.ref tkey), nm', kk', sp']) :: (I, P) :: (dl, dctP w (kvM (·.a) M)) :: (dk, dctP w (kvM (·.b) M)) :: ([(tkey, tupP kts)] ++ cellsM M)) (by show Pick _ (_ :: _ :: _ :: _ :: _ :: _ :: _ :: _ :: cellsM M); ktr_rel)
        refine r_forT (iter_enum_list (xs := lvs) hh (has_ne O.drop (.cell (by ktr_rel)))) (fun j Φ => ∃ M' kk' sp' X, MOK M' (((anc p).take j).foldl ins (spots (row.take i))) ∧
          (X = [(tkey, tupP kts)] ∨ X = [] ∧ j ≠ 0 ∧ ∃ x ∈ M', x.k = p ∧ x.b = tkey ∧ x.ts = kts) ∧
          Φ = (ll, lstP lvs) :: (L, locP llNm [some (.ref l), some (.ref dl), some (.ref dk), some (.str (S []) tt), some (.ref ll), some (.ref tkey), nm', kk', sp']) :: (I, P) :: (dl, dctP w (kvM (·.a) M')) :: (dk, dctP w (kvM (·.b) M')) :: (X ++ cellsM M')) O ?_ ?_ ?_ ?_
        · exact ei4 M kk' sp' _ ⟨hM, .inl rfl, rfl⟩
        · intro j Φ _ jy0
          refine ex4 jy0 fun M' kk' sp' X jx0 => an3 jx0 fun _ _ jr02 => ?_
          clear jx0 jy0
          subst jr02
          exact .cell (by ktr_rel)
        · intro j v Ψ Φ s₁₈ hj jz6 jz7 e₁₈ O
          refine hide fun Gz8 hGz8 => ?_
          refine ex4 jz6 fun M' kk' sp' X jx => ?_
          refine an3 jx fun hM' hX jr2 => ?_
          clear jx jz6
          subst jr2
          refine ex3 jz7 fun T tj x jx => ?_
          refine an3 jx fun hx jr1 jr2 => ?_
          clear jx jz7
          subst jr1
          subst jr2
          refine hGz8 ?_
          refine hideT fun TT2 hTT2 => ?_
          rw [llv] at hj
          refine hide fun Gz9 hGz9 => ?_
          obtain ⟨y, tx, rfl, hy⟩ := hlv.item j x hx
          refine hGz9 ?_
          rw [List.getElem?_map, anc_at hj] at hy
          obtain rfl : S (p.take (p.length - j)) = y := Option.some.inj hy
          have lq : (p.take (p.length - j)).length = p.length - j := by rw [List.length_take]; lia
          have gq : Good (p.take (p.length - j)) := ⟨fun e => by have := congrArg List.length e; rw [lq, List.length_nil] at this; lia, by rw [lq]; lia⟩
          have hlen : (((anc p).take j).foldl ins (spots (row.take i))).length ≤ 400 := by
            have h1 := fold_ins_len ((anc p).take j) (spots (row.take i))
            have h2 := spots_len (row.take i) [] fun k hk => hg k (List.mem_of_mem_take hk)
            have h3 : ((anc p).take j).length ≤ 3 := by rw [List.length_take, anc_len]; lia
            have h4 : (row.take i).length ≤ 100 := by rw [List.length_take]; lia
            simp only [List.length_nil] at h2
            have h5 : (spots (row.take i)).length ≤ 300 := by unfold spots; lia
            lia
          have hmX : (tkey, tupP kts) ∈ X ++ cellsM M' := by
            rcases hX with rfl | ⟨rfl, _, x, hx, _, hb, ht⟩
            · exact List.mem_cons_self
            · exact List.mem_flatMap.mpr ⟨x, hx, by rw [← hb, ← ht]; exact List.mem_cons_of_mem _ List.mem_cons_self⟩
          dsimp only [List.cons_append, List.nil_append] at O
          refine r_pair hh O (.cell (by ktr_rel)) ?_
          clear O; intro s₁₉ e₁₉ O
          refine r_st V O (by ktr_rel) (by ktr_rel) (by ktr_rel) ?_
          clear O; intro s₂₀ e₂₀ O
          refine r_st V O (by ktr_rel) (by ktr_rel) (by ktr_rel) ?_
          clear O; intro s₂₁ e₂₁ O
          -- lines[spot] = line[k:]
          refine r_seq rfl (wpAny_Assign_Subscript (Subscript_ (r_ld V O (by ktr_rel) (by ktr_rel) (wpAny_Slice (r_part (r_ld V O (by ktr_rel) (by ktr_rel) (r_part_none (r_part_none ?_))))))))
          refine r_lslice O (.cell (by ktr_rel)) (.int _ _) .none (by lia) ?_
          clear O; intro la s₂₂ e₂₂ O
          refine r_ld V O (by ktr_rel) (by ktr_rel) (r_ld V O (by ktr_rel) (by ktr_rel) ?_)
          refine r_set O (by ktr_rel) (by rw [hM'.len]; lia) (by ktr_rel) ?_
          clear O; intro s₂₃ e₂₃ O
          -- keys[spot] = key[:len(key) - k]
          refine r_seq rfl (wpAny_Assign_Subscript (Subscript_ (r_ld V O (by ktr_rel) (by ktr_rel) (wpAny_Slice (r_part_none (r_part (wpAny_BinOp (r_call (r_boot V (B.keeps O.keep) (by ktr_rel) (by ktr_rel) (r_bi (r_arg (r_ld V O (by ktr_rel) (by ktr_rel) (r_args ?_)))))))))))))
          refine r_tlen O (.cell (by ktr_rel)) (by lia) ?_
          clear O; intro tl s₂₄ e₂₄ O
          refine r_ld V O (by ktr_rel) (by ktr_rel) (PyProof.Rows.sub_int (r_gen O ?_))
          clear O; intro s₂₅ e₂₅ O
          refine r_part_none ?_
          have hup : upTo ((kts.length : Int) - j) kts.length = p.length - j := by rw [lkt, upTo_sub (Nat.le_of_lt hj)]
          have hsl := slice_strs_from hlv (x := (j : Int)) (by lia) (by rw [List.length_map, anc_len]; lia)
          rw [Int.toNat_natCast, ← List.map_drop, anc_drop (Nat.le_of_lt hj)] at hsl
          have hnext : ((anc p).take (j + 1)).foldl ins (spots (row.take i)) = ins (((anc p).take j).foldl ins (spots (row.take i))) (p.take (p.length - j)) := by rw [anc_take_succ hj, List.foldl_append]; rfl
          have eF : Sm s₁₇ s₂₅ := by ktr_rel
          refine r_tslice O (.cell (by ktr_rel)) (by lia) ?_ ?_
          · intro hwh s₂₆ e₂₆ O
            have hj0 : j = 0 := by rw [hup, lkt] at hwh; lia
            subst hj0
            refine r_ld V O (by ktr_rel) (by ktr_rel) (r_ld V O (by ktr_rel) (by ktr_rel) ?_)
            refine r_set O (by ktr_rel) (by rw [hM'.len]; lia) (by ktr_rel) ?_
            clear O; intro s₂₇ e₂₇ O
            rcases hX with rfl | ⟨_, h0, _⟩
            · have hp0 : p.take (p.length - 0) = p := by simp
              rw [hp0] at O gq hsl hnext
              have hM₂ := hM'.put (e := ⟨p, la, _, tkey, kts⟩) gq hsl hkt
              rw [← hnext] at hM₂
              rw [← put_kv (f := fun x => x.a) (e := ⟨p, la, (slicePick lvs.toArray (some ((0 : Nat) : Int)) none none).toList, tkey, kts⟩) hM'.goodM gq (by rw [hM'.keys]; exact hM'.nd),
                ← put_kv (f := fun x => x.b) (e := ⟨p, la, (slicePick lvs.toArray (some ((0 : Nat) : Int)) none none).toList, tkey, kts⟩) hM'.goodM gq (by rw [hM'.keys]; exact hM'.nd)] at O
              refine r_nil (hTT2 _ _ ?_)
              refine Turn.next ((ll, lstP lvs) :: (L, locP llNm [some (.ref l), some (.ref dl), some (.ref dk), some (.str (S []) tt), some (.ref ll), some (.ref tkey), nm', some (.int ((0 : Nat) : Int) tj), some (.str (S p) tx)]) :: (I, P) :: (dl, dctP w (kvM (·.a) (put M' ⟨p, la, (slicePick lvs.toArray (some ((0 : Nat) : Int)) none none).toList, tkey, kts⟩))) :: (dk, dctP w (kvM (·.b) (put M' ⟨p, la, (slicePick lvs.toArray (some ((0 : Nat) : Int)) none none).toList, tkey, kts⟩))) :: ([] ++ cellsM (put M' ⟨p, la, (slicePick lvs.toArray (some ((0 : Nat) : Int)) none none).toList, tkey, kts⟩))) (by ktr_rel) ?_ (ei4 _ _ _ [] ⟨hM₂, .inr ⟨rfl, by lia, _, put_self, rfl, rfl, rfl⟩, rfl⟩)
              refine own_put2 (X := [(en, _), (it, _), (ll, _), (L, _), (I, _), (dl, _), (dk, _)]) ?_
              dsimp only [List.cons_append, List.nil_append] at O ⊢
              exact O.pick (by ktr_rel)
            · exact absurd rfl h0
          · intro hwh bk s₂₆ e₂₆ O
            have hj0 : j ≠ 0 := fun h => hwh (by rw [hup, lkt, h]; rfl)
            rw [hup] at O
            refine r_ld V O (by ktr_rel) (by ktr_rel) (r_ld V O (by ktr_rel) (by ktr_rel) ?_)
            refine r_set O (by ktr_rel) (by rw [hM'.len]; lia) (by ktr_rel) ?_
            clear O; intro s₂₇ e₂₇ O
            have hkt' := hkt.take' (p.length - j)
            rw [← List.map_take] at hkt'
            have hM₂ := hM'.put (e := ⟨p.take (p.length - j), la, _, bk, kts.take (p.length - j)⟩) gq hsl hkt'
            rw [← hnext] at hM₂
            rw [← put_kv (f := fun x => x.a) (e := ⟨p.take (p.length - j), la, (slicePick lvs.toArray (some (j : Int)) none none).toList, bk, kts.take (p.length - j)⟩) hM'.goodM gq (by rw [hM'.keys]; exact hM'.nd),
              ← put_kv (f := fun x => x.b) (e := ⟨p.take (p.length - j), la, (slicePick lvs.toArray (some (j : Int)) none none).toList, bk, kts.take (p.length - j)⟩) hM'.goodM gq (by rw [hM'.keys]; exact hM'.nd)] at O
            refine r_nil (hTT2 _ _ ?_)
            refine Turn.next ((ll, lstP lvs) :: (L, locP llNm [some (.ref l), some (.ref dl), some (.ref dk), some (.str (S []) tt), some (.ref ll), some (.ref tkey), nm', some (.int (j : Int) tj), some (.str (S (p.take (p.length - j))) tx)]) :: (I, P) :: (dl, dctP w (kvM (·.a) (put M' ⟨p.take (p.length - j), la, (slicePick lvs.toArray (some (j : Int)) none none).toList, bk, kts.take (p.length - j)⟩))) :: (dk, dctP w (kvM (·.b) (put M' ⟨p.take (p.length - j), la, (slicePick lvs.toArray (some (j : Int)) none none).toList, bk, kts.take (p.length - j)⟩))) :: (X ++ cellsM (put M' ⟨p.take (p.length - j), la, (slicePick lvs.toArray (some (j : Int)) none none).toList, bk, kts.take (p.length - j)⟩))) (by ktr_rel) ?_ (ei4 _ _ _ X ⟨hM₂, ?_, rfl⟩)
            · rcases hX with rfl | ⟨rfl, _⟩
              · refine own_put2 (X := [(en, _), (it, _), (ll, _), (L, _), (I, _), (dl, _), (dk, _), (tkey, _)]) ?_
                dsimp only [List.cons_append, List.nil_append] at O ⊢
                exact O.pick (by ktr_rel)
              · refine own_put2 (X := [(en, _), (it, _), (ll, _), (L, _), (I, _), (dl, _), (dk, _)]) ?_
                dsimp only [List.cons_append, List.nil_append] at O ⊢
                exact O.pick (by ktr_rel)
            · rcases hX with rfl | ⟨rfl, _, x, hx, hk, hb, ht⟩
              · exact .inl rfl
              · refine .inr ⟨rfl, by lia, x, put_keep hx ?_, hk, hb, ht⟩
                rw [hk]
                intro e
                have := congrArg List.length e
                rw [lq] at this
                lia
        · intro Φ s₁₈ jz10 e₁₈ O
          refine hide fun Gz11 hGz11 => ?_
          refine ex4 jz10 fun M' kk' sp' X jx => ?_
          refine an3 jx fun hM' hX jr2 => ?_
          clear jx jz10
          subst jr2
          refine hGz11 ?_
          have hA : (anc p).take p.length = anc p := List.take_of_length_le (by rw [anc_len]; exact Nat.le_refl _)
          rw [llv, hA] at hM'
          have hsp : (anc p).foldl ins (spots (row.take i)) = spots (row.take (i + 1)) := by
            unfold spots
            rw [List.take_add_one, hp, List.foldl_append]; rfl
          rw [hsp] at hM'
          refine r_nil (hTT1 _ _ ?_)
          refine Turn.next ((L, locP llNm [some (.ref l), some (.ref dl), some (.ref dk), some (.str (S []) tt), some (.ref ll), some (.ref tkey), nm', kk', sp']) :: (dl, dctP w (kvM (·.a) M')) :: (dk, dctP w (kvM (·.b) M')) :: cellsM M') (by ktr_rel) ?_ (ei7 M' _ _ _ _ _ _ ⟨hM', rfl⟩)
          rcases hX with rfl | ⟨rfl, _⟩
          · exact O.pick (by show Pick (_ :: _ :: _ :: _ :: _ :: _ :: cellsM M') (_ :: _ :: _ :: _ :: cellsM M'); ktr_rel)
          · exact O.pick (by show Pick (_ :: _ :: _ :: _ :: _ :: cellsM M') (_ :: _ :: _ :: _ :: cellsM M'); ktr_rel)
  · intro Φ s₈ jz12 e₈ O₈
    refine hide fun Gz13 hGz13 => ?_
    refine ex7 jz12 fun M a b c d e f jx => ?_
    obtain ⟨hM, rfl⟩ := jx
    clear jz12
    refine hGz13 ?_
    have hlen : vs.length = row.length := by rw [hv.length]; simp
    rw [hlen, List.take_length] at hM
    refine r_seq rfl (wpAny_Return_some (Tuple_ (r_arg (r_ld V O₈ (by ktr_rel) (by ktr_rel) (r_arg (r_ld V O₈ (by ktr_rel) (by ktr_rel) (r_args ?_)))))))
    refine r_newTup O₈ (fun T s₉ e₉ _ _ O => ?_)
    refine h T dl dk ((dl, dctP w (kvM (·.a) M)) :: (dk, dctP w (kvM (·.b) M)) :: cellsM M) _ (by ktr_rel) O.keep nsl nsk (O.pick (.take .head (.drop .refl))).toNew fun G hX => ?_
    refine ⟨_, _, hX _ List.mem_cons_self, hX _ (List.mem_cons_of_mem _ List.mem_cons_self), by rw [kv_keys, hM.keys], by rw [kv_keys, hM.keys], fun k hk => ?_⟩
    rw [← hM.keys] at hk
    obtain ⟨x, hx, rfl⟩ := List.mem_map.mp hk
    have nd := hM.nd
    rw [← hM.keys] at nd
    have hc : ∀ p ∈ x.cells, G p.1 p.2 := fun p hp => hX p (List.mem_cons_of_mem _ (List.mem_cons_of_mem _ (List.mem_flatMap.mpr ⟨x, hx, hp⟩)))
    exact ei4 x.a x.vs x.b x.ts ⟨kv_at hM.goodM nd hx, hc _ List.mem_cons_self, (hM.ok x hx).1, kv_at hM.goodM nd hx, hc _ (List.mem_cons_of_mem _ List.mem_cons_self), (hM.ok x hx).2⟩
end
end
section
section
variable {w : World} {A : Around} {E : Value → Shared → Prop} {s : Shared} {h₀ : Heap} {Φ Φ' Y : List Cell}
open PySem.SeqAt
theorem fn_tells (w : World) : FnOKc w 216 (bodyAt 25) ["flags", "line", "key", "taken", "told", "shut"] ["rooms"] ["Flags", "bool"] :=
  ⟨⟨by kernel_rfl, by kernel_rfl, by kernel_rfl, by kernel_rfl, by kernel_rfl, by kernel_rfl, by kernel_rfl, by kernel_rfl, by kernel_rfl, by kernel_rfl⟩, by kernel_rfl, by kernel_rfl, by decide, by kernel_rfl⟩
theorem cs_cons {cs : List (Str × Addr)} {x : Str} {l : List Str} (h : cs.map (·.1) = x :: l) : ∃ c r, cs = (x, c) :: r ∧ r.map (·.1) = l := by
  cases cs with
  | nil => cases h
  | cons p r =>
    rw [List.map_cons] at h
    injection h with h1 h2
    exact ⟨p.2, r, by rw [← h1], h2⟩
theorem len_cons {α : Type} {l : List α} {n : Nat} (h : l.length = n + 1) : ∃ a r, l = a :: r ∧ r.length = n := by
  cases l with
  | nil => cases h
  | cons a r => exact ⟨a, r, rfl, Nat.succ.inj h⟩
theorem cs_one {cs : List (Str × Addr)} {x : Str} (h : cs.map (·.1) = [x]) : ∃ c, cs = [(x, c)] := by
  match cs, h with
  | [(y, c)], h => exact ⟨c, by simp at h; rw [h]⟩
theorem cs_nil {cs : List (Str × Addr)} (h : cs.map (·.1) = []) : cs = [] := by
  match cs, h with
  | [], _ => rfl
/-- a dict of rooms, in a heap -/
structure RoomsD (w : World) (h : Heap) (d : Addr) (f : Key → Int) (kvs : List (Str × Value)) : Prop where
  q : QD f 12 kvs
  o : ∃ o, h.get? d = some o ∧ dctP w kvs o
  ns : NS d
theorem qKeys_take : qKeys.take 12 = qKeys := rfl
theorem QD.at {f : Key → Int} {kvs : List (Str × Value)} (h : QD f 12 kvs) {k : Key} (hk : k ∈ qKeys) : ∃ t, valueAt kvs (S k) = some (.int (f k) t) := h.val k (by rw [qKeys_take]; exact hk)
theorem valueAt_none {kvs : List (Str × Value)} {x : Str} (h : x ∉ kvs.map (·.1)) : valueAt kvs x = none := by
  unfold valueAt
  rw [Option.map_eq_none_iff, List.find?_eq_none]
  intro p hp e
  exact h (List.mem_map.mpr ⟨p, hp, of_decide_eq_true e⟩)
theorem qKeys_good : ∀ k ∈ qKeys, Good k := by decide +kernel
theorem QD.none {f : Key → Int} {kvs : List (Str × Value)} (h : QD f 12 kvs) {k : Key} (hk : k ∉ qKeys) (hg : k.length ≤ 3) : valueAt kvs (S k) = Option.none := by
  refine valueAt_none fun hm => ?_
  rw [h.keys, qKeys_take] at hm
  obtain ⟨k', hk', e⟩ := List.mem_map.mp hm
  exact hk (S_inj (qKeys_good k' hk').2 hg e ▸ hk')
/-- the spot k has no room left -/
noncomputable def full0 (f : Key → Int) (k : Key) : Bool := decide (k ∈ qKeys) && (f k == 0)
noncomputable def shutB (f : Key → Int) (k : Key) : Bool := (anc k).any (full0 f)
theorem anc_good {k q : Key} (hg : Good k) (h : q ∈ anc k) : Good q := by
  obtain ⟨j, hj, rfl⟩ := List.mem_map.mp h
  have hj := List.mem_range.mp hj
  have hl : (k.take (k.length - j)).length = k.length - j := by rw [List.length_take]; lia
  refine ⟨fun e => ?_, by rw [hl]; have := hg.2; lia⟩
  have := congrArg List.length e
  rw [hl, List.length_nil] at this; lia
/-- rooms.get(spot) == 0 -/
theorem r_full {f : Key → Int} {kvs : List (Str × Value)} {q : Key} {t : Tok} {Q : Value → Shared → Prop} (hq : QD f 12 kvs) (hg : q.length ≤ 3) (O : Own h₀ s.heap Φ) (h : ∀ s', Sm s s' → Own h₀ s'.heap Φ → Q (.bool (full0 f q)) s') :
    wpAny (model PR w) A (compareOp .Eq ((valueAt kvs (S q)).getD .none) (.int 0 t)) Q E s := by
  by_cases hk : q ∈ qKeys
  · obtain ⟨u, e⟩ := hq.at hk
    rw [e]
    have := h s Sm.rfl O
    unfold full0 at this
    rw [decide_eq_true hk, Bool.true_and] at this
    exact r_rc (RcAt.int_int _ _ _ _) this
  · rw [hq.none hk hg]
    have := h s Sm.rfl O
    unfold full0 at this
    rw [decide_eq_false hk, Bool.false_and] at this
    exact r_rc (RcAt.none_int _ _) this
noncomputable abbrev tlNm : List Str := ["flags", "line", "key", "taken", "told", "shut"]
theorem any_S {T : List Key} {k : Key} (hT : ∀ q ∈ T, Good q) (hk : k.length ≤ 3) : ((T.map S).any fun x => x == S k) = decide (k ∈ T) := by
  rw [Bool.eq_iff_iff, List.any_map, List.any_eq_true, decide_eq_true_eq]
  constructor
  · rintro ⟨q, hq, e⟩
    exact S_inj (hT q hq).2 hk (by simpa using e) ▸ hq
  · intro h; exact ⟨k, h, by simp⟩
theorem law_tells_spec {x dx c0 p0 tk ll dr lt : Addr} {M : List Nd} {k : Key} {T : List Key} {f : Key → Int} {ts ls tv : List Value} {kvs : List (Str × Value)} {Q : Value → Shared → Prop} (B : Base w s.heap) (R : Rm A 4)
    (TT : TR w s.heap x dx c0 p0 M) (hk : ∃ o, s.heap.get? tk = some o ∧ tupP ts o) (ht : StrsAre ts (k.map nmF)) (hg : Good k) (hl : ∃ o, s.heap.get? ll = some o ∧ lstP ls o) (hls : StrsAre ls ((anc k).map S)) (hr : RoomsD w s.heap dr f kvs)
    (htk : ∃ o, s.heap.get? lt = some o ∧ lstP tv o) (htv : StrsAre tv (T.map S)) (hT : ∀ q ∈ T, Good q)
    (h : ∀ s', Sm s s' → Kp s.heap s'.heap → Q (.bool (isF M k 0 == shutB f k && isF M k 1 == decide (k ∈ T))) s') :
    wpAny (model PR w) A (call (.ref 216) [.ref x, .ref ll, .ref tk, .ref dr, .ref lt]) Q E s := by
  refine enterC (fn_tells w) B (R.le (by decide)) [("flags", .ref x), ("line", .ref ll), ("key", .ref tk), ("rooms", .ref dr), ("taken", .ref lt)] (by kernel_rfl) ?_
  intro L env s₁ cs e₁ hcs V hck O hf
  obtain ⟨c, rfl⟩ := cs_one hcs
  have R1 : Rm (A.deeper env) 3 := R.deeper
  have hh := R1.hd
  replace O : Own s.heap s₁.heap [(c, celP none), (L, locP tlNm [none, none, none, none, none, none])] := O
  refine r_st V O (by ktr_rel) (by ktr_rel) (by ktr_rel) ?_
  clear O; intro s₂ e₂ O
  refine r_st V O (by ktr_rel) (by ktr_rel) (by ktr_rel) ?_
  clear O; intro s₃ e₃ O
  refine r_st V O (by ktr_rel) (by ktr_rel) (by ktr_rel) ?_
  clear O; intro s₄ e₄ O
  refine r_stc V (hck "rooms" (by ktr_rel)) O (by ktr_rel) (by ktr_rel) (by ktr_rel) ?_
  clear O; intro s₅ e₅ O
  refine r_st V O (by ktr_rel) (by ktr_rel) (by ktr_rel) ?_
  clear O; intro s₆ e₆ O
  refine ⟨B.keeps O.keep, ?_⟩
  -- told = [..]
  refine r_seq rfl (wpAny_Assign_Name (List_ (r_arg (r_icall (r_ld V O (by ktr_rel) (by ktr_rel) fun pl => r_imethod (B.keeps O.keep) (TT.keeps O.keep).fi (map_mem (n72s w) ("is_", .ref 70) (by ktr_rel)) (fn_is w).FA.isd ⟨_, rfl, rfl⟩ ob_is (inst0_is _ _) ?_)))))
  refine r_fnk (kws := []) (fn_is w).FA (r_arg (r_ld V O (by ktr_rel) (by ktr_rel) (r_arg (Attribute_Name_ (r_glob V (B.keeps O.keep) (by ktr_rel) (by ktr_rel) (r_frozen (B.keeps O.keep) fun t₁ s₇ e₇ h₇ => r_args (wpAny_pure ⟨h₇ ▸ B.keeps O.keep, ?_⟩)))))))
  replace O : Own s.heap s₇.heap _ := h₇ ▸ O
  have hbase : ∀ {P : Obj → Prop} {a : Addr} {s' : Shared}, Kp s.heap s'.heap → (∃ o, s.heap.get? a = some o ∧ P o) → ∃ o, s'.heap.get? a = some o ∧ P o := fun k ⟨o, a, b⟩ => ⟨o, k _ _ a, b⟩
  refine is_spec (B.keeps O.keep) (R1.le (by decide)) (TT.keeps O.keep) (hbase O.keep hk) ht hg.2 (.inl rfl) fun s₈ e₈ k₈ => ?_
  replace O := O.kp k₈
  refine r_arg (r_icall (r_ld V O (by ktr_rel) (by ktr_rel) fun pl => r_imethod (B.keeps O.keep) (TT.keeps O.keep).fi (map_mem (n72s w) ("is_", .ref 70) (by ktr_rel)) (fn_is w).FA.isd ⟨_, rfl, rfl⟩ ob_is (inst0_is _ _) ?_))
  refine r_fnk (kws := []) (fn_is w).FA (r_arg (r_ld V O (by ktr_rel) (by ktr_rel) (r_arg (Attribute_Name_ (r_glob V (B.keeps O.keep) (by ktr_rel) (by ktr_rel) (r_explicit (B.keeps O.keep) fun t₂ s₉ e₉ h₉ => r_args (wpAny_pure ⟨h₉ ▸ B.keeps O.keep, ?_⟩)))))))
  replace O : Own s.heap s₉.heap _ := h₉ ▸ O
  refine is_spec (B.keeps O.keep) (R1.le (by decide)) (TT.keeps O.keep) (hbase O.keep hk) ht hg.2 (.inr rfl) fun s₁₀ e₁₀ k₁₀ => ?_
  replace O := O.kp k₁₀
  refine r_args (r_newLst O ?_)
  clear O; intro ld s₁₁ e₁₁ _ _ O
  refine r_st V O (by ktr_rel) (by ktr_rel) (by ktr_rel) ?_
  clear O; intro s₁₂ e₁₂ O
  -- shut = [..] != []
  refine r_seq rfl (wpAny_Assign_Name (wpAny_Compare1 (r_lc V (blkOK_of (nm := ["spot"]) (cn := []) (fn := ["rooms"]) (gl := []) (by kernel_rfl)) (cl' := [("rooms", c)]) rfl (fun p hp => by rw [List.mem_singleton.mp hp]; exact List.mem_cons_self) (r_ld V O (by ktr_rel) (by ktr_rel) (r_it_list O (.base hl) ?_)))))
  clear O; intro I s₁₃ e₁₃ O
  have lls : ls.length = k.length := by rw [hls.length]; simp [anc_len]
  have hgl := hg.2
  refine lc_block V (blkOK_of (nm := ["spot"]) (cn := []) (fn := ["rooms"]) (gl := []) (by kernel_rfl)) rfl ((iter_list (l := ll) (xs := ls) hh).toT self_list) (by lia)
    (fun C cs i ys Φ => ∃ v0, ys.isEmpty = (!((anc k).take i).any (full0 f)) ∧ Φ = (C, locP ["spot"] [v0]) :: [(ld, lstP [.bool (isF M k 0), .bool (isF M k 1)]), (c, celP (some (.ref dr))), (L, locP tlNm [some (.ref x), some (.ref ll), some (.ref tk), some (.ref lt), some (.ref ld), none])]) (Φ := [(ld, lstP [.bool (isF M k 0), .bool (isF M k 1)]), (c, celP (some (.ref dr))), (L, locP tlNm [some (.ref x), some (.ref ll), some (.ref tk), some (.ref lt), some (.ref ld), none])]) (O.pick (by ktr_rel)) ?_ ?_ ?_ ?_
  · intro C cs hcs
    obtain rfl := cs_nil hcs
    exact ⟨_, by simp, rfl⟩
  · rintro C cs D i ys Φ _ ⟨v0, _, rfl⟩; exact .base hl
  · rintro C cs D cenv V' hck' hfr hcs i v Ψ ys Φ s₁₄ hi ⟨v0, hys, rfl⟩ ⟨hv, rfl⟩ e₁₄ O
    obtain rfl := cs_nil hcs
    have hik : i < k.length := by rw [lls] at hi; exact hi
    obtain ⟨y, tx, rfl, hy⟩ := hls.item i v hv
    rw [List.getElem?_map, anc_at hik] at hy
    obtain rfl : S (k.take (k.length - i)) = y := Option.some.inj hy
    have hgq : Good (k.take (k.length - i)) := anc_good hg (List.mem_of_getElem? (anc_at hik))
    dsimp only [List.cons_append, List.nil_append] at O V'
    refine PyProof.Rows.assign_Name (r_st V' O (by ktr_rel) (by ktr_rel) (by ktr_rel) ?_)
    clear O; intro s₁₅ e₁₅ O
    refine r_t1 (wpAny_isTrue_Compare1 (r_dget (r_ldc V' O (by ktr_rel) (by ktr_rel) (ei4 dr kvs _ _ ⟨rfl, hr.ns, O, .base hr.o, r_ld V' O (by ktr_rel) (by ktr_rel) (ei4 _ _ _ _ ⟨rfl, O, .base hr.o, fun s₁₆ e₁₆ O => wpAny_Constant_int ?_⟩)⟩))))
    refine r_full hr.q hgq.2 O fun s₁₇ e₁₇ O => truth_bool ?_
    have hstep : ((anc k).take (i + 1)).any (full0 f) = (((anc k).take i).any (full0 f) || full0 f (k.take (k.length - i))) := by rw [anc_take_succ hik, List.any_append]; simp
    cases hb : full0 f (k.take (k.length - i)) with
    | true =>
      rw [if_pos rfl]
      refine r_ld V' O (by ktr_rel) (by ktr_rel) ⟨_, by ktr_rel, O.pick (by ktr_rel), _, ?_, rfl⟩
      rw [hstep, hb]; simp
    | false =>
      rw [if_neg (by decide)]
      refine ⟨_, by ktr_rel, O.pick (by ktr_rel), _, ?_, rfl⟩
      rw [hstep, hb, hys]; simp
  · rintro C cs D ys Φ s₁₄ ⟨v0, hys, rfl⟩ e₁₄ O
    refine post_none O (.tail .head) ?_
    clear O; intro s₁₅ e₁₅ O
    have hA : (anc k).take k.length = anc k := List.take_of_length_le (by rw [anc_len]; exact Nat.le_refl _)
    rw [lls, hA] at hys
    refine List_ (r_args (r_newLst O ?_))
    clear O; intro b0 s₁₆ e₁₆ _ _ O
    refine r_rcne (lne_nil (O.get (by ktr_rel)) (O.get (by ktr_rel)) R1.cline) ?_
    have hsh : (!ys.isEmpty) = shutB f k := by rw [hys]; simp [shutB]
    rw [hsh]
    refine r_st V O (by ktr_rel) (by ktr_rel) (by ktr_rel) ?_
    clear O; intro s₁₇ e₁₇ O
    replace O := O.pick (Φ' := [(ld, lstP [.bool (isF M k 0), .bool (isF M k 1)]), (L, locP tlNm [some (.ref x), some (.ref ll), some (.ref tk), some (.ref lt), some (.ref ld), some (.bool (shutB f k))])]) (by ktr_rel)
    have eF : Sm s s₁₇ := by ktr_rel
    -- return [type(one) for one in told] == [bool, bool] and ..
    refine r_seq rfl (wpAny_Return_some (BoolOp_and (wpAny_Compare1 (r_lc V (blkOK_of (nm := ["one"]) (cn := []) (fn := []) (gl := ["type"]) (by kernel_rfl)) (cl' := []) rfl (fun p hp => nomatch hp) (r_ld V O (by ktr_rel) (by ktr_rel) (r_it_list O (.cell (by ktr_rel)) ?_))))))
    clear O; intro I' s₁₈ e₁₈ O
    refine lc_block V (blkOK_of (nm := ["one"]) (cn := []) (fn := []) (gl := ["type"]) (by kernel_rfl)) rfl ((iter_list (l := ld) (xs := [.bool (isF M k 0), .bool (isF M k 1)]) hh).toT self_list) (show 2 ≤ 100000 by decide)
      (fun C cs i ys Φ => ∃ v0, ys = List.replicate i (.type "bool") ∧ Φ = (C, locP ["one"] [v0]) :: [(ld, lstP [.bool (isF M k 0), .bool (isF M k 1)]), (L, locP tlNm [some (.ref x), some (.ref ll), some (.ref tk), some (.ref lt), some (.ref ld), some (.bool (shutB f k))])]) O ?_ ?_ ?_ ?_
    · intro C cs hcs
      obtain rfl := cs_nil hcs
      exact ⟨_, rfl, rfl⟩
    · rintro C cs D i ys Φ _ ⟨v0, _, rfl⟩; exact .cell (by ktr_rel)
    · rintro C cs D cenv V' hck' hfr hcs i v Ψ ys Φ s₁₉ hi ⟨v0, rfl, rfl⟩ ⟨hv, rfl⟩ e₁₉ O
      obtain rfl := cs_nil hcs
      obtain ⟨bb, rfl⟩ : ∃ bb, v = .bool bb := by
        match i, hi, hv with
        | 0, _, hv => exact ⟨_, (Option.some.inj hv).symm⟩
        | 1, _, hv => exact ⟨_, (Option.some.inj hv).symm⟩
        | j + 2, hi, _ => exact absurd (show j + 2 < 2 from hi) (by lia)
      dsimp only [List.cons_append, List.nil_append] at O V'
      refine PyProof.Rows.assign_Name (r_st V' O (by ktr_rel) (by ktr_rel) (by ktr_rel) ?_)
      clear O; intro s₂₀ e₂₀ O
      refine r_t0 ?_
      rw [if_pos rfl]
      refine r_call (r_boot V' (B.keeps O.keep) (by ktr_rel) (by ktr_rel) (r_ty (r_arg (r_ld V' O (by ktr_rel) (by ktr_rel) (r_args (call_type_of (PySem.typeIs_bool _ _) rfl ?_))))))
      exact ⟨_, by ktr_rel, O.pick (by ktr_rel), _, by rw [List.replicate_succ'], rfl⟩
    · rintro C cs D ys Φ s₁₉ ⟨v0, rfl, rfl⟩ e₁₉ O
      refine post_none O (.tail .head) ?_
      clear O; intro s₂₀ e₂₀ O
      replace O : Own s.heap s₂₀.heap [(D, lstP [.type "bool", .type "bool"]), (ld, lstP [.bool (isF M k 0), .bool (isF M k 1)]), (L, locP tlNm [some (.ref x), some (.ref ll), some (.ref tk), some (.ref lt), some (.ref ld), some (.bool (shutB f k))])] := O
      refine List_ (r_arg (r_boot V (B.keeps O.keep) (by ktr_rel) (by ktr_rel) (r_arg (r_boot V (B.keeps O.keep) (by ktr_rel) (by ktr_rel) (r_args (r_newLst O ?_))))))
      clear O; intro b1 s₂₁ e₂₁ _ _ O
      refine r_rc (leq_two (x := .type "bool") (y := .type "bool") (O.get (by ktr_rel)) (O.get (by ktr_rel)) (EqAt.same _) (EqAt.same _) R1.cline) (truth_bool ?_)
      rw [if_pos (show (true && true) = true from rfl)]
      -- told == [shut, line[0] in taken]
      refine BoolOp_one (wpAny_Compare1 (r_ld V O (by ktr_rel) (by ktr_rel) (List_ (r_arg (r_ld V O (by ktr_rel) (by ktr_rel) (r_arg (wpAny_Compare1 (Subscript_ (r_ld V O (by ktr_rel) (by ktr_rel) (wpAny_Constant_int (r_gen O ?_)))))))))))
      clear O; intro s₂₂ e₂₂ O
      have hn0 : 0 < k.length := by
        rcases Nat.eq_zero_or_pos k.length with h0 | h0
        · exact absurd (List.length_eq_zero_iff.mp h0) hg.1
        · exact h0
      refine item_strsA (lstP.is (hbase O.keep hl)) hls (by decide) (by simp [anc_len]; lia) (by decide) fun t₃ => ?_
      have hS0 : ((anc k).map S).getD (0 : Int).toNat Str.empty = S k := by
        rw [List.getD_eq_getElem?_getD, List.getElem?_map, show (0 : Int).toNat = 0 from rfl, anc_at hn0]; simp
      rw [hS0]
      refine r_ld V O (by ktr_rel) (by ktr_rel) ?_
      refine in_list_strs (lstP.is (hbase O.keep htk)) htv (r_args ?_)
      rw [any_S hT hg.2]
      refine r_newLst O ?_
      clear O; intro b2 s₂₃ e₂₃ _ _ O
      refine r_rc (leq_two (O.get (by ktr_rel)) (O.get (by ktr_rel)) (EqAt.bool_bool _ _) (EqAt.bool_bool _ _) R1.cline) ?_
      exact h _ (eF.tr (by ktr_rel)) O.keep
end
end
section
section
/-! ## the greedy run: the plain part -/
theorem anc_mem {k q : Key} : q ∈ anc k ↔ q ≠ [] ∧ q <+: k := by
  constructor
  · intro h
    obtain ⟨j, hj, rfl⟩ := List.mem_map.mp h
    have hj := List.mem_range.mp hj
    refine ⟨fun e => ?_, List.take_prefix _ _⟩
    have := congrArg List.length e
    rw [List.length_take, List.length_nil] at this
    lia
  · rintro ⟨h0, t, rfl⟩
    have hq : q.length ≠ 0 := fun e => h0 (List.length_eq_zero_iff.mp e)
    refine List.mem_map.mpr ⟨t.length, List.mem_range.mpr (by rw [List.length_append]; lia), ?_⟩
    rw [List.length_append, Nat.add_sub_cancel, List.take_left']
    rfl
noncomputable def decA (p : Key) (f : Key → Int) : Key → Int := fun r => if r ∈ anc p then f r - 1 else f r
noncomputable def stepR (st : List Key × (Key → Int)) (p : Key) : List Key × (Key → Int) := if p ∈ st.1 ∨ shutB st.2 p = true then st else (st.1 ++ [p], decA p st.2)
/-- which files are taken, and the rooms left -/
noncomputable def runR (f : Key → Int) (row : List Key) : List Key × (Key → Int) := row.foldl stepR ([], f)
structure RInv (M : List Nd) (T : List Key) (f : Key → Int) : Prop where
  z : ∀ k, Good k → isF M k 0 = shutB f k
  o : ∀ k, Good k → isF M k 1 = decide (k ∈ T)
theorem shut_step {p k : Key} {f : Key → Int} (hp : shutB f p = false) : (shutB f k || (anc p).any fun q => full0 (decA p f) q && decide (q <+: k)) = shutB (decA p f) k := by
  have hno : ∀ r, r ∈ anc p → full0 f r = false := fun r hr => by
    unfold shutB at hp
    rw [List.any_eq_false] at hp
    exact Bool.eq_false_iff.mpr (hp r hr)
  rw [Bool.eq_iff_iff, Bool.or_eq_true]
  unfold shutB
  rw [List.any_eq_true, List.any_eq_true, List.any_eq_true]
  have same : ∀ r, r ∉ anc p → full0 (decA p f) r = full0 f r := fun r hr => by unfold full0 decA; rw [if_neg hr]
  constructor
  · rintro (⟨r, hr, h⟩ | ⟨q, hq, h⟩)
    · refine ⟨r, hr, ?_⟩
      rw [same r fun hm => by rw [hno r hm] at h; cases h]
      exact h
    · rw [Bool.and_eq_true, decide_eq_true_eq] at h
      exact ⟨q, anc_mem.mpr ⟨(anc_mem.mp hq).1, h.2⟩, h.1⟩
  · rintro ⟨r, hr, h⟩
    by_cases hm : r ∈ anc p
    · exact .inr ⟨r, hm, by rw [Bool.and_eq_true, decide_eq_true_eq]; exact ⟨h, (anc_mem.mp hr).2⟩⟩
    · exact .inl ⟨r, hr, by rw [← same r hm]; exact h⟩
theorem QD.put {f : Key → Int} {kvs : List (Str × Value)} (h : QD f 12 kvs) {q : Key} (hq : q ∈ qKeys) (x : Int) (t : Tok) : QD (fun r => if r = q then x else f r) 12 (stored kvs (S q) (.int x t)) := by
  have hm : S q ∈ kvs.map (·.1) := by rw [h.keys, qKeys_take]; exact List.mem_map.mpr ⟨q, hq, rfl⟩
  refine ⟨by rw [stored_keys, if_pos hm, h.keys], fun k hk => ?_⟩
  rw [valueAt_stored]
  rw [qKeys_take] at hk
  by_cases e : k = q
  · subst e; rw [if_pos rfl]; exact ⟨t, by rw [if_pos rfl]⟩
  · rw [if_neg fun e' => e (S_inj (qKeys_good k hk).2 (qKeys_good q hq).2 e'), if_neg e]
    exact h.at hk
theorem QD.congr {f g : Key → Int} {n : Nat} {kvs : List (Str × Value)} (h : QD f n kvs) (e : ∀ k ∈ qKeys, f k = g k) : QD g n kvs :=
  ⟨h.keys, fun k hk => by rw [← e k (List.mem_of_mem_take hk)]; exact h.val k hk⟩
/-- the rooms after the first j spots of p -/
noncomputable def decJ (p : Key) (j : Nat) (f : Key → Int) : Key → Int := fun r => if r ∈ (anc p).take j then f r - 1 else f r
theorem anc_nd (p : Key) : (anc p).Nodup := by
  unfold anc
  rw [List.Nodup, List.pairwise_map]
  refine List.Pairwise.imp_of_mem ?_ (List.pairwise_lt_range (n := p.length))
  intro a b ha hb hab e
  have := congrArg List.length e
  rw [List.length_take, List.length_take] at this
  have := List.mem_range.mp ha
  have := List.mem_range.mp hb
  lia
theorem decJ_succ {p q : Key} {j : Nat} {f : Key → Int} (hq : (anc p)[j]? = some q) (r : Key) : decJ p (j + 1) f r = if r = q then decJ p j f q - 1 else decJ p j f r := by
  have ht : (anc p).take (j + 1) = (anc p).take j ++ [q] := by rw [List.take_add_one, hq]; rfl
  have hnot : q ∉ (anc p).take j := by
    have : ((anc p).take j ++ [q]).Nodup := ht ▸ (anc_nd p).sublist (List.take_sublist _ _)
    rw [List.nodup_append] at this
    exact fun hm => this.2.2 q hm q (by simp) rfl
  unfold decJ
  rw [ht]
  by_cases e : r = q
  · subst e
    rw [if_pos (by simp), if_pos rfl, if_neg hnot]
  · rw [if_neg e]
    by_cases hm : r ∈ (anc p).take j
    · rw [if_pos (List.mem_append_left _ hm), if_pos hm]
    · rw [if_neg hm, if_neg]
      rw [List.mem_append, not_or]
      exact ⟨hm, by simpa using e⟩
theorem decJ_all (p : Key) (f : Key → Int) : decJ p p.length f = decA p f := by
  funext r
  unfold decJ decA
  rw [List.take_of_length_le (by rw [anc_len]; exact Nat.le_refl _)]
end
end
section
section
open PySem.SeqAt
variable {w : World} {A : Around} {E : Value → Shared → Prop} {s : Shared} {h₀ : Heap} {Φ Φ' Y : List Cell} {env : Env} {L : Addr} {nm gl : List Str} {cl : List (Str × Addr)}
theorem cs_five {cs : List (Str × Addr)} {x1 x2 x3 x4 x5 : Str} (h : cs.map (·.1) = [x1, x2, x3, x4, x5]) : ∃ c1 c2 c3 c4 c5, cs = [(x1, c1), (x2, c2), (x3, c3), (x4, c4), (x5, c5)] := by
  obtain ⟨c1, r1, rfl, h1⟩ := cs_cons h
  obtain ⟨c2, r2, rfl, h2⟩ := cs_cons h1
  obtain ⟨c3, r3, rfl, h3⟩ := cs_cons h2
  obtain ⟨c4, r4, rfl, h4⟩ := cs_cons h3
  obtain ⟨c5, r5, rfl, h5⟩ := cs_cons h4
  obtain rfl := cs_nil h5
  exact ⟨c1, c2, c3, c4, c5, rfl⟩
theorem own_rot {h : Heap} {a b : Cell} {X : List Cell} : Own h₀ h (Y ++ a :: b :: X) ↔ Own h₀ h (a :: b :: (X ++ Y)) := by
  have p : (Y ++ a :: b :: X).Perm (a :: b :: (X ++ Y)) := List.perm_middle.trans ((List.perm_middle.trans (List.perm_append_comm.cons b)).cons a)
  exact ⟨fun O => O.perm p, fun O => O.perm p.symm⟩
theorem r_dictOf {d : Addr} {kvs : List (Str × Value)} {Q : Value → Shared → Prop} (B : Base w h₀) (O : Own h₀ s.heap Φ) (hd : NS d) (hm : Has h₀ Φ d (dctP w kvs)) (hz : kvs.length ≤ 100000) (h : ∀ a s', Sm s s' → NS a → Own h₀ s'.heap ((a, dctP w kvs) :: Φ) → Q (.ref a) s') :
    wpAny (model PR w) A (call (.type "dict") [.ref d]) Q E s := by
  refine kt_call_dict (knd := strKind PR w) hd (O.dict hm) (by rw [sizeLine_eq]; lia) fun h' hd' hs => ?_
  have hns : NS s.heap.objs.size := by
    have := modules_low (B.keeps O.keep).nolimit
    rw [NS, beq_eq_false_iff_ne]
    exact (Nat.ne_of_lt this).symm
  have hn := get_none_size s.heap
  have k : Kp s.heap h' := fun b o e => hs.extBut b o (fun q => by rw [q, hn] at e; cases e) (Heap.get?_push_of_some _ e)
  exact h _ _ Sm.mk' hns (O.new (Ψ := [(s.heap.objs.size, dctP w kvs)]) k (New.one hn (of_dictOf hd')))
theorem fn_run (w : World) : FnOKc w 221 (bodyAt 26) ["row", "quotas", "asked", "place", "spot", "wrong"] ["lines", "keys", "flags", "rooms", "taken"] ["Flags", "dict", "_law_tells"] :=
  ⟨⟨by kernel_rfl, by kernel_rfl, by kernel_rfl, by kernel_rfl, by kernel_rfl, by kernel_rfl, by kernel_rfl, by kernel_rfl, by kernel_rfl, by kernel_rfl⟩, by kernel_rfl, by kernel_rfl, by decide, by kernel_rfl⟩
noncomputable abbrev rnNm : List Str := ["row", "quotas", "asked", "place", "spot", "wrong"]
theorem swap_none3 {x1 x2 x3 : Str} {p1 p2 p3 tp vp : Pos} {k k' : Nat} {e1 e2 e3 : Expr} (V : EnvOK env L nm cl gl) (h : env.kindOf x1 = some .cell) : swappedStores [.Tuple [.Name x1 p1, .Name x2 p2, .Name x3 p3] k tp] (.Tuple [e1, e2, e3] k' vp) env = pure none := by
  have k1 : env.blockKind = .function := by unfold Env.blockKind; rw [V.kind]; rfl
  have hlen : ∀ (f : Expr → Option Str), f (.Name x1 p1) = none → (([Expr.Name x1 p1, .Name x2 p2, .Name x3 p3].filterMap f).length != 3) = true := fun f hf => by
    rw [List.filterMap_cons, hf]
    have := List.length_filterMap_le f [Expr.Name x2 p2, .Name x3 p3]
    simp only [List.length_cons, List.length_nil] at this
    rw [bne_iff_ne]
    show (List.filterMap f [Expr.Name x2 p2, .Name x3 p3]).length ≠ 3
    lia
  unfold swappedStores
  dsimp only
  rw [k1]
  simp -iota only [List.length_cons, List.length_nil]
  split
  · rfl
  · show (if ([e1, e2, e3].any _) = true then (pure none : Sem _) else _) = _
    split
    · rfl
    · refine if_pos ?_
      rw [Bool.or_eq_true]
      left
      refine hlen _ ?_
      show (if (env.kindOf x1 == some NameKind.local && _) = true then some x1 else none) = none
      rw [h]
      rfl
/-- a, b, c = t -/
theorem r_triple {a b c : Str} {pa pb pc tp : Pos} {k} {T : Addr} {x y z : Value} {Q : Unit → Shared → Prop} (hh : A.handled = none) (O : Own h₀ s.heap Φ) (hm : Has h₀ Φ T (tupP [x, y, z]))
    (h : ∀ s', Sm s s' → Own h₀ s'.heap Φ → wpAny (model PR w) A (storeName env a x) (fun _ s₂ => wpAny (model PR w) A (storeName env b y) (fun _ s₃ => wpAny (model PR w) A (storeName env c z) Q E s₃) E s₂) E s') :
    wpAny (model PR w) A (assign (.Tuple [.Name a pa, .Name b pb, .Name c pc] k tp) env (.ref T)) Q E s := by
  refine wpAny_assign_Tuple (items := #[x, y, z]) hh (tupP.is (hm.get O)) rfl rfl fun h' hx => ?_
  have hn := get_none_size s.heap
  have k : Kp s.heap h' := fun b o e => hx b o (fun q => by rw [q, hn] at e; cases e) e
  refine wpAny_assignInOrder_more (PyProof.Rows.assign_Name (wpAny_mono (h _ Sm.mk' (O.kp k)) (fun _ s₂ h₂ => ?_) fun _ _ x => x))
  refine wpAny_assignInOrder_more (PyProof.Rows.assign_Name (wpAny_mono h₂ (fun _ s₃ h₃ => ?_) fun _ _ x => x))
  exact wpAny_assignInOrder_more (PyProof.Rows.assign_Name (wpAny_mono h₃ (fun _ s₃ h₃ => wpAny_assignInOrder_none h₃) fun _ _ x => x))
end
end
section
section
open PySem.SeqAt
variable {w : World} {A : Around} {E : Value → Shared → Prop} {s : Shared} {h₀ : Heap} {Φ Φ' Y : List Cell} {env : Env} {L : Addr} {nm gl : List Str} {cl : List (Str × Addr)}
theorem tells_true {x dx c0 p0 ll tk dr lt : Addr} {M : List Nd} {T : List Key} {k : Key} {f : Key → Int} {kvs : List (Str × Value)} {ls ts tv : List Value} {Q : Value → Shared → Prop} (B : Base w h₀) (R : Rm A 4)
    (O : Own h₀ s.heap (Y ++ (x, xP dx) :: (dx, n1P (inst0 c0 p0)) :: trC w c0 M (fun q => kids q M))) (ok : NdOK M) (ns0 : NS c0) (ri : RInv M T f) (hT : ∀ q ∈ T, Good q) (htv : StrsAre tv (T.map S)) (hqd : QD f 12 kvs) (nsr : NS dr)
    (hlt : (lt, lstP tv) ∈ Y) (hdr : (dr, dctP w kvs) ∈ Y) (hg : Good k) (hll : ∃ o, h₀.get? ll = some o ∧ lstP ls o) (hls : StrsAre ls ((anc k).map S)) (htk : ∃ o, h₀.get? tk = some o ∧ tupP ts o) (hts : StrsAre ts (k.map nmF))
    (h : ∀ s', Sm s s' → Own h₀ s'.heap (Y ++ (x, xP dx) :: (dx, n1P (inst0 c0 p0)) :: trC w c0 M (fun q => kids q M)) → Q (.bool true) s') :
    wpAny (model PR w) A (call (.ref 216) [.ref x, .ref ll, .ref tk, .ref dr, .ref lt]) Q E s := by
  have TT := own_TR (own_rot.mp O) ok ns0
  refine law_tells_spec (B.keeps O.keep) R TT ((Has.base htk).get O) hts hg ((Has.base hll).get O) hls ⟨hqd, O.get (List.mem_append_left _ hdr), nsr⟩ (O.get (List.mem_append_left _ hlt)) htv hT fun s' e k' => ?_
  rw [ri.z k hg, ri.o k hg, beq_self_eq_true, beq_self_eq_true]
  exact h s' e (O.kp k')
/-- [spot for spot in line if rooms.get(spot) == 0] -/
theorem r_shut {iter : Expr} {scope : Scope} {pos p1 p2 p3 p4 p5 p6 p7 p8 : Pos} {k1 : Nat} {ll dr c : Addr} {k : Key} {f : Key → Int} {kvs : List (Str × Value)} {ls : List Value} {Q : Value → Shared → Prop} (hh : A.handled = none) (V : EnvOK env L nm cl gl)
    (H : BlkOK scope ["spot"] [] ["rooms"] []) (O : Own h₀ s.heap Φ) (hc : (c, celP (some (.ref dr))) ∈ Φ) (hg : Good k) (hll : Has h₀ Φ ll (lstP ls)) (hls : StrsAre ls ((anc k).map S)) (hr : Has h₀ Φ dr (dctP w kvs)) (hqd : QD f 12 kvs) (nsr : NS dr) (hline : (p3.endLine == p5.line) = true)
    (h : ∀ D ys s', Sm s s' → ys.isEmpty = (!shutB f k) → Own h₀ s'.heap ((D, lstP ys) :: Φ) → Q (.ref D) s') :
    wpAny (model PR w) A (pyIter (.ref ll)) (fun it s₂ => LC w A E none env (.Name "spot" p1) (.Name "spot" p8) iter [.Compare (.Call (.Attribute (.Name "rooms" p2) "get" p3) [.Name "spot" p4] [] p5) [.Eq] [.Constant (.int 0) k1 p6] p7] scope [("rooms", c)] pos it Q s₂) E s := by
  refine r_it_list O hll ?_
  have O₀ := O
  clear O; intro I s₁ e₁ O
  have lls : ls.length = k.length := by rw [hls.length]; simp [anc_len]
  have hgl := hg.2
  have hasm : ∀ {d : Addr} {P : Obj → Prop} {a b e : Cell}, Has h₀ Φ d P → Has h₀ (a :: b :: e :: Φ) d P := fun hx => hx.mono fun p hp => List.mem_cons_of_mem _ (List.mem_cons_of_mem _ (List.mem_cons_of_mem _ hp))
  have hasm2 : ∀ {d : Addr} {P : Obj → Prop} {a b : Cell}, Has h₀ Φ d P → Has h₀ (a :: b :: Φ) d P := fun hx => hx.mono fun p hp => List.mem_cons_of_mem _ (List.mem_cons_of_mem _ hp)
  refine lc_block V H rfl ((iter_list (l := ll) (xs := ls) hh).toT self_list) (by lia)
    (fun C cs i ys Ψ => ∃ v0, ys.isEmpty = (!((anc k).take i).any (full0 f)) ∧ Ψ = (C, locP ["spot"] [v0]) :: Φ) O ?_ ?_ ?_ ?_
  · intro C cs hcs
    obtain rfl := cs_nil hcs
    exact ⟨_, by simp, rfl⟩
  · rintro C cs D i ys Ψ _ ⟨v0, _, rfl⟩; exact hasm2 hll
  · rintro C cs D cenv V' hck' hfr hcs i v Ψ ys Ψ' s₁₄ hi ⟨v0, hys, rfl⟩ ⟨hv, rfl⟩ e₁₄ O
    obtain rfl := cs_nil hcs
    have hik : i < k.length := by rw [lls] at hi; exact hi
    obtain ⟨y, tx, rfl, hy⟩ := hls.item i v hv
    rw [List.getElem?_map, anc_at hik] at hy
    obtain rfl : S (k.take (k.length - i)) = y := Option.some.inj hy
    have hgq : Good (k.take (k.length - i)) := anc_good hg (List.mem_of_getElem? (anc_at hik))
    dsimp only [List.cons_append, List.nil_append] at O V'
    refine PyProof.Rows.assign_Name (r_st V' O (by ktr_rel) (by ktr_rel) (by ktr_rel) ?_)
    clear O; intro s₁₅ e₁₅ O
    refine r_t1 (wpAny_isTrue_Compare1 (r_dget (r_ldc V' O (by ktr_rel) (by ktr_rel) (ei4 dr kvs _ _ ⟨rfl, nsr, O, hasm hr, r_ld V' O (by ktr_rel) (by ktr_rel) (ei4 _ _ _ _ ⟨rfl, O, hasm hr, fun s₁₆ e₁₆ O => wpAny_Constant_int ?_⟩)⟩)) rfl hline))
    refine r_full hqd hgq.2 O fun s₁₇ e₁₇ O => truth_bool ?_
    have hstep : ((anc k).take (i + 1)).any (full0 f) = (((anc k).take i).any (full0 f) || full0 f (k.take (k.length - i))) := by rw [anc_take_succ hik, List.any_append]; simp
    cases hb : full0 f (k.take (k.length - i)) with
    | true =>
      rw [if_pos rfl]
      refine r_ld V' O (by ktr_rel) (by ktr_rel) ⟨_, by ktr_rel, O.pick (by ktr_rel), _, ?_, rfl⟩
      rw [hstep, hb]; simp
    | false =>
      rw [if_neg (by decide)]
      refine ⟨_, by ktr_rel, O.pick (by ktr_rel), _, ?_, rfl⟩
      rw [hstep, hb, hys]; simp
  · rintro C cs D ys Ψ s₁₄ ⟨v0, hys, rfl⟩ e₁₄ O
    refine post_none O (.tail .head) ?_
    clear O; intro s₁₅ e₁₅ O
    have hA : (anc k).take k.length = anc k := List.take_of_length_le (by rw [anc_len]; exact Nat.le_refl _)
    rw [lls, hA] at hys
    exact h D ys s₁₅ (by ktr_rel) hys O
end
end
section
set_option maxHeartbeats 4000000
section
open PySem.SeqAt
variable {w : World} {A : Around} {E : Value → Shared → Prop} {s : Shared} {h₀ : Heap} {Φ Φ' Y : List Cell} {env : Env} {L : Addr} {nm gl : List Str} {cl : List (Str × Addr)}
theorem own_in {h : Heap} {a b : Cell} {X : List Cell} (Y : List Cell) (O : Own h₀ h (Y ++ a :: b :: X)) : Own h₀ h (a :: b :: (X ++ Y)) := own_rot.mp O
theorem own_out {h : Heap} {a b : Cell} {X : List Cell} (Y : List Cell) (O : Own h₀ h (a :: b :: (X ++ Y))) : Own h₀ h (Y ++ a :: b :: X) := own_rot.mpr O
theorem r_putQ {g g' : Key → Int} {d : Addr} {kvs : List (Str × Value)} {k : Key} {x : Int} {t u : Tok} {Φ' : List (Str × Value) → List Cell} {Q : Unit → Shared → Prop} (O : Own h₀ s.heap Φ) (hm : (d, dctP w kvs) ∈ Φ) (hq : QD g 12 kvs) (hk : k ∈ qKeys) (hx : ∀ r, (if r = k then x else g r) = g' r)
    (U : ∀ kvs', Upd d (dctP w kvs') Φ (Φ' kvs')) (h : ∀ s' kvs', Sm s s' → QD g' 12 kvs' → Own h₀ s'.heap (Φ' kvs') → Q () s') : wpAny (model PR w) A (setItem (.ref d) (.str (S k) t) (.int x u)) Q E s :=
  r_set O hm (by have := hq.len; lia) (U _) fun s' e O' => h s' _ e ((hq.put hk x u).congr fun r _ => hx r) O'
theorem runR_len : ∀ (row : List Key) (st : List Key × (Key → Int)), (row.foldl stepR st).1.length ≤ st.1.length + row.length
  | [], st => by simp
  | p :: r, st => by
    have := runR_len r (stepR st p)
    have h2 : (stepR st p).1.length ≤ st.1.length + 1 := by unfold stepR; split <;> simp
    rw [List.foldl_cons, List.length_cons]; lia
theorem law_run_spec {l dq dl dk la : Addr} {row asked sp : List Key} {q0 : Key → Int} {vs avs : List Value} {kq : List (Str × Value)} {Q : Value → Shared → Prop} (B : Base w s.heap) (R : Rm A 6)
    (hl : ∃ o, s.heap.get? l = some o ∧ lstP vs o) (hv : StrsAre vs (row.map S)) (hrow : ∀ p ∈ row, p ∈ sp) (hq : RoomsD w s.heap dq q0 kq) (hq0 : ∀ k ∈ qKeys, q0 k ≠ 0) (hlk : LK w s.heap sp dl dk) (nsl : NS dl) (nsk : NS dk) (hsp : ∀ p ∈ sp, Good p) (hcl : ∀ p ∈ sp, ∀ q ∈ anc p, q ∈ sp)
    (hla : ∃ o, s.heap.get? la = some o ∧ lstP avs o) (hav : StrsAre avs (asked.map S)) (hask : ∀ p ∈ asked, p ∈ sp) (hz : row.length ≤ 20) (hza : asked.length ≤ 100)
    (h : ∀ a tv s', Sm s s' → Kp s.heap s'.heap → StrsAre tv ((runR q0 row).1.map S) → New s.heap s'.heap [(a, lstP tv)] → Q (.ref a) s') :
    wpAny (model PR w) A (call (.ref 221) [.ref l, .ref dq, .ref dl, .ref dk, .ref la]) Q E s := by
  refine enterC (fn_run w) B (R.le (by decide)) [("row", .ref l), ("quotas", .ref dq), ("lines", .ref dl), ("keys", .ref dk), ("asked", .ref la)] (by kernel_rfl) ?_
  intro L env s₁ cs e₁ hcs V hck O hf
  refine hide fun Gz hGz => ?_
  obtain ⟨c5, c4, c3, c2, c1, rfl⟩ := cs_five hcs
  refine hGz ?_
  have R1 : Rm (A.deeper env) 5 := R.deeper
  have hh := R1.hd
  replace O : Own s.heap s₁.heap [(c5, celP none), (c4, celP none), (c3, celP none), (c2, celP none), (c1, celP none), (L, locP rnNm [none, none, none, none, none, none])] := O
  refine r_st V O (by ktr_rel) (by ktr_rel) (by ktr_rel) ?_
  clear O; intro s₂ e₂ O
  refine r_st V O (by ktr_rel) (by ktr_rel) (by ktr_rel) ?_
  clear O; intro s₃ e₃ O
  refine r_stc V (hck "lines" (by ktr_rel)) O (by ktr_rel) (by ktr_rel) (by ktr_rel) ?_
  clear O; intro s₄ e₄ O
  refine r_stc V (hck "keys" (by ktr_rel)) O (by ktr_rel) (by ktr_rel) (by ktr_rel) ?_
  clear O; intro s₅ e₅ O
  refine r_st V O (by ktr_rel) (by ktr_rel) (by ktr_rel) ?_
  clear O; intro s₆ e₆ O
  refine ⟨B.keeps O.keep, ?_⟩
  -- flags, rooms, taken = (Flags(), dict(quotas), [])
  refine r_seq rfl (Assign_Tuple (Tuple_ (r_arg (r_call (r_glob V (B.keeps O.keep) (by ktr_rel) (by ktr_rel) (callWith_K0 (B.keeps O.keep).X (by kernel_rfl) ?_))))) rfl (swap_none3 V (hck "flags" (by ktr_rel))))
  refine flags_new B (R1.le (by decide)) O ?_
  clear O; intro x dx c0 p0 s₇ e₇ ns0 O
  refine r_arg (r_call (r_boot V (B.keeps O.keep) (by ktr_rel) (by ktr_rel) (r_ty (r_arg (r_ld V O (by ktr_rel) (by ktr_rel) (r_args ?_))))))
  refine r_dictOf B O hq.ns (.base hq.o) (Nat.le_trans hq.q.len (by decide)) ?_
  clear O; intro dr s₈ e₈ nsr O
  refine r_arg (List_ (r_args (r_newLst O ?_)))
  clear O; intro lt s₉ e₉ _ _ O
  refine r_args (r_newTup O ?_)
  clear O; intro tq s₁₀ e₁₀ _ _ O
  refine r_triple hh O (.cell (by ktr_rel)) ?_
  clear O; intro s₁₁ e₁₁ O
  refine r_stc V (hck "flags" (by ktr_rel)) O (by ktr_rel) (by ktr_rel) (by ktr_rel) ?_
  clear O; intro s₁₂ e₁₂ O
  refine r_stc V (hck "rooms" (by ktr_rel)) O (by ktr_rel) (by ktr_rel) (by ktr_rel) ?_
  clear O; intro s₁₃ e₁₃ O
  refine r_stc V (hck "taken" (by ktr_rel)) O (by ktr_rel) (by ktr_rel) (by ktr_rel) ?_
  clear O; intro s₁₄ e₁₄ O
  have eA : Sm s s₁₄ := by ktr_rel
  replace O := O.pick (Φ' := [(L, locP rnNm [some (.ref l), some (.ref dq), some (.ref la), none, none, none]), (c5, celP (some (.ref lt))), (c4, celP (some (.ref dr))), (c3, celP (some (.ref x))), (c2, celP (some (.ref dk))), (c1, celP (some (.ref dl))), (lt, lstP []), (dr, dctP w kq), (x, xP dx), (dx, n1P (inst0 c0 p0)), (c0, dctP w [])]) (by ktr_rel)
  -- for place in row
  refine r_seq rfl (wpAny_For (r_ld V O (by ktr_rel) (by ktr_rel) ?_))
  have hlv : vs.length = row.length := by rw [hv.length]; simp
  refine r_for_list (l := l) (xs := vs) hh (fun i Φ => ∃ M tv kvs v1 v2 v3, NdOK M ∧ M.length ≤ 12 * i ∧ RInv M (runR q0 (row.take i)).1 (runR q0 (row.take i)).2 ∧ (∀ p ∈ (runR q0 (row.take i)).1, Good p) ∧ StrsAre tv ((runR q0 (row.take i)).1.map S) ∧ QD (runR q0 (row.take i)).2 12 kvs ∧
    Φ = (L, locP rnNm [some (.ref l), some (.ref dq), some (.ref la), v1, v2, v3]) :: (c5, celP (some (.ref lt))) :: (c4, celP (some (.ref dr))) :: (c3, celP (some (.ref x))) :: (c2, celP (some (.ref dk))) :: (c1, celP (some (.ref dl))) :: (lt, lstP tv) :: (dr, dctP w kvs) :: (x, xP dx) :: (dx, n1P (inst0 c0 p0)) :: trC w c0 M (fun q => kids q M)) O
    (ei6 [] [] kq _ _ _ ⟨⟨List.nodup_nil, (fun _ h => nomatch h), (fun _ h => nomatch h), (fun _ h => nomatch h)⟩, Nat.zero_le _, ⟨fun k hk => ?_, fun k hk => rfl⟩, (fun _ h => nomatch h), .nil, hq.q, rfl⟩) (fun i Φ _ _ => .base hl) ?_ ?_
  · show false = shutB q0 k
    symm
    unfold shutB
    rw [List.any_eq_false]
    intro q _ e
    unfold full0 at e
    rw [Bool.and_eq_true, decide_eq_true_eq, beq_iff_eq] at e
    exact hq0 q e.1 e.2
  · intro i v Φ s₁₅ I P hi jz1 e₁₅ O
    refine hide fun Gz hGz => ?_
    refine ex6 jz1 fun M tv kvs v1 v2 v3 jx => ?_
    refine an7 jx fun ok hM ri hT htv hqd jr6 => ?_
    clear jx jz1
    subst jr6
    refine hGz ?_
    refine hideT fun TT hTT => ?_
    obtain ⟨p, tp, rfl, hp⟩ : ∃ p t, v = .str (S p) t ∧ row[i]? = some p := by
      refine hide fun Gz hGz => ?_
      obtain ⟨y, t, rfl, hy⟩ := hv.item i v hi
      refine hGz ?_
      rw [List.getElem?_map] at hy
      obtain ⟨p, hp, rfl⟩ := Option.map_eq_some_iff.mp hy
      exact ⟨p, t, rfl, hp⟩
    have hpsp := hrow p (List.mem_of_getElem? hp)
    have hg := hsp p hpsp
    refine hide fun Gz hGz => ?_
    refine ex2 hlk.out fun kl kk jx => ?_
    refine an5 jx fun hkl hkk _ _ hat => ?_
    clear jx
    refine ex4 (hat p hpsp) fun ll ls tk ts jx => ?_
    refine an6 jx fun vl hll hls vk htk hts => ?_
    clear jx
    refine hGz ?_
    have hrun : runR q0 (row.take (i + 1)) = stepR (runR q0 (row.take i)) p := by unfold runR; rw [List.take_add_one, hp, List.foldl_append]; rfl
    have hil : i < row.length := (List.getElem?_eq_some_iff.mp hp).1
    generalize hTf : runR q0 (row.take i) = Tf at ri hT htv hqd hrun
    obtain ⟨T, f⟩ := Tf
    dsimp only at ri hT htv hqd
    refine r_st V O (by ktr_rel) (by ktr_rel) (by ktr_rel) ?_
    clear O; intro s₁₆ e₁₆ O
    -- if not _law_tells(..): return []
    refine r_seq rfl (wpAny_If (PyProof.Rows.isTrue_not (wpAny_isTrue_value (r_call (r_glob V (B.keeps O.keep) (by ktr_rel) (by ktr_rel) (r_fn (fn_tells w).FA (B.keeps O.keep) (r_arg (r_ldc V O (by ktr_rel) (by ktr_rel) (r_arg (wpAny_Subscript_Name_late (r_ldc V O (by ktr_rel) (by ktr_rel) (r_ld V O (by ktr_rel) (by ktr_rel) (r_sub O (.base hkl) vl ?_)))))))))))))
    clear O; intro s₁₇ e₁₇ O
    refine r_arg (wpAny_Subscript_Name_late (r_ldc V O (by ktr_rel) (by ktr_rel) (r_ld V O (by ktr_rel) (by ktr_rel) (r_sub O (.base hkk) vk ?_))))
    clear O; intro s₁₈ e₁₈ O
    refine r_arg (r_ldc V O (by ktr_rel) (by ktr_rel) (r_arg (r_ldc V O (by ktr_rel) (by ktr_rel) (r_args ⟨B.keeps O.keep, ?_⟩))))
    refine tells_true (Y := [(I, P), (L, _), (c5, _), (c4, _), (c3, _), (c2, _), (c1, _), (lt, _), (dr, _)]) B (R1.le (by decide)) O ok ns0 ri hT htv hqd nsr (by ktr_rel) (by ktr_rel) hg hll hls htk hts ?_
    clear O; intro s₁₉ e₁₉ O
    dsimp only [List.cons_append, List.nil_append] at O
    refine truth_bool ?_
    rw [if_neg (show ¬ (!true) = true by decide)]
    refine r_nil ?_
    -- if place in taken or [..] != []: continue
    have cont : ∀ {s' : Shared}, Sm s₁₉ s' → (p ∈ T ∨ shutB f p = true) → Own s.heap s'.heap ((I, P) :: (L, locP rnNm [some (.ref l), some (.ref dq), some (.ref la), some (.str (S p) tp), v2, v3]) :: (c5, celP (some (.ref lt))) :: (c4, celP (some (.ref dr))) :: (c3, celP (some (.ref x))) :: (c2, celP (some (.ref dk))) :: (c1, celP (some (.ref dl))) :: (lt, lstP tv) :: (dr, dctP w kvs) :: (x, xP dx) :: (dx, n1P (inst0 c0 p0)) :: trC w c0 M (fun q => kids q M)) →
        ∃ Φ', Sm s₁₄ s' ∧ Own s.heap s'.heap ([(I, P)] ++ Φ') ∧ ∃ M tv kvs v1 v2 v3, NdOK M ∧ M.length ≤ 12 * (i + 1) ∧ RInv M (runR q0 (row.take (i + 1))).1 (runR q0 (row.take (i + 1))).2 ∧ (∀ p ∈ (runR q0 (row.take (i + 1))).1, Good p) ∧ StrsAre tv ((runR q0 (row.take (i + 1))).1.map S) ∧ QD (runR q0 (row.take (i + 1))).2 12 kvs ∧
          Φ' = (L, locP rnNm [some (.ref l), some (.ref dq), some (.ref la), v1, v2, v3]) :: (c5, celP (some (.ref lt))) :: (c4, celP (some (.ref dr))) :: (c3, celP (some (.ref x))) :: (c2, celP (some (.ref dk))) :: (c1, celP (some (.ref dl))) :: (lt, lstP tv) :: (dr, dctP w kvs) :: (x, xP dx) :: (dx, n1P (inst0 c0 p0)) :: trC w c0 M (fun q => kids q M) := fun e hskip O' => by
      have : stepR (T, f) p = (T, f) := by unfold stepR; rw [if_pos hskip]
      rw [hrun, this]
      exact ⟨_, by ktr_rel, O', ei6 M tv kvs _ _ _ ⟨ok, by lia, ri, hT, htv, hqd, rfl⟩⟩
    refine r_seq rfl (wpAny_If (wpAny_isTrue_BoolOp (wpAny_allTrue_Or_cons (wpAny_isTrue_Compare1 (r_ld V O (by ktr_rel) (by ktr_rel) (r_ldc V O (by ktr_rel) (by ktr_rel) ?_))))))
    refine in_list_strs (lstP.is (O.get (by ktr_rel))) htv (truth_bool ?_)
    rw [any_S hT hg.2]
    by_cases hpT : p ∈ T
    · rw [decide_eq_true hpT]
      exact r_seq rfl (wpAny_Continue (hTT _ _ (cont Sm.rfl (.inl hpT) O)))
    rw [decide_eq_false hpT]
    refine wpAny_allTrue_Or_cons (wpAny_isTrue_Compare1 (r_lc V (blkOK_of (nm := ["spot"]) (cn := []) (fn := ["rooms"]) (gl := []) (by kernel_rfl)) (cl' := [("rooms", c4)]) rfl (fun p hp => by rw [List.mem_singleton.mp hp]; exact List.mem_cons_of_mem _ List.mem_cons_self) (wpAny_Subscript_Name_late (r_ldc V O (by ktr_rel) (by ktr_rel) (r_ld V O (by ktr_rel) (by ktr_rel) (r_sub O (.base hkl) vl ?_))))))
    clear O; intro s₂₀ e₂₀ O
    refine r_shut hh V (blkOK_of (by kernel_rfl)) O (by ktr_rel) hg (.base hll) hls (.cell (by ktr_rel)) hqd nsr rfl ?_
    clear O; intro D ys s₂₁ e₂₁ hys O
    refine List_ (r_args (r_newLst O ?_))
    clear O; intro b0 s₂₂ e₂₂ _ _ O
    refine r_rcne (lne_nil (O.get (by ktr_rel)) (O.get (by ktr_rel)) R1.cline) (truth_bool ?_)
    have hsh : (!ys.isEmpty) = shutB f p := by rw [hys]; simp
    rw [hsh]
    replace O := O.drop.drop
    cases hshut : shutB f p with
    | true => exact r_seq rfl (wpAny_Continue (hTT _ _ (cont (by ktr_rel) (.inr hshut) O)))
    | false =>
      refine wpAny_allTrue_Or_nil (r_nil ?_)
      -- if flags.set(keys[place], Flags.EXPLICIT_NEST, recursive=False) is not None: return []
      refine r_seq rfl (wpAny_If (wpAny_isTrue_Compare1 (r_icall (r_ldc V O (by ktr_rel) (by ktr_rel) fun pl => r_imethod (B.keeps O.keep) (own_in [(I, P), (L, _), (c5, _), (c4, _), (c3, _), (c2, _), (c1, _), (lt, _), (dr, _)] O).fi (map_mem (n72s w) ("set", .ref 63) (by ktr_rel)) (fn_set w).FA.isd ⟨_, rfl, rfl⟩ ob_set (inst0_set _ _) ?_))))
      refine r_fnk (fn_set w).FA (r_arg (wpAny_Subscript_Name_late (r_ldc V O (by ktr_rel) (by ktr_rel) (r_ld V O (by ktr_rel) (by ktr_rel) (r_sub O (.base hkk) vk ?_)))))
      clear O; intro s₂₃ e₂₃ O
      refine r_arg (Attribute_Name_ (r_glob V (B.keeps O.keep) (by ktr_rel) (by ktr_rel) (r_explicit (B.keeps O.keep) fun t₂ s₂₄ e₂₄ h₂₄ => r_args (evalAll_cons (wpAny_bind (wpAny_Constant_bool (wpAny_bind (wpAny_standAt (wpAny_pure (evalAll_nil ⟨h₂₄ ▸ B.keeps O.keep, ?_⟩))))))))))
      replace O : Own s.heap s₂₄.heap _ := h₂₄ ▸ O
      refine set_spec (k := p) (ts := ts) (b := false) B (R1.le (by decide)) (own_in [(I, P), (L, _), (c5, _), (c4, _), (c3, _), (c2, _), (c1, _), (lt, _), (dr, _)] O) ok ns0 (by lia) (.base htk) hts hg.2 hg.1 rfl ?_
      clear O; intro M₁ s₂₅ e₂₅ ok₁ hM₁ hF₁ O
      replace O := own_out [(I, P), (L, _), (c5, _), (c4, _), (c3, _), (c2, _), (c1, _), (lt, _), (dr, _)] O
      dsimp only [List.cons_append, List.nil_append] at O
      refine wpAny_Constant_none (wpAny_isNot_self rfl (truth_bool ?_))
      rw [if_neg (by decide)]
      refine r_nil ?_
      -- taken.append(place)
      have hTl : tv.length ≤ 100 := by
        have h1 := runR_len (row.take i) ([], q0)
        rw [show (row.take i).foldl stepR ([], q0) = (T, f) from hTf] at h1
        have h2 : (row.take i).length ≤ row.length := by rw [List.length_take]; lia
        have h3 : tv.length = T.length := by rw [htv.length]; simp
        simp only [List.length_nil] at h1
        lia
      refine r_seq rfl (r_append V (r_ldc V O (by ktr_rel) (by ktr_rel) (ei2 lt tv ⟨rfl, O.get (by ktr_rel), r_ld V O (by ktr_rel) (by ktr_rel) (ei4 _ _ _ tv ⟨O, by ktr_rel, by lia, by ktr_rel, ?_⟩)⟩)))
      clear O; intro s₂₆ e₂₆ O
      have eB : Sm s₁₄ s₂₆ := by ktr_rel
      -- for spot in lines[place]
      refine r_seq rfl (wpAny_For (wpAny_Subscript_Name_late (r_ldc V O (by ktr_rel) (by ktr_rel) (r_ld V O (by ktr_rel) (by ktr_rel) (r_sub O (.base hkl) vl ?_)))))
      clear O; intro s₂₇ e₂₇ O
      have lls : ls.length = p.length := by rw [hls.length]; simp [anc_len]
      have hg2 := hg.2
      refine r_for_list (l := ll) (xs := ls) hh (fun j Ψ => ∃ M' kvs' sv, NdOK M' ∧ M'.length ≤ M.length + 3 + 3 * j ∧ (∀ k, Good k → isF M' k 0 = (shutB f k || ((anc p).take j).any fun q => full0 (decA p f) q && decide (q <+: k))) ∧ (∀ k, Good k → isF M' k 1 = decide (k ∈ T ++ [p])) ∧ QD (decJ p j f) 12 kvs' ∧
        Ψ = (I, P) :: (L, locP rnNm [some (.ref l), some (.ref dq), some (.ref la), some (.str (S p) tp), sv, v3]) :: (c5, celP (some (.ref lt))) :: (c4, celP (some (.ref dr))) :: (c3, celP (some (.ref x))) :: (c2, celP (some (.ref dk))) :: (c1, celP (some (.ref dl))) :: (lt, lstP (tv ++ [.str (S p) tp])) :: (dr, dctP w kvs') :: (x, xP dx) :: (dx, n1P (inst0 c0 p0)) :: trC w c0 M' (fun q => kids q M')) O
        (ei3 M₁ kvs _ ⟨ok₁, by lia, fun k hk => ?_, fun k hk => ?_, hqd.congr fun k _ => by simp [decJ], rfl⟩) (fun i Φ _ _ => .base hll) ?_ ?_
      · rw [hF₁ k 0 (.inl rfl), ri.z k hk]
        simp [hit]
      · rw [hF₁ k 1 (.inr rfl), ri.o k hk, Bool.eq_iff_iff]
        simp only [hit, Bool.or_eq_true, Bool.false_eq_true, if_false, decide_true, Bool.true_and, decide_eq_true_eq, List.mem_append, List.mem_singleton]
        exact or_congr Iff.rfl eq_comm
      · intro j v Ψ s₂₈ I' P' hj jz2 e₂₈ O
        refine hide fun Gz hGz => ?_
        refine ex3 jz2 fun M' kvs' sv jx => ?_
        refine an6 jx fun ok' hM' hz' ho' hq' jr5 => ?_
        clear jx jz2
        subst jr5
        refine hGz ?_
        have hjp : j < p.length := by
          have := (List.getElem?_eq_some_iff.mp hj).1
          lia
        obtain ⟨q, tq, rfl, hqj⟩ : ∃ q t, v = .str (S q) t ∧ (anc p)[j]? = some q := by
          refine hide fun Gz hGz => ?_
          obtain ⟨y, t, rfl, hy⟩ := hls.item j v hj
          refine hGz ?_
          rw [List.getElem?_map] at hy
          obtain ⟨q, hq, rfl⟩ := Option.map_eq_some_iff.mp hy
          exact ⟨q, t, rfl, hq⟩
        have hqa : q ∈ anc p := List.mem_of_getElem? hqj
        have hgq := anc_good hg hqa
        have ht1 : (anc p).take (j + 1) = (anc p).take j ++ [q] := by rw [List.take_add_one, hqj]; rfl
        have hdq : decJ p (j + 1) f q = decA p f q := by
          unfold decJ decA
          rw [ht1, if_pos (by simp), if_pos hqa]
        have fin : ∀ {s' : Shared} {M2 : List Nd} {kvs2 : List (Str × Value)}, Sm s₂₈ s' → NdOK M2 → M2.length ≤ M'.length + 3 → (∀ k, Good k → isF M2 k 0 = (isF M' k 0 || (full0 (decA p f) q && decide (q <+: k)))) → (∀ k, Good k → isF M2 k 1 = isF M' k 1) → QD (decJ p (j + 1) f) 12 kvs2 →
            Own s.heap s'.heap ((I', P') :: (I, P) :: (L, locP rnNm [some (.ref l), some (.ref dq), some (.ref la), some (.str (S p) tp), some (.str (S q) tq), v3]) :: (c5, celP (some (.ref lt))) :: (c4, celP (some (.ref dr))) :: (c3, celP (some (.ref x))) :: (c2, celP (some (.ref dk))) :: (c1, celP (some (.ref dl))) :: (lt, lstP (tv ++ [.str (S p) tp])) :: (dr, dctP w kvs2) :: (x, xP dx) :: (dx, n1P (inst0 c0 p0)) :: trC w c0 M2 (fun q => kids q M2)) →
            ∃ Φ', Sm s₂₇ s' ∧ Own s.heap s'.heap ([(I', P')] ++ Φ') ∧ ∃ M' kvs' sv, NdOK M' ∧ M'.length ≤ M.length + 3 + 3 * (j + 1) ∧ (∀ k, Good k → isF M' k 0 = (shutB f k || ((anc p).take (j + 1)).any fun q => full0 (decA p f) q && decide (q <+: k))) ∧ (∀ k, Good k → isF M' k 1 = decide (k ∈ T ++ [p])) ∧ QD (decJ p (j + 1) f) 12 kvs' ∧
              Φ' = (I, P) :: (L, locP rnNm [some (.ref l), some (.ref dq), some (.ref la), some (.str (S p) tp), sv, v3]) :: (c5, celP (some (.ref lt))) :: (c4, celP (some (.ref dr))) :: (c3, celP (some (.ref x))) :: (c2, celP (some (.ref dk))) :: (c1, celP (some (.ref dl))) :: (lt, lstP (tv ++ [.str (S p) tp])) :: (dr, dctP w kvs') :: (x, xP dx) :: (dx, n1P (inst0 c0 p0)) :: trC w c0 M' (fun q => kids q M') := fun {s' M2 kvs2} e ok2 hM2 hz2 ho2 hq2 O' =>
          ⟨_, e₂₈.tr e, O', ei3 M2 kvs2 _ ⟨ok2, by lia, fun k hk => by rw [hz2 k hk, hz' k hk, ht1, List.any_append, Bool.or_assoc]; simp, fun k hk => (ho2 k hk).trans (ho' k hk), hq2, rfl⟩⟩
        refine r_st V O (by ktr_rel) (by ktr_rel) (by ktr_rel) ?_
        clear O; intro s₂₉ e₂₉ O
        -- if spot in rooms
        refine r_seq rfl (wpAny_If (wpAny_isTrue_Compare1 (r_ld V O (by ktr_rel) (by ktr_rel) (r_ldc V O (by ktr_rel) (by ktr_rel) (r_in O (.cell (by ktr_rel)) nsr ?_)))))
        clear O; intro s₃₀ e₃₀ O
        refine truth_bool ?_
        by_cases hqk : q ∈ qKeys
        · obtain ⟨t₃, e3⟩ := hq'.at hqk
          rw [e3, if_pos (show (some (Value.int (decJ p j f q) t₃)).isSome = true from rfl)]
          -- rooms[spot] -= 1
          refine r_seq rfl (wpAny_AugAssign_SubscriptAny (r_ldc V O (by ktr_rel) (by ktr_rel) (r_ld V O (by ktr_rel) (by ktr_rel) (r_item O (.cell (by ktr_rel)) e3 ?_))))
          clear O; intro s₃₁ e₃₁ O
          refine wpAny_Constant_int (PyProof.Rows.isub_int (r_gen O ?_))
          clear O; intro s₃₂ e₃₂ O
          refine r_putQ (g' := decJ p (j + 1) f) O (by ktr_rel) hq' hqk (fun r => (decJ_succ hqj r).symm) (fun _ => by ktr_rel) ?_
          clear O; intro s₃₃ kvs₂ e₃₃ hq2 O
          obtain ⟨t₄, e4⟩ := hq2.at hqk
          -- if rooms[spot] == 0
          refine r_seq rfl (wpAny_If (wpAny_isTrue_Compare1 (wpAny_Subscript_Name_late (r_ldc V O (by ktr_rel) (by ktr_rel) (r_ld V O (by ktr_rel) (by ktr_rel) (r_sub O (.cell (by ktr_rel)) e4 ?_))))))
          clear O; intro s₃₄ e₃₄ O
          refine wpAny_Constant_int (r_rc (RcAt.int_int _ _ _ _) (truth_bool ?_))
          have hfull : full0 (decA p f) q = (decJ p (j + 1) f q == 0) := by unfold full0; rw [decide_eq_true hqk, Bool.true_and, hdq]
          cases hz0 : (decJ p (j + 1) f q == 0) with
          | false =>
            rw [if_neg (by decide)]
            refine r_nil (r_nil (r_nil (fin (by ktr_rel) ok' (by lia) (fun k _ => ?_) (fun _ _ => rfl) hq2 O)))
            rw [hfull, hz0]; simp
          | true =>
            rw [if_pos rfl]
            refine hide fun Gz hGz => ?_
            refine ex4 (hat q (hcl p hpsp q hqa)) fun _ _ tk2 ts2 jx => ?_
            refine an6 jx fun _ _ _ vk2 htk2 hts2 => ?_
            clear jx
            refine hGz ?_
            refine r_seq rfl (r_expr V (r_icall (r_ldc V O (by ktr_rel) (by ktr_rel) fun pl => r_imethod (B.keeps O.keep) (own_in [(I', P'), (I, P), (L, _), (c5, _), (c4, _), (c3, _), (c2, _), (c1, _), (lt, _), (dr, _)] O).fi (map_mem (n72s w) ("set", .ref 63) (by ktr_rel)) (fn_set w).FA.isd ⟨_, rfl, rfl⟩ ob_set (inst0_set _ _) ?_)))
            refine r_fnk (fn_set w).FA (r_arg (wpAny_Subscript_Name_late (r_ldc V O (by ktr_rel) (by ktr_rel) (r_ld V O (by ktr_rel) (by ktr_rel) (r_sub O (.base hkk) vk2 ?_)))))
            clear O; intro s₃₅ e₃₅ O
            refine r_arg (Attribute_Name_ (r_glob V (B.keeps O.keep) (by ktr_rel) (by ktr_rel) (r_frozen (B.keeps O.keep) fun t₂ s₃₆ e₃₆ h₃₆ => r_args (evalAll_cons (wpAny_bind (wpAny_Constant_bool (wpAny_bind (wpAny_standAt (wpAny_pure (evalAll_nil ⟨h₃₆ ▸ B.keeps O.keep, ?_⟩))))))))))
            replace O : Own s.heap s₃₆.heap _ := h₃₆ ▸ O
            refine set_spec (k := q) (ts := ts2) (b := true) B (R1.le (by decide)) (own_in [(I', P'), (I, P), (L, _), (c5, _), (c4, _), (c3, _), (c2, _), (c1, _), (lt, _), (dr, _)] O) ok' ns0 (by lia) (.base htk2) hts2 hgq.2 hgq.1 rfl ?_
            clear O; intro M₂ s₃₇ e₃₇ ok₂ hM₂ hF₂ O
            replace O := own_out [(I', P'), (I, P), (L, _), (c5, _), (c4, _), (c3, _), (c2, _), (c1, _), (lt, _), (dr, _)] O
            dsimp only [List.cons_append, List.nil_append] at O
            refine r_nil (r_nil (r_nil (fin (by ktr_rel) ok₂ hM₂ (fun k _ => ?_) (fun k _ => ?_) hq2 O)))
            · rw [hF₂ k 0 (.inl rfl), hfull, hz0]; simp [hit]
            · rw [hF₂ k 1 (.inr rfl)]; simp [hit]
        · rw [hq'.none hqk hgq.2, if_neg (by decide)]
          refine r_nil (r_nil (fin (by ktr_rel) ok' (by lia) (fun k _ => ?_) (fun _ _ => rfl) (hq'.congr fun r hr => ?_) O))
          · unfold full0; rw [decide_eq_false hqk]; simp
          · rw [decJ_succ hqj, if_neg (fun e : r = q => hqk (e ▸ hr))]
      · intro Ψ s₂₈ jz3 e₂₈ O
        refine hide fun Gz hGz => ?_
        refine ex3 jz3 fun M' kvs' sv jx => ?_
        refine an6 jx fun ok' hM' hz' ho' hq' jr5 => ?_
        clear jx jz3
        subst jr5
        refine hGz ?_
        rw [lls] at hz' hq' hM'
        rw [decJ_all] at hq'
        have hst : stepR (T, f) p = (T ++ [p], decA p f) := by unfold stepR; rw [if_neg (by rw [not_or]; exact ⟨hpT, by rw [hshut]; decide⟩)]
        refine r_nil (hTT _ _ (Turn.next _ (by ktr_rel) (K := [(I, P)]) O ?_))
        rw [hrun, hst]
        refine ei6 M' _ kvs' _ _ _ ⟨ok', by lia, ⟨fun k hk => ?_, ho'⟩, ?_, ?_, hq', rfl⟩
        · rw [hz' k hk, List.take_of_length_le (by rw [anc_len]; exact Nat.le_refl _)]
          exact shut_step hshut
        · intro r hr
          rcases List.mem_append.mp hr with hr | hr
          · exact hT r hr
          · rw [List.mem_singleton.mp hr]; exact hg
        · rw [List.map_append]; exact kct_snoc htv
  · intro Φ s₁₅ jz4 e₁₅ O
    refine hide fun Gz hGz => ?_
    refine ex6 jz4 fun M tv kvs v1 v2 v3 jx => ?_
    refine an7 jx fun ok hM ri hT htv hqd jr6 => ?_
    clear jx jz4
    subst jr6
    refine hGz ?_
    rw [hlv, List.take_length] at ri hT htv hqd
    generalize hTf : runR q0 row = Tf at ri hT htv hqd h
    obtain ⟨T, f⟩ := Tf
    dsimp only at ri hT htv hqd h
    refine hide fun Gz hGz => ?_
    refine ex2 hlk.out fun kl kk jx => ?_
    refine an5 jx fun hkl hkk _ _ hat => ?_
    clear jx
    refine hGz ?_
    have lav : avs.length = asked.length := by rw [hav.length]; simp
    -- wrong = [..]
    refine r_seq rfl (r_lcu V (by ktr_rel) (blkOK_of (nm := ["place"]) (cn := []) (fn := ["flags", "keys", "lines", "rooms", "taken"]) (gl := ["_law_tells"]) (by kernel_rfl)) (cl' := [("taken", c5), ("rooms", c4), ("lines", c1), ("keys", c2), ("flags", c3)]) rfl (fun p hp => ?_) rfl (by kernel_rfl) (r_ld V O (by ktr_rel) (by ktr_rel) (r_it_list O (.base hla) ?_)))
    · simp only [List.mem_cons, List.not_mem_nil, or_false] at hp ⊢
      rcases hp with rfl | rfl | rfl | rfl | rfl <;> simp
    clear O; intro I s₁₆ e₁₆ O
    refine lc_block V (blkOK_of (nm := ["place"]) (cn := []) (fn := ["flags", "keys", "lines", "rooms", "taken"]) (gl := ["_law_tells"]) (by kernel_rfl)) rfl ((iter_list (l := la) (xs := avs) hh).toT self_list) (by lia)
      (fun C cs i ys Ψ => ∃ v0, ys = [] ∧ Ψ = (C, locP ["place"] [v0]) :: (L, locP rnNm [some (.ref l), some (.ref dq), some (.ref la), v1, v2, v3]) :: (c5, celP (some (.ref lt))) :: (c4, celP (some (.ref dr))) :: (c3, celP (some (.ref x))) :: (c2, celP (some (.ref dk))) :: (c1, celP (some (.ref dl))) :: (lt, lstP tv) :: (dr, dctP w kvs) :: (x, xP dx) :: (dx, n1P (inst0 c0 p0)) :: trC w c0 M (fun q => kids q M)) O ?_ ?_ ?_ ?_
    · intro C cs hcs
      obtain rfl := cs_nil hcs
      exact ⟨_, rfl, rfl⟩
    · rintro C cs D i ys Ψ _ ⟨v0, _, rfl⟩; exact .base hla
    · intro C cs D cenv V' hck' hfr hcs i v Ψ ys Ψ' s₁₇ hi jz5 jz6 e₁₇ O
      refine hide fun Gz hGz => ?_
      obtain ⟨v0, rfl, rfl⟩ := jz5
      obtain ⟨hv', rfl⟩ := jz6
      refine hGz ?_
      obtain rfl := cs_nil hcs
      refine hide fun Gz hGz => ?_
      obtain ⟨y, tx, rfl, hy⟩ := hav.item i v hv'
      refine hGz ?_
      rw [List.getElem?_map] at hy
      obtain ⟨p, hp, rfl⟩ := Option.map_eq_some_iff.mp hy
      have hpsp := hask p (List.mem_of_getElem? hp)
      have hg := hsp p hpsp
      refine hide fun Gz hGz => ?_
      refine ex4 (hat p hpsp) fun ll ls tk ts jx => ?_
      refine an6 jx fun vl hll hls vk htk hts => ?_
      clear jx
      refine hGz ?_
      dsimp only [List.cons_append, List.nil_append] at O V'
      refine PyProof.Rows.assign_Name (r_st V' O (by ktr_rel) (by ktr_rel) (by ktr_rel) ?_)
      clear O; intro s₁₈ e₁₈ O
      refine r_t1 (PyProof.Rows.isTrue_not (wpAny_isTrue_value (r_call (r_glob V' (B.keeps O.keep) (by ktr_rel) (by ktr_rel) (r_fn (fn_tells w).FA (B.keeps O.keep) (r_arg (r_ldc V' O (by ktr_rel) (by ktr_rel) (r_arg (wpAny_Subscript_Name_late (r_ldc V' O (by ktr_rel) (by ktr_rel) (r_ld V' O (by ktr_rel) (by ktr_rel) (r_sub O (.base hkl) vl ?_)))))))))))) 
      clear O; intro s₁₉ e₁₉ O
      refine r_arg (wpAny_Subscript_Name_late (r_ldc V' O (by ktr_rel) (by ktr_rel) (r_ld V' O (by ktr_rel) (by ktr_rel) (r_sub O (.base hkk) vk ?_))))
      clear O; intro s₂₀ e₂₀ O
      refine r_arg (r_ldc V' O (by ktr_rel) (by ktr_rel) (r_arg (r_ldc V' O (by ktr_rel) (by ktr_rel) (r_args ⟨B.keeps O.keep, ?_⟩))))
      refine tells_true (Y := [(I, _), (D, _), (C, _), (L, _), (c5, _), (c4, _), (c3, _), (c2, _), (c1, _), (lt, _), (dr, _)]) B (R1.le (by decide)) O ok ns0 ri hT htv hqd nsr (by ktr_rel) (by ktr_rel) hg hll hls htk hts ?_
      clear O; intro s₂₁ e₂₁ O
      dsimp only [List.cons_append, List.nil_append] at O
      refine truth_bool ?_
      rw [if_neg (show ¬ (!true) = true by decide)]
      exact ⟨_, by ktr_rel, O, _, rfl, rfl⟩
    · intro C cs D ys Ψ s₁₇ jz7 e₁₇ O
      refine hide fun Gz hGz => ?_
      obtain ⟨v0, rfl, rfl⟩ := jz7
      refine hGz ?_
      refine post_some (h₀ := s.heap) (PyProof.Rows.assign_Name (r_st V O (by ktr_rel) (by ktr_rel) (by ktr_rel) ?_))
      clear O; intro s₁₈ e₁₈ O
      refine ei4 _ _ _ _ ⟨O, .tail .head, ?_⟩
      clear O; intro s₁₉ e₁₉ O
      -- if wrong != [] or flags.is_((), Flags.FROZEN) is not False: return []
      refine r_seq rfl (wpAny_If (wpAny_isTrue_BoolOp (wpAny_allTrue_Or_cons (wpAny_isTrue_Compare1 (r_ld V O (by ktr_rel) (by ktr_rel) (List_ (r_args (r_newLst O ?_))))))))
      clear O; intro b0 s₂₀ e₂₀ _ _ O
      refine r_rcne (lne_nil (O.get (by ktr_rel)) (O.get (by ktr_rel)) R1.cline) (truth_bool ?_)
      refine wpAny_allTrue_Or_cons (wpAny_isTrue_Compare1 (r_icall (r_ldc V O (by ktr_rel) (by ktr_rel) fun pl => r_imethod (B.keeps O.keep) (own_in [(b0, _), (D, _), (L, _), (c5, _), (c4, _), (c3, _), (c2, _), (c1, _), (lt, _), (dr, _)] O).fi (map_mem (n72s w) ("is_", .ref 70) (by ktr_rel)) (fn_is w).FA.isd ⟨_, rfl, rfl⟩ ob_is (inst0_is _ _) ?_)))
      refine r_fnk (kws := []) (fn_is w).FA (r_arg (Tuple_ (r_args (r_newTup O ?_))))
      clear O; intro te s₂₁ e₂₁ _ _ O
      refine r_arg (Attribute_Name_ (r_glob V (B.keeps O.keep) (by ktr_rel) (by ktr_rel) (r_frozen (B.keeps O.keep) fun t₂ s₂₂ e₂₂ h₂₂ => r_args (wpAny_pure ⟨h₂₂ ▸ B.keeps O.keep, ?_⟩))))
      replace O : Own s.heap s₂₂.heap _ := h₂₂ ▸ O
      refine is_spec (k := []) (ts := []) (B.keeps O.keep) (R1.le (by decide)) (own_TR (own_in [(te, _), (b0, _), (D, _), (L, _), (c5, _), (c4, _), (c3, _), (c2, _), (c1, _), (lt, _), (dr, _)] O) ok ns0) (O.get (by ktr_rel)) .nil (by decide) (.inl rfl) fun s₂₃ e₂₃ k₂₃ => ?_
      replace O := O.kp k₂₃
      have hF : isF M [] 0 = false := by
        unfold isF
        rw [if_pos rfl, List.any_eq_false]
        intro n hn
        simp only [Bool.and_eq_true, decide_eq_true_eq, not_and, List.prefix_nil]
        exact fun _ => ok.ne n hn
      rw [hF]
      refine wpAny_Constant_bool (wpAny_isNot_self rfl (truth_bool (wpAny_allTrue_Or_nil (r_nil ?_))))
      refine r_seq rfl (wpAny_Return_some (r_ldc V O (by ktr_rel) (by ktr_rel) ?_))
      exact h lt tv _ (by ktr_rel) O.keep htv (O.toNew.sub ((List.singleton_sublist).mpr (by ktr_rel)))
end
end
section
section
open PySem.SeqAt
variable {w : World} {A : Around} {E : Value → Shared → Prop} {s : Shared} {h₀ : Heap} {Φ Φ' Y : List Cell} {env : Env} {L : Addr} {nm gl : List Str} {cl : List (Str × Addr)}
theorem fn_heads (w : World) : FnOK w 231 (bodyAt 28) ["run"] [] :=
  fnOK_of ⟨by kernel_rfl, by kernel_rfl, by kernel_rfl, by kernel_rfl, by kernel_rfl, by kernel_rfl, by kernel_rfl, by kernel_rfl, by kernel_rfl, by kernel_rfl⟩ (by kernel_rfl) (by kernel_rfl)
theorem fn_rooms (w : World) : FnOKc w 226 (bodyAt 27) ["lines", "spots"] ["run", "quotas"] [] :=
  ⟨⟨by kernel_rfl, by kernel_rfl, by kernel_rfl, by kernel_rfl, by kernel_rfl, by kernel_rfl, by kernel_rfl, by kernel_rfl, by kernel_rfl, by kernel_rfl⟩, by kernel_rfl, by kernel_rfl, by decide, by kernel_rfl⟩
theorem fn_only (w : World) : FnOKc w 236 (bodyAt 29) [] ["some", "others"] ["sorted", "enumerate"] :=
  ⟨⟨by kernel_rfl, by kernel_rfl, by kernel_rfl, by kernel_rfl, by kernel_rfl, by kernel_rfl, by kernel_rfl, by kernel_rfl, by kernel_rfl, by kernel_rfl⟩, by kernel_rfl, by kernel_rfl, by decide, by kernel_rfl⟩
theorem fn_differ (w : World) : FnOK w 243 (bodyAt 30) ["some", "others", "first", "second", "told"] ["sorted", "sorted_list_difference", "_law_only"] :=
  fnOK_of ⟨by kernel_rfl, by kernel_rfl, by kernel_rfl, by kernel_rfl, by kernel_rfl, by kernel_rfl, by kernel_rfl, by kernel_rfl, by kernel_rfl, by kernel_rfl⟩ (by kernel_rfl) (by kernel_rfl)
theorem fn_commonpath (w : World) : FnOKc w 183 (bodyAt 18) ["paths", "split_paths", "isabs", "c", "s1", "s2", "common", "i", "prefix"] ["sep", "curdir"] ["tuple", "map", "fspath", "isinstance", "bytes", "min", "max", "enumerate"] :=
  ⟨⟨by kernel_rfl, by kernel_rfl, by kernel_rfl, by kernel_rfl, by kernel_rfl, by kernel_rfl, by kernel_rfl, by kernel_rfl, by kernel_rfl, by kernel_rfl⟩, by kernel_rfl, by kernel_rfl, by decide, by kernel_rfl⟩
theorem fn_sld (w : World) : FnOK w 190 (bodyAt 20) ["expected", "actual", "i", "j", "missing", "unexpected", "e", "a"] ["IndexError"] :=
  fnOK_of ⟨by kernel_rfl, by kernel_rfl, by kernel_rfl, by kernel_rfl, by kernel_rfl, by kernel_rfl, by kernel_rfl, by kernel_rfl, by kernel_rfl, by kernel_rfl⟩ (by kernel_rfl) (by kernel_rfl)
end
end
section
section
variable {w : World} {A : Around} {E : Value → Shared → Prop} {s : Shared} {h₀ : Heap} {Φ Φ' Y : List Cell} {env : Env} {L : Addr} {nm gl : List Str} {cl : List (Str × Addr)}
theorem r_sorted {l : Addr} {vs : List Value} {ss : List Str} {Q : Value → Shared → Prop} (O : Own h₀ s.heap Φ) (hl : Has h₀ Φ l (lstP vs)) (hS : StrsAre vs ss) (h64 : vs.length < 64)
    (h : ∀ a vs' ss' s', Sm s s' → StrsAre vs' ss' → ss'.Perm ss → sortedS ss' = true → Own h₀ s'.heap ((a, lstP vs') :: Φ) → Q (.ref a) s') : wpAny (model PR w) A (call (.builtin "sorted") [.ref l]) Q E s := by
  refine sorted_strs (lstP.is (hl.get O)) hS h64 fun out ss' a1 a2 a3 => ?_
  obtain ⟨e, he⟩ := sortedAll_at s.heap vs out
  have k : Kp s.heap (sortedAll s.heap vs out) := fun _ _ => sortedAll_old
  have hn : s.heap.get? (s.heap.objs.size + 1) = none := by
    cases q : s.heap.get? (s.heap.objs.size + 1) with
    | none => rfl
    | some o => exact absurd (Nat.lt_trans (Nat.lt_succ_self _) (Heap.lt_size q)) (Nat.lt_irrefl _)
  refine h _ out.toList ss' _ Sm.mk' a1 a2 a3 (O.new (Ψ := [(s.heap.objs.size + 1, lstP out.toList)]) k (New.one hn ⟨_, he, e, rfl⟩))
end
end
section
section
open PySem.SeqAt PySem.MeetsSeq PySem.MeetsSeq2 PySem.MeetsSeq3
open AutoSeq1 (wpAny_loadPart')
/-! ## order of lists of texts -/
noncomputable def ltStr (x y : Str) : Bool := decide (x.cps.toList < y.cps.toList)
noncomputable def ltSS : List Str → List Str → Bool
  | [], [] => false
  | [], _ :: _ => true
  | _ :: _, [] => false
  | x :: xs, y :: ys => if x = y then ltSS xs ys else ltStr x y
theorem ltSS_nil (l : List Str) : ltSS l [] = false := by cases l <;> rfl
theorem nil_ltSS (l : List Str) : ltSS [] l = decide (0 < l.length) := by cases l <;> simp [ltSS]
theorem strs_at {xs : List Value} {ss : List Str} (h : StrsAre xs ss) {i : Nat} (hi : i < ss.length) : ∃ t, xs[i]? = some (.str ss[i] t) := by
  have hl : i < xs.length := by rw [h.length]; exact hi
  obtain ⟨y, t, e, hy⟩ := h.item i xs[i] (by simp [hl])
  rw [List.getElem?_eq_getElem hi] at hy
  injection hy with hy
  exact ⟨t, by rw [List.getElem?_eq_getElem hl, e, hy]⟩
theorem ltStr_rc {prog : Program} {w : World} {A : Around} {E : Value → Shared → Prop} {s : Shared} {x y : Str} {t u : Tok} {Q : Value → Shared → Prop} (h : Q (.bool (ltStr x y)) s) : wpAny (model prog w) A (richCompare .Lt (.str x t) (.str y u)) Q E s :=
  lt_str h
theorem gtStr_rc {prog : Program} {w : World} {A : Around} {E : Value → Shared → Prop} {s : Shared} {x y : Str} {t u : Tok} {Q : Value → Shared → Prop} (h : Q (.bool (ltStr y x)) s) : wpAny (model prog w) A (richCompare .Gt (.str x t) (.str y u)) Q E s :=
  compareOp_gives (op := .Gt) (typeIs_str s x t) (typeIs_str s y u) F.slot_str_gt F.entry_str_gt (F.args_str_gt_2 _ _) (gives_str_gt x y t u) (fun e => nomatch e) h
theorem lt_loopAt (l b : Addr) (items items2 : Array Value) (ss ts : List Str) (hx : StrsAre items.toList ss) (hy : StrsAre items2.toList ts) (n n2 : Nat) (dd dd2 : Option Addr) (sl sl2 : Array (Option Value)) (k : Nat) :
    ∀ i : Nat, ss.length - i = k → i ≤ ss.length → i ≤ ts.length → Meets (Builtin.«list.__eq__.loop» ⟨[.ref l, .ref b, rawInt i, rawInt 0], []⟩)
      (fun A R s => s.heap.get? l = some { cls := .type "list", dict := dd, data := .seq items n, slots := sl } ∧ s.heap.get? b = some { cls := .type "list", dict := dd2, data := .seq items2 n2, slots := sl2 } ∧
        R (.ok (.ret (.bool (ltSS (ss.drop i) (ts.drop i))))) s) := by
  have z1 : items.size = ss.length := by simpa using hx.length
  have z2 : items2.size = ts.length := by simpa using hy.length
  induction k with
  | zero =>
    intro i hk hi1' hi2' prog w A R s h
    obtain ⟨hp, g, d, tk, os⟩ := s; obtain ⟨hl, hb, h⟩ := h
    wp_walk using wpAny_loadPart' hl, wpAny_loadPart' hb
    have hi1 : items[((i : Nat) : Int).toNat]? = none := by simp; lia
    rw [hi1]
    wp_walk using wpAny_loadPart' hl, wpAny_loadPart' hb
    show R (.ok (.ret (.bool (decide (items.size < items2.size))))) _
    rw [List.drop_of_length_le (show ss.length ≤ i by lia), nil_ltSS, List.length_drop] at h
    rw [show decide (items.size < items2.size) = decide (0 < ts.length - i) by rw [z1, z2]; congr 1; apply propext; lia]
    exact h
  | succ k ih =>
    intro i hk hi1' hi2' prog w A R s h
    obtain ⟨hp, g, d, tk, os⟩ := s; obtain ⟨hl, hb, h⟩ := h
    wp_walk using wpAny_loadPart' hl, wpAny_loadPart' hb
    have hlt : i < ss.length := by lia
    obtain ⟨t, ht⟩ := strs_at hx hlt
    have hi1 : items[((i : Nat) : Int).toNat]? = some (.str ss[i] t) := by simpa using ht
    rw [hi1]
    by_cases hlt2 : i < ts.length
    · obtain ⟨u, hu⟩ := strs_at hy hlt2
      have hi2 : items2[((i : Nat) : Int).toNat]? = some (.str ts[i] u) := by simpa using hu
      rw [hi2]
      rw [List.drop_eq_getElem_cons hlt, List.drop_eq_getElem_cons hlt2, ltSS] at h
      refine wpAny_bind (EqAt.str_str _ t _ u prog w _ _ ?_)
      have hc : ((i : Int) + 1) = ((i + 1 : Nat) : Int) := by push_cast; rfl
      by_cases he : ss[i] = ts[i]
      · rw [if_pos he] at h
        rw [show (ss[i] == ts[i]) = true by simpa using he]
        wp_walk
        rw [hc]
        exact ⟨plainId_quiet plain_eq_loop _, codeAny_builtin entry_eq_loop (by
          rw [Around.under_plainId plain_eq_loop _]
          exact ih (i + 1) (by lia) (by lia) (by lia) prog w A R _ ⟨hl, hb, h⟩)⟩
      · rw [if_neg he] at h
        rw [show (ss[i] == ts[i]) = false by simpa using he]
        wp_walk using wpAny_loadPart' hl, wpAny_loadPart' hb
        rw [hi1, hi2]
        refine wpAny_bind (ltStr_rc ?_)
        refine wpAny_pure ?_
        exact h
    · have hi2 : items2[((i : Nat) : Int).toNat]? = none := by simp; lia
      rw [hi2]
      wp_walk using wpAny_loadPart' hl, wpAny_loadPart' hb
      show R (.ok (.ret (.bool (decide (items.size < items2.size))))) _
      rw [List.drop_of_length_le (show ts.length ≤ i by lia), ltSS_nil] at h
      rw [show decide (items.size < items2.size) = false by rw [z1, z2]; simp; lia]
      exact h
theorem gt_loopAt (l b : Addr) (items items2 : Array Value) (ss ts : List Str) (hx : StrsAre items.toList ss) (hy : StrsAre items2.toList ts) (n n2 : Nat) (dd dd2 : Option Addr) (sl sl2 : Array (Option Value)) (k : Nat) :
    ∀ i : Nat, ss.length - i = k → i ≤ ss.length → i ≤ ts.length → Meets (Builtin.«list.__eq__.loop» ⟨[.ref l, .ref b, rawInt i, rawInt 4], []⟩)
      (fun A R s => s.heap.get? l = some { cls := .type "list", dict := dd, data := .seq items n, slots := sl } ∧ s.heap.get? b = some { cls := .type "list", dict := dd2, data := .seq items2 n2, slots := sl2 } ∧
        R (.ok (.ret (.bool (ltSS (ts.drop i) (ss.drop i))))) s) := by
  have z1 : items.size = ss.length := by simpa using hx.length
  have z2 : items2.size = ts.length := by simpa using hy.length
  induction k with
  | zero =>
    intro i hk hi1' hi2' prog w A R s h
    obtain ⟨hp, g, d, tk, os⟩ := s; obtain ⟨hl, hb, h⟩ := h
    wp_walk using wpAny_loadPart' hl, wpAny_loadPart' hb
    have hi1 : items[((i : Nat) : Int).toNat]? = none := by simp; lia
    rw [hi1]
    wp_walk using wpAny_loadPart' hl, wpAny_loadPart' hb
    show R (.ok (.ret (.bool (decide (items.size > items2.size))))) _
    rw [List.drop_of_length_le (show ss.length ≤ i by lia), ltSS_nil] at h
    rw [show decide (items.size > items2.size) = false by rw [z1, z2]; simp; lia]
    exact h
  | succ k ih =>
    intro i hk hi1' hi2' prog w A R s h
    obtain ⟨hp, g, d, tk, os⟩ := s; obtain ⟨hl, hb, h⟩ := h
    wp_walk using wpAny_loadPart' hl, wpAny_loadPart' hb
    have hlt : i < ss.length := by lia
    obtain ⟨t, ht⟩ := strs_at hx hlt
    have hi1 : items[((i : Nat) : Int).toNat]? = some (.str ss[i] t) := by simpa using ht
    rw [hi1]
    by_cases hlt2 : i < ts.length
    · obtain ⟨u, hu⟩ := strs_at hy hlt2
      have hi2 : items2[((i : Nat) : Int).toNat]? = some (.str ts[i] u) := by simpa using hu
      rw [hi2]
      rw [List.drop_eq_getElem_cons hlt, List.drop_eq_getElem_cons hlt2, ltSS] at h
      refine wpAny_bind (EqAt.str_str _ t _ u prog w _ _ ?_)
      have hc : ((i : Int) + 1) = ((i + 1 : Nat) : Int) := by push_cast; rfl
      by_cases he : ss[i] = ts[i]
      · rw [if_pos he.symm] at h
        rw [show (ss[i] == ts[i]) = true by simpa using he]
        wp_walk
        rw [hc]
        exact ⟨plainId_quiet plain_eq_loop _, codeAny_builtin entry_eq_loop (by
          rw [Around.under_plainId plain_eq_loop _]
          exact ih (i + 1) (by lia) (by lia) (by lia) prog w A R _ ⟨hl, hb, h⟩)⟩
      · rw [if_neg (Ne.symm he)] at h
        rw [show (ss[i] == ts[i]) = false by simpa using he]
        wp_walk using wpAny_loadPart' hl, wpAny_loadPart' hb
        rw [hi1, hi2]
        refine wpAny_bind (gtStr_rc ?_)
        refine wpAny_pure ?_
        exact h
    · have hi2 : items2[((i : Nat) : Int).toNat]? = none := by simp; lia
      rw [hi2]
      wp_walk using wpAny_loadPart' hl, wpAny_loadPart' hb
      show R (.ok (.ret (.bool (decide (items.size > items2.size))))) _
      rw [List.drop_of_length_le (show ts.length ≤ i by lia), nil_ltSS, List.length_drop] at h
      rw [show decide (items.size > items2.size) = decide (0 < ss.length - i) by rw [z1, z2]; congr 1; apply propext; lia]
      exact h
theorem list_ltAt (l b : Addr) (items items2 : Array Value) (ss ts : List Str) (hx : StrsAre items.toList ss) (hy : StrsAre items2.toList ts) (n n2 : Nat) (dd dd2 : Option Addr) (sl sl2 : Array (Option Value)) :
    Meets (Builtin.«list.__lt__» ⟨[.ref l, .ref b], []⟩)
      (fun A R s => s.heap.get? l = some { cls := .type "list", dict := dd, data := .seq items n, slots := sl } ∧ s.heap.get? b = some { cls := .type "list", dict := dd2, data := .seq items2 n2, slots := sl2 } ∧
        R (.ok (.ret (.bool (ltSS ss ts)))) s) := by
  intro prog w A R s h
  obtain ⟨hp, g, d, tk, os⟩ := s; obtain ⟨hl, hb, h⟩ := h
  have f3 := AutoSeq1.sub_list_list
  wp_walk using wpAny_loadPart' hl, wpAny_loadPart' hb
  exact ⟨plainId_quiet plain_eq_loop _, codeAny_builtin entry_eq_loop (by
    rw [Around.under_plainId plain_eq_loop _]
    exact lt_loopAt l b items items2 ss ts hx hy n n2 dd dd2 sl sl2 _ 0 rfl (Nat.zero_le _) (Nat.zero_le _) prog w A R _ ⟨hl, hb, h⟩)⟩
theorem list_gtAt (l b : Addr) (items items2 : Array Value) (ss ts : List Str) (hx : StrsAre items.toList ss) (hy : StrsAre items2.toList ts) (n n2 : Nat) (dd dd2 : Option Addr) (sl sl2 : Array (Option Value)) :
    Meets (Builtin.«list.__gt__» ⟨[.ref l, .ref b], []⟩)
      (fun A R s => s.heap.get? l = some { cls := .type "list", dict := dd, data := .seq items n, slots := sl } ∧ s.heap.get? b = some { cls := .type "list", dict := dd2, data := .seq items2 n2, slots := sl2 } ∧
        R (.ok (.ret (.bool (ltSS ts ss)))) s) := by
  intro prog w A R s h
  obtain ⟨hp, g, d, tk, os⟩ := s; obtain ⟨hl, hb, h⟩ := h
  have f3 := AutoSeq1.sub_list_list
  wp_walk using wpAny_loadPart' hl, wpAny_loadPart' hb
  exact ⟨plainId_quiet plain_eq_loop _, codeAny_builtin entry_eq_loop (by
    rw [Around.under_plainId plain_eq_loop _]
    exact gt_loopAt l b items items2 ss ts hx hy n n2 dd dd2 sl sl2 _ 0 rfl (Nat.zero_le _) (Nat.zero_le _) prog w A R _ ⟨hl, hb, h⟩)⟩
theorem rc_lt_lists {w : World} {A : Around} {E : Value → Shared → Prop} {s : Shared} {l b : Addr} {xs ys : List Value} {ss ts : List Str} {Q : Value → Shared → Prop} (hl : ∃ o, s.heap.get? l = some o ∧ lstP xs o) (hb : ∃ o, s.heap.get? b = some o ∧ lstP ys o) (hx : StrsAre xs ss) (hy : StrsAre ys ts) (hu : A.units < cLine)
    (h : Q (.bool (ltSS ss ts)) s) : wpAny (model PR w) A (richCompare .Lt (.ref l) (.ref b)) Q E s := by
  obtain ⟨⟨cls, dd, data, sl⟩, ho, hc, n, hd⟩ := id (lstP.is hl)
  obtain ⟨⟨cls2, dd2, data2, sl2⟩, ho2, hc2, n2, hd2⟩ := id (lstP.is hb)
  simp only at hc hd hc2 hd2
  subst hc hd hc2 hd2
  exact richCompare_meets_room (op := .Lt) ⟨_, ho, rfl⟩ ⟨_, ho2, rfl⟩ F.slot_list_lt F.entry_list_lt (F.args_list_lt_2 _ _) (list_ltAt l b _ _ ss ts hx hy n n2 dd dd2 sl sl2)
    ⟨ho, ho2, show Value.bool (ltSS ss ts) ≠ Value.notImplemented ∧ Q (.bool (ltSS ss ts)) s from ⟨(fun x => nomatch x), h⟩⟩ hu
theorem rc_gt_lists {w : World} {A : Around} {E : Value → Shared → Prop} {s : Shared} {l b : Addr} {xs ys : List Value} {ss ts : List Str} {Q : Value → Shared → Prop} (hl : ∃ o, s.heap.get? l = some o ∧ lstP xs o) (hb : ∃ o, s.heap.get? b = some o ∧ lstP ys o) (hx : StrsAre xs ss) (hy : StrsAre ys ts) (hu : A.units < cLine)
    (h : Q (.bool (ltSS ts ss)) s) : wpAny (model PR w) A (richCompare .Gt (.ref l) (.ref b)) Q E s := by
  obtain ⟨⟨cls, dd, data, sl⟩, ho, hc, n, hd⟩ := id (lstP.is hl)
  obtain ⟨⟨cls2, dd2, data2, sl2⟩, ho2, hc2, n2, hd2⟩ := id (lstP.is hb)
  simp only at hc hd hc2 hd2
  subst hc hd hc2 hd2
  exact richCompare_meets_room (op := .Gt) ⟨_, ho, rfl⟩ ⟨_, ho2, rfl⟩ F.slot_list_gt F.entry_list_gt (F.args_list_gt_2 _ _) (list_gtAt l b _ _ ss ts hx hy n n2 dd dd2 sl sl2)
    ⟨ho, ho2, show Value.bool (ltSS ts ss) ≠ Value.notImplemented ∧ Q (.bool (ltSS ts ss)) s from ⟨(fun x => nomatch x), h⟩⟩ hu
end
end
section
section
variable {w : World} {A : Around} {E : Value → Shared → Prop} {s s₀ : Shared} {h₀ : Heap} {Φ Φ' : List Cell} {I S : Addr} {n : Nat} {own : Nat → List Cell} {Nd : List Cell → Prop} {Y : Nat → Value → List Cell → Prop} {R : Result → Shared → Prop}
noncomputable def bestP (v : Value) : Obj → Prop := fun o => ∃ c, o = { cls := .type "list", dict := none, data := .seq #[v, v] c, slots := #[] }
theorem Own.best {h : Heap} {v : Value} (O : Own h₀ h Φ) (hm : (S, bestP v) ∈ Φ) : ∃ c, h.get? S = some { cls := .type "list", dict := none, data := .seq #[v, v] c, slots := #[] } :=
  let ⟨_, e, c, h⟩ := O.get hm; ⟨c, h ▸ e⟩
theorem r_min_loop (W : IterOK w A.in1 h₀ I n own Nd Y) (bt : Nat → Nat → Bool) (P : Nat → Value → Prop) (hY : ∀ i v Ψ, Y i v Ψ → P i v ∧ Ψ = []) (hN : ∀ vb, Nd ((S, bestP vb) :: Φ))
    (hcmp : ∀ i j vi vj (s : Shared) (Ψ : List Cell) (Q : Value → Shared → Prop) (E : Value → Shared → Prop), P i vi → P j vj → Own h₀ s.heap (Ψ ++ Φ) → Q (.bool (bt i j)) s → wpAny (model PR w) A.in1 (richCompare .Lt vi vj) Q E s)
    (hR : ∀ v s', P (argBest bt (n - 1)) v → Sm s₀ s' → Own h₀ s'.heap Φ → R (.ok (.ret v)) s') :
    ∀ (k j : Nat) (s : Shared) (vb : Value), n - (j + 1) = k → j + 1 ≤ n → Sm s₀ s → Own h₀ s.heap (own (j + 1) ++ (S, bestP vb) :: Φ) → P (argBest bt j) vb →
    codeAny (model PR w) A (.builtin "min.loop" ⟨[.ref I, .none, .ref S], []⟩) R s := by
  have hname : (toString "min" ++ toString ".loop" : String) = "min.loop" := by decide
  intro k
  induction k with
  | zero =>
    intro j s vb hk hj e O hP
    have hin : j + 1 = n := by lia
    obtain ⟨c, hS⟩ := O.best (List.mem_append_right _ List.mem_cons_self)
    refine codeAny_builtin F.entry_min_loop ?_
    rw [Around.under_plainId F.plain_min_loop _]
    show wpAny _ A.in1 (seqItems? (.ref S) >>= _) _ _ s
    refine wpAny_bind (wpAny_seqItems hS rfl ?_)
    show wpAny _ A.in1 (tryCatch (pyNext (.ref I)) _ >>= _) _ _ s
    refine wpAny_bind (wpAny_tryCatch (W.done s _ _ _ (hin ▸ O) (hN vb) fun s₁ e₁ O₁ => ?_))
    obtain ⟨c1, hS1⟩ := O₁.best List.mem_cons_self
    show wpAny _ A.in1 (updateSeq S (fun _ => #[]) >>= _) _ _ _
    refine wpAny_bind (wpAny_updateSeq hS1 rfl (wpAny_bind (wpAny_letGo (wpAny_pure ?_))))
    exact hR vb _ (by rw [← hin]; exact hP) (e.tr (e₁.tr Sm.mk')) (O₁.lose (fun b o hb e => (Heap.get?_update_other _ _ (Ne.symm hb)).trans e))
  | succ k ih =>
    intro j s vb hk hj e O hP
    have hlt : j + 1 < n := by lia
    obtain ⟨c, hS⟩ := O.best (List.mem_append_right _ List.mem_cons_self)
    refine codeAny_builtin F.entry_min_loop ?_
    rw [Around.under_plainId F.plain_min_loop _]
    show wpAny _ A.in1 (seqItems? (.ref S) >>= _) _ _ s
    refine wpAny_bind (wpAny_seqItems hS rfl ?_)
    show wpAny _ A.in1 (tryCatch (pyNext (.ref I)) _ >>= _) _ _ s
    refine wpAny_bind (wpAny_tryCatch (W.item (j + 1) s _ _ _ hlt O (hN vb) fun v Ψ s₁ y e₁ O₁ => ?_))
    obtain ⟨hv, rfl⟩ := hY _ _ _ y
    replace O₁ : Own h₀ s₁.heap (own (j + 1 + 1) ++ (S, bestP vb) :: Φ) := O₁
    obtain ⟨c1, hS1⟩ := O₁.best (List.mem_append_right _ List.mem_cons_self)
    show wpAny _ A.in1 (tryCatch (holding [v, v] (richCompare .Lt v vb >>= _)) _ >>= _) _ _ _
    refine wpAny_bind (wpAny_tryCatch (wpAny_holding (wpAny_bind (hcmp (j + 1) (argBest bt j) v vb _ (own (j + 1 + 1) ++ [(S, bestP vb)]) _ _ hv hP (by rw [List.append_assoc]; exact O₁) ?_))))
    refine wpAny_bind (wpAny_holding (wpAny_truthy_bool ?_))
    refine wpAny_bind (wpAny_letGo (wpAny_pure ?_))
    cases hb : bt (j + 1) (argBest bt j) with
    | true =>
      simp only [if_true]
      refine wpAny_bind (wpAny_updateSeq hS1 rfl (wpAny_bind (wpAny_letGo ?_)))
      rw [hname]
      refine wpAny_pure ⟨plainId_quiet F.plain_min_loop _, ih (j + 1) _ v (by lia) hlt (e.tr (e₁.tr Sm.mk')) ?_ (by simp only [argBest, hb, if_true]; exact hv)⟩
      have o2 : ∃ o, (s₁.heap.update S (Obj.mapSeq fun _ => #[v, v])).get? S = some o ∧ bestP v o := ⟨_, Heap.get?_update_self _ hS1 rfl, _, rfl⟩
      exact O₁.upd (upd_append .head) (Heap.SameBut.update _ _ _) o2
    | false =>
      simp only [Bool.false_eq_true, if_false]
      refine wpAny_bind (wpAny_letGo ?_)
      rw [hname]
      exact wpAny_pure ⟨plainId_quiet F.plain_min_loop _, ih (j + 1) _ vb (by lia) hlt (e.tr (e₁.tr Sm.mk')) O₁ (by simp only [argBest, hb, Bool.false_eq_true, if_false]; exact hP)⟩
theorem r_max_loop (W : IterOK w A.in1 h₀ I n own Nd Y) (bt : Nat → Nat → Bool) (P : Nat → Value → Prop) (hY : ∀ i v Ψ, Y i v Ψ → P i v ∧ Ψ = []) (hN : ∀ vb, Nd ((S, bestP vb) :: Φ))
    (hcmp : ∀ i j vi vj (s : Shared) (Ψ : List Cell) (Q : Value → Shared → Prop) (E : Value → Shared → Prop), P i vi → P j vj → Own h₀ s.heap (Ψ ++ Φ) → Q (.bool (bt i j)) s → wpAny (model PR w) A.in1 (richCompare .Gt vi vj) Q E s)
    (hR : ∀ v s', P (argBest bt (n - 1)) v → Sm s₀ s' → Own h₀ s'.heap Φ → R (.ok (.ret v)) s') :
    ∀ (k j : Nat) (s : Shared) (vb : Value), n - (j + 1) = k → j + 1 ≤ n → Sm s₀ s → Own h₀ s.heap (own (j + 1) ++ (S, bestP vb) :: Φ) → P (argBest bt j) vb →
    codeAny (model PR w) A (.builtin "max.loop" ⟨[.ref I, .none, .ref S], []⟩) R s := by
  have hname : (toString "max" ++ toString ".loop" : String) = "max.loop" := by decide
  intro k
  induction k with
  | zero =>
    intro j s vb hk hj e O hP
    have hin : j + 1 = n := by lia
    obtain ⟨c, hS⟩ := O.best (List.mem_append_right _ List.mem_cons_self)
    refine codeAny_builtin F.entry_max_loop ?_
    rw [Around.under_plainId F.plain_max_loop _]
    show wpAny _ A.in1 (seqItems? (.ref S) >>= _) _ _ s
    refine wpAny_bind (wpAny_seqItems hS rfl ?_)
    show wpAny _ A.in1 (tryCatch (pyNext (.ref I)) _ >>= _) _ _ s
    refine wpAny_bind (wpAny_tryCatch (W.done s _ _ _ (hin ▸ O) (hN vb) fun s₁ e₁ O₁ => ?_))
    obtain ⟨c1, hS1⟩ := O₁.best List.mem_cons_self
    show wpAny _ A.in1 (updateSeq S (fun _ => #[]) >>= _) _ _ _
    refine wpAny_bind (wpAny_updateSeq hS1 rfl (wpAny_bind (wpAny_letGo (wpAny_pure ?_))))
    exact hR vb _ (by rw [← hin]; exact hP) (e.tr (e₁.tr Sm.mk')) (O₁.lose (fun b o hb e => (Heap.get?_update_other _ _ (Ne.symm hb)).trans e))
  | succ k ih =>
    intro j s vb hk hj e O hP
    have hlt : j + 1 < n := by lia
    obtain ⟨c, hS⟩ := O.best (List.mem_append_right _ List.mem_cons_self)
    refine codeAny_builtin F.entry_max_loop ?_
    rw [Around.under_plainId F.plain_max_loop _]
    show wpAny _ A.in1 (seqItems? (.ref S) >>= _) _ _ s
    refine wpAny_bind (wpAny_seqItems hS rfl ?_)
    show wpAny _ A.in1 (tryCatch (pyNext (.ref I)) _ >>= _) _ _ s
    refine wpAny_bind (wpAny_tryCatch (W.item (j + 1) s _ _ _ hlt O (hN vb) fun v Ψ s₁ y e₁ O₁ => ?_))
    obtain ⟨hv, rfl⟩ := hY _ _ _ y
    replace O₁ : Own h₀ s₁.heap (own (j + 1 + 1) ++ (S, bestP vb) :: Φ) := O₁
    obtain ⟨c1, hS1⟩ := O₁.best (List.mem_append_right _ List.mem_cons_self)
    show wpAny _ A.in1 (tryCatch (holding [v, v] (richCompare .Gt v vb >>= _)) _ >>= _) _ _ _
    refine wpAny_bind (wpAny_tryCatch (wpAny_holding (wpAny_bind (hcmp (j + 1) (argBest bt j) v vb _ (own (j + 1 + 1) ++ [(S, bestP vb)]) _ _ hv hP (by rw [List.append_assoc]; exact O₁) ?_))))
    refine wpAny_bind (wpAny_holding (wpAny_truthy_bool ?_))
    refine wpAny_bind (wpAny_letGo (wpAny_pure ?_))
    cases hb : bt (j + 1) (argBest bt j) with
    | true =>
      simp only [if_true]
      refine wpAny_bind (wpAny_updateSeq hS1 rfl (wpAny_bind (wpAny_letGo ?_)))
      rw [hname]
      refine wpAny_pure ⟨plainId_quiet F.plain_max_loop _, ih (j + 1) _ v (by lia) hlt (e.tr (e₁.tr Sm.mk')) ?_ (by simp only [argBest, hb, if_true]; exact hv)⟩
      have o2 : ∃ o, (s₁.heap.update S (Obj.mapSeq fun _ => #[v, v])).get? S = some o ∧ bestP v o := ⟨_, Heap.get?_update_self _ hS1 rfl, _, rfl⟩
      exact O₁.upd (upd_append .head) (Heap.SameBut.update _ _ _) o2
    | false =>
      simp only [Bool.false_eq_true, if_false]
      refine wpAny_bind (wpAny_letGo ?_)
      rw [hname]
      exact wpAny_pure ⟨plainId_quiet F.plain_max_loop _, ih (j + 1) _ vb (by lia) hlt (e.tr (e₁.tr Sm.mk')) O₁ (by simp only [argBest, hb, Bool.false_eq_true, if_false]; exact hP)⟩
end
end
section
section
variable {w : World} {A : Around} {E : Value → Shared → Prop} {s s₀ : Shared} {h₀ : Heap} {Φ Φ' : List Cell}
theorem r_min {l : Addr} {xs : List Value} {Q : Value → Shared → Prop} (hh : A.handled = none) (O : Own h₀ s.heap Φ) (hl : Has h₀ Φ l (lstP xs)) (hne : 0 < xs.length) (bt : Nat → Nat → Bool)
    (hcmp : ∀ i j vi vj (s : Shared) (Ψ : List Cell) (Q : Value → Shared → Prop) (E : Value → Shared → Prop), xs[i]? = some vi → xs[j]? = some vj → Own h₀ s.heap (Ψ ++ Φ) → Q (.bool (bt i j)) s → wpAny (model PR w) A.in1 (richCompare .Lt vi vj) Q E s)
    (h : ∀ v s', xs[argBest bt (xs.length - 1)]? = some v → Sm s s' → Own h₀ s'.heap Φ → Q v s') :
    wpAny (model PR w) A (call (.builtin "min") [.ref l]) Q E s := by
  have hname : (toString "min" ++ toString ".loop" : String) = "min.loop" := by decide
  refine call_function_tree F.kind_min F.plain_min F.entry_min (F.args_min1 _) ?_
  show wpAny _ A.in1 (Builtin.Builtins.bindParams "min" ["key", "default"] 0 ⟨[], []⟩ >>= _) _ _ s
  refine wpAny_bind (wpAny_of_eq (show Builtin.Builtins.bindParams "min" ["key", "default"] 0 ⟨[], []⟩ = pure [none, none] from rfl) ?_)
  refine wpAny_bind (wpAny_pure ?_)
  refine wpAny_bind (r_it_list O hl fun I s₁ e₁ O₁ => ?_)
  refine wpAny_bind (wpAny_newObj_type ?_)
  rw [hname]
  have O₂ := own_pushed O₁ (fun o => o = seqObj "list" #[] 0) (o := seqObj "list" #[] 0) rfl rfl
  have W : IterOK w A.in1 h₀ I xs.length (fun i => [(I, litP l i)]) (fun Φ => Has h₀ Φ l (lstP xs)) (fun i v Ψ => xs[i]? = some v ∧ Ψ = []) := iter_list hh
  refine wpAny_pure ⟨plainId_quiet F.plain_min_loop _, ?_⟩
  refine codeAny_builtin F.entry_min_loop ?_
  rw [Around.under_plainId F.plain_min_loop _]
  show wpAny _ A.in1 (seqItems? (.ref _) >>= _) _ _ _
  obtain ⟨o0, g0, q0⟩ := O₂.get (List.mem_cons_self)
  subst q0
  refine wpAny_bind (wpAny_seqItems g0 rfl ?_)
  show wpAny _ A.in1 (tryCatch (pyNext (.ref I)) _ >>= _) _ _ _
  refine wpAny_bind (wpAny_tryCatch (W.item 0 _ ((s₁.heap.objs.size, fun o => o = seqObj "list" #[] 0) :: Φ) _ _ hne ?_ (hl.mono fun _ hp => List.mem_cons_of_mem _ hp) fun v Ψ s₂ y e₂ O₃ => ?_))
  · exact O₂.perm (List.Perm.swap _ _ _)
  obtain ⟨hv, rfl⟩ := y
  obtain ⟨o1, g1, q1⟩ := O₃.get (List.mem_append_right _ List.mem_cons_self)
  subst q1
  refine wpAny_bind (wpAny_pure ?_)
  show wpAny _ A.in1 (updateSeq s₁.heap.objs.size (fun _ => #[v, v]) >>= _) _ _ _
  refine wpAny_bind (wpAny_updateSeq g1 rfl ?_)
  rw [hname]
  have o2 : ∃ o, (s₂.heap.update s₁.heap.objs.size (Obj.mapSeq fun _ => #[v, v])).get? s₁.heap.objs.size = some o ∧ bestP v o := ⟨_, Heap.get?_update_self _ g1 rfl, _, rfl⟩
  refine wpAny_pure ⟨plainId_quiet F.plain_min_loop _, r_min_loop (s₀ := s₂) W bt (fun i v => xs[i]? = some v) (fun _ _ _ h => h) (fun vb => hl.mono fun _ hp => List.mem_cons_of_mem _ hp) hcmp
    (fun v s' hv e' O' => h v s' hv (e₁.tr ((Sm.mk').tr (e₂.tr e'))) O') _ 0 _ v rfl hne Sm.mk' ?_ hv⟩
  exact O₃.upd (upd_append .head) (Heap.SameBut.update _ _ _) o2
theorem r_max {l : Addr} {xs : List Value} {Q : Value → Shared → Prop} (hh : A.handled = none) (O : Own h₀ s.heap Φ) (hl : Has h₀ Φ l (lstP xs)) (hne : 0 < xs.length) (bt : Nat → Nat → Bool)
    (hcmp : ∀ i j vi vj (s : Shared) (Ψ : List Cell) (Q : Value → Shared → Prop) (E : Value → Shared → Prop), xs[i]? = some vi → xs[j]? = some vj → Own h₀ s.heap (Ψ ++ Φ) → Q (.bool (bt i j)) s → wpAny (model PR w) A.in1 (richCompare .Gt vi vj) Q E s)
    (h : ∀ v s', xs[argBest bt (xs.length - 1)]? = some v → Sm s s' → Own h₀ s'.heap Φ → Q v s') :
    wpAny (model PR w) A (call (.builtin "max") [.ref l]) Q E s := by
  have hname : (toString "max" ++ toString ".loop" : String) = "max.loop" := by decide
  refine call_function_tree F.kind_max F.plain_max F.entry_max (F.args_max1 _) ?_
  show wpAny _ A.in1 (Builtin.Builtins.bindParams "max" ["key", "default"] 0 ⟨[], []⟩ >>= _) _ _ s
  refine wpAny_bind (wpAny_of_eq (show Builtin.Builtins.bindParams "max" ["key", "default"] 0 ⟨[], []⟩ = pure [none, none] from rfl) ?_)
  refine wpAny_bind (wpAny_pure ?_)
  refine wpAny_bind (r_it_list O hl fun I s₁ e₁ O₁ => ?_)
  refine wpAny_bind (wpAny_newObj_type ?_)
  rw [hname]
  have O₂ := own_pushed O₁ (fun o => o = seqObj "list" #[] 0) (o := seqObj "list" #[] 0) rfl rfl
  have W : IterOK w A.in1 h₀ I xs.length (fun i => [(I, litP l i)]) (fun Φ => Has h₀ Φ l (lstP xs)) (fun i v Ψ => xs[i]? = some v ∧ Ψ = []) := iter_list hh
  refine wpAny_pure ⟨plainId_quiet F.plain_max_loop _, ?_⟩
  refine codeAny_builtin F.entry_max_loop ?_
  rw [Around.under_plainId F.plain_max_loop _]
  show wpAny _ A.in1 (seqItems? (.ref _) >>= _) _ _ _
  obtain ⟨o0, g0, q0⟩ := O₂.get (List.mem_cons_self)
  subst q0
  refine wpAny_bind (wpAny_seqItems g0 rfl ?_)
  show wpAny _ A.in1 (tryCatch (pyNext (.ref I)) _ >>= _) _ _ _
  refine wpAny_bind (wpAny_tryCatch (W.item 0 _ ((s₁.heap.objs.size, fun o => o = seqObj "list" #[] 0) :: Φ) _ _ hne ?_ (hl.mono fun _ hp => List.mem_cons_of_mem _ hp) fun v Ψ s₂ y e₂ O₃ => ?_))
  · exact O₂.perm (List.Perm.swap _ _ _)
  obtain ⟨hv, rfl⟩ := y
  obtain ⟨o1, g1, q1⟩ := O₃.get (List.mem_append_right _ List.mem_cons_self)
  subst q1
  refine wpAny_bind (wpAny_pure ?_)
  show wpAny _ A.in1 (updateSeq s₁.heap.objs.size (fun _ => #[v, v]) >>= _) _ _ _
  refine wpAny_bind (wpAny_updateSeq g1 rfl ?_)
  rw [hname]
  have o2 : ∃ o, (s₂.heap.update s₁.heap.objs.size (Obj.mapSeq fun _ => #[v, v])).get? s₁.heap.objs.size = some o ∧ bestP v o := ⟨_, Heap.get?_update_self _ g1 rfl, _, rfl⟩
  refine wpAny_pure ⟨plainId_quiet F.plain_max_loop _, r_max_loop (s₀ := s₂) W bt (fun i v => xs[i]? = some v) (fun _ _ _ h => h) (fun vb => hl.mono fun _ hp => List.mem_cons_of_mem _ hp) hcmp
    (fun v s' hv e' O' => h v s' hv (e₁.tr ((Sm.mk').tr (e₂.tr e'))) O') _ 0 _ v rfl hne Sm.mk' ?_ hv⟩
  exact O₃.upd (upd_append .head) (Heap.SameBut.update _ _ _) o2
end
end
section
section
variable {w : World} {A : Around} {E : Value → Shared → Prop} {s : Shared} {h₀ : Heap} {Φ Φ' : List Cell}
theorem mp_owner : Manifest.owners.lookup (String.ofList ['p', 'a', 'm'].reverse) = some Manifest.sig_map := by kernel_rfl
theorem mp_iter : Slot "map" "__iter__" "map.__iter__" :=
  .of (owner := "map") (n := "__iter__") (by rw [typeLookup_type, builtinLookup_eq_fast]; kernel_rfl) (by decide +kernel) (by decide +kernel) (by decide +kernel)
    (by first | exact .inl (by decide +kernel) | exact .inr (by decide +kernel)) (by rw [isSubtype_type]; kernel_rfl)
theorem mp_next : Slot "map" "__next__" "map.__next__" :=
  .of (owner := "map") (n := "__next__") (by rw [typeLookup_type, builtinLookup_eq_fast]; kernel_rfl) (by decide +kernel) (by decide +kernel) (by decide +kernel)
    (by first | exact .inl (by decide +kernel) | exact .inr (by decide +kernel)) (by rw [isSubtype_type]; kernel_rfl)
theorem mp_init : Slot "map" "__init__" "object.__init__" :=
  .of (owner := "object") (n := "__init__") (by rw [typeLookup_type, builtinLookup_eq_fast]; kernel_rfl) (by decide +kernel) (by decide +kernel) (by decide +kernel)
    (by first | exact .inl (by decide +kernel) | exact .inr (by decide +kernel)) (by rw [isSubtype_type]; kernel_rfl)
theorem mp_entry_next : entryFor table "map.__next__" = some Builtin.«map.__next__» := entryFor_of_tree (by kernel_rfl)
theorem mp_args_next (a : Value) : argsOk "map.__next__" ⟨[a], []⟩ := by
  unfold argsOk; rw [signature?_of (id := "map.__next__") (n := ['_', '_', 't', 'x', 'e', 'n', '_', '_']) (o := ['p', 'a', 'm']) (by kernel_rfl) mp_owner]; kernel_rfl
theorem mp_args_iter (a : Value) : argsOk "map.__iter__" ⟨[a], []⟩ := by
  unfold argsOk; rw [signature?_of (id := "map.__iter__") (n := ['_', '_', 'r', 'e', 't', 'i', '_', '_']) (o := ['p', 'a', 'm']) (by kernel_rfl) mp_owner]; kernel_rfl
theorem mp_entry_iter : entryFor table "map.__iter__" = some Builtin.«dict_keyiterator.__iter__» :=
  entryFor_alias (id' := "dict_keyiterator.__iter__") (by kernel_rfl) (by first | rfl | decide +kernel | (unfold String.splitOn; simp +decide [String.splitOnAux])) (by decide +kernel) (by kernel_rfl)
theorem mp_mro : mroOf (.type "map") = pure [.type "map", .type "object"] := by rw [mroOf_type]; kernel_rfl
theorem mp_lookup_new : typeLookup (.type "map") "__new__" = pure (some (.builtin "map.__new__")) := by rw [typeLookup_type, builtinLookup_eq_fast]; kernel_rfl
theorem mp_called : TypeCalled "map" "map.__new__" "object.__init__" :=
  ⟨by decide +kernel, by decide +kernel, ⟨_, _, mp_mro⟩, madeBy_type mp_mro mp_lookup_new (by decide +kernel), by decide +kernel, by rw [isSubtype_type]; kernel_rfl, mp_init⟩
theorem mp_typeCall (a b : Value) : checkTypeCall "map" ⟨[a, b], []⟩ = pure () := by kernel_rfl
theorem mp_newCall (a b : Value) : checkBuiltinCall "map.__new__" ⟨[.type "map", a, b], []⟩ = pure () := by kernel_rfl
theorem mp_entry_new : entryFor table "map.__new__" = some Builtin.«map.__new__» := entryFor_of_tree (by kernel_rfl)
theorem mp_plain_new : plainId "map.__new__" = true := by decide +kernel
theorem mp_sub : isSubtype (.type "map") (.type "map") = pure true := by rw [isSubtype_type]; kernel_rfl
theorem mp_no_len : typeLookup (.type "map") "__len__" = pure none := by rw [typeLookup_type, builtinLookup_eq_fast]; kernel_rfl
theorem mp_no_hint : typeLookup (.type "map") "__length_hint__" = pure none := by rw [typeLookup_type, builtinLookup_eq_fast]; kernel_rfl
noncomputable def mapP (T : Addr) (f : Value) : Obj → Prop := fun o => o = { cls := .type "map", dict := none, data := .fields #[.ref T, f], slots := #[] }
theorem r_map {l : Addr} {f : Value} {xs : List Value} {Q : Value → Shared → Prop} (O : Own h₀ s.heap Φ) (hl : Has h₀ Φ l (lstP xs))
    (h : ∀ M T I s', Sm s s' → Own h₀ s'.heap ((M, mapP T f) :: (T, tupP [.ref I]) :: (I, litP l 0) :: Φ) → Q (.ref M) s') : wpAny (model PR w) A (call (.type "map") [f, .ref l]) Q E s := by
  refine callType_codes (Q₁ := fun obj s₁ => s₁.TypeIs obj "map" ∧ Q obj s₁) mp_called (mp_typeCall _ _) F.entry_object_init ?_
    fun obj s₁ h₁ => ⟨h₁.1, F.args_object_init_3 obj _ _, object_init_meets mp_called.init.lookup mp_called.made (by decide) PR w A.in1 _ s₁ ⟨h₁.1, rfl, h₁.2⟩⟩
  refine codeAny_of_tree ?_
  show wpAny _ A.in1.in1 (do checkBuiltinCall "map.__new__" ⟨[.type "map", f, .ref l], []⟩; again (.builtin "map.__new__" ⟨[.type "map", f, .ref l], []⟩)) _ _ s
  refine wpAny_bind (wpAny_of_eq (mp_newCall _ _) (wpAny_pure ⟨plainId_quiet mp_plain_new _, codeAny_builtin mp_entry_new ?_⟩))
  rw [Around.under_plainId mp_plain_new _]
  show wpAny _ _ (Builtin.SmallTypes.newClass "map" ⟨[.type "map", f, .ref l], []⟩ >>= _) _ _ s
  refine wpAny_bind (wpAny_of_eq (a := (.type "map", [f, .ref l])) ?_ ?_)
  · unfold Builtin.SmallTypes.newClass
    simp only [mp_sub]
    rfl
  refine wpAny_bind (wpAny_of_eq (a := ()) (by rfl) ?_)
  show wpAny _ _ (Builtin.SmallTypes.iterAll [.ref l] >>= _) _ _ s
  refine wpAny_bind ?_
  unfold Builtin.SmallTypes.iterAll
  simp only [List.forIn_cons, List.forIn_nil]
  refine wpAny_bind (wpAny_bind (wpAny_bind (wpAny_holding (r_it_list O hl fun I s₁ e₁ O₁ => wpAny_pure (wpAny_pure (wpAny_pure ?_))))))
  refine wpAny_bind (r_newTup O₁ fun T s₂ e₂ _ _ O₂ => ?_)
  refine wpAny_bind ?_
  unfold Builtin.SmallTypes.newRecord
  refine wpAny_newObj_type (wpAny_pure ⟨⟨_, Heap.get?_push_size _ rfl, rfl⟩, ?_⟩)
  have O₃ := own_pushed O₂ (mapP T f) (o := { cls := .type "map", data := .fields [Value.ref T, f].toArray }) rfl rfl
  exact h _ T I _ (e₁.tr (e₂.tr Sm.mk')) O₃
end
end
section
section
open PySem.SeqAt
variable {w : World} {A : Around} {E : Value → Shared → Prop} {s : Shared} {h₀ : Heap} {Φ Φ' Y : List Cell} {env : Env} {L : Addr} {nm gl : List Str} {cl : List (Str × Addr)}
theorem cs_two {cs : List (Str × Addr)} {x1 x2 : Str} (h : cs.map (·.1) = [x1, x2]) : ∃ c1 c2, cs = [(x1, c1), (x2, c2)] := by
  match cs, h with
  | [(y1, c1), (y2, c2)], h => exact ⟨c1, c2, by simp at h; obtain ⟨a, b⟩ := h; rw [a, b]⟩
noncomputable def onlyN (ss ts : List Str) : Nat → List Str
  | 0 => []
  | i + 1 => onlyN ss ts i ++ (if ((ss.take i).any (· == ss.getD i Str.empty) || ts.any (· == ss.getD i Str.empty)) = true then [] else [ss.getD i Str.empty])
theorem onlyN_len (ss ts : List Str) : ∀ i, (onlyN ss ts i).length ≤ i
  | 0 => Nat.le_refl _
  | i + 1 => by
    have := onlyN_len ss ts i
    unfold onlyN
    rw [List.length_append]
    split <;> simp <;> lia
theorem law_only_spec {la lb : Addr} {vs ws : List Value} {ss ts : List Str} {Q : Value → Shared → Prop} (B : Base w s.heap) (R : Rm A 3) (ha : ∃ o, s.heap.get? la = some o ∧ lstP vs o) (hb : ∃ o, s.heap.get? lb = some o ∧ lstP ws o) (hva : StrsAre vs ss) (hvb : StrsAre ws ts) (h64 : ss.length < 64)
    (h : ∀ a vs' ss' s', Sm s s' → Kp s.heap s'.heap → StrsAre vs' ss' → ss'.Perm (onlyN ss ts ss.length) → sortedS ss' = true → New s.heap s'.heap [(a, lstP vs')] → Q (.ref a) s') :
    wpAny (model PR w) A (call (.ref 236) [.ref la, .ref lb]) Q E s := by
  refine enterC (fn_only w) B (R.le (by decide)) [("some", .ref la), ("others", .ref lb)] (by kernel_rfl) ?_
  intro L env s₁ cs e₁ hcs V hck O hf
  obtain ⟨cO, cS, rfl⟩ := cs_two hcs
  have R1 : Rm (A.deeper env) 2 := R.deeper
  have hh := R1.hd
  replace O : Own s.heap s₁.heap [(cO, celP none), (cS, celP none), (L, locP [] [])] := O
  refine r_stc V (hck "some" (by ktr_rel)) O (by ktr_rel) (by ktr_rel) (by ktr_rel) ?_
  clear O; intro s₂ e₂ O
  refine r_stc V (hck "others" (by ktr_rel)) O (by ktr_rel) (by ktr_rel) (by ktr_rel) ?_
  clear O; intro s₃ e₃ O
  refine ⟨B.keeps O.keep, ?_⟩
  have lv : vs.length = ss.length := hva.length
  refine r_seq rfl (wpAny_Return_some (r_call (r_boot V (B.keeps O.keep) (by ktr_rel) (by ktr_rel) (r_bi (r_arg (r_lc V (blkOK_of (nm := ["k", "one"]) (cn := []) (fn := ["others", "some"]) (gl := []) (by kernel_rfl)) (cl' := [("some", cS), ("others", cO)]) rfl (fun p hp => ?_) (r_call (r_boot V (B.keeps O.keep) (by ktr_rel) (by ktr_rel) (r_ty (r_arg (r_ldc V O (by ktr_rel) (by ktr_rel) (r_args ?_))))))))))))
  · simp only [List.mem_cons, List.not_mem_nil, or_false] at hp ⊢
    rcases hp with rfl | rfl <;> simp
  refine r_enum_list O (.base ha) ?_
  clear O; intro e it s₄ e₄ O
  refine self_enum O ?_
  refine lc_block V (blkOK_of (nm := ["k", "one"]) (cn := []) (fn := ["others", "some"]) (gl := []) (by kernel_rfl)) rfl (iter_enum_list (xs := vs) hh (has_ne O.drop (.base ha))) (by lia)
    (fun C cs i ys Ψ => ∃ v0 v1, StrsAre ys (onlyN ss ts i) ∧ Ψ = (C, locP ["k", "one"] [v0, v1]) :: [(cO, celP (some (.ref lb))), (cS, celP (some (.ref la))), (L, locP [] [])]) O ?_ ?_ ?_ ?_
  · intro C cs hcs
    obtain rfl := cs_nil hcs
    exact ⟨_, _, .nil, rfl⟩
  · rintro C cs D i ys Ψ _ ⟨v0, v1, _, rfl⟩; exact .base ha
  · intro C cs D cenv V' hck' hfr hcs i v Ψ ys Ψ' s₅ hi jy0 jy1 e₅ O
    refine ex2 jy0 fun v0 v1 jx0 => And.elim (fun hys jr01 => ?_) jx0
    refine ex3 jy1 fun T ti x jx1 => an3 jx1 fun hx jr11 jr12 => ?_
    clear jx0 jy0
    subst jr01
    clear jx1 jy1
    subst jr11
    subst jr12
    obtain rfl := cs_nil hcs
    obtain ⟨y, tx, rfl, hy⟩ := hva.item i x hx
    dsimp only [List.cons_append, List.nil_append] at O V'
    refine r_pair hh O (.cell (by ktr_rel)) ?_
    clear O; intro s₆ e₆ O
    refine r_st V' O (by ktr_rel) (by ktr_rel) (by ktr_rel) ?_
    clear O; intro s₇ e₇ O
    refine r_st V' O (by ktr_rel) (by ktr_rel) (by ktr_rel) ?_
    clear O; intro s₈ e₈ O
    refine r_t1 (wpAny_isTrue_BoolOp (wpAny_allTrue_And_cons (wpAny_isTrue_Compare1 (r_ld V' O (by ktr_rel) (by ktr_rel) (Subscript_ (r_ldc V' O (by ktr_rel) (by ktr_rel) (wpAny_Slice (r_part_none (r_part (r_ld V' O (by ktr_rel) (by ktr_rel) (r_part_none ?_)))))))))))
    refine r_lslice O (.base ha) .none (.int _ _) (by lia) ?_
    clear O; intro sl s₉ e₉ O
    have hsl := slice_strs_upto hva (y := (i : Int)) (by lia) (by lia)
    rw [Int.toNat_natCast] at hsl
    refine notin_list_strs (lstP.is (O.get (by ktr_rel))) hsl (truth_bool ?_)
    have hgd : ss.getD i Str.empty = y := by rw [List.getD_eq_getElem?_getD, hy]; rfl
    have hstep : onlyN ss ts (i + 1) = onlyN ss ts i ++ (if ((ss.take i).any (· == y) || ts.any (· == y)) = true then [] else [y]) := by rw [onlyN, hgd]
    cases hb1 : (ss.take i).any (· == y) with
    | true =>
      rw [if_neg (show ¬ (!true) = true by decide)]
      refine ⟨_, by ktr_rel, O.pick (by ktr_rel), _, _, ?_, rfl⟩
      rw [hstep, hb1, Bool.true_or, if_pos rfl, List.append_nil]; exact hys
    | false =>
      rw [if_pos (show (!false) = true from rfl)]
      refine wpAny_allTrue_And_cons (wpAny_isTrue_Compare1 (r_ld V' O (by ktr_rel) (by ktr_rel) (r_ldc V' O (by ktr_rel) (by ktr_rel) ?_)))
      refine notin_list_strs (lstP.is ((Has.base hb).get O)) hvb (truth_bool ?_)
      cases hb2 : ts.any (· == y) with
      | true =>
        rw [if_neg (show ¬ (!true) = true by decide)]
        refine ⟨_, by ktr_rel, O.pick (by ktr_rel), _, _, ?_, rfl⟩
        rw [hstep, hb1, hb2, if_pos (show (false || true) = true from rfl), List.append_nil]; exact hys
      | false =>
        rw [if_pos (show (!false) = true from rfl)]
        refine wpAny_allTrue_And_nil ?_
        rw [if_pos rfl]
        refine r_ld V' O (by ktr_rel) (by ktr_rel) ⟨_, by ktr_rel, O.pick (by ktr_rel), _, _, ?_, rfl⟩
        rw [hstep, hb1, hb2, if_neg (by decide)]; exact kct_snoc hys
  · rintro C cs D ys Ψ s₅ ⟨v0, v1, hys, rfl⟩ e₅ O
    refine post_none O (.tail .head) ?_
    clear O; intro s₆ e₆ O
    rw [lv] at hys
    have hlen := hys.length
    have := onlyN_len ss ts ss.length
    refine r_args (r_sorted O (.cell (by ktr_rel)) hys (by lia) ?_)
    clear O; intro a vs' ss' s₇ e₇ h1 h2 h3 O
    exact h a vs' ss' _ (by ktr_rel) O.keep h1 h2 h3 (O.toNew.sub ((List.singleton_sublist).mpr (by ktr_rel)))
end
end
section
section
variable {w : World} {A : Around} {E : Value → Shared → Prop} {s : Shared} {h₀ : Heap} {Φ Φ' : List Cell}
theorem own_upd_sb {h h' : Heap} {c : Addr} {P : Obj → Prop} {X X' : List Cell} (O : Own h₀ h X) (U : Upd c P X X') (hs : Heap.SameBut c h h') (hP : ∃ o, h'.get? c = some o ∧ P o) : Own h₀ h' X' := O.upd U hs hP
noncomputable abbrev mapC (M T I l : Addr) (f : Value) (i : Nat) : List Cell := [(M, mapP T f), (T, tupP [.ref I]), (I, litP l i)]
theorem map_here {M T I l : Addr} {f : Value} {i : Nat} (O : Own h₀ s.heap (mapC M T I l f i ++ Φ)) : s.TypeIs (.ref M) "map" := by
  obtain ⟨o, ho, rfl⟩ := O.get (c := M) (P := mapP T f) (List.mem_append_left _ List.mem_cons_self)
  exact ⟨_, ho, rfl⟩
theorem self_map {M T I l : Addr} {f : Value} {i : Nat} {Q : Value → Shared → Prop} (O : Own h₀ s.heap (mapC M T I l f i ++ Φ)) (h : Q (.ref M) s) : wpAny (model PR w) A (pyIter (.ref M)) Q E s := by
  have hT := map_here O
  refine wpAny_pyIter_slot hT mp_iter (wpAny_call_entry mp_iter hT mp_entry_iter ?_ (mp_args_iter _))
  show wpAny _ _ (ret (.ref M)) _ _ s
  exact wpAny_pure ⟨_, rfl, "map", _, hT, mp_next.lookup, h⟩
/-- the items of map(f, list) -/
theorem iter_map {M T I l : Addr} {f : Value} {xs : List Value} {Z : Value → Value → Prop} (hh : A.handled = none)
    (hcall : ∀ x (s : Shared) (Φ : List Cell) (Q : Value → Shared → Prop) (E : Value → Shared → Prop), x ∈ xs → Own h₀ s.heap Φ → (∀ v s', Z x v → Sm s s' → Own h₀ s'.heap Φ → Q v s') → wpAny (model PR w) A.in1 (call f [x]) Q E s) :
    IterOK w A h₀ M xs.length (fun i => mapC M T I l f i) (fun Φ => Has h₀ Φ l (lstP xs)) (fun i v Ψ => (∃ x, xs[i]? = some x ∧ Z x v) ∧ Ψ = []) where
  item := fun i s Φ Q E hi O Nd hQ => by
    have hT := map_here O
    have hl : s.heap.IsList l xs.toArray := lstP.is ((Nd.mono (Φ' := mapC M T I l f i ++ Φ) fun p hp => List.mem_append_right _ hp).get O)
    have hit : s.heap.IsListIter I l i := litP.is (O.get (P := litP l i) (by simp))
    obtain ⟨oM, gM, rfl⟩ := O.get (c := M) (P := mapP T f) (by simp)
    obtain ⟨oT, gT, rfl⟩ := O.get (c := T) (P := tupP [.ref I]) (by simp)
    unfold pyNext
    refine wpAny_bind (wpAny_attempt (wpAny_callSpecial?_slot (name := Str.ofString "__next__") hT mp_next (wpAny_call_entry mp_next hT mp_entry_next ?_ (mp_args_next _))))
    show wpAny _ _ (field (.ref M) 0 >>= _) _ _ s
    refine wpAny_bind (wpAny_field gM rfl (x := .ref T) rfl ?_)
    show wpAny _ _ (seqItems? (.ref T) >>= _) _ _ s
    refine wpAny_bind (wpAny_seqItems gT rfl ?_)
    show wpAny _ _ (forIn [Value.ref I].toArray _ _ >>= _) _ _ s
    simp -iota only [List.forIn_toArray, List.forIn_cons, List.forIn_nil]
    obtain ⟨x, hx⟩ : ∃ x, xs[i]? = some x := ⟨_, List.getElem?_eq_getElem hi⟩
    refine wpAny_bind (wpAny_bind (wpAny_bind (wpAny_holding (wpAny_nextOf_list_item hit hl (x := x) (by simpa using hx) fun h' hit' hs' => wpAny_pure (wpAny_pure ?_)))))
    have O₁ : Own h₀ h' (mapC M T I l f (i + 1) ++ Φ) := O.upd (upd_right (.tail (.tail .head))) hs' (let ⟨o, a, b, c⟩ := hit'; ⟨o, a, b, c⟩)
    obtain ⟨oM, gM, rfl⟩ := O₁.get (c := M) (P := mapP T f) (by simp)
    show wpAny _ _ (field (.ref M) 1 >>= _) _ _ _
    refine wpAny_bind (wpAny_field gM rfl (x := f) rfl (wpAny_bind (wpAny_holding (hcall x _ _ _ _ (List.mem_of_getElem? hx) O₁ fun v s' hz e O₂ => ?_))))
    refine wpAny_bind (wpAny_letGo (wpAny_pure ⟨v, rfl, ?_⟩))
    refine wpAny_pure ?_
    exact hQ v [] s' ⟨⟨x, hx, hz⟩, rfl⟩ ((Sm.mk' (s := s) (h := h') (tk := s.toks)).tr e) O₂
  done := fun s Φ Q E O Nd hQ => by
    have hT := map_here O
    have hl : s.heap.IsList l xs.toArray := lstP.is ((Nd.mono (Φ' := mapC M T I l f xs.length ++ Φ) fun p hp => List.mem_append_right _ hp).get O)
    have hit : s.heap.IsListIter I l xs.length := litP.is (O.get (P := litP l xs.length) (by simp))
    obtain ⟨oM, gM, rfl⟩ := O.get (c := M) (P := mapP T f) (by simp)
    obtain ⟨oT, gT, rfl⟩ := O.get (c := T) (P := tupP [.ref I]) (by simp)
    unfold pyNext
    refine wpAny_bind (wpAny_attempt (wpAny_callSpecial?_slot (name := Str.ofString "__next__") hT mp_next (wpAny_call_entry mp_next hT mp_entry_next ?_ (mp_args_next _))))
    show wpAny _ _ (field (.ref M) 0 >>= _) _ _ s
    refine wpAny_bind (wpAny_field gM rfl (x := .ref T) rfl ?_)
    show wpAny _ _ (seqItems? (.ref T) >>= _) _ _ s
    refine wpAny_bind (wpAny_seqItems gT rfl ?_)
    show wpAny _ _ (forIn [Value.ref I].toArray _ _ >>= _) _ _ s
    simp -iota only [List.forIn_toArray, List.forIn_cons, List.forIn_nil]
    refine wpAny_bind (wpAny_bind (wpAny_bind (wpAny_holding (wpAny_nextOf_list_end (by exact hh) hit hl (by simp) fun h' e hs' he => ?_))))
    obtain ⟨o, ho, hc⟩ := he
    refine wpAny_bind (wpAny_isInstance (T := "StopIteration") (b := true) ⟨o, ho, hc⟩ isSubtype_stop ?_)
    refine wpAny_pure (hQ _ Sm.mk' ?_)
    have O1 : Own h₀ s.heap ((I, litP l xs.length) :: (M, mapP T f) :: (T, tupP [.ref I]) :: Φ) := O.perm ((List.perm_append_comm (l₁ := [(M, mapP T f), (T, tupP [Value.ref I])]) (l₂ := [(I, litP l xs.length)])).append_right Φ)
    exact (O1.lose hs').drop.drop
theorem Kp.update_new {h h' : Heap} {S : Addr} (hS : h.get? S = none) (hs : ∀ b o, b ≠ S → h.get? b = some o → h'.get? b = some o) : Kp h h' := fun b o e => hs b o (fun q => by rw [q, hS] at e; cases e) e
/-- collect an iterator of a class without a length -/
theorem r_collect {I : Addr} {T : String} {n : Nat} {own : Nat → List Cell} {Nd : List Cell → Prop} {P : Nat → Value → Prop} {Q : List Value → Shared → Prop}
    (W : IterOK w A.in1 h₀ I n own Nd (fun i v Ψ => P i v ∧ Ψ = [])) (hself : ∀ (s : Shared) (Φ : List Cell) (Q : Value → Shared → Prop) (E : Value → Shared → Prop), Own h₀ s.heap (own 0 ++ Φ) → Q (.ref I) s → wpAny (model PR w) A.in1 (pyIter (.ref I)) Q E s)
    (hty : ∀ (s : Shared) (Φ : List Cell), Own h₀ s.heap (own 0 ++ Φ) → s.TypeIs (.ref I) T) (hT1 : (Value.type T == Value.type "list") = false) (hT2 : (Value.type T == Value.type "tuple") = false)
    (hnl : typeLookup (.type T) "__len__" = pure none) (hnh : typeLookup (.type T) "__length_hint__" = pure none)
    (O : Own h₀ s.heap (own 0 ++ Φ)) (hN : ∀ S P, Nd ((S, P) :: Φ)) (hn : n ≤ 100000)
    (hQ : ∀ vs s', vs.length = n → (∀ i v, vs[i]? = some v → P i v) → Sm s s' → Own h₀ s'.heap Φ → Q vs s') : wpAny (model PR w) A (collect (.ref I)) Q E s := by
  have OSm {S : Addr} {Pp : Obj → Prop} {i : Nat} {h : Heap} (O : Own h₀ h ((S, Pp) :: (own i ++ Φ))) : Own h₀ h (own i ++ (S, Pp) :: Φ) := O.perm (List.perm_middle.symm)
  unfold collect
  refine wpAny_bind (wpAny_runValue (codeAny_builtin F.entry_proto_collect ?_))
  rw [Around.under_plainId F.plain_proto_collect _]
  show wpAny _ A.in1 (newList [] >>= fun l => again (.builtin "list.__iadd__" ⟨[l, .ref I], []⟩)) _ _ s
  refine wpAny_bind (r_newLst O fun S s₁ e₁ hS0 k1 O₁ => ?_)
  have hT0 : s₁.TypeIs (.ref I) T := hty s₁ _ (OSm O₁)
  have hSI : S ≠ I := by
    intro q
    have : s.TypeIs (.ref I) T := hty s _ O
    obtain ⟨o, ho, _⟩ := this
    rw [← q, hS0] at ho; cases ho
  refine wpAny_pure ⟨plainId_quiet F.plain_list_iadd _, codeAny_builtin F.entry_list_iadd ?_⟩
  rw [Around.under_plainId F.plain_list_iadd _]
  show wpAny _ A.in1 (Builtin.List.listExtendWith (.ref S) (.ref I) (.ref S)) _ _ _
  unfold Builtin.List.listExtendWith
  refine wpAny_bind (wpAny_typeOf hT0 ?_)
  have h1 : Builtin.List.listSameRef (.ref S) (.ref I) = false := by simp [Builtin.List.listSameRef, hSI]
  simp -iota only [h1, hT1, hT2, Bool.or_false, Bool.false_eq_true, if_false]
  refine wpAny_bind (hself _ _ _ _ (OSm O₁) ?_)
  refine wpAny_bind (wpAny_holding ?_)
  unfold Builtin.List.listLengthHint
  refine wpAny_bind (wpAny_specialOf hT0 hnl ?_)
  show wpAny _ A.in1 (specialOf (Value.ref I) (Str.ofString "__length_hint__") >>= _) _ _ _
  refine wpAny_bind (wpAny_specialOf hT0 hnh ?_)
  refine wpAny_pure ?_
  show wpAny _ A.in1 (rule "list.extend.makes-room" >>= fun _ => Builtin.List.listTouch (.ref S) >>= fun _ =>
    again (.builtin "list.extend.loop" ⟨[.ref S, .ref I, .ref S], []⟩)) _ _ _
  refine wpAny_bind (wpAny_rule ?_)
  obtain ⟨oS, hS₁, c1, rfl⟩ := O₁.head
  refine wpAny_bind ?_
  show wpAny _ A.in1 (updateSeq S (·.push .none) >>= fun _ => updateSeq S (·.pop)) _ _ _
  refine wpAny_bind (wpAny_updateSeq hS₁ rfl ?_)
  have hS₂ := Heap.get?_update_self (Obj.mapSeq (·.push Value.none)) hS₁ rfl
  refine wpAny_updateSeq hS₂ rfl ?_
  have hS₃ := Heap.get?_update_self (Obj.mapSeq (·.pop)) hS₂ rfl
  have O₂ : Own h₀ ((s₁.heap.update S (Obj.mapSeq (·.push Value.none))).update S (Obj.mapSeq (·.pop))) ((S, lstP []) :: (own 0 ++ Φ)) := by
    refine O₁.upd .head ⟨?_, fun b hb => ?_⟩ ⟨_, hS₃, _, rfl⟩
    · rw [Heap.size_after_update, Heap.size_after_update]
    · exact (Heap.get?_update_other _ _ (Ne.symm hb)).trans (Heap.get?_update_other _ _ (Ne.symm hb))
  have loop : ∀ (R : Result → Shared → Prop), (∀ acc s', acc.length = n → (∀ j v, acc[j]? = some v → P j v) → Sm s s' → Own h₀ s'.heap ((S, lstP acc) :: Φ) → R (.ok (.ret (.ref S))) s') →
      ∀ (k i : Nat) (s₂ : Shared) (acc : List Value), n - i = k → i ≤ n → Sm s s₂ → Own h₀ s₂.heap (own i ++ (S, lstP acc) :: Φ) → acc.length = i → (∀ j v, acc[j]? = some v → P j v) →
      codeAny (model PR w) A (.builtin "list.extend.loop" ⟨[.ref S, .ref I, .ref S], []⟩) R s₂ := by
    intro R hR
    intro k
    induction k with
    | zero =>
      intro i s₂ acc hk hi e O hlen hP
      have hin : i = n := by lia
      subst hin
      refine codeAny_builtin F.entry_extend_loop ?_
      rw [Around.under_plainId F.plain_extend_loop _]
      show wpAny _ A.in1 (pyNext (.ref I) >>= _) _ _ _
      refine wpAny_bind (W.done _ _ _ _ O (hN _ _) fun s₃ e₃ O₃ => ?_)
      exact wpAny_pure (hR acc s₃ hlen hP (e.tr e₃) O₃)
    | succ k ih =>
      intro i s₂ acc hk hi e O hlen hP
      have hlt : i < n := by lia
      refine codeAny_builtin F.entry_extend_loop ?_
      rw [Around.under_plainId F.plain_extend_loop _]
      show wpAny _ A.in1 (pyNext (.ref I) >>= _) _ _ _
      refine wpAny_bind (W.item i _ _ _ _ hlt O (hN _ _) fun v Ψ s₃ y e₃ O₃ => ?_)
      obtain ⟨hv, rfl⟩ := y
      replace O₃ : Own h₀ s₃.heap (own (i + 1) ++ (S, lstP acc) :: Φ) := O₃
      obtain ⟨oS, hS, c, rfl⟩ := O₃.get (c := S) (P := lstP acc) (by simp)
      show wpAny _ A.in1 (updateSeq S (·.push v) >>= _) _ _ _
      refine wpAny_bind ?_
      refine wpAny_updateSeq hS rfl (wpAny_pure ⟨plainId_quiet F.plain_extend_loop _, ih (i + 1) _ (acc ++ [v]) (by lia) hlt (e.tr (e₃.tr Sm.mk')) ?_ (by simp [hlen]) ?_⟩) (by simp [hlen]; unfold sizeLine; lia) (by simp [hlen]; unfold sizeLine; lia)
      · refine O₃.upd (upd_append .head) (Heap.SameBut.update _ _ _) ⟨_, Heap.get?_update_self _ hS rfl, ?_⟩
        exact ⟨_, by simp [Obj.mapSeq]; rfl⟩
      · intro j v' hj
        rw [List.getElem?_append] at hj
        split at hj
        · exact hP j v' hj
        · have : j = i := by
            have := (List.getElem?_eq_some_iff.mp hj).1
            simp at this; lia
          subst this
          rw [hlen] at hj; simp at hj; exact hj ▸ hv
  refine wpAny_pure ⟨plainId_quiet F.plain_extend_loop _, loop _ (fun acc s₃ hlen hP e₃ O₃ => ?_) n 0 _ [] rfl (Nat.zero_le _) (e₁.tr Sm.mk') (OSm O₂) rfl (fun j v hj => by simp at hj)⟩
  obtain ⟨oS, hS, c, rfl⟩ := O₃.head
  show wpAny _ A (load S >>= _) _ _ s₃
  refine wpAny_bind (wpAny_load hS ?_)
  refine wpAny_pure ?_
  have : acc.toArray.toList = acc := by simp
  rw [this]
  exact hQ acc s₃ hlen hP e₃ O₃.drop
end
end
section
section
variable {w : World} {A : Around} {E : Value → Shared → Prop} {s : Shared} {h₀ : Heap} {Φ Φ' : List Cell}
theorem r_tuple_map {M T I l : Addr} {f : Value} {xs : List Value} {Z : Value → Value → Prop} {Q : Value → Shared → Prop} (hh : A.handled = none) (hn : xs.length ≤ 100000)
    (hcall : ∀ x (s : Shared) (Φ : List Cell) (Q : Value → Shared → Prop) (E : Value → Shared → Prop), x ∈ xs → Own h₀ s.heap Φ → (∀ v s', Z x v → Sm s s' → Own h₀ s'.heap Φ → Q v s') → wpAny (model PR w) A.in1.in1.in1.in1 (call f [x]) Q E s)
    (O : Own h₀ s.heap (mapC M T I l f 0 ++ Φ)) (hl : Has h₀ Φ l (lstP xs))
    (h : ∀ (a : Addr) (vs : List Value) (s' : Shared), vs.length = xs.length → (∀ (i : Nat) v, vs[i]? = some v → ∃ x, xs[i]? = some x ∧ Z x v) → Sm s s' → Own h₀ s'.heap ((a, tupP vs) :: Φ) → Q (.ref a) s') :
    wpAny (model PR w) A (call (.type "tuple") [.ref M]) Q E s := by
  refine callType_codes (Q₁ := fun obj s₁ => s₁.TypeIs obj "tuple" ∧ Q obj s₁) F.called_tuple (F.typeCall_tuple_1 _) F.entry_object_init ?_
    fun obj s₁ h₁ => ⟨h₁.1, F.args_object_init_2 obj _, object_init_meets F.called_tuple.init.lookup F.called_tuple.made (by decide) PR w A.in1 _ s₁ ⟨h₁.1, rfl, h₁.2⟩⟩
  refine codeAny_of_tree ?_
  show wpAny _ A.in1.in1 (do checkBuiltinCall "tuple.__new__" ⟨[.type "tuple", .ref M], []⟩; again (.builtin "tuple.__new__" ⟨[.type "tuple", .ref M], []⟩)) _ _ s
  refine wpAny_bind (wpAny_of_eq (F.newCall_tuple_1 _) (wpAny_pure ⟨plainId_quiet F.plain_tuple_new _, codeAny_builtin F.entry_tuple_new ?_⟩))
  rw [Around.under_plainId F.plain_tuple_new _]
  have hsub := sub_tuple_self
  have hinit := init_tuple_lookup
  have hmh := madeHere_tuple
  have hTI := map_here O
  have hW : IterOK w A.in1.in1.in1 h₀ M xs.length (fun i => mapC M T I l f i) (fun Φ => Has h₀ Φ l (lstP xs)) (fun i v Ψ => (∃ x, xs[i]? = some x ∧ Z x v) ∧ Ψ = []) := iter_map hh hcall
  have hC : ∀ (Q : List Value → Shared → Prop) (E : Value → Shared → Prop), (∀ vs s', vs.length = xs.length → (∀ (i : Nat) v, vs[i]? = some v → ∃ x, xs[i]? = some x ∧ Z x v) → Sm s s' → Own h₀ s'.heap Φ → Q vs s') → wpAny (model PR w) A.in1.in1 (collect (.ref M)) Q E s := fun Q E hQ => r_collect (T := "map") (P := fun i v => ∃ x, xs[i]? = some x ∧ Z x v) hW (fun _ _ _ _ O h => self_map O h) (fun _ _ O => map_here O) (by decide) (by decide) mp_no_len mp_no_hint O (fun _ _ => hl.mono fun _ hp => List.mem_cons_of_mem _ hp) hn hQ
  wp_walk using wpAny_typeOf hTI, hC _ _
  intro vs s' hlen hP e O'
  show wpAny _ _ (Builtin.Tuple.tupleExact vs.toArray >>= fun v => ret v) _ _ _
  unfold Builtin.Tuple.tupleExact
  refine wpAny_bind (wpAny_newObj_type ?_ (by show vs.toArray.size ≤ sizeLine; simp [hlen]; unfold sizeLine; lia))
  refine wpAny_pure ?_
  have O₂ := own_pushed O' (tupP vs) (o := { cls := .type "tuple", data := .seq vs.toArray }) rfl rfl
  exact ⟨⟨_, Heap.get?_push_size _ rfl, rfl⟩, h _ vs _ hlen hP (e.tr Sm.mk') O₂⟩
end
end
section
section
variable {w : World} {A : Around} {E : Value → Shared → Prop} {s : Shared} {h₀ : Heap} {Φ Φ' : List Cell}
/-! ## the set {True} -/
noncomputable def byTx (w : World) : Bool := w.params.followText "set-order"
noncomputable def tFresh (w : World) : SetTable := .fresh 0 0 (!byTx w)
noncomputable def st0P (w : World) : Obj → Prop := fun o => o = { cls := .type "set", dict := none, data := .set #[] 0 (tFresh w), slots := #[] }
noncomputable def st1P (w : World) : Obj → Prop := fun o => ∃ ep t, o = { cls := .type "set", dict := none, data := .set #[((1 : Int), Value.bool true)] ep t, slots := #[] } ∧ t.fits 1 = true ∧ (byTx w = false → t.led = true)
theorem lay1 (led : Bool) : ∃ t, layNew (.fresh 0 0 led) #[] 1 (.bool true) = (#[((1 : Int), Value.bool true)], t, false, false) ∧ t.fits 1 = true ∧ t.led = led ∧ t.tooFull = false ∧ t.plain = true := by
  cases led <;> exact ⟨_, rfl, rfl, rfl, rfl, rfl⟩
theorem r_newset {Q : Value → Shared → Prop} (O : Own h₀ s.heap Φ) (h : ∀ a s', Sm s s' → Own h₀ s'.heap ((a, st0P w) :: Φ) → Q (.ref a) s') : wpAny (model PR w) A (newSet (.type "set")) Q E s := by
  unfold newSet setsByText
  refine wpAny_bind (wpAny_bind (wpAny_askSetting (wpAny_pure ?_)))
  dsimp only
  simp only [newObj]
  exact wpAny_bind (wpAny_alloc (wpAny_pure (h _ _ Sm.mk' (own_pushed O (st0P w) (o := { cls := .type "set", dict := none, data := .set #[] 0 (tFresh w), slots := #[] }) rfl rfl))))
theorem hash_true {Q : Int → Shared → Prop} (h : ∀ tk, Q 1 { s with toks := tk }) : wpAny (model PR w) A (pyHash (.bool true)) Q E s := by
  have hT : s.TypeIs (.bool true) "bool" := rfl
  unfold pyHash
  have hv : [Value.bool true].any Value.onHeap = false := rfl
  refine wpAny_bind ?_
  rw [cRoomFor, if_neg (by rw [hv]; exact Bool.false_ne_true)]; refine wpAny_pure ?_
  refine wpAny_bind (wpAny_specialOf hT F.slot_bool_hash.lookup ?_)
  show wpAny _ _ (if (some (Value.builtin "int.__hash__") == some Value.none) = true then _ else _) Q E s
  rw [if_neg (by rw [beq_builtin_none]; exact Bool.false_ne_true)]
  refine wpAny_bind (wpAny_specialOf hT F.slot_bool_hash.lookup ?_)
  show wpAny _ _ (callSpecialIfBoundUnlessNone? (.bool true) "__hash__" _ >>= _) Q E s
  refine wpAny_bind (wpAny_callSpecialIfBoundUnlessNone?_slot hT F.slot_bool_hash
    (wpAny_call_entry F.slot_bool_hash hT entry_int_hash
      (show wpAny _ _ (do ret (← mkInt 1)) _ _ s from wpAny_ret_mkInt ?_) (args_int_hash _)))
  exact wpAny_pure (h _)
theorem eq_true {Q : Bool → Shared → Prop} (h : Q true s) : wpAny (model PR w) A (eqBool (.bool true) (.bool true)) Q E s := by
  unfold eqBool
  refine wpAny_holding ?_
  rw [if_pos (show (Value.bool true == Value.bool true) = true by simp)]
  exact wpAny_bind (wpAny_rule (wpAny_pure h))
theorem set_add_true {a : Addr} {Q : Value → Shared → Prop} (O : Own h₀ s.heap Φ) (hm : (a, st0P w) ∈ Φ ∨ (a, st1P w) ∈ Φ) (U : Upd a (st1P w) Φ Φ')
    (h : ∀ s', Sm s s' → Own h₀ s'.heap Φ' → Q .none s') : wpAny (model PR w) A (call (.builtin "set.add") [.ref a, .bool true]) Q E s := by
  have hT : s.TypeIs (.ref a) "set" := by
    rcases hm with hm | hm
    · obtain ⟨o, ho, rfl⟩ := O.get hm; exact ⟨_, ho, rfl⟩
    · obtain ⟨o, ho, ep, t, rfl, _⟩ := O.get hm; exact ⟨_, ho, rfl⟩
  refine wpAny_call_entry F.slot_set_add hT F.entry_set_add ?_ (F.args_set_add_2 _ _)
  unfold Builtin.«set.add» Builtin.Frozenset.oneOther
  simp only [List.isEmpty_nil, bind_assoc]
  unfold Builtin.Frozenset.addrOf setAdd
  refine wpAny_bind (wpAny_pure ?_)
  try dsimp only
  refine wpAny_bind (wpAny_pure ?_)
  try dsimp only
  refine wpAny_bind ?_
  refine wpAny_holding ?_
  refine wpAny_bind (hash_true fun tk => ?_)
  unfold setAddHashed setAddHashedIn
  rcases hm with hm | hm
  · obtain ⟨o, ho, q⟩ := O.get hm
    subst q
    refine wpAny_holding (wpAny_bind (wpAny_setState_of ho rfl (by show SetTable.fits (.fresh 0 0 _) _ = true; cases byTx w <;> rfl) ?_))
    dsimp only
    rw [if_pos (show byScan (.bool true) #[] = true by simp [byScan, Value.scannable, scanBound])]
    unfold setAddByScan
    obtain ⟨t, hl, h1, h2, h3, h4⟩ := lay1 (!byTx w)
    refine wpAny_bind (wpAny_bind (wpAny_rule (wpAny_bind ?_)))
    unfold setScan setScanFrom
    dsimp only
    refine wpAny_pure ?_
    dsimp only
    rw [show tFresh w = SetTable.fresh 0 0 (!byTx w) from rfl, hl]
    dsimp only
    refine wpAny_bind (wpAny_pure ?_)
    rw [if_pos h4]
    rw [hashByValue_scannable 8 (show (Value.bool true).scannable = true from rfl)]
    refine wpAny_bind (wpAny_pure ?_)
    simp only [plainKind, if_true]
    refine wpAny_bind (wpAny_storeSet_of ho rfl ?_)
    rw [h3]
    simp only [Bool.and_false, Bool.false_eq_true, if_false]
    refine wpAny_pure (wpAny_pure ?_)
    have O' := O.upd U (Heap.SameBut.update s.heap a (Obj.putSet #[((1 : Int), Value.bool true)] t)) ⟨_, Heap.get?_update_self _ ho rfl, 1, t, rfl, h1, fun e => by rw [h2, e]; rfl⟩
    show wpAny _ _ (ret Value.none) _ _ _
    exact wpAny_pure ⟨_, rfl, h _ Sm.mk' O'⟩
  · obtain ⟨o, ho, ep, t, rfl, h1, h2⟩ := O.get hm
    refine wpAny_holding (wpAny_bind (wpAny_setState_of ho rfl h1 ?_))
    dsimp only
    rw [if_pos (show byScan (.bool true) #[((1 : Int), Value.bool true)] = true by simp [byScan, Value.scannable, scanBound])]
    unfold setAddByScan
    refine wpAny_bind (wpAny_bind (wpAny_rule (wpAny_bind ?_)))
    unfold setScan setScanFrom
    dsimp only
    rw [if_pos (show ((1 : Int) == 1) = true by rfl)]
    refine wpAny_bind (wpAny_setEpoch_of ho rfl h1 ?_)
    refine wpAny_bind (eq_true ?_)
    simp only [Bool.and_self, if_true]
    refine wpAny_pure ?_
    dsimp only
    refine wpAny_pure (wpAny_pure ?_)
    show wpAny _ _ (ret Value.none) _ _ _
    have O' := O.upd U (Heap.SameBut.refl a s.heap) ⟨_, ho, ep, t, rfl, h1, h2⟩
    exact wpAny_pure ⟨_, rfl, h _ Sm.mk' O'⟩
end
end
section
section
variable {w : World} {A : Around} {E : Value → Shared → Prop} {s : Shared} {h₀ : Heap} {Φ Φ' : List Cell} {env : Env} {L : Addr} {nm gl : List Str} {cl : List (Str × Addr)}
/-! ## a set comprehension all of whose items are True -/
theorem compTurn_set1 (elt target iter : Expr) (scope : Scope) (pos : Pos) (it acc : Value) (env : Env) :
    compTurn (.SetComp elt [⟨target, iter, [], 0⟩] scope pos) 0 it acc env = (standAt iter.pos >>= fun _ => pyNext it >>= fun r => match r with
      | none => pure (.done .next)
      | some v => letOwnedTupleGo target it v >>= fun _ => assign target env v >>= fun _ =>
        (eval elt env >>= fun x => standAt elt.pos >>= fun _ => call (.builtin "set.add") [acc, x] >>= fun _ => pure ()) >>= fun _ =>
          again (.compLoop (.SetComp elt [⟨target, iter, [], 0⟩] scope pos) 0 it acc env)) := by rfl
theorem setLoop_any {elt target iter : Expr} {scope : Scope} {pos : Pos} {it acc : Value} {env : Env} {R : Result → Shared → Prop} (I : Nat → Shared → Prop)
    (turn : ∀ n s, I n s → wpAny (model PR w) A (pyNext it) (fun r s₁ => match r with
      | none => R (.ok .next) s₁
      | some v => wpAny (model PR w) A (letOwnedTupleGo target it v) (fun _ s₁' => wpAny (model PR w) A (assign target env v) (fun _ s₂ => 
            wpAny (model PR w) A (eval elt env) (fun x s₄ =>
              wpAny (model PR w) A (call (.builtin "set.add") [acc, x]) (fun _ s₅ => ∃ m, m < n ∧ I m s₅) (fun _ _ => False) s₄) (fun _ _ => False) s₂) (fun _ _ => False) s₁') (fun _ _ => False) s₁) (fun _ _ => False) s)
    (n : Nat) (h : I n s) : codeAny (model PR w) A (.compLoop (.SetComp elt [⟨target, iter, [], 0⟩] scope pos) 0 it acc env) R s := by
  refine codeAny_loop rfl I (fun n s hI => ?_) n h
  show wpAny _ A ((compTurn (.SetComp elt [⟨target, iter, [], 0⟩] scope pos) 0 it acc env).onRaise (fun x => do noteFrame x env; theTreesLotGoes x)) _ _ s
  refine wpAny_noted ?_
  rw [compTurn_set1]
  refine wpAny_bind (wpAny_standAt (wpAny_bind (wpAny_mono (turn n s hI) (fun r s₁ h₁ => ?_) fun _ _ h' => h'.elim)))
  cases r with
  | none => exact wpAny_pure h₁
  | some v =>
    refine wpAny_bind (wpAny_mono h₁ (fun _ s₁' h₁' => ?_) fun _ _ h' => h'.elim)
    refine wpAny_bind (wpAny_mono h₁' (fun _ s₂ h₂ => wpAny_bind (wpAny_bind (wpAny_mono h₂ (fun x s₃ h₃ => wpAny_bind (wpAny_standAt (wpAny_bind (wpAny_mono h₃ (fun _ s₄ h₄ => wpAny_pure (wpAny_pure ⟨rfl, h₄⟩)) fun _ _ h' => h'.elim)))) fun _ _ h' => h'.elim))) fun _ _ h' => h'.elim)
theorem compStart_set {R : Result → Shared → Prop} {elt target iter ifs rest scope pos it acc env}
    (h0 : codeAny (model PR w) A (.compLoop (.SetComp elt (⟨target, iter, ifs, 0⟩ :: rest) scope pos) 0 it acc env) R s)
    (h : wpAny (model PR w) A (pyIter it) (fun it' s' => codeAny (model PR w) A (.compLoop (.SetComp elt (⟨target, iter, ifs, 0⟩ :: rest) scope pos) 0 it' acc env) R s')
      (notedBy (model PR w) A env fun x s' => R (.error x) s') s) :
    codeAny (model PR w) A (.compStart (.SetComp elt (⟨target, iter, ifs, 0⟩ :: rest) scope pos) 0 it acc env) R s := by
  refine codeAny_of_tree ?_
  show wpAny _ A ((compStart (.SetComp elt (⟨target, iter, ifs, 0⟩ :: rest) scope pos) 0 it acc env).onRaise (fun x => do noteFrame x env; standAt theWindowsPlace)) _ _ s
  refine wpAny_notedAt ?_
  unfold compStart
  show wpAny _ A (ask >>= _) _ _ s
  refine wpAny_bind (wpAny_askSetting (wpAny_ite ?_))
  split
  · first
      | exact wpAny_bind (wpAny_pure (wpAny_pure (And.intro rfl h0)))
      | exact wpAny_pure (And.intro rfl h0)
  · first
      | exact wpAny_bind (wpAny_rule (wpAny_bind (wpAny_standAt (wpAny_bind (wpAny_mono h (fun it' s' h' => wpAny_pure (And.intro rfl h')) fun _ _ x => x)))))
      | (refine wpAny_bind (wpAny_rule ?_); show wpAny _ _ (standAt iter.pos >>= _) _ _ s; exact wpAny_bind (wpAny_standAt (wpAny_bind (wpAny_mono h (fun it' s' h' => wpAny_pure (And.intro rfl h')) fun _ _ x => x))))
noncomputable def SC (w : World) (A : Around) (E : Value → Shared → Prop) (env : Env) (elt target iter : Expr) (scope : Scope) (cl' : List (Str × Addr)) (pos : Pos) (it : Value) (Q : Value → Shared → Prop) (s : Shared) : Prop :=
  wpAny (model PR w) A (newSet (.type "set")) (fun acc s₃ => wpAny (model PR w) A (newFunctionEnv scope env.globals cl' [] env.qual none .none (some env)) (fun cenv s₄ =>
    codeAny (model PR w) A (.compStart (.SetComp elt [⟨target, iter, [], 0⟩] scope pos) 0 it acc { cenv with scope := relabel scope env }) (compPost (model PR w) A E none Q acc cenv.locals) s₄) E s₃) E s
theorem r_sc {elt target iter : Expr} {scope : Scope} {pos : Pos} {Q : Value → Shared → Prop} {nm' cn fn gl' : List Str} {cl' : List (Str × Addr)} (V : EnvOK env L nm cl gl) (H : BlkOK scope nm' cn fn gl') (hcl : cl'.map (·.1) = fn.reverse) (hsub : ∀ p ∈ cl', p ∈ cl)
    (h : wpAny (model PR w) A (eval iter env) (fun xv s₁ => wpAny (model PR w) A (pyIter xv) (fun it s₂ => SC w A E env elt target iter scope cl' pos it Q s₂) E s₁) E s)
    (hs : ∀ x, foldedSetIterable iter env x = pure x := by intro _; rfl) :
    wpAny (model PR w) A (eval (.SetComp elt [⟨target, iter, [], 0⟩] scope pos) env) Q E s := by
  rw [arm_eval_SetComp]
  exact wpAny_comprehension_free (use := none) rfl hs (closure_of V H hcl hsub) H.kind H.loc h
noncomputable def STurn (w : World) (h₀ : Heap) (s : Shared) (K : List Cell) (D : Addr) (i : Nat) (J : List Cell → Prop) (s' : Shared) : Prop := ∃ Φ', Sm s s' ∧ Own h₀ s'.heap (K ++ (D, if i = 0 then st0P w else st1P w) :: Φ') ∧ J Φ'
theorem sc_block {elt target iter : Expr} {scope : Scope} {pos : Pos} {I : Addr} {n : Nat} {own : Nat → List Cell} {Nd : List Cell → Prop} {Y : Nat → Value → List Cell → Prop} {Q : Value → Shared → Prop} {nm' cn fn gl' : List Str} {cl' : List (Str × Addr)}
    (V : EnvOK env L nm cl gl) (H : BlkOK scope nm' cn fn gl') (hcl : cl'.map (·.1) = fn.reverse) (W : IterT w A h₀ I target n own Nd Y) (hn0 : n ≠ 0)
    (J : Addr → List (Str × Addr) → Nat → List Cell → Prop) (O : Own h₀ s.heap (own 0 ++ Φ))
    (start : ∀ C cs, cs.map (·.1) = cn.reverse → J C cs 0 (cell cs ++ (C, locP nm' (noneOf nm')) :: Φ)) (hN : ∀ C cs D P i Φ, i ≤ n → J C cs i Φ → Nd ((D, P) :: Φ))
    (turn : ∀ C cs D cenv, EnvOK cenv C nm' (cs ++ cl') gl' → (∀ x ∈ cn, cenv.kindOf x = some .cell) → cenv.frame = env.frame → cs.map (·.1) = cn.reverse → ∀ i v Ψ Φ s₁, i < n → J C cs i Φ → Y i v Ψ → Sm s s₁ → Own h₀ s₁.heap (own (i + 1) ++ (Ψ ++ (D, if i = 0 then st0P w else st1P w) :: Φ)) →
      wpAny (model PR w) A (assign target cenv v) (fun _ s₃ => wpAny (model PR w) A (eval elt cenv) (fun y s₅ => y = .bool true ∧ STurn w h₀ s (own (i + 1)) D i (J C cs (i + 1)) s₅) (fun _ _ => False) s₃) (fun _ _ => False) s₁)
    (done : ∀ C cs D Φ s₁, J C cs n Φ → Sm s s₁ → Own h₀ s₁.heap ((D, st1P w) :: Φ) → compPost (model PR w) A E none Q (.ref D) C (.ok .next) s₁) :
    SC w A E env elt target iter scope cl' pos (.ref I) Q s := by
  unfold SC
  refine r_newset O fun D s₃ e₃ O₃ => ?_
  refine r_newEnv (w := w) (A := A) (E := E) O₃ nm' fun s₄ C cs e₄ _ hc O₄ => ?_
  have hc' : cs.map (·.1) = cn.reverse := by rw [hc, H.cn]
  have O₅ : Own h₀ s₄.heap (own 0 ++ (D, st0P w) :: (cell cs ++ (C, locP nm' (noneOf nm')) :: Φ)) := O₄.perm perm_block
  have start' := start C cs hc'
  show codeAny _ _ (.compStart (.SetComp elt [⟨target, iter, [], 0⟩] scope pos) 0 (.ref I) (.ref D) (compEnvC scope (cs ++ cl') C env)) (compPost (model PR w) A E none Q (.ref D) C) s₄
  have loop : codeAny (model PR w) A (.compLoop (.SetComp elt [⟨target, iter, [], 0⟩] scope pos) 0 (.ref I) (.ref D) (compEnvC scope (cs ++ cl') C env)) (compPost (model PR w) A E none Q (.ref D) C) s₄ := by
    refine setLoop_any (fun k s' => ∃ i Φ', k = n - i ∧ i ≤ n ∧ Sm s s' ∧ Own h₀ s'.heap (own i ++ (D, if i = 0 then st0P w else st1P w) :: Φ') ∧ J C cs i Φ') ?_ n ⟨0, _, rfl, Nat.zero_le _, e₃.tr e₄, O₅, start'⟩
    intro k s' jy0
    refine ex2 jy0 fun i Φ' jx0 => an5 jx0 fun jr00 hi e O' hJ' => ?_
    clear jx0 jy0
    subst jr00
    by_cases hlt : i < n
    · refine W.item i s' ((D, if i = 0 then st0P w else st1P w) :: Φ') _ _ hlt O' (hN C cs D _ i Φ' hi hJ') fun v Ψ s₁ y hg => hg _ _ fun s₁' e₁ O₁ => ?_
      refine wpAny_mono (turn C cs D _ (compV (C := C) V H hc' hcl) (compV_cell H) rfl hc' i v Ψ Φ' s₁' hlt hJ' y (e.tr e₁) O₁) (fun _ s₂ h2 => wpAny_mono h2 (fun y s₃ h3 => ?_) fun _ _ x => x.elim) fun _ _ x => x.elim
      obtain ⟨rfl, Φ'', e3, O3, j3⟩ := h3
      refine set_add_true O3 (?_ : _ ∨ _) (upd_append Upd.head) fun s₆ e₆ O₆ => ?_
      · by_cases h0 : i = 0
        · left; rw [if_pos h0]; exact List.mem_append_right _ List.mem_cons_self
        · right; rw [if_neg h0]; exact List.mem_append_right _ List.mem_cons_self
      · exact ⟨n - (i + 1), by lia, i + 1, Φ'', rfl, hlt, e3.tr e₆, by rw [if_neg (Nat.succ_ne_zero i)]; exact O₆, j3⟩
    · have : i = n := by lia
      subst this
      rw [if_neg hn0] at O'
      exact W.done s' ((D, st1P w) :: Φ') _ _ O' (hN C cs D _ i Φ' hi hJ') fun s₁ e₁ O₁ => done C cs D Φ' s₁ hJ' (e.tr e₁) O₁
  exact compStart_set loop (W.self s₄ _ _ _ O₅ loop)
end
end
section
section
variable {w : World} {A : Around} {E : Value → Shared → Prop} {s : Shared} {h₀ : Heap} {Φ Φ' : List Cell} {env : Env} {L : Addr} {nm gl : List Str} {cl : List (Str × Addr)}
/-! ## x, = {True} -/
theorem si_owner : Manifest.owners.lookup (String.ofList ['r', 'o', 't', 'a', 'r', 'e', 't', 'i', '_', 't', 'e', 's'].reverse) = some Manifest.sig_set_iterator := by kernel_rfl
theorem si_next : Slot "set_iterator" "__next__" "set_iterator.__next__" :=
  .of (owner := "set_iterator") (n := "__next__") (by rw [typeLookup_type, builtinLookup_eq_fast]; kernel_rfl) (by decide +kernel) (by decide +kernel) (by decide +kernel)
    (by first | exact .inl (by decide +kernel) | exact .inr (by decide +kernel)) (by rw [isSubtype_type]; kernel_rfl)
theorem si_entry : entryFor table "set_iterator.__next__" = some Builtin.«set_iterator.__next__» := entryFor_of_tree (by kernel_rfl)
theorem si_args (a : Value) : argsOk "set_iterator.__next__" ⟨[a], []⟩ := by
  unfold argsOk; rw [signature?_of (id := "set_iterator.__next__") (n := ['_', '_', 't', 'x', 'e', 'n', '_', '_']) (o := ['r', 'o', 't', 'a', 'r', 'e', 't', 'i', '_', 't', 'e', 's']) (by kernel_rfl) si_owner]; kernel_rfl
theorem si_entry_iter : entryFor table "set.__iter__" = some Builtin.«frozenset.__iter__» :=
  entryFor_alias (id' := "frozenset.__iter__") (by kernel_rfl) rfl (by decide +kernel) (by kernel_rfl)
noncomputable def sitO (a : Value) (i slot ep : Nat) : Obj := { cls := .type "set_iterator", dict := none, data := .fields #[rawInt slot, rawInt i, a, rawInt 1, rawInt ep], slots := #[] }
noncomputable def sitP (a : Value) (i slot ep : Nat) : Obj → Prop := fun o => o = sitO a i slot ep
noncomputable def stEP (w : World) (ep : Nat) (t : SetTable) : Obj → Prop := fun o => o = { cls := .type "set", dict := none, data := .set #[((1 : Int), Value.bool true)] ep t, slots := #[] } ∧ t.fits 1 = true ∧ (byTx w = false → t.led = true)
theorem r_it_set {a : Addr} {ep : Nat} {t : SetTable} {Q : Value → Shared → Prop} (O : Own h₀ s.heap Φ) (hm : (a, stEP w ep t) ∈ Φ)
    (h : ∀ I s', Sm s s' → Own h₀ s'.heap ((I, sitP (.ref a) 0 0 ep) :: Φ) → Q (.ref I) s') : wpAny (model PR w) A (pyIter (.ref a)) Q E s := by
  obtain ⟨o, ho, rfl, h1, h2⟩ := O.get hm
  have hT : s.TypeIs (.ref a) "set" := ⟨_, ho, rfl⟩
  refine wpAny_pyIter_slot hT F.slot_set_iter (wpAny_call_entry F.slot_set_iter hT si_entry_iter ?_ (F.args_set_iter_1 _))
  unfold Builtin.«frozenset.__iter__» Builtin.Frozenset.slot0 slotArgs
  simp only [List.isEmpty_nil, Bool.not_true, Bool.false_eq_true, ↓reduceIte, bind_assoc, List.length_nil, bne_self_eq_false]
  unfold Builtin.Frozenset.addrOf Builtin.Frozenset.sizeOf
  refine wpAny_bind (wpAny_pure ?_)
  try dsimp only
  refine wpAny_bind (wpAny_pure ?_)
  try dsimp only
  refine wpAny_bind (wpAny_bind (wpAny_setEntries_of ho rfl h1 (wpAny_pure ?_)))
  unfold setDrawn
  refine wpAny_bind (wpAny_bind (wpAny_setState_of ho rfl h1 ?_))
  unfold setsByText
  refine wpAny_bind (wpAny_bind (wpAny_askSetting (wpAny_pure (wpAny_pure ?_))))
  rw [if_neg (by show ¬ ((!_ && (!t.plain && decide (1 > 1))) = true); simp)]
  refine wpAny_bind (wpAny_pure ?_)
  refine wpAny_bind (wpAny_setEpoch_of ho rfl h1 ?_)
  unfold newFields
  refine wpAny_bind (wpAny_newObj_type (wpAny_pure ⟨_, rfl, "set_iterator", _, ⟨_, Heap.get?_push_size _ rfl, rfl⟩, si_next.lookup, ?_⟩))
  exact h _ _ Sm.mk' (own_pushed O (sitP (.ref a) 0 0 ep) (o := sitO (.ref a) 0 0 ep) rfl rfl)
theorem below1 {t : SetTable} (h : t.fits 1 = true) : ∃ j, t.place = #[j] := by
  simp only [SetTable.fits, Bool.and_eq_true, beq_iff_eq] at h
  obtain ⟨p, hp⟩ : ∃ l, t.place = l := ⟨_, rfl⟩
  rw [hp] at h ⊢
  obtain ⟨l⟩ := p
  match l, h.1 with
  | [j], _ => exact ⟨j, rfl⟩
theorem setNext0 {a : Addr} {ep : Nat} {t : SetTable} {Q : Option (Value × Nat) → Shared → Prop} (O : Own h₀ s.heap Φ) (hm : (a, stEP w ep t) ∈ Φ) (h : ∀ j, t.place = #[j] ∨ byTx w = true → Q (some (.bool true, if byTx w then 0 else j + 1)) s) : wpAny (model PR w) A (setNext a 0 0 ep) Q E s := by
  obtain ⟨o, ho, rfl, h1, h2⟩ := O.get hm
  obtain ⟨j, hj⟩ := below1 h1
  unfold setNext
  refine wpAny_bind (wpAny_setState_of ho rfl h1 ?_)
  unfold setsByText
  refine wpAny_bind (wpAny_bind (wpAny_askSetting (wpAny_pure ?_)))
  have hh := h j (.inl hj)
  unfold byTx at hh h2
  dsimp only at hh ⊢
  cases hb : w.params.followText "set-order" with
  | true =>
    rw [hb] at hh
    rw [if_pos (by exact hb)]
    rw [if_neg (by simp)]
    unfold setWalk
    refine wpAny_bind (wpAny_bind (wpAny_setState_of ho rfl h1 ?_))
    unfold setsByText
    refine wpAny_bind (wpAny_bind (wpAny_askSetting (wpAny_pure ?_)))
    rw [if_pos (by exact hb)]
    refine wpAny_bind (wpAny_askSetting (wpAny_pure ?_))
    refine wpAny_pure ?_
    simpa [pickOrder, pickOrder.go, Nat.mod_one] using hh
  | false =>
    rw [hb] at hh
    rw [if_neg (by show ¬ (w.params.followText "set-order" = true); rw [hb]; decide)]
    rw [if_neg (by show ¬ ((!t.plain && decide (1 > 1)) = true); simp)]
    refine wpAny_bind ?_
    show wpAny _ _ (if (!t.led && !(#[((1 : Int), Value.bool true)] : Array (Int × Value)).isEmpty) = true then unsupported "set:maker-not-led" else pure ()) _ _ _
    rw [if_neg (by simp [h2 hb])]
    refine wpAny_pure (wpAny_pure ?_)
    rw [hj]
    have : SetTable.below #[j] 0 = 0 := by simp [SetTable.below, SetTable.below.go]
    rw [this]
    simpa using hh
theorem setNext1 {a : Addr} {ep slot : Nat} {t : SetTable} {Q : Option (Value × Nat) → Shared → Prop} (O : Own h₀ s.heap Φ) (hm : (a, stEP w ep t) ∈ Φ) (hs : byTx w = true ∨ ∃ j, t.place = #[j] ∧ slot = j + 1) (h : Q none s) : wpAny (model PR w) A (setNext a slot 1 ep) Q E s := by
  obtain ⟨o, ho, rfl, h1, h2⟩ := O.get hm
  unfold setNext
  refine wpAny_bind (wpAny_setState_of ho rfl h1 ?_)
  unfold setsByText
  refine wpAny_bind (wpAny_bind (wpAny_askSetting (wpAny_pure ?_)))
  unfold byTx at hs h2
  dsimp only at hs ⊢
  cases hb : w.params.followText "set-order" with
  | true =>
    rw [if_pos (by exact hb)]
    rw [if_neg (by simp)]
    unfold setWalk
    refine wpAny_bind (wpAny_bind (wpAny_setState_of ho rfl h1 ?_))
    unfold setsByText
    refine wpAny_bind (wpAny_bind (wpAny_askSetting (wpAny_pure ?_)))
    rw [if_pos (by exact hb)]
    refine wpAny_bind (wpAny_askSetting (wpAny_pure ?_))
    refine wpAny_pure ?_
    simpa [pickOrder, pickOrder.go, Nat.mod_one] using h
  | false =>
    rcases hs with hs | ⟨j, hj, rfl⟩
    · rw [hb] at hs; cases hs
    rw [if_neg (by show ¬ (w.params.followText "set-order" = true); rw [hb]; decide)]
    rw [if_neg (by show ¬ ((!t.plain && decide (1 > 1)) = true); simp)]
    refine wpAny_bind ?_
    show wpAny _ _ (if (!t.led && !(#[((1 : Int), Value.bool true)] : Array (Int × Value)).isEmpty) = true then unsupported "set:maker-not-led" else pure ()) _ _ _
    rw [if_neg (by simp [h2 hb])]
    refine wpAny_pure (wpAny_pure ?_)
    rw [hj]
    have : SetTable.below #[j] (j + 1) = 1 := by simp [SetTable.below, SetTable.below.go]
    rw [this]
    simpa using h
end
end
section
section
variable {w : World} {A : Around} {E : Value → Shared → Prop} {s : Shared} {h₀ : Heap} {Φ Φ' : List Cell} {env : Env} {L : Addr} {nm gl : List Str} {cl : List (Str × Addr)}
theorem Own.at {h : Heap} {c : Addr} {P : Obj → Prop} (O : Own h₀ h Φ) (hm : (c, P) ∈ Φ) : ∃ o, h.get? c = some o ∧ P o := O.get hm
theorem si_item {a I : Addr} {ep : Nat} {t : SetTable} {Q : Option Value → Shared → Prop} (O : Own h₀ s.heap ((I, sitP (.ref a) 0 0 ep) :: Φ)) (hm : (a, stEP w ep t) ∈ Φ)
    (h : ∀ slot s', (byTx w = true ∨ ∃ j, t.place = #[j] ∧ slot = j + 1) → Sm s s' → Own h₀ s'.heap ((I, sitP (.ref a) 1 slot ep) :: Φ) → Q (some (.bool true)) s') : wpAny (model PR w) A (pyNext (.ref I)) Q E s := by
  obtain ⟨oI, gI, q⟩ := O.head
  subst q
  obtain ⟨oa, ga, qa, h1, h2⟩ := O.at (List.mem_cons_of_mem _ hm)
  subst qa
  have hT : s.TypeIs (.ref I) "set_iterator" := ⟨_, gI, rfl⟩
  unfold pyNext
  refine wpAny_bind (wpAny_attempt (wpAny_callSpecial?_slot (name := Str.ofString "__next__") hT si_next (wpAny_call_entry si_next hT si_entry ?_ (si_args _))))
  unfold Builtin.«set_iterator.__next__» slotArgs
  simp -iota only [List.isEmpty_nil, Bool.not_true, Bool.false_eq_true, ↓reduceIte, List.length_nil, bne_self_eq_false]
  refine wpAny_bind (wpAny_bind (wpAny_pure ?_))
  refine wpAny_pure ?_
  refine wpAny_bind (wpAny_fieldsOf gI rfl ?_)
  simp -iota only [rawInt]
  refine wpAny_bind (wpAny_setEntries_of ga rfl h1 ?_)
  rw [if_neg (by simp)]
  show wpAny _ _ (setNext a 0 0 ep >>= _) _ _ _
  refine wpAny_bind (setNext0 O (List.mem_cons_of_mem _ hm) fun j hj => ?_)
  dsimp only
  have fin : ∀ slot : Nat, (byTx w = true ∨ ∃ j, t.place = #[j] ∧ slot = j + 1) → wpAny (model PR w) A.in1 (do setField (.ref I) 0 (rawInt slot); setField (.ref I) 1 (rawInt (0 + 1)); ret (.bool true)) (fun fin s' => ∃ v, fin = .done (.ret v) ∧ wpAny (model PR w) A (match (Except.ok (some v) : Except Value (Option Value)) with
      | .ok (some v) => pure (some v)
      | .ok none => unsupported "iter:the-iterator's-class-has-lost-its-__next__-amid-the-walk"
      | .error e => do if ← isInstance e (.type "StopIteration") then pure none else throw e) Q E s') (fun e s' => wpAny (model PR w) A (match (Except.error e : Except Value (Option Value)) with
      | .ok (some v) => pure (some v)
      | .ok none => unsupported "iter:the-iterator's-class-has-lost-its-__next__-amid-the-walk"
      | .error e => do if ← isInstance e (.type "StopIteration") then pure none else throw e) Q E s') s := by
    intro slot hslot
    refine wpAny_bind (wpAny_setField gI rfl (by simp) ?_)
    have g2 := Heap.get?_update_self (Obj.mapFields (·.setIfInBounds 0 (rawInt slot))) gI rfl
    refine wpAny_bind (wpAny_setField g2 rfl (by simp) ?_)
    have g3 := Heap.get?_update_self (Obj.mapFields (·.setIfInBounds 1 (rawInt (0 + 1)))) g2 rfl
    refine wpAny_pure ⟨_, rfl, ?_⟩
    refine wpAny_pure (h slot _ hslot Sm.mk' ?_)
    refine O.upd .head ((Heap.SameBut.update ..).trans (Heap.SameBut.update ..)) ⟨_, g3, ?_⟩
    show _ = sitO _ _ _ _
    simp [Obj.mapFields, sitO, rawInt]
  cases hb : byTx w with
  | true =>
    simp only [if_true]
    exact fin 0 (.inl hb)
  | false =>
    rcases hj with hj | hj
    · simp only [Bool.false_eq_true, if_false]
      exact fin (j + 1) (.inr ⟨j, hj, rfl⟩)
    · rw [hb] at hj; cases hj
theorem si_done {a I : Addr} {ep slot : Nat} {t : SetTable} {Q : Option Value → Shared → Prop} (hh : A.handled = none) (O : Own h₀ s.heap ((I, sitP (.ref a) 1 slot ep) :: Φ)) (hm : (a, stEP w ep t) ∈ Φ) (hs : byTx w = true ∨ ∃ j, t.place = #[j] ∧ slot = j + 1)
    (h : ∀ s', Sm s s' → Own h₀ s'.heap Φ → Q none s') : wpAny (model PR w) A (pyNext (.ref I)) Q E s := by
  obtain ⟨oI, gI, q⟩ := O.head
  subst q
  obtain ⟨oa, ga, qa, h1, h2⟩ := O.at (List.mem_cons_of_mem _ hm)
  subst qa
  have hT : s.TypeIs (.ref I) "set_iterator" := ⟨_, gI, rfl⟩
  unfold pyNext
  refine wpAny_bind (wpAny_attempt (wpAny_callSpecial?_slot (name := Str.ofString "__next__") hT si_next (wpAny_call_entry si_next hT si_entry ?_ (si_args _))))
  unfold Builtin.«set_iterator.__next__» slotArgs
  simp -iota only [List.isEmpty_nil, Bool.not_true, Bool.false_eq_true, ↓reduceIte, List.length_nil, bne_self_eq_false]
  refine wpAny_bind (wpAny_bind (wpAny_pure ?_))
  refine wpAny_pure ?_
  refine wpAny_bind (wpAny_fieldsOf gI rfl ?_)
  simp -iota only [rawInt]
  refine wpAny_bind (wpAny_setEntries_of ga rfl h1 ?_)
  rw [if_neg (by simp)]
  show wpAny _ _ (setNext a slot 1 ep >>= _) _ _ _
  refine wpAny_bind (setNext1 O (List.mem_cons_of_mem _ hm) hs ?_)
  dsimp only
  refine wpAny_bind (wpAny_setField gI rfl (by simp) ?_)
  show wpAny _ _ (newExc (.type "StopIteration") [] >>= _) _ _ _
  refine wpAny_bind ?_
  simp only [newExc, newTuple]
  refine wpAny_bind (wpAny_newObj_type ?_ (by size_fits))
  refine wpAny_bind (m := firstArgMember _ _) (wpAny_of_eq (a := Value.none) (by first | rfl | (simp only [firstArgMember]; rfl)) ?_)
  refine wpAny_newObj_type ?_ (by size_fits)
  simp only [raiseNew]
  refine wpAny_bind (wpAny_handled ?_)
  first | rw [show A.in1.handled = none from hh] | rw [hh]
  refine wpAny_bind (wpAny_pure (wpAny_throw ?_))
  refine wpAny_bind (wpAny_isInstance (T := "StopIteration") (b := true) ⟨_, Heap.get?_push_size _ rfl, rfl⟩ isSubtype_stop ?_)
  refine wpAny_pure (h _ Sm.mk' (O.lose (((Heap.SameBut.update ..).extBut.push _).push _)))
/-- x, = {True} -/
theorem r_unset {x : Str} {px tp : Pos} {k} {a : Addr} {Q : Unit → Shared → Prop} (hh : A.handled = none) (O : Own h₀ s.heap Φ) (hm : (a, st1P w) ∈ Φ)
    (h : ∀ s', Sm s s' → Own h₀ s'.heap Φ → wpAny (model PR w) A (storeName env x (.bool true)) Q E s') :
    wpAny (model PR w) A (assign (.Tuple [.Name x px] k tp) env (.ref a)) Q E s := by
  obtain ⟨o, ho, ep, t, q, h1, h2⟩ := O.get hm
  have hT : s.TypeIs (.ref a) "set" := ⟨_, ho, by rw [q]⟩
  have O1 : Own h₀ s.heap ((a, stEP w ep t) :: Φ.filter (fun p => p.1 ≠ a)) := by
    refine ⟨O.keep, fun p hp => ?_, ?_⟩
    · rcases List.mem_cons.mp hp with rfl | hp
      · exact ⟨(O.own _ hm).1, o, ho, q, h1, h2⟩
      · exact O.own p (List.mem_filter.mp hp).1
    · rw [List.map_cons, List.nodup_cons]
      refine ⟨fun hx => ?_, O.nd.sublist ((List.filter_sublist).map _)⟩
      obtain ⟨p, hp, e⟩ := List.mem_map.mp hx
      have := (List.mem_filter.mp hp).2
      simp at this; exact this e
  have back : ∀ h' : Heap, Own h₀ h' ((a, stEP w ep t) :: Φ.filter (fun p => p.1 ≠ a)) → Own h₀ h' Φ := fun h' O' => by
    refine ⟨O'.keep, fun p hp => ?_, O.nd⟩
    by_cases e : p.1 = a
    · obtain ⟨hn, o', g', z, z1, z2⟩ := O'.own _ List.mem_cons_self
      have : p = (a, st1P w) := by
        have nd := O.nd
        have hi : ∀ {l : List Cell}, (l.map (·.1)).Nodup → ∀ {p q : Cell}, p ∈ l → q ∈ l → p.1 = q.1 → p = q := by
          intro l
          induction l with
          | nil => intro _ p q hp; cases hp
          | cons y l ih =>
            intro nd p q hp hq e
            rw [List.map_cons, List.nodup_cons] at nd
            rcases List.mem_cons.mp hp with rfl | hp2 <;> rcases List.mem_cons.mp hq with rfl | hq2
            · rfl
            · exact (nd.1 (List.mem_map.mpr ⟨q, hq2, e.symm⟩)).elim
            · exact (nd.1 (List.mem_map.mpr ⟨p, hp2, e⟩)).elim
            · exact ih nd.2 hp2 hq2 e
        exact hi nd hp hm e
      rw [this]
      exact ⟨hn, o', g', ep, t, z, z1, z2⟩
    · exact O'.own p (List.mem_cons_of_mem _ (List.mem_filter.mpr ⟨hp, by simpa using e⟩))
  rw [arm_assign_Tuple]
  refine wpAny_bind (wpAny_standAt ?_)
  show wpAny _ _ (unpack (.ref a) [(false, fun v => assign (.Name x px) env v)]) _ _ _
  unfold unpack
  refine wpAny_bind (wpAny_holding ?_)
  show wpAny _ _ (unpackItems (.ref a) 1 none) _ _ _
  unfold unpackItems
  refine wpAny_bind ?_
  unfold notIterableAtAll
  refine wpAny_bind (wpAny_specialOf hT F.slot_set_iter.lookup ?_)
  refine wpAny_pure ?_
  simp only [Bool.false_eq_true, if_false]
  refine wpAny_bind (wpAny_holding (r_it_set O1 List.mem_cons_self fun I s₁ e₁ O₂ => ?_))
  refine wpAny_bind (wpAny_holding ?_)
  show wpAny _ _ (pyNext (.ref I) >>= _) _ _ _
  refine wpAny_bind (si_item O₂ List.mem_cons_self fun slot s₂ hslot e₂ O₃ => ?_)
  refine wpAny_bind (wpAny_holding (wpAny_pure (wpAny_pure ?_)))
  rw [if_neg (by simp)]
  refine wpAny_bind (wpAny_holding (si_done hh O₃ List.mem_cons_self hslot fun s₃ e₃ O₄ => ?_))
  simp only [Option.isSome_none, Bool.false_eq_true, if_false]
  refine wpAny_pure ?_
  exact wpAny_assignInOrder_more (PyProof.Rows.assign_Name (wpAny_mono (h _ (e₁.tr (e₂.tr e₃)) (back _ O₄)) (fun _ s₃ h₃ => wpAny_assignInOrder_none h₃) fun _ _ x => x))
end
end
section
section
variable {w : World} {A : Around} {E : Value → Shared → Prop} {s : Shared} {h₀ : Heap} {Φ Φ' : List Cell} {env : Env} {L : Addr} {nm gl : List Str} {cl : List (Str × Addr)}
open PySem.Builtin.Str
theorem r_split {x y : Str} {t u : Tok} {Q : Value → Shared → Prop} (O : Own h₀ s.heap Φ) (hy : (y.length == 0) = false) (hsz : x.length + 2 ≤ sizeLine)
    (h : ∀ a vs s', StrsAre vs (PySem.Txt.split x y) → Sm s s' → Own h₀ s'.heap ((a, lstP vs) :: Φ) → Q (.ref a) s') :
    wpAny (model PR w) A (call (.builtin "str.split") [.str x t, .str y u]) Q E s := by
  have hn : (partsBetween x (occurrences x y 0 x.length (x.length + 1)) y.length).length ≤ sizeLine := by
    have e1 := StrLaws.occ_length_le x y 0 x.length (x.length + 1)
    rw [length_partsBetween]; lia
  have hx : ∀ l : List (Str × Tok), l.map (·.1) = PySem.Txt.split x y → StrsAre (strValues l) (PySem.Txt.split x y) := fun l e => e ▸ strsAre_of_values l
  have hp : ∀ l : List (Str × Tok), Own h₀ (s.heap.push { cls := .type "list", data := .seq (strValues l).toArray }) ((s.heap.objs.size, lstP (strValues l)) :: Φ) := fun l => own_pushed O (lstP (strValues l)) (o := { cls := .type "list", data := .seq (strValues l).toArray }) ⟨_, rfl⟩ rfl
  cases h1 : (decide (x.length < y.length) || decide (strKind x < strKind y))
  · cases hf : (occurrences x y 0 x.length (x.length + 1)).isEmpty
    · refine call_meets F.slot_str_split (typeIs_str _ _ _) F.entry_str_split (F.args_str_split_2 _ _) (meets_str_split_sep x y t u h1 hy hf (by lia) hn) ?_
      show wants Q E _ { s with toks := _, heap := s.heap.push { cls := .type "list", data := .seq (strsFrom s.toks (partsBetween x (occurrences x y 0 x.length (x.length + 1)) y.length)).toArray } }
      rw [strsFrom_eq]
      exact h _ _ _ (hx (numbered s.toks _) ((numbered_texts _ _).trans ((if_neg (ne_true_of_eq_false h1)).trans (if_neg (ne_true_of_eq_false hf))).symm)) Sm.mk' (hp _)
    · exact call_meets F.slot_str_split (typeIs_str _ _ _) F.entry_str_split (F.args_str_split_2 _ _) (meets_str_split_not_found x y t u h1 hy hf)
        (h _ (strValues [(x, t)]) _ (hx [(x, t)] ((if_neg (ne_true_of_eq_false h1)).trans (if_pos hf)).symm) Sm.mk' (hp [(x, t)]))
  · exact call_meets F.slot_str_split (typeIs_str _ _ _) F.entry_str_split (F.args_str_split_2 _ _) (meets_str_split_cannot_occur x y t u h1)
        (h _ (strValues [(x, t)]) _ (hx [(x, t)] (if_pos h1).symm) Sm.mk' (hp [(x, t)]))
theorem strs_values {vs : List Value} {ss : List Str} (h : StrsAre vs ss) : ∃ l : List (Str × Tok), strValues l = vs ∧ l.map (·.1) = ss := let ⟨l, e, f⟩ := strsAre_values h; ⟨l, e.symm, f⟩
theorem fold_len (k b : Nat) : ∀ (ss : List Str) (z : Nat), (∀ a ∈ ss, a.length ≤ b) → ss.foldl (fun (r : Nat) (a : Str) => r + a.length + k) z ≤ z + ss.length * (b + k)
  | [], z, _ => by simp
  | a :: ss, z, h => by
    have := fold_len k b ss (z + a.length + k) fun x hx => h x (List.mem_cons_of_mem _ hx)
    have ha := h a List.mem_cons_self
    rw [List.foldl_cons, List.length_cons, Nat.add_mul]
    lia
theorem joinOk_small {x : Str} {ss : List Str} (hx : x.length ≤ 10) (h : ∀ a ∈ ss, a.length ≤ 100) (hn : ss.length ≤ 100) : JoinOk x ss = true := by
  unfold JoinOk tooLong
  have e : (ss.toArray.foldl (fun (r : Nat) (a : Str) => r + a.length + x.length) 0) = ss.foldl (fun (r : Nat) (a : Str) => r + a.length + x.length) 0 := by simp
  have := fold_len x.length 100 ss 0 h
  have h2 : ss.length * (100 + x.length) ≤ 100 * 110 := Nat.mul_le_mul hn (by lia)
  have h3 : 100 * 110 ≤ sizeLine := by rw [sizeLine_eq]; lia
  rw [Bool.not_eq_true', decide_eq_false_iff_not]
  show ¬ (sizeLine < ss.toArray.foldl (fun (r : Nat) (a : Str) => r + a.length + x.length) 0)
  rw [e]; lia
theorem r_join {D : Addr} {vs : List Value} {x : Str} {ss : List Str} {t : Tok} {Q : Value → Shared → Prop} (O : Own h₀ s.heap Φ) (hl : Has h₀ Φ D (lstP vs)) (hs : StrsAre vs ss) (hok : JoinOk x ss = true)
    (h : ∀ t' s', Sm s s' → Own h₀ s'.heap Φ → Q (.str (PySem.Txt.join x ss) t') s') : wpAny (model PR w) A (call (.builtin "str.join") [.str x t, .ref D]) Q E s := by
  obtain ⟨l, rfl, rfl⟩ := strs_values hs
  exact SC.join (lstP.is (hl.get O)) rfl hok fun t' k => h t' _ Sm.mk' O
end
end
section
section
variable {w : World} {A : Around} {E : Value → Shared → Prop} {s : Shared} {h₀ : Heap} {Φ Φ' : List Cell} {env : Env} {L : Addr} {nm gl : List Str} {cl : List (Str × Addr)}
/-! ## a list comprehension with two heads -/
noncomputable abbrev e2 (elt t1 i1 t2 i2 : Expr) (scope : Scope) (pos : Pos) : Expr := .ListComp elt [⟨t1, i1, [], 0⟩, ⟨t2, i2, [], 0⟩] scope pos
theorem compTurn_two0 (elt t1 i1 t2 i2 : Expr) (scope : Scope) (pos : Pos) (it acc : Value) (env : Env) :
    compTurn (e2 elt t1 i1 t2 i2 scope pos) 0 it acc env = (standAt i1.pos >>= fun _ => pyNext it >>= fun r => match r with
      | none => pure (.done .next)
      | some v => letOwnedTupleGo t1 it v >>= fun _ => assign t1 env v >>= fun _ =>
        (eval i2 env >>= fun x => standAt i2.pos >>= fun _ => foldedSetIterable i2 env x >>= fun x => holding [x] (pyIter x) >>= fun it' => runOwn (.compStart (e2 elt t1 i1 t2 i2 scope pos) 1 it' acc env) env >>= fun _ => again (.compLoop (e2 elt t1 i1 t2 i2 scope pos) 0 it acc env))) := by rfl
theorem compTurn_two1 (elt t1 i1 t2 i2 : Expr) (scope : Scope) (pos : Pos) (it acc : Value) (env : Env) :
    compTurn (e2 elt t1 i1 t2 i2 scope pos) 1 it acc env = (standAt i2.pos >>= fun _ => pyNext it >>= fun r => match r with
      | none => pure (.done .next)
      | some v => letOwnedTupleGo t2 it v >>= fun _ => assign t2 env v >>= fun _ =>
        (eval elt env >>= fun x => call (.builtin "list.append") [acc, x] >>= fun _ => pure ()) >>= fun _ =>
          again (.compLoop (e2 elt t1 i1 t2 i2 scope pos) 1 it acc env)) := by rfl
theorem two1Loop_any {elt t1 i1 t2 i2 : Expr} {scope : Scope} {pos : Pos} {it acc : Value} {env : Env} {R : Result → Shared → Prop} (I : Nat → Shared → Prop)
    (turn : ∀ n s, I n s → wpAny (model PR w) A (pyNext it) (fun r s₁ => match r with
      | none => R (.ok .next) s₁
      | some v => wpAny (model PR w) A (letOwnedTupleGo t2 it v) (fun _ s₁' => wpAny (model PR w) A (assign t2 env v) (fun _ s₂ => 
            wpAny (model PR w) A (eval elt env) (fun x s₄ =>
              wpAny (model PR w) A (call (.builtin "list.append") [acc, x]) (fun _ s₅ => ∃ m, m < n ∧ I m s₅) (fun _ _ => False) s₄) (fun _ _ => False) s₂) (fun _ _ => False) s₁') (fun _ _ => False) s₁) (fun _ _ => False) s)
    (n : Nat) (h : I n s) : codeAny (model PR w) A (.compLoop (e2 elt t1 i1 t2 i2 scope pos) 1 it acc env) R s := by
  refine codeAny_loop rfl I (fun n s hI => ?_) n h
  show wpAny _ A ((compTurn (e2 elt t1 i1 t2 i2 scope pos) 1 it acc env).onRaise (fun x => do noteFrame x env; theTreesLotGoes x)) _ _ s
  refine wpAny_noted ?_
  rw [compTurn_two1]
  refine wpAny_bind (wpAny_standAt (wpAny_bind (wpAny_mono (turn n s hI) (fun r s₁ h₁ => ?_) fun _ _ h' => h'.elim)))
  cases r with
  | none => exact wpAny_pure h₁
  | some v =>
    refine wpAny_bind (wpAny_mono h₁ (fun _ s₁' h₁' => ?_) fun _ _ h' => h'.elim)
    refine wpAny_bind (wpAny_mono h₁' (fun _ s₂ h₂ => wpAny_bind (wpAny_bind (wpAny_mono h₂ (fun x s₃ h₃ => wpAny_bind (wpAny_mono h₃ (fun _ s₄ h₄ => wpAny_pure (wpAny_pure ⟨rfl, h₄⟩)) fun _ _ h' => h'.elim)) fun _ _ h' => h'.elim))) fun _ _ h' => h'.elim)
theorem compStart_two {R : Result → Shared → Prop} {elt t1 i1 t2 i2 : Expr} {scope : Scope} {pos : Pos} {it acc : Value} {env : Env}
    (h0 : codeAny (model PR w) A (.compLoop (e2 elt t1 i1 t2 i2 scope pos) 1 it acc env) R s)
    (h : wpAny (model PR w) A (pyIter it) (fun it' s' => codeAny (model PR w) A (.compLoop (e2 elt t1 i1 t2 i2 scope pos) 1 it' acc env) R s')
      (notedBy (model PR w) A env fun x s' => R (.error x) s') s) :
    codeAny (model PR w) A (.compStart (e2 elt t1 i1 t2 i2 scope pos) 1 it acc env) R s := by
  refine codeAny_of_tree ?_
  show wpAny _ A ((compStart (e2 elt t1 i1 t2 i2 scope pos) 1 it acc env).onRaise (fun x => do noteFrame x env; standAt theWindowsPlace)) _ _ s
  refine wpAny_notedAt ?_
  unfold compStart
  show wpAny _ A (ask >>= _) _ _ s
  refine wpAny_bind (wpAny_askSetting (wpAny_ite ?_))
  split
  · first
      | exact wpAny_bind (wpAny_pure (wpAny_pure (And.intro rfl h0)))
      | exact wpAny_pure (And.intro rfl h0)
  · first
      | exact wpAny_bind (wpAny_rule (wpAny_bind (wpAny_standAt (wpAny_bind (wpAny_mono h (fun it' s' h' => wpAny_pure (And.intro rfl h')) fun _ _ x => x)))))
      | (refine wpAny_bind (wpAny_rule ?_); show wpAny _ _ (standAt i2.pos >>= _) _ _ s; exact wpAny_bind (wpAny_standAt (wpAny_bind (wpAny_mono h (fun it' s' h' => wpAny_pure (And.intro rfl h')) fun _ _ x => x))))
theorem two0Loop_any {elt t1 i1 t2 i2 : Expr} {scope : Scope} {pos : Pos} {it acc : Value} {env : Env} {R : Result → Shared → Prop} (I : Nat → Shared → Prop) (hs : ∀ x, foldedSetIterable i2 env x = pure x)
    (turn : ∀ n s, I n s → wpAny (model PR w) A (pyNext it) (fun r s₁ => match r with
      | none => R (.ok .next) s₁
      | some v => wpAny (model PR w) A (letOwnedTupleGo t1 it v) (fun _ s₁' => wpAny (model PR w) A (assign t1 env v) (fun _ s₂ => 
            wpAny (model PR w) A (eval i2 env) (fun x s₃ => wpAny (model PR w) A (pyIter x) (fun it' s₄ =>
              codeAny (model PR w) A (.compStart (e2 elt t1 i1 t2 i2 scope pos) 1 it' acc env) (fun r s₅ => match r with | .ok _ => ∃ m, m < n ∧ I m s₅ | .error _ => False) s₄) (fun _ _ => False) s₃) (fun _ _ => False) s₂) (fun _ _ => False) s₁') (fun _ _ => False) s₁) (fun _ _ => False) s)
    (n : Nat) (h : I n s) : codeAny (model PR w) A (.compLoop (e2 elt t1 i1 t2 i2 scope pos) 0 it acc env) R s := by
  refine codeAny_loop rfl I (fun n s hI => ?_) n h
  show wpAny _ A ((compTurn (e2 elt t1 i1 t2 i2 scope pos) 0 it acc env).onRaise (fun x => do noteFrame x env; theTreesLotGoes x)) _ _ s
  refine wpAny_noted ?_
  rw [compTurn_two0]
  refine wpAny_bind (wpAny_standAt (wpAny_bind (wpAny_mono (turn n s hI) (fun r s₁ h₁ => ?_) fun _ _ h' => h'.elim)))
  cases r with
  | none => exact wpAny_pure h₁
  | some v =>
    refine wpAny_bind (wpAny_mono h₁ (fun _ s₁' h₁' => ?_) fun _ _ h' => h'.elim)
    refine wpAny_bind (wpAny_mono h₁' (fun _ s₂ h₂ => wpAny_bind (wpAny_mono h₂ (fun x s₃ h₃ => wpAny_bind (wpAny_standAt (wpAny_bind ?_))) fun _ _ h' => h'.elim)) fun _ _ h' => h'.elim)
    rw [hs]
    refine wpAny_pure (wpAny_bind (wpAny_holding (wpAny_mono h₃ (fun it' s₄ h₄ => wpAny_bind (wpAny_runOwn ?_)) fun _ _ h' => h'.elim)))
    rw [Around.mark_none]
    refine codeAny_mono h₄ fun r s₅ h₅ => ?_
    cases r with
    | ok f => exact wpAny_pure ⟨rfl, h₅⟩
    | error e => exact h₅.elim
noncomputable def LC2 (w : World) (A : Around) (E : Value → Shared → Prop) (env : Env) (elt t1 i1 t2 i2 : Expr) (scope : Scope) (cl' : List (Str × Addr)) (pos : Pos) (it : Value) (Q : Value → Shared → Prop) (s : Shared) : Prop :=
  wpAny (model PR w) A (newList []) (fun acc s₃ => wpAny (model PR w) A (newFunctionEnv scope env.globals cl' [] env.qual none .none (some env)) (fun cenv s₄ =>
    codeAny (model PR w) A (.compStart (e2 elt t1 i1 t2 i2 scope pos) 0 it acc { cenv with scope := relabel scope env }) (compPost (model PR w) A E none Q acc cenv.locals) s₄) E s₃) E s
theorem r_lc2 {elt t1 i1 t2 i2 : Expr} {scope : Scope} {pos : Pos} {Q : Value → Shared → Prop} {nm' cn fn gl' : List Str} {cl' : List (Str × Addr)} (V : EnvOK env L nm cl gl) (H : BlkOK scope nm' cn fn gl') (hcl : cl'.map (·.1) = fn.reverse) (hsub : ∀ p ∈ cl', p ∈ cl)
    (h : wpAny (model PR w) A (eval i1 env) (fun xv s₁ => wpAny (model PR w) A (pyIter xv) (fun it s₂ => LC2 w A E env elt t1 i1 t2 i2 scope cl' pos it Q s₂) E s₁) E s)
    (hs : ∀ x, foldedSetIterable i1 env x = pure x := by intro _; rfl) :
    wpAny (model PR w) A (eval (e2 elt t1 i1 t2 i2 scope pos) env) Q E s := by
  rw [arm_eval_ListComp]
  exact wpAny_comprehension_free (use := none) rfl hs (closure_of V H hcl hsub) H.kind H.loc h
/-- the inner head -/
theorem lc_inner {elt t1 i1 t2 i2 : Expr} {scope : Scope} {pos : Pos} {I D : Addr} {n : Nat} {own : Nat → List Cell} {Nd : List Cell → Prop} {Y : Nat → Value → List Cell → Prop} {R : Result → Shared → Prop} {ys0 : List Value} (W : IterT w A h₀ I t2 n own Nd Y)
    (hn : n + ys0.length ≤ 100000) (J : Nat → List Value → List Cell → Prop) (O : Own h₀ s.heap (own 0 ++ (D, lstP ys0) :: Φ)) (hJ : J 0 ys0 Φ) (hN : ∀ i ys Φ, i ≤ n → J i ys Φ → Nd ((D, lstP ys) :: Φ))
    (turn : ∀ i v Ψ ys Φ s₁, i < n → J i ys Φ → Y i v Ψ → Sm s s₁ → Own h₀ s₁.heap (own (i + 1) ++ (Ψ ++ (D, lstP ys) :: Φ)) →
      wpAny (model PR w) A (assign t2 env v) (fun _ s₃ => wpAny (model PR w) A (eval elt env) (fun y s₅ => LTurn h₀ s (own (i + 1)) D ys (J (i + 1) (ys ++ [y])) s₅) (fun _ _ => False) s₃) (fun _ _ => False) s₁)
    (done : ∀ ys Φ s₁, J n ys Φ → Sm s s₁ → Own h₀ s₁.heap ((D, lstP ys) :: Φ) → R (.ok .next) s₁) :
    codeAny (model PR w) A (.compStart (e2 elt t1 i1 t2 i2 scope pos) 1 (.ref I) (.ref D) env) R s := by
  have loop : codeAny (model PR w) A (.compLoop (e2 elt t1 i1 t2 i2 scope pos) 1 (.ref I) (.ref D) env) R s := by
    refine two1Loop_any (fun k s' => ∃ i ys Φ', k = n - i ∧ i ≤ n ∧ ys.length ≤ i + ys0.length ∧ Sm s s' ∧ Own h₀ s'.heap (own i ++ (D, lstP ys) :: Φ') ∧ J i ys Φ') ?_ n ⟨0, ys0, Φ, rfl, Nat.zero_le _, by lia, Sm.rfl, O, hJ⟩
    intro k s' jy0
    refine ex3 jy0 fun i ys Φ' jx0 => an6 jx0 fun jr00 hi hy e O' hJ' => ?_
    clear jx0 jy0
    subst jr00
    by_cases hlt : i < n
    · refine W.item i s' ((D, lstP ys) :: Φ') _ _ hlt O' (hN i ys Φ' hi hJ') fun v Ψ s₁ y hg => hg _ _ fun s₁' e₁ O₁ => ?_
      refine wpAny_mono (turn i v Ψ ys Φ' s₁' hlt hJ' y (e.tr e₁) O₁) (fun _ s₂ h2 => wpAny_mono h2 (fun y s₃ h3 => ?_) fun _ _ x => x.elim) fun _ _ x => x.elim
      obtain ⟨Φ'', e3, O3, j3⟩ := h3
      refine lst_append O3 (List.mem_append_right _ List.mem_cons_self) (by lia) (upd_append Upd.head) fun s₅ e₅ O₅ => ?_
      exact ⟨n - (i + 1), by lia, i + 1, ys ++ [y], Φ'', rfl, hlt, by simp; lia, e3.tr e₅, O₅, j3⟩
    · have : i = n := by lia
      subst this
      exact W.done s' ((D, lstP ys) :: Φ') _ _ O' (hN i ys Φ' hi hJ') fun s₁ e₁ O₁ => done ys Φ' s₁ hJ' (e.tr e₁) O₁
  exact compStart_two loop (W.self s _ _ _ O loop)
/-- the outer head -/
theorem lc2_block {elt t1 i1 t2 i2 : Expr} {scope : Scope} {pos : Pos} {I : Addr} {n : Nat} {own : Nat → List Cell} {Nd : List Cell → Prop} {Y : Nat → Value → List Cell → Prop} {Q : Value → Shared → Prop} {nm' cn fn gl' : List Str} {cl' : List (Str × Addr)}
    (V : EnvOK env L nm cl gl) (H : BlkOK scope nm' cn fn gl') (hcl : cl'.map (·.1) = fn.reverse) (W : IterT w A h₀ I t1 n own Nd Y) (hs2 : ∀ cenv x, foldedSetIterable i2 cenv x = pure x)
    (J : Addr → List (Str × Addr) → Nat → List Value → List Cell → Prop) (O : Own h₀ s.heap (own 0 ++ Φ))
    (start : ∀ C cs, cs.map (·.1) = cn.reverse → J C cs 0 [] (cell cs ++ (C, locP nm' (noneOf nm')) :: Φ)) (hN : ∀ C cs D i ys Φ, i ≤ n → J C cs i ys Φ → Nd ((D, lstP ys) :: Φ))
    (turn : ∀ C cs D cenv, EnvOK cenv C nm' (cs ++ cl') gl' → (∀ x ∈ cn, cenv.kindOf x = some .cell) → cenv.frame = env.frame → cs.map (·.1) = cn.reverse → ∀ i v Ψ ys Φ s₁, i < n → J C cs i ys Φ → Y i v Ψ → Sm s s₁ → Own h₀ s₁.heap (own (i + 1) ++ (Ψ ++ (D, lstP ys) :: Φ)) →
      wpAny (model PR w) A (assign t1 cenv v) (fun _ s₃ => wpAny (model PR w) A (eval i2 cenv) (fun x s₄ => wpAny (model PR w) A (pyIter x) (fun it' s₅ =>
        codeAny (model PR w) A (.compStart (e2 elt t1 i1 t2 i2 scope pos) 1 it' (.ref D) cenv) (fun r s₆ => match r with | .ok _ => ∃ ys', LTurn h₀ s (own (i + 1)) D ys' (J C cs (i + 1) ys') s₆ | .error _ => False) s₅) (fun _ _ => False) s₄) (fun _ _ => False) s₃) (fun _ _ => False) s₁)
    (done : ∀ C cs D ys Φ s₁, J C cs n ys Φ → Sm s s₁ → Own h₀ s₁.heap ((D, lstP ys) :: Φ) → compPost (model PR w) A E none Q (.ref D) C (.ok .next) s₁) :
    LC2 w A E env elt t1 i1 t2 i2 scope cl' pos (.ref I) Q s := by
  unfold LC2
  refine r_newLst O (fun D s₃ e₃ _ _ O₃ => ?_)
  refine r_newEnv (w := w) (A := A) (E := E) O₃ nm' fun s₄ C cs e₄ _ hc O₄ => ?_
  have hc' : cs.map (·.1) = cn.reverse := by rw [hc, H.cn]
  have O₅ : Own h₀ s₄.heap (own 0 ++ (D, lstP []) :: (cell cs ++ (C, locP nm' (noneOf nm')) :: Φ)) := O₄.perm perm_block
  have start' := start C cs hc'
  show codeAny _ _ (.compStart (e2 elt t1 i1 t2 i2 scope pos) 0 (.ref I) (.ref D) (compEnvC scope (cs ++ cl') C env)) (compPost (model PR w) A E none Q (.ref D) C) s₄
  have loop : codeAny (model PR w) A (.compLoop (e2 elt t1 i1 t2 i2 scope pos) 0 (.ref I) (.ref D) (compEnvC scope (cs ++ cl') C env)) (compPost (model PR w) A E none Q (.ref D) C) s₄ := by
    refine two0Loop_any (fun k s' => ∃ i ys Φ', k = n - i ∧ i ≤ n ∧ Sm s s' ∧ Own h₀ s'.heap (own i ++ (D, lstP ys) :: Φ') ∧ J C cs i ys Φ') (hs2 _) ?_ n ⟨0, [], _, rfl, Nat.zero_le _, e₃.tr e₄, O₅, start'⟩
    intro k s' jy0
    refine ex3 jy0 fun i ys Φ' jx0 => an5 jx0 fun jr00 hi e O' hJ' => ?_
    clear jx0 jy0
    subst jr00
    by_cases hlt : i < n
    · refine W.item i s' ((D, lstP ys) :: Φ') _ _ hlt O' (hN C cs D i ys Φ' hi hJ') fun v Ψ s₁ y hg => hg _ _ fun s₁' e₁ O₁ => ?_
      refine wpAny_mono (turn C cs D _ (compV (C := C) V H hc' hcl) (compV_cell H) rfl hc' i v Ψ ys Φ' s₁' hlt hJ' y (e.tr e₁) O₁) (fun _ s₂ h2 => wpAny_mono h2 (fun x s₃ h3 => wpAny_mono h3 (fun it' s₄ h4 => codeAny_mono h4 fun r s₅ h5 => ?_) fun _ _ x => x.elim) fun _ _ x => x.elim) fun _ _ x => x.elim
      cases r with
      | ok f =>
        obtain ⟨ys', Φ'', e3, O3, j3⟩ := h5
        exact ⟨n - (i + 1), by lia, i + 1, ys', Φ'', rfl, hlt, e3, O3, j3⟩
      | error e => exact h5
    · have : i = n := by lia
      subst this
      exact W.done s' ((D, lstP ys) :: Φ') _ _ O' (hN C cs D i ys Φ' hi hJ') fun s₁ e₁ O₁ => done C cs D ys Φ' s₁ hJ' (e.tr e₁) O₁
  exact codeAny_compStart_list loop (W.self s₄ _ _ _ O₅ loop)
end
end
section
section
variable {w : World} {A : Around} {E : Value → Shared → Prop} {s : Shared} {h₀ : Heap} {Φ Φ' : List Cell} {env : Env} {L : Addr} {nm gl : List Str} {cl : List (Str × Addr)}
/-! ## exceptions -/
theorem cell_one : ∀ {l : List Cell}, (l.map (·.1)).Nodup → ∀ {p q : Cell}, p ∈ l → q ∈ l → p.1 = q.1 → p = q
  | [], _, _, _, hp, _, _ => nomatch hp
  | y :: l, nd, p, q, hp, hq, e => by
    rw [List.map_cons, List.nodup_cons] at nd
    rcases List.mem_cons.mp hp with h1 | h1 <;> rcases List.mem_cons.mp hq with h2 | h2
    · rw [h1, h2]
    · exact (nd.1 (List.mem_map.mpr ⟨q, h2, by rw [← e, h1]⟩)).elim
    · exact (nd.1 (List.mem_map.mpr ⟨p, h1, by rw [e, h2]⟩)).elim
    · exact cell_one nd.2 h1 h2 e
theorem own_slots {h h' : Heap} {fs : List Addr} (O : Own h₀ h Φ) (hs : Heap.SlotsOnly fs h h') (hf : ∀ b ∈ fs, ∃ nm vs, (b, locP nm vs) ∈ Φ) : Own h₀ h' Φ := by
  refine ⟨fun b o e => (hs.2.1 b fun hb => ?_).trans (O.keep b o e), fun p hp => ?_, O.nd⟩
  · obtain ⟨nm, vs, hm⟩ := hf b hb
    rw [(O.own _ hm).1] at e; cases e
  · obtain ⟨hn, o, ho, hP⟩ := O.own p hp
    obtain ⟨sl, hsl⟩ := hs.2.2 p.1 o ho
    refine ⟨hn, _, hsl, ?_⟩
    by_cases hb : p.1 ∈ fs
    · obtain ⟨nm, vs, hm⟩ := hf _ hb
      have e := cell_one O.nd hp hm rfl
      rw [e] at hP ⊢
      obtain ⟨es, ep, a, b, c⟩ := hP
      exact ⟨es, ep, a, b, c⟩
    · have := hs.2.1 p.1 hb
      rw [hsl, ho] at this
      rw [Option.some.inj this]
      exact hP
/-- frames whose locals are owned -/
noncomputable def FR (l : List Env) (Φ : List Cell) : Prop := ∀ env ∈ l, env.scope.kind ≠ .module ∧ ∃ L nm vs, env.frame = some L ∧ (L, locP nm vs) ∈ Φ
theorem FR.mem {l : List Env} (F : FR l Φ) {b : Addr} (hb : b ∈ l.filterMap (·.frame)) : ∃ nm vs, (b, locP nm vs) ∈ Φ := by
  obtain ⟨env, he, hf⟩ := List.mem_filterMap.mp hb
  obtain ⟨_, L, nm, vs, h1, h2⟩ := F env he
  rw [h1] at hf; cases hf
  exact ⟨nm, vs, h2⟩
theorem FR.fun {h : Heap} {l : List Env} (F : FR l Φ) (O : Own h₀ h Φ) : h.FunFrames h₀ l := by
  induction l with
  | nil => trivial
  | cons env l ih =>
    obtain ⟨hk, L, nm, vs, h1, h2⟩ := F env List.mem_cons_self
    obtain ⟨hn, o, ho, es, ep, hd, _⟩ := O.own _ h2
    exact ⟨hk, ⟨L, o, h1, hn, ho, fun vs q => by rw [hd] at q; cases q⟩, ih fun e he => F e (List.mem_cons_of_mem _ he)⟩
theorem FR.mono {l : List Env} (F : FR l Φ) (h : ∀ p ∈ Φ, p ∈ Φ') : FR l Φ' := fun env he => let ⟨a, L, nm, vs, b, c⟩ := F env he; ⟨a, L, nm, vs, b, h _ c⟩
noncomputable def exP (T : Value) (c : Value) : Obj → Prop := fun o => o.cls = .type "IndexError" ∧ ∃ vs, o.data = .fields vs ∧ vs[1]? = some T ∧ vs[2]? = some c
noncomputable def tbP : Obj → Prop := fun o => ∃ ts, o.data = .fields ts ∧ 3 < ts.size
/-- an exception with a station -/
noncomputable def Fly (h₀ : Heap) (e : Addr) (c : Value) (Φ : List Cell) (h : Heap) : Prop := ∃ T, Own h₀ h ((e, exP (.ref T) c) :: (T, tbP) :: Φ)
theorem newEntry_own {e : Addr} {hd c : Value} {l : List Env} {Lf : Addr} {b : Bool} {Q : Unit → Shared → Prop} (hfr : A.frames = some (env :: l)) (F : FR (env :: l) Φ) (hf : env.frame = some Lf) (O : Own h₀ s.heap ((e, exP hd c) :: Φ))
    (h : ∀ s', Sm s s' → Fly h₀ e c Φ s'.heap → Q () s') :
    wpAny (model PR w) A (do let a ← frameOf env; let pl ← entryPlaceOf Lf b; let t ← EntryCells.newEntry hd a .none (rawInt Lf) .none pl; setField (.ref e) 1 t) Q E s := by
  have F' : FR (env :: l) ((e, exP hd c) :: Φ) := F.mono fun p hp => List.mem_cons_of_mem _ hp
  refine wpAny_bind (wpAny_frameOf_fun hfr (F'.fun O) hf fun h₁ hs₁ => ?_)
  have O₁ : Own h₀ h₁ ((e, exP hd c) :: Φ) := own_slots O hs₁ fun b hb => F'.mem hb
  refine wpAny_bind (wpAny_entryPlaceOf fun pl hpl => ?_)
  unfold EntryCells.newEntry newFields
  refine wpAny_bind (wpAny_newObj_type ?_ (hpl.sizeOk5 _ _ _ _ _))
  have O₂ := own_pushed O₁ tbP (o := { cls := .type "traceback", dict := none, data := .fields ([hd, .ref Lf, .none, rawInt Lf, .none] ++ (if pl.isEmpty then List.replicate 6 Value.none else pl)).toArray }) ⟨_, rfl, by simp only [List.size_toArray, List.length_append, List.length_cons, List.length_nil]; lia⟩ rfl
  obtain ⟨o, ho, hc, vs, hd', h1, h2⟩ := O₂.get (c := e) (P := exP hd c) (by simp)
  refine wpAny_setField ho hd' (Array.getElem?_eq_some_iff.mp h1).1 (h _ Sm.mk' ⟨h₁.objs.size, ?_⟩)
  have hdm := Obj.data_mapFields hd' (·.setIfInBounds 1 (Value.ref h₁.objs.size))
  have hg := Heap.get?_update_self (Obj.mapFields (·.setIfInBounds 1 (Value.ref h₁.objs.size))) ho (Obj.isFreed_of_fields hdm)
  have hsz := (Array.getElem?_eq_some_iff.mp h1).1
  refine (O₂.perm (List.Perm.swap _ _ _)).upd .head (Heap.SameBut.update _ _ _) ⟨_, hg, (Obj.cls_mapFields ..).trans hc, _, hdm, ?_, ?_⟩
  · simp [hsz]
  · rw [Array.getElem?_setIfInBounds_ne (by decide)]; exact h2
theorem r_note_new {e : Addr} {c : Value} {l : List Env} {Lf : Addr} {Q : Unit → Shared → Prop} (hfr : A.frames = some (env :: l)) (F : FR (env :: l) Φ) (hf : env.frame = some Lf) (O : Own h₀ s.heap ((e, exP .none c) :: Φ))
    (h : ∀ s', Sm s s' → Fly h₀ e c Φ s'.heap → Q () s') : wpAny (model PR w) A (noteFrame (.ref e) env) Q E s := by
  obtain ⟨o, ho, hc, vs, hd, h1, h2⟩ := O.head
  unfold noteFrame
  simp only [hf]
  refine wpAny_bind (wpAny_field ho hd h1 ?_)
  rw [if_neg (by decide)]
  exact newEntry_own hfr F hf O h
theorem r_note {e : Addr} {c : Value} {l : List Env} {Lf : Addr} {Q : Unit → Shared → Prop} (hfr : A.frames = some (env :: l)) (F : FR (env :: l) Φ) (hf : env.frame = some Lf) (O : Fly h₀ e c Φ s.heap)
    (h : ∀ s', Sm s s' → Fly h₀ e c Φ s'.heap → Q () s') : wpAny (model PR w) A (noteFrame (.ref e) env) Q E s := by
  obtain ⟨T, O⟩ := O
  obtain ⟨o, ho, hc, vs, hd, h1, h2⟩ := O.head
  obtain ⟨oT, hT, ts, hdT, hts⟩ := O.get (c := T) (P := tbP) (by simp)
  unfold noteFrame
  simp only [hf]
  refine wpAny_bind (wpAny_field ho hd h1 ?_)
  rw [if_pos (show (Value.ref T != Value.none) = true from by simp)]
  refine wpAny_bind (wpAny_field hT hdT (x := ts[3]) (by simp [hts]) ?_)
  by_cases hq : (ts[3] == rawInt Lf) = true
  · rw [if_pos hq]
    exact wpAny_pure (h _ Sm.rfl ⟨T, O⟩)
  · rw [if_neg hq]
    refine wpAny_bind (wpAny_setField hT hdT hts ?_)
    have hdm := Obj.data_mapFields hdT (·.setIfInBounds 3 Value.none)
    have hg := Heap.get?_update_self (Obj.mapFields (·.setIfInBounds 3 Value.none)) hT (Obj.isFreed_of_fields hdm)
    have O' : Own h₀ (s.heap.update T (Obj.mapFields (·.setIfInBounds 3 Value.none))) ((e, exP (.ref T) c) :: (T, tbP) :: Φ) := O.upd (.tail .head) (Heap.SameBut.update _ _ _) ⟨_, hg, _, hdm, by simpa using hts⟩
    exact newEntry_own (h₀ := h₀) hfr F hf (O'.sub (.cons₂ _ (.cons _ (List.Sublist.refl _)))) fun s' e' f' => h s' (Sm.mk'.tr e') f'
theorem r_flight {e : Addr} {c : Value} {v : Option Addr} {Q : Unit → Shared → Prop} (O : Fly h₀ e c Φ s.heap) (h : ∀ s', Sm s s' → Fly h₀ e c Φ s'.heap → Q () s') : wpAny (model PR w) A (setFlight (.ref e) v) Q E s := by
  obtain ⟨T, O⟩ := O
  obtain ⟨o, ho, hc, vs, hd, h1, h2⟩ := O.head
  obtain ⟨oT, hT, ts, hdT, hts⟩ := O.get (c := T) (P := tbP) (by simp)
  unfold setFlight
  refine wpAny_bind (wpAny_field ho hd h1 ?_)
  rw [if_pos (show (Value.ref T != Value.none) = true from by simp)]
  refine wpAny_setField hT hdT hts (h _ Sm.mk' ⟨T, ?_⟩)
  have hdm := Obj.data_mapFields hdT (·.setIfInBounds 3 (v.elim Value.none fun f => rawInt f))
  have hg := Heap.get?_update_self (Obj.mapFields (·.setIfInBounds 3 (v.elim Value.none fun f => rawInt f))) hT (Obj.isFreed_of_fields hdm)
  exact O.upd (.tail .head) (Heap.SameBut.update _ _ _) ⟨_, hg, _, hdm, by simpa using hts⟩
theorem r_cameBack {e : Addr} {c : Value} (O : Fly h₀ e c Φ s.heap) (h : ∀ s', Sm s s' → Fly h₀ e c Φ s'.heap → E (.ref e) s') : cameBackBy (model PR w) A env E (.ref e) s := by
  unfold cameBackBy
  obtain ⟨T, O'⟩ := id O
  obtain ⟨o, ho, hc, vs, hd, h1, h2⟩ := O'.head
  refine wpAny_bind (wpAny_field ho hd h1 ?_)
  rw [if_neg (show ¬ ((Value.ref T == Value.none) = true) from by simp)]
  exact r_flight O h
theorem r_passOn {α : Type} {what : String} {e : Addr} {c : Value} {Q : α → Shared → Prop} (O : Fly h₀ e c Φ s.heap) (h : ∀ s', Sm s s' → Fly h₀ e c Φ s'.heap → E (.ref e) s') : wpAny (model PR w) A (PySem.passOn what (.ref e) env : Sem α) Q E s := by
  unfold PySem.passOn
  obtain ⟨T, O'⟩ := id O
  obtain ⟨o, ho, hc, vs, hd, h1, h2⟩ := O'.head
  refine wpAny_bind (wpAny_field ho hd h1 ?_)
  rw [if_neg (show ¬ ((Value.ref T == Value.none) = true) from by simp)]
  exact wpAny_bind (r_flight O fun s' e' f' => wpAny_throw (h s' e' f'))
theorem Fly.there {e : Addr} {c : Value} {h : Heap} (F : Fly h₀ e c Φ h) : ∃ o, h.get? e = some o ∧ o.cls = .type "IndexError" := by
  obtain ⟨T, O⟩ := F
  obtain ⟨o, ho, hc, _⟩ := O.head
  exact ⟨o, ho, hc⟩
theorem Fly.own {e : Addr} {c : Value} {h : Heap} (F : Fly h₀ e c Φ h) : Own h₀ h Φ := let ⟨_, O⟩ := F; O.drop.drop
end
end
section
section
variable {w : World} {A : Around} {E : Value → Shared → Prop} {s : Shared} {h₀ : Heap} {Φ Φ' : List Cell} {env : Env} {L : Addr} {nm gl : List Str} {cl : List (Str × Addr)}
theorem uc_plain : plainId "proto.unchain" = true := by decide +kernel
theorem uc_entry : entryFor table "proto.unchain" = some Builtin.«proto.unchain» := entryFor_of_fast (by kernel_rfl)
noncomputable def HX (A : Around) (Φ : List Cell) : Prop := A.handled = none ∨ ∃ e1 T, A.handled = some (.ref e1) ∧ (e1, exP T .none) ∈ Φ
theorem exNew_own {t : Value} {h : Heap} (O : Own h₀ h Φ) (x : Value) : Own h₀ (h.push { cls := .type "IndexError", dict := none, data := .fields (#[t, .none, .none, .none, .bool false, x] ++ #[]) }) ((h.objs.size, exP .none .none) :: Φ) :=
  own_pushed O (exP .none .none) (o := { cls := .type "IndexError", dict := none, data := .fields (#[t, .none, .none, .none, .bool false, x] ++ #[]) }) ⟨rfl, _, rfl, by simp, by simp⟩ rfl
theorem raiseNew_own {α : Type} {e : Addr} {Q : α → Shared → Prop} (H : HX A Φ) (O : Own h₀ s.heap ((e, exP .none .none) :: Φ))
    (h : ∀ c s', (A.handled = none → c = .none) → Sm s s' → Own h₀ s'.heap ((e, exP .none c) :: Φ) → E (.ref e) s') : wpAny (model PR w) A (raiseNew (.ref e) : Sem α) Q E s := by
  unfold raiseNew
  refine wpAny_bind (wpAny_handled ?_)
  rcases H with H | ⟨e1, T, H, hm⟩
  · rw [H]
    first
      | exact wpAny_throw (h _ _ (fun _ => rfl) Sm.rfl O)
      | exact wpAny_bind (wpAny_pure (wpAny_throw (h _ _ (fun _ => rfl) Sm.rfl O)))
  · rw [H]
    have hne : e1 ≠ e := by
      intro q
      have nd := O.nd
      rw [List.map_cons, List.nodup_cons] at nd
      exact nd.1 (List.mem_map.mpr ⟨_, hm, q⟩)
    obtain ⟨o1, g1, _, vs1, hd1, _, hc1⟩ := O.get (List.mem_cons_of_mem _ hm)
    obtain ⟨o, g, hcl, vs, hd, h1, h2⟩ := O.head
    have hb : (Value.ref e1 != Value.ref e) = true := by simpa using hne
    simp only [hb, if_true]
    refine wpAny_bind (wpAny_holding (wpAny_runValue (codeAny_builtin uc_entry ?_)))
    rw [Around.under_plainId uc_plain _]
    show wpAny _ A.in1 (field (.ref e1) 2 >>= _) _ _ s
    refine wpAny_bind (wpAny_field g1 hd1 hc1 ?_)
    rw [if_pos (show (Value.none == Value.none) = true by decide)]
    show wpAny _ A.in1 (ret Value.none >>= fun v => pure v) _ _ s
    refine wpAny_pure ?_
    unfold updateField
    refine wpAny_bind (wpAny_bind (wpAny_load g ?_))
    rw [hd]
    show wpAny _ A (if 2 < vs.size then _ else _) _ _ s
    have hsz := (Array.getElem?_eq_some_iff.mp h2).1
    rw [if_pos hsz]
    have hdm := Obj.data_mapFields hd (·.setIfInBounds 2 (Value.ref e1))
    have hg := Heap.get?_update_self (Obj.mapFields (·.setIfInBounds 2 (Value.ref e1))) g (Obj.isFreed_of_fields hdm)
    refine wpAny_update g (wpAny_throw (h (.ref e1) _ (fun q => by rw [H] at q; cases q) Sm.mk' (O.upd .head (Heap.SameBut.update _ _ _) ⟨_, hg, (Obj.cls_mapFields ..).trans hcl, _, hdm, ?_, ?_⟩)))
    · rw [Array.getElem?_setIfInBounds_ne (by decide)]; exact h1
    · simp [hsz]
theorem raiseWords_own {α : Type} {msg : String} {Q : α → Shared → Prop} (H : HX A Φ) (O : Own h₀ s.heap Φ) (h : ∀ e c s', (A.handled = none → c = .none) → Sm s s' → Own h₀ s'.heap ((e, exP .none c) :: Φ) → E (.ref e) s') :
    wpAny (model PR w) A (raiseErrorWords "IndexError" msg : Sem α) Q E s := by
  have hp := plainExc_IndexError
  unfold raiseErrorWords
  refine wpAny_bind (wpAny_mkText (wpAny_bind ?_))
  unfold newExc newTuple
  refine wpAny_bind (wpAny_newObj_type ?_)
  refine wpAny_bind (m := firstArgMember _ _) (wpAny_of_eq (a := Value.none) (by simp only [firstArgMember, hp.first]; rfl) ?_)
  rw [hp.own]
  refine wpAny_newObj_type ?_
  have O1 : ∀ {o : Obj}, Own h₀ (s.heap.push o) Φ := O.kp fun _ _ e => Heap.get?_push_of_some _ e
  exact raiseNew_own H (exNew_own O1 _) fun c s' hc e' O' => h _ c s' hc (Sm.mk'.tr e') O'
theorem r_out {l : Addr} {xs : List Value} {j : Nat} {t : Tok} {Q : Value → Shared → Prop} (H : HX A Φ) (O : Own h₀ s.heap Φ) (hl : Has h₀ Φ l (lstP xs)) (hj : xs.length ≤ j) (hj2 : j ≤ 100000)
    (h : ∀ e c s', (A.handled = none → c = .none) → Sm s s' → Own h₀ s'.heap ((e, exP .none c) :: Φ) → E (.ref e) s') : wpAny (model PR w) A (getItem (.ref l) (.int (j : Int) t)) Q E s := by
  have hl' := lstP.is (hl.get O)
  obtain ⟨o, ho, hc, ne, hd⟩ := id hl'
  have H' : HX A.in1 Φ := H
  have hx : xs.toArray[j]? = none := Array.getElem?_eq_none (by simpa using hj)
  obtain ⟨k, hk⟩ : ∃ k : Int, k = Int.ofNat j := ⟨_, rfl⟩
  rw [show ((j : Nat) : Int) = k from hk.symm]
  have hf := fitsIndex_both (k := k) (by rw [hk]; simp only [Int.ofNat_eq_natCast]; lia) (by rw [hk]; simp only [Int.ofNat_eq_natCast]; lia)
  unfold getItem
  try with_reducible refine wpAny_holding ?_
  first | refine wpAny_bind (wpAny_pure ?_) | skip
  refine wpAny_bind (wpAny_sequenceKey hl'.typeIs (by decide) ?_)
  refine wpAny_bind (wpAny_callSpecial?_slot (name := Str.ofString "__getitem__") hl'.typeIs slot_list_getitem
    (wpAny_call_entry slot_list_getitem hl'.typeIs entry_list_getitem ?_ (args_list_getitem _ _)))
  show wpAny _ _ (Builtin.List.listSubscript? (.int k t) >>= _) _ _ s
  refine wpAny_bind (wpAny_listSubscript_int hf ?_)
  clear hf
  subst hk
  show wpAny _ _ ((seqItemAt l j >>= fun r => pure (r.map (j, ·))) >>= _) _ _ s
  refine wpAny_bind (wpAny_bind (wpAny_seqItemAt ho hd (wpAny_pure ?_)))
  rw [hx]
  first
    | exact wpAny_bind (wpAny_rule (raiseWords_own H' O h))
    | exact wpAny_bind (wpAny_rule (wpAny_bind (raiseWords_own H' O h)))
    | exact wpAny_bind (wpAny_bind (wpAny_rule (raiseWords_own H' O h)))
    | exact wpAny_rule (raiseWords_own H' O h)
end
end
section
section
variable {w : World} {A : Around} {E : Value → Shared → Prop} {s : Shared} {h₀ : Heap} {Φ Φ' Z : List Cell} {env : Env} {L : Addr} {nm gl : List Str} {cl : List (Str × Addr)}
theorem FR.cons {l : List Env} {vs : List (Option Value)} (V : EnvOK env L nm cl gl) (hf : env.frame = some L) (F : FR l Z) : FR (env :: l) ((L, locP nm vs) :: Z) := by
  intro e he
  rcases List.mem_cons.mp he with rfl | he
  · exact ⟨by rw [V.kind]; decide, L, nm, vs, hf, List.mem_cons_self⟩
  · exact (F.mono fun p hp => List.mem_cons_of_mem _ hp) e he
theorem r_extend {D b : Addr} {xs ys : List Value} {Q : Value → Shared → Prop} (O : Own h₀ s.heap Φ) (hm : (D, lstP xs) ∈ Φ) (hb : Has h₀ Φ b (lstP ys)) (hz : xs.length + ys.length ≤ 100000) (U : Upd D (lstP (xs ++ ys)) Φ Φ')
    (h : ∀ s', Sm s s' → Own h₀ s'.heap Φ' → Q .none s') : wpAny (model PR w) A (call (.builtin "list.extend") [.ref D, .ref b]) Q E s := by
  obtain ⟨o, ho, n, rfl⟩ := O.get hm
  obtain ⟨o2, ho2, n2, rfl⟩ := hb.get O
  refine call_meets PySem.F.slot_list_extend ⟨_, ho, rfl⟩ PySem.F.entry_list_extend (PySem.F.args_list_extend_2 _ _) (PySem.AutoSeq1.list_extend_list_list_0 D xs.toArray n b ys.toArray n2 ?_ (by rw [sizeLine_eq]; simp; lia) (by rw [sizeLine_eq]; simp; lia)) ⟨ho, ho2, h _ Sm.mk' (O.upd U (Heap.SameBut.update ..) ⟨_, Heap.get?_update_self _ ho rfl, ?_⟩)⟩
  · have : Builtin.List.listTooLong (xs.toArray.size + ys.toArray.size) = false := by
      unfold Builtin.List.listTooLong
      simp only [List.size_toArray]
      rw [decide_eq_false_iff_not, sizeLine_eq]; lia
    rw [this, Bool.and_false]; decide
  · exact ⟨_, by simp [Obj.mapSeq]; rfl⟩
theorem dropWhile_at {ss : List Str} {x : Str} {i : Nat} (hi : i < ss.length) : (ss.drop i).dropWhile (· == x) = if ss[i] == x then (ss.drop (i + 1)).dropWhile (· == x) else ss.drop i := by
  rw [List.drop_eq_getElem_cons hi, List.dropWhile_cons]
set_option maxHeartbeats 1000000 in
/-- while xs[i] == e: i += 1 -/
theorem skipW {xl xi xe : Str} {pl pi ps pe pc p1 p2 p3 pos : Pos} {k : Nat} {l : Addr} {zs : List Value} {ss : List Str} {x : Str} {tx : Tok} {i0 : Nat} {t0 : Tok} {fr : List Env} {W : Value → List (Option Value)} {Q : Flow → Shared → Prop}
    (V : EnvOK env L nm cl gl) (hfr : A.frames = some (env :: fr)) (hf : env.frame = some L) (hF : FR fr Z) (hH : HX A Z) (hl : Has h₀ Z l (lstP zs)) (hs : StrsAre zs ss) (hz : ss.length ≤ 1000) (hi : i0 ≤ ss.length)
    (a1 : ∀ v, At xl (.ref l) nm (W v)) (a2 : ∀ v, At xi v nm (W v)) (a3 : ∀ v, At xe (.str x tx) nm (W v)) (a4 : ∀ v u, Put xi u nm (W v) (W u))
    (O : Own h₀ s.heap ((L, locP nm (W (.int i0 t0))) :: Z))
    (hd : ∀ (i : Nat) t s', i < ss.length → i0 ≤ i → ss.drop i = (ss.drop i0).dropWhile (· == x) → Sm s s' → Own h₀ s'.heap ((L, locP nm (W (.int i t))) :: Z) → Q .next s')
    (hr : ∀ t e c s', (ss.drop i0).dropWhile (· == x) = [] → Sm s s' → Fly h₀ e c ((L, locP nm (W (.int ss.length t))) :: Z) s'.heap → (A.handled = none → c = .none) → E (.ref e) s') :
    wpAny (model PR w) A (exec (.While (.Compare (.Subscript (.Name xl pl) (.Name xi pi) ps) [.Eq] [.Name xe pe] pc) [.AugAssign (.Name xi p1) .Add (.Constant (.int 1) k p2) p3] [] pos) env) Q E s := by
  have lz : zs.length = ss.length := hs.length
  refine wpAny_While (codeAny_whileLoop (fun n s' => ∃ (i : Nat) (t : Tok), n = ss.length - i ∧ i ≤ ss.length ∧ i0 ≤ i ∧ (ss.drop i0).dropWhile (· == x) = (ss.drop i).dropWhile (· == x) ∧ Sm s s' ∧ Own h₀ s'.heap ((L, locP nm (W (.int i t))) :: Z)) ?_ (ss.length - i0) ⟨i0, t0, rfl, hi, Nat.le_refl _, rfl, Sm.rfl, O⟩)
  intro n s' jy0
  refine ex2 jy0 fun i t jx0 => an6 jx0 fun jr00 hi' hii hdw e O => ?_
  clear jx0 jy0
  subst jr00
  refine wpAny_isTrue_Compare1 (Subscript_ (r_ld V O (by ktr_rel) (a1 _) (r_ld V O (by ktr_rel) (a2 _) ?_)))
  have hl' : Has h₀ ((L, locP nm (W (.int i t))) :: Z) l (lstP zs) := hl.mono fun p hp => List.mem_cons_of_mem _ hp
  by_cases hlt : i < ss.length
  · refine item_strsA (lstP.is (hl'.get O)) hs (by lia) (by lia) (by lia) fun t₃ => ?_
    rw [Int.toNat_natCast, List.getD_eq_getElem?_getD, List.getElem?_eq_getElem hlt, Option.getD_some]
    refine r_ld V O (by ktr_rel) (a3 _) (PyProof.Rows.eq_str (truth_bool ?_))
    have hda := dropWhile_at (x := x) hlt
    cases hq : (ss[i] == x) with
    | true =>
      rw [if_pos rfl]
      rw [hq, if_pos rfl] at hda
      refine r_seq rfl (wpAny_AugAssign_Name (r_ldn V O (by ktr_rel) (a2 _) (wpAny_Constant_int (PyProof.Rows.iadd_int ?_))))
      refine r_st V (Own.kp O Kp.rfl) (by ktr_rel) (a4 _ (.int ((i + 1 : Nat) : Int) _)) (by ktr_rel) fun s₂ e₂ O₂ => ?_
      exact r_nil ⟨ss.length - (i + 1), by lia, i + 1, _, rfl, by lia, by lia, by rw [hdw, hda], by ktr_rel, O₂⟩
    | false =>
      rw [if_neg (by decide)]
      rw [hq, if_neg (by decide)] at hda
      refine r_nil ?_
      exact hd i t s' hlt hii (by rw [hdw, hda]) e O
  · have hil : i = ss.length := by lia
    subst hil
    have hnil : (ss.drop i0).dropWhile (· == x) = [] := by rw [hdw]; simp
    refine tail_any (Heap.IsList.typeIs (lstP.is (hl'.get O))) list_getitem_lookup (r_out (hH.imp id fun ⟨e1, T, a, b⟩ => ⟨e1, T, a, List.mem_cons_of_mem _ b⟩) O hl' (by lia) (by lia) fun ee c s₂ hc e₂ O₂ => ?_) (by with_unfolding_all rfl)
    show wpAny _ _ (noteFrame (.ref ee) env) _ _ _
    exact r_note_new hfr (hF.cons V hf) hf O₂ fun s₃ e₃ f₃ => r_cameBack f₃ fun s₄ e₄ f₄ => hr t ee c s₄ hnil (by ktr_rel) f₄ hc
end
end
section
/-! ## keys: order, common front -/
noncomputable def ltF : Key → Key → Bool
  | [], [] => false
  | [], _ :: _ => true
  | _ :: _, [] => false
  | x :: xs, y :: ys => if x = y then ltF xs ys else decide (x < y)
theorem ltNm : ∀ x y : Fin 3, ltStr (nmF x) (nmF y) = decide (x < y) := by decide +kernel
theorem ltF_eq : ∀ a b : Key, ltSS (a.map nmF) (b.map nmF) = ltF a b
  | [], [] => rfl
  | [], _ :: _ => rfl
  | _ :: _, [] => rfl
  | x :: xs, y :: ys => by
    rw [List.map_cons, List.map_cons, ltSS, ltF]
    by_cases h : x = y
    · subst h; rw [if_pos rfl, if_pos rfl]; exact ltF_eq xs ys
    · rw [if_neg h, if_neg (fun e => h (nmF_ok x y e)), ltNm]
theorem ltF_irr : ∀ a : Key, ltF a a = false
  | [] => rfl
  | x :: xs => by rw [ltF, if_pos rfl]; exact ltF_irr xs
theorem ltF_asy : ∀ a b : Key, ltF a b = true → ltF b a = false
  | [], [], h => by cases h
  | [], _ :: _, _ => rfl
  | _ :: _, [], h => by cases h
  | x :: xs, y :: ys, h => by
    rw [ltF] at h ⊢
    by_cases e : x = y
    · subst e; rw [if_pos rfl] at h ⊢; exact ltF_asy xs ys h
    · rw [if_neg e] at h; rw [if_neg (fun q => e q.symm)]
      have := of_decide_eq_true h
      exact decide_eq_false (fun q => absurd (Fin.lt_trans this q) (Fin.lt_irrefl _))
noncomputable def lcp : Key → Key → Key
  | x :: xs, y :: ys => if x = y then x :: lcp xs ys else []
  | _, _ => []
theorem lcp_comm : ∀ a b : Key, lcp a b = lcp b a
  | [], [] => rfl
  | [], _ :: _ => rfl
  | _ :: _, [] => rfl
  | x :: xs, y :: ys => by
    rw [lcp, lcp]
    by_cases e : x = y
    · subst e; rw [if_pos rfl, if_pos rfl, lcp_comm xs ys]
    · rw [if_neg e, if_neg (fun q => e q.symm)]
theorem lcp_self : ∀ a : Key, lcp a a = a
  | [] => rfl
  | x :: xs => by rw [lcp, if_pos rfl, lcp_self xs]
theorem lcp_len : ∀ a b : Key, (lcp a b).length ≤ a.length
  | [], _ => by rw [lcp]; exact Nat.le_refl _; intros; contradiction
  | x :: xs, [] => by simp [lcp]
  | x :: xs, y :: ys => by
    rw [lcp]; split
    · exact Nat.succ_le_succ (lcp_len xs ys)
    · exact Nat.zero_le _
theorem lcp_pre : ∀ a b : Key, lcp a b = a ↔ a <+: b
  | [], b => by rw [lcp]; simp; intros; contradiction
  | x :: xs, [] => by simp [lcp]
  | x :: xs, y :: ys => by
    rw [lcp]
    by_cases e : x = y
    · subst e; rw [if_pos rfl, List.cons_prefix_cons]
      simp [lcp_pre xs ys]
    · rw [if_neg e, List.cons_prefix_cons]
      simp [e]
theorem lcp_stop : ∀ (i : Nat) (a b : Key) (x y : Fin 3), a.take i = b.take i → a[i]? = some x → b[i]? = some y → x ≠ y → lcp a b = a.take i
  | 0, [], _, _, _, _, h, _, _ => by simp at h
  | 0, _ :: _, [], _, _, _, _, h, _ => by simp at h
  | 0, u :: a, v :: b, x, y, _, h1, h2, h3 => by
    simp at h1 h2; subst h1 h2
    rw [lcp, if_neg h3]; rfl
  | i + 1, [], _, _, _, _, h, _, _ => by simp at h
  | i + 1, _ :: _, [], _, _, h, _, _, _ => by simp at h
  | i + 1, u :: a, v :: b, x, y, h, h1, h2, h3 => by
    rw [List.take_succ_cons, List.take_succ_cons] at h
    injection h with e1 e2
    subst e1
    rw [lcp, if_pos rfl, List.take_succ_cons, lcp_stop i a b x y e2 (by simpa using h1) (by simpa using h2) h3]
theorem ltF_pre : ∀ (a b : Key), b <+: a → a ≠ b → ltF b a = true
  | [], [], _, h => absurd rfl h
  | [], _ :: _, h, _ => by simp at h
  | _ :: _, [], _, _ => rfl
  | x :: xs, y :: ys, h, hn => by
    rw [List.cons_prefix_cons] at h
    obtain ⟨rfl, h⟩ := h
    rw [ltF, if_pos rfl]
    exact ltF_pre xs ys h (fun e => hn (by rw [e]))
/-- the least and the greatest of [a, b], [a, b, a] -/
noncomputable def minK (ks : List Key) : Key := ks.getD (argBest (fun i j => ltF (ks.getD i []) (ks.getD j [])) (ks.length - 1)) []
noncomputable def maxK (ks : List Key) : Key := ks.getD (argBest (fun i j => ltF (ks.getD j []) (ks.getD i [])) (ks.length - 1)) []
noncomputable def cpK (ks : List Key) : Key := lcp (minK ks) (maxK ks)
theorem cp2 (a b : Key) : ltF (maxK [a, b]) (minK [a, b]) = false ∧ (cpK [a, b] = lcp a b) := by
  unfold cpK minK maxK
  simp only [List.length_cons, List.length_nil, Nat.zero_add, Nat.add_sub_cancel, argBest]
  simp only [List.getD_cons_zero, List.getD_cons_succ]
  cases h1 : ltF b a with
  | true =>
    have := ltF_asy _ _ h1
    simp [this, lcp_comm]
  | false =>
    cases h2 : ltF a b with
    | true => simp [h1]
    | false =>
      simp [ltF_irr]
      -- neither is less: they are one
      have : ∀ a b : Key, ltF a b = false → ltF b a = false → a = b := by
        intro a
        induction a with
        | nil => intro b h _; cases b with
          | nil => rfl
          | cons y ys => cases h
        | cons x xs ih => intro b h h'; cases b with
          | nil => cases h'
          | cons y ys =>
            rw [ltF] at h h'
            by_cases e : x = y
            · subst e; rw [if_pos rfl] at h h'; rw [ih ys h h']
            · rw [if_neg e] at h; rw [if_neg (fun q => e q.symm)] at h'
              have q1 := of_decide_eq_false h
              have q2 := of_decide_eq_false h'
              exact absurd (by lia) e
      rw [this a b h2 h1]
theorem ltF_tot : ∀ a b : Key, ltF a b = false → ltF b a = false → a = b := by
  intro a
  induction a with
  | nil => intro b h _; cases b with
    | nil => rfl
    | cons y ys => cases h
  | cons x xs ih => intro b h h'; cases b with
    | nil => cases h'
    | cons y ys =>
      rw [ltF] at h h'
      by_cases e : x = y
      · subst e; rw [if_pos rfl] at h h'; rw [ih ys h h']
      · rw [if_neg e] at h; rw [if_neg (fun q => e q.symm)] at h'
        have q1 := of_decide_eq_false h
        have q2 := of_decide_eq_false h'
        exact absurd (by lia) e
theorem cp3 (a b : Key) : ltF (maxK [a, b, a]) (minK [a, b, a]) = false ∧ (cpK [a, b, a] = lcp a b) := by
  unfold cpK minK maxK
  simp only [List.length_cons, List.length_nil, Nat.zero_add, Nat.add_sub_cancel, argBest]
  simp only [List.getD_cons_zero, List.getD_cons_succ]
  cases h1 : ltF b a with
  | true =>
    have := ltF_asy _ _ h1
    simp [this, lcp_comm, ltF_irr]
  | false =>
    cases h2 : ltF a b with
    | true => simp [h1, h2, ltF_irr]
    | false =>
      have := ltF_tot a b h2 h1
      subst this
      simp [ltF_irr]
/-! ## texts -/
theorem split_names0 : keys39.all (fun k => k.length == 0 || PySem.Txt.split (S k) "/" == ("" : Str) :: k.map nmF) = true := by decide +kernel
theorem split_names {k : Key} (h : Good k) : PySem.Txt.split (S k) "/" = ("" : Str) :: k.map nmF := by
  have := List.all_eq_true.mp split_names0 k (mem_keys39 h.2)
  have hk : k.length ≠ 0 := fun e => h.1 (List.length_eq_zero_iff.mp e)
  simpa [hk, h.1] using this
theorem starts0 : keys39.all (fun k => PySem.Txt.startswith (S k) "/") = true := by decide +kernel
theorem starts_S {k : Key} (h : k.length ≤ 3) : PySem.Txt.startswith (S k) "/" = true := List.all_eq_true.mp starts0 k (mem_keys39 h)
theorem join_names0 : keys39.all (fun k => ("/" : Str) ++ PySem.Txt.join "/" (k.map nmF) == S k) = true := by decide +kernel
theorem join_names {k : Key} (h : k.length ≤ 3) : ("/" : Str) ++ PySem.Txt.join "/" (k.map nmF) = S k := by
  have := List.all_eq_true.mp join_names0 k (mem_keys39 h)
  simpa using this
theorem join_len0 : keys39.all (fun k => (PySem.Txt.join "/" (k.map nmF)).length ≤ 20) = true := by decide +kernel
theorem join_len {k : Key} (h : k.length ≤ 3) : (PySem.Txt.join "/" (k.map nmF)).length ≤ 20 := by
  have := List.all_eq_true.mp join_len0 k (mem_keys39 h)
  simpa using this
theorem nm_pos : ∀ x : Fin 3, (nmF x).length ≠ 0 := by decide +kernel
theorem nm_dot : ∀ x : Fin 3, (nmF x != ".") = true := by decide +kernel
end
section
section
open PySem.SeqAt
variable {w : World} {A : Around} {E : Value → Shared → Prop} {s : Shared} {h₀ : Heap} {Φ Φ' Y : List Cell} {env : Env} {L : Addr} {nm gl : List Str} {cl : List (Str × Addr)}
/-- lists of texts -/
structure NL (f : Key → List Str) (ks : List Key) (M : List (Addr × List Value)) : Prop where
  len : M.length = ks.length
  at_ : ∀ (j : Nat) p k, M[j]? = some p → ks[j]? = some k → StrsAre p.2 (f k)
theorem NL.nil {f : Key → List Str} : NL f [] [] := ⟨rfl, fun _ _ _ h => by simp at h⟩
theorem NL.snoc {f : Key → List Str} {ks : List Key} {M : List (Addr × List Value)} (h : NL f ks M) {a : Addr} {xs : List Value} {k : Key} (hx : StrsAre xs (f k)) : NL f (ks ++ [k]) (M ++ [(a, xs)]) := by
  refine ⟨by simp [h.len], fun j p q hp hq => ?_⟩
  rcases Nat.lt_trichotomy j M.length with hj | hj | hj
  · rw [List.getElem?_append_left hj] at hp
    rw [List.getElem?_append_left (h.len ▸ hj)] at hq
    exact h.at_ j p q hp hq
  · subst hj
    rw [h.len] at hq
    simp at hp hq
    subst hp hq
    exact hx
  · rw [List.getElem?_eq_none (by simp; lia)] at hp; cases hp
theorem NL.get {f : Key → List Str} {ks : List Key} {M : List (Addr × List Value)} (h : NL f ks M) {j : Nat} (hj : j < ks.length) : ∃ a xs, M[j]? = some (a, xs) ∧ StrsAre xs (f (ks.getD j [])) := by
  have hj' : j < M.length := h.len ▸ hj
  refine ⟨M[j].1, M[j].2, List.getElem?_eq_getElem hj', h.at_ j M[j] _ (List.getElem?_eq_getElem hj') ?_⟩
  rw [List.getElem?_eq_getElem hj, List.getD_eq_getElem?_getD, List.getElem?_eq_getElem hj]; rfl
noncomputable def cellsL (M : List (Addr × List Value)) : List Cell := M.map fun p => (p.1, lstP p.2)
theorem own_snocL {h : Heap} (X : List Cell) {M : List (Addr × List Value)} {a : Addr} {xs : List Value} (O : Own h₀ h ((a, lstP xs) :: (X ++ cellsL M))) : Own h₀ h (X ++ cellsL (M ++ [(a, xs)])) := by
  refine O.perm ?_
  show ((a, lstP xs) :: (X ++ cellsL M)).Perm (X ++ (M ++ [(a, xs)]).map fun p => (p.1, lstP p.2))
  rw [List.map_append, ← List.append_assoc]
  exact (List.perm_append_comm (l₁ := [(a, lstP xs)])).trans (List.Perm.refl _)
theorem own_snocL2 {h : Heap} (X : List Cell) {Z : List Cell} {M : List (Addr × List Value)} {a : Addr} {xs : List Value} (O : Own h₀ h ((a, lstP xs) :: (X ++ (Z ++ cellsL M)))) : Own h₀ h (X ++ (Z ++ cellsL (M ++ [(a, xs)]))) := by
  have := own_snocL (X ++ Z) (M := M) (a := a) (xs := xs) (by rw [List.append_assoc]; exact O)
  rwa [List.append_assoc] at this
theorem mem_cellsL {M : List (Addr × List Value)} {j : Nat} {a : Addr} {xs : List Value} (h : M[j]? = some (a, xs)) : (a, lstP xs) ∈ cellsL M := List.mem_map.mpr ⟨(a, xs), List.mem_of_getElem? h, rfl⟩
noncomputable abbrev cpNm : List Str := ["paths", "split_paths", "isabs", "c", "s1", "s2", "common", "i", "prefix"]
noncomputable def splitK (k : Key) : List Str := ("" : Str) :: k.map nmF
noncomputable def namesK (k : Key) : List Str := k.map nmF
theorem ext_same {α : Type} {vs xs : List α} (hl : vs.length = xs.length) (h : ∀ (i : Nat) v, vs[i]? = some v → ∃ x, xs[i]? = some x ∧ v = x) : vs = xs := by
  refine List.ext_getElem? fun i => ?_
  cases hv : vs[i]? with
  | none => rw [List.getElem?_eq_none_iff] at hv; exact (List.getElem?_eq_none (by lia)).symm
  | some v => obtain ⟨x, hx, rfl⟩ := h i v hv; exact hx.symm
theorem Rm.in4 {n : Nat} (R : Rm A (n + 4)) : Rm A.in1.in1.in1.in1 n := R.in1.in1.in1.in1
theorem own_front {h : Heap} {c : Cell} {X : List Cell} (O : Own h₀ h X) (hm : c ∈ X) : ∃ X', Own h₀ h (c :: X') ∧ ∀ p ∈ X, p = c ∨ p ∈ X' := by
  obtain ⟨X1, X2, rfl⟩ := List.append_of_mem hm
  refine ⟨X1 ++ X2, O.perm List.perm_middle, fun p hp => ?_⟩
  rcases List.mem_append.mp hp with hp | hp
  · exact .inr (List.mem_append_left _ hp)
  · rcases List.mem_cons.mp hp with rfl | hp
    · exact .inl rfl
    · exact .inr (List.mem_append_right _ hp)
theorem NL.ref {f : Key → List Str} {ks : List Key} {M : List (Addr × List Value)} (h : NL f ks M) {j : Nat} {v : Value} (hv : (M.map (fun p => Value.ref p.1))[j]? = some v) : ∃ a xs, v = .ref a ∧ M[j]? = some (a, xs) ∧ StrsAre xs (f (ks.getD j [])) := by
  rw [List.getElem?_map] at hv
  obtain ⟨⟨a, xs⟩, hM, rfl⟩ := Option.map_eq_some_iff.mp hv
  have hj : j < ks.length := h.len ▸ (List.getElem?_eq_some_iff.mp hM).1
  obtain ⟨a', xs', h1, h2⟩ := h.get hj
  rw [hM] at h1
  cases h1
  exact ⟨a, xs, rfl, hM, h2⟩
theorem cmp_lt {ks : List Key} {M : List (Addr × List Value)} (hM : NL namesK ks M) (hin : ∀ p ∈ cellsL M, p ∈ Φ) (hu : A.units < cLine) (i j : Nat) (vi vj : Value) (s : Shared) (Ψ : List Cell) (Q : Value → Shared → Prop) (E : Value → Shared → Prop)
    (hi : (M.map (fun p => Value.ref p.1))[i]? = some vi) (hj : (M.map (fun p => Value.ref p.1))[j]? = some vj) (O : Own h₀ s.heap (Ψ ++ Φ)) (hq : Q (.bool (ltF (ks.getD i []) (ks.getD j []))) s) : wpAny (model PR w) A (richCompare .Lt vi vj) Q E s := by
  obtain ⟨a, xs, rfl, h1, h2⟩ := hM.ref hi
  obtain ⟨b, ys, rfl, h3, h4⟩ := hM.ref hj
  refine rc_lt_lists (O.get (List.mem_append_right _ (hin _ (mem_cellsL h1)))) (O.get (List.mem_append_right _ (hin _ (mem_cellsL h3)))) h2 h4 hu ?_
  unfold namesK
  rw [ltF_eq]; exact hq
theorem cmp_gt {ks : List Key} {M : List (Addr × List Value)} (hM : NL namesK ks M) (hin : ∀ p ∈ cellsL M, p ∈ Φ) (hu : A.units < cLine) (i j : Nat) (vi vj : Value) (s : Shared) (Ψ : List Cell) (Q : Value → Shared → Prop) (E : Value → Shared → Prop)
    (hi : (M.map (fun p => Value.ref p.1))[i]? = some vi) (hj : (M.map (fun p => Value.ref p.1))[j]? = some vj) (O : Own h₀ s.heap (Ψ ++ Φ)) (hq : Q (.bool (ltF (ks.getD j []) (ks.getD i []))) s) : wpAny (model PR w) A (richCompare .Gt vi vj) Q E s := by
  obtain ⟨a, xs, rfl, h1, h2⟩ := hM.ref hi
  obtain ⟨b, ys, rfl, h3, h4⟩ := hM.ref hj
  refine rc_gt_lists (O.get (List.mem_append_right _ (hin _ (mem_cellsL h1)))) (O.get (List.mem_append_right _ (hin _ (mem_cellsL h3)))) h2 h4 hu ?_
  unfold namesK
  rw [ltF_eq]; exact hq
set_option maxHeartbeats 4000000 in
theorem commonpath_spec {l : Addr} {vs : List Value} {ks : List Key} {Q : Value → Shared → Prop} (B : Base w s.heap) (R : Rm A 7) (hl : ∃ o, s.heap.get? l = some o ∧ lstP vs o) (hv : StrsAre vs (ks.map S)) (hg : ∀ k ∈ ks, Good k) (hn : 0 < ks.length) (hz : ks.length ≤ 10) (hle : ltF (maxK ks) (minK ks) = false)
    (h : ∀ t s', Sm s s' → Kp s.heap s'.heap → Q (.str (S (cpK ks)) t) s') : wpAny (model PR w) A (call (.ref 183) [.ref l]) Q E s := by
  refine enterC (fn_commonpath w) B (R.le (by decide)) [("paths", .ref l)] (by kernel_rfl) ?_
  intro L env s₁ cs e₁ hcs V hck O hf
  obtain ⟨cC, cS, rfl⟩ := cs_two hcs
  have R1 : Rm (A.deeper env) 6 := R.deeper
  have hh := R1.hd
  have lv : vs.length = ks.length := by rw [hv.length]; simp
  replace O : Own s.heap s₁.heap [(cC, celP none), (cS, celP none), (L, locP cpNm [none, none, none, none, none, none, none, none, none])] := O
  refine r_st V O (by ktr_rel) (by ktr_rel) (by ktr_rel) ?_
  clear O; intro s₂ e₂ O
  refine ⟨B.keeps O.keep, ?_⟩
  -- paths = tuple(map(fspath, paths))
  refine r_seq rfl (wpAny_Assign_Name (r_call (r_boot V (B.keeps O.keep) (by ktr_rel) (by ktr_rel) (r_ty (r_arg (r_call (r_boot V (B.keeps O.keep) (by ktr_rel) (by ktr_rel) (r_ty (r_arg (r_glob V (B.keeps O.keep) (by ktr_rel) (by ktr_rel) (r_arg (r_ld V O (by ktr_rel) (by ktr_rel) (r_args ?_))))))))))))) 
  refine r_map O (.base hl) ?_
  clear O; intro M0 T0 I0 s₃ e₃ O
  refine r_args (r_tuple_map (Z := fun x v => v = x) hh (by lia) (fun x s' Φ' Q' E' hx O' hq => ?_) O (.base hl) ?_)
  · obtain ⟨i, hi⟩ := List.getElem?_of_mem hx
    obtain ⟨y, t, rfl, _⟩ := hv.item i x hi
    exact fspath_spec (B.keeps O'.keep) (R1.le (by decide)).in4 fun s'' e k => hq _ _ rfl e (O'.kp k)
  clear O; intro tp vs' s₄ hlen hsame e₄ O
  obtain rfl : vs' = vs := ext_same hlen hsame
  refine r_st V O (by ktr_rel) (by ktr_rel) (by ktr_rel) ?_
  clear O; intro s₅ e₅ O
  -- if not paths
  refine r_seq rfl (wpAny_If (PyProof.Rows.isTrue_not (wpAny_isTrue_value (r_ld V O (by ktr_rel) (by ktr_rel) ?_))))
  refine truthy_tuple (tupP.tup (O.get (by ktr_rel))) (by simp; lia) ?_
  have hne : vs'.toArray.isEmpty = false := by
    rw [Array.isEmpty_eq_false_iff]
    intro e
    have := congrArg Array.size e
    simp only [List.size_toArray, lv, List.length_nil] at this
    lia
  rw [hne, if_neg (by decide)]
  refine r_nil (r_gen O ?_)
  clear O; intro s₆ e₆ O
  -- if isinstance(paths[0], bytes)
  obtain ⟨x0, t0, hx0⟩ : ∃ x0 t0, vs'[0]? = some (.str x0 t0) := by
    obtain ⟨y, t, e, _⟩ := hv.item 0 _ (List.getElem?_eq_getElem (by lia))
    exact ⟨y, t, by rw [List.getElem?_eq_getElem (by lia), e]⟩
  refine r_seq rfl (wpAny_If (wpAny_isTrue_value (r_call (r_boot V (B.keeps O.keep) (by ktr_rel) (by ktr_rel) (r_bi (r_arg (Subscript_ (r_ld V O (by ktr_rel) (by ktr_rel) (wpAny_Constant_int (r_gen O ?_))))))))))
  clear O; intro s₇ e₇ O
  refine PyProof.Rows.item_tupleT (tupP.tup (O.get (by ktr_rel))) (by decide) (by decide) (seq_at (j := 0) rfl (by lia)) hx0 (r_arg (r_boot V (B.keeps O.keep) (by ktr_rel) (by ktr_rel) (r_args ?_)))
  refine IsiPair.str_bytes (truth_bool ?_)
  refine r_seq rfl (wpAny_Assign_Name (wpAny_Constant_str (r_gen O ?_)))
  clear O; intro s₈ e₈ O
  refine r_stc V (hck "sep" (by ktr_rel)) O (by ktr_rel) (by ktr_rel) (by ktr_rel) ?_
  clear O; intro s₉ e₉ O
  refine r_seq rfl (wpAny_Assign_Name (wpAny_Constant_str (r_gen O ?_)))
  clear O; intro s₁₀ e₁₀ O
  refine r_stc V (hck "curdir" (by ktr_rel)) O (by ktr_rel) (by ktr_rel) (by ktr_rel) ?_
  clear O; intro s₁₁ e₁₁ O
  refine r_nil ?_
  obtain ⟨tc, hO⟩ : ∃ tc : Tok × Tok, Own s.heap s₁₁.heap [(L, locP cpNm [some (.ref tp), none, none, none, none, none, none, none, none]), (cC, celP (some (.str "." tc.1))), (cS, celP (some (.str "/" tc.2))), (tp, tupP vs')] := ⟨(_, _), O.pick (by ktr_rel)⟩
  obtain ⟨tc, tsp⟩ := tc
  dsimp only at hO
  replace O := hO
  clear hO
  have eA : Sm s s₁₁ := by ktr_rel
  clear e₁ e₂ e₃ e₄ e₅ e₆ e₇ e₈ e₉ e₁₀ e₁₁
  -- try: split_paths = [path.split(sep) for path in paths]
  refine r_seq rfl (wpAny_Try_except ?_)
  refine r_seq rfl (r_lcu V (by ktr_rel) (blkOK_of (nm := ["path"]) (cn := []) (fn := ["sep"]) (gl := []) (by kernel_rfl)) (cl' := [("sep", cS)]) rfl (fun p hp => by rw [List.mem_singleton.mp hp]; simp) rfl (by kernel_rfl) (r_ld V O (by ktr_rel) (by ktr_rel) (r_it_tuple O (.cell (by ktr_rel)) ?_)))
  clear O; intro I s₂ e₂ O
  refine lc_block V (blkOK_of (nm := ["path"]) (cn := []) (fn := ["sep"]) (gl := []) (by kernel_rfl)) rfl ((iter_tuple (l := tp) (xs := vs') hh).toT self_tuple) (by lia)
    (fun C cs i ys Ψ => ∃ v0 M, NL splitK (ks.take i) M ∧ ys = M.map (fun p => .ref p.1) ∧ Ψ = (C, locP ["path"] [v0]) :: (L, locP cpNm [some (.ref tp), none, none, none, none, none, none, none, none]) :: (cC, celP (some (.str "." tc))) :: (cS, celP (some (.str "/" tsp))) :: (tp, tupP vs') :: cellsL M) O ?_ ?_ ?_ ?_
  · intro C cs hcs
    obtain rfl := cs_nil hcs
    exact ⟨_, [], .nil, rfl, rfl⟩
  · intro C cs D i ys Ψ _ jy0
    refine ex2 jy0 fun v0 M jx0 => an3 jx0 fun _ _ jr02 => ?_
    clear jx0 jy0
    subst jr02
    exact .cell (by ktr_rel)
  · rintro C cs D cenv V' hck' hfr hcs i v Ψ ys Ψ' s₃ hi jy0 ⟨hv', rfl⟩ e₃ O
    refine ex2 jy0 fun v0 M jx0 => an3 jx0 fun hM jr01 jr02 => ?_
    clear jx0 jy0
    subst jr01
    subst jr02
    obtain rfl := cs_nil hcs
    obtain ⟨y, tx, rfl, hy⟩ := hv.item i v hv'
    rw [List.getElem?_map] at hy
    obtain ⟨p, hp, rfl⟩ := Option.map_eq_some_iff.mp hy
    have gp := hg p (List.mem_of_getElem? hp)
    dsimp only [List.cons_append, List.nil_append] at O V'
    refine PyProof.Rows.assign_Name (r_st V' O (by ktr_rel) (by ktr_rel) (by ktr_rel) ?_)
    clear O; intro s₄ e₄ O
    refine r_t0 ?_
    rw [if_pos rfl]
    refine r_meth PySem.F.plainAttrs_str PySem.F.slot_str_split PySem.F.type_str_split (r_ld V' O (by ktr_rel) (by ktr_rel) ⟨str_here, r_arg (r_ldc V' O (by ktr_rel) (by ktr_rel) (r_args ?_))⟩)
    refine r_split O (by decide) (by have := S_len p gp.2; rw [sizeLine_eq]; lia) ?_
    clear O; intro a xs s₅ hxs e₅ O
    rw [split_names gp] at hxs
    refine ⟨_, by ktr_rel, own_snocL [(I, _), (D, _), (C, _), (L, _), (cC, _), (cS, _), (tp, _)] O, ei2 _ _ ⟨?_, ?_, rfl⟩⟩
    · rw [List.take_add_one, hp]; exact hM.snoc hxs
    · simp
  · intro C cs D ys Ψ s₃ jy0 e₃ O
    refine ex2 jy0 fun v0 M jx0 => an3 jx0 fun hM jr01 jr02 => ?_
    clear jx0 jy0
    subst jr01
    subst jr02
    rw [lv, List.take_length] at hM
    refine post_some (h₀ := s.heap) (PyProof.Rows.assign_Name (r_st V O (by ktr_rel) (by ktr_rel) (by ktr_rel) ?_))
    clear O; intro s₄ e₄ O
    refine ei4 _ _ _ _ ⟨O, .tail .head, ?_⟩
    clear O; intro s₅ e₅ O
    have eB : Sm s s₅ := by ktr_rel
    -- isabs, = {p.startswith(sep) for p in paths}
    refine r_seq rfl (wpAny_Try_except ?_)
    refine r_seq rfl (Assign_Tuple (r_sc V (blkOK_of (nm := ["p"]) (cn := []) (fn := ["sep"]) (gl := []) (by kernel_rfl)) (cl' := [("sep", cS)]) rfl (fun p hp => by rw [List.mem_singleton.mp hp]; simp) (r_ld V O (by ktr_rel) (by ktr_rel) (r_it_tuple O (.cell (by ktr_rel)) ?_))))
    clear O; intro I2 s₆ e₆ O
    refine sc_block V (blkOK_of (nm := ["p"]) (cn := []) (fn := ["sep"]) (gl := []) (by kernel_rfl)) rfl ((iter_tuple (l := tp) (xs := vs') hh).toT self_tuple) (by lia)
      (fun C cs i Ψ => ∃ v0, Ψ = (C, locP ["p"] [v0]) :: (D, lstP (M.map (fun p => .ref p.1))) :: (L, locP cpNm [some (.ref tp), some (.ref D), none, none, none, none, none, none, none]) :: (cC, celP (some (.str "." tc))) :: (cS, celP (some (.str "/" tsp))) :: (tp, tupP vs') :: cellsL M) O ?_ ?_ ?_ ?_
    · intro C cs hcs
      obtain rfl := cs_nil hcs
      exact ⟨_, rfl⟩
    · rintro C cs D2 P i Ψ _ ⟨v0, rfl⟩; exact .cell (by ktr_rel)
    · rintro C cs D2 cenv V' hck' hfr hcs i v Ψ Ψ' s₇ hi ⟨v0, rfl⟩ ⟨hv', rfl⟩ e₇ O
      obtain rfl := cs_nil hcs
      obtain ⟨y, tx, rfl, hy⟩ := hv.item i v hv'
      rw [List.getElem?_map] at hy
      obtain ⟨p, hp, rfl⟩ := Option.map_eq_some_iff.mp hy
      have gp := hg p (List.mem_of_getElem? hp)
      dsimp only [List.cons_append, List.nil_append] at O V'
      refine PyProof.Rows.assign_Name (r_st V' O (by ktr_rel) (by ktr_rel) (by ktr_rel) ?_)
      clear O; intro s₈ e₈ O
      refine r_meth PySem.F.plainAttrs_str PySem.F.slot_str_startswith PySem.F.type_str_startswith (r_ld V' O (by ktr_rel) (by ktr_rel) ⟨str_here, r_arg (r_ldc V' O (by ktr_rel) (by ktr_rel) (r_args ?_))⟩)
      refine SC.startswith ?_
      rw [starts_S gp.2]
      exact ⟨rfl, _, by ktr_rel, O, _, rfl⟩
    · rintro C cs D2 Ψ s₇ ⟨v0, rfl⟩ e₇ O
      refine post_none O (.tail .head) ?_
      clear O; intro s₈ e₈ O
      refine r_unset hh O (by ktr_rel) ?_
      clear O; intro s₉ e₉ O
      refine r_st V O (by ktr_rel) (by ktr_rel) (by ktr_rel) ?_
      clear O; intro s₁₀ e₁₀ O
      refine r_nil (r_nil ?_)
      have eC : Sm s s₁₀ := by ktr_rel
      replace O := O.pick (Φ' := (D, lstP (M.map (fun p => .ref p.1))) :: (L, locP cpNm [some (.ref tp), some (.ref D), some (.bool true), none, none, none, none, none, none]) :: (cC, celP (some (.str "." tc))) :: (cS, celP (some (.str "/" tsp))) :: (tp, tupP vs') :: cellsL M) (by ktr_rel)
      clear e₂ e₃ e₄ e₅ e₆ e₇ e₈ e₉ e₁₀
      -- split_paths = [[c for c in s if c and c != curdir] for s in split_paths]
      refine r_seq rfl (r_lcu V (by ktr_rel) (blkOK_of (nm := ["s"]) (cn := []) (fn := ["curdir"]) (gl := []) (by kernel_rfl)) (cl' := [("curdir", cC)]) rfl (fun p hp => by rw [List.mem_singleton.mp hp]; simp) rfl (by kernel_rfl) (r_ld V O (by ktr_rel) (by ktr_rel) (r_it_list O (.cell (by ktr_rel)) ?_)))
      clear O; intro I3 s₂ e₂ O
      have lM : (M.map (fun p => Value.ref p.1)).length = ks.length := by rw [List.length_map, hM.len]
      refine lc_block V (blkOK_of (nm := ["s"]) (cn := []) (fn := ["curdir"]) (gl := []) (by kernel_rfl)) rfl ((iter_list (l := D) (xs := M.map (fun p => .ref p.1)) hh).toT self_list) (by lia)
        (fun C cs i ys Ψ => ∃ v0 M2, NL namesK (ks.take i) M2 ∧ ys = M2.map (fun p => .ref p.1) ∧ Ψ = (C, locP ["s"] [v0]) :: (D, lstP (M.map (fun p => .ref p.1))) :: (L, locP cpNm [some (.ref tp), some (.ref D), some (.bool true), none, none, none, none, none, none]) :: (cC, celP (some (.str "." tc))) :: (cS, celP (some (.str "/" tsp))) :: (tp, tupP vs') :: (cellsL M ++ cellsL M2)) O ?_ ?_ ?_ ?_
      · intro C cs hcs
        obtain rfl := cs_nil hcs
        refine ⟨none, [], .nil, rfl, ?_⟩
        show _ = _ :: _ :: _ :: _ :: _ :: _ :: (cellsL M ++ [])
        rw [List.append_nil]; rfl
      · intro C cs D i ys Ψ _ jy0
        refine ex2 jy0 fun v0 M2 jx0 => an3 jx0 fun _ _ jr02 => ?_
        clear jx0 jy0
        subst jr02
        exact .cell (by ktr_rel)
      · rintro C cs D3 cenv V' hck' hfr hcs i v Ψ ys Φ3 s₃ hi jy0 ⟨hv', rfl⟩ e₃ O
        refine ex2 jy0 fun v0 M2 jx0 => an3 jx0 fun hM2 jr01 jr02 => ?_
        clear jx0 jy0
        subst jr01
        subst jr02
        obtain rfl := cs_nil hcs
        rw [List.getElem?_map] at hv'
        obtain ⟨⟨a, xs⟩, hMi, rfl⟩ := Option.map_eq_some_iff.mp hv'
        have hik : i < ks.length := by rw [lM] at hi; exact hi
        have hp : ks[i]? = some ks[i] := List.getElem?_eq_getElem hik
        have hxs := hM.at_ i _ _ hMi hp
        generalize ks[i] = p at hp hxs
        have gp := hg p (List.mem_of_getElem? hp)
        have hma : (a, lstP xs) ∈ cellsL M ++ cellsL M2 := List.mem_append_left _ (mem_cellsL hMi)
        dsimp only [List.cons_append, List.nil_append] at O V' hxs
        refine PyProof.Rows.assign_Name (r_st V' O (by ktr_rel) (by ktr_rel) (by ktr_rel) ?_)
        clear O; intro s₄ e₄ O
        refine r_t0 ?_
        rw [if_pos rfl]
        refine r_lc V' (blkOK_of (nm := ["c"]) (cn := []) (fn := ["curdir"]) (gl := []) (by kernel_rfl)) (cl' := [("curdir", cC)]) rfl (fun p hp => by rw [List.mem_singleton.mp hp]; simp) (r_ld V' O (by ktr_rel) (by ktr_rel) (r_it_list O (.cell (by ktr_rel)) ?_))
        clear O; intro I4 s₅ e₅ O
        have lxs : xs.length = p.length + 1 := by rw [hxs.length]; simp [splitK]
        have gp2 := gp.2
        refine lc_block V' (blkOK_of (nm := ["c"]) (cn := []) (fn := ["curdir"]) (gl := []) (by kernel_rfl)) rfl ((iter_list (l := a) (xs := xs) hh).toT self_list) (by lia)
          (fun C2 cs j ys Ψ => ∃ v1, StrsAre ys ((p.map nmF).take (j - 1)) ∧ Ψ = (C2, locP ["c"] [v1]) :: (I3, litP D (i + 1)) :: (D3, lstP (M2.map (fun p => .ref p.1))) :: (C, locP ["s"] [some (.ref a)]) :: (D, lstP (M.map (fun p => .ref p.1))) :: (L, locP cpNm [some (.ref tp), some (.ref D), some (.bool true), none, none, none, none, none, none]) :: (cC, celP (some (.str "." tc))) :: (cS, celP (some (.str "/" tsp))) :: (tp, tupP vs') :: (cellsL M ++ cellsL M2)) O ?_ ?_ ?_ ?_
        · intro C cs hcs
          obtain rfl := cs_nil hcs
          exact ⟨_, .nil, rfl⟩
        · rintro C cs D j ys Ψ _ ⟨v1, _, rfl⟩; exact .cell (by ktr_rel)
        · rintro C2 cs D4 cenv2 V2 hck2 hfr2 hcs2 j v Ψ ys Φ4 s₆ hj ⟨v1, hys, rfl⟩ ⟨hvj, rfl⟩ e₆ O
          obtain rfl := cs_nil hcs2
          obtain ⟨y, tx, rfl, hy⟩ := hxs.item j v hvj
          dsimp only [List.cons_append, List.nil_append] at O V2
          refine PyProof.Rows.assign_Name (r_st V2 O (by ktr_rel) (by ktr_rel) (by ktr_rel) ?_)
          clear O; intro s₇ e₇ O
          have hyl : y.length ≤ 100000 := by
            cases j with
            | zero => simp [splitK] at hy; rw [← hy]; decide
            | succ j => 
              simp [splitK] at hy
              obtain ⟨x, _, rfl⟩ := hy
              exact Nat.le_trans (nm_len x) (by decide)
          refine r_t1 (wpAny_isTrue_BoolOp (wpAny_allTrue_And_cons (wpAny_isTrue_value (r_ld V2 O (by ktr_rel) (by ktr_rel) (truth_str hyl fun tk' => ?_)))))
          cases j with
          | zero =>
            have hy0 : y = "" := by simp [splitK] at hy; exact hy.symm
            subst hy0
            rw [if_neg (by decide), if_neg (by decide)]
            refine ⟨_, by ktr_rel, O, _, ?_, rfl⟩
            exact hys
          | succ j =>
            obtain ⟨x, hx, rfl⟩ : ∃ x, p[j]? = some x ∧ y = nmF x := by
              simp [splitK] at hy
              obtain ⟨x, hx, e⟩ := hy
              exact ⟨x, hx, e.symm⟩
            rw [if_pos (by rw [decide_eq_true (nm_pos x)])]
            refine r_gen O ?_
            clear O; intro s₈ e₈ O
            refine wpAny_allTrue_And_cons (wpAny_isTrue_Compare1 (r_ld V2 O (by ktr_rel) (by ktr_rel) (r_ldc V2 O (by ktr_rel) (by ktr_rel) (PyProof.Rows.ne_str (truth_bool ?_)))))
            rw [nm_dot, if_pos rfl]
            refine wpAny_allTrue_And_nil ?_
            rw [if_pos rfl]
            refine r_ld V2 O (by ktr_rel) (by ktr_rel) ⟨_, by ktr_rel, O, _, ?_, rfl⟩
            have : (p.map nmF).take (j + 1 + 1 - 1) = (p.map nmF).take (j + 1 - 1) ++ [nmF x] := by
              show (p.map nmF).take (j + 1) = (p.map nmF).take j ++ [nmF x]
              rw [List.take_add_one, List.getElem?_map, hx]; rfl
            rw [this]
            exact kct_snoc hys
        · rintro C2 cs D4 ys Ψ s₆ ⟨v1, hys, rfl⟩ e₆ O
          refine post_none O (.tail .head) ?_
          clear O; intro s₇ e₇ O
          rw [lxs] at hys
          have hys' : StrsAre ys (namesK p) := by
            rw [Nat.add_sub_cancel, List.take_of_length_le (by simp)] at hys; exact hys
          refine ⟨_, by ktr_rel, own_snocL2 [(I3, _), (D3, _), (C, _), (D, _), (L, _), (cC, _), (cS, _), (tp, _)] O, ei2 _ _ ⟨?_, ?_, rfl⟩⟩
          · rw [List.take_add_one, hp]; exact hM2.snoc hys'
          · simp
      · intro C cs D3 ys Ψ s₃ jy0 e₃ O
        refine ex2 jy0 fun v0 M2 jx0 => an3 jx0 fun hM2 jr01 jr02 => ?_
        clear jx0 jy0
        subst jr01
        subst jr02
        rw [lM, List.take_length] at hM2
        refine post_some (h₀ := s.heap) (PyProof.Rows.assign_Name (r_st V O (by ktr_rel) (by ktr_rel) (by ktr_rel) ?_))
        clear O; intro s₄ e₄ O
        refine ei4 _ _ _ _ ⟨O, .tail .head, ?_⟩
        clear O; intro s₅ e₅ O
        have eD : Sm s s₅ := by ktr_rel
        replace O := O.pick (Φ' := (D3, lstP (M2.map (fun p => .ref p.1))) :: (L, locP cpNm [some (.ref tp), some (.ref D3), some (.bool true), none, none, none, none, none, none]) :: (cS, celP (some (.str "/" tsp))) :: (D, lstP (M.map (fun p => .ref p.1))) :: (cC, celP (some (.str "." tc))) :: (tp, tupP vs') :: (cellsL M ++ cellsL M2)) (by ktr_rel)
        clear e₂ e₃ e₄ e₅
        have lM2 : (M2.map (fun p => Value.ref p.1)).length = ks.length := by rw [List.length_map, hM2.len]
        have hin : ∀ {c1 c2 c3 c4 c5 c6 : Cell}, ∀ p ∈ cellsL M2, p ∈ c1 :: c2 :: c3 :: c4 :: c5 :: c6 :: (cellsL M ++ cellsL M2) := fun p hp => by
          simp only [List.mem_cons, List.mem_append]; simp [hp]
        -- s1 = min(split_paths)
        refine r_seq rfl (wpAny_Assign_Name (r_call (r_boot V (B.keeps O.keep) (by ktr_rel) (by ktr_rel) (r_bi (r_arg (r_ld V O (by ktr_rel) (by ktr_rel) (r_args ?_)))))))
        refine r_min hh O (.cell (by ktr_rel)) (by lia) (fun i j => ltF (ks.getD i []) (ks.getD j [])) (cmp_lt hM2 hin R1.in1.cline) ?_
        clear O; intro v1 s₆ hv1 e₆ O
        rw [lM2] at hv1
        obtain ⟨a1, xs1, rfl, hm1, hx1⟩ := hM2.ref hv1
        replace hx1 : StrsAre xs1 (namesK (minK ks)) := hx1
        refine r_st V O (by ktr_rel) (by ktr_rel) (by ktr_rel) ?_
        clear O; intro s₇ e₇ O
        -- s2 = max(split_paths)
        refine r_seq rfl (wpAny_Assign_Name (r_call (r_boot V (B.keeps O.keep) (by ktr_rel) (by ktr_rel) (r_bi (r_arg (r_ld V O (by ktr_rel) (by ktr_rel) (r_args ?_)))))))
        refine r_max hh O (.cell (by ktr_rel)) (by lia) (fun i j => ltF (ks.getD j []) (ks.getD i [])) (cmp_gt hM2 hin R1.in1.cline) ?_
        clear O; intro v2 s₈ hv2 e₈ O
        rw [lM2] at hv2
        obtain ⟨a2, xs2, rfl, hm2, hx2⟩ := hM2.ref hv2
        replace hx2 : StrsAre xs2 (namesK (maxK ks)) := hx2
        refine r_st V O (by ktr_rel) (by ktr_rel) (by ktr_rel) ?_
        clear O; intro s₉ e₉ O
        -- common = s1
        refine r_seq rfl (wpAny_Assign_Name (r_ld V O (by ktr_rel) (by ktr_rel) ?_))
        refine r_st V O (by ktr_rel) (by ktr_rel) (by ktr_rel) ?_
        clear O; intro s₁₀ e₁₀ O
        have gmin : (minK ks).length ≤ 3 := by
          have : minK ks ∈ ks := by
            obtain ⟨hlt, _⟩ := List.getElem?_eq_some_iff.mp hm1
            unfold minK
            rw [List.getD_eq_getElem?_getD, List.getElem?_eq_getElem (Nat.lt_of_lt_of_eq hlt hM2.len)]
            exact List.getElem_mem _
          exact (hg _ this).2
        generalize hA : minK ks = ka at *
        generalize hB : maxK ks = kb at *
        have hcp : cpK ks = lcp ka kb := by unfold cpK; rw [hA, hB]
        have hma1 : (a1, lstP xs1) ∈ cellsL M ++ cellsL M2 := List.mem_append_right _ (mem_cellsL hm1)
        have hma2 : (a2, lstP xs2) ∈ cellsL M ++ cellsL M2 := List.mem_append_right _ (mem_cellsL hm2)
        have lx1 : xs1.length = ka.length := by rw [hx1.length]; simp [namesK]
        -- for i, c in enumerate(s1)
        refine r_seq rfl (wpAny_mono (Q := fun f s' => f = .next ∧ ∃ ca cxs v3 v4 Z, StrsAre cxs (namesK (lcp ka kb)) ∧ Sm s s' ∧ (ca, lstP cxs) ∈ Z ∧ Own s.heap s'.heap ((L, locP cpNm [some (.ref tp), some (.ref D3), some (.bool true), v3, some (.ref a1), some (.ref a2), some (.ref ca), v4, none]) :: (cS, celP (some (.str "/" tsp))) :: Z)) (E := fun _ _ => False)
          (wpAny_For (r_call (r_boot V (B.keeps O.keep) (by ktr_rel) (by ktr_rel) (r_ty (r_arg (r_ld V O (by ktr_rel) (by ktr_rel) (r_args ?_))))))) ?_ (fun _ _ x => x.elim))
        · refine r_enum_list O (.cell (by ktr_rel)) ?_
          clear O; intro e it s₁₁ e₁₁ O
          refine self_enum O ?_
          refine r_forT (iter_enum_list (xs := xs1) hh (has_ne O.drop (.cell (by ktr_rel)))) (fun i Ψ => ∃ v3 v4, ka.take i = kb.take i ∧ Ψ = (D3, lstP (M2.map (fun p => .ref p.1))) :: (L, locP cpNm [some (.ref tp), some (.ref D3), some (.bool true), v3, some (.ref a1), some (.ref a2), some (.ref a1), v4, none]) :: (cS, celP (some (.str "/" tsp))) :: (D, lstP (M.map (fun p => .ref p.1))) :: (cC, celP (some (.str "." tc))) :: (tp, tupP vs') :: (cellsL M ++ cellsL M2)) O ⟨_, _, rfl, rfl⟩ ?_ ?_ ?_
          · rintro i Ψ _ ⟨v3, v4, _, rfl⟩; exact .cell (by ktr_rel)
          · intro i v Ψ Φ' s₁₂ hi jy0 jy1 e₁₂ O
            refine ex2 jy0 fun v3 v4 jx0 => And.elim (fun hti jr01 => ?_) jx0
            refine ex3 jy1 fun T ti x jx1 => an3 jx1 fun hx jr11 jr12 => ?_
            clear jx0 jy0
            subst jr01
            clear jx1 jy1
            subst jr11
            subst jr12
            have hik : i < ka.length := by rw [lx1] at hi; exact hi
            obtain ⟨y, tx, rfl, hy⟩ := hx1.item i x hx
            rw [namesK, List.getElem?_map] at hy
            obtain ⟨u, hu, rfl⟩ := Option.map_eq_some_iff.mp hy
            have hbl : i < kb.length := by
              rcases Nat.lt_or_ge i kb.length with h' | h'
              · exact h'
              · exfalso
                rw [List.take_of_length_le h'] at hti
                have hpre : kb <+: ka := by rw [← hti]; exact List.take_prefix _ _
                have hne : ka ≠ kb := fun e => by rw [e] at hik; lia
                rw [ltF_pre ka kb hpre hne] at hle
                cases hle
            obtain ⟨u', hu'⟩ : ∃ u', kb[i]? = some u' := ⟨_, List.getElem?_eq_getElem hbl⟩
            dsimp only [List.cons_append, List.nil_append] at O
            refine r_pair hh O (.cell (by ktr_rel)) ?_
            clear O; intro s₁₃ e₁₃ O
            refine r_st V O (by ktr_rel) (by ktr_rel) (by ktr_rel) ?_
            clear O; intro s₁₄ e₁₄ O
            refine r_st V O (by ktr_rel) (by ktr_rel) (by ktr_rel) ?_
            clear O; intro s₁₅ e₁₅ O
            refine r_seq rfl (wpAny_If (wpAny_isTrue_Compare1 (r_ld V O (by ktr_rel) (by ktr_rel) (Subscript_ (r_ld V O (by ktr_rel) (by ktr_rel) (r_ld V O (by ktr_rel) (by ktr_rel) ?_))))))
            refine item_strsA (lstP.is (O.get (by ktr_rel))) hx2 (by lia) (by simp [namesK]; lia) (by lia) fun t₃ => ?_
            have hgd : (namesK kb).getD ((i : Int)).toNat Str.empty = nmF u' := by
              rw [List.getD_eq_getElem?_getD, Int.toNat_natCast, namesK, List.getElem?_map, hu']; rfl
            rw [hgd]
            refine PyProof.Rows.ne_str (truth_bool ?_)
            by_cases hne : u = u'
            · subst hne
              rw [show (nmF u != nmF u) = false by simp, if_neg (by decide)]
              refine r_nil (r_nil (Turn.next _ (by ktr_rel) (O.pick (by ktr_rel)) ⟨_, _, ?_, rfl⟩))
              rw [List.take_add_one, List.take_add_one, hu, hu', hti]
            · rw [show (nmF u != nmF u') = true by simpa using fun e => hne (nmF_ok _ _ e), if_pos rfl]
              refine r_seq rfl (wpAny_Assign_Name (Subscript_ (r_ld V O (by ktr_rel) (by ktr_rel) (wpAny_Slice (r_part_none (r_part (r_ld V O (by ktr_rel) (by ktr_rel) (r_part_none ?_))))))))
              refine r_lslice O (.cell (by ktr_rel)) .none (.int _ _) (by lia) ?_
              clear O; intro ca s₁₆ e₁₆ O
              have hsl := slice_strs_upto hx1 (y := (i : Int)) (by lia) (by simp [namesK]; lia)
              refine r_st V O (by ktr_rel) (by ktr_rel) (by ktr_rel) ?_
              clear O; intro s₁₇ e₁₇ O
              refine r_seq rfl (wpAny_Break ?_)
              refine ⟨rfl, ei5 ca _ _ _ ([(ca, _)]) ⟨?_, by ktr_rel, List.mem_cons_self, O.pick (by ktr_rel)⟩⟩
              rw [lcp_stop i ka kb u u' hti hu hu' hne, namesK, List.map_take]
              rw [Int.toNat_natCast] at hsl
              exact hsl
          · rintro Ψ s₁₂ ⟨v3, v4, hti, rfl⟩ e₁₂ O
            rw [lx1, List.take_length] at hti
            have hl1 : lcp ka kb = ka := by
              rw [lcp_pre, hti]; exact List.take_prefix _ _
            rw [hl1]
            refine ⟨rfl, ei5 a1 xs1 _ _ _ ⟨hx1, by ktr_rel, hma1, O.pick (.drop (.take .head (.take .head (.drop (.drop (.drop .refl))))))⟩⟩
        · rintro f s₁₁ ⟨rfl, ca, cxs, v3, v4, Z, hcx, eF, hca, O⟩
          -- prefix = sep if isabs else sep[:0]
          refine r_seq rfl (wpAny_Assign_Name (wpAny_IfExp (wpAny_isTrue_value (r_ld V O (by ktr_rel) (by ktr_rel) (truth_bool ?_)))))
          rw [if_pos rfl]
          refine r_ldc V O (by ktr_rel) (by ktr_rel) ?_
          refine r_st V O (by ktr_rel) (by ktr_rel) (by ktr_rel) ?_
          clear O; intro s₁₂ e₁₂ O
          -- return prefix + sep.join(common)
          have hll : (lcp ka kb).length ≤ 3 := Nat.le_trans (lcp_len ka kb) gmin
          refine r_seq rfl (wpAny_Return_some (wpAny_BinOp (r_ld V O (by ktr_rel) (by ktr_rel) (r_meth PySem.F.plainAttrs_str PySem.F.slot_str_join PySem.F.type_str_join (r_ldc V O (by ktr_rel) (by ktr_rel) ⟨str_here, r_arg (r_ld V O (by ktr_rel) (by ktr_rel) (r_args ?_))⟩)))))
          refine r_join O (.cell (by ktr_rel)) hcx (joinOk_small (by decide) (fun a ha => ?_) (by simp [namesK]; lia)) ?_
          · obtain ⟨x, _, rfl⟩ := List.mem_map.mp ha
            exact Nat.le_trans (nm_len x) (by decide)
          clear O; intro t₄ s₁₃ e₁₃ O
          refine PyProof.Rows.add_str (fun t' tk => ?_) (by have := join_len hll; rw [sizeLine_eq]; show 1 + (PySem.Txt.join "/" ((lcp ka kb).map nmF)).length ≤ _; lia)
          have := h t' { s₁₃ with toks := tk } (by ktr_rel) O.keep
          rw [hcp, ← join_names hll] at this
          exact this
end
end
section
section
open PySem.SeqAt
variable {w : World} {A : Around} {E : Value → Shared → Prop} {s : Shared} {h₀ : Heap} {Φ Φ' Y : List Cell} {env : Env} {L : Addr} {nm gl : List Str} {cl : List (Str × Addr)}
/-- a dict of ints by places, in the order of the list -/
structure RM (f : Key → Int) (sp : List Key) (kvs : List (Str × Value)) : Prop where
  len : kvs.length = sp.length
  at_ : ∀ (i : Nat) k, sp[i]? = some k → ∃ t, kvs[i]? = some (S k, .int (f k) t)
theorem RM.nil {f : Key → Int} : RM f [] [] := ⟨rfl, fun _ _ h => by simp at h⟩
theorem RM.keys {f : Key → Int} {sp : List Key} {kvs : List (Str × Value)} (h : RM f sp kvs) : kvs.map (·.1) = sp.map S := by
  refine List.ext_getElem? fun i => ?_
  rw [List.getElem?_map, List.getElem?_map]
  cases hk : sp[i]? with
  | none => rw [List.getElem?_eq_none (by have := List.getElem?_eq_none_iff.mp hk; rw [h.len]; exact this)]; rfl
  | some k => obtain ⟨t, e⟩ := h.at_ i k hk; rw [e]; rfl
theorem map_S_nodup : ∀ {sp : List Key}, (∀ k ∈ sp, Good k) → sp.Nodup → (sp.map S).Nodup
  | [], _, _ => List.nodup_nil
  | k :: sp, hg, nd => by
    rw [List.nodup_cons] at nd
    rw [List.map_cons, List.nodup_cons]
    refine ⟨fun hm => ?_, map_S_nodup (fun x hx => hg x (List.mem_cons_of_mem _ hx)) nd.2⟩
    obtain ⟨q, hq, e⟩ := List.mem_map.mp hm
    exact nd.1 (S_inj (hg q (List.mem_cons_of_mem _ hq)).2 (hg k List.mem_cons_self).2 e ▸ hq)
theorem RM.val {f : Key → Int} {sp : List Key} {kvs : List (Str × Value)} (h : RM f sp kvs) (hg : ∀ k ∈ sp, Good k) (nd : sp.Nodup) {k : Key} (hk : k ∈ sp) : ∃ t, valueAt kvs (S k) = some (.int (f k) t) := by
  obtain ⟨i, hi⟩ := List.getElem?_of_mem hk
  obtain ⟨t, e⟩ := h.at_ i k hi
  exact ⟨t, valueAt_of_get (by rw [h.keys]; exact map_S_nodup hg nd) e⟩
theorem RM.none {f : Key → Int} {sp : List Key} {kvs : List (Str × Value)} (h : RM f sp kvs) (hg : ∀ k ∈ sp, Good k) {k : Key} (hk : k ∉ sp) (hl : k.length ≤ 3) : valueAt kvs (S k) = Option.none := by
  refine valueAt_none fun hm => ?_
  rw [h.keys] at hm
  obtain ⟨q, hq, e⟩ := List.mem_map.mp hm
  exact hk (S_inj (hg q hq).2 hl e ▸ hq)
theorem RM.snoc {f : Key → Int} {sp : List Key} {kvs : List (Str × Value)} (h : RM f sp kvs) (hg : ∀ k ∈ sp, Good k) {k : Key} (hk : k ∉ sp) (hl : k.length ≤ 3) {x : Int} {t : Tok} (hx : x = f k) : RM f (sp ++ [k]) (stored kvs (S k) (.int x t)) := by
  subst hx
  rw [stored_absent (h.none hg hk hl)]
  refine ⟨by simp [h.len], fun i q hq => ?_⟩
  rcases Nat.lt_trichotomy i sp.length with hi | hi | hi
  · rw [List.getElem?_append_left hi] at hq
    rw [List.getElem?_append_left (h.len ▸ hi)]
    exact h.at_ i q hq
  · subst hi
    rw [← h.len]
    simp at hq ⊢
    exact hq ▸ ⟨rfl, rfl⟩
  · rw [List.getElem?_eq_none (by simp; lia)] at hq; cases hq
/-- how many of the files stand at or below k -/
noncomputable def below (run : List Key) (k : Key) : Nat := (run.filter fun p => decide (k <+: p)).length
noncomputable def inQ (sp : List Key) : List Key := sp.filter fun k => decide (k ∈ qKeys)
theorem cp_test {k p : Key} (gk : Good k) (gp : Good p) : (S (cpK [k, p, k]) == S k) = decide (k <+: p) := by
  rw [(cp3 k p).2]
  have hl : (lcp k p).length ≤ 3 := Nat.le_trans (lcp_len k p) gk.2
  by_cases h : k <+: p
  · rw [decide_eq_true h, (lcp_pre k p).mpr h]; simp
  · rw [decide_eq_false h, beq_eq_false_iff_ne]
    exact fun e => h ((lcp_pre k p).mp (S_inj hl gk.2 e))
theorem cp_test2 {k p : Key} (gk : Good k) (gp : Good p) : (S (cpK [k, p]) == S k) = decide (k <+: p) := by
  rw [(cp2 k p).2]
  have hl : (lcp k p).length ≤ 3 := Nat.le_trans (lcp_len k p) gk.2
  by_cases h : k <+: p
  · rw [decide_eq_true h, (lcp_pre k p).mpr h]; simp
  · rw [decide_eq_false h, beq_eq_false_iff_ne]
    exact fun e => h ((lcp_pre k p).mp (S_inj hl gk.2 e))
noncomputable abbrev rmNm : List Str := ["lines", "spots"]
set_option maxHeartbeats 4000000 in
theorem law_rooms_spec {l dq dl dk : Addr} {run sp : List Key} {q0 : Key → Int} {vs : List Value} {kq : List (Str × Value)} {Q : Value → Shared → Prop} (B : Base w s.heap) (R : Rm A 8)
    (hl : ∃ o, s.heap.get? l = some o ∧ lstP vs o) (hv : StrsAre vs (run.map S)) (hrun : ∀ p ∈ run, Good p) (hz : run.length ≤ 20) (hq : RoomsD w s.heap dq q0 kq) (hlk : LK w s.heap sp dl dk) (nsl : NS dl) (hsp : ∀ p ∈ sp, Good p) (hzs : sp.length ≤ 1000)
    (h : ∀ d kvs s', Sm s s' → Kp s.heap s'.heap → NS d → RM (fun k => q0 k - below run k) (inQ sp) kvs → New s.heap s'.heap [(d, dctP w kvs)] → Q (.ref d) s') :
    wpAny (model PR w) A (call (.ref 226) [.ref l, .ref dq, .ref dl]) Q E s := by
  refine enterC (fn_rooms w) B (R.le (by decide)) [("run", .ref l), ("quotas", .ref dq), ("lines", .ref dl)] (by kernel_rfl) ?_
  intro L env s₁ cs e₁ hcs V hck O hf
  obtain ⟨cQ, cR, rfl⟩ := cs_two hcs
  have R1 : Rm (A.deeper env) 7 := R.deeper
  have hh := R1.hd
  have lv : vs.length = run.length := by rw [hv.length]; simp
  refine ex2 hlk.out fun kl kk jx => ?_
  refine an5 jx fun hkl hkk nkl nkk hat => ?_
  clear jx
  obtain ⟨ep, hep⟩ := has_ep hkl
  have nds : sp.Nodup := by
    obtain ⟨o, _, hd⟩ := hkl
    have := dctP.nodup hd
    rw [nkl] at this
    exact (List.pairwise_map.mp this).imp (fun h e => h (congrArg S e))
  have lkl : kl.length = sp.length := by have := congrArg List.length nkl; simpa using this
  replace O : Own s.heap s₁.heap [(cQ, celP none), (cR, celP none), (L, locP rmNm [none, none])] := O
  refine r_stc V (hck "run" (by ktr_rel)) O (by ktr_rel) (by ktr_rel) (by ktr_rel) ?_
  clear O; intro s₂ e₂ O
  refine r_stc V (hck "quotas" (by ktr_rel)) O (by ktr_rel) (by ktr_rel) (by ktr_rel) ?_
  clear O; intro s₃ e₃ O
  refine r_st V O (by ktr_rel) (by ktr_rel) (by ktr_rel) ?_
  clear O; intro s₄ e₄ O
  refine ⟨B.keeps O.keep, ?_⟩
  -- spots = [spot for spot in lines if spot in quotas]
  refine r_seq rfl (r_lcu V (by ktr_rel) (blkOK_of (nm := ["spot"]) (cn := []) (fn := ["quotas"]) (gl := []) (by kernel_rfl)) (cl' := [("quotas", cQ)]) rfl (fun p hp => by rw [List.mem_singleton.mp hp]; simp) rfl (by kernel_rfl) (r_ld V O (by ktr_rel) (by ktr_rel) (r_it_dict O nsl (.base hep) ?_)))
  clear O; intro I s₅ e₅ O
  refine lc_block V (blkOK_of (nm := ["spot"]) (cn := []) (fn := ["quotas"]) (gl := []) (by kernel_rfl)) rfl ((iter_dict (d := dl) (kvs := kl) hh).toT self_dict) (by lia)
    (fun C cs i ys Ψ => ∃ v0, StrsAre ys ((inQ (sp.take i)).map S) ∧ Ψ = (C, locP ["spot"] [v0]) :: [(L, locP rmNm [some (.ref dl), none]), (cQ, celP (some (.ref dq))), (cR, celP (some (.ref l)))]) (Φ := [(L, locP rmNm [some (.ref dl), none]), (cQ, celP (some (.ref dq))), (cR, celP (some (.ref l)))]) (O.pick (by ktr_rel)) ?_ ?_ ?_ ?_
  · intro C cs hcs
    obtain rfl := cs_nil hcs
    exact ⟨_, .nil, rfl⟩
  · rintro C cs D i ys Ψ _ ⟨v0, _, rfl⟩; exact .base hep
  · rintro C cs D cenv V' hck' hfr hcs i v Ψ ys Φ2 s₆ hi jy0 ⟨⟨t, k0, u, hk0, rfl⟩, rfl⟩ e₆ O
    refine Exists.elim jy0 fun v0 jx0 => And.elim (fun hys jr01 => ?_) jx0
    clear jx0 jy0
    subst jr01
    obtain rfl := cs_nil hcs
    obtain ⟨p, hp, rfl⟩ : ∃ p, sp[i]? = some p ∧ k0 = S p := by
      have := congrArg (fun z => z[i]?) nkl
      simp only [List.getElem?_map, hk0, Option.map_some] at this
      obtain ⟨p, hp, e⟩ := Option.map_eq_some_iff.mp this.symm
      exact ⟨p, hp, e.symm⟩
    have gp := hsp p (List.mem_of_getElem? hp)
    dsimp only [List.cons_append, List.nil_append] at O V'
    refine PyProof.Rows.assign_Name (r_st V' O (by ktr_rel) (by ktr_rel) (by ktr_rel) ?_)
    clear O; intro s₇ e₇ O
    refine r_t1 (wpAny_isTrue_Compare1 (r_ld V' O (by ktr_rel) (by ktr_rel) (r_ldc V' O (by ktr_rel) (by ktr_rel) (r_in O (.base hq.o) hq.ns ?_))))
    clear O; intro s₈ e₈ O
    refine truth_bool ?_
    have hstep : inQ (sp.take (i + 1)) = inQ (sp.take i) ++ (if p ∈ qKeys then [p] else []) := by
      unfold inQ
      rw [List.take_add_one, hp, List.filter_append]
      by_cases hq : p ∈ qKeys <;> simp [hq]
    by_cases hpq : p ∈ qKeys
    · obtain ⟨t', ht'⟩ := hq.q.at hpq
      rw [ht', if_pos (show (some (Value.int (q0 p) t')).isSome = true from rfl)]
      refine r_ld V' O (by ktr_rel) (by ktr_rel) ⟨_, by ktr_rel, O, _, ?_, rfl⟩
      rw [hstep, if_pos hpq, List.map_append]
      exact kct_snoc hys
    · rw [hq.q.none hpq gp.2, if_neg (show ¬ (none : Option Value).isSome = true by decide)]
      refine ⟨_, by ktr_rel, O, _, ?_, rfl⟩
      rw [hstep, if_neg hpq, List.append_nil]
      exact hys
  · rintro C cs D ys Ψ s₆ ⟨v0, hys, rfl⟩ e₆ O
    rw [lkl, List.take_length] at hys
    have lys : ys.length = (inQ sp).length := by rw [hys.length]; simp
    have hzq : (inQ sp).length ≤ 1000 := Nat.le_trans (List.length_filter_le _ _) hzs
    refine post_some (h₀ := s.heap) (PyProof.Rows.assign_Name (r_st V O (by ktr_rel) (by ktr_rel) (by ktr_rel) ?_))
    clear O; intro s₇ e₇ O
    refine ei4 _ _ _ _ ⟨O, .tail .head, ?_⟩
    clear O; intro s₈ e₈ O
    -- return {spot: quotas[spot] - len([..]) for spot in spots}
    refine r_seq rfl (wpAny_Return_some (r_dc V (blkOK_of (nm := []) (cn := ["spot"]) (fn := ["quotas", "run"]) (gl := ["len"]) (by kernel_rfl)) (cl' := [("run", cR), ("quotas", cQ)]) rfl (fun p hp => ?_) (r_ld V O (by ktr_rel) (by ktr_rel) (r_it_list O (.cell (by ktr_rel)) ?_))))
    · simp only [List.mem_cons, List.not_mem_nil, or_false] at hp ⊢
      rcases hp with rfl | rfl <;> simp
    clear O; intro I2 s₉ e₉ O
    refine dc_block (B.keeps O.keep) V (blkOK_of (nm := []) (cn := ["spot"]) (fn := ["quotas", "run"]) (gl := ["len"]) (by kernel_rfl)) rfl ((iter_list (l := D) (xs := ys) hh).toT self_list) (by lia)
      (fun C cs i kvs Ψ => ∃ cp v0, cs = [(("spot" : Str), cp)] ∧ RM (fun k => q0 k - below run k) ((inQ sp).take i) kvs ∧ Ψ = (cp, celP v0) :: (C, locP [] []) :: [(D, lstP ys), (L, locP rmNm [some (.ref dl), some (.ref D)]), (cQ, celP (some (.ref dq))), (cR, celP (some (.ref l)))]) O ?_ ?_ ?_ ?_
    · intro C cs hcs
      obtain ⟨cp, rfl⟩ := cs_one hcs
      exact ⟨cp, _, rfl, .nil, rfl⟩
    · intro C cs D' i ys Ψ _ jy0
      refine ex2 jy0 fun cp v0 jx0 => an3 jx0 fun _ _ jr02 => ?_
      clear jx0 jy0
      subst jr02
      exact .cell (by ktr_rel)
    · rintro C cs D' cenv V' hck' hfr hcs i v Ψ kvs Φ2 s₁₀ hi jy0 ⟨hv', rfl⟩ e₁₀ O
      refine ex2 jy0 fun cp v0 jx0 => an3 jx0 fun jr00 hrm jr02 => ?_
      clear jx0 jy0
      subst jr00
      subst jr02
      obtain ⟨y, tx, rfl, hy⟩ := hys.item i v hv'
      rw [List.getElem?_map] at hy
      obtain ⟨p, hp, rfl⟩ := Option.map_eq_some_iff.mp hy
      have hpm := List.mem_of_getElem? hp
      have hpq : p ∈ qKeys := by have := (List.mem_filter.mp hpm).2; simpa using this
      have gp := hsp p (List.mem_filter.mp hpm).1
      obtain ⟨t', ht'⟩ := hq.q.at hpq
      dsimp only [List.cons_append, List.nil_append] at O V'
      refine PyProof.Rows.assign_Name (r_stc V' (hck' "spot" (by ktr_rel)) O (by ktr_rel) (by ktr_rel) (by ktr_rel) ?_)
      clear O; intro s₁₁ e₁₁ O
      refine r_t0 ?_
      rw [if_pos rfl]
      refine r_ldc V' O (by ktr_rel) (by ktr_rel) ?_
      refine wpAny_BinOp (wpAny_Subscript_Name_late (r_ldc V' O (by ktr_rel) (by ktr_rel) (r_ldc V' O (by ktr_rel) (by ktr_rel) (r_sub O (.base hq.o) ht' ?_))))
      clear O; intro s₁₂ e₁₂ O
      refine r_call (r_boot V' (B.keeps O.keep) (by ktr_rel) (by ktr_rel) (r_bi (r_arg (r_lc V' (blkOK_of (nm := ["one"]) (cn := []) (fn := ["spot"]) (gl := ["commonpath"]) (by kernel_rfl)) (cl' := [("spot", cp)]) rfl (fun p hp => by rw [List.mem_singleton.mp hp]; simp) (r_ldc V' O (by ktr_rel) (by ktr_rel) (r_it_list O (.base hl) ?_))))))
      clear O; intro I3 s₁₃ e₁₃ O
      refine lc_block V' (blkOK_of (nm := ["one"]) (cn := []) (fn := ["spot"]) (gl := ["commonpath"]) (by kernel_rfl)) rfl ((iter_list (l := l) (xs := vs) hh).toT self_list) (by lia)
        (fun C2 cs j zs Ψ => ∃ v1, zs.length = below (run.take j) p ∧ Ψ = (C2, locP ["one"] [v1]) :: (I2, litP D (i + 1)) :: (D', dctP w kvs) :: (cp, celP (some (.str (S p) tx))) :: (C, locP [] []) :: [(D, lstP ys), (L, locP rmNm [some (.ref dl), some (.ref D)]), (cQ, celP (some (.ref dq))), (cR, celP (some (.ref l)))]) O ?_ ?_ ?_ ?_
      · intro C cs hcs
        obtain rfl := cs_nil hcs
        exact ⟨_, rfl, rfl⟩
      · rintro C cs D i ys Ψ _ ⟨v1, _, rfl⟩; exact .base hl
      · rintro C2 cs D2 cenv2 V2 hck2 hfr2 hcs2 j v Ψ zs Φ3 s₁₄ hj ⟨v1, hzl, rfl⟩ ⟨hvj, rfl⟩ e₁₄ O
        obtain rfl := cs_nil hcs2
        obtain ⟨y, t1, rfl, hy⟩ := hv.item j v hvj
        rw [List.getElem?_map] at hy
        obtain ⟨r, hr, rfl⟩ := Option.map_eq_some_iff.mp hy
        have gr := hrun r (List.mem_of_getElem? hr)
        dsimp only [List.cons_append, List.nil_append] at O V2
        refine PyProof.Rows.assign_Name (r_st V2 O (by ktr_rel) (by ktr_rel) (by ktr_rel) ?_)
        clear O; intro s₁₅ e₁₅ O
        refine r_t1 (wpAny_isTrue_Compare1 (r_call (r_glob V2 (B.keeps O.keep) (by ktr_rel) (by ktr_rel) (r_fn (fn_commonpath w).FA (B.keeps O.keep) (r_arg (List_ (r_arg (r_ldc V2 O (by ktr_rel) (by ktr_rel) (r_arg (r_ld V2 O (by ktr_rel) (by ktr_rel) (r_arg (r_ldc V2 O (by ktr_rel) (by ktr_rel) (r_args (r_newLst O ?_))))))))))))))
        clear O; intro la s₁₆ e₁₆ _ _ O
        refine r_args ⟨B.keeps O.keep, ?_⟩
        refine commonpath_spec (ks := [p, r, p]) (B.keeps O.keep) R1 (O.get (by ktr_rel)) (.cons _ _ (.cons _ _ (.cons _ _ .nil))) (fun k hk => ?_) (by simp) (by simp) (cp3 p r).1 fun t2 s₁₇ e₁₇ k₁₇ => ?_
        · simp only [List.mem_cons, List.not_mem_nil, or_false] at hk
          rcases hk with rfl | rfl | rfl <;> assumption
        replace O := O.kp k₁₇
        refine r_ldc V2 O (by ktr_rel) (by ktr_rel) (PyProof.Rows.eq_str (truth_bool ?_))
        rw [cp_test gp gr]
        have hstep : below (run.take (j + 1)) p = below (run.take j) p + (if p <+: r then 1 else 0) := by
          unfold below
          rw [List.take_add_one, hr, List.filter_append, List.length_append]
          by_cases hb : p <+: r <;> simp [hb]
        by_cases hb : p <+: r
        · rw [decide_eq_true hb, if_pos rfl]
          refine r_ld V2 O (by ktr_rel) (by ktr_rel) ⟨_, by ktr_rel, O.pick (by ktr_rel), _, ?_, rfl⟩
          rw [hstep, if_pos hb, List.length_append, hzl]; rfl
        · rw [decide_eq_false hb, if_neg (by decide)]
          refine ⟨_, by ktr_rel, O.pick (by ktr_rel), _, ?_, rfl⟩
          rw [hstep, if_neg hb, hzl]; rfl
      · rintro C2 cs D2 zs Ψ s₁₄ ⟨v1, hzl, rfl⟩ e₁₄ O
        rw [lv, List.take_length] at hzl
        refine post_none O (.tail .head) ?_
        clear O; intro s₁₅ e₁₅ O
        have hbz : below run p ≤ run.length := List.length_filter_le _ _
        refine r_args (r_llen O (.cell (by ktr_rel)) (by lia) ?_)
        clear O; intro tk s₁₆ e₁₆ O
        refine PyProof.Rows.sub_int ⟨_, _, rfl, _, by ktr_rel, O.pick (by ktr_rel), cp, _, rfl, ?_, rfl⟩
        rw [List.take_add_one, hp, Option.toList_some]
        have ndq : (inQ sp).Nodup := nds.sublist (List.filter_sublist)
        have hgt : ∀ k ∈ (inQ sp).take i, Good k := fun k hk => hsp k (List.mem_filter.mp (List.mem_of_mem_take hk)).1
        refine hrm.snoc hgt ?_ gp.2 (by rw [hzl])
        intro hm
        obtain ⟨j, hj⟩ := List.getElem?_of_mem hm
        have hjl := (List.getElem?_eq_some_iff.mp hj).1
        rw [List.length_take] at hjl
        rw [List.getElem?_take_of_lt (by lia)] at hj
        have := (List.getElem?_inj (List.getElem?_eq_some_iff.mp hj).1 ndq).mp (hj.trans hp.symm)
        lia
    · intro C cs D' kvs Ψ s₁₀ nsd jy0 e₁₀ O
      refine ex2 jy0 fun cp v0 jx0 => an3 jx0 fun jr00 hrm jr02 => ?_
      clear jx0 jy0
      subst jr00
      subst jr02
      rw [lys, List.take_length] at hrm
      refine post_none O (.tail (.tail .head)) ?_
      clear O; intro s₁₁ e₁₁ O
      exact h D' kvs _ (by ktr_rel) O.keep nsd hrm (O.toNew.sub ((List.singleton_sublist).mpr (by ktr_rel)))
end
end
section
section
open PySem.SeqAt
variable {w : World} {A : Around} {E : Value → Shared → Prop} {s : Shared} {h₀ : Heap} {Φ Φ' Y : List Cell} {env : Env} {L : Addr} {nm gl : List Str} {cl : List (Str × Addr)}
theorem r_lsliceT {value slice : Expr} {l : Addr} {xs : List Value} {vl vu : Value} {lo hi : Option Int} {Q : Value → Shared → Prop} (O : Own h₀ s.heap Φ) (hl : Has h₀ Φ l (lstP xs)) (pl : IsPart vl lo) (pu : IsPart vu hi) (hz : xs.length ≤ 100000)
    (h : ∀ a s', Sm s s' → Own h₀ s'.heap ((a, lstP (slicePick xs.toArray lo hi none).toList) :: Φ) → Q (.ref a) s')
    (hs : subscripted slice false (.ref l) (.ref s.heap.objs.size) = operate [.ref s.heap.objs.size, .ref l] (getItem (.ref l) (.ref s.heap.objs.size)) := by with_unfolding_all rfl) :
    wpAny (model PR w) A (subscriptTail value slice (.ref l) (.ref s.heap.objs.size)) Q E { s with heap := s.heap.push { cls := .type "slice", data := .fields #[vl, vu, .none] } } := by
  have hl' := lstP.is (hl.get O)
  refine tail_any (Heap.IsList.typeIs (s := { s with heap := s.heap.push { cls := .type "slice", data := .fields #[vl, vu, .none] } }) (hl'.push _)) list_getitem_lookup
    (wpAny_getItem_list_slice (hl'.push _) (Heap.IsSliceOf.new ..) pl pu .none (by simp) ?_ (by rw [sizeLine_eq]; simp; lia)) hs
  have O1 := O.kp (h' := s.heap.push { cls := .type "slice", data := .fields #[vl, vu, .none] }) (fun _ _ e => Heap.get?_push_of_some _ e)
  have O2 := own_pushed O1 (lstP (slicePick xs.toArray lo hi none).toList) (o := { cls := .type "list", data := .seq (slicePick xs.toArray lo hi none) }) ⟨0, by simp⟩ rfl
  exact h _ _ Sm.mk' O2
theorem r_it_range {r : Addr} {a b : Int} {n : Nat} {Q : Value → Shared → Prop} (hn : n ≤ 100000) (ha : 0 ≤ a) (hb : a ≤ 100000) (hab : b = a + n) (O : Own h₀ s.heap Φ) (hr : Has h₀ Φ r (rngP a b))
    (h : ∀ I s', Sm s s' → Own h₀ s'.heap ((I, ritP (a + (0 : Nat)) ((n : Int) - (0 : Nat)) 1) :: Φ) → Q (.ref I) s') : wpAny (model PR w) A (pyIter (.ref r)) Q E s := by
  subst hab
  obtain ⟨o, eo, t, u, v, rfl⟩ := hr.get O
  refine wpAny_pyIter_range eo (small_range hn ha hb) ?_
  rw [rsize]
  refine own_push (P := ritP a n 1) (G := fun a h' => Q (.ref a) { s with heap := h' }) O rfl rfl fun I h' _ _ O' => h _ _ Sm.mk' (by simpa using O')
theorem self_range {I : Addr} {x l st : Int} (s : Shared) (Φ : List Cell) (Q : Value → Shared → Prop) (E : Value → Shared → Prop) (O : Own h₀ s.heap ((I, ritP x l st) :: Φ)) (h : Q (.ref I) s) : wpAny (model PR w) A (pyIter (.ref I)) Q E s := by
  obtain ⟨o, ho, rfl⟩ := O.head
  first
    | exact wpAny_pyIter_rangeiter ho h
    | exact wpAny_pyIter_rangeIter ho h
    | exact wpAny_pyIter_range_iterator ho h
/-- the places above the files, as _law_heads tells them -/
noncomputable def heads (run : List Key) : List Key := run.flatMap fun k => (List.range (k.length - 1)).map fun j => k.take (j + 1)
theorem count0 : keys39.all (fun k => k.length == 0 || PySem.Txt.count (S k) "/" == k.length) = true := by decide +kernel
theorem count_S {k : Key} (h : Good k) : (PySem.Txt.count (S k) "/" : Int) = k.length := by
  have := List.all_eq_true.mp count0 k (mem_keys39 h.2)
  have hk : k.length ≠ 0 := fun e => h.1 (List.length_eq_zero_iff.mp e)
  simp [h.1] at this
  exact_mod_cast this
theorem head0 : keys39.all (fun k => k.length == 0 || (List.range k.length).all fun j => PySem.Txt.join "/" ((("" : Str) :: k.map nmF).take (j + 2)) == S (k.take (j + 1))) = true := by decide +kernel
theorem head_S {k : Key} (h : Good k) {j : Nat} (hj : j < k.length) : PySem.Txt.join "/" ((("" : Str) :: k.map nmF).take (j + 2)) = S (k.take (j + 1)) := by
  have := List.all_eq_true.mp head0 k (mem_keys39 h.2)
  rw [Bool.or_eq_true] at this
  rcases this with this | this
  · exact absurd (List.length_eq_zero_iff.mp (by simpa using this)) h.1
  · have := List.all_eq_true.mp this j (List.mem_range.mpr hj)
    exact eq_of_beq this
end
end
section
section
open PySem.SeqAt
variable {w : World} {A : Around} {E : Value → Shared → Prop} {s : Shared} {h₀ : Heap} {Φ Φ' Y : List Cell} {env : Env} {L : Addr} {nm gl : List Str} {cl : List (Str × Addr)}
theorem heads_snoc (run : List Key) (k : Key) : heads (run ++ [k]) = heads run ++ (List.range (k.length - 1)).map fun j => k.take (j + 1) := by simp [heads]
theorem heads_len {run : List Key} (h : ∀ k ∈ run, Good k) : (heads run).length ≤ 2 * run.length := by
  induction run with
  | nil => simp [heads]
  | cons k r ih =>
    have := ih fun x hx => h x (List.mem_cons_of_mem _ hx)
    have hk := (h k List.mem_cons_self).2
    simp only [heads, List.flatMap_cons, List.length_append, List.length_map, List.length_range, List.length_cons] at this ⊢
    lia
set_option maxHeartbeats 4000000 in
theorem law_heads_spec {l : Addr} {run : List Key} {vs : List Value} {Q : Value → Shared → Prop} (B : Base w s.heap) (R : Rm A 3)
    (hl : ∃ o, s.heap.get? l = some o ∧ lstP vs o) (hv : StrsAre vs (run.map S)) (hrun : ∀ p ∈ run, Good p) (hz : run.length ≤ 20)
    (h : ∀ a tv s', Sm s s' → Kp s.heap s'.heap → StrsAre tv ((heads run).map S) → New s.heap s'.heap [(a, lstP tv)] → Q (.ref a) s') :
    wpAny (model PR w) A (call (.ref 231) [.ref l]) Q E s := by
  refine enterF (fn_heads w) B (R.le (by decide)) [("run", .ref l)] [] [some (.ref l)] (by kernel_rfl) rfl rfl ?_
  intro L env s₁ e₁ V O hf
  have R1 : Rm (A.deeper env) 2 := R.deeper
  have hh := R1.hd
  have lv : vs.length = run.length := by rw [hv.length]; simp
  refine r_seq rfl (wpAny_Return_some (r_lc2 V (blkOK_of (nm := ["place", "n"]) (cn := []) (fn := []) (gl := ["range"]) (by kernel_rfl)) (cl' := []) rfl (fun p hp => nomatch hp) (r_ld V O (by ktr_rel) (by ktr_rel) (r_it_list O (.base hl) ?_))))
  clear O; intro I s₂ e₂ O
  refine lc2_block V (blkOK_of (nm := ["place", "n"]) (cn := []) (fn := []) (gl := ["range"]) (by kernel_rfl)) rfl ((iter_list (l := l) (xs := vs) hh).toT self_list) (fun _ _ => rfl)
    (fun C cs i ys Ψ => ∃ v0 v1, StrsAre ys ((heads (run.take i)).map S) ∧ Ψ = (C, locP ["place", "n"] [v0, v1]) :: [(L, locP ["run"] [some (.ref l)])]) O ?_ ?_ ?_ ?_
  · intro C cs hcs
    obtain rfl := cs_nil hcs
    exact ⟨_, _, .nil, rfl⟩
  · rintro C cs D i ys Ψ _ ⟨v0, v1, _, rfl⟩; exact .base hl
  · rintro C cs D cenv V' hck' hfr hcs i v Ψ ys Φ2 s₃ hi ⟨v0, v1, hys, rfl⟩ ⟨hv', rfl⟩ e₃ O
    obtain rfl := cs_nil hcs
    obtain ⟨y, tx, rfl, hy⟩ := hv.item i v hv'
    rw [List.getElem?_map] at hy
    obtain ⟨p, hp, rfl⟩ := Option.map_eq_some_iff.mp hy
    have gp := hrun p (List.mem_of_getElem? hp)
    have gp2 := gp.2
    have gp1 : 0 < p.length := Nat.pos_of_ne_zero fun e => gp.1 (List.length_eq_zero_iff.mp e)
    dsimp only [List.cons_append, List.nil_append] at O V'
    refine PyProof.Rows.assign_Name (r_st V' O (by ktr_rel) (by ktr_rel) (by ktr_rel) ?_)
    clear O; intro s₄ e₄ O
    refine r_call (r_boot V' (B.keeps O.keep) (by ktr_rel) (by ktr_rel) (r_ty (r_arg (wpAny_Constant_int (r_gen O ?_)))))
    clear O; intro s₅ e₅ O
    refine r_arg (wpAny_BinOp (r_meth PySem.F.plainAttrs_str PySem.F.slot_str_count PySem.F.type_str_count (r_ld V' O (by ktr_rel) (by ktr_rel) ⟨str_here, r_arg (wpAny_Constant_str (r_gen O ?_))⟩)))
    clear O; intro s₆ e₆ O
    refine r_args (SC.count ?_)
    rw [count_S gp]
    refine wpAny_Constant_int (PyProof.Rows.add_int (r_gen O ?_))
    clear O; intro s₇ e₇ O
    refine r_args (r_range2 O ?_)
    clear O; intro r s₈ e₈ O
    refine r_it_range (a := 2) (b := (p.length : Int) + 1) (n := p.length - 1) (by lia) (by decide) (by decide) (by lia) O (.cell (by ktr_rel)) ?_
    clear O; intro I2 s₉ e₉ O
    have hlen : (heads (run.take i)).length ≤ 40 := by
      have h1 := heads_len (run := run.take i) fun k hk => hrun k (List.mem_of_mem_take hk)
      have h2 : (run.take i).length ≤ 20 := by rw [List.length_take]; lia
      lia
    have lys : ys.length ≤ 40 := by rw [hys.length]; simpa using hlen
    have hstep : heads (run.take (i + 1)) = heads (run.take i) ++ (List.range (p.length - 1)).map fun j => p.take (j + 1) := by
      rw [List.take_add_one, hp, Option.toList_some, heads_snoc]
    refine lc_inner (ys0 := ys) (Φ := (C, locP ["place", "n"] [some (.str (S p) tx), v1]) :: [(I, litP l (i + 1)), (L, locP ["run"] [some (.ref l)])]) ((iter_range (a := 2) (n := p.length - 1) hh).toT self_range) (by lia)
      (fun j zs Ψ => ∃ v2, StrsAre zs ((heads (run.take i) ++ (List.range j).map fun j => p.take (j + 1)).map S) ∧ Ψ = (C, locP ["place", "n"] [some (.str (S p) tx), v2]) :: [(I, litP l (i + 1)), (L, locP ["run"] [some (.ref l)])]) (O.pick (by ktr_rel)) ⟨_, by simpa using hys, rfl⟩ (fun _ _ _ _ _ => trivial) ?_ ?_
    · rintro j v Ψ zs Φ3 s₁₀ hj ⟨v2, hzs, rfl⟩ ⟨⟨tn, rfl⟩, rfl⟩ e₁₀ O
      dsimp only [List.cons_append, List.nil_append] at O
      refine PyProof.Rows.assign_Name (r_st V' O (by ktr_rel) (by ktr_rel) (by ktr_rel) ?_)
      clear O; intro s₁₁ e₁₁ O
      refine r_meth PySem.F.plainAttrs_str PySem.F.slot_str_join PySem.F.type_str_join (wpAny_Constant_str ⟨str_here, ?_⟩)
      refine r_gen O ?_
      clear O; intro s₁₂ e₁₂ O
      refine r_arg (Subscript_ (r_meth PySem.F.plainAttrs_str PySem.F.slot_str_split PySem.F.type_str_split (r_ld V' O (by ktr_rel) (by ktr_rel) ⟨str_here, r_arg (wpAny_Constant_str (r_gen O ?_))⟩)))
      clear O; intro s₁₃ e₁₃ O
      refine r_args (r_split O (by decide) (by have := S_len p gp.2; rw [sizeLine_eq]; lia) ?_)
      clear O; intro a xs s₁₄ hxs e₁₄ O
      rw [split_names gp] at hxs
      refine wpAny_Slice (r_part_none (r_part (r_ld V' O (by ktr_rel) (by ktr_rel) (r_part_none ?_))))
      have lxs : xs.length = p.length + 1 := by rw [hxs.length]; simp
      refine r_lsliceT O (.cell (by ktr_rel)) .none (.int _ _) (by lia) ?_
      clear O; intro a2 s₁₅ e₁₅ O
      have hsl := slice_strs_upto hxs (y := (2 + (j : Int))) (by lia) (by simp; lia)
      have h2j : (2 + (j : Int)).toNat = j + 2 := by lia
      rw [h2j] at hsl
      refine r_args (r_join O (.cell (by ktr_rel)) hsl (joinOk_small (by decide) (fun b hb => ?_) (by simp; lia)) ?_)
      · have := List.mem_of_mem_take hb
        rcases List.mem_cons.mp this with rfl | this
        · decide
        · obtain ⟨x, _, rfl⟩ := List.mem_map.mp this
          exact Nat.le_trans (nm_len x) (by decide)
      clear O; intro t₄ s₁₆ e₁₆ O
      rw [head_S gp (by lia)]
      refine ⟨_, by ktr_rel, O.pick (by ktr_rel), _, ?_, rfl⟩
      rw [List.range_succ, List.map_append, List.map_append, List.map_append, ← List.append_assoc, ← List.map_append]
      exact kct_snoc hzs
    · rintro zs Φ3 s₁₀ ⟨v2, hzs, rfl⟩ e₁₀ O
      refine ⟨zs, _, by ktr_rel, O.pick (by ktr_rel), _, _, ?_, rfl⟩
      rw [hstep]; exact hzs
  · rintro C cs D ys Ψ s₃ ⟨v0, v1, hys, rfl⟩ e₃ O
    rw [lv, List.take_length] at hys
    refine post_none O (.tail .head) ?_
    clear O; intro s₄ e₄ O
    exact h D ys _ (by ktr_rel) O.keep hys (O.toNew.sub ((List.singleton_sublist).mpr (by ktr_rel)))
end
end
section
section
variable {w : World} {A : Around} {E : Value → Shared → Prop} {s : Shared} {h₀ : Heap} {Φ Φ' Z : List Cell} {env : Env} {L : Addr} {nm gl : List Str} {cl : List (Str × Addr)}
/-- what sorted_list_difference tells, on the two lists that are left -/
noncomputable def sldF : List Str → List Str → List Str × List Str
  | [], as => ([], as)
  | e :: es, [] => (e :: es, [])
  | e :: es, a :: as =>
    if ltStr e a = true then (e :: (sldF (es.dropWhile (· == e)) (a :: as)).1, (sldF (es.dropWhile (· == e)) (a :: as)).2)
    else if ltStr a e = true then ((sldF (e :: es) (as.dropWhile (· == a))).1, a :: (sldF (e :: es) (as.dropWhile (· == a))).2)
    else sldF (es.dropWhile (· == e)) (as.dropWhile (· == a))
termination_by es as => es.length + as.length
decreasing_by
  all_goals
    simp only [List.length_cons]
    try have h1 := (List.dropWhile_sublist (l := es) (· == e)).length_le
    try have h2 := (List.dropWhile_sublist (l := as) (· == a)).length_le
    lia
theorem sldF_nil (as : List Str) : sldF [] as = ([], as) := by rw [sldF]
theorem sldF_nil' (es : List Str) : sldF es [] = (es, []) := by cases es <;> rw [sldF]
noncomputable def SDst (le la lm lu L : Addr) (i j : Nat) (ti tj : Tok) (ms us : List Value) (ev av : Option Value) (Φ : List Cell) : List Cell :=
  (L, locP ["expected", "actual", "i", "j", "missing", "unexpected", "e", "a"] [some (.ref le), some (.ref la), some (.int i ti), some (.int j tj), some (.ref lm), some (.ref lu), ev, av]) :: (lm, lstP ms) :: (lu, lstP us) :: Φ
structure SDok (es as : List Str) (i j : Nat) (ms us : List Value) : Prop where
  hi : i ≤ es.length
  hj : j ≤ as.length
  eq : ∃ mS uS, StrsAre ms mS ∧ StrsAre us uS ∧ mS.length ≤ i ∧ uS.length ≤ j ∧ (sldF es as).1 = mS ++ (sldF (es.drop i) (as.drop j)).1 ∧ (sldF es as).2 = uS ++ (sldF (es.drop i) (as.drop j)).2
theorem SDok.start {es as : List Str} : SDok es as 0 0 [] [] := ⟨Nat.zero_le _, Nat.zero_le _, [], [], .nil, .nil, Nat.le_refl _, Nat.le_refl _, by simp, by simp⟩
theorem SDok.lt {es as : List Str} {i j i' : Nat} {ms us : List Value} (h : SDok es as i j ms us) {hi : i < es.length} {hj : j < as.length} (hlt : ltStr es[i] as[j] = true) (hi' : i' ≤ es.length) (hii : i + 1 ≤ i') (hd : es.drop i' = (es.drop (i + 1)).dropWhile (· == es[i])) {t : Tok} :
    SDok es as i' j (ms ++ [.str es[i] t]) us := by
  obtain ⟨_, hj', mS, uS, a, b, c, d, e, f⟩ := h
  rw [List.drop_eq_getElem_cons hi, List.drop_eq_getElem_cons hj, sldF, if_pos hlt] at e f
  refine ⟨hi', hj', mS ++ [es[i]], uS, kct_snoc a, b, by simp; lia, d, ?_, ?_⟩
  · rw [e, hd, List.drop_eq_getElem_cons hj]; simp
  · rw [f, hd, List.drop_eq_getElem_cons hj]
theorem SDok.gt {es as : List Str} {i j j' : Nat} {ms us : List Value} (h : SDok es as i j ms us) {hi : i < es.length} {hj : j < as.length} (hlt : ¬ ltStr es[i] as[j] = true) (hgt : ltStr as[j] es[i] = true) (hj' : j' ≤ as.length) (hjj : j + 1 ≤ j') (hd : as.drop j' = (as.drop (j + 1)).dropWhile (· == as[j])) {t : Tok} :
    SDok es as i j' ms (us ++ [.str as[j] t]) := by
  obtain ⟨hi', _, mS, uS, a, b, c, d, e, f⟩ := h
  rw [List.drop_eq_getElem_cons hi, List.drop_eq_getElem_cons hj, sldF, if_neg hlt, if_pos hgt] at e f
  refine ⟨hi', hj', mS, uS ++ [as[j]], a, kct_snoc b, c, by simp; lia, ?_, ?_⟩
  · rw [e, hd, List.drop_eq_getElem_cons hi]
  · rw [f, hd, List.drop_eq_getElem_cons hi]; simp
theorem SDok.same {es as : List Str} {i j i' j' : Nat} {ms us : List Value} (h : SDok es as i j ms us) {hi : i < es.length} {hj : j < as.length} (hlt : ¬ ltStr es[i] as[j] = true) (hgt : ¬ ltStr as[j] es[i] = true)
    (hi' : i' ≤ es.length) (hii : i + 1 ≤ i') (hdi : es.drop i' = (es.drop (i + 1)).dropWhile (· == es[i])) (hj' : j' ≤ as.length) (hjj : j + 1 ≤ j') (hd : as.drop j' = (as.drop (j + 1)).dropWhile (· == as[j])) :
    SDok es as i' j' ms us := by
  obtain ⟨_, _, mS, uS, a, b, c, d, e, f⟩ := h
  rw [List.drop_eq_getElem_cons hi, List.drop_eq_getElem_cons hj, sldF, if_neg hlt, if_neg hgt] at e f
  exact ⟨hi', hj', mS, uS, a, b, by lia, by lia, by rw [e, hdi, hd], by rw [f, hdi, hd]⟩
theorem SDok.fin {es as : List Str} {i j : Nat} {ms us : List Value} (h : SDok es as i j ms us) (hend : i = es.length ∨ j = as.length) {xs ys : List Value} (hx : StrsAre xs (es.drop i)) (hy : StrsAre ys (as.drop j)) : StrsAre (ms ++ xs) (sldF es as).1 ∧ StrsAre (us ++ ys) (sldF es as).2 := by
  obtain ⟨_, _, mS, uS, a, b, c, d, e, f⟩ := h
  have : sldF (es.drop i) (as.drop j) = (es.drop i, as.drop j) := by
    rcases hend with rfl | rfl
    · rw [List.drop_length, sldF_nil]
    · rw [List.drop_length, sldF_nil']
  rw [this] at e f
  rw [e, f]
  exact ⟨a.append' hx, b.append' hy⟩
end
end
section
/-! ## the order of texts -/
theorem lt_irr (a : Str) : ltStr a a = false := by unfold ltStr; exact decide_eq_false (List.lt_irrefl _)
theorem lt_tr {a b c : Str} (h1 : ltStr a b = true) (h2 : ltStr b c = true) : ltStr a c = true := by
  unfold ltStr at *
  exact decide_eq_true (List.lt_trans (of_decide_eq_true h1) (of_decide_eq_true h2))
theorem lt_asy {a b : Str} (h : ltStr a b = true) : ltStr b a = false := by
  cases q : ltStr b a with
  | false => rfl
  | true => have := lt_tr h q; rw [lt_irr] at this; cases this
theorem le_anti {a b : Str} (h1 : ltStr b a = false) (h2 : ltStr a b = false) : a = b := by
  unfold ltStr at *
  have h3 : a.cps.toList ≤ b.cps.toList := List.not_lt.mp (of_decide_eq_false h1)
  have h4 : b.cps.toList ≤ a.cps.toList := List.not_lt.mp (of_decide_eq_false h2)
  have := List.le_antisymm h3 h4
  cases a; cases b
  simp only [Str.mk.injEq]
  exact Array.toList_inj.mp this
theorem le_tr {a b c : Str} (h1 : ltStr b a = false) (h2 : ltStr c b = false) : ltStr c a = false := by
  unfold ltStr at *
  have h3 : a.cps.toList ≤ b.cps.toList := List.not_lt.mp (of_decide_eq_false h1)
  have h4 : b.cps.toList ≤ c.cps.toList := List.not_lt.mp (of_decide_eq_false h2)
  exact decide_eq_false (List.not_lt.mpr (List.le_trans h3 h4))
theorem le_lt {a b c : Str} (h1 : ltStr b a = false) (h2 : ltStr b c = true) : ltStr a c = true := by
  cases q : ltStr a c with
  | true => rfl
  | false => have := le_tr q h1; rw [h2] at this; cases this
theorem lt_le {a b c : Str} (h1 : ltStr a b = true) (h2 : ltStr c b = false) : ltStr a c = true := by
  cases q : ltStr a c with
  | true => rfl
  | false => have := le_tr h2 q; rw [h1] at this; cases this
theorem lt_ne {a b : Str} (h : ltStr a b = true) : a ≠ b := fun e => by rw [e, lt_irr] at h; cases h
noncomputable abbrev SLe (l : List Str) : Prop := l.Pairwise fun a b => ltStr b a = false
noncomputable abbrev SLt (l : List Str) : Prop := l.Pairwise fun a b => ltStr a b = true
theorem ltCps_lt (a b : Str) : PySem.Spec.ltCps a.cps.toList b.cps.toList = ltStr a b := by rw [ltCps_eq]; rfl
theorem rising_le : ∀ (p : Str) (l : List Str), risingS p l = true → SLe (p :: l)
  | p, [], _ => List.pairwise_singleton _ _
  | p, x :: r, h => by
    rw [risingS, Bool.and_eq_true, Bool.not_eq_true', ltCps_lt] at h
    have ih := rising_le x r h.2
    refine List.pairwise_cons.mpr ⟨fun y hy => ?_, ih⟩
    rcases List.mem_cons.mp hy with rfl | hy
    · exact h.1
    · exact le_tr h.1 (List.rel_of_pairwise_cons ih hy)
theorem sorted_le {l : List Str} (h : sortedS l = true) : SLe l := by
  cases l with
  | nil => exact List.Pairwise.nil
  | cons x r => exact rising_le x r h
theorem sorted_one {l₁ l₂ : List Str} (h1 : sortedS l₁ = true) (h2 : sortedS l₂ = true) (hp : l₁.Perm l₂) : l₁ = l₂ :=
  List.Perm.eq_of_pairwise (fun _ _ _ _ a b => le_anti a b) (sorted_le h1) (sorted_le h2) hp
theorem slt_of {l : List Str} (h : SLe l) (nd : l.Nodup) : SLt l :=
  (List.pairwise_and_iff.mpr ⟨h, nd⟩).imp fun {a b} ⟨h1, h2⟩ => by
    cases q : ltStr a b with
    | true => rfl
    | false => exact absurd (le_anti h1 q) h2
theorem slt_nodup {l : List Str} (h : SLt l) : l.Nodup := h.imp fun h => lt_ne h
theorem slt_one {l₁ l₂ : List Str} (h1 : SLt l₁) (h2 : SLt l₂) (hm : ∀ x, x ∈ l₁ ↔ x ∈ l₂) : l₁ = l₂ :=
  List.Perm.eq_of_pairwise (fun a b _ _ h1 h2 => by have := lt_asy h1; rw [h2] at this; cases this) h1 h2 ((List.perm_ext_iff_of_nodup (slt_nodup h1) (slt_nodup h2)).mpr hm)
theorem dw_facts {e : Str} : ∀ {es : List Str}, SLe (e :: es) → SLe (es.dropWhile (· == e)) ∧ (∀ x, x ∈ es.dropWhile (· == e) ↔ x ∈ es ∧ x ≠ e) ∧ ∀ x ∈ es.dropWhile (· == e), ltStr e x = true
  | [], _ => ⟨List.Pairwise.nil, fun x => by simp, fun x hx => by simp at hx⟩
  | y :: es, h => by
    have hy := List.pairwise_cons.mp h
    have hyy := List.pairwise_cons.mp hy.2
    rw [List.dropWhile_cons]
    by_cases hq : (y == e) = true
    · rw [if_pos hq]
      have ey : y = e := by simpa using hq
      subst ey
      obtain ⟨a, b, c⟩ := dw_facts (e := y) (es := es) hy.2
      refine ⟨a, fun x => ?_, c⟩
      rw [b, List.mem_cons]
      constructor
      · rintro ⟨h1, h2⟩; exact ⟨.inr h1, h2⟩
      · rintro ⟨h1 | h1, h2⟩
        · exact absurd h1 h2
        · exact ⟨h1, h2⟩
    · rw [if_neg hq]
      have hne : y ≠ e := by simpa using hq
      have hlt : ltStr e y = true := by
        cases q : ltStr e y with
        | true => rfl
        | false => exact absurd (le_anti q (hy.1 y List.mem_cons_self)) hne
      have hall : ∀ x ∈ y :: es, ltStr e x = true := fun x hx => by
        rcases List.mem_cons.mp hx with rfl | hx
        · exact hlt
        · exact lt_le hlt (hyy.1 x hx)
      exact ⟨hy.2, fun x => ⟨fun hx => ⟨hx, fun e' => by have := hall x hx; rw [e', lt_irr] at this; cases this⟩, fun hx => hx.1⟩, hall⟩
/-- no doubles at the end -/
noncomputable def SC0 (es as : List Str) : Prop := (es.Nodup ∧ as.Nodup) ∨ (∃ z, z ∈ es ∧ z ∈ as ∧ (∀ x ∈ es, ltStr z x = false) ∧ ∀ x ∈ as, ltStr z x = false) ∨ (es = [] ∧ as = [])
theorem sldF_facts : ∀ (n : Nat) (es as : List Str), es.length + as.length ≤ n → SLe es → SLe as → SC0 es as →
    SLt (sldF es as).1 ∧ SLt (sldF es as).2 ∧ (∀ x, x ∈ (sldF es as).1 ↔ x ∈ es ∧ x ∉ as) ∧ (∀ x, x ∈ (sldF es as).2 ↔ x ∈ as ∧ x ∉ es) := by
  intro n
  induction n with
  | zero =>
    intro es as hn _ _ _
    obtain rfl := List.length_eq_zero_iff.mp (show es.length = 0 by lia)
    obtain rfl := List.length_eq_zero_iff.mp (show as.length = 0 by lia)
    rw [sldF_nil]
    exact ⟨List.Pairwise.nil, List.Pairwise.nil, by simp, by simp⟩
  | succ n ih =>
    intro es as hn he ha hC
    cases es with
    | nil =>
      rw [sldF_nil]
      refine ⟨List.Pairwise.nil, ?_, by simp, by simp⟩
      rcases hC with ⟨_, h⟩ | ⟨z, h, _⟩ | ⟨_, rfl⟩
      · exact slt_of ha h
      · cases h
      · exact List.Pairwise.nil
    | cons e es =>
      cases as with
      | nil =>
        rw [sldF_nil']
        refine ⟨?_, List.Pairwise.nil, by simp, by simp⟩
        rcases hC with ⟨h, _⟩ | ⟨z, _, h, _⟩ | ⟨h, _⟩
        · exact slt_of he h
        · cases h
        · cases h
      | cons a as =>
        obtain ⟨e1, e2, e3⟩ := dw_facts he
        obtain ⟨a1, a2, a3⟩ := dw_facts ha
        have le1 := (List.dropWhile_sublist (l := es) (· == e)).length_le
        have la1 := (List.dropWhile_sublist (l := as) (· == a)).length_le
        simp only [List.length_cons] at hn
        have hea : ∀ x ∈ as, ltStr x a = false := fun x hx => List.rel_of_pairwise_cons ha hx
        have hee : ∀ x ∈ es, ltStr x e = false := fun x hx => List.rel_of_pairwise_cons he hx
        have sub1 : (es.dropWhile (· == e)).Sublist (e :: es) := (List.dropWhile_sublist _).trans (List.sublist_cons_self _ _)
        have sub2 : (as.dropWhile (· == a)).Sublist (a :: as) := (List.dropWhile_sublist _).trans (List.sublist_cons_self _ _)
        rw [sldF]
        by_cases hlt : ltStr e a = true
        · rw [if_pos hlt]
          have hall : ∀ x ∈ a :: as, ltStr e x = true := fun x hx => by
            rcases List.mem_cons.mp hx with rfl | hx
            · exact hlt
            · exact lt_le hlt (hea x hx)
          have hno : e ∉ a :: as := fun hm => lt_ne (hall e hm) rfl
          have hC' : SC0 (es.dropWhile (· == e)) (a :: as) := by
            rcases hC with ⟨h1, h2⟩ | ⟨z, h1, h2, h3, h4⟩ | ⟨h, _⟩
            · exact .inl ⟨h1.sublist sub1, h2⟩
            · refine .inr (.inl ⟨z, ?_, h2, fun x hx => h3 x (sub1.subset hx), h4⟩)
              have hze : z ≠ e := fun q => hno (q ▸ h2)
              exact (e2 z).mpr ⟨(List.mem_cons.mp h1).resolve_left hze, hze⟩
            · cases h
          obtain ⟨i1, i2, i3, i4⟩ := ih _ _ (by simp only [List.length_cons]; lia) e1 ha hC'
          refine ⟨List.pairwise_cons.mpr ⟨fun x hx => e3 x ((i3 x).mp hx).1, i1⟩, i2, fun x => ?_, fun x => ?_⟩
          · rw [List.mem_cons, i3, e2, List.mem_cons (a := x) (b := e)]
            constructor
            · rintro (rfl | ⟨⟨h1, h2⟩, h3⟩)
              · exact ⟨.inl rfl, hno⟩
              · exact ⟨.inr h1, h3⟩
            · rintro ⟨h1, h2⟩
              by_cases q : x = e
              · exact .inl q
              · exact .inr ⟨⟨h1.resolve_left q, q⟩, h2⟩
          · rw [i4, e2, List.mem_cons (a := x) (b := e)]
            constructor
            · rintro ⟨h1, h2⟩
              refine ⟨h1, ?_⟩
              rintro (rfl | h)
              · exact hno h1
              · exact h2 ⟨h, fun q => hno (q ▸ h1)⟩
            · rintro ⟨h1, h2⟩; exact ⟨h1, fun h => h2 (.inr h.1)⟩
        rw [if_neg hlt]
        by_cases hgt : ltStr a e = true
        · rw [if_pos hgt]
          have hall : ∀ x ∈ e :: es, ltStr a x = true := fun x hx => by
            rcases List.mem_cons.mp hx with rfl | hx
            · exact hgt
            · exact lt_le hgt (hee x hx)
          have hno : a ∉ e :: es := fun hm => lt_ne (hall a hm) rfl
          have hC' : SC0 (e :: es) (as.dropWhile (· == a)) := by
            rcases hC with ⟨h1, h2⟩ | ⟨z, h1, h2, h3, h4⟩ | ⟨h, _⟩
            · exact .inl ⟨h1, h2.sublist sub2⟩
            · refine .inr (.inl ⟨z, h1, ?_, h3, fun x hx => h4 x (sub2.subset hx)⟩)
              have hze : z ≠ a := fun q => hno (q ▸ h1)
              exact (a2 z).mpr ⟨(List.mem_cons.mp h2).resolve_left hze, hze⟩
            · cases h
          obtain ⟨i1, i2, i3, i4⟩ := ih _ _ (by simp only [List.length_cons]; lia) he a1 hC'
          refine ⟨i1, List.pairwise_cons.mpr ⟨fun x hx => a3 x ((i4 x).mp hx).1, i2⟩, fun x => ?_, fun x => ?_⟩
          · rw [i3, a2, List.mem_cons (a := x) (b := a)]
            constructor
            · rintro ⟨h1, h2⟩
              refine ⟨h1, ?_⟩
              rintro (rfl | h)
              · exact hno h1
              · exact h2 ⟨h, fun q => hno (q ▸ h1)⟩
            · rintro ⟨h1, h2⟩; exact ⟨h1, fun h => h2 (.inr h.1)⟩
          · rw [List.mem_cons, i4, a2, List.mem_cons (a := x) (b := a)]
            constructor
            · rintro (rfl | ⟨⟨h1, h2⟩, h3⟩)
              · exact ⟨.inl rfl, hno⟩
              · exact ⟨.inr h1, h3⟩
            · rintro ⟨h1, h2⟩
              by_cases q : x = a
              · exact .inl q
              · exact .inr ⟨⟨h1.resolve_left q, q⟩, h2⟩
        rw [if_neg hgt]
        obtain rfl : e = a := le_anti (by simpa using hgt) (by simpa using hlt)
        have hC' : SC0 (es.dropWhile (· == e)) (as.dropWhile (· == e)) := by
          rcases hC with ⟨h1, h2⟩ | ⟨z, h1, h2, h3, h4⟩ | ⟨h, _⟩
          · exact .inl ⟨h1.sublist sub1, h2.sublist sub2⟩
          · by_cases q : z = e
            · subst q
              refine .inr (.inr ⟨?_, ?_⟩)
              · refine List.eq_nil_iff_forall_not_mem.mpr fun x hx => ?_
                have := e3 x hx; rw [h3 x (sub1.subset hx)] at this; cases this
              · refine List.eq_nil_iff_forall_not_mem.mpr fun x hx => ?_
                have := a3 x hx; rw [h4 x (sub2.subset hx)] at this; cases this
            · exact .inr (.inl ⟨z, (e2 z).mpr ⟨(List.mem_cons.mp h1).resolve_left q, q⟩, (a2 z).mpr ⟨(List.mem_cons.mp h2).resolve_left q, q⟩, fun x hx => h3 x (sub1.subset hx), fun x hx => h4 x (sub2.subset hx)⟩)
          · cases h
        obtain ⟨i1, i2, i3, i4⟩ := ih _ _ (by lia) e1 a1 hC'
        refine ⟨i1, i2, fun x => ?_, fun x => ?_⟩
        · rw [i3, e2, a2, List.mem_cons, List.mem_cons]
          constructor
          · rintro ⟨⟨h1, h2⟩, h3⟩
            exact ⟨.inr h1, fun h => h3 ⟨h.resolve_left h2, h2⟩⟩
          · rintro ⟨h1, h2⟩
            have q : x ≠ e := fun q => h2 (.inl q)
            exact ⟨⟨h1.resolve_left q, q⟩, fun h => h2 (.inr h.1)⟩
        · rw [i4, e2, a2, List.mem_cons, List.mem_cons]
          constructor
          · rintro ⟨⟨h1, h2⟩, h3⟩
            exact ⟨.inr h1, fun h => h3 ⟨h.resolve_left h2, h2⟩⟩
          · rintro ⟨h1, h2⟩
            have q : x ≠ e := fun q => h2 (.inl q)
            exact ⟨⟨h1.resolve_left q, q⟩, fun h => h2 (.inr h.1)⟩
theorem onlyN_mem (ss ts : List Str) : ∀ (n : Nat), n ≤ ss.length → (∀ x, x ∈ onlyN ss ts n ↔ x ∈ ss.take n ∧ x ∉ ts) ∧ (onlyN ss ts n).Nodup
  | 0, _ => ⟨fun x => by simp [onlyN], List.nodup_nil⟩
  | n + 1, hn => by
    obtain ⟨h1, h2⟩ := onlyN_mem ss ts n (by lia)
    have hg : ss.getD n Str.empty = ss[n] := by rw [List.getD_eq_getElem?_getD, List.getElem?_eq_getElem (by lia)]; rfl
    have ht : ss.take (n + 1) = ss.take n ++ [ss[n]] := by rw [List.take_add_one, List.getElem?_eq_getElem (by lia)]; rfl
    rw [onlyN, hg, ht]
    by_cases hq : ((ss.take n).any (· == ss[n]) || ts.any (· == ss[n])) = true
    · rw [if_pos hq, List.append_nil]
      refine ⟨fun x => ?_, h2⟩
      rw [h1, List.mem_append, List.mem_singleton]
      constructor
      · rintro ⟨a, b⟩; exact ⟨.inl a, b⟩
      · rintro ⟨a | rfl, b⟩
        · exact ⟨a, b⟩
        · rw [Bool.or_eq_true, List.any_beq', List.any_beq'] at hq
          simp only [List.contains_iff_mem] at hq
          rcases hq with hq | hq
          · exact ⟨hq, b⟩
          · exact absurd hq b
    · rw [if_neg hq]
      rw [Bool.or_eq_true, List.any_beq', List.any_beq'] at hq
      simp only [List.contains_iff_mem, not_or] at hq
      refine ⟨fun x => ?_, ?_⟩
      · rw [List.mem_append, h1, List.mem_append, List.mem_singleton]
        constructor
        · rintro (⟨a, b⟩ | rfl)
          · exact ⟨.inl a, b⟩
          · exact ⟨.inr rfl, hq.2⟩
        · rintro ⟨a | rfl, b⟩
          · exact .inl ⟨a, b⟩
          · exact .inr rfl
      · rw [List.nodup_append]
        refine ⟨h2, by simp, fun x hx y hy e => ?_⟩
        rw [List.mem_singleton] at hy
        subst hy e
        exact hq.1 ((h1 _).mp hx).1
theorem sld_only {ss ts s1 t1 A B : List Str} (h1 : s1.Perm ss) (h2 : sortedS s1 = true) (h3 : t1.Perm ts) (h4 : sortedS t1 = true) (hA : A.Perm (onlyN ss ts ss.length)) (hA2 : sortedS A = true) (hB : B.Perm (onlyN ts ss ts.length)) (hB2 : sortedS B = true) (hC : SC0 s1 t1) :
    sldF s1 t1 = (A, B) := by
  obtain ⟨i1, i2, i3, i4⟩ := sldF_facts _ s1 t1 (Nat.le_refl _) (sorted_le h2) (sorted_le h4) hC
  obtain ⟨m1, n1⟩ := onlyN_mem ss ts ss.length (Nat.le_refl _)
  obtain ⟨m2, n2⟩ := onlyN_mem ts ss ts.length (Nat.le_refl _)
  have eA : (sldF s1 t1).1 = A := slt_one i1 (slt_of (sorted_le hA2) (hA.nodup_iff.mpr n1)) fun x => by
    rw [i3, hA.mem_iff, m1, List.take_length, h1.mem_iff, h3.mem_iff]
  have eB : (sldF s1 t1).2 = B := slt_one i2 (slt_of (sorted_le hB2) (hB.nodup_iff.mpr n2)) fun x => by
    rw [i4, hB.mem_iff, m2, List.take_length, h1.mem_iff, h3.mem_iff]
  rw [← eA, ← eB]
end
section
section
variable {w : World} {A : Around} {E : Value → Shared → Prop} {s : Shared} {h₀ : Heap} {Φ Φ' Z : List Cell} {env : Env} {L : Addr} {nm gl : List Str} {cl : List (Str × Addr)}
theorem ie_exc : isSubtype (.type "IndexError") (.type "BaseException") = pure true := by rw [isSubtype_type]; kernel_rfl
theorem ie_tup : isSubtype (.type ((Manifest.find? "IndexError").elim "type" fun x => x.metatype)) (.type "tuple") = pure false := by rw [isSubtype_type]; kernel_rfl
theorem ie_self : isSubtype (.type "IndexError") (.type "IndexError") = pure true := by rw [isSubtype_type]; kernel_rfl
noncomputable abbrev sdNm : List Str := ["expected", "actual", "i", "j", "missing", "unexpected", "e", "a"]
/-- the end of a turn that goes on -/
noncomputable def TE (h₀ : Heap) (s : Shared) (es as : List Str) (le la lm lu L : Addr) (Φ : List Cell) (n : Nat) (f : Flow) (s' : Shared) : Prop :=
  f = .next ∧ ∃ i j ti tj ms us ev av, (es.length - i) + (as.length - j) < n ∧ SDok es as i j ms us ∧ Sm s s' ∧ Own h₀ s'.heap ((L, locP sdNm [some (.ref le), some (.ref la), some (.int (i : Int) ti), some (.int (j : Int) tj), some (.ref lm), some (.ref lu), ev, av]) :: (lm, lstP ms) :: (lu, lstP us) :: Φ)
/-- an IndexError out of a turn -/
noncomputable def RE (h₀ : Heap) (s : Shared) (es as : List Str) (le la lm lu L : Addr) (Φ : List Cell) (x : Value) (s' : Shared) : Prop :=
  ∃ ee c i j ti tj ms us ev av, x = .ref ee ∧ (i = es.length ∨ j = as.length) ∧ SDok es as i j ms us ∧ Sm s s' ∧
    (Own h₀ s'.heap ((ee, exP .none c) :: (L, locP sdNm [some (.ref le), some (.ref la), some (.int (i : Int) ti), some (.int (j : Int) tj), some (.ref lm), some (.ref lu), ev, av]) :: (lm, lstP ms) :: (lu, lstP us) :: Φ) ∨
     Fly h₀ ee c ((L, locP sdNm [some (.ref le), some (.ref la), some (.int (i : Int) ti), some (.int (j : Int) tj), some (.ref lm), some (.ref lu), ev, av]) :: (lm, lstP ms) :: (lu, lstP us) :: Φ) s'.heap)
set_option maxHeartbeats 8000000 in
theorem sld_spec {le la : Addr} {vs ws : List Value} {es as : List Str} {fr : List Env} {Q : Value → Shared → Prop} (B : Base w h₀) (R : Rm A 4) (hfr : A.frames = some fr) (hF : FR fr Φ) (O : Own h₀ s.heap Φ)
    (he : Has h₀ Φ le (lstP vs)) (ha : Has h₀ Φ la (lstP ws)) (hvs : StrsAre vs es) (hws : StrsAre ws as) (hz : es.length ≤ 500) (hz2 : as.length ≤ 500)
    (h : ∀ T lm lu ms us s', Sm s s' → StrsAre ms (sldF es as).1 → StrsAre us (sldF es as).2 → Own h₀ s'.heap ((T, tupP [.ref lm, .ref lu]) :: (lm, lstP ms) :: (lu, lstP us) :: Φ) → Q (.ref T) s') :
    wpAny (model PR w) A (call (.ref 190) [.ref le, .ref la]) Q E s := by
  refine enterF (fn_sld w) (B.keeps O.keep) (R.le (by decide)) [("expected", .ref le), ("actual", .ref la)] ["i", "j", "missing", "unexpected", "e", "a"] [some (.ref le), some (.ref la), none, none, none, none, none, none] (by kernel_rfl) rfl rfl ?_
  intro L env s₁ e₁ V O1 hf
  have R1 : Rm (A.deeper env) 3 := R.deeper
  have hh := R1.hd
  have hfr1 : (A.deeper env).frames = some (env :: fr) := Around.frames_deeper hfr
  have lvs : vs.length = es.length := hvs.length
  have lws : ws.length = as.length := hws.length
  replace O : Own h₀ s₁.heap ((L, locP sdNm [some (.ref le), some (.ref la), none, none, none, none, none, none]) :: Φ) := O.new O1.keep O1.toNew
  clear O1
  -- i = j = 0
  refine r_seq rfl (wpAny_Assign_two (wpAny_Constant_int (r_gen O ?_)))
  clear O; intro s₂ e₂ O
  refine PyProof.Rows.assign_Name (r_st V O (by ktr_rel) (by ktr_rel) (by ktr_rel) ?_)
  clear O; intro s₃ e₃ O
  refine PyProof.Rows.assign_Name (r_st V O (by ktr_rel) (by ktr_rel) (by ktr_rel) ?_)
  clear O; intro s₄ e₄ O
  -- missing = []; unexpected = []
  refine r_seq rfl (wpAny_Assign_Name (List_ (r_args (r_newLst O ?_))))
  clear O; intro lm s₅ e₅ _ _ O
  refine r_st V O (by ktr_rel) (by ktr_rel) (by ktr_rel) ?_
  clear O; intro s₆ e₆ O
  refine r_seq rfl (wpAny_Assign_Name (List_ (r_args (r_newLst O ?_))))
  clear O; intro lu s₇ e₇ _ _ O
  refine r_st V O (by ktr_rel) (by ktr_rel) (by ktr_rel) ?_
  clear O; intro s₈ e₈ O
  have e0 : Sm s s₈ := by ktr_rel
  obtain ⟨t00, O⟩ : ∃ t00 : Tok, Own h₀ s₈.heap ((L, locP sdNm [some (.ref le), some (.ref la), some (.int 0 t00), some (.int 0 t00), some (.ref lm), some (.ref lu), none, none]) :: (lm, lstP []) :: (lu, lstP []) :: Φ) := ⟨_, O.pick (by ktr_rel)⟩
  clear e₁ e₂ e₃ e₄ e₅ e₆ e₇ e₈
  have hin : ∀ {P : Obj → Prop} {a : Addr} {c1 c2 c3 : Cell}, Has h₀ Φ a P → Has h₀ (c1 :: c2 :: c3 :: Φ) a P := fun H => H.mono fun p hp => List.mem_cons_of_mem _ (List.mem_cons_of_mem _ (List.mem_cons_of_mem _ hp))
  have hin2 : ∀ {P : Obj → Prop} {a : Addr} {c2 c3 : Cell}, Has h₀ Φ a P → Has h₀ (c2 :: c3 :: Φ) a P := fun H => H.mono fun p hp => List.mem_cons_of_mem _ (List.mem_cons_of_mem _ hp)
  refine r_seq rfl (r_while (fun n s' => ∃ i j ti tj ms us ev av, n = (es.length - i) + (as.length - j) ∧ SDok es as i j ms us ∧ Sm s s' ∧
      Own h₀ s'.heap ((L, locP sdNm [some (.ref le), some (.ref la), some (.int (i : Int) ti), some (.int (j : Int) tj), some (.ref lm), some (.ref lu), ev, av]) :: (lm, lstP ms) :: (lu, lstP us) :: Φ)) (es.length + as.length) (ei8 0 0 _ _ [] [] _ _ ⟨rfl, .start, e0, O⟩) ?_)
  clear O
  intro n s' jz1
  refine hide fun Gz2 hGz2 => ?_
  refine ex8 jz1 fun i j ti tj ms us ev av jx => ?_
  refine an4 jx fun jr0 ok e O => ?_
  clear jx jz1
  subst jr0
  refine hGz2 ?_
  refine wpAny_isTrue_value (wpAny_Constant_bool (truth_bool ?_))
  rw [if_pos rfl]
  refine r_seq rfl (wpAny_Try_except (wpAny_mono (Q := TE h₀ s es as le la lm lu L Φ ((es.length - i) + (as.length - j))) (E := RE h₀ s es as le la lm lu L Φ) ?_ ?_ ?_))
  · -- the body
    have okhi := ok.hi
    have okhj := ok.hj
    refine hide fun Gz3 hGz3 => ?_
    refine ex2 (id ok.eq) fun mS uS jx => ?_
    refine an5 jx fun hms hus hml hul _ => ?_
    clear jx
    refine hGz3 ?_
    have lms : ms.length = mS.length := hms.length
    have lus : us.length = uS.length := hus.length
    have raise0 : ∀ {ev' av' : Option Value} {s₂ : Shared} {ee : Addr} {c : Value}, (i = es.length ∨ j = as.length) → Sm s s₂ → Own h₀ s₂.heap ((ee, exP .none c) :: (L, locP sdNm [some (.ref le), some (.ref la), some (.int (i : Int) ti), some (.int (j : Int) tj), some (.ref lm), some (.ref lu), ev', av']) :: (lm, lstP ms) :: (lu, lstP us) :: Φ) → RE h₀ s es as le la lm lu L Φ (.ref ee) s₂ := fun h1 h2 h3 =>
      (ei10 _ _ i j _ _ ms us _ _ ⟨rfl, h1, ok, h2, .inl h3⟩)
    -- e = expected[i]
    refine r_seq rfl (wpAny_Assign_Name (Subscript_ (r_ld V O (by ktr_rel) (by ktr_rel) (r_ld V O (by ktr_rel) (by ktr_rel) ?_))))
    rcases Nat.lt_or_ge i es.length with hi | hi
    case inr =>
      exact tail_any (Heap.IsList.typeIs (lstP.is ((hin he).get O))) list_getitem_lookup (r_out (.inl hh) O (hin he) (by lia) (by lia) fun ee c s₂ hc e₂ O₂ => raise0 (.inl (by lia)) (by ktr_rel) O₂) (by with_unfolding_all rfl)
    refine item_strsA (lstP.is ((hin he).get O)) hvs (by lia) (by lia) (by lia) fun te => ?_
    rw [Int.toNat_natCast, List.getD_eq_getElem?_getD, List.getElem?_eq_getElem hi, Option.getD_some]
    refine r_st V O (by ktr_rel) (by ktr_rel) (by ktr_rel) ?_
    clear O; intro s₂ e₂ O
    -- a = actual[j]
    refine r_seq rfl (wpAny_Assign_Name (Subscript_ (r_ld V O (by ktr_rel) (by ktr_rel) (r_ld V O (by ktr_rel) (by ktr_rel) ?_))))
    rcases Nat.lt_or_ge j as.length with hj | hj
    case inr =>
      exact tail_any (Heap.IsList.typeIs (lstP.is ((hin ha).get O))) list_getitem_lookup (r_out (.inl hh) O (hin ha) (by lia) (by lia) fun ee c s₂ hc e₂ O₂ => raise0 (.inr (by lia)) (by ktr_rel) O₂) (by with_unfolding_all rfl)
    refine item_strsA (lstP.is ((hin ha).get O)) hws (by lia) (by lia) (by lia) fun ta => ?_
    rw [Int.toNat_natCast, List.getD_eq_getElem?_getD, List.getElem?_eq_getElem hj, Option.getD_some]
    refine r_st V O (by ktr_rel) (by ktr_rel) (by ktr_rel) ?_
    clear O; intro s₃ e₃ O
    have hFZ : ∀ {ms us : List Value}, FR fr ((lm, lstP ms) :: (lu, lstP us) :: Φ) := hF.mono fun p hp => List.mem_cons_of_mem _ (List.mem_cons_of_mem _ hp)
    -- if e < a
    refine r_seq rfl (wpAny_If (wpAny_isTrue_Compare1 (r_ld V O (by ktr_rel) (by ktr_rel) (r_ld V O (by ktr_rel) (by ktr_rel) (PyProof.Rows.lt_str (truth_bool ?_))))))
    by_cases hlt : ltStr es[i] as[j] = true
    · rw [if_pos (show (decide (es[i].cps.toList < as[j].cps.toList)) = true from hlt)]
      refine r_seq rfl (r_append V (r_ld V O (by ktr_rel) (by ktr_rel) (ei2 lm ms ⟨rfl, O.get (by ktr_rel), r_ld V O (by ktr_rel) (by ktr_rel) (ei4 _ _ _ ms ⟨O, by ktr_rel, by lia, by ktr_rel, ?_⟩)⟩)))
      clear O; intro s₄ e₄ O
      refine r_seq rfl (wpAny_AugAssign_Name (r_ldn V O (by ktr_rel) (by ktr_rel) (wpAny_Constant_int (PyProof.Rows.iadd_int ?_))))
      refine r_st V (Own.kp O Kp.rfl) (by ktr_rel) (v := .int ((i + 1 : Nat) : Int) _) (by ktr_rel) (by ktr_rel) ?_
      clear O; intro s₅ e₅ O
      refine r_seq rfl (skipW (W := fun v => [some (.ref le), some (.ref la), some v, some (.int (j : Int) tj), some (.ref lm), some (.ref lu), some (.str es[i] te), some (.str as[j] ta)]) V hfr1 hf hFZ (.inl hh) (hin2 he) hvs (by lia) (by lia) (fun _ => by ktr_rel) (fun _ => by ktr_rel) (fun _ => by ktr_rel) (fun _ _ => by ktr_rel) O ?_ ?_)
      · intro i' t' s₆ hi' hii hd e₆ O₆
        exact r_nil (r_nil ⟨rfl, ei8 i' j _ _ _ _ _ _ ⟨by lia, ok.lt (hi := hi) (hj := hj) hlt (by lia) (by lia) hd, by ktr_rel, O₆⟩⟩)
      · intro t' ee c s₆ hd e₆ F₆ hc
        exact ei10 ee c es.length j _ _ _ _ _ _ ⟨rfl, .inl rfl, ok.lt (hi := hi) (hj := hj) hlt (Nat.le_refl _) (by lia) (by rw [hd]; simp), by ktr_rel, .inr F₆⟩
    rw [if_neg (show ¬ (decide (es[i].cps.toList < as[j].cps.toList)) = true from hlt)]
    -- elif e > a
    refine r_seq rfl (wpAny_If (wpAny_isTrue_Compare1 (r_ld V O (by ktr_rel) (by ktr_rel) (r_ld V O (by ktr_rel) (by ktr_rel) (PySem.P.gt_str (truth_bool ?_))))))
    by_cases hgt : ltStr as[j] es[i] = true
    · rw [if_pos (show (decide (as[j].cps.toList < es[i].cps.toList)) = true from hgt)]
      refine r_seq rfl (r_append V (r_ld V O (by ktr_rel) (by ktr_rel) (ei2 lu us ⟨rfl, O.get (by ktr_rel), r_ld V O (by ktr_rel) (by ktr_rel) (ei4 _ _ _ us ⟨O, by ktr_rel, by lia, by ktr_rel, ?_⟩)⟩)))
      clear O; intro s₄ e₄ O
      refine r_seq rfl (wpAny_AugAssign_Name (r_ldn V O (by ktr_rel) (by ktr_rel) (wpAny_Constant_int (PyProof.Rows.iadd_int ?_))))
      refine r_st V (Own.kp O Kp.rfl) (by ktr_rel) (v := .int ((j + 1 : Nat) : Int) _) (by ktr_rel) (by ktr_rel) ?_
      clear O; intro s₅ e₅ O
      refine r_seq rfl (skipW (W := fun v => [some (.ref le), some (.ref la), some (.int (i : Int) ti), some v, some (.ref lm), some (.ref lu), some (.str es[i] te), some (.str as[j] ta)]) V hfr1 hf hFZ (.inl hh) (hin2 ha) hws (by lia) (by lia) (fun _ => by ktr_rel) (fun _ => by ktr_rel) (fun _ => by ktr_rel) (fun _ _ => by ktr_rel) O ?_ ?_)
      · intro j' t' s₆ hj' hjj hd e₆ O₆
        exact r_nil (r_nil (r_nil ⟨rfl, ei8 i j' _ _ _ _ _ _ ⟨by lia, ok.gt (hi := hi) (hj := hj) hlt hgt (by lia) (by lia) hd, by ktr_rel, O₆⟩⟩))
      · intro t' ee c s₆ hd e₆ F₆ hc
        exact ei10 ee c i as.length _ _ _ _ _ _ ⟨rfl, .inr rfl, ok.gt (hi := hi) (hj := hj) hlt hgt (Nat.le_refl _) (by lia) (by rw [hd]; simp), by ktr_rel, .inr F₆⟩
    rw [if_neg (show ¬ (decide (as[j].cps.toList < es[i].cps.toList)) = true from hgt)]
    -- else
    refine r_seq rfl (wpAny_AugAssign_Name (r_ldn V O (by ktr_rel) (by ktr_rel) (wpAny_Constant_int (PyProof.Rows.iadd_int ?_))))
    refine r_st V (Own.kp O Kp.rfl) (by ktr_rel) (v := .int ((i + 1 : Nat) : Int) _) (by ktr_rel) (by ktr_rel) ?_
    clear O; intro s₄ e₄ O
    refine r_seq rfl (wpAny_Try_finally ?_)
    refine r_seq rfl (skipW (W := fun v => [some (.ref le), some (.ref la), some v, some (.int (j : Int) tj), some (.ref lm), some (.ref lu), some (.str es[i] te), some (.str as[j] ta)]) V hfr1 hf hFZ (.inl hh) (hin2 he) hvs (by lia) (by lia) (fun _ => by ktr_rel) (fun _ => by ktr_rel) (fun _ => by ktr_rel) (fun _ _ => by ktr_rel) O ?_ ?_)
    · clear O
      intro i' t' s₅ hi' hii hdi e₅ O
      refine r_nil (r_nil ?_)
      refine r_seq rfl (wpAny_AugAssign_Name (r_ldn V O (by ktr_rel) (by ktr_rel) (wpAny_Constant_int (PyProof.Rows.iadd_int ?_))))
      refine r_st V (Own.kp O Kp.rfl) (by ktr_rel) (v := .int ((j + 1 : Nat) : Int) _) (by ktr_rel) (by ktr_rel) ?_
      clear O; intro s₆ e₆ O
      refine r_seq rfl (skipW (W := fun v => [some (.ref le), some (.ref la), some (.int (i' : Int) t'), some v, some (.ref lm), some (.ref lu), some (.str es[i] te), some (.str as[j] ta)]) V hfr1 hf hFZ (.inl hh) (hin2 ha) hws (by lia) (by lia) (fun _ => by ktr_rel) (fun _ => by ktr_rel) (fun _ => by ktr_rel) (fun _ _ => by ktr_rel) O ?_ ?_)
      · intro j' t'' s₇ hj' hjj hd e₇ O₇
        exact r_nil (r_nil (r_nil (r_nil ⟨rfl, ei8 i' j' _ _ _ _ _ _ ⟨by lia, ok.same (hi := hi) (hj := hj) hlt hgt (by lia) (by lia) hdi (by lia) (by lia) hd, by ktr_rel, O₇⟩⟩)))
      · intro t'' ee c s₇ hd e₇ F₇ hc
        have hFR : FR (env :: fr) ((L, locP sdNm [some (.ref le), some (.ref la), some (.int (i' : Int) t'), some (.int (as.length : Int) t''), some (.ref lm), some (.ref lu), some (.str es[i] te), some (.str as[j] ta)]) :: (lm, lstP ms) :: (lu, lstP us) :: Φ) := hFZ.cons V hf
        refine r_note hfr1 hFR hf F₇ fun s₈ e₈ F₈ => r_cameBack F₈ fun s₉ e₉ F₉ => ?_
        exact ei10 ee c i' as.length _ _ _ _ _ _ ⟨rfl, .inr rfl, ok.same (hi := hi) (hj := hj) hlt hgt (by lia) (by lia) hdi (Nat.le_refl _) (by lia) (by rw [hd]; simp), by ktr_rel, .inr F₉⟩
    · clear O
      intro t' e1 c1 s₅ hdi e₅ F₅ hc1
      obtain rfl := hc1 hh
      have hFR : FR (env :: fr) ((L, locP sdNm [some (.ref le), some (.ref la), some (.int (es.length : Int) t'), some (.int (j : Int) tj), some (.ref lm), some (.ref lu), some (.str es[i] te), some (.str as[j] ta)]) :: (lm, lstP ms) :: (lu, lstP us) :: Φ) := hFZ.cons V hf
      refine r_note hfr1 hFR hf F₅ fun s₆ e₆ F₆ => ⟨(by intro q; cases q), ?_⟩
      refine r_note hfr1 hFR hf F₆ fun s₇ e₇ F₇ => r_flight F₇ fun s₈' e₈ F₈ => ?_
      obtain ⟨T, OT⟩ := F₈
      have O : Own h₀ s₈'.heap ((L, locP sdNm [some (.ref le), some (.ref la), some (.int (es.length : Int) t'), some (.int (j : Int) tj), some (.ref lm), some (.ref lu), some (.str es[i] te), some (.str as[j] ta)]) :: (e1, exP (.ref T) .none) :: (T, tbP) :: (lm, lstP ms) :: (lu, lstP us) :: Φ) := OT.pick (by ktr_rel)
      refine r_seq rfl (wpAny_AugAssign_Name (r_ldn V O (by ktr_rel) (by ktr_rel) (wpAny_Constant_int (PyProof.Rows.iadd_int ?_))))
      refine r_st V (Own.kp O Kp.rfl) (by ktr_rel) (v := .int ((j + 1 : Nat) : Int) _) (by ktr_rel) (by ktr_rel) ?_
      clear O; intro s₉ e₉ O
      have hFZ2 : FR fr ((e1, exP (.ref T) .none) :: (T, tbP) :: (lm, lstP ms) :: (lu, lstP us) :: Φ) := hFZ.mono fun p hp => List.mem_cons_of_mem _ (List.mem_cons_of_mem _ hp)
      refine r_seq rfl (skipW (A := (A.deeper env).mark (some (.ref e1))) (W := fun v => [some (.ref le), some (.ref la), some (.int (es.length : Int) t'), some v, some (.ref lm), some (.ref lu), some (.str es[i] te), some (.str as[j] ta)]) V hfr1 hf hFZ2 (.inr ⟨e1, .ref T, rfl, List.mem_cons_self⟩) ((hin2 ha).mono fun p hp => List.mem_cons_of_mem _ (List.mem_cons_of_mem _ hp)) hws (by lia) (by lia) (fun _ => by ktr_rel) (fun _ => by ktr_rel) (fun _ => by ktr_rel) (fun _ _ => by ktr_rel) O ?_ ?_)
      · intro j' t'' s₁₀ hj' hjj hd e₁₀ O₁₀
        refine r_nil ?_
        refine r_passOn (Φ := (L, locP sdNm [some (.ref le), some (.ref la), some (.int (es.length : Int) t'), some (.int (j' : Int) t''), some (.ref lm), some (.ref lu), some (.str es[i] te), some (.str as[j] ta)]) :: (lm, lstP ms) :: (lu, lstP us) :: Φ) ⟨T, O₁₀.pick (by ktr_rel)⟩ fun s₁₁ e₁₁ F₁₁ => ?_
        exact ei10 e1 .none es.length j' _ _ _ _ _ _ ⟨rfl, .inl rfl, ok.same (hi := hi) (hj := hj) hlt hgt (Nat.le_refl _) (by lia) (by rw [hdi]; simp) (by lia) (by lia) hd, by ktr_rel, .inr F₁₁⟩
      · intro t'' ee c s₁₀ hd e₁₀ F₁₀ hc
        obtain ⟨T2, O2⟩ := F₁₀
        have F₁₀ : Fly h₀ ee c ((L, locP sdNm [some (.ref le), some (.ref la), some (.int (es.length : Int) t'), some (.int (as.length : Int) t''), some (.ref lm), some (.ref lu), some (.str es[i] te), some (.str as[j] ta)]) :: (lm, lstP ms) :: (lu, lstP us) :: Φ) s₁₀.heap := ⟨T2, O2.pick (by ktr_rel)⟩
        have hFR : FR (env :: fr) ((L, locP sdNm [some (.ref le), some (.ref la), some (.int (es.length : Int) t'), some (.int (as.length : Int) t''), some (.ref lm), some (.ref lu), some (.str es[i] te), some (.str as[j] ta)]) :: (lm, lstP ms) :: (lu, lstP us) :: Φ) := hFZ.cons V hf
        refine r_note (A := (A.deeper env).mark (some (.ref e1))) hfr1 hFR hf F₁₀ fun s₁₁ e₁₁ F₁₁ => r_cameBack F₁₁ fun s₁₂ e₁₂ F₁₂ => ?_
        exact ei10 ee c es.length as.length _ _ _ _ _ _ ⟨rfl, .inl rfl, ok.same (hi := hi) (hj := hj) hlt hgt (Nat.le_refl _) (by lia) (by rw [hdi]; simp) (Nat.le_refl _) (by lia) (by rw [hd]; simp), by ktr_rel, .inr F₁₂⟩
  · intro f s₂ jz4
    refine hide fun Gz5 hGz5 => ?_
    obtain ⟨rfl, jy⟩ := jz4
    refine ex8 jy fun i' j' ti' tj' ms' us' ev' av' jx => an4 jx fun hlt ok' e' O' => ?_
    clear jx jy
    refine hGz5 ?_
    exact r_nil (r_nil ⟨_, hlt, ei8 i' j' ti' tj' ms' us' ev' av' ⟨rfl, ok', e', O'⟩⟩)
  · intro x s₂ jz6
    refine hide fun Gz7 hGz7 => ?_
    refine ex10 jz6 fun ee c i' j' ti' tj' ms' us' ev' av' jx => ?_
    refine an5 jx fun jr0 hend ok' e' hO => ?_
    clear jx jz6
    subst jr0
    refine hGz7 ?_
    clear O
    have hFR : FR (env :: fr) ((L, locP sdNm [some (.ref le), some (.ref la), some (.int (i' : Int) ti'), some (.int (j' : Int) tj'), some (.ref lm), some (.ref lu), ev', av']) :: (lm, lstP ms') :: (lu, lstP us') :: Φ) := (hF.mono fun p hp => List.mem_cons_of_mem _ (List.mem_cons_of_mem _ hp)).cons V hf
    have first : ∀ (Q' : Unit → Shared → Prop) (E' : Value → Shared → Prop), (∀ s₃, Sm s₂ s₃ → Fly h₀ ee c ((L, locP sdNm [some (.ref le), some (.ref la), some (.int (i' : Int) ti'), some (.int (j' : Int) tj'), some (.ref lm), some (.ref lu), ev', av']) :: (lm, lstP ms') :: (lu, lstP us') :: Φ) s₃.heap → Q' () s₃) → wpAny (model PR w) (A.deeper env) (noteFrame (.ref ee) env) Q' E' s₂ := fun Q' E' hq => by
      rcases hO with hO | hO
      · exact r_note_new hfr1 hFR hf hO hq
      · exact r_note hfr1 hFR hf hO hq
    refine first _ _ fun s₃ e₃ F₃ => r_flight F₃ fun s₄ e₄ F₄ => ?_
    refine wpAny_handleBy_builtin (X := "IndexError") (T := "IndexError") (b := true) ie_exc ie_tup ie_self (r_boot V (B.keeps F₄.own.keep) (by ktr_rel) (by ktr_rel) ⟨rfl, F₄.there, ?_⟩)
    rw [if_pos rfl]
    refine r_flight F₄ fun s₅ e₅ F₅ => ?_
    have O := F₅.own
    have hi' := ok'.hi
    have hj' := ok'.hj
    refine hide fun Gz8 hGz8 => ?_
    refine ex2 ok'.eq fun mS uS jx => ?_
    refine an5 jx fun hms hus hml hul _ => ?_
    clear jx
    refine hGz8 ?_
    have lms : ms'.length = mS.length := hms.length
    have lus : us'.length = uS.length := hus.length
    -- missing.extend(expected[i:])
    refine r_seq rfl (r_expr V (r_meth PySem.F.plainAttrs_list PySem.F.slot_list_extend PySem.F.type_list_extend (r_ld V O (by ktr_rel) (by ktr_rel) ⟨O.lstHere (by ktr_rel), r_arg (Subscript_ (r_ld V O (by ktr_rel) (by ktr_rel) (wpAny_Slice (r_part (r_ld V O (by ktr_rel) (by ktr_rel) (r_part_none (r_part_none ?_)))))))⟩)))
    refine r_lslice O (hin he) (.int _ _) .none (by lia) ?_
    clear O; intro x1 s₆ e₆ O
    have hx1 := slice_strs_from hvs (x := (i' : Int)) (by lia) (by lia)
    rw [Int.toNat_natCast] at hx1
    have lx1 := hx1.length
    rw [List.length_drop] at lx1
    refine r_args (r_extend O (by ktr_rel) (.cell (by ktr_rel)) (by lia) (by ktr_rel) ?_)
    clear O; intro s₇ e₇ O
    -- unexpected.extend(actual[j:])
    refine r_seq rfl (r_expr V (r_meth PySem.F.plainAttrs_list PySem.F.slot_list_extend PySem.F.type_list_extend (r_ld V O (by ktr_rel) (by ktr_rel) ⟨O.lstHere (by ktr_rel), r_arg (Subscript_ (r_ld V O (by ktr_rel) (by ktr_rel) (wpAny_Slice (r_part (r_ld V O (by ktr_rel) (by ktr_rel) (r_part_none (r_part_none ?_)))))))⟩)))
    refine r_lslice O ((hin ha).mono fun p hp => List.mem_cons_of_mem _ hp) (.int _ _) .none (by lia) ?_
    clear O; intro x2 s₈' e₈ O
    have hx2 := slice_strs_from hws (x := (j' : Int)) (by lia) (by lia)
    rw [Int.toNat_natCast] at hx2
    have lx2 := hx2.length
    rw [List.length_drop] at lx2
    refine r_args (r_extend O (by ktr_rel) (.cell (by ktr_rel)) (by lia) (by ktr_rel) ?_)
    clear O; intro s₉ e₉ O
    refine r_seq rfl (wpAny_Break ?_)
    -- return (missing, unexpected)
    have hl2 := ok'.fin hend hx1 hx2
    refine r_seq rfl (wpAny_Return_some (Tuple_ (r_arg (r_ld V O (by ktr_rel) (by ktr_rel) (r_arg (r_ld V O (by ktr_rel) (by ktr_rel) (r_args ?_)))))))
    refine r_newTup O (fun T s₁₀ e₁₀ _ _ O => ?_)
    exact h T lm lu _ _ s₁₀ (by ktr_rel) hl2.1 hl2.2 (O.pick (by ktr_rel))
end
end
section
section
open PySem.SeqAt
variable {w : World} {A : Around} {E : Value → Shared → Prop} {s : Shared} {h₀ : Heap} {Φ Φ' Z : List Cell} {env : Env} {L : Addr} {nm gl : List Str} {cl : List (Str × Addr)}
theorem own_ne {h : Heap} {x y : Addr} {P R : Obj → Prop} {X : List Cell} (O : Own h₀ h ((x, P) :: X)) (hy : (y, R) ∈ X) : y ≠ x := fun e => by
  have nd := O.nd
  rw [List.map_cons, List.nodup_cons] at nd
  exact nd.1 (List.mem_map.mpr ⟨_, hy, e⟩)
theorem FR.of {l : List Env} {vs : List (Option Value)} (V : EnvOK env L nm cl gl) (hf : env.frame = some L) (F : FR l Φ) (hL : (L, locP nm vs) ∈ Φ') (hs : ∀ p ∈ Φ, p ∈ Φ') : FR (env :: l) Φ' := by
  intro e he
  rcases List.mem_cons.mp he with rfl | he
  · exact ⟨by rw [V.kind]; decide, L, nm, vs, hf, hL⟩
  · exact (F.mono hs) e he
theorem lne_two {l b : Addr} {x y x' y' : Value} {e1 e2 : Bool} (hl : ∃ o, s.heap.get? l = some o ∧ lstP [x, y] o) (hb : ∃ o, s.heap.get? b = some o ∧ lstP [x', y'] o) (h1 : EqAt A.in1 s x x' e1) (h2 : EqAt A.in1 s y y' e2) (hu : A.units < cLine) : RcNeAt A s (.ref l) (.ref b) (!(e1 && e2)) := by
  have := RcNeAt.lists (A := A) (lstP.is hl) (lstP.is hb) rfl hu (e := fun j => if j = 0 then e1 else e2) (fun j a b => by
    match j, a with
    | 0, _ => exact h1
    | 1, _ => exact h2
    | j + 2, a => exact absurd (show j + 2 < 2 from a) (by lia))
  have e : ((List.range ([x, y].toArray.size)).all fun j => if j = 0 then e1 else e2) = (e1 && e2) := by
    show ((List.range 2).all _) = _
    simp [List.range_succ]
  rw [e] at this
  exact this
theorem tne_two {l b : Addr} {x y x' y' : Value} {e1 e2 : Bool} (hl : ∃ o, s.heap.get? l = some o ∧ tupP [x, y] o) (hb : ∃ o, s.heap.get? b = some o ∧ tupP [x', y'] o) (h1 : EqAt A.in1 s x x' e1) (h2 : EqAt A.in1 s y y' e2) (hu : A.units < cLine) : RcNeAt A s (.ref l) (.ref b) (!(e1 && e2)) := by
  have := RcNeAt.tuples (A := A) (tupP.is hl) (tupP.is hb) hu (e := fun j => if j = 0 then e1 else e2) (fun j a b => by
    match j, a with
    | 0, _ => exact h1
    | 1, _ => exact h2
    | j + 2, a => exact absurd (show j + 2 < 2 from a) (by lia))
  have e : ((List.range (min [x, y].toArray.size [x', y'].toArray.size)).all (fun j => if j = 0 then e1 else e2) && [x, y].toArray.size == [x', y'].toArray.size) = (e1 && e2) := by
    show (((List.range 2).all _) && true) = _
    simp [List.range_succ]
  rw [e] at this
  exact this
noncomputable abbrev dfNm : List Str := ["some", "others", "first", "second", "told"]
set_option maxHeartbeats 4000000 in
theorem law_differ_spec {la lb : Addr} {vs ws : List Value} {ss ts : List Str} {fr : List Env} {Q : Value → Shared → Prop} (B : Base w h₀) (R : Rm A 6) (hfr : A.frames = some fr) (hF : FR fr Φ) (O : Own h₀ s.heap Φ)
    (ha : Has h₀ Φ la (lstP vs)) (hb : Has h₀ Φ lb (lstP ws)) (hvs : StrsAre vs ss) (hws : StrsAre ws ts) (hz : ss.length < 60) (hz2 : ts.length < 60) (hC : ∀ s1 t1 : List Str, s1.Perm ss → t1.Perm ts → SC0 s1 t1)
    (h : ∀ T lm lu ms us mS uS s', Sm s s' → StrsAre ms mS → StrsAre us uS → (∀ x, x ∈ mS ↔ x ∈ ss ∧ x ∉ ts) → (∀ x, x ∈ uS ↔ x ∈ ts ∧ x ∉ ss) → mS.Nodup → uS.Nodup →
      Own h₀ s'.heap ((T, tupP [.ref lm, .ref lu]) :: (lm, lstP ms) :: (lu, lstP us) :: Φ) → Q (.ref T) s') :
    wpAny (model PR w) A (call (.ref 243) [.ref la, .ref lb]) Q E s := by
  refine enterF (fn_differ w) (B.keeps O.keep) (R.le (by decide)) [("some", .ref la), ("others", .ref lb)] ["first", "second", "told"] [some (.ref la), some (.ref lb), none, none, none] (by kernel_rfl) rfl rfl ?_
  intro L env s₁ e₁ V O1 hf
  have R1 : Rm (A.deeper env) 5 := R.deeper
  have hh := R1.hd
  have hfr1 : (A.deeper env).frames = some (env :: fr) := Around.frames_deeper hfr
  have lvs := hvs.length
  have lws := hws.length
  replace O : Own h₀ s₁.heap ((L, locP dfNm [some (.ref la), some (.ref lb), none, none, none]) :: Φ) := O.new O1.keep O1.toNew
  clear O1
  -- first, second = (sorted(some), sorted(others))
  refine r_seq rfl (r_swap2 V (by ktr_rel) (by ktr_rel) (R1.le (by decide)) (Tuple_ (r_arg (r_call (r_boot V (B.keeps O.keep) (by ktr_rel) (by ktr_rel) (r_bi (r_arg (r_ld V O (by ktr_rel) (by ktr_rel) (r_args ?_)))))))))
  refine r_sorted O (ha.mono fun p hp => List.mem_cons_of_mem _ hp) hvs (by lia) ?_
  clear O; intro a1 v1 s1 s₂ e₂ hv1 hp1 hs1 O
  refine r_arg (r_call (r_boot V (B.keeps O.keep) (by ktr_rel) (by ktr_rel) (r_bi (r_arg (r_ld V O (by ktr_rel) (by ktr_rel) (r_args ?_))))))
  refine r_sorted O (hb.mono fun p hp => List.mem_cons_of_mem _ (List.mem_cons_of_mem _ hp)) hws (by lia) ?_
  clear O; intro b1 w1 t1 s₃ e₃ hw1 hq1 ht1 O
  refine r_args (r_newTup O (fun tp s₄ e₄ _ _ O => (ei5 tp _ _ _ _ ⟨rfl, O, by ktr_rel, fun s₅ e₅ O => ?_⟩)))
  refine r_st V O (by ktr_rel) (by ktr_rel) (by ktr_rel) ?_
  clear O; intro s₆ e₆ O
  refine r_st V O (by ktr_rel) (by ktr_rel) (by ktr_rel) ?_
  clear O; intro s₇ e₇ O
  -- told = sorted_list_difference(first, second)
  refine r_seq rfl (wpAny_Assign_Name (r_call (r_glob V (B.keeps O.keep) (by ktr_rel) (by ktr_rel) (r_fn (fn_sld w).FA (B.keeps O.keep) (r_arg (r_ld V O (by ktr_rel) (by ktr_rel) (r_arg (r_ld V O (by ktr_rel) (by ktr_rel) (r_args ⟨B.keeps O.keep, ?_⟩)))))))))
  have l1 := hp1.length_eq
  have l2 := hq1.length_eq
  refine sld_spec B (R1.le (by decide)) hfr1 (FR.of V hf hF (by ktr_rel) fun p hp => by simp [hp]) O (.cell (by ktr_rel)) (.cell (by ktr_rel)) hv1 hw1 (by lia) (by lia) ?_
  clear O; intro T lm lu ms us s₈ e₈ hms hus O
  refine r_st V O (by ktr_rel) (by ktr_rel) (by ktr_rel) ?_
  clear O; intro s₉ e₉ O
  have eA : Sm s s₉ := by ktr_rel
  clear e₁ e₂ e₃ e₄ e₅ e₆ e₇ e₈ e₉
  -- if [first, second] != [sorted(some), sorted(others)]
  refine r_seq rfl (wpAny_If (wpAny_isTrue_BoolOp (wpAny_allTrue_Or_cons (wpAny_isTrue_Compare1 (List_ (r_arg (r_ld V O (by ktr_rel) (by ktr_rel) (r_arg (r_ld V O (by ktr_rel) (by ktr_rel) (r_args ?_))))))))))
  refine r_newLst O ?_
  clear O; intro p1 s₂ e₂ _ _ O
  refine List_ (r_arg (r_call (r_boot V (B.keeps O.keep) (by ktr_rel) (by ktr_rel) (r_bi (r_arg (r_ld V O (by ktr_rel) (by ktr_rel) (r_args ?_)))))))
  refine r_sorted O (ha.mono fun p hp => by simp [hp]) hvs (by lia) ?_
  clear O; intro a2 v2 s2 s₃ e₃ hv2 hp2 hs2 O
  refine r_arg (r_call (r_boot V (B.keeps O.keep) (by ktr_rel) (by ktr_rel) (r_bi (r_arg (r_ld V O (by ktr_rel) (by ktr_rel) (r_args ?_))))))
  refine r_sorted O (hb.mono fun p hp => by simp [hp]) hws (by lia) ?_
  clear O; intro b2 w2 t2 s₄ e₄ hw2 hq2 ht2 O
  refine r_args (r_newLst O ?_)
  clear O; intro p2 s₅ e₅ _ _ O
  have E1 : s1 = s2 := sorted_one hs1 hs2 (hp1.trans hp2.symm)
  have E2 : t1 = t2 := sorted_one ht1 ht2 (hq1.trans hq2.symm)
  refine r_rcne (lne_two (O.get (by ktr_rel)) (O.get (by ktr_rel)) (EqAt.of_refs (own_ne (O.drop.drop) (R := lstP v1) (by ktr_rel)) (leq_strs (O.get (by ktr_rel)) (O.get (by ktr_rel)) hv1 hv2 R1.in1.cline)) (EqAt.of_refs (own_ne (O.drop) (R := lstP w1) (by ktr_rel)) (leq_strs (O.get (by ktr_rel)) (O.get (by ktr_rel)) hw1 hw2 R1.in1.cline)) R1.cline) (truth_bool ?_)
  rw [decide_eq_true E1, decide_eq_true E2, if_neg (show ¬ (!(true && true)) = true by decide)]
  -- or told != (_law_only(some, others), _law_only(others, some))
  refine wpAny_allTrue_Or_cons (wpAny_isTrue_Compare1 (r_ld V O (by ktr_rel) (by ktr_rel) ?_))
  refine Tuple_ (r_arg (r_call (r_glob V (B.keeps O.keep) (by ktr_rel) (by ktr_rel) (r_fn (fn_only w).FA (B.keeps O.keep) (r_arg (r_ld V O (by ktr_rel) (by ktr_rel) (r_arg (r_ld V O (by ktr_rel) (by ktr_rel) (r_args ⟨B.keeps O.keep, ?_⟩)))))))))
  refine law_only_spec (B.keeps O.keep) (R1.le (by decide)) ((ha.mono fun p hp => by simp [hp]).get O) ((hb.mono fun p hp => by simp [hp]).get O) hvs hws (by lia) fun xA vA sA s₆ e₆ k₆ hvA hpA hsA N₆ => ?_
  replace O := O.new k₆ N₆
  dsimp only [List.cons_append, List.nil_append] at O
  refine r_arg (r_call (r_glob V (B.keeps O.keep) (by ktr_rel) (by ktr_rel) (r_fn (fn_only w).FA (B.keeps O.keep) (r_arg (r_ld V O (by ktr_rel) (by ktr_rel) (r_arg (r_ld V O (by ktr_rel) (by ktr_rel) (r_args ⟨B.keeps O.keep, ?_⟩))))))))
  refine law_only_spec (B.keeps O.keep) (R1.le (by decide)) ((hb.mono fun p hp => by simp [hp]).get O) ((ha.mono fun p hp => by simp [hp]).get O) hws hvs (by lia) fun xB vB sB s₇ e₇ k₇ hvB hpB hsB N₇ => ?_
  replace O := O.new k₇ N₇
  dsimp only [List.cons_append, List.nil_append] at O
  refine r_args (r_newTup O ?_)
  clear O; intro tp2 s₈ e₈ _ _ O
  have hsl := sld_only hp1 hs1 hq1 ht1 hpA hsA hpB hsB (hC s1 t1 hp1 hq1)
  rw [hsl] at hms hus
  refine r_rcne (tne_two (O.get (by ktr_rel)) (O.get (by ktr_rel)) (EqAt.of_refs (own_ne (O.drop.drop) (R := lstP ms) (by ktr_rel)) (leq_strs (O.get (by ktr_rel)) (O.get (by ktr_rel)) hms hvA R1.in1.cline)) (EqAt.of_refs (own_ne (O.drop) (R := lstP us) (by ktr_rel)) (leq_strs (O.get (by ktr_rel)) (O.get (by ktr_rel)) hus hvB R1.in1.cline)) R1.cline) (truth_bool ?_)
  rw [decide_eq_true rfl, decide_eq_true rfl, if_neg (show ¬ (!(true && true)) = true by decide)]
  refine wpAny_allTrue_Or_nil (r_nil ?_)
  refine r_seq rfl (wpAny_Return_some (r_ld V O (by ktr_rel) (by ktr_rel) ?_))
  obtain ⟨m1, n1⟩ := onlyN_mem ss ts ss.length (Nat.le_refl _)
  obtain ⟨m2, n2⟩ := onlyN_mem ts ss ts.length (Nat.le_refl _)
  refine h T lm lu ms us sA sB s₈ (by ktr_rel) hms hus (fun x => ?_) (fun x => ?_) (hpA.nodup_iff.mpr n1) (hpB.nodup_iff.mpr n2) (O.pick (by ktr_rel))
  · rw [hpA.mem_iff, m1, List.take_length]
  · rw [hpB.mem_iff, m2, List.take_length]
end
end
section
section
variable {w : World} {A : Around} {E : Value → Shared → Prop} {s : Shared} {h₀ : Heap} {Φ Φ' Z : List Cell} {env : Env} {L : Addr} {nm gl : List Str} {cl : List (Str × Addr)}
theorem new_fresh {h h' : Heap} {P : Obj → Prop} {o : Obj} (O : Own h₀ h Φ) (k : Kp h h') (hg : h'.get? h.objs.size = some o) (hP : P o) : Own h₀ h' ((h.objs.size, P) :: Φ) :=
  O.new (Ψ := [(h.objs.size, P)]) k (New.one (get_none_size h) ⟨o, hg, hP⟩)
theorem strs_keys : ∀ {kvs : List (Str × Value)} {l : List Value}, l.length = kvs.length → (∀ (j : Nat) v, l[j]? = some v → ∃ k x t, kvs[j]? = some (k, x) ∧ v = .str k t) → StrsAre l (kvs.map (·.1))
  | [], [], _, _ => .nil
  | [], v :: l, hl, _ => by simp at hl
  | kv :: kvs, [], hl, _ => by simp at hl
  | kv :: kvs, v :: l, hl, hi => by
    obtain ⟨k, x, t, h1, rfl⟩ := hi 0 v rfl
    simp at h1
    subst h1
    exact .cons k t (strs_keys (by simpa using hl) fun j v hj => hi (j + 1) v hj)
/-- list(d) of a dict with text keys -/
theorem r_listOf {d : Addr} {kvs : List (Str × Value)} {Q : Value → Shared → Prop} (hh : A.handled = none) (O : Own h₀ s.heap Φ) (hd : NS d) (hm : Has h₀ Φ d (dctP w kvs)) (hn : kvs.length ≤ 100000)
    (h : ∀ a vs s', StrsAre vs (kvs.map (·.1)) → Sm s s' → Own h₀ s'.heap ((a, lstP vs) :: Φ) → Q (.ref a) s') : wpAny (model PR w) A (call (.type "list") [.ref d]) Q E s := by
  obtain ⟨ep, hep⟩ := has_ep (hm.get O)
  have hat := dctEP.of hep
  refine kdl_call (kdl_dict (knd := strKind PR w) (kvs := kvs) (ep := ep) hd) hh hat (by rw [sizeLine_eq]; lia) fun h' tk acc' c' hk hg hacc => ?_
  refine h _ acc'.toList _ ?_ Sm.mk' (new_fresh O hk hg ⟨c', by simp⟩)
  have hl : acc'.toList.length = kvs.length := by rw [Array.length_toList]; exact hacc.1
  have hi : ∀ (j : Nat) v, acc'.toList[j]? = some v → ∃ k x t, kvs[j]? = some (k, x) ∧ v = .str k t := fun j v hj => by
    obtain ⟨k, x, h1, h2⟩ := hacc.2 j v (by rw [← Array.getElem?_toList]; exact hj)
    obtain ⟨t, rfl⟩ := Value.isStrOf_shape h2
    exact ⟨k, x, t, h1, rfl⟩
  exact strs_keys hl hi
theorem r_sumInts {l : Addr} {vs : List Value} {Q : Value → Shared → Prop} (hh : A.handled = none) (O : Own h₀ s.heap Φ) (hl : Has h₀ Φ l (lstP vs)) (hv : ∀ v ∈ vs, ∃ a t, v = .int a t)
    (h : ∀ x t s', Sm s s' → Own h₀ s'.heap Φ → Q (.int x t) s') : wpAny (model PR w) A (call (.builtin "sum") [.ref l]) Q E s := by
  have ha : AllInts vs.toArray := fun v hv' => hv v (by simpa using hv')
  obtain ⟨xs, hx⟩ := ha.items
  refine sum_intListG hh (hx ▸ lstP.is (hl.get O)) fun h' tk t' hk => h _ _ _ Sm.mk' (O.kp hk)
/-- min(d.values()) of ints that are no less than zero -/
noncomputable def vwP (d : Addr) : Obj → Prop := fun o => o = { cls := .type "dict_values", data := .fields #[.ref d] }
theorem r_values {d : Addr} {kvs : List (Str × Value)} {Q : Value → Shared → Prop} (O : Own h₀ s.heap Φ) (hd : NS d) (hm : Has h₀ Φ d (dctP w kvs))
    (h : ∀ a s', Sm s s' → Own h₀ s'.heap ((a, vwP d) :: Φ) → Q (.ref a) s') : wpAny (model PR w) A (call (.builtin "dict.values") [.ref d]) Q E s := by
  have hm' := dctP.of (hm.get O)
  exact call_meetsIn F.slot_dict_values hm'.typeIs F.entry_dict_values (F.args_dict_values_1 _) (meets_dict_values (strKind PR w) d hd) ⟨⟨kvs, hm'⟩, h _ _ Sm.mk' (own_pushed O (vwP d) (o := { cls := .type "dict_values", data := .fields #[.ref d] }) rfl rfl)⟩
theorem r_minVals {v d : Addr} {kvs : List (Str × Value)} {Q : Value → Shared → Prop} (hh : A.handled = none) (O : Own h₀ s.heap Φ) (hv : Has h₀ Φ v (vwP d)) (hm : Has h₀ Φ d (dctP w kvs)) (hn : 0 < kvs.length) (hi : ∀ (i : Nat) p, kvs[i]? = some p → ∃ x t, p.2 = .int x t ∧ 0 ≤ x)
    (h : ∀ x t s', 0 ≤ x → Sm s s' → Own h₀ s'.heap Φ → Q (.int x t) s') : wpAny (model PR w) A (call (.builtin "min") [.ref v]) Q E s := by
  obtain ⟨ep, hep⟩ := has_ep (hm.get O)
  have hat := dctEP.of hep
  obtain ⟨ov, gv, qv⟩ := hv.get O
  have hview : s.heap.IsValuesView v d := ⟨ov, gv, by rw [qv], by rw [qv]⟩
  have hex : ∀ i : Nat, ∃ x : Int, ∀ p : Str × Value, kvs[i]? = some p → ∃ t, p.2 = .int x t ∧ 0 ≤ x := fun i => by
    cases hk : kvs[i]? with
    | none => exact ⟨0, fun p hp => by cases hp⟩
    | some p =>
      obtain ⟨x, t, e, hx⟩ := hi i p hk
      exact ⟨x, fun q hq => by cases hq; exact ⟨t, e, hx⟩⟩
  obtain ⟨val, hval⟩ := Classical.axiomOfChoice hex
  refine call_min_walk (wpAny_pyIter_values hview hat ?_)
  have lt := hat.lt_size
  refine ⟨s.heap.objs.size, _, _, kvs.length, _, _, _, rfl, Walks.dictValues (knd := strKind PR w) (A := A.in1) hh s.heap.objs.size d (Nat.ne_of_lt lt) kvs ep, ⟨⟨_, Heap.get?_push_size _ rfl, rfl, rfl⟩, hat.push _⟩, fun b hb => ?_, hn,
    CmpOf.ints_lt val (fun i u ⟨k, hk⟩ => let ⟨t, e, _⟩ := hval i _ hk; ⟨t, e⟩), fun u h' tk ⟨k, hk⟩ hkeep => ?_⟩
  · rw [Heap.size_push]
    simp only [List.mem_cons, List.not_mem_nil, or_false] at hb
    rcases hb with rfl | rfl
    · exact Nat.lt_succ_self _
    · exact Nat.lt_succ_of_lt lt
  · obtain ⟨t, e, hx⟩ := hval _ _ hk
    dsimp only at e
    subst e
    refine h _ t _ hx Sm.mk' (O.kp fun b o e => hkeep b o (fun hb => ?_) (Heap.get?_push_of_some _ e))
    rw [List.mem_singleton] at hb
    rw [hb, get_none_size] at e; cases e
theorem r_lsliceI {value slice : Expr} {ops : List Value} {l : Addr} {xs : List Value} {vl vu vt : Value} {lo hi st : Option Int} {Q : Value → Shared → Prop} (O : Own h₀ s.heap Φ) (hl' : s.heap.IsList l xs.toArray) (pl : IsPart vl lo) (pu : IsPart vu hi) (pt : IsPart vt st) (h0 : st ≠ some 0) (hz : xs.length ≤ 100000)
    (h : ∀ a s', Sm s s' → Own h₀ s'.heap ((a, lstP (slicePick xs.toArray lo hi st).toList) :: Φ) → Q (.ref a) s')
    (hs : subscripted slice false (.ref l) (.ref s.heap.objs.size) = operate ops (getItem (.ref l) (.ref s.heap.objs.size)) := by with_unfolding_all rfl) :
    wpAny (model PR w) A (subscriptTail value slice (.ref l) (.ref s.heap.objs.size)) Q E { s with heap := s.heap.push { cls := .type "slice", data := .fields #[vl, vu, vt] } } := by
  refine tail_any (Heap.IsList.typeIs (s := { s with heap := s.heap.push { cls := .type "slice", data := .fields #[vl, vu, vt] } }) (hl'.push _)) list_getitem_lookup
    (wpAny_getItem_list_slice (hl'.push _) (Heap.IsSliceOf.new ..) pl pu pt h0 ?_ (by rw [sizeLine_eq]; simp; lia)) hs
  have O1 := O.kp (h' := s.heap.push { cls := .type "slice", data := .fields #[vl, vu, vt] }) (fun _ _ e => Heap.get?_push_of_some _ e)
  have O2 := own_pushed O1 (lstP (slicePick xs.toArray lo hi st).toList) (o := { cls := .type "list", data := .seq (slicePick xs.toArray lo hi st) }) ⟨0, by simp⟩ rfl
  exact h _ _ Sm.mk' O2
theorem r_lsliceS {value slice : Expr} {ops : List Value} {l : Addr} {xs : List Value} {vl vu vt : Value} {lo hi st : Option Int} {Q : Value → Shared → Prop} (O : Own h₀ s.heap Φ) (hl : Has h₀ Φ l (lstP xs)) (pl : IsPart vl lo) (pu : IsPart vu hi) (pt : IsPart vt st) (h0 : st ≠ some 0) (hz : xs.length ≤ 100000)
    (h : ∀ a s', Sm s s' → Own h₀ s'.heap ((a, lstP (slicePick xs.toArray lo hi st).toList) :: Φ) → Q (.ref a) s')
    (hs : subscripted slice false (.ref l) (.ref s.heap.objs.size) = operate ops (getItem (.ref l) (.ref s.heap.objs.size)) := by with_unfolding_all rfl) :
    wpAny (model PR w) A (subscriptTail value slice (.ref l) (.ref s.heap.objs.size)) Q E { s with heap := s.heap.push { cls := .type "slice", data := .fields #[vl, vu, vt] } } := r_lsliceI O (lstP.is (hl.get O)) pl pu pt h0 hz h hs
theorem slice_all {P : Value → Prop} {xs : List Value} {lo hi st : Option Int} (h : ∀ v ∈ xs, P v) : ∀ v ∈ (slicePick xs.toArray lo hi st).toList, P v := by
  intro v hv
  unfold slicePick at hv
  simp only [List.mem_filterMap] at hv
  obtain ⟨i, _, hi⟩ := hv
  have : xs[i]? = some v := by simpa using hi
  exact h v (List.mem_of_getElem? this)
theorem slice_rev4 (a b c d : Value) : (slicePick [a, b, c, d].toArray none none (some (-1))).toList = [d, c, b, a] := by first | kernel_rfl | (simp [slicePick, sliceBounds, sliceRange]; done)
theorem slice_four (a b c d e f : Value) : (slicePick [a, b, c, d, e, f].toArray none (some 4) none).toList = [a, b, c, d] := by first | kernel_rfl | (simp [slicePick, sliceBounds, sliceRange]; done)
end
end
section
/-! ## the plain law of the runs -/
theorem nd_len : ∀ {D T : List Key}, D.Nodup → (∀ x ∈ D, x ∈ T) → D.length ≤ T.length
  | [], _, _, _ => Nat.zero_le _
  | d :: D, T, nd, hs => by
    rw [List.nodup_cons] at nd
    obtain ⟨T1, T2, rfl⟩ := List.append_of_mem (hs d List.mem_cons_self)
    have := nd_len (D := D) (T := T1 ++ T2) nd.2 fun x hx => by
      have h := hs x (List.mem_cons_of_mem _ hx)
      rw [List.mem_append, List.mem_cons] at h
      rw [List.mem_append]
      rcases h with h | rfl | h
      · exact .inl h
      · exact absurd hx nd.1
      · exact .inr h
    simp only [List.length_cons, List.length_append] at this ⊢
    lia
theorem below_snoc (T : List Key) (p k : Key) : below (T ++ [p]) k = below T k + (if k <+: p then 1 else 0) := by
  unfold below
  rw [List.filter_append, List.length_append]
  by_cases h : k <+: p <;> simp [h]
theorem below_le {D T : List Key} (nd : D.Nodup) (hs : ∀ x ∈ D, x ∈ T) (k : Key) : below D k ≤ below T k := by
  unfold below
  refine nd_len (nd.filter _) fun x hx => ?_
  rw [List.mem_filter] at hx ⊢
  exact ⟨hs x hx.1, hx.2⟩
structure SI (q0 : Key → Int) (st : List Key × (Key → Int)) : Prop where
  nd : st.1.Nodup
  eq : ∀ k, k ≠ [] → st.2 k = q0 k - below st.1 k
  pos : ∀ k ∈ qKeys, 0 ≤ st.2 k
theorem qk_ne : ∀ k ∈ qKeys, k ≠ [] := fun k hk => (qKeys_good k hk).1
theorem SI.start {q0 : Key → Int} (h : ∀ k ∈ qKeys, 1 ≤ q0 k) : SI q0 ([], q0) := ⟨List.nodup_nil, fun k _ => by simp [below], fun k hk => by have := h k hk; show 0 ≤ q0 k; lia⟩
theorem not_shut {f : Key → Int} {p : Key} (h : ¬ shutB f p = true) {k : Key} (hk : k ∈ qKeys) (hp : k <+: p) : f k ≠ 0 := fun e => h (by
  unfold shutB
  exact List.any_eq_true.mpr ⟨k, anc_mem.mpr ⟨qk_ne k hk, hp⟩, by unfold full0; simp [hk, e]⟩)
theorem SI.step {q0 : Key → Int} {st : List Key × (Key → Int)} (h : SI q0 st) (p : Key) : SI q0 (stepR st p) := by
  unfold stepR
  split
  · exact h
  · rename_i hn
    rw [not_or] at hn
    refine ⟨?_, fun k hk => ?_, fun k hk => ?_⟩
    · rw [List.nodup_append]
      refine ⟨h.nd, by simp, fun x hx y hy e => ?_⟩
      rw [List.mem_singleton] at hy
      subst hy e
      exact hn.1 hx
    · show (if k ∈ anc p then st.2 k - 1 else st.2 k) = q0 k - below (st.1 ++ [p]) k
      rw [below_snoc, h.eq k hk]
      by_cases hp : k <+: p
      · rw [if_pos (anc_mem.mpr ⟨hk, hp⟩), if_pos hp]; lia
      · rw [if_neg (fun hm => hp (anc_mem.mp hm).2), if_neg hp]; lia
    · show 0 ≤ (if k ∈ anc p then st.2 k - 1 else st.2 k)
      have hp0 := h.pos k hk
      split
      · rename_i hm
        have := not_shut hn.2 hk (anc_mem.mp hm).2
        lia
      · exact hp0
theorem SI.fold {q0 : Key → Int} : ∀ (row : List Key) {st : List Key × (Key → Int)}, SI q0 st → SI q0 (row.foldl stepR st)
  | [], _, h => h
  | p :: row, _, h => SI.fold row (h.step p)
theorem step_mem {st : List Key × (Key → Int)} {p x : Key} (h : x ∈ st.1) : x ∈ (stepR st p).1 := by
  unfold stepR
  split
  · exact h
  · exact List.mem_append_left _ h
theorem fold_mem : ∀ (row : List Key) {st : List Key × (Key → Int)} {x : Key}, x ∈ st.1 → x ∈ (row.foldl stepR st).1
  | [], _, _, h => h
  | _ :: row, _, _, h => fold_mem row (step_mem h)
theorem step_le {st : List Key × (Key → Int)} {p k : Key} : (stepR st p).2 k ≤ st.2 k := by
  unfold stepR
  split
  · exact Int.le_refl _
  · show (if k ∈ anc p then st.2 k - 1 else st.2 k) ≤ _
    split <;> lia
theorem fold_le : ∀ (row : List Key) {st : List Key × (Key → Int)} {k : Key}, (row.foldl stepR st).2 k ≤ st.2 k
  | [], _, _ => Int.le_refl _
  | _ :: row, _, _ => Int.le_trans (fold_le row) step_le
theorem fold_zero {q0 : Key → Int} (row : List Key) {st : List Key × (Key → Int)} (h : SI q0 st) {k : Key} (hk : k ∈ qKeys) (hz : st.2 k = 0) : (row.foldl stepR st).2 k = 0 := by
  have h1 := fold_le row (st := st) (k := k)
  have h2 := (h.fold row).pos k hk
  lia
theorem shut_at {f : Key → Int} {p : Key} : shutB f p = true ↔ ∃ k ∈ qKeys, k <+: p ∧ f k = 0 := by
  unfold shutB
  rw [List.any_eq_true]
  constructor
  · rintro ⟨k, hk, h⟩
    unfold full0 at h
    rw [Bool.and_eq_true, decide_eq_true_eq, beq_iff_eq] at h
    exact ⟨k, h.1, (anc_mem.mp hk).2, h.2⟩
  · rintro ⟨k, hk, hp, hz⟩
    exact ⟨k, anc_mem.mpr ⟨qk_ne k hk, hp⟩, by unfold full0; simp [hk, hz]⟩
theorem fold_out {q0 : Key → Int} : ∀ (row : List Key) {st : List Key × (Key → Int)} {p : Key}, SI q0 st → p ∈ row → p ∈ (row.foldl stepR st).1 ∨ shutB (row.foldl stepR st).2 p = true
  | [], _, _, _, h => nomatch h
  | r :: row, st, p, h, hp => by
    rw [List.foldl_cons]
    rcases List.mem_cons.mp hp with rfl | hp
    · by_cases hc : p ∈ st.1 ∨ shutB st.2 p = true
      · rcases hc with hc | hc
        · exact .inl (fold_mem row (step_mem hc))
        · right
          obtain ⟨k, hk, hkp, hz⟩ := shut_at.mp hc
          refine shut_at.mpr ⟨k, hk, hkp, fold_zero row (h.step p) hk ?_⟩
          unfold stepR
          rw [if_pos (.inr hc)]
          exact hz
      · left
        refine fold_mem row ?_
        unfold stepR
        rw [if_neg hc]
        exact List.mem_append_right _ List.mem_cons_self
    · exact fold_out row (h.step r) hp
theorem fold_sub : ∀ (row : List Key) {st : List Key × (Key → Int)} {x : Key}, x ∈ (row.foldl stepR st).1 → x ∈ st.1 ∨ x ∈ row
  | [], _, _, h => .inl h
  | r :: row, st, x, h => by
    rcases fold_sub row h with h | h
    · unfold stepR at h
      split at h
      · exact .inl h
      · rcases List.mem_append.mp h with h | h
        · exact .inl h
        · rw [List.mem_singleton] at h
          exact .inr (h ▸ List.mem_cons_self)
    · exact .inr (List.mem_cons_of_mem _ h)
/-- the full places at or above p, the innermost first -/
noncomputable def roomsF (q0 : Key → Int) (T : List Key) : Key → Int := fun k => q0 k - below T k
noncomputable def fullL (q0 : Key → Int) (T : List Key) (p : Key) : List Key := (anc p).filter (full0 (roomsF q0 T))
theorem full0_eq {q0 : Key → Int} {st : List Key × (Key → Int)} (h : SI q0 st) (k : Key) : full0 st.2 k = full0 (roomsF q0 st.1) k := by
  unfold full0
  by_cases hk : k ∈ qKeys
  · rw [h.eq k (qk_ne k hk)]; rfl
  · simp [hk]
structure Ran (q0 : Key → Int) (row T : List Key) : Prop where
  nd : T.Nodup
  sub : ∀ x ∈ T, x ∈ row
  pos : ∀ k ∈ qKeys, 0 ≤ roomsF q0 T k
  out : ∀ p ∈ row, p ∉ T → fullL q0 T p ≠ []
theorem ran_of {q0 : Key → Int} (hq : ∀ k ∈ qKeys, 1 ≤ q0 k) (row : List Key) : Ran q0 row (runR q0 row).1 := by
  have h := (SI.start hq).fold row
  refine ⟨h.nd, fun x hx => (fold_sub row hx).resolve_left (by simp), fun k hk => ?_, fun p hp hn => ?_⟩
  · have := h.pos k hk
    rw [h.eq k (qk_ne k hk)] at this
    exact this
  · rcases fold_out row (SI.start hq) hp with h1 | h1
    · exact absurd h1 hn
    · unfold shutB at h1
      obtain ⟨k, hk, hf⟩ := List.any_eq_true.mp h1
      rw [full0_eq h] at hf
      exact List.ne_nil_of_mem (List.mem_filter.mpr ⟨hk, hf⟩)
theorem runR_snoc (q0 : Key → Int) (D : List Key) (p : Key) : runR q0 (D ++ [p]) = stepR (runR q0 D) p := by unfold runR; rw [List.foldl_append]; rfl
theorem runR_sub {q0 : Key → Int} (hq : ∀ k ∈ qKeys, 1 ≤ q0 k) {T : List Key} (hpos : ∀ k ∈ qKeys, 0 ≤ roomsF q0 T k) : ∀ (n : Nat) (D : List Key), D.length = n → D.Nodup → (∀ x ∈ D, x ∈ T) → (runR q0 D).1 = D
  | 0, D, hn, _, _ => by obtain rfl := List.length_eq_zero_iff.mp hn; rfl
  | n + 1, D, hn, nd, hs => by
    rcases List.eq_nil_or_concat D with rfl | ⟨D, p, rfl⟩
    · simp at hn
    rw [List.concat_eq_append] at *
    have ndp := List.nodup_append.mp nd
    have ih := runR_sub hq hpos n D (by simpa using hn) ndp.1 fun x hx => hs x (List.mem_append_left _ hx)
    rw [runR_snoc]
    have h := (SI.start hq).fold D
    have hD : (D.foldl stepR ([], q0)).1 = D := ih
    unfold stepR
    have hc : ¬ (p ∈ (runR q0 D).1 ∨ shutB (runR q0 D).2 p = true) := by
      rw [ih]
      rintro (h1 | h1)
      · exact ndp.2.2 p h1 p (List.mem_singleton.mpr rfl) rfl
      · obtain ⟨k, hk, hkp, hz⟩ := shut_at.mp h1
        have h2 := h.eq k (qk_ne k hk)
        rw [hD] at h2
        have h3 := below_le nd hs k
        rw [below_snoc, if_pos hkp] at h3
        have h4 := hpos k hk
        unfold roomsF at h4
        have h5 : (runR q0 D).2 k = q0 k - below D k := h2
        rw [hz] at h5
        lia
    rw [if_neg hc, ih]
theorem below_one {T : List Key} (nd : T.Nodup) {one : Key} (h1 : one ∈ T) (k : Key) : below T k = below (T.filter fun x => decide (x ≠ one)) k + (if k <+: one then 1 else 0) := by
  obtain ⟨T1, T2, rfl⟩ := List.append_of_mem h1
  have nd' := List.nodup_append.mp nd
  have n2 := List.nodup_cons.mp nd'.2.1
  have e1 : T1.filter (fun x => decide (x ≠ one)) = T1 := List.filter_eq_self.mpr fun x hx => decide_eq_true fun e => nd'.2.2 x hx one List.mem_cons_self e
  have e2 : T2.filter (fun x => decide (x ≠ one)) = T2 := List.filter_eq_self.mpr fun x hx => decide_eq_true fun e => n2.1 (e ▸ hx)
  rw [List.filter_append, List.filter_cons, e1, e2]
  unfold below
  simp only [List.filter_append, List.length_append, List.filter_cons]
  by_cases hk : k <+: one <;> simp [hk] <;> lia
theorem anc_chain (p : Key) : (anc p).Pairwise fun a b => b <+: a := by
  unfold anc
  rw [List.pairwise_map]
  refine List.Pairwise.imp ?_ (List.pairwise_lt_range (n := p.length))
  intro i j hij
  have : p.take (p.length - j) = (p.take (p.length - i)).take (p.length - j) := by rw [List.take_take]; congr 1; lia
  rw [this]
  exact List.take_prefix _ _
theorem exchange {q0 : Key → Int} (hq : ∀ k ∈ qKeys, 1 ≤ q0 k) {row T : List Key} (R : Ran q0 row T) {one other : Key} (h1 : one ∈ T) (h2 : other ∉ T) {Q : Key} {rest : List Key} (hf : fullL q0 T other = Q :: rest) :
    decide ((runR q0 ((T.filter fun x => decide (x ≠ one)) ++ [other])).1 = (T.filter fun x => decide (x ≠ one)) ++ [other]) = decide (Q <+: one) := by
  have hs : ∀ x ∈ T.filter fun x => decide (x ≠ one), x ∈ T := fun x hx => (List.mem_filter.mp hx).1
  have hD := runR_sub hq R.pos _ _ rfl (R.nd.filter fun x => decide (x ≠ one)) hs
  generalize hDD : T.filter (fun x => decide (x ≠ one)) = D at *
  have hSI := (SI.start hq).fold D
  have hD' : (D.foldl stepR ([], q0)).1 = D := hD
  have hno : other ∉ D := fun h => h2 (hs _ h)
  have hch : (Q :: rest).Pairwise fun a b => b <+: a := by rw [← hf]; exact (anc_chain other).sublist List.filter_sublist
  have hrest := (List.pairwise_cons.mp hch).1
  -- who is full without one
  have key : shutB (runR q0 D).2 other = true ↔ ¬ Q <+: one := by
    rw [shut_at]
    have hg : ∀ k ∈ qKeys, (runR q0 D).2 k = roomsF q0 T k + (if k <+: one then 1 else 0) := fun k hk => by
      have h3 := hSI.eq k (qk_ne k hk)
      rw [hD'] at h3
      have h4 : (runR q0 D).2 k = q0 k - below D k := h3
      have h5 := below_one R.nd h1 k
      rw [hDD] at h5
      rw [h4]
      unfold roomsF
      rw [h5]
      split <;> lia
    constructor
    · rintro ⟨k, hk, hkp, hz⟩ hQ
      have h3 := hg k hk
      rw [hz] at h3
      have h4 := R.pos k hk
      have hk1 : ¬ k <+: one := fun hk1 => by rw [if_pos hk1] at h3; lia
      rw [if_neg hk1] at h3
      have hm : k ∈ fullL q0 T other := List.mem_filter.mpr ⟨anc_mem.mpr ⟨qk_ne k hk, hkp⟩, by unfold full0; simp [hk]; lia⟩
      rw [hf] at hm
      rcases List.mem_cons.mp hm with rfl | hm
      · exact hk1 hQ
      · exact hk1 ((hrest k hm).trans hQ)
    · intro hQ
      have hm : Q ∈ fullL q0 T other := by rw [hf]; exact List.mem_cons_self
      have hm' := List.mem_filter.mp hm
      have hfz := hm'.2
      unfold full0 at hfz
      rw [Bool.and_eq_true, decide_eq_true_eq, beq_iff_eq] at hfz
      refine ⟨Q, hfz.1, (anc_mem.mp hm'.1).2, ?_⟩
      rw [hg Q hfz.1, hfz.2, if_neg hQ]; rfl
  rw [runR_snoc]
  by_cases hQ : Q <+: one
  · have hns : ¬ (other ∈ (runR q0 D).1 ∨ shutB (runR q0 D).2 other = true) := by
      rw [hD, not_or]
      exact ⟨hno, fun h => key.mp h hQ⟩
    unfold stepR
    rw [if_neg hns, hD, decide_eq_true rfl, decide_eq_true hQ]
  · have hsh : other ∈ (runR q0 D).1 ∨ shutB (runR q0 D).2 other = true := .inr (key.mpr hQ)
    unfold stepR
    rw [if_pos hsh, hD, decide_eq_false hQ, decide_eq_false]
    intro e
    have := congrArg List.length e
    simp at this
end
section
section
open PySem.SeqAt
variable {w : World} {A : Around} {E : Value → Shared → Prop} {s : Shared} {h₀ : Heap} {Φ Φ' Z : List Cell} {env : Env} {L : Addr} {nm gl : List Str} {cl : List (Str × Addr)}
theorem r_li {value slice : Expr} {l : Addr} {xs : List Value} {k : Int} {u : Tok} {x : Value} {Q : Value → Shared → Prop} (O : Own h₀ s.heap Φ) (hl : Has h₀ Φ l (lstP xs)) (h0 : 0 ≤ k) (hk : k ≤ 100000) (hx : xs[k.toNat]? = some x) (h : Q x s)
    (hs : subscripted slice false (.ref l) (.int k u) = operate [.ref l, .int k u] (getItem (.ref l) (.int k u)) := by with_unfolding_all rfl) : wpAny (model PR w) A (subscriptTail value slice (.ref l) (.int k u)) Q E s :=
  tail_any (Heap.IsList.typeIs (lstP.is (hl.get O))) list_getitem_lookup (wpAny_getItem_list (lstP.is (hl.get O)) h0 (by lia) (by simpa using hx) h) hs
theorem sw_cell {elt : Expr} {g : List Comprehension} {scope : Scope} {y : Str} {py pos : Pos} {n : Nat} (hc : env.kindOf y = some .cell) : swapsWith (.ListComp elt g scope pos) (some (.Name y py)) n env = pure false := by
  unfold swapsWith
  show (pure _ : Sem Bool) = pure false
  congr 1
  rw [hc]
  simp
noncomputable abbrev lwNm : List Str := ["cells", "files", "rooms", "told", "other", "let"]
noncomputable abbrev lwCn : List Str := ["script", "k", "row", "quotas", "lines", "keys", "runs", "full", "one"]
noncomputable abbrev lwGl : List Str := ["enumerate", "_law_quotas", "_law_lines", "range", "min", "_law_differ", "_law_heads", "_law_run", "commonpath"]
theorem fn_law (w : World) : FnOKc w 248 (bodyAt 31) lwNm lwCn lwGl :=
  ⟨⟨by kernel_rfl, by kernel_rfl, by kernel_rfl, by kernel_rfl, by kernel_rfl, by kernel_rfl, by kernel_rfl, by kernel_rfl, by kernel_rfl, by kernel_rfl⟩, by kernel_rfl, by kernel_rfl, by decide, by kernel_rfl⟩
noncomputable abbrev lwCl (cO cF cU cY cL cQ cR cK cS : Addr) : List (Str × Addr) := [("one", cO), ("full", cF), ("runs", cU), ("keys", cY), ("lines", cL), ("quotas", cQ), ("row", cR), ("k", cK), ("script", cS)]
theorem cs_nine {cs : List (Str × Addr)} {x1 x2 x3 x4 x5 x6 x7 x8 x9 : Str} (h : cs.map (·.1) = [x1, x2, x3, x4, x5, x6, x7, x8, x9]) : ∃ c1 c2 c3 c4 c5 c6 c7 c8 c9, cs = [(x1, c1), (x2, c2), (x3, c3), (x4, c4), (x5, c5), (x6, c6), (x7, c7), (x8, c8), (x9, c9)] := by
  obtain ⟨c1, r1, rfl, h1⟩ := cs_cons h
  obtain ⟨c2, r2, rfl, h2⟩ := cs_cons h1
  obtain ⟨c3, r3, rfl, h3⟩ := cs_cons h2
  obtain ⟨c4, r4, rfl, h4⟩ := cs_cons h3
  obtain ⟨c5, r5, rfl, h5⟩ := cs_cons h4
  obtain ⟨c6, r6, rfl, h6⟩ := cs_cons h5
  obtain ⟨c7, r7, rfl, h7⟩ := cs_cons h6
  obtain ⟨c8, r8, rfl, h8⟩ := cs_cons h7
  obtain ⟨c9, r9, rfl, h9⟩ := cs_cons h8
  obtain rfl := cs_nil h9
  exact ⟨c1, c2, c3, c4, c5, c6, c7, c8, c9, rfl⟩
theorem row_good (c : Int) : Good (keyOf c) := by
  have h := kk_len ((f3 c).val + 1) c
  have := (f3 c).isLt
  unfold keyOf
  refine ⟨fun e => ?_, by rw [h]; lia⟩
  have := congrArg List.length e
  rw [h] at this; simp at this
theorem q_pos (a b : Int) : ∀ k ∈ qKeys, 1 ≤ qV a b k := by
  have h3 : ∀ x : Int, 1 ≤ 1 + x.fmod 3 := fun x => by have := Int.fmod_nonneg_of_pos x (show (0 : Int) < 3 by decide); lia
  have h2 : ∀ x : Int, 1 ≤ 1 + x.fmod 2 := fun x => by have := Int.fmod_nonneg_of_pos x (show (0 : Int) < 2 by decide); lia
  intro k hk
  simp only [qKeys, List.mem_cons, List.not_mem_nil, or_false] at hk
  rcases hk with rfl | rfl | rfl | rfl | rfl | rfl | rfl | rfl | rfl | rfl | rfl | rfl <;> first | exact h3 _ | exact h2 _
/-- the cells of law -/
noncomputable abbrev lwC (L cO cF cU cY cL cQ cR cK cS : Addr) (ls : List (Option Value)) (vO vF vU vY vL vQ vR vK vS : Option Value) (Z : List Cell) : List Cell :=
  (L, locP lwNm ls) :: (cO, celP vO) :: (cF, celP vF) :: (cU, celP vU) :: (cY, celP vY) :: (cL, celP vL) :: (cQ, celP vQ) :: (cR, celP vR) :: (cK, celP vK) :: (cS, celP vS) :: Z
set_option maxHeartbeats 4000000 in
/-- cells, row, quotas, lines, keys -/
theorem law_p1 {l cO cF cU cY cL cQ cR cK cS : Addr} {vs : List Value} {Q : Flow → Shared → Prop} (B : Base w h₀) (R : Rm A 9) (V : EnvOK env L lwNm (lwCl cO cF cU cY cL cQ cR cK cS) lwGl) (hck : ∀ x ∈ lwCn, env.kindOf x = some .cell)
    (O : Own h₀ s.heap ((L, locP lwNm [none, none, none, none, none, none]) :: (cO, celP none) :: (cF, celP none) :: (cU, celP none) :: (cY, celP none) :: (cL, celP none) :: (cQ, celP none) :: (cR, celP none) :: (cK, celP none) :: (cS, celP (some (.ref l))) :: []))
    (hl : h₀.IsList l vs.toArray) (hv : ∀ v ∈ vs, ∃ a t, v = .int a t) (hz : vs.length ≤ 63)
    (K : ∀ (c0 c1 c2 c3 c4 c5 : Int) (ca lr dq dl dk : Addr) (vr : List Value) (kq : List (Str × Value)) (X : List Cell) (s' : Shared), Sm s s' → StrsAre vr ([keyOf c0, keyOf c1, keyOf c2, keyOf c3].map S) → NS dq → QD (qV c4 c5) 12 kq → NS dl → NS dk →
      (∀ G : Addr → (Obj → Prop) → Prop, (∀ p ∈ X, G p.1 p.2) → LKG w G (spots [keyOf c0, keyOf c1, keyOf c2, keyOf c3]) dl dk) →
      Own h₀ s'.heap ((L, locP lwNm [some (.ref ca), none, none, none, none, none]) :: (cO, celP none) :: (cF, celP none) :: (cU, celP none) :: (cY, celP (some (.ref dk))) :: (cL, celP (some (.ref dl))) :: (cQ, celP (some (.ref dq))) :: (cR, celP (some (.ref lr))) :: (cK, celP none) :: (lr, lstP vr) :: (dq, dctP w kq) :: X) →
      wpAny (model PR w) A (execs ((bodyAt 31).drop 4) env) Q E s') :
    wpAny (model PR w) A (execs (bodyAt 31) env) Q E s := by
  have hh := R.hd
  -- cells = [start + sum(script[k::6]) for k, start in enumerate((0, 10, 65, 19, 1, 1))]
  refine r_seq rfl (r_lcu V (by ktr_rel) (blkOK_of (nm := ["k", "start"]) (cn := []) (fn := ["script"]) (gl := ["sum"]) (by kernel_rfl)) (cl' := [("script", cS)]) rfl (fun p hp => by rw [List.mem_singleton.mp hp]; simp) rfl (by kernel_rfl) (r_call (r_boot V (B.keeps O.keep) (by ktr_rel) (by ktr_rel) (r_ty (r_arg (Tuple_ (r_arg (wpAny_Constant_int (r_arg (wpAny_Constant_int (r_arg (wpAny_Constant_int (r_arg (wpAny_Constant_int (r_arg (wpAny_Constant_int (r_arg (wpAny_Constant_int (r_gen O ?_)))))))))))))))))))
  clear O; intro s₁ e₁ O
  refine r_args (r_newTup O ?_)
  clear O; intro tp s₂ e₂ _ _ O
  obtain ⟨tv, htv, htl, O⟩ : ∃ tv : List Value, (∀ v ∈ tv, ∃ a t, v = Value.int a t) ∧ tv.length = 6 ∧ Own h₀ s₂.heap ((tp, tupP tv) :: (L, locP lwNm [none, none, none, none, none, none]) :: (cO, celP none) :: (cF, celP none) :: (cU, celP none) :: (cY, celP none) :: (cL, celP none) :: (cQ, celP none) :: (cR, celP none) :: (cK, celP none) :: (cS, celP (some (.ref l))) :: []) := by
    refine ⟨_, ?_, ?_, O⟩
    · intro v hv
      simp only [List.mem_cons, List.not_mem_nil, or_false] at hv
      rcases hv with rfl | rfl | rfl | rfl | rfl | rfl <;> exact ⟨_, _, rfl⟩
    · rfl
  refine r_args (r_enum_tuple O (.cell (by ktr_rel)) ?_)
  clear O; intro en it s₃ e₃ O
  refine self_enum O ?_
  refine lc_block V (blkOK_of (nm := ["k", "start"]) (cn := []) (fn := ["script"]) (gl := ["sum"]) (by kernel_rfl)) rfl (iter_enum_tuple (xs := tv) hh (has_ne (O.drop) (.cell (by ktr_rel)))) (by lia)
    (fun C cs i ys Ψ => ∃ v0 v1, (∀ v ∈ ys, ∃ a t, v = Value.int a t) ∧ ys.length = i ∧ Ψ = (C, locP ["k", "start"] [v0, v1]) :: (tp, tupP tv) :: (L, locP lwNm [none, none, none, none, none, none]) :: (cO, celP none) :: (cF, celP none) :: (cU, celP none) :: (cY, celP none) :: (cL, celP none) :: (cQ, celP none) :: (cR, celP none) :: (cK, celP none) :: (cS, celP (some (.ref l))) :: []) O ?_ ?_ ?_ ?_
  · intro C cs hcs
    obtain rfl := cs_nil hcs
    exact ⟨_, _, by simp, rfl, rfl⟩
  · intro C cs D i ys Ψ _ jy0
    refine ex2 jy0 fun v0 v1 jx0 => an3 jx0 fun _ _ jr02 => ?_
    clear jx0 jy0
    subst jr02
    exact .cell (by ktr_rel)
  · intro C cs D cenv V' hck' hfr hcs i v Ψ ys Ψ' s₄ hi jy0 jy1 e₄ O
    refine ex2 jy0 fun v0 v1 jx0 => an3 jx0 fun hys hyl jr02 => ?_
    refine ex3 jy1 fun T ti x jx1 => an3 jx1 fun hx jr11 jr12 => ?_
    clear jx0 jy0
    subst jr02
    clear jx1 jy1
    subst jr11
    subst jr12
    obtain rfl := cs_nil hcs
    obtain ⟨a, tx, rfl⟩ := htv x (List.mem_of_getElem? hx)
    dsimp only [List.cons_append, List.nil_append] at O V'
    refine r_pair hh O (.cell (by ktr_rel)) ?_
    clear O; intro s₅ e₅ O
    refine r_st V' O (by ktr_rel) (by ktr_rel) (by ktr_rel) ?_
    clear O; intro s₆ e₆ O
    refine r_st V' O (by ktr_rel) (by ktr_rel) (by ktr_rel) ?_
    clear O; intro s₇ e₇ O
    refine r_t0 ?_
    rw [if_pos rfl]
    refine wpAny_BinOp (r_ld V' O (by ktr_rel) (by ktr_rel) (r_call (r_boot V' (B.keeps O.keep) (by ktr_rel) (by ktr_rel) (r_bi (r_arg (Subscript_ (r_ldc V' O (by ktr_rel) (by ktr_rel) (wpAny_Slice (r_part (r_ld V' O (by ktr_rel) (by ktr_rel) (r_part_none (r_part (wpAny_Constant_int ?_)))))))))))))
    refine r_lsliceI (s := { s₇ with toks := s₇.toks + 1 }) (O.kp Kp.rfl) (let ⟨o, ho, r⟩ := hl; ⟨o, O.keep _ _ ho, r⟩) (.int _ _) .none (.int 6 _) (by decide) (by lia) ?_
    clear O; intro sl s₈ e₈ O
    refine r_args (r_sumInts hh O (.cell (by ktr_rel)) (slice_all hv) ?_)
    clear O; intro sm ts s₉ e₉ O
    refine PyProof.Rows.add_int ⟨_, by ktr_rel, O.pick (by ktr_rel), _, _, ?_, ?_, rfl⟩
    · intro v hv'
      rcases List.mem_append.mp hv' with hv' | hv'
      · exact hys v hv'
      · rw [List.mem_singleton.mp hv']; exact ⟨_, _, rfl⟩
    · simp [hyl]
  · intro C cs D ys Ψ s₄ jy0 e₄ O
    refine ex2 jy0 fun v0 v1 jx0 => an3 jx0 fun hys hyl jr02 => ?_
    clear jx0 jy0
    subst jr02
    rw [htl] at hyl
    refine post_some (h₀ := h₀) (PyProof.Rows.assign_Name (r_st V O (by ktr_rel) (by ktr_rel) (by ktr_rel) ?_))
    clear O; intro s₅ e₅ O
    refine ei4 _ _ _ _ ⟨O, .tail .head, ?_⟩
    clear O; intro s₆ e₆ O
    obtain ⟨c0, t0, c1, t1, c2, t2, c3, t3, c4, t4, c5, t5, rfl⟩ : ∃ c0 t0 c1 t1 c2 t2 c3 t3 c4 t4 c5 t5, ys = [Value.int c0 t0, .int c1 t1, .int c2 t2, .int c3 t3, .int c4 t4, .int c5 t5] := by
      obtain ⟨a, r1, rfl, l1⟩ := len_cons hyl
      obtain ⟨b, r2, rfl, l2⟩ := len_cons l1
      obtain ⟨c, r3, rfl, l3⟩ := len_cons l2
      obtain ⟨d, r4, rfl, l4⟩ := len_cons l3
      obtain ⟨e, r5, rfl, l5⟩ := len_cons l4
      obtain ⟨f, r6, rfl, l6⟩ := len_cons l5
      obtain rfl := List.eq_nil_of_length_eq_zero l6
      obtain ⟨c0, t0, rfl⟩ := hys a (by simp)
      obtain ⟨c1, t1, rfl⟩ := hys b (by simp)
      obtain ⟨c2, t2, rfl⟩ := hys c (by simp)
      obtain ⟨c3, t3, rfl⟩ := hys d (by simp)
      obtain ⟨c4, t4, rfl⟩ := hys e (by simp)
      obtain ⟨c5, t5, rfl⟩ := hys f (by simp)
      exact ei12 _ _ _ _ _ _ _ _ _ _ _ _ rfl
    have eA : Sm s s₆ := by ktr_rel
    replace O := O.pick (Φ' := (L, locP lwNm [some (.ref D), none, none, none, none, none]) :: (cO, celP none) :: (cF, celP none) :: (cU, celP none) :: (cY, celP none) :: (cL, celP none) :: (cQ, celP none) :: (cR, celP none) :: (cK, celP none) :: (D, lstP [Value.int c0 t0, .int c1 t1, .int c2 t2, .int c3 t3, .int c4 t4, .int c5 t5]) :: []) (by ktr_rel)
    clear e₁ e₂ e₃ e₄ e₅ e₆
    -- row = [_law_place(cell) for cell in cells[:4]]
    refine r_seq rfl (wpAny_Assign_Name (hs := sw_cell (hck "row" (by ktr_rel))) (r_lc V (blkOK_of (nm := ["cell"]) (cn := []) (fn := []) (gl := ["_law_place"]) (by kernel_rfl)) (cl' := []) rfl (fun p hp => nomatch hp) (Subscript_ (r_ld V O (by ktr_rel) (by ktr_rel) (wpAny_Slice (r_part_none (r_part (wpAny_Constant_int (r_gen O ?_))))))))) 
    clear O; intro s₁ e₁ O
    refine r_part_none ?_
    refine r_lslice O (.cell (by ktr_rel)) .none (.int 4 _) (by simp) ?_
    clear O; intro c4l s₂ e₂ O
    rw [slice_four] at O
    refine r_it_list O (.cell (by ktr_rel)) ?_
    clear O; intro I s₃ e₃ O
    refine lc_block V (blkOK_of (nm := ["cell"]) (cn := []) (fn := []) (gl := ["_law_place"]) (by kernel_rfl)) rfl ((iter_list (l := c4l) (xs := [Value.int c0 t0, .int c1 t1, .int c2 t2, .int c3 t3]) hh).toT self_list) (show 4 ≤ 100000 by decide)
      (fun C cs i ys Ψ => ∃ v0, StrsAre ys (([keyOf c0, keyOf c1, keyOf c2, keyOf c3].take i).map S) ∧ Ψ = (C, locP ["cell"] [v0]) :: (c4l, lstP [Value.int c0 t0, .int c1 t1, .int c2 t2, .int c3 t3]) :: (L, locP lwNm [some (.ref D), none, none, none, none, none]) :: (cO, celP none) :: (cF, celP none) :: (cU, celP none) :: (cY, celP none) :: (cL, celP none) :: (cQ, celP none) :: (cR, celP none) :: (cK, celP none) :: (D, lstP [Value.int c0 t0, .int c1 t1, .int c2 t2, .int c3 t3, .int c4 t4, .int c5 t5]) :: []) O ?_ ?_ ?_ ?_
    · intro C cs hcs
      obtain rfl := cs_nil hcs
      exact ⟨_, .nil, rfl⟩
    · rintro C cs D' i ys Ψ _ ⟨v0, _, rfl⟩; exact .cell (by ktr_rel)
    · rintro C cs D' cenv V' hck' hfr hcs i v Ψ ys Ψ' s₄ hi ⟨v0, hys, rfl⟩ ⟨hv', rfl⟩ e₄ O
      obtain rfl := cs_nil hcs
      obtain ⟨c, t, rfl, hc⟩ : ∃ c t, v = Value.int c t ∧ [keyOf c0, keyOf c1, keyOf c2, keyOf c3][i]? = some (keyOf c) := by
        match i, hv' with
        | 0, hv' => exact ⟨_, _, (Option.some.inj hv').symm, rfl⟩
        | 1, hv' => exact ⟨_, _, (Option.some.inj hv').symm, rfl⟩
        | 2, hv' => exact ⟨_, _, (Option.some.inj hv').symm, rfl⟩
        | 3, hv' => exact ⟨_, _, (Option.some.inj hv').symm, rfl⟩
        | j + 4, hv' => simp at hv'
      dsimp only [List.cons_append, List.nil_append] at O V'
      refine PyProof.Rows.assign_Name (r_st V' O (by ktr_rel) (by ktr_rel) (by ktr_rel) ?_)
      clear O; intro s₅ e₅ O
      refine r_t0 ?_
      rw [if_pos rfl]
      refine r_call (r_glob V' (B.keeps O.keep) (by ktr_rel) (by ktr_rel) (r_fn (fn_law_place w).FA (B.keeps O.keep) (r_arg (r_ld V' O (by ktr_rel) (by ktr_rel) (r_args ⟨B.keeps O.keep, ?_⟩)))))
      refine law_place_spec (B.keeps O.keep) (R.le (by decide)) fun t' s₆ e₆ k₆ => ?_
      replace O := O.kp k₆
      refine ⟨_, by ktr_rel, O, _, ?_, rfl⟩
      rw [List.take_add_one, hc, List.map_append]
      exact kct_snoc hys
    · rintro C cs D' ys Ψ s₄ ⟨v0, hys, rfl⟩ e₄ O
      replace hys : StrsAre ys ([keyOf c0, keyOf c1, keyOf c2, keyOf c3].map S) := hys
      refine post_none O (.tail .head) ?_
      clear O; intro s₅ e₅ O
      refine r_stc V (hck "row" (by ktr_rel)) O (by ktr_rel) (by ktr_rel) (by ktr_rel) ?_
      clear O; intro s₆ e₆ O
      -- quotas = _law_quotas(cells[4], cells[5])
      refine r_seq rfl (wpAny_Assign_Name (r_call (r_glob V (B.keeps O.keep) (by ktr_rel) (by ktr_rel) (r_fn (fn_law_quotas w).FA (B.keeps O.keep) (r_arg (Subscript_ (r_ld V O (by ktr_rel) (by ktr_rel) (wpAny_Constant_int (r_gen O ?_)))))))))
      clear O; intro s₇ e₇ O
      refine r_li O (.cell (by ktr_rel)) (by decide) (by decide) rfl ?_
      refine r_arg (Subscript_ (r_ld V O (by ktr_rel) (by ktr_rel) (wpAny_Constant_int (r_gen O ?_))))
      clear O; intro s₈ e₈ O
      refine r_li O (.cell (by ktr_rel)) (by decide) (by decide) rfl ?_
      refine r_args ⟨B.keeps O.keep, ?_⟩
      refine law_quotas_spec (B.keeps O.keep) (R.le (by decide)) fun dq kq s₉ e₉ k₉ nsq hkq N₉ => ?_
      replace O := O.new k₉ N₉
      dsimp only [List.cons_append, List.nil_append] at O
      refine r_stc V (hck "quotas" (by ktr_rel)) O (by ktr_rel) (by ktr_rel) (by ktr_rel) ?_
      clear O; intro s₁₀ e₁₀ O
      -- lines, keys = _law_lines(row)
      refine r_seq rfl (Assign_Tuple (r_call (r_glob V (B.keeps O.keep) (by ktr_rel) (by ktr_rel) (r_fn (fn_law_lines w).FA (B.keeps O.keep) (r_arg (r_ldc V O (by ktr_rel) (by ktr_rel) (r_args ⟨B.keeps O.keep, ?_⟩)))))))
      refine law_lines_spec (B.keeps O.keep) (R.le (by decide)) (O.get (by ktr_rel)) hys (fun k hk => ?_) (by simp) fun T dl dk X s₁₁ e₁₁ k₁₁ nsl nsk N₁₁ hLK => ?_
      · simp only [List.mem_cons, List.not_mem_nil, or_false] at hk
        rcases hk with rfl | rfl | rfl | rfl <;> exact row_good _
      replace O := O.new k₁₁ N₁₁
      replace O := O.perm (List.Perm.cons _ List.perm_append_comm)
      dsimp only [List.cons_append, List.nil_append] at O
      refine r_pair hh O (.cell (by ktr_rel)) ?_
      clear O; intro s₁₂ e₁₂ O
      refine r_stc V (hck "lines" (by ktr_rel)) O (by ktr_rel) (by ktr_rel) (by ktr_rel) ?_
      clear O; intro s₁₃ e₁₃ O
      refine r_stc V (hck "keys" (by ktr_rel)) O (by ktr_rel) (by ktr_rel) (by ktr_rel) ?_
      clear O; intro s₁₄ e₁₄ O
      exact K c0 c1 c2 c3 c4 c5 _ _ _ _ _ _ _ _ _ (by ktr_rel) hys nsq hkq nsl nsk hLK (O.pick (by ktr_rel))
end
end
section
section
open PySem.SeqAt
theorem fold_ins_mem {x : Key} : ∀ (l sp : List Key), x ∈ l.foldl ins sp ↔ x ∈ sp ∨ x ∈ l
  | [], sp => by simp
  | y :: l, sp => by
    rw [List.foldl_cons, fold_ins_mem l]
    have : x ∈ ins sp y ↔ x ∈ sp ∨ x = y := by
      unfold ins; split
      · rename_i h
        exact ⟨.inl, fun o => o.elim id fun e => e ▸ h⟩
      · rw [List.mem_append, List.mem_singleton]
    rw [this, List.mem_cons, or_assoc]
theorem fold_spots_mem {x : Key} : ∀ (row sp : List Key), x ∈ row.foldl (fun sp p => (anc p).foldl ins sp) sp ↔ x ∈ sp ∨ ∃ p ∈ row, x ∈ anc p
  | [], sp => by simp
  | y :: l, sp => by
    rw [List.foldl_cons, fold_spots_mem l, fold_ins_mem, or_assoc]
    simp
theorem spots_mem {x : Key} {row : List Key} : x ∈ spots row ↔ ∃ p ∈ row, x ∈ anc p := by unfold spots; rw [fold_spots_mem]; simp
theorem spots_row {row : List Key} (hg : ∀ p ∈ row, Good p) : ∀ p ∈ row, p ∈ spots row := fun p hp => spots_mem.mpr ⟨p, hp, anc_mem.mpr ⟨(hg p hp).1, List.prefix_refl _⟩⟩
theorem spots_anc {row : List Key} : ∀ p ∈ spots row, ∀ q ∈ anc p, q ∈ spots row := fun p hp q hq => by
  obtain ⟨r, hr, h⟩ := spots_mem.mp hp
  exact spots_mem.mpr ⟨r, hr, anc_mem.mpr ⟨(anc_mem.mp hq).1, (anc_mem.mp hq).2.trans (anc_mem.mp h).2⟩⟩
theorem spots_good {row : List Key} (hg : ∀ p ∈ row, Good p) : ∀ p ∈ spots row, Good p := fun p hp => by
  obtain ⟨r, hr, h⟩ := spots_mem.mp hp
  exact anc_good (hg r hr) h
theorem spots_le {row : List Key} (hg : ∀ p ∈ row, Good p) : (spots row).length ≤ 3 * row.length := by have := spots_len row [] hg; unfold spots; simpa using this
variable {w : World} {A : Around} {E : Value → Shared → Prop} {s : Shared} {h₀ : Heap} {env : Env}
structure LH (w : World) (h₀ : Heap) (env : Env) (L cO cF cU cY cL cQ cR cK cS dk dl dq lr : Addr) (row : List Key) (q0 : Key → Int) (vr : List Value) (kq kl : List (Str × Value)) (Z : List Cell) : Prop where
  V : EnvOK env L lwNm (lwCl cO cF cU cY cL cQ cR cK cS) lwGl
  hck : ∀ x ∈ lwCn, env.kindOf x = some .cell
  hvr : StrsAre vr (row.map S)
  r4 : row.length = 4
  hg : ∀ p ∈ row, Good p
  nsq : NS dq
  nsl : NS dl
  nsk : NS dk
  hq : QD q0 12 kq
  hq1 : ∀ k ∈ qKeys, 1 ≤ q0 k
  hlr : (lr, lstP vr) ∈ Z
  hdq : (dq, dctP w kq) ∈ Z
  hdl : (dl, dctP w kl) ∈ Z
  kll : kl.map (·.1) = (spots row).map S
  hln : ∀ k ∈ spots row, ∃ a vs, valueAt kl (S k) = some (.ref a) ∧ (a, lstP vs) ∈ Z ∧ StrsAre vs ((anc k).map S)
  lk : ∀ G : Addr → (Obj → Prop) → Prop, (∀ p ∈ Z, G p.1 p.2) → LKG w G (spots row) dl dk
theorem LH.mono {L cO cF cU cY cL cQ cR cK cS dk dl dq lr : Addr} {row : List Key} {q0 : Key → Int} {vr : List Value} {kq kl : List (Str × Value)} {Z Z' : List Cell} (H : LH w h₀ env L cO cF cU cY cL cQ cR cK cS dk dl dq lr row q0 vr kq kl Z) (hs : ∀ p ∈ Z, p ∈ Z') :
    LH w h₀ env L cO cF cU cY cL cQ cR cK cS dk dl dq lr row q0 vr kq kl Z' :=
  ⟨H.V, H.hck, H.hvr, H.r4, H.hg, H.nsq, H.nsl, H.nsk, H.hq, H.hq1, hs _ H.hlr, hs _ H.hdq, hs _ H.hdl, H.kll, fun k hk => (H.hln k hk).imp fun _ h => h.imp fun _ h => ⟨h.1, hs _ h.2.1, h.2.2⟩, fun G hG => H.lk G fun p hp => hG p (hs p hp)⟩
theorem LH.toLK {L cO cF cU cY cL cQ cR cK cS dk dl dq lr : Addr} {row : List Key} {q0 : Key → Int} {vr : List Value} {kq kl : List (Str × Value)} {Z Φ : List Cell} {h : Heap} (H : LH w h₀ env L cO cF cU cY cL cQ cR cK cS dk dl dq lr row q0 vr kq kl Z) (O : Own h₀ h Φ) (hs : ∀ p ∈ Z, p ∈ Φ) : LK w h (spots row) dl dk :=
  (H.lk _ fun p hp => O.get (hs p hp)).lk
noncomputable abbrev lwE (L cO cF cU cY cL cQ cR cK cS dk dl dq lr l : Addr) (ls : List (Option Value)) (vO vF vU vK : Option Value) (Z : List Cell) : List Cell :=
  (L, locP lwNm ls) :: (cO, celP vO) :: (cF, celP vF) :: (cU, celP vU) :: (cY, celP (some (.ref dk))) :: (cL, celP (some (.ref dl))) :: (cQ, celP (some (.ref dq))) :: (cR, celP (some (.ref lr))) :: (cK, celP vK) :: Z
theorem lwE_sub {L cO cF cU cY cL cQ cR cK cS dk dl dq lr l : Addr} {ls : List (Option Value)} {vO vF vU vK : Option Value} {Z : List Cell} : ∀ p ∈ Z, p ∈ lwE L cO cF cU cY cL cQ cR cK cS dk dl dq lr l ls vO vF vU vK Z := fun p hp => by ktr_rel
theorem list4 {α : Type} {l : List α} (h : l.length = 4) : ∃ a b c d, l = [a, b, c, d] := by
  match l, h with
  | [a, b, c, d], _ => exact ⟨a, b, c, d, rfl⟩
theorem list2 {α : Type} {l : List α} (h : l.length = 2) : ∃ a b, l = [a, b] := by
  match l, h with
  | [a, b], _ => exact ⟨a, b, rfl⟩
variable {L cO cF cU cY cL cQ cR cK cS dk dl dq lr l : Addr} {row : List Key} {q0 : Key → Int} {vr : List Value} {kq kl : List (Str × Value)} {Z : List Cell}
set_option maxHeartbeats 4000000 in
/-- runs, over the cell of runs alone -/
theorem law_p2c {vU : Option Value} {W : List Cell} {Q : Flow → Shared → Prop} (B : Base w h₀) (R : Rm A 9) (H : (LH w h₀ env L cO cF cU cY cL cQ cR cK cS dk dl dq lr row q0 vr kq kl Z)) (O : Own h₀ s.heap ((cU, celP vU) :: (Z ++ W)))
    (hcR : (cR, celP (some (.ref lr))) ∈ W) (hcQ : (cQ, celP (some (.ref dq))) ∈ W) (hcL : (cL, celP (some (.ref dl))) ∈ W) (hcY : (cY, celP (some (.ref dk))) ∈ W)
    (K : ∀ lU u0 u1 t0 t1 Z' s', Sm s s' → (LH w h₀ env L cO cF cU cY cL cQ cR cK cS dk dl dq lr row q0 vr kq kl Z') → (lU, lstP [.ref u0, .ref u1]) ∈ Z' → (u0, lstP t0) ∈ Z' → (u1, lstP t1) ∈ Z' → StrsAre t0 ((runR q0 row).1.map S) → StrsAre t1 ((runR q0 row.reverse).1.map S) →
      Own h₀ s'.heap ((cU, celP (some (.ref lU))) :: (Z' ++ W)) → wpAny (model PR w) A (execs ((bodyAt 31).drop 5) env) Q E s') :
    wpAny (model PR w) A (execs ((bodyAt 31).drop 4) env) Q E s := by
  have hh := R.hd
  have V := H.V
  have hck := H.hck
  have hvl : vr.length = 4 := by rw [H.hvr.length]; simpa using H.r4
  have hkl : kl.length ≤ 12 := by
    have h1 := congrArg List.length H.kll
    have h2 := spots_le H.hg
    rw [H.r4] at h2
    simp only [List.length_map] at h1
    lia
  obtain ⟨a, b, c, d, hvr⟩ := list4 hvl
  have Hlr := List.mem_append_left W H.hlr
  have oR := List.mem_append_right Z hcR
  refine r_seq rfl (wpAny_Assign_Name (hs := sw_cell (hck "runs" (by ktr_rel))) (r_lc V (blkOK_of (nm := ["files"]) (cn := []) (fn := ["keys", "lines", "quotas"]) (gl := ["_law_run", "list"]) (by kernel_rfl)) (cl' := [("quotas", cQ), ("lines", cL), ("keys", cY)]) rfl (fun p hp => ?_) (Tuple_ (r_arg (r_ldc V O (by ktr_rel) (by ktr_rel) (r_arg (Subscript_ (r_ldc V O (by ktr_rel) (by ktr_rel) (wpAny_Slice (r_part_none (r_part_none (r_part (UnaryOp_ (wpAny_Constant_int (PyProof.Rows.neg_int ?_)))))))))))))))
  · simp only [List.mem_cons, List.not_mem_nil, or_false] at hp ⊢
    rcases hp with rfl | rfl | rfl <;> simp
  refine r_lsliceS (s := { s with toks := s.toks + 1 + 1 }) (O.kp Kp.rfl) (.cell (by ktr_rel)) .none .none (.int (-1) _) (by decide) (by lia) ?_
  clear O; intro rv s₂ e₂ O
  have hrv : StrsAre ((slicePick vr.toArray none none (some (-1))).toList) (row.reverse.map S) := by
    rw [hvr, slice_rev4]
    have h := H.hvr
    rw [hvr] at h
    obtain ⟨p, q, r, t, rfl⟩ := list4 H.r4
    cases h with | cons _ _ h => cases h with | cons _ _ h => cases h with | cons _ _ h => cases h with | cons _ _ h => exact .cons _ _ (.cons _ _ (.cons _ _ (.cons _ _ .nil)))
  refine r_args (r_newTup O ?_)
  clear O; intro tp s₃ e₃ _ _ O
  refine r_it_tuple O (.cell (by ktr_rel)) ?_
  clear O; intro I s₄ e₄ O
  refine lc_block V (blkOK_of (nm := ["files"]) (cn := []) (fn := ["keys", "lines", "quotas"]) (gl := ["_law_run", "list"]) (by kernel_rfl)) rfl ((iter_tuple (l := tp) (xs := [.ref lr, .ref rv]) hh).toT self_tuple) (show 2 ≤ 100000 by decide)
    (fun C cs i ys Ψ => ∃ v0 Y, (∀ p ∈ Z, p ∈ Y) ∧ ys.length = i ∧ (∀ (j : Nat) y, ys[j]? = some y → ∃ u tv, y = .ref u ∧ (u, lstP tv) ∈ Y ∧ StrsAre tv ((runR q0 (if j = 0 then row else row.reverse)).1.map S)) ∧
      Ψ = (C, locP ["files"] [v0]) :: (tp, tupP [.ref lr, .ref rv]) :: (rv, lstP ((slicePick vr.toArray none none (some (-1))).toList)) :: (cU, celP vU) :: ((Y) ++ W)) O ?_ ?_ ?_ ?_
  · intro C cs hcs
    obtain rfl := cs_nil hcs
    exact ⟨_, Z, fun _ h => h, rfl, fun j y h => by simp at h, rfl⟩
  · intro C cs D i ys Ψ _ jy0
    refine ex2 jy0 fun v0 Y jx0 => an4 jx0 fun _ _ _ jr03 => ?_
    clear jx0 jy0
    subst jr03
    exact .cell (by ktr_rel)
  · rintro C cs D cenv V' hck' hfr hcs i v Ψ ys Ψ' s₅ hi jy0 ⟨hv', rfl⟩ e₅ O
    refine ex2 jy0 fun v0 Y jx0 => an4 jx0 fun hY hyl hys jr03 => ?_
    clear jx0 jy0
    subst jr03
    obtain rfl := cs_nil hcs
    have HY := H.mono hY
    have Hlr := HY.hlr
    have oQ := List.mem_append_right Y hcQ
    have oL := List.mem_append_right Y hcL
    have oY := List.mem_append_right Y hcY
    obtain ⟨la, vs, rfl, hvs, hla⟩ : ∃ la vs, v = .ref la ∧ StrsAre vs ((if i = 0 then row else row.reverse).map S) ∧ (la, lstP vs) ∈ (rv, lstP ((slicePick vr.toArray none none (some (-1))).toList)) :: Y := by
      match i, hv' with
      | 0, hv' => exact ⟨lr, vr, (Option.some.inj hv').symm, H.hvr, List.mem_cons_of_mem _ Hlr⟩
      | 1, hv' => exact ⟨rv, _, (Option.some.inj hv').symm, hrv, List.mem_cons_self⟩
      | j + 2, hv' => simp at hv'
    dsimp only [List.cons_append, List.nil_append] at O V'
    refine PyProof.Rows.assign_Name (r_st V' O (by ktr_rel) (by ktr_rel) (by ktr_rel) ?_)
    clear O; intro s₆ e₆ O
    refine r_t0 ?_
    rw [if_pos rfl]
    have Hdl := List.mem_append_left W HY.hdl
    have Hdq := List.mem_append_left W HY.hdq
    have oA : ∀ p ∈ Y, p ∈ Y ++ W := fun p hp => List.mem_append_left W hp
    refine r_call (r_glob V' (B.keeps O.keep) (by ktr_rel) (by ktr_rel) (r_fn (fn_run w).FA (B.keeps O.keep) (r_arg (r_ld V' O (by ktr_rel) (by ktr_rel) (r_arg (r_ldc V' O (by ktr_rel) (by ktr_rel) (r_arg (r_ldc V' O (by ktr_rel) (by ktr_rel) (r_arg (r_ldc V' O (by ktr_rel) (by ktr_rel) (r_arg (r_call (r_boot V' (B.keeps O.keep) (by ktr_rel) (by ktr_rel) (r_ty (r_arg (r_ldc V' O (by ktr_rel) (by ktr_rel) (r_args (r_listOf hh O HY.nsl (.cell (by ktr_rel)) (by lia) ?_))))))))))))))))))
    clear O; intro as avs s₇ havs e₇ O
    rw [H.kll] at havs
    refine r_args ⟨B.keeps O.keep, ?_⟩
    have hrow : ∀ p ∈ (if i = 0 then row else row.reverse), p ∈ row := fun p hp => by split at hp <;> simpa using hp
    have h4 : (if i = 0 then row else row.reverse).length = 4 := by split <;> simp [H.r4]
    have hsl : (spots row).length ≤ 100 := by have := spots_le H.hg; rw [H.r4] at this; lia
    have hla2 : ∃ o, s₇.heap.get? la = some o ∧ lstP vs o := by
      rcases List.mem_cons.mp hla with h | h
      · obtain ⟨ha, hb⟩ := Prod.mk.inj h
        rw [ha, hb]
        exact O.get (by ktr_rel)
      · have := oA _ h
        exact O.get (by ktr_rel)
    refine law_run_spec (B.keeps O.keep) (R.le (by decide)) hla2 hvs (fun p hp => spots_row H.hg p (hrow p hp)) ⟨HY.hq, O.get (by ktr_rel), HY.nsq⟩ (fun k hk => by have := H.hq1 k hk; lia) (HY.toLK O (fun p hp => by have := oA p hp; ktr_rel)) HY.nsl HY.nsk (spots_good H.hg) spots_anc (O.get (by ktr_rel)) havs (fun _ h => h) (by lia) hsl fun u tv s₈ e₈ k₈ htv N₈ => ?_
    replace O := O.new k₈ N₈
    dsimp only [List.cons_append, List.nil_append] at O
    refine ⟨(C, locP ["files"] [some (.ref la)]) :: (tp, tupP [.ref lr, .ref rv]) :: (rv, lstP ((slicePick vr.toArray none none (some (-1))).toList)) :: (cU, celP vU) :: (((u, lstP tv) :: Y) ++ W), by ktr_rel, ?_, ei2 _ _ ⟨fun p hp => List.mem_cons_of_mem _ (hY p hp), by simp [hyl], ?_, rfl⟩⟩
    · exact O.pick (by ktr_rel)
    · intro j y hj
      rw [List.getElem?_append] at hj
      split at hj
      · obtain ⟨u', tv', h1, h2, h3⟩ := hys j y hj
        exact ⟨u', tv', h1, List.mem_cons_of_mem _ h2, h3⟩
      · have hjl : j = i := by
          have := (List.getElem?_eq_some_iff.mp hj).1
          simp only [List.length_singleton] at this
          lia
        subst hjl
        rw [hyl, Nat.sub_self] at hj
        exact ⟨u, tv, (Option.some.inj hj).symm, List.mem_cons_self, htv⟩
  · intro C cs D ys Ψ s₅ jy0 e₅ O
    refine ex2 jy0 fun v0 Y jx0 => an4 jx0 fun hY hyl hys jr03 => ?_
    clear jx0 jy0
    subst jr03
    obtain ⟨y0, y1, rfl⟩ := list2 hyl
    refine ex2 (hys 0 _ rfl) fun u0 t0 jx => ?_
    refine an3 jx fun jr0 hm0 ht0 => ?_
    clear jx
    subst jr0
    refine ex2 (hys 1 _ rfl) fun u1 t1 jx => ?_
    refine an3 jx fun jr0 hm1 ht1 => ?_
    clear jx
    subst jr0
    refine post_none O (.tail .head) ?_
    clear O; intro s₆ e₆ O
    refine r_stc V (hck "runs" (by ktr_rel)) O (by ktr_rel) (by ktr_rel) (by ktr_rel) ?_
    clear O; intro s₇ e₇ O
    refine K D u0 u1 t0 t1 ((D, lstP [.ref u0, .ref u1]) :: Y) s₇ (by ktr_rel) (H.mono fun p hp => List.mem_cons_of_mem _ (hY p hp)) List.mem_cons_self (List.mem_cons_of_mem _ hm0) (List.mem_cons_of_mem _ hm1) ht0 ht1 ?_
    exact O.pick (by ktr_rel)
set_option maxHeartbeats 4000000 in
/-- runs -/
theorem law_p2 {ls : List (Option Value)} {vO vF vU vK : Option Value} {Q : Flow → Shared → Prop} (B : Base w h₀) (R : Rm A 9) (H : (LH w h₀ env L cO cF cU cY cL cQ cR cK cS dk dl dq lr row q0 vr kq kl Z)) (O : Own h₀ s.heap (lwE L cO cF cU cY cL cQ cR cK cS dk dl dq lr l ls vO vF vU vK Z))
    (K : ∀ lU u0 u1 t0 t1 Z' s', Sm s s' → (LH w h₀ env L cO cF cU cY cL cQ cR cK cS dk dl dq lr row q0 vr kq kl Z') → (lU, lstP [.ref u0, .ref u1]) ∈ Z' → (u0, lstP t0) ∈ Z' → (u1, lstP t1) ∈ Z' → StrsAre t0 ((runR q0 row).1.map S) → StrsAre t1 ((runR q0 row.reverse).1.map S) →
      Own h₀ s'.heap (lwE L cO cF cU cY cL cQ cR cK cS dk dl dq lr l ls vO vF (some (.ref lU)) vK Z') → wpAny (model PR w) A (execs ((bodyAt 31).drop 5) env) Q E s') :
    wpAny (model PR w) A (execs ((bodyAt 31).drop 4) env) Q E s := by
  dsimp only [lwE] at O
  have O1 : Own h₀ s.heap ((cU, celP vU) :: ([(L, locP lwNm ls), (cO, celP vO), (cF, celP vF), (cY, celP (some (.ref dk))), (cL, celP (some (.ref dl))), (cQ, celP (some (.ref dq))), (cR, celP (some (.ref lr))), (cK, celP vK)] ++ Z)) := O.pick (by ktr_rel)
  refine law_p2c B R H (O1.perm (List.Perm.cons _ List.perm_append_comm)) (by ktr_rel) (by ktr_rel) (by ktr_rel) (by ktr_rel) fun lU u0 u1 t0 t1 Z' s' e hs a1 a2 a3 a4 a5 O2 => ?_
  replace O2 := O2.perm (List.Perm.cons _ List.perm_append_comm)
  refine K lU u0 u1 t0 t1 Z' s' e hs a1 a2 a3 a4 a5 ?_
  dsimp only [lwE, List.cons_append, List.nil_append] at O2 ⊢
  exact O2.pick (by ktr_rel)
end
end
section
section
variable {w : World} {A : Around} {E : Value → Shared → Prop} {s : Shared} {h₀ : Heap} {Φ : List Cell} {env : Env} {L : Addr} {nm gl cn fn : List Str} {cl : List (Str × Addr)}
/-- a list comprehension over a list, the invariant as a state: F tells the cells, P the facts -/
theorem lc_listS {St : Type} {elt : Expr} {x : Str} {px : Pos} {ifs : List Expr} {scope : Scope} {pos : Pos} {I l : Addr} {xs : List Value} {use : Option (Value → Sem Unit)} {iter : Expr} {Q : Value → Shared → Prop} {nm' gl' : List Str} {cl' : List (Str × Addr)}
    (F : Addr → List (Str × Addr) → St → List Cell) (P : List (Str × Addr) → Nat → List Value → St → Prop)
    (hh : A.handled = none) (V : EnvOK env L nm cl gl) (H : BlkOK scope nm' cn fn gl') (hcl : cl'.map (·.1) = fn.reverse) (hn : xs.length ≤ 100000) (O : Own h₀ s.heap ((I, litP l 0) :: Φ))
    (start : ∀ C cs, cs.map (·.1) = cn.reverse → ∃ z, P cs 0 [] z ∧ cell cs ++ (C, locP nm' (noneOf nm')) :: Φ = F C cs z) (hN : ∀ C cs D i ys z, P cs i ys z → Has h₀ ((D, lstP ys) :: F C cs z) l (lstP xs))
    (turn : ∀ C cs D cenv, EnvOK cenv C nm' (cs ++ cl') gl' → (∀ x ∈ cn, cenv.kindOf x = some .cell) → cs.map (·.1) = cn.reverse → ∀ i v z ys s₁, xs[i]? = some v → P cs i ys z → Sm s s₁ → Own h₀ s₁.heap ((I, litP l (i + 1)) :: (D, lstP ys) :: F C cs z) →
      ∀ (T : Shared → Prop) (U : Value → Shared → Prop), (∀ z' s', Sm s s' → Own h₀ s'.heap ((I, litP l (i + 1)) :: (D, lstP ys) :: F C cs z') → P cs (i + 1) ys z' → T s') →
      (∀ z' y s', Sm s s' → Own h₀ s'.heap ((I, litP l (i + 1)) :: (D, lstP ys) :: F C cs z') → P cs (i + 1) (ys ++ [y]) z' → U y s') →
      wpAny (model PR w) A (assign (.Name x px) cenv v) (fun _ s₃ => wTests w A (fun _ _ => False) ifs cenv (fun ok s₄ =>
        if ok = true then wpAny (model PR w) A (eval elt cenv) U (fun _ _ => False) s₄ else T s₄) s₃) (fun _ _ => False) s₁)
    (done : ∀ C cs D ys z s₁, cs.map (·.1) = cn.reverse → P cs xs.length ys z → Sm s s₁ → Own h₀ s₁.heap ((D, lstP ys) :: F C cs z) → compPost (model PR w) A E use Q (.ref D) C (.ok .next) s₁) :
    LC w A E use env elt (.Name x px) iter ifs scope cl' pos (.ref I) Q s := by
  refine lc_block V H hcl ((iter_list (l := l) (xs := xs) hh).toT self_list) hn (fun C cs i ys Ψ => cs.map (·.1) = cn.reverse ∧ ∃ z, P cs i ys z ∧ Ψ = F C cs z) O ?_ ?_ ?_ ?_
  · intro C cs hcs
    obtain ⟨z, hz, e⟩ := start C cs hcs
    exact ⟨hcs, z, hz, e⟩
  · rintro C cs D i ys Ψ _ ⟨_, z, hz, rfl⟩
    exact hN C cs D i ys z hz
  · rintro C cs D cenv V' hck hfr hcs i v Ψ ys Ψ' s₁ hi ⟨_, z, hz, rfl⟩ ⟨hv, rfl⟩ e O
    exact turn C cs D cenv V' hck hcs i v z ys s₁ hv hz e O _ _ (fun z' s' e' O' p => ⟨_, e', O', hcs, z', p, rfl⟩) (fun z' y s' e' O' p => ⟨_, e', O', hcs, z', p, rfl⟩)
  · rintro C cs D ys Ψ s₁ ⟨hcs, z, hz, rfl⟩ e O
    exact done C cs D ys z s₁ hcs hz e O
end
end
section
section
open PySem.SeqAt
variable {w : World} {A : Around} {E : Value → Shared → Prop} {s : Shared} {h₀ : Heap} {env : Env}
variable {L cO cF cU cY cL cQ cR cK cS dk dl dq lr l : Addr} {row : List Key} {q0 : Key → Int} {vr : List Value} {kq kl : List (Str × Value)} {Z : List Cell}
set_option maxHeartbeats 4000000 in
/-- rooms, over the locals alone -/
theorem law_p3c {lU u0 u1 : Addr} {t0 t1 : List Value} {T0 T1 : List Key} {v1 v2 v3 v4 v5 v6 : Option Value} {W : List Cell} {Q : Flow → Shared → Prop} (B : Base w h₀) (R : Rm A 9) (H : LH w h₀ env L cO cF cU cY cL cQ cR cK cS dk dl dq lr row q0 vr kq kl Z) (O : Own h₀ s.heap ((L, locP lwNm [v1, v2, v3, v4, v5, v6]) :: (Z ++ W)))
    (hcU : (cU, celP (some (.ref lU))) ∈ W) (hcQ : (cQ, celP (some (.ref dq))) ∈ W) (hcL : (cL, celP (some (.ref dl))) ∈ W)
    (hU : (lU, lstP [.ref u0, .ref u1]) ∈ Z) (h0 : (u0, lstP t0) ∈ Z) (h1 : (u1, lstP t1) ∈ Z) (ht0 : StrsAre t0 (T0.map S)) (ht1 : StrsAre t1 (T1.map S)) (g0 : ∀ p ∈ T0, Good p) (g1 : ∀ p ∈ T1, Good p) (z0 : T0.length ≤ 20) (z1 : T1.length ≤ 20)
    (K : ∀ lM r0 r1 m0 m1 Z' s', Sm s s' → (∀ p ∈ Z, p ∈ Z') → (lM, lstP [.ref r0, .ref r1]) ∈ Z' → (r0, dctP w m0) ∈ Z' → (r1, dctP w m1) ∈ Z' → NS r0 → NS r1 → RM (roomsF q0 T0) (inQ (spots row)) m0 → RM (roomsF q0 T1) (inQ (spots row)) m1 →
      Own h₀ s'.heap ((L, locP lwNm [v1, v2, some (.ref lM), v4, v5, v6]) :: (Z' ++ W)) → wpAny (model PR w) A (execs ((bodyAt 31).drop 6) env) Q E s') :
    wpAny (model PR w) A (execs ((bodyAt 31).drop 5) env) Q E s := by
  have hh := R.hd
  have V := H.V
  have oU := List.mem_append_right Z hcU
  have oM := List.mem_append_left W hU
  refine r_seq rfl (r_lcu V (by ktr_rel) (blkOK_of (nm := ["run"]) (cn := []) (fn := ["lines", "quotas"]) (gl := ["_law_rooms"]) (by kernel_rfl)) (cl' := [("quotas", cQ), ("lines", cL)]) rfl (fun p hp => ?_) rfl (by kernel_rfl) (r_ldc V O (by ktr_rel) (by ktr_rel) (r_it_list O (.cell (by ktr_rel)) ?_)))
  · simp only [List.mem_cons, List.not_mem_nil, or_false] at hp ⊢
    rcases hp with rfl | rfl <;> simp
  clear O; intro I s₄ e₄ O
  refine lc_listS (St := Option Value × List Cell) (xs := [.ref u0, .ref u1]) (fun C cs z => (C, locP ["run"] [z.1]) :: (L, locP lwNm [v1, v2, v3, v4, v5, v6]) :: (z.2 ++ W))
    (fun cs i ys z => (∀ p ∈ Z, p ∈ z.2) ∧ ys.length = i ∧ ∀ (j : Nat) y, ys[j]? = some y → ∃ u tv, y = .ref u ∧ NS u ∧ (u, dctP w tv) ∈ z.2 ∧ RM (roomsF q0 (if j = 0 then T0 else T1)) (inQ (spots row)) tv)
    hh V (blkOK_of (nm := ["run"]) (cn := []) (fn := ["lines", "quotas"]) (gl := ["_law_rooms"]) (by kernel_rfl)) rfl (show 2 ≤ 100000 by decide) O ?_ ?_ ?_ ?_
  · intro C cs hcs
    obtain rfl := cs_nil hcs
    exact ⟨(none, Z), ⟨fun _ h => h, rfl, fun j y h => by simp at h⟩, rfl⟩
  · intro C cs D i ys z hP
    have := List.mem_append_left W (hP.1 _ hU)
    exact .cell (by ktr_rel)
  · intro C cs D cenv V' hck' hcs i v z ys s₅ hv' hP e₅ O T U hT hU'
    obtain rfl := cs_nil hcs
    have HY := H.mono hP.1
    obtain ⟨la, vs, Tk, rfl, hvs, hla, hTk, gT, zT⟩ : ∃ la vs T, v = .ref la ∧ StrsAre vs (T.map S) ∧ (la, lstP vs) ∈ z.2 ∧ T = (if i = 0 then T0 else T1) ∧ (∀ p ∈ T, Good p) ∧ T.length ≤ 20 := by
      match i, hv' with
      | 0, hv' => exact ⟨u0, t0, T0, (Option.some.inj hv').symm, ht0, hP.1 _ h0, rfl, g0, z0⟩
      | 1, hv' => exact ⟨u1, t1, T1, (Option.some.inj hv').symm, ht1, hP.1 _ h1, rfl, g1, z1⟩
      | j + 2, hv' => simp at hv'
    replace hla := List.mem_append_left W hla
    have Hdq := List.mem_append_left W HY.hdq
    have oQ := List.mem_append_right z.2 hcQ
    have oL := List.mem_append_right z.2 hcL
    have oA : ∀ p ∈ z.2, p ∈ z.2 ++ W := fun p hp => List.mem_append_left W hp
    dsimp only [List.cons_append, List.nil_append] at V'
    refine PyProof.Rows.assign_Name (r_st V' O (by ktr_rel) (by ktr_rel) (by ktr_rel) ?_)
    clear O; intro s₆ e₆ O
    refine r_t0 ?_
    rw [if_pos rfl]
    refine r_call (r_glob V' (B.keeps O.keep) (by ktr_rel) (by ktr_rel) (r_fn (fn_rooms w).FA (B.keeps O.keep) (r_arg (r_ld V' O (by ktr_rel) (by ktr_rel) (r_arg (r_ldc V' O (by ktr_rel) (by ktr_rel) (r_arg (r_ldc V' O (by ktr_rel) (by ktr_rel) (r_args ⟨B.keeps O.keep, ?_⟩)))))))))
    have hsl : (spots row).length ≤ 1000 := by have := spots_le H.hg; rw [H.r4] at this; lia
    refine law_rooms_spec (B.keeps O.keep) (R.le (by decide)) (O.get (by ktr_rel)) hvs gT zT ⟨HY.hq, O.get (by ktr_rel), HY.nsq⟩ (HY.toLK O (fun p hp => by have := oA p hp; ktr_rel)) HY.nsl (spots_good H.hg) hsl fun u tv s₈ e₈ k₈ nsu htv N₈ => ?_
    replace O := O.new k₈ N₈
    dsimp only [List.cons_append, List.nil_append] at O
    refine hU' (some (.ref la), (u, dctP w tv) :: z.2) _ _ (by ktr_rel) (O.pick (by ktr_rel)) ⟨fun p hp => List.mem_cons_of_mem _ (hP.1 p hp), by rw [List.length_append, hP.2.1]; rfl, ?_⟩
    intro j y hj
    rw [List.getElem?_append] at hj
    split at hj
    · obtain ⟨u', tv', h1, h2, h3, h4⟩ := hP.2.2 j y hj
      exact ⟨u', tv', h1, h2, List.mem_cons_of_mem _ h3, h4⟩
    · have hjl : j = i := by
        have := (List.getElem?_eq_some_iff.mp hj).1
        have h2 := hP.2.1
        simp only [List.length_singleton] at this
        lia
      subst hjl
      rw [hP.2.1, Nat.sub_self] at hj
      exact ⟨u, tv, (Option.some.inj hj).symm, nsu, List.mem_cons_self, hTk ▸ htv⟩
  · intro C cs D ys z s₅ _ hP e₅ O
    obtain ⟨y0, y1, rfl⟩ := list2 hP.2.1
    obtain ⟨r0, m0, rfl, ns0, hm0, hr0⟩ := hP.2.2 0 _ rfl
    obtain ⟨r1, m1, rfl, ns1, hm1, hr1⟩ := hP.2.2 1 _ rfl
    refine post_some (h₀ := h₀) (PyProof.Rows.assign_Name (r_st V O (by ktr_rel) (by ktr_rel) (by ktr_rel) ?_))
    clear O; intro s₆ e₆ O
    refine ei4 _ _ _ _ ⟨O, .tail .head, ?_⟩
    clear O; intro s₇ e₇ O
    refine K D r0 r1 m0 m1 ((D, lstP [.ref r0, .ref r1]) :: z.2) s₇ (by ktr_rel) (fun p hp => List.mem_cons_of_mem _ (hP.1 p hp)) List.mem_cons_self (List.mem_cons_of_mem _ hm0) (List.mem_cons_of_mem _ hm1) ns0 ns1 hr0 hr1 ?_
    exact O.pick (by ktr_rel)
set_option maxHeartbeats 4000000 in
/-- rooms -/
theorem law_p3 {lU u0 u1 : Addr} {t0 t1 : List Value} {T0 T1 : List Key} {v1 v2 v3 v4 v5 v6 vO vF vK : Option Value} {Q : Flow → Shared → Prop} (B : Base w h₀) (R : Rm A 9) (H : (LH w h₀ env L cO cF cU cY cL cQ cR cK cS dk dl dq lr row q0 vr kq kl Z)) (O : Own h₀ s.heap (lwE L cO cF cU cY cL cQ cR cK cS dk dl dq lr l [v1, v2, v3, v4, v5, v6] vO vF (some (.ref lU)) vK Z))
    (hU : (lU, lstP [.ref u0, .ref u1]) ∈ Z) (h0 : (u0, lstP t0) ∈ Z) (h1 : (u1, lstP t1) ∈ Z) (ht0 : StrsAre t0 (T0.map S)) (ht1 : StrsAre t1 (T1.map S)) (g0 : ∀ p ∈ T0, Good p) (g1 : ∀ p ∈ T1, Good p) (z0 : T0.length ≤ 20) (z1 : T1.length ≤ 20)
    (K : ∀ lM r0 r1 m0 m1 Z' s', Sm s s' → (∀ p ∈ Z, p ∈ Z') → (lM, lstP [.ref r0, .ref r1]) ∈ Z' → (r0, dctP w m0) ∈ Z' → (r1, dctP w m1) ∈ Z' → NS r0 → NS r1 → RM (roomsF q0 T0) (inQ (spots row)) m0 → RM (roomsF q0 T1) (inQ (spots row)) m1 →
      Own h₀ s'.heap (lwE L cO cF cU cY cL cQ cR cK cS dk dl dq lr l [v1, v2, some (.ref lM), v4, v5, v6] vO vF (some (.ref lU)) vK Z') → wpAny (model PR w) A (execs ((bodyAt 31).drop 6) env) Q E s') :
    wpAny (model PR w) A (execs ((bodyAt 31).drop 5) env) Q E s := by
  dsimp only [lwE] at O
  have O1 : Own h₀ s.heap ((L, locP lwNm [v1, v2, v3, v4, v5, v6]) :: ([(cO, celP vO), (cF, celP vF), (cU, celP (some (.ref lU))), (cY, celP (some (.ref dk))), (cL, celP (some (.ref dl))), (cQ, celP (some (.ref dq))), (cR, celP (some (.ref lr))), (cK, celP vK)] ++ Z)) := O
  refine law_p3c B R H (O1.perm (List.Perm.cons _ List.perm_append_comm)) (by ktr_rel) (by ktr_rel) (by ktr_rel) hU h0 h1 ht0 ht1 g0 g1 z0 z1 fun lM r0 r1 m0 m1 Z' s' e hs a1 a2 a3 a4 a5 a6 a7 O2 => ?_
  exact K lM r0 r1 m0 m1 Z' s' e hs a1 a2 a3 a4 a5 a6 a7 (O2.perm (List.Perm.cons _ List.perm_append_comm))
end
end
section
section
open PySem.SeqAt
theorem spots_nodup {row : List Key} : (spots row).Nodup := by
  have h1 : ∀ (l sp : List Key), sp.Nodup → (l.foldl ins sp).Nodup := by
    intro l
    induction l with
    | nil => intro sp h; exact h
    | cons x l ih => intro sp h; exact ih _ (ins_nodup h)
  have h2 : ∀ (r sp : List Key), sp.Nodup → (r.foldl (fun sp p => (anc p).foldl ins sp) sp).Nodup := by
    intro r
    induction r with
    | nil => intro sp h; exact h
    | cons x l ih => intro sp h; exact ih _ (h1 _ _ h)
  exact h2 row [] List.nodup_nil
variable {w : World} {A : Around} {E : Value → Shared → Prop} {s : Shared} {h₀ : Heap} {Φ : List Cell} {env : Env}
theorem r_fullM {f : Key → Int} {sp : List Key} {kvs : List (Str × Value)} {q : Key} {t : Tok} {Q : Value → Shared → Prop} (hr : RM f (inQ sp) kvs) (hsp : ∀ p ∈ sp, Good p) (nd : sp.Nodup) (hq : q ∈ sp) (O : Own h₀ s.heap Φ) (h : ∀ s', Sm s s' → Own h₀ s'.heap Φ → Q (.bool (full0 f q)) s') :
    wpAny (model PR w) A (compareOp .Eq ((valueAt kvs (S q)).getD .none) (.int 0 t)) Q E s := by
  have hg : ∀ p ∈ inQ sp, Good p := fun p hp => hsp p (List.mem_filter.mp hp).1
  by_cases hk : q ∈ qKeys
  · obtain ⟨u, e⟩ := hr.val hg (nd.filter _) (List.mem_filter.mpr ⟨hq, by simpa using hk⟩)
    rw [e]
    have := h s Sm.rfl O
    unfold full0 at this
    rw [decide_eq_true hk, Bool.true_and] at this
    exact r_rc (RcAt.int_int _ _ _ _) this
  · rw [hr.none hg (fun h => hk (by simpa using (List.mem_filter.mp h).2)) (hsp q hq).2]
    have := h s Sm.rfl O
    unfold full0 at this
    rw [decide_eq_false hk, Bool.false_and] at this
    exact r_rc (RcAt.none_int _ _) this
structure FD (q0 : Key → Int) (T row : List Key) (m : List (Str × Value)) (Y : List Cell) : Prop where
  at_ : ∀ p ∈ row, ∃ a vs, valueAt m (S p) = some (.ref a) ∧ (a, lstP vs) ∈ Y ∧ StrsAre vs ((fullL q0 T p).map S)
theorem FD.mono {q0 : Key → Int} {T row : List Key} {m : List (Str × Value)} {Y Y' : List Cell} (H : FD q0 T row m Y) (h : ∀ p ∈ Y, p ∈ Y') : FD q0 T row m Y' := ⟨fun p hp => (H.at_ p hp).imp fun _ x => x.imp fun _ x => ⟨x.1, h _ x.2.1, x.2.2⟩⟩
theorem FD.step {q0 : Key → Int} {T row : List Key} {m : List (Str × Value)} {Y : List Cell} {p : Key} {a : Addr} {vs : List Value} (H : FD q0 T row m Y) (hg : ∀ q ∈ row, Good q) (gp : Good p) (hv : StrsAre vs ((fullL q0 T p).map S)) : FD q0 T (row ++ [p]) (stored m (S p) (.ref a)) ((a, lstP vs) :: Y) := by
  refine ⟨fun q hq => ?_⟩
  rw [valueAt_stored]
  by_cases e : q = p
  · subst e
    rw [if_pos rfl]
    exact ⟨a, vs, rfl, List.mem_cons_self, hv⟩
  · have hq' : q ∈ row := by
      rcases List.mem_append.mp hq with h | h
      · exact h
      · exact absurd (List.mem_singleton.mp h) e
    rw [if_neg fun h => e (S_inj (hg q hq').2 gp.2 h)]
    obtain ⟨b, us, h1, h2, h3⟩ := H.at_ q hq'
    exact ⟨b, us, h1, List.mem_cons_of_mem _ h2, h3⟩
variable {L cO cF cU cY cL cQ cR cK cS dk dl dq lr l : Addr} {row : List Key} {q0 : Key → Int} {vr : List Value} {kq kl : List (Str × Value)} {Z : List Cell}
set_option maxHeartbeats 4000000 in
/-- full, over the cell of full alone -/
theorem law_p4c {lM r0 r1 : Addr} {m0 m1 : List (Str × Value)} {T0 T1 : List Key} {v1 v2 v4 v5 v6 vF : Option Value} {W : List Cell} {Q : Flow → Shared → Prop} (B : Base w h₀) (R : Rm A 9) (H : (LH w h₀ env L cO cF cU cY cL cQ cR cK cS dk dl dq lr row q0 vr kq kl Z)) (O : Own h₀ s.heap ((cF, celP vF) :: (Z ++ W)))
    (hL : (L, locP lwNm [v1, v2, some (.ref lM), v4, v5, v6]) ∈ W) (hcL : (cL, celP (some (.ref dl))) ∈ W) (hcR : (cR, celP (some (.ref lr))) ∈ W)
    (hM : (lM, lstP [.ref r0, .ref r1]) ∈ Z) (h0 : (r0, dctP w m0) ∈ Z) (h1 : (r1, dctP w m1) ∈ Z) (ns0 : NS r0) (ns1 : NS r1) (hm0 : RM (roomsF q0 T0) (inQ (spots row)) m0) (hm1 : RM (roomsF q0 T1) (inQ (spots row)) m1)
    (K : ∀ lF f0 f1 k0 k1 Z' s', Sm s s' → (∀ p ∈ Z, p ∈ Z') → (lF, lstP [.ref f0, .ref f1]) ∈ Z' → (f0, dctP w k0) ∈ Z' → (f1, dctP w k1) ∈ Z' → NS f0 → NS f1 → FD q0 T0 row k0 Z' → FD q0 T1 row k1 Z' →
      Own h₀ s'.heap ((cF, celP (some (.ref lF))) :: (Z' ++ W)) → wpAny (model PR w) A (execs ((bodyAt 31).drop 7) env) Q E s') :
    wpAny (model PR w) A (execs ((bodyAt 31).drop 6) env) Q E s := by
  have hh := R.hd
  have V := H.V
  have hck := H.hck
  have oL := List.mem_append_right Z hL
  have oM := List.mem_append_left W hM
  have hvl : vr.length = 4 := by rw [H.hvr.length]; simpa using H.r4
  refine r_seq rfl (wpAny_Assign_Name (hs := sw_cell (hck "full" (by ktr_rel))) (r_lc V (blkOK_of (nm := []) (cn := ["room"]) (fn := ["lines", "row"]) (gl := []) (by kernel_rfl)) (cl' := [("row", cR), ("lines", cL)]) rfl (fun p hp => ?_) (r_ld V O (by ktr_rel) (by ktr_rel) (r_it_list O (.cell (by ktr_rel)) ?_))))
  · simp only [List.mem_cons, List.not_mem_nil, or_false] at hp ⊢
    rcases hp with rfl | rfl <;> simp
  clear O; intro I s₁ e₁ O
  refine lc_block V (blkOK_of (nm := []) (cn := ["room"]) (fn := ["lines", "row"]) (gl := []) (by kernel_rfl)) rfl ((iter_list (l := lM) (xs := [.ref r0, .ref r1]) hh).toT self_list) (show 2 ≤ 100000 by decide)
    (fun C cs i ys Ψ => ∃ cp v0 Y, cs = [(("room" : Str), cp)] ∧ (∀ p ∈ Z, p ∈ Y) ∧ ys.length = i ∧ (∀ (j : Nat) y, ys[j]? = some y → ∃ u tv, y = .ref u ∧ NS u ∧ (u, dctP w tv) ∈ Y ∧ FD q0 (if j = 0 then T0 else T1) row tv Y) ∧
      Ψ = (cp, celP v0) :: (C, locP [] []) :: (cF, celP vF) :: ((Y) ++ W)) O ?_ ?_ ?_ ?_
  · intro C cs hcs
    obtain ⟨cp, rfl⟩ := cs_one hcs
    exact ⟨cp, _, Z, rfl, fun _ h => h, rfl, fun j y h => by simp at h, rfl⟩
  · intro C cs D i ys Ψ _ jy0
    refine ex3 jy0 fun cp v0 Y jx0 => an5 jx0 fun _ hY _ _ jr04 => ?_
    clear jx0 jy0
    subst jr04
    have := List.mem_append_left W (hY _ hM)
    exact .cell (by ktr_rel)
  · rintro C cs D cenv V' hck' hfr hcs i v Ψ ys Ψ' s₂ hi jy0 ⟨hv', rfl⟩ e₂ O
    refine ex3 jy0 fun cp v0 Y jx0 => an5 jx0 fun jr00 hY hyl hys jr04 => ?_
    clear jx0 jy0
    subst jr00
    subst jr04
    have HY := H.mono hY
    have oL := List.mem_append_right Y hL
    have oR := List.mem_append_right Y hcR
    have oI := List.mem_append_right Y hcL
    obtain ⟨dr, mr, T, rfl, hmr, hrm, nsr, hT⟩ : ∃ dr mr T, v = .ref dr ∧ (dr, dctP w mr) ∈ Y ∧ RM (roomsF q0 T) (inQ (spots row)) mr ∧ NS dr ∧ T = (if i = 0 then T0 else T1) := by
      match i, hv' with
      | 0, hv' => exact ⟨r0, m0, T0, (Option.some.inj hv').symm, hY _ h0, hm0, ns0, rfl⟩
      | 1, hv' => exact ⟨r1, m1, T1, (Option.some.inj hv').symm, hY _ h1, hm1, ns1, rfl⟩
      | j + 2, hv' => simp at hv'
    dsimp only [List.cons_append, List.nil_append] at O V'
    refine PyProof.Rows.assign_Name (r_stc V' (hck' "room" (by ktr_rel)) O (by ktr_rel) (by ktr_rel) (by ktr_rel) ?_)
    clear O; intro s₃ e₃ O
    refine r_t0 ?_
    rw [if_pos rfl]
    have Hlr := List.mem_append_left W HY.hlr
    refine r_dc V' (blkOK_of (nm := ["place"]) (cn := []) (fn := ["lines", "room"]) (gl := []) (by kernel_rfl)) (cl' := [("room", cp), ("lines", cL)]) rfl (fun p hp => ?_) (r_ldc V' O (by ktr_rel) (by ktr_rel) (r_it_list O (.cell (by ktr_rel)) ?_))
    · simp only [List.mem_cons, List.not_mem_nil, or_false] at hp ⊢
      rcases hp with rfl | rfl <;> simp
    clear O; intro I2 s₄ e₄ O
    refine dc_block (B.keeps O.keep) V' (blkOK_of (nm := ["place"]) (cn := []) (fn := ["lines", "room"]) (gl := []) (by kernel_rfl)) rfl ((iter_list (l := lr) (xs := vr) hh).toT self_list) (by lia)
      (fun C2 cs j kvs Ψ => ∃ v0 Y2, (∀ p ∈ Y, p ∈ Y2) ∧ FD q0 T (row.take j) kvs Y2 ∧ Ψ = (C2, locP ["place"] [v0]) :: (I, litP lM (i + 1)) :: (D, lstP ys) :: (cp, celP (some (.ref dr))) :: (C, locP [] []) :: (cF, celP vF) :: ((Y2) ++ W)) O ?_ ?_ ?_ ?_
    · intro C cs hcs
      obtain rfl := cs_nil hcs
      exact ⟨_, Y, fun _ h => h, ⟨fun p hp => by simp at hp⟩, rfl⟩
    · intro C cs D i ys Ψ _ jy0
      refine ex2 jy0 fun v0 Y2 jx0 => an3 jx0 fun hY2 _ jr02 => ?_
      clear jx0 jy0
      subst jr02
      have := List.mem_append_left W (hY2 _ HY.hlr)
      exact .cell (by ktr_rel)
    · rintro C2 cs D2 cenv2 V2 hck2 hfr2 hcs2 j v Ψ kvs Φ3 s₅ hj jy0 ⟨hvj, rfl⟩ e₅ O
      refine ex2 jy0 fun v1' Y2 jx0 => an3 jx0 fun hY2 hfd jr02 => ?_
      clear jx0 jy0
      subst jr02
      obtain rfl := cs_nil hcs2
      have HY2 := HY.mono hY2
      have oI := List.mem_append_right Y2 hcL
      obtain ⟨y, t1, rfl, hy⟩ := H.hvr.item j v hvj
      rw [List.getElem?_map] at hy
      obtain ⟨p, hp, rfl⟩ := Option.map_eq_some_iff.mp hy
      have hpm := List.mem_of_getElem? hp
      have gp := H.hg p hpm
      refine ex2 (HY2.hln p (spots_row H.hg p hpm)) fun la vl jx => ?_
      refine an3 jx fun hva hla hvl2 => ?_
      clear jx
      have Hdl := List.mem_append_left W HY2.hdl
      have Hmr := List.mem_append_left W (hY2 _ hmr)
      have hla := List.mem_append_left W hla
      have lvl : vl.length ≤ 3 := by rw [hvl2.length, List.length_map, anc_len]; exact gp.2
      dsimp only [List.cons_append, List.nil_append] at O V2
      refine PyProof.Rows.assign_Name (r_st V2 O (by ktr_rel) (by ktr_rel) (by ktr_rel) ?_)
      clear O; intro s₆ e₆ O
      refine r_t0 ?_
      rw [if_pos rfl]
      refine r_ld V2 O (by ktr_rel) (by ktr_rel) ?_
      refine r_lc V2 (blkOK_of (nm := ["spot"]) (cn := []) (fn := ["room"]) (gl := []) (by kernel_rfl)) (cl' := [("room", cp)]) rfl (fun p hp => by rw [List.mem_singleton.mp hp]; simp) (wpAny_Subscript_Name_late (r_ldc V2 O (by ktr_rel) (by ktr_rel) (r_ld V2 O (by ktr_rel) (by ktr_rel) (r_sub O (.cell (by ktr_rel)) hva ?_))))
      clear O; intro s₇ e₇ O
      refine r_it_list O (.cell (by ktr_rel)) ?_
      clear O; intro I3 s₈ e₈ O
      refine lc_block V2 (blkOK_of (nm := ["spot"]) (cn := []) (fn := ["room"]) (gl := []) (by kernel_rfl)) rfl ((iter_list (l := la) (xs := vl) hh).toT self_list) (by lia)
        (fun C3 cs k zs Ψ => ∃ v2', StrsAre zs ((((anc p).take k).filter (full0 (roomsF q0 T))).map S) ∧ Ψ = (C3, locP ["spot"] [v2']) :: (I2, litP lr (j + 1)) :: (D2, dctP w kvs) :: (C2, locP ["place"] [some (.str (S p) t1)]) :: (I, litP lM (i + 1)) :: (D, lstP ys) :: (cp, celP (some (.ref dr))) :: (C, locP [] []) :: (cF, celP vF) :: ((Y2) ++ W)) O ?_ ?_ ?_ ?_
      · intro C cs hcs
        obtain rfl := cs_nil hcs
        exact ⟨_, .nil, rfl⟩
      · rintro C cs D i ys Ψ _ ⟨v0, _, rfl⟩
        exact .cell (by ktr_rel)
      · rintro C3 cs D3 cenv3 V3 hck3 hfr3 hcs3 k v Ψ zs Φ4 s₉ hk ⟨v2', hzs, rfl⟩ ⟨hvk, rfl⟩ e₉ O
        obtain rfl := cs_nil hcs3
        obtain ⟨y, t2, rfl, hy⟩ := hvl2.item k v hvk
        rw [List.getElem?_map] at hy
        obtain ⟨q, hq, rfl⟩ := Option.map_eq_some_iff.mp hy
        have hqs := spots_anc p (spots_row H.hg p hpm) q (List.mem_of_getElem? hq)
        dsimp only [List.cons_append, List.nil_append] at O V3
        refine PyProof.Rows.assign_Name (r_st V3 O (by ktr_rel) (by ktr_rel) (by ktr_rel) ?_)
        clear O; intro s₁₀ e₁₀ O
        refine r_t1 (wpAny_isTrue_Compare1 (r_dget (r_ldc V3 O (by ktr_rel) (by ktr_rel) (ei4 dr mr _ _ ⟨rfl, nsr, O, .cell (by ktr_rel), r_ld V3 O (by ktr_rel) (by ktr_rel) (ei4 _ _ _ _ ⟨rfl, O, .cell (by ktr_rel), fun s₁₁ e₁₁ O => wpAny_Constant_int ?_⟩)⟩))))
        refine r_fullM hrm (spots_good H.hg) spots_nodup hqs (O.kp Kp.rfl) fun s₁₂ e₁₂ O => truth_bool ?_
        have hstep : ((anc p).take (k + 1)).filter (full0 (roomsF q0 T)) = ((anc p).take k).filter (full0 (roomsF q0 T)) ++ (if full0 (roomsF q0 T) q = true then [q] else []) := by
          rw [List.take_add_one, hq, List.filter_append]
          cases hb : full0 (roomsF q0 T) q <;> simp [hb]
        cases hb : full0 (roomsF q0 T) q with
        | true =>
          rw [if_pos rfl]
          refine r_ld V3 O (by ktr_rel) (by ktr_rel) ⟨_, by ktr_rel, O.pick (by ktr_rel), _, ?_, rfl⟩
          rw [hstep, hb, if_pos rfl, List.map_append]
          exact kct_snoc hzs
        | false =>
          rw [if_neg (by decide)]
          refine ⟨_, by ktr_rel, O.pick (by ktr_rel), _, ?_, rfl⟩
          rw [hstep, hb, if_neg (by decide), List.append_nil]
          exact hzs
      · rintro C3 cs D3 zs Ψ s₉ ⟨v2', hzs, rfl⟩ e₉ O
        have hA : (anc p).take vl.length = anc p := List.take_of_length_le (by rw [hvl2.length, List.length_map]; exact Nat.le_refl _)
        rw [hA] at hzs
        refine post_none O (.tail .head) ?_
        clear O; intro s₁₀ e₁₀ O
        refine ⟨_, _, rfl, (C2, locP ["place"] [some (.str (S p) t1)]) :: (I, litP lM (i + 1)) :: (D, lstP ys) :: (cp, celP (some (.ref dr))) :: (C, locP [] []) :: (cF, celP vF) :: (((D3, lstP zs) :: Y2) ++ W), by ktr_rel, ?_, _, _, fun p hp => List.mem_cons_of_mem _ (hY2 p hp), ?_, rfl⟩
        · exact O.pick (by ktr_rel)
        · rw [List.take_add_one, hp]
          exact hfd.step (fun q hq => H.hg q (List.mem_of_mem_take hq)) gp hzs
    · intro C2 cs D2 kvs Ψ s₅ nsD jy0 e₅ O
      refine ex2 jy0 fun v1' Y2 jx0 => an3 jx0 fun hY2 hfd jr02 => ?_
      clear jx0 jy0
      subst jr02
      have hA : row.take vr.length = row := List.take_of_length_le (by rw [hvl, H.r4]; exact Nat.le_refl _)
      rw [hA] at hfd
      refine post_none O (.tail .head) ?_
      clear O; intro s₆ e₆ O
      refine ⟨(cp, celP (some (.ref dr))) :: (C, locP [] []) :: (cF, celP vF) :: (((D2, dctP w kvs) :: Y2) ++ W), by ktr_rel, ?_, ei3 _ _ _ ⟨rfl, fun p hp => List.mem_cons_of_mem _ (hY2 p (hY p hp)), by simp [hyl], ?_, rfl⟩⟩
      · exact O.pick (by ktr_rel)
      · intro j y hj
        rw [List.getElem?_append] at hj
        split at hj
        · obtain ⟨u', tv', h1, h2, h3, h4⟩ := hys j y hj
          exact ⟨u', tv', h1, h2, List.mem_cons_of_mem _ (hY2 _ h3), h4.mono fun p hp => List.mem_cons_of_mem _ (hY2 p hp)⟩
        · have hjl : j = i := by
            have := (List.getElem?_eq_some_iff.mp hj).1
            simp only [List.length_singleton] at this
            lia
          subst hjl
          rw [hyl, Nat.sub_self] at hj
          exact ⟨D2, kvs, (Option.some.inj hj).symm, nsD, List.mem_cons_self, hT ▸ hfd.mono fun p hp => List.mem_cons_of_mem _ hp⟩
  · intro C cs D ys Ψ s₅ jy0 e₅ O
    refine ex3 jy0 fun cp v0 Y jx0 => an5 jx0 fun jr00 hY hyl hys jr04 => ?_
    clear jx0 jy0
    subst jr00
    subst jr04
    obtain ⟨y0, y1, rfl⟩ := list2 hyl
    refine ex2 (hys 0 _ rfl) fun r0 m0 jx => ?_
    refine an4 jx fun jr0 ns0 hm0 hr0 => ?_
    clear jx
    subst jr0
    refine ex2 (hys 1 _ rfl) fun r1 m1 jx => ?_
    refine an4 jx fun jr0 ns1 hm1 hr1 => ?_
    clear jx
    subst jr0
    refine post_none O (.tail (.tail .head)) ?_
    clear O; intro s₆ e₆ O
    refine r_stc V (hck "full" (by ktr_rel)) O (by ktr_rel) (by ktr_rel) (by ktr_rel) ?_
    clear O; intro s₇ e₇ O
    refine K D r0 r1 m0 m1 ((D, lstP [.ref r0, .ref r1]) :: Y) s₇ (by ktr_rel) (fun p hp => List.mem_cons_of_mem _ (hY p hp)) List.mem_cons_self (List.mem_cons_of_mem _ hm0) (List.mem_cons_of_mem _ hm1) ns0 ns1 (hr0.mono fun p hp => List.mem_cons_of_mem _ hp) (hr1.mono fun p hp => List.mem_cons_of_mem _ hp) ?_
    exact O.pick (by ktr_rel)
set_option maxHeartbeats 4000000 in
/-- full -/
theorem law_p4 {lM r0 r1 : Addr} {m0 m1 : List (Str × Value)} {T0 T1 : List Key} {v1 v2 v4 v5 v6 vO vF vU vK : Option Value} {Q : Flow → Shared → Prop} (B : Base w h₀) (R : Rm A 9) (H : (LH w h₀ env L cO cF cU cY cL cQ cR cK cS dk dl dq lr row q0 vr kq kl Z)) (O : Own h₀ s.heap (lwE L cO cF cU cY cL cQ cR cK cS dk dl dq lr l [v1, v2, some (.ref lM), v4, v5, v6] vO vF vU vK Z))
    (hM : (lM, lstP [.ref r0, .ref r1]) ∈ Z) (h0 : (r0, dctP w m0) ∈ Z) (h1 : (r1, dctP w m1) ∈ Z) (ns0 : NS r0) (ns1 : NS r1) (hm0 : RM (roomsF q0 T0) (inQ (spots row)) m0) (hm1 : RM (roomsF q0 T1) (inQ (spots row)) m1)
    (K : ∀ lF f0 f1 k0 k1 Z' s', Sm s s' → (∀ p ∈ Z, p ∈ Z') → (lF, lstP [.ref f0, .ref f1]) ∈ Z' → (f0, dctP w k0) ∈ Z' → (f1, dctP w k1) ∈ Z' → NS f0 → NS f1 → FD q0 T0 row k0 Z' → FD q0 T1 row k1 Z' →
      Own h₀ s'.heap (lwE L cO cF cU cY cL cQ cR cK cS dk dl dq lr l [v1, v2, some (.ref lM), v4, v5, v6] vO (some (.ref lF)) vU vK Z') → wpAny (model PR w) A (execs ((bodyAt 31).drop 7) env) Q E s') :
    wpAny (model PR w) A (execs ((bodyAt 31).drop 6) env) Q E s := by
  dsimp only [lwE] at O
  have O1 : Own h₀ s.heap ((cF, celP vF) :: ([(L, locP lwNm [v1, v2, some (.ref lM), v4, v5, v6]), (cO, celP vO), (cU, celP vU), (cY, celP (some (.ref dk))), (cL, celP (some (.ref dl))), (cQ, celP (some (.ref dq))), (cR, celP (some (.ref lr))), (cK, celP vK)] ++ Z)) := O.pick (by ktr_rel)
  refine law_p4c B R H (O1.perm (List.Perm.cons _ List.perm_append_comm)) (by ktr_rel) (by ktr_rel) (by ktr_rel) hM h0 h1 ns0 ns1 hm0 hm1 fun lF f0 f1 k0 k1 Z' s' e hs a1 a2 a3 a4 a5 a6 a7 O2 => ?_
  replace O2 := O2.perm (List.Perm.cons _ List.perm_append_comm)
  refine K lF f0 f1 k0 k1 Z' s' e hs a1 a2 a3 a4 a5 a6 a7 ?_
  dsimp only [lwE, List.cons_append, List.nil_append] at O2 ⊢
  exact O2.pick (by ktr_rel)
end
end
section
section
open PySem.SeqAt
theorem RM.pos {q0 : Key → Int} {T row sp : List Key} {m : List (Str × Value)} (h : RM (roomsF q0 T) (inQ sp) m) (hr : Ran q0 row T) : ∀ (i : Nat) p, m[i]? = some p → ∃ x t, p.2 = .int x t ∧ 0 ≤ x := by
  intro i p hp
  have hi : i < (inQ sp).length := by rw [← h.len]; exact (List.getElem?_eq_some_iff.mp hp).1
  obtain ⟨t, e⟩ := h.at_ i _ (List.getElem?_eq_getElem hi)
  rw [hp] at e
  rw [Option.some.inj e]
  refine ⟨_, _, rfl, hr.pos _ ?_⟩
  have := (List.mem_filter.mp (List.getElem_mem hi)).2
  simpa using this
theorem inQ_pos {row : List Key} (hg : ∀ p ∈ row, Good p) (h4 : row.length = 4) : 0 < (inQ (spots row)).length := by
  obtain ⟨a, b, c, d, rfl⟩ := list4 h4
  obtain ⟨hn, _⟩ := hg a (by simp)
  obtain ⟨x, r, rfl⟩ := List.exists_cons_of_ne_nil hn
  refine List.length_pos_of_mem (a := [x]) (List.mem_filter.mpr ⟨spots_mem.mpr ⟨x :: r, by simp, anc_mem.mpr ⟨by simp, ⟨r, rfl⟩⟩⟩, ?_⟩)
  have : ∀ x : Fin 3, decide ([x] ∈ qKeys) = true := by decide
  exact this x
variable {w : World} {A : Around} {E : Value → Shared → Prop} {s : Shared} {h₀ : Heap} {Φ : List Cell} {env : Env}
theorem leq_nilS {l b : Addr} {xs : List Value} {ss : List Str} (hl : ∃ o, s.heap.get? l = some o ∧ lstP xs o) (hb : ∃ o, s.heap.get? b = some o ∧ lstP [] o) (hx : StrsAre xs ss) (hn : ss ≠ []) (hu : A.units < cLine) : RcAt A s (.ref l) (.ref b) false := by
  have h := leq_strs hl hb hx .nil hu
  rwa [decide_eq_false hn] at h
variable {L cO cF cU cY cL cQ cR cK cS dk dl dq lr l : Addr} {row : List Key} {q0 : Key → Int} {vr : List Value} {kq kl : List (Str × Value)} {Z : List Cell}
set_option maxHeartbeats 4000000 in
/-- for k in range(2), over the cell of k alone -/
theorem law_p5c {lM lU lF r0 r1 u0 u1 f0 f1 : Addr} {m0 m1 k0 k1 : List (Str × Value)} {t0 t1 : List Value} {T0 T1 : List Key} {v1 v2 v4 v5 v6 vK : Option Value} {W : List Cell} {Q : Flow → Shared → Prop} (B : Base w h₀) (R : Rm A 9) (H : (LH w h₀ env L cO cF cU cY cL cQ cR cK cS dk dl dq lr row q0 vr kq kl Z)) (O : Own h₀ s.heap ((cK, celP vK) :: (Z ++ W))) (hL : (L, locP lwNm [v1, v2, some (.ref lM), v4, v5, v6]) ∈ W) (hcR : (cR, celP (some (.ref lr))) ∈ W) (hcU : (cU, celP (some (.ref lU))) ∈ W) (hcF : (cF, celP (some (.ref lF))) ∈ W)
    (hM : (lM, lstP [.ref r0, .ref r1]) ∈ Z) (h0 : (r0, dctP w m0) ∈ Z) (h1 : (r1, dctP w m1) ∈ Z) (ns0 : NS r0) (ns1 : NS r1) (hm0 : RM (roomsF q0 T0) (inQ (spots row)) m0) (hm1 : RM (roomsF q0 T1) (inQ (spots row)) m1)
    (hU : (lU, lstP [.ref u0, .ref u1]) ∈ Z) (hu0 : (u0, lstP t0) ∈ Z) (hu1 : (u1, lstP t1) ∈ Z) (ht0 : StrsAre t0 (T0.map S)) (ht1 : StrsAre t1 (T1.map S)) (hF : (lF, lstP [.ref f0, .ref f1]) ∈ Z) (hf0 : (f0, dctP w k0) ∈ Z) (hf1 : (f1, dctP w k1) ∈ Z)
    (fd0 : FD q0 T0 row k0 Z) (fd1 : FD q0 T1 row k1 Z) (R0 : Ran q0 row T0) (R1 : Ran q0 row T1)
    (K : ∀ vK' s', Sm s s' → Own h₀ s'.heap ((cK, celP vK') :: (Z ++ W)) → wpAny (model PR w) A (execs ((bodyAt 31).drop 8) env) Q E s') :
    wpAny (model PR w) A (execs ((bodyAt 31).drop 7) env) Q E s := by
  have hh := R.hd
  have V := H.V
  have hck := H.hck
  have hvl : vr.length = 4 := by rw [H.hvr.length]; simpa using H.r4
  have Hlr := List.mem_append_left W H.hlr
  have oL := List.mem_append_right Z hL
  have oR := List.mem_append_right Z hcR
  have oU := List.mem_append_right Z hcU
  have oF := List.mem_append_right Z hcF
  have oM := List.mem_append_left W hM
  have oW := List.mem_append_left W hU
  have oG := List.mem_append_left W hF
  refine r_seq rfl (wpAny_For (r_call (r_boot V (B.keeps O.keep) (by ktr_rel) (by ktr_rel) (r_ty (r_arg (wpAny_Constant_int (r_args (r_gen O ?_))))))))
  clear O; intro s₁ e₁ O
  refine r_range1 O (fun r s₂ e₂ O => ?_)
  refine r_for_range (n := 2) hh (by decide) (by decide) (by decide) rfl (.cell List.mem_cons_self)
    (fun i Φ => ∃ vK', Φ = (r, rngP 0 2) :: (cK, celP vK') :: (Z ++ W)) O ⟨_, rfl⟩ ?_ ?_
  · rintro i t Φ s₃ I P hi ⟨vK', rfl⟩ e₃ O
    refine hideT fun TT1 hTT1 => ?_
    obtain ⟨lr', lu, lf, m, ts, k', T, hri, hui, hfi, hr, hu, hf, nsr, hrm, hts, hfd, hran⟩ : ∃ lr' lu lf m ts k' T, [Value.ref r0, .ref r1][i]? = some (.ref lr') ∧ [Value.ref u0, .ref u1][i]? = some (.ref lu) ∧ [Value.ref f0, .ref f1][i]? = some (.ref lf) ∧
        (lr', dctP w m) ∈ Z ∧ (lu, lstP ts) ∈ Z ∧ (lf, dctP w k') ∈ Z ∧ NS lr' ∧ RM (roomsF q0 T) (inQ (spots row)) m ∧ StrsAre ts (T.map S) ∧ FD q0 T row k' Z ∧ Ran q0 row T := by
      match i, hi with
      | 0, _ => exact ⟨r0, u0, f0, m0, t0, k0, T0, rfl, rfl, rfl, h0, hu0, hf0, ns0, hm0, ht0, fd0, R0⟩
      | 1, _ => exact ⟨r1, u1, f1, m1, t1, k1, T1, rfl, rfl, rfl, h1, hu1, hf1, ns1, hm1, ht1, fd1, R1⟩
      | j + 2, hi => lia
    replace hr := List.mem_append_left W hr
    replace hu := List.mem_append_left W hu
    replace hf := List.mem_append_left W hf
    have hin : ((0 : Int) + (i : Int)).toNat = i := by lia
    refine r_stc V (hck "k" (by ktr_rel)) O (by ktr_rel) (by ktr_rel) (by ktr_rel) ?_
    clear O; intro s₄ e₄ O
    refine r_seq rfl (wpAny_If (wpAny_isTrue_BoolOp (wpAny_allTrue_Or_cons (wpAny_isTrue_Compare1 (r_call (r_boot V (B.keeps O.keep) (by ktr_rel) (by ktr_rel) (r_bi (r_arg (r_meth0 PySem.F.plainAttrs_dict PySem.F.slot_dict_values PySem.F.type_dict_values (Subscript_ (r_ld V O (by ktr_rel) (by ktr_rel) (r_ldc V O (by ktr_rel) (by ktr_rel) ?_))))))))))))
    refine r_li O (.cell (by ktr_rel)) (by lia) (by lia) (by rw [hin]; exact hri) ?_
    have D := O.dict (kvs := m) (d := lr') (.cell (by ktr_rel))
    refine ⟨⟨D.typeIs, D.mapOf.noDict⟩, ?_⟩
    refine r_values O nsr (.cell (by ktr_rel)) ?_
    intro vw s₅ e₅ O
    refine r_args (r_minVals hh O (.cell (by ktr_rel)) (.cell (by ktr_rel)) (by rw [hrm.len]; exact inQ_pos H.hg H.r4) (hrm.pos hran) ?_)
    intro x tx s₆ hx e₆ O
    refine wpAny_Constant_int (PyProof.Rows.lt_int (truth_bool ?_))
    rw [decide_eq_false (show ¬ x < 0 by lia), if_neg (by decide)]
    refine wpAny_allTrue_Or_cons (wpAny_isTrue_Compare1 (r_lc V (blkOK_of (nm := ["place"]) (cn := []) (fn := ["full", "k", "runs"]) (gl := []) (by kernel_rfl)) (cl' := [("runs", cU), ("k", cK), ("full", cF)]) rfl (fun p hp => ?_) (r_ldc V O (by ktr_rel) (by ktr_rel) (r_gen O ?_))))
    · simp only [List.mem_cons, List.not_mem_nil, or_false] at hp ⊢
      rcases hp with rfl | rfl | rfl <;> simp
    clear O; intro s₇ e₇ O
    refine r_it_list O (.cell (by ktr_rel)) ?_
    clear O; intro I2 s₈ e₈ O
    refine lc_block V (blkOK_of (nm := ["place"]) (cn := []) (fn := ["full", "k", "runs"]) (gl := []) (by kernel_rfl)) rfl ((iter_list (l := lr) (xs := vr) hh).toT self_list) (by lia)
      (fun C cs j ys Ψ => ∃ v0, ys = [] ∧ Ψ = (C, locP ["place"] [v0]) :: (I, P) :: (r, rngP 0 2) :: (cK, celP (some (.int (0 + (i : Int)) t))) :: (Z ++ W))
      (Φ := (I, P) :: (r, rngP 0 2) :: (cK, celP (some (.int (0 + (i : Int)) t))) :: (Z ++ W)) (O.pick (by ktr_rel)) ?_ ?_ ?_ ?_
    · intro C cs hcs
      obtain rfl := cs_nil hcs
      exact ⟨_, rfl, rfl⟩
    · rintro C cs D i ys Ψ _ ⟨v0, _, rfl⟩
      exact .cell (by ktr_rel)
    · rintro C cs D cenv V' hck' hfr hcs j v Ψ ys Φ4 s₉ hj ⟨v0, rfl, rfl⟩ ⟨hvj, rfl⟩ e₉ O
      obtain rfl := cs_nil hcs
      obtain ⟨y, t2, rfl, hy⟩ := H.hvr.item j v hvj
      rw [List.getElem?_map] at hy
      obtain ⟨p, hp, rfl⟩ := Option.map_eq_some_iff.mp hy
      have hpm := List.mem_of_getElem? hp
      have gp := H.hg p hpm
      dsimp only [List.cons_append, List.nil_append] at O V'
      refine PyProof.Rows.assign_Name (r_st V' O (by ktr_rel) (by ktr_rel) (by ktr_rel) ?_)
      clear O; intro s₁₀ e₁₀ O
      refine r_t1 (wpAny_isTrue_BoolOp (wpAny_allTrue_And_cons (wpAny_isTrue_Compare1 (r_ld V' O (by ktr_rel) (by ktr_rel) (Subscript_ (r_ldc V' O (by ktr_rel) (by ktr_rel) (r_ldc V' O (by ktr_rel) (by ktr_rel) ?_)))))))
      refine r_li O (.cell (by ktr_rel)) (by lia) (by lia) (by rw [hin]; exact hui) ?_
      refine notin_list_strs (lstP.is (O.get (by ktr_rel))) hts (truth_bool ?_)
      rw [any_S (fun q hq => H.hg q (hran.sub q hq)) gp.2]
      by_cases hpT : p ∈ T
      · rw [decide_eq_true hpT, if_neg (show ¬ (!true) = true by decide)]
        exact ⟨_, by ktr_rel, O.pick (by ktr_rel), _, rfl, rfl⟩
      · rw [decide_eq_false hpT, if_pos (show (!false) = true from rfl)]
        refine ex2 (hfd.at_ p hpm) fun la va jx => ?_
        refine an3 jx fun hva hla hsa => ?_
        clear jx
        replace hla := List.mem_append_left W hla
        refine wpAny_allTrue_And_cons (wpAny_isTrue_Compare1 (Subscript_ (Subscript_ (r_ldc V' O (by ktr_rel) (by ktr_rel) (r_ldc V' O (by ktr_rel) (by ktr_rel) ?_)))))
        refine r_li O (.cell (by ktr_rel)) (by lia) (by lia) (by rw [hin]; exact hfi) ?_
        refine r_ld V' O (by ktr_rel) (by ktr_rel) (r_subT O (.cell (by ktr_rel)) hva ?_)
        clear O; intro s₁₁ e₁₁ O
        refine List_ (r_args (r_newLst O ?_))
        clear O; intro b0 s₁₂ e₁₂ _ _ O
        refine r_rc (leq_nilS (O.get (by ktr_rel)) (O.get (by ktr_rel)) hsa (fun e => hran.out p hpm hpT (List.map_eq_nil_iff.mp e)) R.cline) (truth_bool ?_)
        rw [if_neg (show ¬ false = true by decide), if_neg (show ¬ false = true by decide)]
        exact ⟨_, by ktr_rel, O.pick (by ktr_rel), _, rfl, rfl⟩
    · rintro C cs D ys Ψ s₉ ⟨v0, rfl, rfl⟩ e₉ O
      refine post_none O (.tail .head) ?_
      clear O; intro s₁₀ e₁₀ O
      refine List_ (r_args (r_newLst O ?_))
      clear O; intro b0 s₁₁ e₁₁ _ _ O
      refine r_rcne (lne_nil (O.get (by ktr_rel)) (O.get (by ktr_rel)) R.cline) (truth_bool ?_)
      rw [if_neg (show ¬ (!([] : List Value).isEmpty) = true by decide)]
      refine wpAny_allTrue_Or_nil (r_nil (r_nil (hTT1 _ _ ?_)))
      refine Turn.next _ (by ktr_rel) (O.drop.drop) ⟨_, rfl⟩
  · rintro Φ s₃ ⟨vK', rfl⟩ e₃ O
    exact K vK' s₃ (by ktr_rel) O.drop
set_option maxHeartbeats 4000000 in
/-- for k in range(2) -/
theorem law_p5 {lM lU lF r0 r1 u0 u1 f0 f1 : Addr} {m0 m1 k0 k1 : List (Str × Value)} {t0 t1 : List Value} {T0 T1 : List Key} {v1 v2 v4 v5 v6 vO vK : Option Value} {Q : Flow → Shared → Prop} (B : Base w h₀) (R : Rm A 9) (H : (LH w h₀ env L cO cF cU cY cL cQ cR cK cS dk dl dq lr row q0 vr kq kl Z)) (O : Own h₀ s.heap (lwE L cO cF cU cY cL cQ cR cK cS dk dl dq lr l [v1, v2, some (.ref lM), v4, v5, v6] vO (some (.ref lF)) (some (.ref lU)) vK Z))
    (hM : (lM, lstP [.ref r0, .ref r1]) ∈ Z) (h0 : (r0, dctP w m0) ∈ Z) (h1 : (r1, dctP w m1) ∈ Z) (ns0 : NS r0) (ns1 : NS r1) (hm0 : RM (roomsF q0 T0) (inQ (spots row)) m0) (hm1 : RM (roomsF q0 T1) (inQ (spots row)) m1)
    (hU : (lU, lstP [.ref u0, .ref u1]) ∈ Z) (hu0 : (u0, lstP t0) ∈ Z) (hu1 : (u1, lstP t1) ∈ Z) (ht0 : StrsAre t0 (T0.map S)) (ht1 : StrsAre t1 (T1.map S)) (hF : (lF, lstP [.ref f0, .ref f1]) ∈ Z) (hf0 : (f0, dctP w k0) ∈ Z) (hf1 : (f1, dctP w k1) ∈ Z)
    (fd0 : FD q0 T0 row k0 Z) (fd1 : FD q0 T1 row k1 Z) (R0 : Ran q0 row T0) (R1 : Ran q0 row T1)
    (K : ∀ vK' s', Sm s s' → Own h₀ s'.heap (lwE L cO cF cU cY cL cQ cR cK cS dk dl dq lr l [v1, v2, some (.ref lM), v4, v5, v6] vO (some (.ref lF)) (some (.ref lU)) vK' Z) → wpAny (model PR w) A (execs ((bodyAt 31).drop 8) env) Q E s') :
    wpAny (model PR w) A (execs ((bodyAt 31).drop 7) env) Q E s := by
  dsimp only [lwE] at O
  have O1 : Own h₀ s.heap ((cK, celP vK) :: ([(L, locP lwNm [v1, v2, some (.ref lM), v4, v5, v6]), (cO, celP vO), (cF, celP (some (.ref lF))), (cU, celP (some (.ref lU))), (cY, celP (some (.ref dk))), (cL, celP (some (.ref dl))), (cQ, celP (some (.ref dq))), (cR, celP (some (.ref lr)))] ++ Z)) := O.pick (by ktr_rel)
  refine law_p5c B R H (O1.perm (List.Perm.cons _ List.perm_append_comm)) (by ktr_rel) (by ktr_rel) (by ktr_rel) (by ktr_rel) hM h0 h1 ns0 ns1 hm0 hm1 hU hu0 hu1 ht0 ht1 hF hf0 hf1 fd0 fd1 R0 R1 fun vK' s' e O2 => ?_
  replace O2 := O2.perm (List.Perm.cons _ List.perm_append_comm)
  refine K vK' s' e ?_
  dsimp only [lwE, List.cons_append, List.nil_append] at O2 ⊢
  exact O2.pick (by ktr_rel)
end
end
section
section
open PySem.SeqAt
theorem tilde0 : keys39.all (fun k => !ltStr "/~" (S k)) = true := by decide +kernel
theorem tilde {k : Key} (h : k.length ≤ 3) : ltStr "/~" (S k) = false := by
  have := List.all_eq_true.mp tilde0 k (mem_keys39 h)
  simpa using this
theorem heads_short {run : List Key} (hg : ∀ p ∈ run, Good p) : ∀ k ∈ heads run, k.length ≤ 3 := by
  intro k hk
  obtain ⟨p, hp, hk⟩ := List.mem_flatMap.mp hk
  obtain ⟨j, hj, rfl⟩ := List.mem_map.mp hk
  rw [List.length_take]
  have := (hg p hp).2
  lia
theorem sc_heads {a b : List Key} {s1 t1 : List Str} (ga : ∀ p ∈ a, Good p) (gb : ∀ p ∈ b, Good p) (h1 : s1.Perm ((heads a).map S ++ [("/~" : Str)])) (h2 : t1.Perm ((heads b).map S ++ [("/~" : Str)])) : SC0 s1 t1 := by
  have hz : ∀ {c : List Key}, (∀ p ∈ c, Good p) → ∀ x ∈ (heads c).map S ++ [("/~" : Str)], ltStr "/~" x = false := by
    intro c gc x hx
    rcases List.mem_append.mp hx with hx | hx
    · obtain ⟨k, hk, rfl⟩ := List.mem_map.mp hx
      exact tilde (heads_short gc k hk)
    · rw [List.mem_singleton.mp hx]; exact lt_irr _
  exact .inr (.inl ⟨"/~", h1.mem_iff.mpr (by simp), h2.mem_iff.mpr (by simp), fun x hx => hz ga x (h1.mem_iff.mp hx), fun x hx => hz gb x (h2.mem_iff.mp hx)⟩)
theorem sc_runs {a b : List Key} {s1 t1 : List Str} (ga : ∀ p ∈ a, Good p) (gb : ∀ p ∈ b, Good p) (na : a.Nodup) (nb : b.Nodup) (h1 : s1.Perm (a.map S)) (h2 : t1.Perm (b.map S)) : SC0 s1 t1 :=
  .inl ⟨h1.nodup_iff.mpr (map_S_nodup ga na), h2.nodup_iff.mpr (map_S_nodup gb nb)⟩
variable {w : World} {A : Around} {E : Value → Shared → Prop} {s : Shared} {h₀ : Heap} {Φ : List Cell} {env : Env}
variable {L cO cF cU cY cL cQ cR cK cS dk dl dq lr l : Addr} {row : List Key} {q0 : Key → Int} {vr : List Value} {kq kl : List (Str × Value)} {Z : List Cell}
set_option maxHeartbeats 4000000 in
/-- told -/
theorem law_p6 {lU u0 u1 : Addr} {t0 t1 : List Value} {T0 T1 : List Key} {v1 v2 v3 v4 v5 v6 vO vF vK : Option Value} {Q : Flow → Shared → Prop} (B : Base w h₀) (R : Rm A 9) (hfr : A.frames = some [env]) (hf : env.frame = some L) (H : (LH w h₀ env L cO cF cU cY cL cQ cR cK cS dk dl dq lr row q0 vr kq kl Z)) (O : Own h₀ s.heap (lwE L cO cF cU cY cL cQ cR cK cS dk dl dq lr l [v1, v2, v3, v4, v5, v6] vO vF (some (.ref lU)) vK Z))
    (hU : (lU, lstP [.ref u0, .ref u1]) ∈ Z) (h0 : (u0, lstP t0) ∈ Z) (h1 : (u1, lstP t1) ∈ Z) (ht0 : StrsAre t0 (T0.map S)) (ht1 : StrsAre t1 (T1.map S)) (g0 : ∀ p ∈ T0, Good p) (g1 : ∀ p ∈ T1, Good p) (z0 : T0.length ≤ 20) (z1 : T1.length ≤ 20) (n0 : T0.Nodup) (n1 : T1.Nodup)
    (K : ∀ T lm lu ms us mS uS Z' s', Sm s s' → (∀ p ∈ Z, p ∈ Z') → (T, tupP [.ref lm, .ref lu]) ∈ Z' → (lm, lstP ms) ∈ Z' → (lu, lstP us) ∈ Z' → StrsAre ms mS → StrsAre us uS → (∀ x ∈ mS, x ∈ T0.map S ∧ x ∉ T1.map S) → (∀ x ∈ uS, x ∈ T1.map S ∧ x ∉ T0.map S) →
      Own h₀ s'.heap (lwE L cO cF cU cY cL cQ cR cK cS dk dl dq lr l [v1, v2, v3, some (.ref T), v5, v6] vO vF (some (.ref lU)) vK Z') → wpAny (model PR w) A (execs ((bodyAt 31).drop 10) env) Q E s') :
    wpAny (model PR w) A (execs ((bodyAt 31).drop 8) env) Q E s := by
  have hh := R.hd
  have V := H.V
  have lz0 : (heads T0).length ≤ 40 := Nat.le_trans (heads_len g0) (by lia)
  have lz1 : (heads T1).length ≤ 40 := Nat.le_trans (heads_len g1) (by lia)
  dsimp only [lwE] at O
  -- told = _law_differ(runs[0], runs[1])
  refine r_seq rfl (wpAny_Assign_Name (r_call (r_glob V (B.keeps O.keep) (by ktr_rel) (by ktr_rel) (r_fn (fn_differ w).FA (B.keeps O.keep) (r_arg (Subscript_ (r_ldc V O (by ktr_rel) (by ktr_rel) (wpAny_Constant_int (r_gen O ?_)))))))))
  clear O; intro s₁ e₁ O
  refine r_li O (.cell (by ktr_rel)) (by decide) (by decide) rfl ?_
  refine r_arg (Subscript_ (r_ldc V O (by ktr_rel) (by ktr_rel) (wpAny_Constant_int (r_gen O ?_))))
  clear O; intro s₂ e₂ O
  refine r_li O (.cell (by ktr_rel)) (by decide) (by decide) rfl ?_
  refine r_args ⟨B.keeps O.keep, ?_⟩
  refine law_differ_spec B (R.le (by decide)) hfr (FR.cons V hf (fun e he => nomatch he)) O (.cell (by ktr_rel)) (.cell (by ktr_rel)) ht0 ht1 (by rw [List.length_map]; lia) (by rw [List.length_map]; lia) (fun s1 t1 p1 p2 => sc_runs g0 g1 n0 n1 p1 p2) ?_
  clear O; intro T lm lu ms us mS uS s₃ e₃ hms hus hm1 hu1 hmn hun O
  refine r_st V O (by ktr_rel) (by ktr_rel) (by ktr_rel) ?_
  clear O; intro s₄ e₄ O
  -- if told is None or ..
  refine r_seq rfl (wpAny_If (wpAny_isTrue_BoolOp (wpAny_allTrue_Or_cons (wpAny_isTrue_Compare1 (r_ld V O (by ktr_rel) (by ktr_rel) (wpAny_Constant_none (PyProof.Rows.is_ref_none (truth_bool ?_))))))))
  rw [if_neg (by decide)]
  refine wpAny_allTrue_Or_cons (wpAny_isTrue_Compare1 (r_call (r_glob V (B.keeps O.keep) (by ktr_rel) (by ktr_rel) (r_fn (fn_differ w).FA (B.keeps O.keep) (r_arg (wpAny_BinOp (r_call (r_glob V (B.keeps O.keep) (by ktr_rel) (by ktr_rel) (r_fn (fn_heads w).FA (B.keeps O.keep) (r_arg (Subscript_ (r_ldc V O (by ktr_rel) (by ktr_rel) (wpAny_Constant_int (r_gen O ?_))))))))))))))
  clear O; intro s₅ e₅ O
  refine r_li O (.cell (by ktr_rel)) (by decide) (by decide) rfl ?_
  refine r_args ⟨B.keeps O.keep, ?_⟩
  refine law_heads_spec (B.keeps O.keep) (R.le (by decide)) (O.get (by ktr_rel)) ht0 g0 z0 fun a0 w0 s₆ e₆ k₆ hw0 N₆ => ?_
  replace O := O.new k₆ N₆
  dsimp only [List.cons_append, List.nil_append] at O
  refine List_ (r_arg (wpAny_Constant_str (r_args (r_newLst (O.kp Kp.rfl) ?_))))
  clear O; intro b0 s₇ e₇ _ _ O
  have lw0 : w0.length = (heads T0).length := by rw [hw0.length]; simp
  have lw : ∀ t : Tok, [Value.str "/~" t].length = 1 := fun t => rfl
  refine r_ladd O (.cell (by ktr_rel)) (.cell (by ktr_rel)) (by rw [lw]; lia) ?_
  clear O; intro c0 s₈ e₈ O
  refine r_arg (wpAny_BinOp (r_call (r_glob V (B.keeps O.keep) (by ktr_rel) (by ktr_rel) (r_fn (fn_heads w).FA (B.keeps O.keep) (r_arg (Subscript_ (r_ldc V O (by ktr_rel) (by ktr_rel) (wpAny_Constant_int (r_gen O ?_)))))))))
  clear O; intro s₉ e₉ O
  refine r_li O (.cell (by ktr_rel)) (by decide) (by decide) rfl ?_
  refine r_args ⟨B.keeps O.keep, ?_⟩
  refine law_heads_spec (B.keeps O.keep) (R.le (by decide)) (O.get (by ktr_rel)) ht1 g1 z1 fun a1 w1 s₁₀ e₁₀ k₁₀ hw1 N₁₀ => ?_
  replace O := O.new k₁₀ N₁₀
  dsimp only [List.cons_append, List.nil_append] at O
  refine List_ (r_arg (wpAny_Constant_str (r_args (r_newLst (O.kp Kp.rfl) ?_))))
  clear O; intro b1 s₁₁ e₁₁ _ _ O
  have lw1 : w1.length = (heads T1).length := by rw [hw1.length]; simp
  refine r_ladd O (.cell (by ktr_rel)) (.cell (by ktr_rel)) (by rw [lw]; lia) ?_
  clear O; intro c1 s₁₂ e₁₂ O
  refine r_args ⟨B.keeps O.keep, ?_⟩
  refine law_differ_spec B (R.le (by decide)) hfr (FR.of V hf (Φ := []) (fun e he => nomatch he) (by ktr_rel) (fun p hp => nomatch hp)) O (.cell (by ktr_rel)) (.cell (by ktr_rel)) (kct_snoc hw0) (kct_snoc hw1) (by simp; lia) (by simp; lia) (fun s1 t1 p1 p2 => sc_heads g0 g1 p1 p2) ?_
  clear O; intro T' lm' lu' ms' us' mS' uS' s₁₃ e₁₃ _ _ _ _ _ _ O
  refine wpAny_Constant_none (PyProof.Rows.is_ref_none (truth_bool ?_))
  rw [if_neg (by decide)]
  refine wpAny_allTrue_Or_nil (r_nil ?_)
  refine K T lm lu ms us mS uS ((T, tupP [.ref lm, .ref lu]) :: (lm, lstP ms) :: (lu, lstP us) :: Z) s₁₃ (by ktr_rel) (fun p hp => by ktr_rel) (by ktr_rel) (by ktr_rel) (by ktr_rel) hms hus (fun x hx => (hm1 x).mp hx) (fun x hx => (hu1 x).mp hx) ?_
  dsimp only [lwE]
  exact O.pick (by ktr_rel)
end
end
section
section
open PySem.SeqAt
theorem map_S_inj : ∀ {a b : List Key}, (∀ k ∈ a, k.length ≤ 3) → (∀ k ∈ b, k.length ≤ 3) → a.map S = b.map S → a = b
  | [], [], _, _, _ => rfl
  | [], _ :: _, _, _, h => by cases h
  | _ :: _, [], _, _, h => by cases h
  | x :: a, y :: b, ha, hb, h => by
    rw [List.map_cons, List.map_cons] at h
    injection h with h1 h2
    rw [S_inj (ha x List.mem_cons_self) (hb y List.mem_cons_self) h1, map_S_inj (fun k hk => ha k (List.mem_cons_of_mem _ hk)) (fun k hk => hb k (List.mem_cons_of_mem _ hk)) h2]
theorem dec_S {a b : List Key} (ha : ∀ k ∈ a, k.length ≤ 3) (hb : ∀ k ∈ b, k.length ≤ 3) : decide (a.map S = b.map S) = decide (a = b) := by
  by_cases h : a = b
  · rw [decide_eq_true h, decide_eq_true (congrArg _ h)]
  · rw [decide_eq_false h, decide_eq_false fun e => h (map_S_inj ha hb e)]
theorem ne_S {p q : Key} (hp : p.length ≤ 3) (hq : q.length ≤ 3) : (!(S p == S q)) = decide (p ≠ q) := by
  by_cases h : p = q
  · rw [h]; simp
  · have : S p ≠ S q := fun e => h (S_inj hp hq e)
    simp [h, this]
theorem runR_mem {q0 : Key → Int} {D : List Key} {x : Key} (h : x ∈ (runR q0 D).1) : x ∈ D := by
  rcases fold_sub D h with h | h
  · simp at h
  · exact h
variable {w : World} {A : Around} {E : Value → Shared → Prop} {s : Shared} {h₀ : Heap} {Φ : List Cell} {env : Env}
variable {L cO cF cU cY cL cQ cR cK cS dk dl dq lr l : Addr} {row : List Key} {q0 : Key → Int} {vr : List Value} {kq kl : List (Str × Value)} {Z : List Cell}
set_option maxHeartbeats 4000000 in
/-- the loops over told, and the end, over the locals and the cell of one -/
theorem law_p7c {T lm lu lU u0 u1 lF f0 f1 : Addr} {t0 t1 ms us : List Value} {mS uS : List Str} {k0 k1 : List (Str × Value)} {T0 T1 : List Key} {v1 v2 v3 v5 v6 vO : Option Value} {W : List Cell} {Q : Flow → Shared → Prop} (B : Base w h₀) (R : Rm A 9) (H : (LH w h₀ env L cO cF cU cY cL cQ cR cK cS dk dl dq lr row q0 vr kq kl Z)) (O : Own h₀ s.heap ((L, locP lwNm [v1, v2, v3, some (.ref T), v5, v6]) :: (cO, celP vO) :: (Z ++ W))) (hcU : (cU, celP (some (.ref lU))) ∈ W) (hcF : (cF, celP (some (.ref lF))) ∈ W) (hcQ : (cQ, celP (some (.ref dq))) ∈ W) (hcL : (cL, celP (some (.ref dl))) ∈ W) (hcY : (cY, celP (some (.ref dk))) ∈ W)
    (hU : (lU, lstP [.ref u0, .ref u1]) ∈ Z) (h0 : (u0, lstP t0) ∈ Z) (h1 : (u1, lstP t1) ∈ Z) (ht0 : StrsAre t0 (T0.map S)) (hF : (lF, lstP [.ref f0, .ref f1]) ∈ Z) (hf0 : (f0, dctP w k0) ∈ Z) (nsf : NS f0)
    (fd0 : FD q0 T0 row k0 Z) (R0 : Ran q0 row T0) (hs1 : ∀ p ∈ T1, p ∈ row) (z0 : T0.length ≤ 10)
    (hT : (T, tupP [.ref lm, .ref lu]) ∈ Z) (hlm : (lm, lstP ms) ∈ Z) (hlu : (lu, lstP us) ∈ Z) (hms : StrsAre ms mS) (hus : StrsAre us uS) (hmS : ∀ x ∈ mS, x ∈ T0.map S ∧ x ∉ T1.map S) (huS : ∀ x ∈ uS, x ∈ T1.map S ∧ x ∉ T0.map S)
    (K : ∀ s', Sm s s' → Kp h₀ s'.heap → Q (.ret (.bool true)) s') :
    wpAny (model PR w) A (execs ((bodyAt 31).drop 10) env) Q E s := by
  have hh := R.hd
  have V := H.V
  have hck := H.hck
  have gT : ∀ p ∈ T0, Good p := fun p hp => H.hg p (R0.sub p hp)
  have lt0 : t0.length = T0.length := by rw [ht0.length]; simp
  have oU := List.mem_append_right Z hcU
  have oF := List.mem_append_right Z hcF
  have oQ := List.mem_append_right Z hcQ
  have oL := List.mem_append_right Z hcL
  have oY := List.mem_append_right Z hcY
  have hU := List.mem_append_left W hU
  have h0 := List.mem_append_left W h0
  have hF := List.mem_append_left W hF
  have hf0 := List.mem_append_left W hf0
  have hT := List.mem_append_left W hT
  have hlm := List.mem_append_left W hlm
  have hlu := List.mem_append_left W hlu
  have oA : ∀ p ∈ Z, p ∈ Z ++ W := fun p hp => List.mem_append_left W hp
  refine r_seq rfl (wpAny_For (Subscript_ (r_ld V O (by ktr_rel) (by ktr_rel) (wpAny_Constant_int (r_gen O ?_)))))
  clear O; intro s₁ e₁ O
  refine PyProof.Rows.item_tupleT (j := 0) (tupP.tup (O.get (by ktr_rel))) (by decide) (by decide) rfl rfl ?_
  refine r_for_list (l := lm) (xs := ms) hh (fun i Φ => ∃ vO v2 v5 v6, Φ = (L, locP lwNm [v1, v2, v3, some (.ref T), v5, v6]) :: (cO, celP (vO)) :: (Z ++ W)) O (ei4 _ _ _ _ rfl) (fun i Φ _ ⟨_, _, _, _, h⟩ => by rw [h]; exact .cell (by ktr_rel)) ?_ ?_
  · intro i v Φ s₂ I P hi jy0 e₂ O
    refine ex4 jy0 fun vO v2 v5 v6 jr00 => ?_
    clear jy0
    subst jr00
    refine hideT fun TT1 hTT1 => ?_
    obtain ⟨y, ty, rfl, hy⟩ := hms.item i v hi
    obtain ⟨hy0, hy1⟩ := hmS y (List.mem_of_getElem? hy)
    obtain ⟨one, hone, rfl⟩ := List.mem_map.mp hy0
    have gone := gT one hone
    refine r_stc V (hck "one" (by ktr_rel)) O (by ktr_rel) (by ktr_rel) (by ktr_rel) ?_
    clear O; intro s₃ e₃ O
    refine r_seq rfl (wpAny_For (Subscript_ (r_ld V O (by ktr_rel) (by ktr_rel) (wpAny_Constant_int (r_gen O ?_)))))
    clear O; intro s₄ e₄ O
    refine PyProof.Rows.item_tupleT (j := 1) (tupP.tup (O.get (by ktr_rel))) (by decide) (by decide) rfl rfl ?_
    refine r_for_list (l := lu) (xs := us) hh (fun i Φ => ∃ v2 v5 v6, Φ = (I, P) :: (L, locP lwNm [v1, v2, v3, some (.ref T), v5, v6]) :: (cO, celP (some (.str (S one) ty))) :: (Z ++ W)) O (ei3 _ _ _ rfl) (fun i Φ _ ⟨_, _, _, h⟩ => by rw [h]; exact .cell (by ktr_rel)) ?_ ?_
    · rintro j v Φ s₅ I2 P2 hj ⟨v2, v5, v6, rfl⟩ e₅ O
      refine hideT fun TT2 hTT2 => ?_
      obtain ⟨y, tz, rfl, hy⟩ := hus.item j v hj
      obtain ⟨hz1, hz0⟩ := huS y (List.mem_of_getElem? hy)
      obtain ⟨other, hot1, rfl⟩ := List.mem_map.mp hz1
      have hot : other ∈ row := hs1 other hot1
      have hno : other ∉ T0 := fun e => hz0 (List.mem_map.mpr ⟨other, e, rfl⟩)
      have got := H.hg other hot
      obtain ⟨Qk, rest, hfl⟩ := List.exists_cons_of_ne_nil (R0.out other hot hno)
      refine ex2 (fd0.at_ other hot) fun la va jx => ?_
      refine an3 jx fun hva hla hsa => ?_
      clear jx
      replace hla := oA _ hla
      rw [hfl] at hsa
      obtain ⟨tq, hva0⟩ : ∃ tq, va[0]? = some (.str (S Qk) tq) := by
        cases hsa; exact ⟨_, rfl⟩
      have gQ : Good Qk := by
        have : Qk ∈ fullL q0 T0 other := by rw [hfl]; exact List.mem_cons_self
        exact anc_good got (List.mem_filter.mp this).1
      have hD : ∀ p ∈ (T0.filter fun x => decide (x ≠ one)) ++ [other], p ∈ row := by
        intro p hp
        rcases List.mem_append.mp hp with hp | hp
        · exact R0.sub p (List.mem_filter.mp hp).1
        · rw [List.mem_singleton.mp hp]; exact hot
      have zD : ((T0.filter fun x => decide (x ≠ one)) ++ [other]).length ≤ 20 := by
        have := List.length_filter_le (fun x => decide (x ≠ one)) T0
        rw [List.length_append, List.length_singleton]; lia
      refine r_st V O (by ktr_rel) (by ktr_rel) (by ktr_rel) ?_
      clear O; intro s₆ e₆ O
      -- files = [place for place in runs[0] if place != one] + [other]
      refine r_seq rfl (wpAny_Assign_Name (wpAny_BinOp (r_lc V (blkOK_of (nm := ["place"]) (cn := []) (fn := ["one"]) (gl := []) (by kernel_rfl)) (cl' := [("one", cO)]) rfl (fun p hp => by rw [List.mem_singleton.mp hp]; simp) (Subscript_ (r_ldc V O (by ktr_rel) (by ktr_rel) (wpAny_Constant_int (r_gen O ?_)))))))
      clear O; intro s₇ e₇ O
      refine r_li O (.cell (by ktr_rel)) (by decide) (by decide) rfl ?_
      refine r_it_list O (.cell (by ktr_rel)) ?_
      clear O; intro I3 s₈ e₈ O
      refine lc_block V (blkOK_of (nm := ["place"]) (cn := []) (fn := ["one"]) (gl := []) (by kernel_rfl)) rfl ((iter_list (l := u0) (xs := t0) hh).toT self_list) (by lia)
        (fun C cs k ys Ψ => ∃ v0, StrsAre ys (((T0.take k).filter fun x => decide (x ≠ one)).map S) ∧ Ψ = (C, locP ["place"] [v0]) :: (I2, P2) :: (I, P) :: (L, locP lwNm [v1, v2, v3, some (.ref T), some (.str (S other) tz), v6]) :: (cO, celP (some (.str (S one) ty))) :: (Z ++ W)) O ?_ ?_ ?_ ?_
      · intro C cs hcs
        obtain rfl := cs_nil hcs
        exact ⟨_, .nil, rfl⟩
      · rintro C cs D i ys Ψ _ ⟨v0, _, rfl⟩
        exact .cell (by ktr_rel)
      · rintro C cs D cenv V' hck' hfr hcs k v Ψ ys Φ4 s₉ hk ⟨v0, hys, rfl⟩ ⟨hvk, rfl⟩ e₉ O
        obtain rfl := cs_nil hcs
        obtain ⟨y, t2, rfl, hy⟩ := ht0.item k v hvk
        rw [List.getElem?_map] at hy
        obtain ⟨p, hp, rfl⟩ := Option.map_eq_some_iff.mp hy
        have gp := gT p (List.mem_of_getElem? hp)
        dsimp only [List.cons_append, List.nil_append] at O V'
        refine PyProof.Rows.assign_Name (r_st V' O (by ktr_rel) (by ktr_rel) (by ktr_rel) ?_)
        clear O; intro s₁₀ e₁₀ O
        refine r_t1 (wpAny_isTrue_Compare1 (r_ld V' O (by ktr_rel) (by ktr_rel) (r_ldc V' O (by ktr_rel) (by ktr_rel) (r_rcne (RcNeAt.str_str _ _ _ _) (truth_bool ?_)))))
        rw [ne_S gp.2 gone.2]
        have hstep : ((T0.take (k + 1)).filter fun x => decide (x ≠ one)) = ((T0.take k).filter fun x => decide (x ≠ one)) ++ (if p ≠ one then [p] else []) := by
          rw [List.take_add_one, hp, List.filter_append]
          by_cases h : p = one <;> simp [h]
        by_cases hpo : p = one
        · rw [decide_eq_false (not_not_intro hpo), if_neg (show ¬ false = true by decide)]
          refine ⟨_, by ktr_rel, O.pick (by ktr_rel), _, ?_, rfl⟩
          rw [hstep, if_neg (not_not_intro hpo), List.append_nil]
          exact hys
        · rw [decide_eq_true hpo, if_pos rfl]
          refine r_ld V' O (by ktr_rel) (by ktr_rel) ⟨_, by ktr_rel, O.pick (by ktr_rel), _, ?_, rfl⟩
          rw [hstep, if_pos hpo, List.map_append]
          exact kct_snoc hys
      · rintro C cs D ys Ψ s₉ ⟨v0, hys, rfl⟩ e₉ O
        rw [lt0, List.take_length] at hys
        have lys : ys.length ≤ 10 := by
          rw [hys.length, List.length_map]
          exact Nat.le_trans (List.length_filter_le _ _) z0
        refine post_none O (.tail .head) ?_
        clear O; intro s₁₀ e₁₀ O
        refine List_ (r_arg (r_ld V O (by ktr_rel) (by ktr_rel) (r_args (r_newLst O ?_))))
        clear O; intro b0 s₁₁ e₁₁ _ _ O
        refine r_ladd O (.cell (by ktr_rel)) (.cell (by ktr_rel)) (by simp; lia) ?_
        clear O; intro fl s₁₂ e₁₂ O
        have hfs : StrsAre (ys ++ [.str (S other) tz]) (((T0.filter fun x => decide (x ≠ one)) ++ [other]).map S) := by rw [List.map_append]; exact kct_snoc hys
        refine r_st V O (by ktr_rel) (by ktr_rel) (by ktr_rel) ?_
        clear O; intro s₁₃ e₁₃ O
        -- let = _law_run(files, quotas, lines, keys, []) == files
        have Hdq := oA _ H.hdq
        refine r_seq rfl (wpAny_Assign_Name (wpAny_Compare1 (r_call (r_glob V (B.keeps O.keep) (by ktr_rel) (by ktr_rel) (r_fn (fn_run w).FA (B.keeps O.keep) (r_arg (r_ld V O (by ktr_rel) (by ktr_rel) (r_arg (r_ldc V O (by ktr_rel) (by ktr_rel) (r_arg (r_ldc V O (by ktr_rel) (by ktr_rel) (r_arg (r_ldc V O (by ktr_rel) (by ktr_rel) (r_arg (List_ (r_args (r_newLst O ?_)))))))))))))))))
        clear O; intro as s₁₄ e₁₄ _ _ O
        refine r_args ⟨B.keeps O.keep, ?_⟩
        refine law_run_spec (asked := []) (B.keeps O.keep) (R.le (by decide)) (O.get (by ktr_rel)) hfs (fun p hp => spots_row H.hg p (hD p hp)) ⟨H.hq, O.get (by ktr_rel), H.nsq⟩ (fun k hk => by have := H.hq1 k hk; lia) (H.toLK O (fun p hp => by have := oA p hp; ktr_rel)) H.nsl H.nsk (spots_good H.hg) spots_anc (O.get (by ktr_rel)) .nil (fun _ h => nomatch h) zD (by decide) fun u tv s₁₅ e₁₅ k₁₅ htv N₁₅ => ?_
        replace O := O.new k₁₅ N₁₅
        dsimp only [List.cons_append, List.nil_append] at O
        refine r_ld V O (by ktr_rel) (by ktr_rel) (r_rc (leq_strs (O.get (by ktr_rel)) (O.get (by ktr_rel)) htv hfs R.cline) ?_)
        rw [dec_S (fun k hk => (H.hg k (hD k (runR_mem hk))).2) (fun k hk => (H.hg k (hD k hk)).2), exchange H.hq1 R0 hone hno hfl]
        refine r_st V O (by ktr_rel) (by ktr_rel) (by ktr_rel) ?_
        clear O; intro s₁₆ e₁₆ O
        -- if let != (commonpath([full[0][other][0], one]) == full[0][other][0])
        refine r_seq rfl (wpAny_If (wpAny_isTrue_Compare1 (r_ld V O (by ktr_rel) (by ktr_rel) (wpAny_Compare1 (r_call (r_glob V (B.keeps O.keep) (by ktr_rel) (by ktr_rel) (r_fn (fn_commonpath w).FA (B.keeps O.keep) (r_arg (List_ (r_arg (Subscript_ (Subscript_ (Subscript_ (r_ldc V O (by ktr_rel) (by ktr_rel) (wpAny_Constant_int (r_gen O ?_))))))))))))))))
        clear O; intro s₁₇ e₁₇ O
        refine r_li O (.cell (by ktr_rel)) (by decide) (by decide) rfl ?_
        refine r_ld V O (by ktr_rel) (by ktr_rel) (r_subT O (.cell (by ktr_rel)) hva ?_)
        clear O; intro s₁₈ e₁₈ O
        refine wpAny_Constant_int (r_gen O ?_)
        clear O; intro s₁₉ e₁₉ O
        refine r_li O (.cell (by ktr_rel)) (by decide) (by decide) hva0 ?_
        refine r_arg (r_ldc V O (by ktr_rel) (by ktr_rel) (r_args (r_newLst O ?_)))
        clear O; intro c0 s₂₀ e₂₀ _ _ O
        refine r_args ⟨B.keeps O.keep, ?_⟩
        refine commonpath_spec (ks := [Qk, one]) (B.keeps O.keep) (R.le (by decide)) (O.get (by ktr_rel)) (.cons _ _ (.cons _ _ .nil)) (fun k hk => ?_) (by simp) (by simp) (cp2 Qk one).1 fun t2 s₂₁ e₂₁ k₂₁ => ?_
        · simp only [List.mem_cons, List.not_mem_nil, or_false] at hk
          rcases hk with rfl | rfl <;> assumption
        replace O := O.kp k₂₁
        refine Subscript_ (Subscript_ (Subscript_ (r_ldc V O (by ktr_rel) (by ktr_rel) (wpAny_Constant_int (r_gen O ?_)))))
        clear O; intro s₂₂ e₂₂ O
        refine r_li O (.cell (by ktr_rel)) (by decide) (by decide) rfl ?_
        refine r_ld V O (by ktr_rel) (by ktr_rel) (r_subT O (.cell (by ktr_rel)) hva ?_)
        clear O; intro s₂₃ e₂₃ O
        refine wpAny_Constant_int (r_gen O ?_)
        clear O; intro s₂₄ e₂₄ O
        refine r_li O (.cell (by ktr_rel)) (by decide) (by decide) hva0 ?_
        refine PyProof.Rows.eq_str ?_
        rw [cp_test2 gQ gone]
        refine r_rcne (RcNeAt.bool_bool _ _) (truth_bool ?_)
        rw [if_neg (show ¬ (!(decide (Qk <+: one) == decide (Qk <+: one))) = true by simp)]
        refine r_nil (r_nil (hTT2 _ _ ?_))
        refine Turn.next ((I, P) :: (L, locP lwNm [v1, some (.ref fl), v3, some (.ref T), some (.str (S other) tz), some (.bool (decide (Qk <+: one)))]) :: (cO, celP (some (.str (S one) ty))) :: (Z ++ W)) (by ktr_rel) ?_ (ei3 _ _ _ rfl)
        exact O.pick (by ktr_rel)
    · rintro Φ s₅ ⟨v2, v5, v6, rfl⟩ e₅ O
      refine r_nil (hTT1 _ _ ?_)
      refine Turn.next _ (by ktr_rel) O (ei4 _ _ _ _ rfl)
  · intro Φ s₂ jy0 e₂ O
    refine ex4 jy0 fun vO v2 v5 v6 jr00 => ?_
    clear jy0
    subst jr00
    refine r_seq rfl (wpAny_Return_some (wpAny_Constant_bool ?_))
    exact K s₂ (by ktr_rel) O.keep
set_option maxHeartbeats 4000000 in
/-- the loops over told, and the end -/
theorem law_p7 {T lm lu lU u0 u1 lF f0 f1 : Addr} {t0 t1 ms us : List Value} {mS uS : List Str} {k0 k1 : List (Str × Value)} {T0 T1 : List Key} {v1 v2 v3 v5 v6 vO vK : Option Value} {Q : Flow → Shared → Prop} (B : Base w h₀) (R : Rm A 9) (H : (LH w h₀ env L cO cF cU cY cL cQ cR cK cS dk dl dq lr row q0 vr kq kl Z)) (O : Own h₀ s.heap (lwE L cO cF cU cY cL cQ cR cK cS dk dl dq lr l [v1, v2, v3, some (.ref T), v5, v6] vO (some (.ref lF)) (some (.ref lU)) vK Z))
    (hU : (lU, lstP [.ref u0, .ref u1]) ∈ Z) (h0 : (u0, lstP t0) ∈ Z) (h1 : (u1, lstP t1) ∈ Z) (ht0 : StrsAre t0 (T0.map S)) (hF : (lF, lstP [.ref f0, .ref f1]) ∈ Z) (hf0 : (f0, dctP w k0) ∈ Z) (nsf : NS f0)
    (fd0 : FD q0 T0 row k0 Z) (R0 : Ran q0 row T0) (hs1 : ∀ p ∈ T1, p ∈ row) (z0 : T0.length ≤ 10)
    (hT : (T, tupP [.ref lm, .ref lu]) ∈ Z) (hlm : (lm, lstP ms) ∈ Z) (hlu : (lu, lstP us) ∈ Z) (hms : StrsAre ms mS) (hus : StrsAre us uS) (hmS : ∀ x ∈ mS, x ∈ T0.map S ∧ x ∉ T1.map S) (huS : ∀ x ∈ uS, x ∈ T1.map S ∧ x ∉ T0.map S)
    (K : ∀ s', Sm s s' → Kp h₀ s'.heap → Q (.ret (.bool true)) s') :
    wpAny (model PR w) A (execs ((bodyAt 31).drop 10) env) Q E s := by
  dsimp only [lwE] at O
  have O1 : Own h₀ s.heap ((L, locP lwNm [v1, v2, v3, some (.ref T), v5, v6]) :: (cO, celP vO) :: ([(cF, celP (some (.ref lF))), (cU, celP (some (.ref lU))), (cY, celP (some (.ref dk))), (cL, celP (some (.ref dl))), (cQ, celP (some (.ref dq))), (cR, celP (some (.ref lr))), (cK, celP vK)] ++ Z)) := O.pick (by ktr_rel)
  exact law_p7c (k1 := k1) B R H (O1.perm (List.Perm.cons _ (List.Perm.cons _ List.perm_append_comm))) (by ktr_rel) (by ktr_rel) (by ktr_rel) (by ktr_rel) (by ktr_rel) hU h0 h1 ht0 hF hf0 nsf fd0 R0 hs1 z0 hT hlm hlu hms hus hmS huS K
end
end
section
section
open PySem.SeqAt
variable {w : World} {A : Around} {E : Value → Shared → Prop} {s : Shared}
theorem Ran.mem {q0 : Key → Int} {row row' T : List Key} (R : Ran q0 row T) (h : ∀ x, x ∈ row ↔ x ∈ row') : Ran q0 row' T := ⟨R.nd, fun x hx => (h x).mp (R.sub x hx), R.pos, fun p hp hn => R.out p ((h p).mpr hp) hn⟩
set_option maxHeartbeats 4000000 in
theorem law_spec {l : Addr} {vs : List Value} {Q : Value → Shared → Prop} (B : Base w s.heap) (R : Rm A 10) (hfr : A.frames = some []) (hl : s.heap.IsList l vs.toArray) (hv : ∀ v ∈ vs, ∃ a t, v = .int a t) (hz : vs.length ≤ 63)
    (h : ∀ s', Sm s s' → Kp s.heap s'.heap → Q (.bool true) s') : wpAny (model PR w) A (call (.ref 248) [.ref l]) Q E s := by
  refine enterC (fn_law w) B (R.le (by decide)) [("script", .ref l)] (by kernel_rfl) ?_
  intro L env s₁ cs e₁ hcs V hck O hf
  obtain ⟨cO, cF, cU, cY, cL, cQ, cR, cK, cS, rfl⟩ := cs_nine hcs
  have R1 : Rm (A.deeper env) 9 := R.deeper
  have hfr1 : (A.deeper env).frames = some [env] := Around.frames_deeper hfr
  replace O : Own s.heap s₁.heap [(cO, celP none), (cF, celP none), (cU, celP none), (cY, celP none), (cL, celP none), (cQ, celP none), (cR, celP none), (cK, celP none), (cS, celP none), (L, locP lwNm [none, none, none, none, none, none])] := O
  refine r_stc V (hck "script" (by ktr_rel)) O (by ktr_rel) (by ktr_rel) (by ktr_rel) ?_
  clear O; intro s₂ e₂ O
  refine ⟨B.keeps O.keep, ?_⟩
  refine law_p1 B R1 V hck (O.pick (by ktr_rel)) hl hv hz ?_
  clear O; intro c0 c1 c2 c3 c4 c5 ca lr dq dl dk vr kq X s₃ e₃ hvr nsq hkq nsl nsk lk O
  obtain ⟨kl, kk, hkl, hkk, hkeys, _, hat⟩ := (lk (fun a P => (a, P) ∈ X) fun p hp => hp).out
  have gr : ∀ p ∈ [keyOf c0, keyOf c1, keyOf c2, keyOf c3], Good p := by
    intro p hp
    simp only [List.mem_cons, List.not_mem_nil, or_false] at hp
    rcases hp with rfl | rfl | rfl | rfl <;> exact row_good _
  generalize hrow : [keyOf c0, keyOf c1, keyOf c2, keyOf c3] = row at hvr lk hkeys hat gr
  have r4 : row.length = 4 := by rw [← hrow]; rfl
  have hq1 := q_pos c4 c5
  generalize qV c4 c5 = q0 at hkq hq1
  have H : LH w s.heap env L cO cF cU cY cL cQ cR cK cS dk dl dq lr row q0 vr kq kl ((lr, lstP vr) :: (dq, dctP w kq) :: X) :=
    ⟨V, hck, hvr, r4, gr, nsq, nsl, nsk, hkq, hq1, by ktr_rel, by ktr_rel, by ktr_rel, hkeys, fun k hk => (hat k hk).imp fun _ h => h.imp fun _ h => h.elim fun _ h => h.elim fun _ h => ⟨h.1, by have := h.2.1; ktr_rel, h.2.2.1⟩, fun G hG => lk G fun p hp => hG p (by ktr_rel)⟩
  have ran0 : Ran q0 row (runR q0 row).1 := ran_of hq1 row
  have ran1 : Ran q0 row (runR q0 row.reverse).1 := (ran_of hq1 row.reverse).mem fun x => List.mem_reverse
  have z0 : (runR q0 row).1.length ≤ 4 := by have := runR_len row ([], q0); simp only [List.length_nil, r4] at this; unfold runR; lia
  have z1 : (runR q0 row.reverse).1.length ≤ 4 := by have := runR_len row.reverse ([], q0); simp only [List.length_nil, List.length_reverse, r4] at this; unfold runR; lia
  have g0 : ∀ p ∈ (runR q0 row).1, Good p := fun p hp => gr p (ran0.sub p hp)
  have g1 : ∀ p ∈ (runR q0 row.reverse).1, Good p := fun p hp => gr p (ran1.sub p hp)
  refine law_p2 (l := l) B R1 H O ?_
  clear O; intro lU u0 u1 t0 t1 Z2 s₄ e₄ H2 hU hu0 hu1 ht0 ht1 O
  refine law_p3 (l := l) B R1 H2 O hU hu0 hu1 ht0 ht1 g0 g1 (by lia) (by lia) ?_
  clear O; intro lM r0 r1 m0 m1 Z3 s₅ e₅ h3 hM hr0 hr1 nr0 nr1 hm0 hm1 O
  refine law_p4 (l := l) B R1 (H2.mono h3) O hM hr0 hr1 nr0 nr1 hm0 hm1 ?_
  clear O; intro lF f0 f1 k0 k1 Z4 s₆ e₆ h4 hF hf0 hf1 nf0 nf1 fd0 fd1 O
  have h34 : ∀ p ∈ Z2, p ∈ Z4 := fun p hp => h4 p (h3 p hp)
  refine law_p5 (l := l) B R1 (H2.mono h34) O (h4 _ hM) (h4 _ hr0) (h4 _ hr1) nr0 nr1 hm0 hm1 (h34 _ hU) (h34 _ hu0) (h34 _ hu1) ht0 ht1 hF hf0 hf1 fd0 fd1 ran0 ran1 ?_
  clear O; intro vK s₇ e₇ O
  refine law_p6 (l := l) B R1 hfr1 hf (H2.mono h34) O (h34 _ hU) (h34 _ hu0) (h34 _ hu1) ht0 ht1 g0 g1 (by lia) (by lia) ran0.nd ran1.nd ?_
  clear O; intro T lm lu ms us mS uS Z5 s₈ e₈ h5 hT hlm hlu hms hus hmS huS O
  refine law_p7 (l := l) (k1 := []) B R1 ((H2.mono h34).mono h5) O (h5 _ (h34 _ hU)) (h5 _ (h34 _ hu0)) (h5 _ (h34 _ hu1)) ht0 (h5 _ hF) (h5 _ hf0) nf0 (fd0.mono h5) ran0 ran1.sub (by lia) hT hlm hlu hms hus hmS huS ?_
  clear O; intro s₉ e₉ k₉
  exact h s₉ (by ktr_rel) k₉
end
end
section
theorem ints_are {vs : List Value} {ns : List Int} (h : IntsAre vs ns) : ∀ v ∈ vs, ∃ a t, v = Value.int a t := by
  induction h with
  | nil => intro v hv; cases hv
  | cons n t _ ih =>
    intro v hv
    rcases List.mem_cons.mp hv with rfl | hv
    · exact ⟨_, _, rfl⟩
    · exact ih v hv
theorem ints_len {vs : List Value} {ns : List Int} (h : IntsAre vs ns) : vs.length = ns.length := by
  induction h with
  | nil => rfl
  | cons n t _ ih => simp [ih]
set_option maxHeartbeats 8000000 in
theorem fin : PySem.Challenge.rw_il0178_01.Holds := by
  refine holds_law (l := PySem.Challenge.rw_il0178_01) well_said fun said => ?_
  refine holds_open (q := qv) (loose := ["Flags"]) (Xt := fun s => xlAt qv [] s && recOk (RowW.records PySem.Challenge.rw_il0178_01.row.toRowW) s) (XP := XL qv []) (Yf := Hook.obs HK) (Ya := Hook.val HK) (YP := Hook.says HK) (N := 3356) top_runs (Hook.of HK) (Hook.keeps HK) (fun s e => xl_of s (Bool.and_eq_true_iff.mp e).1) XL.keeps (by rfl) (by rfl) (by rfl) (fun s e => recFacts_of (Bool.and_eq_true_iff.mp e).2) (by rfl) (by assumption) (by decide +kernel) ⟨rfl, rfl, rfl, rfl, rfl, by decide +kernel⟩ ?hw ?hc
  case hw => w_witness2
  case hc =>
    intro w s₀ s₁ mg mb G Y fa o pm cd doc dV kV ho hd' hcd hD hmg hg args vals as hpre hlay hrd hwl hlo
    have KX : (KK w).In s₁.heap := kIn_of Y
    refine Ground.open G ?_
    intro T B D TE TW
    wrow_args hpre hlay hrd hwl hlo
    have e1 : mg "law" = some (.ref 248) := mg_of KX T.g (by kernel_rfl)
    have e2 : some (Value.ref fa) = some (Value.ref 248) := hmg.symm.trans e1
    have e3 : fa = 248 := Value.ref.inj (Option.some.inj e2)
    clear e2 hmg
    subst e3
    rename_i ns _ _ _ _ _ _ _ l vs _ hL _ _ _ hI _ hlen _
    have hB : Base w s₁.heap := ⟨KX, T.seer (by decide +kernel), mg, mb, T.g, T.b, T.nolimit, T.builtins⟩
    refine law_spec hB ⟨rfl, by decide, by decide, _, rfl⟩ rfl hL (ints_are hI) (by have := ints_len hI; lia) fun s' e k => ?_
    refine GoodW.toG ⟨.inl ⟨_, _, [], rfl, fun _ => rfl, ReadsW.bool true, ?_, fun _ => ⟨List.nodup_nil, fun _ hm => (nomatch hm)⟩⟩, k, e.os, e.gens.trans hg⟩
    first | rfl | wrow_post
end
end Mine
theorem PySem.Challenge.cw_il0178_01_holds : PySem.Challenge.rw_il0178_01.Holds := by
  exact Mine.fin
