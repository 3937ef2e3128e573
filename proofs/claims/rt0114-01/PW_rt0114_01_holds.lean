import PyProof.Rows.All
import Wide.All
import OpenK.AllK
import Wide.FinOn
import Open.Tops
import Lean
import PySem.Challenge.RW_rt0114_01
set_option linter.all false
local macro_rules | `(tactic| walk_at $s:str) => `(tactic| k_extra $s)
local macro_rules | `(tactic| k_mem) => `(tactic| k_extra "k_mem")
local macro_rules | `(tactic| k_all) => `(tactic| k_extra "k_all")
local macro_rules | `(tactic| k_ne) => `(tactic| k_extra "k_ne")
local macro_rules | `(tactic| k_room) => `(tactic| k_extra "k_room")
local macro_rules | `(tactic| k_lt $h) => `(tactic| (revert $h; k_extra "k_lt"))
section THdN
open PySem PySem.W PyProof.Rows PySem.Calls
set_option Elab.async false
set_option maxRecDepth 100000
set_option maxHeartbeats 0
set_option linter.unusedVariables false
namespace Mine
noncomputable section
noncomputable def nthS : Nat → List Stmt → Stmt
  | _, [] => .Pass ⟨0, 0, 0, 0⟩
  | 0, s :: _ => s
  | n + 1, _ :: r => nthS n r
noncomputable def fnB : Stmt → List Stmt
  | .FunctionDef _ _ b _ _ _ _ _ _ _ => b
  | _ => []
noncomputable def clB : Stmt → List Stmt
  | .ClassDef _ _ _ b _ _ _ _ _ _ _ => b
  | _ => []
noncomputable def bd (i : Nat) : List Stmt := fnB (nthS i PySem.Challenge.pw_rt0114_01.main.body)
noncomputable def mb (i j : Nat) : List Stmt := fnB (nthS j (clB (nthS i PySem.Challenge.pw_rt0114_01.main.body)))
noncomputable def docS : List Stmt → Str
  | .Expr (.Constant (.str s) _ _) _ :: _ => s
  | _ => ⟨#[]⟩
noncomputable def docOf : List Stmt → Str
  | .ClassDef _ _ _ (.Expr (.Constant (.str s) _ _) _ :: _) _ _ _ _ _ _ _ :: _ => s
  | _ => ⟨#[]⟩
noncomputable def bE : List Stmt := behindTheImports PySem.Challenge.pw_rt0114_01
noncomputable def docP : { cs : List Char // docOf (bE.drop 5) = Str.ofString (String.ofList cs) } := ⟨_, by (conv => lhs; whnf); exact rfl⟩
noncomputable def docT : Str := ⟨⟨docP.1.map Char.toNat⟩⟩
noncomputable def docVT : Value := .str docT 401
noncomputable def ao_1 : Params → Obj := (fun P => (Obj.mk (Value.type "tuple") Option.none (Data.seq (List.toArray []) 0) (List.toArray [])))
noncomputable def ao_3 : Params → Obj := (fun P => (Obj.mk (Value.type "code") Option.none (Data.fields (List.toArray [(Value.str (Str.ofString "<module>") 182), (Value.str (Str.ofString "<module>") 183), (Value.str (Str.ofString "/claim/cut.py") 184), (Value.int (1 : Int) 0), (Value.int (0 : Int) 0), (Value.int (0 : Int) 0), (Value.int (0 : Int) 0), (Value.int (0 : Int) 0), (Value.ref 11), (Value.bool Bool.false), (Value.int (181 : Int) 0), (Value.ref 12), Value.none, Value.none, Value.none, Value.none, (Value.int (185 : Int) 0), (Value.int (1 : Int) 0), (Value.str (Str.ofString "/claim/cut.py") 186)])) (List.toArray [])))
noncomputable def ao_2 : Params → Obj := (fun P => (Obj.mk Value.none Option.none (Data.fields (List.toArray [])) (List.toArray [])))
noncomputable def ao_4 : Params → Obj := (fun P => (Obj.mk (Value.type "frame") Option.none Data.plain (List.toArray [(Option.some (Value.ref 13)), (Option.some (Value.ref 3)), (Option.some (Value.ref 3)), Option.none, (Option.some (Value.str (Str.ofString "__main__") 164)), Option.none, (Option.some (Value.ref 0))])))
noncomputable def bo_397 : Params → Obj := (fun P => (Obj.mk (Value.type "dict") Option.none (Data.dict (List.toArray [(DictEntry.mk (PyData.keyHash P (Str.ofString "__name__")) (Value.str (Str.ofString "__name__") 165) (Value.str (Str.ofString "law_rt0114_01") 638)), (DictEntry.mk (PyData.keyHash P (Str.ofString "__doc__")) (Value.str (Str.ofString "__doc__") 166) Value.none), (DictEntry.mk (PyData.keyHash P (Str.ofString "__package__")) (Value.str (Str.ofString "__package__") 167) Value.none), (DictEntry.mk (PyData.keyHash P (Str.ofString "__loader__")) (Value.str (Str.ofString "__loader__") 168) (Value.builtin "__main__.__loader__#opaque")), (DictEntry.mk (PyData.keyHash P (Str.ofString "__spec__")) (Value.str (Str.ofString "__spec__") 169) Value.none), (DictEntry.mk (PyData.keyHash P (Str.ofString "__annotations__")) (Value.str (Str.ofString "__annotations__") 170) (Value.ref 6)), (DictEntry.mk (PyData.keyHash P (Str.ofString "__builtins__")) (Value.str (Str.ofString "__builtins__") 171) (Value.ref 4)), (DictEntry.mk (PyData.keyHash P (Str.ofString "__file__")) (Value.str (Str.ofString "__file__") 173) (Value.str (Str.ofString "/claim/cut.py") 172)), (DictEntry.mk (PyData.keyHash P (Str.ofString "__cached__")) (Value.str (Str.ofString "__cached__") 174) Value.none), (DictEntry.mk (PyData.keyHash P (Str.ofString "_wall")) (Value.str (Str.ofString "_wall") 193) (Value.ref 21)), (DictEntry.mk (PyData.keyHash P (Str.ofString "_tuplegetter")) (Value.str (Str.ofString "_tuplegetter") 252) (Value.ref 60)), (DictEntry.mk (PyData.keyHash P (Str.ofString "Match")) (Value.str (Str.ofString "Match") 380) (Value.ref 135)), (DictEntry.mk (PyData.keyHash P (Str.ofString "_calculate_ratio")) (Value.str (Str.ofString "_calculate_ratio") 388) (Value.ref 145)), (DictEntry.mk (PyData.keyHash P (Str.ofString "SequenceMatcher")) (Value.str (Str.ofString "SequenceMatcher") 574) (Value.ref 242)), (DictEntry.mk (PyData.keyHash P (Str.ofString "_buffer")) (Value.str (Str.ofString "_buffer") 584) (Value.ref 253)), (DictEntry.mk (PyData.keyHash P (Str.ofString "_truth")) (Value.str (Str.ofString "_truth") 592) (Value.ref 260)), (DictEntry.mk (PyData.keyHash P (Str.ofString "_B64")) (Value.str (Str.ofString "_B64") 594) (Value.bytes (List.toArray ((65 : UInt8) :: (66 : UInt8) :: (67 : UInt8) :: (68 : UInt8) :: (69 : UInt8) :: (70 : UInt8) :: (71 : UInt8) :: (72 : UInt8) :: (73 : UInt8) :: (74 : UInt8) :: (75 : UInt8) :: (76 : UInt8) :: (77 : UInt8) :: (78 : UInt8) :: (79 : UInt8) :: (80 : UInt8) :: (81 : UInt8) :: (82 : UInt8) :: (83 : UInt8) :: (84 : UInt8) :: (85 : UInt8) :: (86 : UInt8) :: (87 : UInt8) :: (88 : UInt8) :: (89 : UInt8) :: (90 : UInt8) :: (97 : UInt8) :: (98 : UInt8) :: (99 : UInt8) :: (100 : UInt8) :: (101 : UInt8) :: (102 : UInt8) :: (103 : UInt8) :: (104 : UInt8) :: (105 : UInt8) :: (106 : UInt8) :: (107 : UInt8) :: (108 : UInt8) :: (109 : UInt8) :: (110 : UInt8) :: (111 : UInt8) :: (112 : UInt8) :: (113 : UInt8) :: (114 : UInt8) :: (115 : UInt8) :: (116 : UInt8) :: (117 : UInt8) :: (118 : UInt8) :: (119 : UInt8) :: (120 : UInt8) :: (121 : UInt8) :: (122 : UInt8) :: (48 : UInt8) :: (49 : UInt8) :: (50 : UInt8) :: (51 : UInt8) :: (52 : UInt8) :: (53 : UInt8) :: (54 : UInt8) :: (55 : UInt8) :: (56 : UInt8) :: (57 : UInt8) :: (43 : UInt8) :: (47 : UInt8) :: [])) 593)), (DictEntry.mk (PyData.keyHash P (Str.ofString "b2a_base64")) (Value.str (Str.ofString "b2a_base64") 608) (Value.ref 268)), (DictEntry.mk (PyData.keyHash P (Str.ofString "b64encode")) (Value.str (Str.ofString "b64encode") 620) (Value.ref 276)), (DictEntry.mk (PyData.keyHash P (Str.ofString "sorted_list_difference")) (Value.str (Str.ofString "sorted_list_difference") 637) (Value.ref 283)), (DictEntry.mk (PyData.keyHash P (Str.ofString "_law_ring")) (Value.str (Str.ofString "_law_ring") 648) (Value.ref 290)), (DictEntry.mk (PyData.keyHash P (Str.ofString "_law_figures")) (Value.str (Str.ofString "_law_figures") 654) (Value.ref 295)), (DictEntry.mk (PyData.keyHash P (Str.ofString "_law_filled")) (Value.str (Str.ofString "_law_filled") 661) (Value.ref 302)), (DictEntry.mk (PyData.keyHash P (Str.ofString "_law_longest")) (Value.str (Str.ofString "_law_longest") 673) (Value.ref 309)), (DictEntry.mk (PyData.keyHash P (Str.ofString "law")) (Value.str (Str.ofString "law") 679) (Value.ref 314))]) 25) (List.toArray [])))
noncomputable def bo_7 : Params → Obj := (fun P => (Obj.mk (Value.type "tuple") Option.none (Data.seq (List.toArray []) 0) (List.toArray [])))
noncomputable def bo_23 : Params → Obj := (fun P => (Obj.mk (Value.type "tuple") Option.none (Data.seq (List.toArray [(Value.str (Str.ofString "self") 211), (Value.str (Str.ofString "index") 212), (Value.str (Str.ofString "doc") 213)]) 0) (List.toArray [])))
noncomputable def bo_55 : Params → Obj := (fun P => (Obj.mk (Value.type "super") Option.none (Data.fields (List.toArray [(Value.ref 60), (Value.ref 60), (Value.ref 60)])) (List.toArray [])))
noncomputable def bo_122 : Params → Obj := (fun P => (Obj.mk (Value.ref 60) (Option.some 126) Data.plain (List.toArray [])))
noncomputable def bo_407 : Params → Obj := (fun P => (Obj.mk Value.none Option.none (Data.fields (List.toArray [])) (List.toArray [])))
noncomputable def bo_264 : Params → Obj := (fun P => (Obj.mk Value.none Option.none (Data.fields (List.toArray [])) (List.toArray [])))
noncomputable def bo_90 : Params → Obj := (fun P => (Obj.mk Value.none Option.none (Data.fields (List.toArray [])) (List.toArray [])))
noncomputable def bo_232 : Params → Obj := (fun P => (Obj.mk (Value.type "code") Option.none (Data.fields (List.toArray [(Value.str (Str.ofString "__init__") 406), (Value.str (Str.ofString "SequenceMatcher.__init__") 407), (Value.str (Str.ofString "/claim/cut.py") 408), (Value.int (145 : Int) 0), (Value.int (5 : Int) 0), (Value.int (0 : Int) 0), (Value.int (0 : Int) 0), (Value.int (3 : Int) 0), (Value.ref 154), (Value.bool Bool.true), (Value.int (181 : Int) 0), (Value.ref 155), Value.none, (Value.ref 156), (Value.ref 157), (Value.ref 158), (Value.int (414 : Int) 0), (Value.int (145 : Int) 0), (Value.str (Str.ofString "/claim/cut.py") 415)])) (List.toArray [])))
noncomputable def bo_439 : Params → Obj := (fun P => (Obj.mk (Value.type "tuple") Option.none (Data.seq (List.toArray []) 0) (List.toArray [])))
noncomputable def bo_296 : Params → Obj := (fun P => (Obj.mk Value.none Option.none (Data.func (FuncData.mk (Str.ofString "ratio") (Str.ofString "SequenceMatcher.ratio") (Arguments.mk [] [(Arg.mk (Str.ofString "self") Option.none (Pos.mk 389 14 389 18))] Option.none [] [] Option.none []) (FuncBody.stmts (mb 5 10)) (Scope.mk ScopeKind.function [(Prod.mk (Str.ofString "self") NameKind.local), (Prod.mk (Str.ofString "matches") NameKind.local), (Prod.mk (Str.ofString "sum") NameKind.globalImplicit), (Prod.mk (Str.ofString "_calculate_ratio") NameKind.globalImplicit), (Prod.mk (Str.ofString "len") NameKind.globalImplicit)] Bool.false Bool.false []) 0 [] Value.none Value.none Value.none Value.none Option.none Value.none Value.none 0)) (List.toArray [])))
noncomputable def bo_39 : Params → Obj := (fun P => (Obj.mk (Value.type "tuple") Option.none (Data.seq (List.toArray []) 0) (List.toArray [])))
noncomputable def bo_74 : Params → Obj := (fun P => (Obj.mk (Value.type "tuple") Option.none (Data.seq (List.toArray []) 0) (List.toArray [])))
noncomputable def bo_213 : Params → Obj := (fun P => (Obj.mk Value.none Option.none (Data.func (FuncData.mk (Str.ofString "_calculate_ratio") (Str.ofString "_calculate_ratio") (Arguments.mk [] [(Arg.mk (Str.ofString "matches") Option.none (Pos.mk 66 21 66 28)), (Arg.mk (Str.ofString "length") Option.none (Pos.mk 66 30 66 36))] Option.none [] [] Option.none []) (FuncBody.stmts (bd 4)) (Scope.mk ScopeKind.function [(Prod.mk (Str.ofString "matches") NameKind.local), (Prod.mk (Str.ofString "length") NameKind.local)] Bool.false Bool.false []) 0 [] Value.none Value.none Value.none Value.none Option.none Value.none Value.none 0)) (List.toArray [])))
noncomputable def bo_423 : Params → Obj := (fun P => (Obj.mk Value.none Option.none (Data.fields (List.toArray [])) (List.toArray [])))
noncomputable def bo_280 : Params → Obj := (fun P => (Obj.mk (Value.type "tuple") Option.none (Data.seq (List.toArray []) 0) (List.toArray [])))
noncomputable def bo_106 : Params → Obj := (fun P => (Obj.mk (Value.type "tuple") Option.none (Data.seq (List.toArray []) 0) (List.toArray [])))
noncomputable def bo_248 : Params → Obj := (fun P => (Obj.mk (Value.type "tuple") Option.none (Data.seq (List.toArray []) 0) (List.toArray [])))
noncomputable def bo_455 : Params → Obj := (fun P => (Obj.mk (Value.type "tuple") Option.none (Data.seq (List.toArray []) 0) (List.toArray [])))
noncomputable def bo_312 : Params → Obj := (fun P => (Obj.mk (Value.type "function") Option.none (Data.func (FuncData.mk (Str.ofString "real_quick_ratio") (Str.ofString "SequenceMatcher.real_quick_ratio") (Arguments.mk [] [(Arg.mk (Str.ofString "self") Option.none (Pos.mk 416 25 416 29))] Option.none [] [] Option.none []) (FuncBody.stmts (mb 5 12)) (Scope.mk ScopeKind.function [(Prod.mk (Str.ofString "self") NameKind.local), (Prod.mk (Str.ofString "_wall") NameKind.globalImplicit)] Bool.false Bool.false []) 3 [] Value.none Value.none Value.none (Value.str (Str.ofString "cpy313.difflib") 194) Option.none (Value.ref 238) Value.none 0)) (List.toArray [])))
noncomputable def bo_15 : Params → Obj := (fun P => (Obj.mk (Value.type "builtin_function_or_method") Option.none (Data.fields (List.toArray [(Value.builtin "type.__prepare__"), (Value.type "type")])) (List.toArray [])))
noncomputable def bo_31 : Params → Obj := (fun P => (Obj.mk (Value.type "tuple") Option.none (Data.seq (List.toArray [(Value.str (Str.ofString "self") 220), (Value.str (Str.ofString "obj") 221), (Value.str (Str.ofString "objtype") 222)]) 0) (List.toArray [])))
noncomputable def bo_66 : Params → Obj := (fun P => (Obj.mk (Value.type "code") Option.none (Data.fields (List.toArray [(Value.str (Str.ofString "Match") 255), (Value.str (Str.ofString "Match") 256), (Value.str (Str.ofString "/claim/cut.py") 257), (Value.int (23 : Int) 0), (Value.int (0 : Int) 0), (Value.int (0 : Int) 0), (Value.int (0 : Int) 0), (Value.int (0 : Int) 0), (Value.ref 69), (Value.bool Bool.false), (Value.int (181 : Int) 0), (Value.ref 70), Value.none, Value.none, Value.none, Value.none, (Value.int (258 : Int) 0), (Value.int (23 : Int) 0), (Value.str (Str.ofString "/claim/cut.py") 259)])) (List.toArray [])))
noncomputable def bo_130 : Params → Obj := (fun P => (Obj.mk (Value.type "type") Option.none (Data.cls (ClassData.mk (Str.ofString "Match") [(Value.type "tuple")] [(Value.ref 135), (Value.type "tuple"), (Value.type "object")] 134 (Str.ofString "Match") Bool.false [] [] Bool.false Option.none Bool.false)) (List.toArray [(Option.some (Value.ref 65)), Option.none, (Option.some (Value.str (Str.ofString "Match") 253)), (Option.some (Value.str (Str.ofString "Match") 261)), (Option.some Value.none), (Option.some (Value.bool Bool.false))])))
noncomputable def bo_415 : Params → Obj := (fun P => (Obj.mk Value.none Option.none (Data.fields (List.toArray [])) (List.toArray [])))
noncomputable def bo_272 : Params → Obj := (fun P => (Obj.mk (Value.type "tuple") Option.none (Data.seq (List.toArray [(Value.str (Str.ofString "self") 495), (Value.str (Str.ofString "la") 496), (Value.str (Str.ofString "lb") 497), (Value.str (Str.ofString "queue") 498), (Value.str (Str.ofString "matching_blocks") 499), (Value.str (Str.ofString "alo") 500), (Value.str (Str.ofString "ahi") 501), (Value.str (Str.ofString "blo") 502), (Value.str (Str.ofString "bhi") 503), (Value.str (Str.ofString "i") 504), (Value.str (Str.ofString "j") 505), (Value.str (Str.ofString "k") 506), (Value.str (Str.ofString "x") 507), (Value.str (Str.ofString "i1") 508), (Value.str (Str.ofString "j1") 509), (Value.str (Str.ofString "k1") 510), (Value.str (Str.ofString "non_adjacent") 511), (Value.str (Str.ofString "i2") 512), (Value.str (Str.ofString "j2") 513), (Value.str (Str.ofString "k2") 514)]) 0) (List.toArray [])))
noncomputable def bo_98 : Params → Obj := (fun P => (Obj.mk (Value.type "tuple") Option.none (Data.seq (List.toArray [(Value.str (Str.ofString "self") 322)]) 0) (List.toArray [])))
noncomputable def bo_240 : Params → Obj := (fun P => (Obj.mk (Value.type "function") Option.none (Data.func (FuncData.mk (Str.ofString "set_seqs") (Str.ofString "SequenceMatcher.set_seqs") (Arguments.mk [] [(Arg.mk (Str.ofString "self") Option.none (Pos.mk 173 17 173 21)), (Arg.mk (Str.ofString "a") Option.none (Pos.mk 173 23 173 24)), (Arg.mk (Str.ofString "b") Option.none (Pos.mk 173 26 173 27))] Option.none [] [] Option.none []) (FuncBody.stmts (mb 5 2)) (Scope.mk ScopeKind.function [(Prod.mk (Str.ofString "self") NameKind.local), (Prod.mk (Str.ofString "a") NameKind.local), (Prod.mk (Str.ofString "b") NameKind.local)] Bool.false Bool.false []) 3 [] Value.none Value.none (Value.str (docS (mb 5 2)) 426) (Value.str (Str.ofString "cpy313.difflib") 194) Option.none (Value.ref 166) Value.none 0)) (List.toArray [])))
noncomputable def bo_447 : Params → Obj := (fun P => (Obj.mk (Value.type "function") Option.none (Data.func (FuncData.mk (Str.ofString "_law_figures") (Str.ofString "_law_figures") (Arguments.mk [] [(Arg.mk (Str.ofString "number") Option.none (Pos.mk 515 17 515 23)), (Arg.mk (Str.ofString "size") Option.none (Pos.mk 515 25 515 29)), (Arg.mk (Str.ofString "count") Option.none (Pos.mk 515 31 515 36))] Option.none [] [] Option.none []) (FuncBody.stmts (bd 17)) (Scope.mk ScopeKind.function [(Prod.mk (Str.ofString "number") NameKind.cell), (Prod.mk (Str.ofString "size") NameKind.cell), (Prod.mk (Str.ofString "count") NameKind.cell), (Prod.mk (Str.ofString "range") NameKind.globalImplicit)] Bool.false Bool.false [(Prod.mk (Str.ofString "fast") (Const.str (Str.ofString "number"))), (Prod.mk (Str.ofString "fast") (Const.str (Str.ofString "size"))), (Prod.mk (Str.ofString "fast") (Const.str (Str.ofString "count"))), (Prod.mk (Str.ofString "fast") (Const.str (Str.ofString "k")))]) 3 [] Value.none Value.none Value.none (Value.str (Str.ofString "law_rt0114_01") 638) Option.none (Value.ref 294) Value.none 0)) (List.toArray [])))
noncomputable def bo_304 : Params → Obj := (fun P => (Obj.mk (Value.type "code") Option.none (Data.fields (List.toArray [(Value.str (Str.ofString "quick_ratio") 544), (Value.str (Str.ofString "SequenceMatcher.quick_ratio") 545), (Value.str (Str.ofString "/claim/cut.py") 546), (Value.int (413 : Int) 0), (Value.int (1 : Int) 0), (Value.int (0 : Int) 0), (Value.int (0 : Int) 0), (Value.int (3 : Int) 0), (Value.ref 226), (Value.bool Bool.true), (Value.int (181 : Int) 0), (Value.ref 227), Value.none, (Value.ref 228), (Value.ref 229), (Value.ref 230), (Value.int (548 : Int) 0), (Value.int (413 : Int) 0), (Value.str (Str.ofString "/claim/cut.py") 549)])) (List.toArray [])))
noncomputable def bo_47 : Params → Obj := (fun P => (Obj.mk Value.none Option.none (Data.func (FuncData.mk (Str.ofString "__delete__") (Str.ofString "_tuplegetter.__delete__") (Arguments.mk [] [(Arg.mk (Str.ofString "self") Option.none (Pos.mk 21 19 21 23)), (Arg.mk (Str.ofString "obj") Option.none (Pos.mk 21 25 21 28))] Option.none [] [] Option.none []) (FuncBody.stmts (mb 2 3)) (Scope.mk ScopeKind.function [(Prod.mk (Str.ofString "self") NameKind.local), (Prod.mk (Str.ofString "obj") NameKind.local), (Prod.mk (Str.ofString "AttributeError") NameKind.globalImplicit)] Bool.false Bool.false []) 0 [] Value.none Value.none Value.none Value.none Option.none Value.none Value.none 0)) (List.toArray [])))
noncomputable def bo_82 : Params → Obj := (fun P => (Obj.mk Value.none Option.none (Data.func (FuncData.mk (Str.ofString "_make") (Str.ofString "Match._make") (Arguments.mk [] [(Arg.mk (Str.ofString "cls") Option.none (Pos.mk 34 14 34 17)), (Arg.mk (Str.ofString "iterable") Option.none (Pos.mk 34 19 34 27))] Option.none [] [] Option.none []) (FuncBody.stmts (mb 3 5)) (Scope.mk ScopeKind.function [(Prod.mk (Str.ofString "cls") NameKind.local), (Prod.mk (Str.ofString "iterable") NameKind.local), (Prod.mk (Str.ofString "result") NameKind.local), (Prod.mk (Str.ofString "tuple") NameKind.globalImplicit), (Prod.mk (Str.ofString "len") NameKind.globalImplicit), (Prod.mk (Str.ofString "TypeError") NameKind.globalImplicit)] Bool.false Bool.false []) 0 [] Value.none Value.none Value.none Value.none Option.none Value.none Value.none 0)) (List.toArray [])))
noncomputable def bo_224 : Params → Obj := (fun P => (Obj.mk (Value.type "code") Option.none (Data.fields (List.toArray [(Value.str (Str.ofString "SequenceMatcher") 391), (Value.str (Str.ofString "SequenceMatcher") 392), (Value.str (Str.ofString "/claim/cut.py") 393), (Value.int (70 : Int) 0), (Value.int (0 : Int) 0), (Value.int (0 : Int) 0), (Value.int (0 : Int) 0), (Value.int (0 : Int) 0), (Value.ref 149), (Value.bool Bool.false), (Value.int (181 : Int) 0), (Value.ref 150), Value.none, Value.none, Value.none, Value.none, (Value.int (394 : Int) 0), (Value.int (70 : Int) 0), (Value.str (Str.ofString "/claim/cut.py") 395)])) (List.toArray [])))
noncomputable def bo_431 : Params → Obj := (fun P => (Obj.mk (Value.type "tuple") Option.none (Data.seq (List.toArray [(Value.str (Str.ofString "expected") 626), (Value.str (Str.ofString "actual") 627), (Value.str (Str.ofString "i") 628), (Value.str (Str.ofString "j") 629), (Value.str (Str.ofString "missing") 630), (Value.str (Str.ofString "unexpected") 631), (Value.str (Str.ofString "e") 632), (Value.str (Str.ofString "a") 633)]) 0) (List.toArray [])))
noncomputable def bo_288 : Params → Obj := (fun P => (Obj.mk (Value.type "tuple") Option.none (Data.seq (List.toArray []) 0) (List.toArray [])))
noncomputable def bo_114 : Params → Obj := (fun P => (Obj.mk Value.none Option.none (Data.func (FuncData.mk (Str.ofString "__getnewargs__") (Str.ofString "Match.__getnewargs__") (Arguments.mk [] [(Arg.mk (Str.ofString "self") Option.none (Pos.mk 59 23 59 27))] Option.none [] [] Option.none []) (FuncBody.stmts (mb 3 10)) (Scope.mk ScopeKind.function [(Prod.mk (Str.ofString "self") NameKind.local), (Prod.mk (Str.ofString "tuple") NameKind.globalImplicit)] Bool.false Bool.false []) 0 [] Value.none Value.none Value.none Value.none Option.none Value.none Value.none 0)) (List.toArray [])))
noncomputable def bo_256 : Params → Obj := (fun P => (Obj.mk Value.none Option.none (Data.fields (List.toArray [])) (List.toArray [])))
noncomputable def bo_463 : Params → Obj := (fun P => (Obj.mk Value.none Option.none (Data.fields (List.toArray [])) (List.toArray [])))
noncomputable def bo_399 : Params → Obj := (fun P => (Obj.mk (Value.type "tuple") Option.none (Data.seq (List.toArray []) 0) (List.toArray [])))
noncomputable def bo_1 : Params → Obj := (fun P => (Obj.mk (Value.type "tuple") Option.none (Data.seq (List.toArray []) 0) (List.toArray [])))
noncomputable def bo_11 : Params → Obj := (fun P => (Obj.mk Value.none Option.none (Data.func (FuncData.mk (Str.ofString "_wall") (Str.ofString "_wall") (Arguments.mk [] [(Arg.mk (Str.ofString "k") Option.none (Pos.mk 1 10 1 11))] Option.none [] [] Option.none []) (FuncBody.stmts (bd 0)) (Scope.mk ScopeKind.function [(Prod.mk (Str.ofString "k") NameKind.local)] Bool.false Bool.false []) 0 [] Value.none Value.none Value.none Value.none Option.none Value.none Value.none 0)) (List.toArray [])))
noncomputable def bo_27 : Params → Obj := (fun P => (Obj.mk (Value.type "function") Option.none (Data.func (FuncData.mk (Str.ofString "__init__") (Str.ofString "_tuplegetter.__init__") (Arguments.mk [] [(Arg.mk (Str.ofString "self") Option.none (Pos.mk 7 17 7 21)), (Arg.mk (Str.ofString "index") Option.none (Pos.mk 7 23 7 28)), (Arg.mk (Str.ofString "doc") Option.none (Pos.mk 7 30 7 33))] Option.none [] [] Option.none []) (FuncBody.stmts (mb 2 0)) (Scope.mk ScopeKind.function [(Prod.mk (Str.ofString "self") NameKind.local), (Prod.mk (Str.ofString "index") NameKind.local), (Prod.mk (Str.ofString "doc") NameKind.local)] Bool.false Bool.false []) 3 [] Value.none Value.none Value.none (Value.str (Str.ofString "cpy313.difflib") 194) Option.none (Value.ref 34) Value.none 0)) (List.toArray [])))
noncomputable def bo_62 : Params → Obj := (fun P => (Obj.mk (Value.type "dict") Option.none (Data.dict (List.toArray [(DictEntry.mk (PyData.keyHash P (Str.ofString "__module__")) (Value.str (Str.ofString "__module__") 260) (Value.str (Str.ofString "cpy313.difflib") 194)), (DictEntry.mk (PyData.keyHash P (Str.ofString "__qualname__")) (Value.str (Str.ofString "__qualname__") 262) (Value.str (Str.ofString "Match") 261)), (DictEntry.mk (PyData.keyHash P (Str.ofString "__firstlineno__")) (Value.str (Str.ofString "__firstlineno__") 264) (Value.int (23 : Int) 263)), (DictEntry.mk (PyData.keyHash P (Str.ofString "__doc__")) (Value.str (Str.ofString "__doc__") 266) (Value.str (Str.ofString "Match(a, b, size)") 265)), (DictEntry.mk (PyData.keyHash P (Str.ofString "__slots__")) (Value.str (Str.ofString "__slots__") 268) (Value.ref 73)), (DictEntry.mk (PyData.keyHash P (Str.ofString "_fields")) (Value.str (Str.ofString "_fields") 272) (Value.ref 74)), (DictEntry.mk (PyData.keyHash P (Str.ofString "_field_defaults")) (Value.str (Str.ofString "_field_defaults") 273) (Value.ref 75)), (DictEntry.mk (PyData.keyHash P (Str.ofString "__new__")) (Value.str (Str.ofString "__new__") 284) (Value.ref 82)), (DictEntry.mk (PyData.keyHash P (Str.ofString "_make")) (Value.str (Str.ofString "_make") 306) (Value.ref 91)), (DictEntry.mk (PyData.keyHash P (Str.ofString "_replace")) (Value.str (Str.ofString "_replace") 317) (Value.ref 100)), (DictEntry.mk (PyData.keyHash P (Str.ofString "__replace__")) (Value.str (Str.ofString "__replace__") 318) (Value.ref 100)), (DictEntry.mk (PyData.keyHash P (Str.ofString "__repr__")) (Value.str (Str.ofString "__repr__") 326) (Value.ref 107)), (DictEntry.mk (PyData.keyHash P (Str.ofString "_asdict")) (Value.str (Str.ofString "_asdict") 333) (Value.ref 114)), (DictEntry.mk (PyData.keyHash P (Str.ofString "__getnewargs__")) (Value.str (Str.ofString "__getnewargs__") 341) (Value.ref 121)), (DictEntry.mk (PyData.keyHash P (Str.ofString "__match_args__")) (Value.str (Str.ofString "__match_args__") 345) (Value.ref 122)), (DictEntry.mk (PyData.keyHash P (Str.ofString "a")) (Value.str (Str.ofString "a") 355) (Value.ref 124)), (DictEntry.mk (PyData.keyHash P (Str.ofString "b")) (Value.str (Str.ofString "b") 365) (Value.ref 127)), (DictEntry.mk (PyData.keyHash P (Str.ofString "size")) (Value.str (Str.ofString "size") 375) (Value.ref 130)), (DictEntry.mk (PyData.keyHash P (Str.ofString "__static_attributes__")) (Value.str (Str.ofString "__static_attributes__") 376) (Value.ref 132)), (DictEntry.mk (PyData.keyHash P (Str.ofString "__classcell__")) (Value.str (Str.ofString "__classcell__") 377) (Value.ref 68))]) 20) (List.toArray [])))
noncomputable def bo_126 : Params → Obj := (fun P => (Obj.mk (Value.type "frame") Option.none (Data.dict (List.toArray [(DictEntry.mk (PyData.keyHash P (Str.ofString "self")) (Value.str (Str.ofString "self") 368) (Value.ref 130)), (DictEntry.mk (PyData.keyHash P (Str.ofString "index")) (Value.str (Str.ofString "index") 369) (Value.int (2 : Int) 366)), (DictEntry.mk (PyData.keyHash P (Str.ofString "doc")) (Value.str (Str.ofString "doc") 370) (Value.str (Str.ofString "Alias for field number 2") 367))]) 3) (List.toArray [])))
noncomputable def bo_411 : Params → Obj := (fun P => (Obj.mk (Value.type "code") Option.none (Data.fields (List.toArray [(Value.str (Str.ofString "_truth") 585), (Value.str (Str.ofString "_truth") 586), (Value.str (Str.ofString "/claim/cut.py") 587), (Value.int (426 : Int) 0), (Value.int (1 : Int) 0), (Value.int (0 : Int) 0), (Value.int (0 : Int) 0), (Value.int (3 : Int) 0), (Value.ref 254), (Value.bool Bool.true), (Value.int (181 : Int) 0), (Value.ref 255), Value.none, (Value.ref 256), (Value.ref 257), (Value.ref 258), (Value.int (590 : Int) 0), (Value.int (426 : Int) 0), (Value.str (Str.ofString "/claim/cut.py") 591)])) (List.toArray [])))
noncomputable def bo_268 : Params → Obj := (fun P => (Obj.mk (Value.type "code") Option.none (Data.fields (List.toArray [(Value.str (Str.ofString "find_longest_match") 466), (Value.str (Str.ofString "SequenceMatcher.find_longest_match") 467), (Value.str (Str.ofString "/claim/cut.py") 468), (Value.int (260 : Int) 0), (Value.int (5 : Int) 0), (Value.int (0 : Int) 0), (Value.int (0 : Int) 0), (Value.int (3 : Int) 0), (Value.ref 190), (Value.bool Bool.true), (Value.int (181 : Int) 0), (Value.ref 191), Value.none, (Value.ref 192), (Value.ref 193), (Value.ref 194), (Value.int (488 : Int) 0), (Value.int (260 : Int) 0), (Value.str (Str.ofString "/claim/cut.py") 489)])) (List.toArray [])))
noncomputable def bo_94 : Params → Obj := (fun P => (Obj.mk (Value.type "code") Option.none (Data.fields (List.toArray [(Value.str (Str.ofString "_replace") 307), (Value.str (Str.ofString "Match._replace") 308), (Value.str (Str.ofString "/claim/cut.py") 309), (Value.int (41 : Int) 0), (Value.int (1 : Int) 0), (Value.int (1 : Int) 0), (Value.int (0 : Int) 0), (Value.int (11 : Int) 0), (Value.ref 94), (Value.bool Bool.true), (Value.int (181 : Int) 0), (Value.ref 95), Value.none, (Value.ref 96), (Value.ref 97), (Value.ref 98), (Value.int (314 : Int) 0), (Value.int (41 : Int) 0), (Value.str (Str.ofString "/claim/cut.py") 315)])) (List.toArray [])))
noncomputable def bo_236 : Params → Obj := (fun P => (Obj.mk (Value.type "tuple") Option.none (Data.seq (List.toArray [(Value.str (Str.ofString "self") 421), (Value.str (Str.ofString "a") 422), (Value.str (Str.ofString "b") 423)]) 0) (List.toArray [])))
noncomputable def bo_443 : Params → Obj := (fun P => (Obj.mk (Value.type "tuple") Option.none (Data.seq (List.toArray []) 0) (List.toArray [])))
noncomputable def bo_300 : Params → Obj := (fun P => (Obj.mk Value.none Option.none (Data.fields (List.toArray [])) (List.toArray [])))
noncomputable def bo_43 : Params → Obj := (fun P => (Obj.mk (Value.type "tuple") Option.none (Data.seq (List.toArray []) 0) (List.toArray [])))
noncomputable def bo_78 : Params → Obj := (fun P => (Obj.mk (Value.type "tuple") Option.none (Data.seq (List.toArray []) 0) (List.toArray [])))
noncomputable def bo_220 : Params → Obj := (fun P => (Obj.mk (Value.type "builtin_function_or_method") Option.none (Data.fields (List.toArray [(Value.builtin "type.__prepare__"), (Value.type "type")])) (List.toArray [])))
noncomputable def bo_427 : Params → Obj := (fun P => (Obj.mk (Value.type "code") Option.none (Data.fields (List.toArray [(Value.str (Str.ofString "b64encode") 611), (Value.str (Str.ofString "b64encode") 612), (Value.str (Str.ofString "/claim/cut.py") 613), (Value.int (455 : Int) 0), (Value.int (2 : Int) 0), (Value.int (0 : Int) 0), (Value.int (0 : Int) 0), (Value.int (3 : Int) 0), (Value.ref 270), (Value.bool Bool.true), (Value.int (181 : Int) 0), (Value.ref 271), Value.none, (Value.ref 272), (Value.ref 273), (Value.ref 274), (Value.int (617 : Int) 0), (Value.int (455 : Int) 0), (Value.str (Str.ofString "/claim/cut.py") 618)])) (List.toArray [])))
noncomputable def bo_284 : Params → Obj := (fun P => (Obj.mk (Value.type "tuple") Option.none (Data.seq (List.toArray [(Value.int (3 : Int) 526)]) 0) (List.toArray [])))
noncomputable def bo_110 : Params → Obj := (fun P => (Obj.mk (Value.type "tuple") Option.none (Data.seq (List.toArray []) 0) (List.toArray [])))
noncomputable def bo_252 : Params → Obj := (fun P => (Obj.mk Value.none Option.none (Data.func (FuncData.mk (Str.ofString "set_seq2") (Str.ofString "SequenceMatcher.set_seq2") (Arguments.mk [] [(Arg.mk (Str.ofString "self") Option.none (Pos.mk 209 17 209 21)), (Arg.mk (Str.ofString "b") Option.none (Pos.mk 209 23 209 24))] Option.none [] [] Option.none []) (FuncBody.stmts (mb 5 4)) (Scope.mk ScopeKind.function [(Prod.mk (Str.ofString "self") NameKind.local), (Prod.mk (Str.ofString "b") NameKind.local)] Bool.false Bool.false []) 0 [] Value.none Value.none Value.none Value.none Option.none Value.none Value.none 0)) (List.toArray [])))
noncomputable def bo_459 : Params → Obj := (fun P => (Obj.mk Value.none Option.none (Data.func (FuncData.mk (Str.ofString "_law_longest") (Str.ofString "_law_longest") (Arguments.mk [] [(Arg.mk (Str.ofString "places") Option.none (Pos.mk 519 17 519 23)), (Arg.mk (Str.ofString "low") Option.none (Pos.mk 519 25 519 28)), (Arg.mk (Str.ofString "end") Option.none (Pos.mk 519 30 519 33))] Option.none [] [] Option.none []) (FuncBody.stmts (bd 19)) (Scope.mk ScopeKind.function [(Prod.mk (Str.ofString "places") NameKind.local), (Prod.mk (Str.ofString "low") NameKind.local), (Prod.mk (Str.ofString "end") NameKind.local), (Prod.mk (Str.ofString "best") NameKind.local), (Prod.mk (Str.ofString "start") NameKind.local), (Prod.mk (Str.ofString "size") NameKind.local), (Prod.mk (Str.ofString "range") NameKind.globalImplicit)] Bool.false Bool.false []) 0 [] Value.none Value.none Value.none Value.none Option.none Value.none Value.none 0)) (List.toArray [])))
noncomputable def bo_316 : Params → Obj := (fun P => (Obj.mk (Value.type "getset_descriptor") Option.none (Data.fields (List.toArray [(Value.str (Str.ofString "__dict__") 569), (Value.ref 242), (Value.builtin "function.__dict__"), (Value.builtin "function.__dict__#set")])) (List.toArray [])))
noncomputable def bo_19 : Params → Obj := (fun P => (Obj.mk (Value.type "code") Option.none (Data.fields (List.toArray [(Value.str (Str.ofString "_tuplegetter") 198), (Value.str (Str.ofString "_tuplegetter") 199), (Value.str (Str.ofString "/claim/cut.py") 200), (Value.int (5 : Int) 0), (Value.int (0 : Int) 0), (Value.int (0 : Int) 0), (Value.int (0 : Int) 0), (Value.int (0 : Int) 0), (Value.ref 25), (Value.bool Bool.false), (Value.int (181 : Int) 0), (Value.ref 26), Value.none, Value.none, Value.none, Value.none, (Value.int (201 : Int) 0), (Value.int (5 : Int) 0), (Value.str (Str.ofString "/claim/cut.py") 202)])) (List.toArray [])))
noncomputable def bo_35 : Params → Obj := (fun P => (Obj.mk (Value.type "function") Option.none (Data.func (FuncData.mk (Str.ofString "__get__") (Str.ofString "_tuplegetter.__get__") (Arguments.mk [] [(Arg.mk (Str.ofString "self") Option.none (Pos.mk 11 16 11 20)), (Arg.mk (Str.ofString "obj") Option.none (Pos.mk 11 22 11 25)), (Arg.mk (Str.ofString "objtype") Option.none (Pos.mk 11 27 11 34))] Option.none [] [] Option.none [(Expr.Constant Const.none 0 (Pos.mk 11 35 11 39))]) (FuncBody.stmts (mb 2 1)) (Scope.mk ScopeKind.function [(Prod.mk (Str.ofString "self") NameKind.local), (Prod.mk (Str.ofString "obj") NameKind.local), (Prod.mk (Str.ofString "objtype") NameKind.local), (Prod.mk (Str.ofString "issubclass") NameKind.globalImplicit), (Prod.mk (Str.ofString "type") NameKind.globalImplicit), (Prod.mk (Str.ofString "tuple") NameKind.globalImplicit), (Prod.mk (Str.ofString "_wall") NameKind.globalImplicit)] Bool.false Bool.false []) 3 [] (Value.ref 36) Value.none Value.none (Value.str (Str.ofString "cpy313.difflib") 194) Option.none (Value.ref 42) Value.none 0)) (List.toArray [])))
noncomputable def bo_70 : Params → Obj := (fun P => (Obj.mk (Value.type "dict") Option.none (Data.dict (List.toArray []) 0) (List.toArray [])))
noncomputable def bo_209 : Params → Obj := (fun P => (Obj.mk (Value.type "tuple") Option.none (Data.seq (List.toArray []) 0) (List.toArray [])))
noncomputable def bo_419 : Params → Obj := (fun P => (Obj.mk (Value.type "code") Option.none (Data.fields (List.toArray [(Value.str (Str.ofString "b2a_base64") 596), (Value.str (Str.ofString "b2a_base64") 597), (Value.str (Str.ofString "/claim/cut.py") 598), (Value.int (432 : Int) 0), (Value.int (1 : Int) 0), (Value.int (1 : Int) 0), (Value.int (1 : Int) 0), (Value.int (3 : Int) 0), (Value.ref 262), (Value.bool Bool.true), (Value.int (181 : Int) 0), (Value.ref 263), Value.none, (Value.ref 264), (Value.ref 265), (Value.ref 266), (Value.int (606 : Int) 0), (Value.int (432 : Int) 0), (Value.str (Str.ofString "/claim/cut.py") 607)])) (List.toArray [])))
noncomputable def bo_276 : Params → Obj := (fun P => (Obj.mk (Value.type "function") Option.none (Data.func (FuncData.mk (Str.ofString "get_matching_blocks") (Str.ofString "SequenceMatcher.get_matching_blocks") (Arguments.mk [] [(Arg.mk (Str.ofString "self") Option.none (Pos.mk 335 28 335 32))] Option.none [] [] Option.none []) (FuncBody.stmts (mb 5 7)) (Scope.mk ScopeKind.function [(Prod.mk (Str.ofString "self") NameKind.local), (Prod.mk (Str.ofString "la") NameKind.local), (Prod.mk (Str.ofString "lb") NameKind.local), (Prod.mk (Str.ofString "queue") NameKind.local), (Prod.mk (Str.ofString "matching_blocks") NameKind.local), (Prod.mk (Str.ofString "alo") NameKind.local), (Prod.mk (Str.ofString "ahi") NameKind.local), (Prod.mk (Str.ofString "blo") NameKind.local), (Prod.mk (Str.ofString "bhi") NameKind.local), (Prod.mk (Str.ofString "i") NameKind.local), (Prod.mk (Str.ofString "j") NameKind.local), (Prod.mk (Str.ofString "k") NameKind.local), (Prod.mk (Str.ofString "x") NameKind.local), (Prod.mk (Str.ofString "i1") NameKind.local), (Prod.mk (Str.ofString "j1") NameKind.local), (Prod.mk (Str.ofString "k1") NameKind.local), (Prod.mk (Str.ofString "non_adjacent") NameKind.local), (Prod.mk (Str.ofString "i2") NameKind.local), (Prod.mk (Str.ofString "j2") NameKind.local), (Prod.mk (Str.ofString "k2") NameKind.local), (Prod.mk (Str.ofString "len") NameKind.globalImplicit), (Prod.mk (Str.ofString "list") NameKind.globalImplicit), (Prod.mk (Str.ofString "map") NameKind.globalImplicit), (Prod.mk (Str.ofString "Match") NameKind.globalImplicit)] Bool.false Bool.false []) 3 [] Value.none Value.none (Value.str (docS (mb 5 7)) 517) (Value.str (Str.ofString "cpy313.difflib") 194) Option.none (Value.ref 202) Value.none 0)) (List.toArray [])))
noncomputable def bo_102 : Params → Obj := (fun P => (Obj.mk (Value.type "function") Option.none (Data.func (FuncData.mk (Str.ofString "__repr__") (Str.ofString "Match.__repr__") (Arguments.mk [] [(Arg.mk (Str.ofString "self") Option.none (Pos.mk 52 17 52 21))] Option.none [] [] Option.none []) (FuncBody.stmts (mb 3 8)) (Scope.mk ScopeKind.function [(Prod.mk (Str.ofString "self") NameKind.local)] Bool.false Bool.false []) 3 [] Value.none Value.none (Value.str (docS (mb 3 8)) 325) (Value.str (Str.ofString "cpy313.difflib") 194) Option.none (Value.ref 106) Value.none 0)) (List.toArray [])))
noncomputable def bo_244 : Params → Obj := (fun P => (Obj.mk (Value.type "tuple") Option.none (Data.seq (List.toArray []) 0) (List.toArray [])))
noncomputable def bo_451 : Params → Obj := (fun P => (Obj.mk (Value.type "tuple") Option.none (Data.seq (List.toArray []) 0) (List.toArray [])))
noncomputable def bo_308 : Params → Obj := (fun P => (Obj.mk (Value.type "tuple") Option.none (Data.seq (List.toArray [(Value.str (Str.ofString "self") 554)]) 0) (List.toArray [])))
noncomputable def bo_51 : Params → Obj := (fun P => (Obj.mk (Value.type "dict") Option.none (Data.dict (List.toArray [(DictEntry.mk (PyData.keyHash P (Str.ofString "__module__")) (Value.str (Str.ofString "__module__") 203) (Value.str (Str.ofString "cpy313.difflib") 194)), (DictEntry.mk (PyData.keyHash P (Str.ofString "__firstlineno__")) (Value.str (Str.ofString "__firstlineno__") 207) (Value.int (5 : Int) 206)), (DictEntry.mk (PyData.keyHash P (Str.ofString "__init__")) (Value.str (Str.ofString "__init__") 216) (Value.ref 35)), (DictEntry.mk (PyData.keyHash P (Str.ofString "__get__")) (Value.str (Str.ofString "__get__") 225) (Value.ref 43)), (DictEntry.mk (PyData.keyHash P (Str.ofString "__set__")) (Value.str (Str.ofString "__set__") 234) (Value.ref 50)), (DictEntry.mk (PyData.keyHash P (Str.ofString "__delete__")) (Value.str (Str.ofString "__delete__") 242) (Value.ref 57)), (DictEntry.mk (PyData.keyHash P (Str.ofString "__static_attributes__")) (Value.str (Str.ofString "__static_attributes__") 245) (Value.ref 58)), (DictEntry.mk (PyData.keyHash P (Str.ofString "__dict__")) (Value.str (Str.ofString "__dict__") 247) (Value.ref 61)), (DictEntry.mk (PyData.keyHash P (Str.ofString "__weakref__")) (Value.str (Str.ofString "__weakref__") 249) (Value.ref 62)), (DictEntry.mk (PyData.keyHash P (Str.ofString "__doc__")) (Value.str (Str.ofString "__doc__") 250) Value.none)]) 4) (List.toArray [])))
noncomputable def bo_86 : Params → Obj := (fun P => (Obj.mk (Value.type "classmethod") (Option.some 90) (Data.fields (List.toArray [(Value.ref 89), (Value.bool Bool.false)])) (List.toArray [])))
noncomputable def bo_228 : Params → Obj := (fun P => (Obj.mk Value.none Option.none (Data.fields (List.toArray [])) (List.toArray [])))
noncomputable def bo_435 : Params → Obj := (fun P => (Obj.mk (Value.type "function") Option.none (Data.func (FuncData.mk (Str.ofString "sorted_list_difference") (Str.ofString "sorted_list_difference") (Arguments.mk [] [(Arg.mk (Str.ofString "expected") Option.none (Pos.mk 468 27 468 35)), (Arg.mk (Str.ofString "actual") Option.none (Pos.mk 468 37 468 43))] Option.none [] [] Option.none []) (FuncBody.stmts (bd 14)) (Scope.mk ScopeKind.function [(Prod.mk (Str.ofString "expected") NameKind.local), (Prod.mk (Str.ofString "actual") NameKind.local), (Prod.mk (Str.ofString "i") NameKind.local), (Prod.mk (Str.ofString "j") NameKind.local), (Prod.mk (Str.ofString "missing") NameKind.local), (Prod.mk (Str.ofString "unexpected") NameKind.local), (Prod.mk (Str.ofString "e") NameKind.local), (Prod.mk (Str.ofString "a") NameKind.local), (Prod.mk (Str.ofString "IndexError") NameKind.globalImplicit)] Bool.false Bool.false []) 3 [] Value.none Value.none (Value.str (docS (bd 14)) 636) (Value.str (Str.ofString "cpy313.unittest.util") 621) Option.none (Value.ref 282) Value.none 0)) (List.toArray [])))
noncomputable def bo_292 : Params → Obj := (fun P => (Obj.mk (Value.type "tuple") Option.none (Data.seq (List.toArray []) 0) (List.toArray [])))
noncomputable def bo_118 : Params → Obj := (fun P => (Obj.mk (Value.type "dict") Option.none (Data.dict (List.toArray [(DictEntry.mk (PyData.keyHash P (Str.ofString "index")) (Value.str (Str.ofString "index") 352) (Value.int (0 : Int) 346)), (DictEntry.mk (PyData.keyHash P (Str.ofString "__doc__")) (Value.str (Str.ofString "__doc__") 354) (Value.str (Str.ofString "Alias for field number 0") 347))]) 2) (List.toArray [])))
noncomputable def bo_260 : Params → Obj := (fun P => (Obj.mk (Value.type "code") Option.none (Data.fields (List.toArray [(Value.str (Str.ofString "__chain_b") 446), (Value.str (Str.ofString "SequenceMatcher.__chain_b") 447), (Value.str (Str.ofString "/claim/cut.py") 448), (Value.int (236 : Int) 0), (Value.int (1 : Int) 0), (Value.int (0 : Int) 0), (Value.int (0 : Int) 0), (Value.int (3 : Int) 0), (Value.ref 182), (Value.bool Bool.true), (Value.int (181 : Int) 0), (Value.ref 183), Value.none, (Value.ref 184), (Value.ref 185), (Value.ref 186), (Value.int (461 : Int) 0), (Value.int (236 : Int) 0), (Value.str (Str.ofString "/claim/cut.py") 462)])) (List.toArray [])))
noncomputable def bo_403 : Params → Obj := (fun P => (Obj.mk Value.none Option.none (Data.func (FuncData.mk (Str.ofString "_buffer") (Str.ofString "_buffer") (Arguments.mk [] [(Arg.mk (Str.ofString "data") Option.none (Pos.mk 419 12 419 16))] Option.none [] [] Option.none []) (FuncBody.stmts (bd 7)) (Scope.mk ScopeKind.function [(Prod.mk (Str.ofString "data") NameKind.local), (Prod.mk (Str.ofString "t") NameKind.local), (Prod.mk (Str.ofString "type") NameKind.globalImplicit), (Prod.mk (Str.ofString "bytes") NameKind.globalImplicit), (Prod.mk (Str.ofString "bytearray") NameKind.globalImplicit), (Prod.mk (Str.ofString "_wall") NameKind.globalImplicit)] Bool.false Bool.false []) 0 [] Value.none Value.none Value.none Value.none Option.none Value.none Value.none 0)) (List.toArray [])))
noncomputable def bo_9 : Params → Obj := (fun P => (Obj.mk (Value.type "tuple") Option.none (Data.seq (List.toArray [(Value.str (Str.ofString "k") 190)]) 0) (List.toArray [])))
noncomputable def bo_25 : Params → Obj := (fun P => (Obj.mk Value.none Option.none (Data.func (FuncData.mk (Str.ofString "__init__") (Str.ofString "_tuplegetter.__init__") (Arguments.mk [] [(Arg.mk (Str.ofString "self") Option.none (Pos.mk 7 17 7 21)), (Arg.mk (Str.ofString "index") Option.none (Pos.mk 7 23 7 28)), (Arg.mk (Str.ofString "doc") Option.none (Pos.mk 7 30 7 33))] Option.none [] [] Option.none []) (FuncBody.stmts (mb 2 0)) (Scope.mk ScopeKind.function [(Prod.mk (Str.ofString "self") NameKind.local), (Prod.mk (Str.ofString "index") NameKind.local), (Prod.mk (Str.ofString "doc") NameKind.local)] Bool.false Bool.false []) 0 [] Value.none Value.none Value.none Value.none Option.none Value.none Value.none 0)) (List.toArray [])))
noncomputable def bo_60 : Params → Obj := (fun P => (Obj.mk (Value.type "tuple") Option.none (Data.seq (List.toArray [(Value.type "tuple")]) 0) (List.toArray [])))
noncomputable def bo_124 : Params → Obj := (fun P => (Obj.mk (Value.type "dict") Option.none (Data.dict (List.toArray [(DictEntry.mk (PyData.keyHash P (Str.ofString "index")) (Value.str (Str.ofString "index") 372) (Value.int (2 : Int) 366)), (DictEntry.mk (PyData.keyHash P (Str.ofString "__doc__")) (Value.str (Str.ofString "__doc__") 374) (Value.str (Str.ofString "Alias for field number 2") 367))]) 2) (List.toArray [])))
noncomputable def bo_409 : Params → Obj := (fun P => (Obj.mk (Value.type "tuple") Option.none (Data.seq (List.toArray []) 0) (List.toArray [])))
noncomputable def bo_266 : Params → Obj := (fun P => (Obj.mk (Value.type "tuple") Option.none (Data.seq (List.toArray []) 0) (List.toArray [])))
noncomputable def bo_92 : Params → Obj := (fun P => (Obj.mk (Value.type "tuple") Option.none (Data.seq (List.toArray []) 0) (List.toArray [])))
noncomputable def bo_234 : Params → Obj := (fun P => (Obj.mk (Value.type "tuple") Option.none (Data.seq (List.toArray []) 0) (List.toArray [])))
noncomputable def bo_441 : Params → Obj := (fun P => (Obj.mk (Value.type "code") Option.none (Data.fields (List.toArray [(Value.str (Str.ofString "_law_ring") 640), (Value.str (Str.ofString "_law_ring") 641), (Value.str (Str.ofString "/claim/cut.py") 642), (Value.int (508 : Int) 0), (Value.int (0 : Int) 0), (Value.int (0 : Int) 0), (Value.int (0 : Int) 0), (Value.int (3 : Int) 0), (Value.ref 284), (Value.bool Bool.true), (Value.int (181 : Int) 0), (Value.ref 285), Value.none, (Value.ref 286), (Value.ref 287), (Value.ref 288), (Value.int (646 : Int) 0), (Value.int (508 : Int) 0), (Value.str (Str.ofString "/claim/cut.py") 647)])) (List.toArray [])))
noncomputable def bo_298 : Params → Obj := (fun P => (Obj.mk (Value.type "function") Option.none (Data.func (FuncData.mk (Str.ofString "ratio") (Str.ofString "SequenceMatcher.ratio") (Arguments.mk [] [(Arg.mk (Str.ofString "self") Option.none (Pos.mk 389 14 389 18))] Option.none [] [] Option.none []) (FuncBody.stmts (mb 5 10)) (Scope.mk ScopeKind.function [(Prod.mk (Str.ofString "self") NameKind.local), (Prod.mk (Str.ofString "matches") NameKind.local), (Prod.mk (Str.ofString "sum") NameKind.globalImplicit), (Prod.mk (Str.ofString "_calculate_ratio") NameKind.globalImplicit), (Prod.mk (Str.ofString "len") NameKind.globalImplicit)] Bool.false Bool.false []) 3 [] Value.none Value.none (Value.str (docS (mb 5 10)) 542) (Value.str (Str.ofString "cpy313.difflib") 194) Option.none (Value.ref 224) Value.none 0)) (List.toArray [])))
noncomputable def bo_41 : Params → Obj := (fun P => (Obj.mk (Value.type "code") Option.none (Data.fields (List.toArray [(Value.str (Str.ofString "__set__") 226), (Value.str (Str.ofString "_tuplegetter.__set__") 227), (Value.str (Str.ofString "/claim/cut.py") 228), (Value.int (18 : Int) 0), (Value.int (3 : Int) 0), (Value.int (0 : Int) 0), (Value.int (0 : Int) 0), (Value.int (3 : Int) 0), (Value.ref 44), (Value.bool Bool.true), (Value.int (181 : Int) 0), (Value.ref 45), Value.none, (Value.ref 46), (Value.ref 47), (Value.ref 48), (Value.int (232 : Int) 0), (Value.int (18 : Int) 0), (Value.str (Str.ofString "/claim/cut.py") 233)])) (List.toArray [])))
noncomputable def bo_76 : Params → Obj := (fun P => (Obj.mk (Value.type "code") Option.none (Data.fields (List.toArray [(Value.str (Str.ofString "__new__") 274), (Value.str (Str.ofString "Match.__new__") 275), (Value.str (Str.ofString "/claim/cut.py") 276), (Value.int (29 : Int) 0), (Value.int (4 : Int) 0), (Value.int (0 : Int) 0), (Value.int (0 : Int) 0), (Value.int (3 : Int) 0), (Value.ref 76), (Value.bool Bool.true), (Value.int (181 : Int) 0), (Value.ref 77), Value.none, (Value.ref 78), (Value.ref 79), (Value.ref 80), (Value.int (281 : Int) 0), (Value.int (29 : Int) 0), (Value.str (Str.ofString "/claim/cut.py") 282)])) (List.toArray [])))
noncomputable def bo_215 : Params → Obj := (fun P => (Obj.mk (Value.type "function") Option.none (Data.func (FuncData.mk (Str.ofString "_calculate_ratio") (Str.ofString "_calculate_ratio") (Arguments.mk [] [(Arg.mk (Str.ofString "matches") Option.none (Pos.mk 66 21 66 28)), (Arg.mk (Str.ofString "length") Option.none (Pos.mk 66 30 66 36))] Option.none [] [] Option.none []) (FuncBody.stmts (bd 4)) (Scope.mk ScopeKind.function [(Prod.mk (Str.ofString "matches") NameKind.local), (Prod.mk (Str.ofString "length") NameKind.local)] Bool.false Bool.false []) 3 [] Value.none Value.none Value.none (Value.str (Str.ofString "cpy313.difflib") 194) Option.none (Value.ref 144) Value.none 0)) (List.toArray [])))
noncomputable def bo_425 : Params → Obj := (fun P => (Obj.mk (Value.type "tuple") Option.none (Data.seq (List.toArray []) 0) (List.toArray [])))
noncomputable def bo_282 : Params → Obj := (fun P => (Obj.mk (Value.type "code") Option.none (Data.fields (List.toArray [(Value.str (Str.ofString "get_opcodes") 519), (Value.str (Str.ofString "SequenceMatcher.get_opcodes") 520), (Value.str (Str.ofString "/claim/cut.py") 521), (Value.int (383 : Int) 0), (Value.int (1 : Int) 0), (Value.int (0 : Int) 0), (Value.int (0 : Int) 0), (Value.int (3 : Int) 0), (Value.ref 204), (Value.bool Bool.true), (Value.int (181 : Int) 0), (Value.ref 205), Value.none, (Value.ref 206), (Value.ref 207), (Value.ref 208), (Value.int (523 : Int) 0), (Value.int (383 : Int) 0), (Value.str (Str.ofString "/claim/cut.py") 524)])) (List.toArray [])))
noncomputable def bo_108 : Params → Obj := (fun P => (Obj.mk (Value.type "code") Option.none (Data.fields (List.toArray [(Value.str (Str.ofString "_asdict") 327), (Value.str (Str.ofString "Match._asdict") 328), (Value.str (Str.ofString "/claim/cut.py") 329), (Value.int (56 : Int) 0), (Value.int (1 : Int) 0), (Value.int (0 : Int) 0), (Value.int (0 : Int) 0), (Value.int (3 : Int) 0), (Value.ref 108), (Value.bool Bool.true), (Value.int (181 : Int) 0), (Value.ref 109), Value.none, (Value.ref 110), (Value.ref 111), (Value.ref 112), (Value.int (331 : Int) 0), (Value.int (56 : Int) 0), (Value.str (Str.ofString "/claim/cut.py") 332)])) (List.toArray [])))
noncomputable def bo_250 : Params → Obj := (fun P => (Obj.mk (Value.type "tuple") Option.none (Data.seq (List.toArray [(Value.str (Str.ofString "self") 440), (Value.str (Str.ofString "b") 441)]) 0) (List.toArray [])))
noncomputable def bo_457 : Params → Obj := (fun P => (Obj.mk (Value.type "tuple") Option.none (Data.seq (List.toArray [(Value.str (Str.ofString "places") 665), (Value.str (Str.ofString "low") 666), (Value.str (Str.ofString "end") 667), (Value.str (Str.ofString "best") 668), (Value.str (Str.ofString "start") 669), (Value.str (Str.ofString "size") 670)]) 0) (List.toArray [])))
noncomputable def bo_314 : Params → Obj := (fun P => (Obj.mk (Value.type "dict") Option.none (Data.dict (List.toArray [(DictEntry.mk (PyData.keyHash P (Str.ofString "__module__")) (Value.str (Str.ofString "__module__") 396) (Value.str (Str.ofString "cpy313.difflib") 194)), (DictEntry.mk (PyData.keyHash P (Str.ofString "__firstlineno__")) (Value.str (Str.ofString "__firstlineno__") 400) (Value.int (70 : Int) 399)), (DictEntry.mk (PyData.keyHash P (Str.ofString "__doc__")) (Value.str (Str.ofString "__doc__") 402) docVT), (DictEntry.mk (PyData.keyHash P (Str.ofString "__init__")) (Value.str (Str.ofString "__init__") 417) (Value.ref 160)), (DictEntry.mk (PyData.keyHash P (Str.ofString "set_seqs")) (Value.str (Str.ofString "set_seqs") 427) (Value.ref 167)), (DictEntry.mk (PyData.keyHash P (Str.ofString "set_seq1")) (Value.str (Str.ofString "set_seq1") 436) (Value.ref 174)), (DictEntry.mk (PyData.keyHash P (Str.ofString "set_seq2")) (Value.str (Str.ofString "set_seq2") 445) (Value.ref 181)), (DictEntry.mk (PyData.keyHash P (Str.ofString "_SequenceMatcher__chain_b")) (Value.str (Str.ofString "_SequenceMatcher__chain_b") 463) (Value.ref 188)), (DictEntry.mk (PyData.keyHash P (Str.ofString "find_longest_match")) (Value.str (Str.ofString "find_longest_match") 491) (Value.ref 196)), (DictEntry.mk (PyData.keyHash P (Str.ofString "get_matching_blocks")) (Value.str (Str.ofString "get_matching_blocks") 518) (Value.ref 203)), (DictEntry.mk (PyData.keyHash P (Str.ofString "get_opcodes")) (Value.str (Str.ofString "get_opcodes") 525) (Value.ref 210)), (DictEntry.mk (PyData.keyHash P (Str.ofString "get_grouped_opcodes")) (Value.str (Str.ofString "get_grouped_opcodes") 534) (Value.ref 218)), (DictEntry.mk (PyData.keyHash P (Str.ofString "ratio")) (Value.str (Str.ofString "ratio") 543) (Value.ref 225)), (DictEntry.mk (PyData.keyHash P (Str.ofString "quick_ratio")) (Value.str (Str.ofString "quick_ratio") 550) (Value.ref 232)), (DictEntry.mk (PyData.keyHash P (Str.ofString "real_quick_ratio")) (Value.str (Str.ofString "real_quick_ratio") 557) (Value.ref 239)), (DictEntry.mk (PyData.keyHash P (Str.ofString "__static_attributes__")) (Value.str (Str.ofString "__static_attributes__") 568) (Value.ref 240)), (DictEntry.mk (PyData.keyHash P (Str.ofString "__dict__")) (Value.str (Str.ofString "__dict__") 570) (Value.ref 243)), (DictEntry.mk (PyData.keyHash P (Str.ofString "__weakref__")) (Value.str (Str.ofString "__weakref__") 572) (Value.ref 244))]) 3) (List.toArray [])))
noncomputable def bo_17 : Params → Obj := (fun P => (Obj.mk (Value.type "tuple") Option.none (Data.seq (List.toArray []) 0) (List.toArray [])))
noncomputable def bo_33 : Params → Obj := (fun P => (Obj.mk Value.none Option.none (Data.func (FuncData.mk (Str.ofString "__get__") (Str.ofString "_tuplegetter.__get__") (Arguments.mk [] [(Arg.mk (Str.ofString "self") Option.none (Pos.mk 11 16 11 20)), (Arg.mk (Str.ofString "obj") Option.none (Pos.mk 11 22 11 25)), (Arg.mk (Str.ofString "objtype") Option.none (Pos.mk 11 27 11 34))] Option.none [] [] Option.none [(Expr.Constant Const.none 0 (Pos.mk 11 35 11 39))]) (FuncBody.stmts (mb 2 1)) (Scope.mk ScopeKind.function [(Prod.mk (Str.ofString "self") NameKind.local), (Prod.mk (Str.ofString "obj") NameKind.local), (Prod.mk (Str.ofString "objtype") NameKind.local), (Prod.mk (Str.ofString "issubclass") NameKind.globalImplicit), (Prod.mk (Str.ofString "type") NameKind.globalImplicit), (Prod.mk (Str.ofString "tuple") NameKind.globalImplicit), (Prod.mk (Str.ofString "_wall") NameKind.globalImplicit)] Bool.false Bool.false []) 0 [] Value.none Value.none Value.none Value.none Option.none Value.none Value.none 0)) (List.toArray [])))
noncomputable def bo_68 : Params → Obj := (fun P => (Obj.mk (Value.type "tuple") Option.none (Data.seq (List.toArray []) 0) (List.toArray [])))
noncomputable def bo_132 : Params → Obj := (fun P => (Obj.mk (Value.type "super") Option.none (Data.fields (List.toArray [(Value.ref 135), (Value.ref 135), (Value.ref 135)])) (List.toArray [])))
noncomputable def bo_417 : Params → Obj := (fun P => (Obj.mk (Value.type "tuple") Option.none (Data.seq (List.toArray []) 0) (List.toArray [])))
noncomputable def bo_274 : Params → Obj := (fun P => (Obj.mk Value.none Option.none (Data.func (FuncData.mk (Str.ofString "get_matching_blocks") (Str.ofString "SequenceMatcher.get_matching_blocks") (Arguments.mk [] [(Arg.mk (Str.ofString "self") Option.none (Pos.mk 335 28 335 32))] Option.none [] [] Option.none []) (FuncBody.stmts (mb 5 7)) (Scope.mk ScopeKind.function [(Prod.mk (Str.ofString "self") NameKind.local), (Prod.mk (Str.ofString "la") NameKind.local), (Prod.mk (Str.ofString "lb") NameKind.local), (Prod.mk (Str.ofString "queue") NameKind.local), (Prod.mk (Str.ofString "matching_blocks") NameKind.local), (Prod.mk (Str.ofString "alo") NameKind.local), (Prod.mk (Str.ofString "ahi") NameKind.local), (Prod.mk (Str.ofString "blo") NameKind.local), (Prod.mk (Str.ofString "bhi") NameKind.local), (Prod.mk (Str.ofString "i") NameKind.local), (Prod.mk (Str.ofString "j") NameKind.local), (Prod.mk (Str.ofString "k") NameKind.local), (Prod.mk (Str.ofString "x") NameKind.local), (Prod.mk (Str.ofString "i1") NameKind.local), (Prod.mk (Str.ofString "j1") NameKind.local), (Prod.mk (Str.ofString "k1") NameKind.local), (Prod.mk (Str.ofString "non_adjacent") NameKind.local), (Prod.mk (Str.ofString "i2") NameKind.local), (Prod.mk (Str.ofString "j2") NameKind.local), (Prod.mk (Str.ofString "k2") NameKind.local), (Prod.mk (Str.ofString "len") NameKind.globalImplicit), (Prod.mk (Str.ofString "list") NameKind.globalImplicit), (Prod.mk (Str.ofString "map") NameKind.globalImplicit), (Prod.mk (Str.ofString "Match") NameKind.globalImplicit)] Bool.false Bool.false []) 0 [] Value.none Value.none Value.none Value.none Option.none Value.none Value.none 0)) (List.toArray [])))
noncomputable def bo_100 : Params → Obj := (fun P => (Obj.mk Value.none Option.none (Data.func (FuncData.mk (Str.ofString "__repr__") (Str.ofString "Match.__repr__") (Arguments.mk [] [(Arg.mk (Str.ofString "self") Option.none (Pos.mk 52 17 52 21))] Option.none [] [] Option.none []) (FuncBody.stmts (mb 3 8)) (Scope.mk ScopeKind.function [(Prod.mk (Str.ofString "self") NameKind.local)] Bool.false Bool.false []) 0 [] Value.none Value.none Value.none Value.none Option.none Value.none Value.none 0)) (List.toArray [])))
noncomputable def bo_242 : Params → Obj := (fun P => (Obj.mk Value.none Option.none (Data.fields (List.toArray [])) (List.toArray [])))
noncomputable def bo_449 : Params → Obj := (fun P => (Obj.mk Value.none Option.none (Data.fields (List.toArray [])) (List.toArray [])))
noncomputable def bo_306 : Params → Obj := (fun P => (Obj.mk (Value.type "tuple") Option.none (Data.seq (List.toArray []) 0) (List.toArray [])))
noncomputable def bo_49 : Params → Obj := (fun P => (Obj.mk (Value.type "function") Option.none (Data.func (FuncData.mk (Str.ofString "__delete__") (Str.ofString "_tuplegetter.__delete__") (Arguments.mk [] [(Arg.mk (Str.ofString "self") Option.none (Pos.mk 21 19 21 23)), (Arg.mk (Str.ofString "obj") Option.none (Pos.mk 21 25 21 28))] Option.none [] [] Option.none []) (FuncBody.stmts (mb 2 3)) (Scope.mk ScopeKind.function [(Prod.mk (Str.ofString "self") NameKind.local), (Prod.mk (Str.ofString "obj") NameKind.local), (Prod.mk (Str.ofString "AttributeError") NameKind.globalImplicit)] Bool.false Bool.false []) 3 [] Value.none Value.none Value.none (Value.str (Str.ofString "cpy313.difflib") 194) Option.none (Value.ref 56) Value.none 0)) (List.toArray [])))
noncomputable def bo_84 : Params → Obj := (fun P => (Obj.mk (Value.type "function") Option.none (Data.func (FuncData.mk (Str.ofString "_make") (Str.ofString "Match._make") (Arguments.mk [] [(Arg.mk (Str.ofString "cls") Option.none (Pos.mk 34 14 34 17)), (Arg.mk (Str.ofString "iterable") Option.none (Pos.mk 34 19 34 27))] Option.none [] [] Option.none []) (FuncBody.stmts (mb 3 5)) (Scope.mk ScopeKind.function [(Prod.mk (Str.ofString "cls") NameKind.local), (Prod.mk (Str.ofString "iterable") NameKind.local), (Prod.mk (Str.ofString "result") NameKind.local), (Prod.mk (Str.ofString "tuple") NameKind.globalImplicit), (Prod.mk (Str.ofString "len") NameKind.globalImplicit), (Prod.mk (Str.ofString "TypeError") NameKind.globalImplicit)] Bool.false Bool.false []) 3 [] Value.none Value.none (Value.str (docS (mb 3 5)) 293) (Value.str (Str.ofString "cpy313.difflib") 194) (Option.some 92) (Value.ref 88) Value.none 0)) (List.toArray [])))
noncomputable def bo_226 : Params → Obj := (fun P => (Obj.mk (Value.type "tuple") Option.none (Data.seq (List.toArray [Value.none, (Value.str (Str.ofString "") 404), (Value.str (Str.ofString "") 405), (Value.bool Bool.true)]) 0) (List.toArray [])))
noncomputable def bo_433 : Params → Obj := (fun P => (Obj.mk Value.none Option.none (Data.func (FuncData.mk (Str.ofString "sorted_list_difference") (Str.ofString "sorted_list_difference") (Arguments.mk [] [(Arg.mk (Str.ofString "expected") Option.none (Pos.mk 468 27 468 35)), (Arg.mk (Str.ofString "actual") Option.none (Pos.mk 468 37 468 43))] Option.none [] [] Option.none []) (FuncBody.stmts (bd 14)) (Scope.mk ScopeKind.function [(Prod.mk (Str.ofString "expected") NameKind.local), (Prod.mk (Str.ofString "actual") NameKind.local), (Prod.mk (Str.ofString "i") NameKind.local), (Prod.mk (Str.ofString "j") NameKind.local), (Prod.mk (Str.ofString "missing") NameKind.local), (Prod.mk (Str.ofString "unexpected") NameKind.local), (Prod.mk (Str.ofString "e") NameKind.local), (Prod.mk (Str.ofString "a") NameKind.local), (Prod.mk (Str.ofString "IndexError") NameKind.globalImplicit)] Bool.false Bool.false []) 0 [] Value.none Value.none Value.none Value.none Option.none Value.none Value.none 0)) (List.toArray [])))
noncomputable def bo_290 : Params → Obj := (fun P => (Obj.mk (Value.type "code") Option.none (Data.fields (List.toArray [(Value.str (Str.ofString "get_grouped_opcodes") 527), (Value.str (Str.ofString "SequenceMatcher.get_grouped_opcodes") 528), (Value.str (Str.ofString "/claim/cut.py") 529), (Value.int (386 : Int) 0), (Value.int (2 : Int) 0), (Value.int (0 : Int) 0), (Value.int (0 : Int) 0), (Value.int (3 : Int) 0), (Value.ref 212), (Value.bool Bool.true), (Value.int (181 : Int) 0), (Value.ref 213), Value.none, (Value.ref 214), (Value.ref 215), (Value.ref 216), (Value.int (532 : Int) 0), (Value.int (386 : Int) 0), (Value.str (Str.ofString "/claim/cut.py") 533)])) (List.toArray [])))
noncomputable def bo_116 : Params → Obj := (fun P => (Obj.mk (Value.type "function") Option.none (Data.func (FuncData.mk (Str.ofString "__getnewargs__") (Str.ofString "Match.__getnewargs__") (Arguments.mk [] [(Arg.mk (Str.ofString "self") Option.none (Pos.mk 59 23 59 27))] Option.none [] [] Option.none []) (FuncBody.stmts (mb 3 10)) (Scope.mk ScopeKind.function [(Prod.mk (Str.ofString "self") NameKind.local), (Prod.mk (Str.ofString "tuple") NameKind.globalImplicit)] Bool.false Bool.false []) 3 [] Value.none Value.none (Value.str (docS (mb 3 10)) 340) (Value.str (Str.ofString "cpy313.difflib") 194) Option.none (Value.ref 120) Value.none 0)) (List.toArray [])))
noncomputable def bo_258 : Params → Obj := (fun P => (Obj.mk (Value.type "tuple") Option.none (Data.seq (List.toArray []) 0) (List.toArray [])))
noncomputable def bo_465 : Params → Obj := (fun P => (Obj.mk (Value.type "code") Option.none (Data.fields (List.toArray [(Value.str (Str.ofString "law") 674), (Value.str (Str.ofString "law") 675), (Value.str (Str.ofString "/claim/cut.py") 676), (Value.int (528 : Int) 0), (Value.int (1 : Int) 0), (Value.int (0 : Int) 0), (Value.int (0 : Int) 0), (Value.int (3 : Int) 0), (Value.ref 310), (Value.bool Bool.true), (Value.int (181 : Int) 0), (Value.ref 311), Value.none, Value.none, Value.none, (Value.ref 312), (Value.int (677 : Int) 0), (Value.int (528 : Int) 0), (Value.str (Str.ofString "/claim/cut.py") 678)])) (List.toArray [])))
noncomputable def bo_401 : Params → Obj := (fun P => (Obj.mk (Value.type "tuple") Option.none (Data.seq (List.toArray [(Value.str (Str.ofString "data") 580), (Value.str (Str.ofString "t") 581)]) 0) (List.toArray [])))
noncomputable def bo_3 : Params → Obj := (fun P => (Obj.mk (Value.type "code") Option.none (Data.fields (List.toArray [(Value.str (Str.ofString "<module>") 182), (Value.str (Str.ofString "<module>") 183), (Value.str (Str.ofString "/claim/cut.py") 184), (Value.int (1 : Int) 0), (Value.int (0 : Int) 0), (Value.int (0 : Int) 0), (Value.int (0 : Int) 0), (Value.int (0 : Int) 0), (Value.ref 11), (Value.bool Bool.false), (Value.int (181 : Int) 0), (Value.ref 12), Value.none, Value.none, Value.none, Value.none, (Value.int (185 : Int) 0), (Value.int (1 : Int) 0), (Value.str (Str.ofString "/claim/cut.py") 186)])) (List.toArray [])))
noncomputable def bo_13 : Params → Obj := (fun P => (Obj.mk (Value.type "function") Option.none (Data.func (FuncData.mk (Str.ofString "_wall") (Str.ofString "_wall") (Arguments.mk [] [(Arg.mk (Str.ofString "k") Option.none (Pos.mk 1 10 1 11))] Option.none [] [] Option.none []) (FuncBody.stmts (bd 0)) (Scope.mk ScopeKind.function [(Prod.mk (Str.ofString "k") NameKind.local)] Bool.false Bool.false []) 3 [] Value.none Value.none Value.none (Value.str (Str.ofString "__main__") 164) Option.none (Value.ref 20) Value.none 0)) (List.toArray [])))
noncomputable def bo_29 : Params → Obj := (fun P => (Obj.mk (Value.type "tuple") Option.none (Data.seq (List.toArray []) 0) (List.toArray [])))
noncomputable def bo_64 : Params → Obj := (fun P => (Obj.mk (Value.type "tuple") Option.none (Data.seq (List.toArray []) 0) (List.toArray [])))
noncomputable def bo_128 : Params → Obj := (fun P => (Obj.mk (Value.type "list") Option.none (Data.seq (List.toArray []) 0) (List.toArray [])))
noncomputable def bo_413 : Params → Obj := (fun P => (Obj.mk (Value.type "dict") Option.none (Data.dict (List.toArray [(DictEntry.mk (PyData.keyHash P (Str.ofString "newline")) (Value.str (Str.ofString "newline") 595) (Value.bool Bool.true))]) 1) (List.toArray [])))
noncomputable def bo_270 : Params → Obj := (fun P => (Obj.mk (Value.type "tuple") Option.none (Data.seq (List.toArray []) 0) (List.toArray [])))
noncomputable def bo_96 : Params → Obj := (fun P => (Obj.mk (Value.type "tuple") Option.none (Data.seq (List.toArray []) 0) (List.toArray [])))
noncomputable def bo_238 : Params → Obj := (fun P => (Obj.mk Value.none Option.none (Data.func (FuncData.mk (Str.ofString "set_seqs") (Str.ofString "SequenceMatcher.set_seqs") (Arguments.mk [] [(Arg.mk (Str.ofString "self") Option.none (Pos.mk 173 17 173 21)), (Arg.mk (Str.ofString "a") Option.none (Pos.mk 173 23 173 24)), (Arg.mk (Str.ofString "b") Option.none (Pos.mk 173 26 173 27))] Option.none [] [] Option.none []) (FuncBody.stmts (mb 5 2)) (Scope.mk ScopeKind.function [(Prod.mk (Str.ofString "self") NameKind.local), (Prod.mk (Str.ofString "a") NameKind.local), (Prod.mk (Str.ofString "b") NameKind.local)] Bool.false Bool.false []) 0 [] Value.none Value.none Value.none Value.none Option.none Value.none Value.none 0)) (List.toArray [])))
noncomputable def bo_445 : Params → Obj := (fun P => (Obj.mk Value.none Option.none (Data.func (FuncData.mk (Str.ofString "_law_figures") (Str.ofString "_law_figures") (Arguments.mk [] [(Arg.mk (Str.ofString "number") Option.none (Pos.mk 515 17 515 23)), (Arg.mk (Str.ofString "size") Option.none (Pos.mk 515 25 515 29)), (Arg.mk (Str.ofString "count") Option.none (Pos.mk 515 31 515 36))] Option.none [] [] Option.none []) (FuncBody.stmts (bd 17)) (Scope.mk ScopeKind.function [(Prod.mk (Str.ofString "number") NameKind.cell), (Prod.mk (Str.ofString "size") NameKind.cell), (Prod.mk (Str.ofString "count") NameKind.cell), (Prod.mk (Str.ofString "range") NameKind.globalImplicit)] Bool.false Bool.false [(Prod.mk (Str.ofString "fast") (Const.str (Str.ofString "number"))), (Prod.mk (Str.ofString "fast") (Const.str (Str.ofString "size"))), (Prod.mk (Str.ofString "fast") (Const.str (Str.ofString "count"))), (Prod.mk (Str.ofString "fast") (Const.str (Str.ofString "k")))]) 0 [] Value.none Value.none Value.none Value.none Option.none Value.none Value.none 0)) (List.toArray [])))
noncomputable def bo_302 : Params → Obj := (fun P => (Obj.mk (Value.type "tuple") Option.none (Data.seq (List.toArray []) 0) (List.toArray [])))
noncomputable def bo_45 : Params → Obj := (fun P => (Obj.mk (Value.type "tuple") Option.none (Data.seq (List.toArray [(Value.str (Str.ofString "self") 238), (Value.str (Str.ofString "obj") 239)]) 0) (List.toArray [])))
noncomputable def bo_80 : Params → Obj := (fun P => (Obj.mk (Value.type "tuple") Option.none (Data.seq (List.toArray [(Value.str (Str.ofString "cls") 288), (Value.str (Str.ofString "iterable") 289), (Value.str (Str.ofString "result") 290)]) 0) (List.toArray [])))
noncomputable def bo_222 : Params → Obj := (fun P => (Obj.mk (Value.type "tuple") Option.none (Data.seq (List.toArray []) 0) (List.toArray [])))
noncomputable def bo_429 : Params → Obj := (fun P => (Obj.mk (Value.type "tuple") Option.none (Data.seq (List.toArray []) 0) (List.toArray [])))
noncomputable def bo_286 : Params → Obj := (fun P => (Obj.mk Value.none Option.none (Data.fields (List.toArray [])) (List.toArray [])))
noncomputable def bo_112 : Params → Obj := (fun P => (Obj.mk (Value.type "tuple") Option.none (Data.seq (List.toArray [(Value.str (Str.ofString "self") 337)]) 0) (List.toArray [])))
noncomputable def bo_254 : Params → Obj := (fun P => (Obj.mk (Value.type "function") Option.none (Data.func (FuncData.mk (Str.ofString "set_seq2") (Str.ofString "SequenceMatcher.set_seq2") (Arguments.mk [] [(Arg.mk (Str.ofString "self") Option.none (Pos.mk 209 17 209 21)), (Arg.mk (Str.ofString "b") Option.none (Pos.mk 209 23 209 24))] Option.none [] [] Option.none []) (FuncBody.stmts (mb 5 4)) (Scope.mk ScopeKind.function [(Prod.mk (Str.ofString "self") NameKind.local), (Prod.mk (Str.ofString "b") NameKind.local)] Bool.false Bool.false []) 3 [] Value.none Value.none (Value.str (docS (mb 5 4)) 444) (Value.str (Str.ofString "cpy313.difflib") 194) Option.none (Value.ref 180) Value.none 0)) (List.toArray [])))
noncomputable def bo_461 : Params → Obj := (fun P => (Obj.mk (Value.type "function") Option.none (Data.func (FuncData.mk (Str.ofString "_law_longest") (Str.ofString "_law_longest") (Arguments.mk [] [(Arg.mk (Str.ofString "places") Option.none (Pos.mk 519 17 519 23)), (Arg.mk (Str.ofString "low") Option.none (Pos.mk 519 25 519 28)), (Arg.mk (Str.ofString "end") Option.none (Pos.mk 519 30 519 33))] Option.none [] [] Option.none []) (FuncBody.stmts (bd 19)) (Scope.mk ScopeKind.function [(Prod.mk (Str.ofString "places") NameKind.local), (Prod.mk (Str.ofString "low") NameKind.local), (Prod.mk (Str.ofString "end") NameKind.local), (Prod.mk (Str.ofString "best") NameKind.local), (Prod.mk (Str.ofString "start") NameKind.local), (Prod.mk (Str.ofString "size") NameKind.local), (Prod.mk (Str.ofString "range") NameKind.globalImplicit)] Bool.false Bool.false []) 3 [] Value.none Value.none Value.none (Value.str (Str.ofString "law_rt0114_01") 638) Option.none (Value.ref 308) Value.none 0)) (List.toArray [])))
noncomputable def bo_318 : Params → Obj := (fun P => (Obj.mk (Value.type "super") Option.none (Data.fields (List.toArray [(Value.ref 242), (Value.ref 242), (Value.ref 242)])) (List.toArray [])))
noncomputable def bo_21 : Params → Obj := (fun P => (Obj.mk (Value.type "tuple") Option.none (Data.seq (List.toArray []) 0) (List.toArray [])))
noncomputable def bo_37 : Params → Obj := (fun P => (Obj.mk Value.none Option.none (Data.fields (List.toArray [])) (List.toArray [])))
noncomputable def bo_72 : Params → Obj := (fun P => (Obj.mk Value.none Option.none (Data.fields (List.toArray [])) (List.toArray [])))
noncomputable def bo_211 : Params → Obj := (fun P => (Obj.mk (Value.type "tuple") Option.none (Data.seq (List.toArray [(Value.str (Str.ofString "matches") 384), (Value.str (Str.ofString "length") 385)]) 0) (List.toArray [])))
noncomputable def bo_421 : Params → Obj := (fun P => (Obj.mk (Value.type "tuple") Option.none (Data.seq (List.toArray [Value.none]) 0) (List.toArray [])))
noncomputable def bo_278 : Params → Obj := (fun P => (Obj.mk Value.none Option.none (Data.fields (List.toArray [])) (List.toArray [])))
noncomputable def bo_104 : Params → Obj := (fun P => (Obj.mk Value.none Option.none (Data.fields (List.toArray [])) (List.toArray [])))
noncomputable def bo_246 : Params → Obj := (fun P => (Obj.mk (Value.type "code") Option.none (Data.fields (List.toArray [(Value.str (Str.ofString "set_seq1") 428), (Value.str (Str.ofString "SequenceMatcher.set_seq1") 429), (Value.str (Str.ofString "/claim/cut.py") 430), (Value.int (184 : Int) 0), (Value.int (2 : Int) 0), (Value.int (0 : Int) 0), (Value.int (0 : Int) 0), (Value.int (3 : Int) 0), (Value.ref 168), (Value.bool Bool.true), (Value.int (181 : Int) 0), (Value.ref 169), Value.none, (Value.ref 170), (Value.ref 171), (Value.ref 172), (Value.int (433 : Int) 0), (Value.int (184 : Int) 0), (Value.str (Str.ofString "/claim/cut.py") 434)])) (List.toArray [])))
noncomputable def bo_453 : Params → Obj := (fun P => (Obj.mk (Value.type "code") Option.none (Data.fields (List.toArray [(Value.str (Str.ofString "_law_filled") 655), (Value.str (Str.ofString "_law_filled") 656), (Value.str (Str.ofString "/claim/cut.py") 657), (Value.int (517 : Int) 0), (Value.int (1 : Int) 0), (Value.int (0 : Int) 0), (Value.int (0 : Int) 0), (Value.int (3 : Int) 0), (Value.ref 296), (Value.bool Bool.true), (Value.int (181 : Int) 0), (Value.ref 297), Value.none, (Value.ref 298), (Value.ref 299), (Value.ref 300), (Value.int (659 : Int) 0), (Value.int (517 : Int) 0), (Value.str (Str.ofString "/claim/cut.py") 660)])) (List.toArray [])))
noncomputable def bo_310 : Params → Obj := (fun P => (Obj.mk Value.none Option.none (Data.func (FuncData.mk (Str.ofString "real_quick_ratio") (Str.ofString "SequenceMatcher.real_quick_ratio") (Arguments.mk [] [(Arg.mk (Str.ofString "self") Option.none (Pos.mk 416 25 416 29))] Option.none [] [] Option.none []) (FuncBody.stmts (mb 5 12)) (Scope.mk ScopeKind.function [(Prod.mk (Str.ofString "self") NameKind.local), (Prod.mk (Str.ofString "_wall") NameKind.globalImplicit)] Bool.false Bool.false []) 0 [] Value.none Value.none Value.none Value.none Option.none Value.none Value.none 0)) (List.toArray [])))
noncomputable def bo_53 : Params → Obj := (fun P => (Obj.mk (Value.type "getset_descriptor") Option.none (Data.fields (List.toArray [(Value.str (Str.ofString "__dict__") 246), (Value.ref 60), (Value.builtin "function.__dict__"), (Value.builtin "function.__dict__#set")])) (List.toArray [])))
noncomputable def bo_88 : Params → Obj := (fun P => (Obj.mk (Value.type "tuple") Option.none (Data.seq (List.toArray [(Value.ref 68)]) 0) (List.toArray [])))
noncomputable def bo_230 : Params → Obj := (fun P => (Obj.mk (Value.type "tuple") Option.none (Data.seq (List.toArray []) 0) (List.toArray [])))
noncomputable def bo_437 : Params → Obj := (fun P => (Obj.mk Value.none Option.none (Data.fields (List.toArray [])) (List.toArray [])))
noncomputable def bo_294 : Params → Obj := (fun P => (Obj.mk (Value.type "tuple") Option.none (Data.seq (List.toArray [(Value.str (Str.ofString "self") 538), (Value.str (Str.ofString "matches") 539)]) 0) (List.toArray [])))
noncomputable def bo_120 : Params → Obj := (fun P => (Obj.mk (Value.type "frame") Option.none (Data.dict (List.toArray [(DictEntry.mk (PyData.keyHash P (Str.ofString "self")) (Value.str (Str.ofString "self") 348) (Value.ref 124)), (DictEntry.mk (PyData.keyHash P (Str.ofString "index")) (Value.str (Str.ofString "index") 349) (Value.int (0 : Int) 346)), (DictEntry.mk (PyData.keyHash P (Str.ofString "doc")) (Value.str (Str.ofString "doc") 350) (Value.str (Str.ofString "Alias for field number 0") 347))]) 3) (List.toArray [])))
noncomputable def bo_262 : Params → Obj := (fun P => (Obj.mk (Value.type "tuple") Option.none (Data.seq (List.toArray [(Value.int (0 : Int) 464), Value.none, (Value.int (0 : Int) 465), Value.none]) 0) (List.toArray [])))
noncomputable def bo_405 : Params → Obj := (fun P => (Obj.mk (Value.type "function") Option.none (Data.func (FuncData.mk (Str.ofString "_buffer") (Str.ofString "_buffer") (Arguments.mk [] [(Arg.mk (Str.ofString "data") Option.none (Pos.mk 419 12 419 16))] Option.none [] [] Option.none []) (FuncBody.stmts (bd 7)) (Scope.mk ScopeKind.function [(Prod.mk (Str.ofString "data") NameKind.local), (Prod.mk (Str.ofString "t") NameKind.local), (Prod.mk (Str.ofString "type") NameKind.globalImplicit), (Prod.mk (Str.ofString "bytes") NameKind.globalImplicit), (Prod.mk (Str.ofString "bytearray") NameKind.globalImplicit), (Prod.mk (Str.ofString "_wall") NameKind.globalImplicit)] Bool.false Bool.false []) 3 [] Value.none Value.none Value.none (Value.str (Str.ofString "binascii") 575) Option.none (Value.ref 252) Value.none 0)) (List.toArray [])))
noncomputable def bo_8 : Params → Obj := (fun P => (Obj.mk Value.none Option.none (Data.fields (List.toArray [])) (List.toArray [])))
noncomputable def bo_24 : Params → Obj := (fun P => (Obj.mk (Value.type "tuple") Option.none (Data.seq (List.toArray []) 0) (List.toArray [])))
noncomputable def bo_56 : Params → Obj := (fun P => (Obj.mk (Value.type "builtin_function_or_method") Option.none (Data.fields (List.toArray [(Value.builtin "object.__init_subclass__"), (Value.ref 60)])) (List.toArray [])))
noncomputable def bo_123 : Params → Obj := (fun P => (Obj.mk (Value.type "frame") Option.none (Data.dict (List.toArray [(DictEntry.mk (PyData.keyHash P (Str.ofString "self")) (Value.str (Str.ofString "self") 358) (Value.ref 127)), (DictEntry.mk (PyData.keyHash P (Str.ofString "index")) (Value.str (Str.ofString "index") 359) (Value.int (1 : Int) 356)), (DictEntry.mk (PyData.keyHash P (Str.ofString "doc")) (Value.str (Str.ofString "doc") 360) (Value.str (Str.ofString "Alias for field number 1") 357))]) 3) (List.toArray [])))
noncomputable def bo_408 : Params → Obj := (fun P => (Obj.mk (Value.type "tuple") Option.none (Data.seq (List.toArray [(Value.str (Str.ofString "x") 588), (Value.str (Str.ofString "t") 589)]) 0) (List.toArray [])))
noncomputable def bo_265 : Params → Obj := (fun P => (Obj.mk (Value.type "tuple") Option.none (Data.seq (List.toArray [(Value.str (Str.ofString "self") 469), (Value.str (Str.ofString "alo") 470), (Value.str (Str.ofString "ahi") 471), (Value.str (Str.ofString "blo") 472), (Value.str (Str.ofString "bhi") 473), (Value.str (Str.ofString "a") 474), (Value.str (Str.ofString "b") 475), (Value.str (Str.ofString "b2j") 476), (Value.str (Str.ofString "isbjunk") 477), (Value.str (Str.ofString "besti") 478), (Value.str (Str.ofString "bestj") 479), (Value.str (Str.ofString "bestsize") 480), (Value.str (Str.ofString "j2len") 481), (Value.str (Str.ofString "nothing") 482), (Value.str (Str.ofString "i") 483), (Value.str (Str.ofString "j2lenget") 484), (Value.str (Str.ofString "newj2len") 485), (Value.str (Str.ofString "j") 486), (Value.str (Str.ofString "k") 487)]) 0) (List.toArray [])))
noncomputable def bo_91 : Params → Obj := (fun P => (Obj.mk (Value.type "tuple") Option.none (Data.seq (List.toArray [(Value.str (Str.ofString "self") 311), (Value.str (Str.ofString "kwds") 312), (Value.str (Str.ofString "result") 313)]) 0) (List.toArray [])))
noncomputable def bo_233 : Params → Obj := (fun P => (Obj.mk (Value.type "function") Option.none (Data.func (FuncData.mk (Str.ofString "__init__") (Str.ofString "SequenceMatcher.__init__") (Arguments.mk [] [(Arg.mk (Str.ofString "self") Option.none (Pos.mk 145 17 145 21)), (Arg.mk (Str.ofString "isjunk") Option.none (Pos.mk 145 23 145 29)), (Arg.mk (Str.ofString "a") Option.none (Pos.mk 145 36 145 37)), (Arg.mk (Str.ofString "b") Option.none (Pos.mk 145 42 145 43)), (Arg.mk (Str.ofString "autojunk") Option.none (Pos.mk 145 48 145 56))] Option.none [] [] Option.none [(Expr.Constant Const.none 0 (Pos.mk 145 30 145 34)), (Expr.Constant (Const.str (Str.ofString "")) 0 (Pos.mk 145 38 145 40)), (Expr.Constant (Const.str (Str.ofString "")) 0 (Pos.mk 145 44 145 46)), (Expr.Constant (Const.bool Bool.true) 0 (Pos.mk 145 57 145 61))]) (FuncBody.stmts (mb 5 1)) (Scope.mk ScopeKind.function [(Prod.mk (Str.ofString "self") NameKind.local), (Prod.mk (Str.ofString "isjunk") NameKind.local), (Prod.mk (Str.ofString "a") NameKind.local), (Prod.mk (Str.ofString "b") NameKind.local), (Prod.mk (Str.ofString "autojunk") NameKind.local)] Bool.false Bool.false []) 3 [] (Value.ref 153) Value.none (Value.str (docS (mb 5 1)) 416) (Value.str (Str.ofString "cpy313.difflib") 194) Option.none (Value.ref 159) Value.none 0)) (List.toArray [])))
noncomputable def bo_440 : Params → Obj := (fun P => (Obj.mk Value.none Option.none (Data.func (FuncData.mk (Str.ofString "_law_ring") (Str.ofString "_law_ring") (Arguments.mk [] [] Option.none [] [] Option.none []) (FuncBody.stmts (bd 16)) (Scope.mk ScopeKind.function [(Prod.mk (Str.ofString "ring") NameKind.local), (Prod.mk (Str.ofString "low") NameKind.local), (Prod.mk (Str.ofString "high") NameKind.local), (Prod.mk (Str.ofString "range") NameKind.globalImplicit)] Bool.false Bool.false []) 0 [] Value.none Value.none Value.none Value.none Option.none Value.none Value.none 0)) (List.toArray [])))
noncomputable def bo_297 : Params → Obj := (fun P => (Obj.mk (Value.type "code") Option.none (Data.fields (List.toArray [(Value.str (Str.ofString "ratio") 535), (Value.str (Str.ofString "SequenceMatcher.ratio") 536), (Value.str (Str.ofString "/claim/cut.py") 537), (Value.int (389 : Int) 0), (Value.int (1 : Int) 0), (Value.int (0 : Int) 0), (Value.int (0 : Int) 0), (Value.int (3 : Int) 0), (Value.ref 219), (Value.bool Bool.true), (Value.int (181 : Int) 0), (Value.ref 220), Value.none, (Value.ref 221), (Value.ref 222), (Value.ref 223), (Value.int (540 : Int) 0), (Value.int (389 : Int) 0), (Value.str (Str.ofString "/claim/cut.py") 541)])) (List.toArray [])))
noncomputable def bo_40 : Params → Obj := (fun P => (Obj.mk Value.none Option.none (Data.func (FuncData.mk (Str.ofString "__set__") (Str.ofString "_tuplegetter.__set__") (Arguments.mk [] [(Arg.mk (Str.ofString "self") Option.none (Pos.mk 18 16 18 20)), (Arg.mk (Str.ofString "obj") Option.none (Pos.mk 18 22 18 25)), (Arg.mk (Str.ofString "value") Option.none (Pos.mk 18 27 18 32))] Option.none [] [] Option.none []) (FuncBody.stmts (mb 2 2)) (Scope.mk ScopeKind.function [(Prod.mk (Str.ofString "self") NameKind.local), (Prod.mk (Str.ofString "obj") NameKind.local), (Prod.mk (Str.ofString "value") NameKind.local), (Prod.mk (Str.ofString "AttributeError") NameKind.globalImplicit)] Bool.false Bool.false []) 0 [] Value.none Value.none Value.none Value.none Option.none Value.none Value.none 0)) (List.toArray [])))
noncomputable def bo_75 : Params → Obj := (fun P => (Obj.mk Value.none Option.none (Data.func (FuncData.mk (Str.ofString "__new__") (Str.ofString "Match.__new__") (Arguments.mk [] [(Arg.mk (Str.ofString "_cls") Option.none (Pos.mk 29 16 29 20)), (Arg.mk (Str.ofString "a") Option.none (Pos.mk 29 22 29 23)), (Arg.mk (Str.ofString "b") Option.none (Pos.mk 29 25 29 26)), (Arg.mk (Str.ofString "size") Option.none (Pos.mk 29 28 29 32))] Option.none [] [] Option.none []) (FuncBody.stmts (mb 3 4)) (Scope.mk ScopeKind.function [(Prod.mk (Str.ofString "_cls") NameKind.local), (Prod.mk (Str.ofString "a") NameKind.local), (Prod.mk (Str.ofString "b") NameKind.local), (Prod.mk (Str.ofString "size") NameKind.local), (Prod.mk (Str.ofString "tuple") NameKind.globalImplicit)] Bool.false Bool.false []) 0 [] Value.none Value.none Value.none Value.none Option.none Value.none Value.none 0)) (List.toArray [])))
noncomputable def bo_214 : Params → Obj := (fun P => (Obj.mk (Value.type "code") Option.none (Data.fields (List.toArray [(Value.str (Str.ofString "_calculate_ratio") 381), (Value.str (Str.ofString "_calculate_ratio") 382), (Value.str (Str.ofString "/claim/cut.py") 383), (Value.int (66 : Int) 0), (Value.int (2 : Int) 0), (Value.int (0 : Int) 0), (Value.int (0 : Int) 0), (Value.int (3 : Int) 0), (Value.ref 139), (Value.bool Bool.true), (Value.int (181 : Int) 0), (Value.ref 140), Value.none, (Value.ref 141), (Value.ref 142), (Value.ref 143), (Value.int (386 : Int) 0), (Value.int (66 : Int) 0), (Value.str (Str.ofString "/claim/cut.py") 387)])) (List.toArray [])))
noncomputable def bo_424 : Params → Obj := (fun P => (Obj.mk (Value.type "tuple") Option.none (Data.seq (List.toArray [(Value.str (Str.ofString "s") 614), (Value.str (Str.ofString "altchars") 615), (Value.str (Str.ofString "encoded") 616)]) 0) (List.toArray [])))
noncomputable def bo_281 : Params → Obj := (fun P => (Obj.mk Value.none Option.none (Data.func (FuncData.mk (Str.ofString "get_opcodes") (Str.ofString "SequenceMatcher.get_opcodes") (Arguments.mk [] [(Arg.mk (Str.ofString "self") Option.none (Pos.mk 383 20 383 24))] Option.none [] [] Option.none []) (FuncBody.stmts (mb 5 8)) (Scope.mk ScopeKind.function [(Prod.mk (Str.ofString "self") NameKind.local), (Prod.mk (Str.ofString "_wall") NameKind.globalImplicit)] Bool.false Bool.false []) 0 [] Value.none Value.none Value.none Value.none Option.none Value.none Value.none 0)) (List.toArray [])))
noncomputable def bo_107 : Params → Obj := (fun P => (Obj.mk Value.none Option.none (Data.func (FuncData.mk (Str.ofString "_asdict") (Str.ofString "Match._asdict") (Arguments.mk [] [(Arg.mk (Str.ofString "self") Option.none (Pos.mk 56 16 56 20))] Option.none [] [] Option.none []) (FuncBody.stmts (mb 3 9)) (Scope.mk ScopeKind.function [(Prod.mk (Str.ofString "self") NameKind.local), (Prod.mk (Str.ofString "_wall") NameKind.globalImplicit)] Bool.false Bool.false []) 0 [] Value.none Value.none Value.none Value.none Option.none Value.none Value.none 0)) (List.toArray [])))
noncomputable def bo_249 : Params → Obj := (fun P => (Obj.mk Value.none Option.none (Data.fields (List.toArray [])) (List.toArray [])))
noncomputable def bo_456 : Params → Obj := (fun P => (Obj.mk Value.none Option.none (Data.fields (List.toArray [])) (List.toArray [])))
noncomputable def bo_313 : Params → Obj := (fun P => (Obj.mk (Value.type "tuple") Option.none (Data.seq (List.toArray [(Value.str (Str.ofString "a") 558), (Value.str (Str.ofString "autojunk") 559), (Value.str (Str.ofString "b") 560), (Value.str (Str.ofString "b2j") 561), (Value.str (Str.ofString "bjunk") 562), (Value.str (Str.ofString "bpopular") 563), (Value.str (Str.ofString "fullbcount") 564), (Value.str (Str.ofString "isjunk") 565), (Value.str (Str.ofString "matching_blocks") 566), (Value.str (Str.ofString "opcodes") 567)]) 0) (List.toArray [])))
noncomputable def bo_16 : Params → Obj := (fun P => (Obj.mk (Value.type "dict") Option.none (Data.dict (List.toArray [(DictEntry.mk (PyData.keyHash P (Str.ofString "__module__")) (Value.str (Str.ofString "__module__") 203) (Value.str (Str.ofString "cpy313.difflib") 194)), (DictEntry.mk (PyData.keyHash P (Str.ofString "__qualname__")) (Value.str (Str.ofString "__qualname__") 205) (Value.str (Str.ofString "_tuplegetter") 204)), (DictEntry.mk (PyData.keyHash P (Str.ofString "__firstlineno__")) (Value.str (Str.ofString "__firstlineno__") 207) (Value.int (5 : Int) 206)), (DictEntry.mk (PyData.keyHash P (Str.ofString "__init__")) (Value.str (Str.ofString "__init__") 216) (Value.ref 35)), (DictEntry.mk (PyData.keyHash P (Str.ofString "__get__")) (Value.str (Str.ofString "__get__") 225) (Value.ref 43)), (DictEntry.mk (PyData.keyHash P (Str.ofString "__set__")) (Value.str (Str.ofString "__set__") 234) (Value.ref 50)), (DictEntry.mk (PyData.keyHash P (Str.ofString "__delete__")) (Value.str (Str.ofString "__delete__") 242) (Value.ref 57)), (DictEntry.mk (PyData.keyHash P (Str.ofString "__static_attributes__")) (Value.str (Str.ofString "__static_attributes__") 245) (Value.ref 58))]) 8) (List.toArray [])))
noncomputable def bo_32 : Params → Obj := (fun P => (Obj.mk (Value.type "tuple") Option.none (Data.seq (List.toArray []) 0) (List.toArray [])))
noncomputable def bo_67 : Params → Obj := (fun P => (Obj.mk (Value.type "frame") Option.none Data.plain (List.toArray [(Option.some (Value.ref 71)), (Option.some (Value.ref 3)), (Option.some (Value.ref 67)), Option.none, (Option.some (Value.str (Str.ofString "cpy313.difflib") 194)), Option.none, (Option.some (Value.ref 0))])))
noncomputable def bo_131 : Params → Obj := (fun P => (Obj.mk (Value.type "staticmethod") Option.none (Data.fields (List.toArray [(Value.ref 82)])) (List.toArray [])))
noncomputable def bo_416 : Params → Obj := (fun P => (Obj.mk (Value.type "tuple") Option.none (Data.seq (List.toArray [(Value.str (Str.ofString "data") 599), (Value.str (Str.ofString "newline") 600), (Value.str (Str.ofString "bin_data") 601), (Value.str (Str.ofString "out") 602), (Value.str (Str.ofString "leftbits") 603), (Value.str (Str.ofString "leftchar") 604), (Value.str (Str.ofString "b") 605)]) 0) (List.toArray [])))
noncomputable def bo_273 : Params → Obj := (fun P => (Obj.mk (Value.type "tuple") Option.none (Data.seq (List.toArray []) 0) (List.toArray [])))
noncomputable def bo_99 : Params → Obj := (fun P => (Obj.mk (Value.type "tuple") Option.none (Data.seq (List.toArray []) 0) (List.toArray [])))
noncomputable def bo_241 : Params → Obj := (fun P => (Obj.mk (Value.type "tuple") Option.none (Data.seq (List.toArray []) 0) (List.toArray [])))
noncomputable def bo_448 : Params → Obj := (fun P => (Obj.mk (Value.type "tuple") Option.none (Data.seq (List.toArray []) 0) (List.toArray [])))
noncomputable def bo_305 : Params → Obj := (fun P => (Obj.mk (Value.type "function") Option.none (Data.func (FuncData.mk (Str.ofString "quick_ratio") (Str.ofString "SequenceMatcher.quick_ratio") (Arguments.mk [] [(Arg.mk (Str.ofString "self") Option.none (Pos.mk 413 20 413 24))] Option.none [] [] Option.none []) (FuncBody.stmts (mb 5 11)) (Scope.mk ScopeKind.function [(Prod.mk (Str.ofString "self") NameKind.local), (Prod.mk (Str.ofString "_wall") NameKind.globalImplicit)] Bool.false Bool.false []) 3 [] Value.none Value.none Value.none (Value.str (Str.ofString "cpy313.difflib") 194) Option.none (Value.ref 231) Value.none 0)) (List.toArray [])))
noncomputable def bo_48 : Params → Obj := (fun P => (Obj.mk (Value.type "code") Option.none (Data.fields (List.toArray [(Value.str (Str.ofString "__delete__") 235), (Value.str (Str.ofString "_tuplegetter.__delete__") 236), (Value.str (Str.ofString "/claim/cut.py") 237), (Value.int (21 : Int) 0), (Value.int (2 : Int) 0), (Value.int (0 : Int) 0), (Value.int (0 : Int) 0), (Value.int (3 : Int) 0), (Value.ref 51), (Value.bool Bool.true), (Value.int (181 : Int) 0), (Value.ref 52), Value.none, (Value.ref 53), (Value.ref 54), (Value.ref 55), (Value.int (240 : Int) 0), (Value.int (21 : Int) 0), (Value.str (Str.ofString "/claim/cut.py") 241)])) (List.toArray [])))
noncomputable def bo_83 : Params → Obj := (fun P => (Obj.mk (Value.type "code") Option.none (Data.fields (List.toArray [(Value.str (Str.ofString "_make") 285), (Value.str (Str.ofString "Match._make") 286), (Value.str (Str.ofString "/claim/cut.py") 287), (Value.int (33 : Int) 0), (Value.int (2 : Int) 0), (Value.int (0 : Int) 0), (Value.int (0 : Int) 0), (Value.int (3 : Int) 0), (Value.ref 83), (Value.bool Bool.true), (Value.int (181 : Int) 0), (Value.ref 84), Value.none, (Value.ref 85), (Value.ref 86), (Value.ref 87), (Value.int (291 : Int) 0), (Value.int (33 : Int) 0), (Value.str (Str.ofString "/claim/cut.py") 292)])) (List.toArray [])))
noncomputable def bo_225 : Params → Obj := (fun P => (Obj.mk (Value.type "frame") Option.none Data.plain (List.toArray [(Option.some (Value.ref 151)), (Option.some (Value.ref 3)), (Option.some (Value.ref 148)), Option.none, (Option.some (Value.str (Str.ofString "cpy313.difflib") 194)), Option.none, (Option.some (Value.ref 0))])))
noncomputable def bo_432 : Params → Obj := (fun P => (Obj.mk (Value.type "tuple") Option.none (Data.seq (List.toArray []) 0) (List.toArray [])))
noncomputable def bo_289 : Params → Obj := (fun P => (Obj.mk Value.none Option.none (Data.func (FuncData.mk (Str.ofString "get_grouped_opcodes") (Str.ofString "SequenceMatcher.get_grouped_opcodes") (Arguments.mk [] [(Arg.mk (Str.ofString "self") Option.none (Pos.mk 386 28 386 32)), (Arg.mk (Str.ofString "n") Option.none (Pos.mk 386 34 386 35))] Option.none [] [] Option.none [(Expr.Constant (Const.int (3 : Int)) 0 (Pos.mk 386 36 386 37))]) (FuncBody.stmts (mb 5 9)) (Scope.mk ScopeKind.function [(Prod.mk (Str.ofString "self") NameKind.local), (Prod.mk (Str.ofString "n") NameKind.local), (Prod.mk (Str.ofString "_wall") NameKind.globalImplicit)] Bool.false Bool.false []) 0 [] Value.none Value.none Value.none Value.none Option.none Value.none Value.none 0)) (List.toArray [])))
noncomputable def bo_115 : Params → Obj := (fun P => (Obj.mk (Value.type "code") Option.none (Data.fields (List.toArray [(Value.str (Str.ofString "__getnewargs__") 334), (Value.str (Str.ofString "Match.__getnewargs__") 335), (Value.str (Str.ofString "/claim/cut.py") 336), (Value.int (59 : Int) 0), (Value.int (1 : Int) 0), (Value.int (0 : Int) 0), (Value.int (0 : Int) 0), (Value.int (3 : Int) 0), (Value.ref 115), (Value.bool Bool.true), (Value.int (181 : Int) 0), (Value.ref 116), Value.none, (Value.ref 117), (Value.ref 118), (Value.ref 119), (Value.int (338 : Int) 0), (Value.int (59 : Int) 0), (Value.str (Str.ofString "/claim/cut.py") 339)])) (List.toArray [])))
noncomputable def bo_257 : Params → Obj := (fun P => (Obj.mk (Value.type "tuple") Option.none (Data.seq (List.toArray [(Value.str (Str.ofString "self") 449), (Value.str (Str.ofString "b") 450), (Value.str (Str.ofString "b2j") 451), (Value.str (Str.ofString "i") 452), (Value.str (Str.ofString "elt") 453), (Value.str (Str.ofString "indices") 454), (Value.str (Str.ofString "junk") 455), (Value.str (Str.ofString "isjunk") 456), (Value.str (Str.ofString "popular") 457), (Value.str (Str.ofString "n") 458), (Value.str (Str.ofString "ntest") 459), (Value.str (Str.ofString "idxs") 460)]) 0) (List.toArray [])))
noncomputable def bo_464 : Params → Obj := (fun P => (Obj.mk Value.none Option.none (Data.func (FuncData.mk (Str.ofString "law") (Str.ofString "law") (Arguments.mk [] [(Arg.mk (Str.ofString "script") Option.none (Pos.mk 528 8 528 14))] Option.none [] [] Option.none []) (FuncBody.stmts (bd 20)) (Scope.mk ScopeKind.function [(Prod.mk (Str.ofString "script") NameKind.local), (Prod.mk (Str.ofString "row") NameKind.local), (Prod.mk (Str.ofString "number") NameKind.local), (Prod.mk (Str.ofString "octet") NameKind.local), (Prod.mk (Str.ofString "moved") NameKind.local), (Prod.mk (Str.ofString "count") NameKind.local), (Prod.mk (Str.ofString "width") NameKind.local), (Prod.mk (Str.ofString "figures") NameKind.local), (Prod.mk (Str.ofString "ring") NameKind.cell), (Prod.mk (Str.ofString "pairs") NameKind.local), (Prod.mk (Str.ofString "spots") NameKind.local), (Prod.mk (Str.ofString "alphabet") NameKind.cell), (Prod.mk (Str.ofString "laid") NameKind.cell), (Prod.mk (Str.ofString "matcher") NameKind.local), (Prod.mk (Str.ofString "places") NameKind.local), (Prod.mk (Str.ofString "start") NameKind.local), (Prod.mk (Str.ofString "found") NameKind.local), (Prod.mk (Str.ofString "signs") NameKind.local), (Prod.mk (Str.ofString "written") NameKind.cell), (Prod.mk (Str.ofString "plain") NameKind.cell), (Prod.mk (Str.ofString "cut") NameKind.local), (Prod.mk (Str.ofString "low") NameKind.local), (Prod.mk (Str.ofString "end") NameKind.local), (Prod.mk (Str.ofString "absent") NameKind.local), (Prod.mk (Str.ofString "bytes") NameKind.globalImplicit), (Prod.mk (Str.ofString "_law_figures") NameKind.globalImplicit), (Prod.mk (Str.ofString "len") NameKind.globalImplicit), (Prod.mk (Str.ofString "_law_ring") NameKind.globalImplicit), (Prod.mk (Str.ofString "range") NameKind.globalImplicit), (Prod.mk (Str.ofString "dict") NameKind.globalImplicit), (Prod.mk (Str.ofString "zip") NameKind.globalImplicit), (Prod.mk (Str.ofString "SequenceMatcher") NameKind.globalImplicit), (Prod.mk (Str.ofString "tuple") NameKind.globalImplicit), (Prod.mk (Str.ofString "b64encode") NameKind.globalImplicit), (Prod.mk (Str.ofString "_law_filled") NameKind.globalImplicit), (Prod.mk (Str.ofString "sum") NameKind.globalImplicit), (Prod.mk (Str.ofString "_law_longest") NameKind.globalImplicit), (Prod.mk (Str.ofString "sorted_list_difference") NameKind.globalImplicit), (Prod.mk (Str.ofString "list") NameKind.globalImplicit), (Prod.mk (Str.ofString "sorted") NameKind.globalImplicit)] Bool.false Bool.false [(Prod.mk (Str.ofString "fast") (Const.str (Str.ofString "script"))), (Prod.mk (Str.ofString "fast") (Const.str (Str.ofString "x"))), (Prod.mk (Str.ofString "fast") (Const.str (Str.ofString "row"))), (Prod.mk (Str.ofString "fast") (Const.str (Str.ofString "number"))), (Prod.mk (Str.ofString "fast") (Const.str (Str.ofString "octet"))), (Prod.mk (Str.ofString "fast") (Const.str (Str.ofString "moved"))), (Prod.mk (Str.ofString "fast") (Const.str (Str.ofString "count"))), (Prod.mk (Str.ofString "fast") (Const.str (Str.ofString "width"))), (Prod.mk (Str.ofString "fast") (Const.str (Str.ofString "figures"))), (Prod.mk (Str.ofString "fast") (Const.str (Str.ofString "ring"))), (Prod.mk (Str.ofString "fast") (Const.str (Str.ofString "k"))), (Prod.mk (Str.ofString "fast") (Const.str (Str.ofString "pairs"))), (Prod.mk (Str.ofString "fast") (Const.str (Str.ofString "spots"))), (Prod.mk (Str.ofString "fast") (Const.str (Str.ofString "alphabet"))), (Prod.mk (Str.ofString "fast") (Const.str (Str.ofString "pair"))), (Prod.mk (Str.ofString "fast") (Const.str (Str.ofString "laid"))), (Prod.mk (Str.ofString "fast") (Const.str (Str.ofString "matcher"))), (Prod.mk (Str.ofString "fast") (Const.str (Str.ofString "places"))), (Prod.mk (Str.ofString "fast") (Const.str (Str.ofString "start"))), (Prod.mk (Str.ofString "fast") (Const.str (Str.ofString "found"))), (Prod.mk (Str.ofString "fast") (Const.str (Str.ofString "place"))), (Prod.mk (Str.ofString "fast") (Const.str (Str.ofString "signs"))), (Prod.mk (Str.ofString "fast") (Const.str (Str.ofString "written"))), (Prod.mk (Str.ofString "fast") (Const.str (Str.ofString "plain"))), (Prod.mk (Str.ofString "fast") (Const.str (Str.ofString "cut"))), (Prod.mk (Str.ofString "fast") (Const.str (Str.ofString "low"))), (Prod.mk (Str.ofString "fast") (Const.str (Str.ofString "end"))), (Prod.mk (Str.ofString "fast") (Const.str (Str.ofString "absent")))]) 0 [] Value.none Value.none Value.none Value.none Option.none Value.none Value.none 0)) (List.toArray [])))
noncomputable def bo_400 : Params → Obj := (fun P => (Obj.mk Value.none Option.none (Data.fields (List.toArray [])) (List.toArray [])))
noncomputable def bo_398 : Params → Obj := (fun P => (Obj.mk Value.none Option.none (Data.fields (List.toArray ((Value.int (1 : Int) 0) :: (Value.int (0 : Int) 0) :: (Value.ref 20) :: (Value.int (5 : Int) 0) :: (Value.int (0 : Int) 0) :: (Value.ref 27) :: (Value.int (23 : Int) 0) :: (Value.int (0 : Int) 0) :: (Value.ref 71) :: (Value.int (66 : Int) 0) :: (Value.int (0 : Int) 0) :: (Value.ref 144) :: (Value.int (70 : Int) 0) :: (Value.int (0 : Int) 0) :: (Value.ref 151) :: (Value.int (419 : Int) 0) :: (Value.int (0 : Int) 0) :: (Value.ref 252) :: (Value.int (426 : Int) 0) :: (Value.int (0 : Int) 0) :: (Value.ref 259) :: (Value.int (432 : Int) 0) :: (Value.int (0 : Int) 0) :: (Value.ref 267) :: (Value.int (455 : Int) 0) :: (Value.int (0 : Int) 0) :: (Value.ref 275) :: (Value.int (468 : Int) 0) :: (Value.int (0 : Int) 0) :: (Value.ref 282) :: (Value.int (508 : Int) 0) :: (Value.int (0 : Int) 0) :: (Value.ref 289) :: (Value.int (515 : Int) 0) :: (Value.int (0 : Int) 0) :: (Value.ref 294) :: (Value.int (517 : Int) 0) :: (Value.int (0 : Int) 0) :: (Value.ref 301) :: (Value.int (519 : Int) 0) :: (Value.int (0 : Int) 0) :: (Value.ref 308) :: (Value.int (528 : Int) 0) :: (Value.int (0 : Int) 0) :: (Value.ref 313) :: []))) (List.toArray [])))
noncomputable def bo_12 : Params → Obj := (fun P => (Obj.mk (Value.type "code") Option.none (Data.fields (List.toArray [(Value.str (Str.ofString "_wall") 187), (Value.str (Str.ofString "_wall") 188), (Value.str (Str.ofString "/claim/cut.py") 189), (Value.int (1 : Int) 0), (Value.int (1 : Int) 0), (Value.int (0 : Int) 0), (Value.int (0 : Int) 0), (Value.int (3 : Int) 0), (Value.ref 15), (Value.bool Bool.true), (Value.int (181 : Int) 0), (Value.ref 16), Value.none, (Value.ref 17), (Value.ref 18), (Value.ref 19), (Value.int (191 : Int) 0), (Value.int (1 : Int) 0), (Value.str (Str.ofString "/claim/cut.py") 192)])) (List.toArray [])))
noncomputable def bo_28 : Params → Obj := (fun P => (Obj.mk (Value.type "tuple") Option.none (Data.seq (List.toArray [Value.none]) 0) (List.toArray [])))
noncomputable def bo_63 : Params → Obj := (fun P => (Obj.mk (Value.type "cell") Option.none (Data.cell (Option.some (Value.ref 135))) (List.toArray [])))
noncomputable def bo_127 : Params → Obj := (fun P => (Obj.mk (Value.type "tuple") Option.none (Data.seq (List.toArray []) 0) (List.toArray [])))
noncomputable def bo_412 : Params → Obj := (fun P => (Obj.mk (Value.type "function") Option.none (Data.func (FuncData.mk (Str.ofString "_truth") (Str.ofString "_truth") (Arguments.mk [] [(Arg.mk (Str.ofString "x") Option.none (Pos.mk 426 11 426 12))] Option.none [] [] Option.none []) (FuncBody.stmts (bd 8)) (Scope.mk ScopeKind.function [(Prod.mk (Str.ofString "x") NameKind.local), (Prod.mk (Str.ofString "t") NameKind.local), (Prod.mk (Str.ofString "type") NameKind.globalImplicit), (Prod.mk (Str.ofString "bool") NameKind.globalImplicit), (Prod.mk (Str.ofString "int") NameKind.globalImplicit), (Prod.mk (Str.ofString "float") NameKind.globalImplicit), (Prod.mk (Str.ofString "complex") NameKind.globalImplicit), (Prod.mk (Str.ofString "str") NameKind.globalImplicit), (Prod.mk (Str.ofString "bytes") NameKind.globalImplicit), (Prod.mk (Str.ofString "bytearray") NameKind.globalImplicit), (Prod.mk (Str.ofString "list") NameKind.globalImplicit), (Prod.mk (Str.ofString "tuple") NameKind.globalImplicit), (Prod.mk (Str.ofString "dict") NameKind.globalImplicit), (Prod.mk (Str.ofString "set") NameKind.globalImplicit), (Prod.mk (Str.ofString "frozenset") NameKind.globalImplicit), (Prod.mk (Str.ofString "range") NameKind.globalImplicit), (Prod.mk (Str.ofString "_wall") NameKind.globalImplicit)] Bool.false Bool.false []) 3 [] Value.none Value.none Value.none (Value.str (Str.ofString "binascii") 575) Option.none (Value.ref 259) Value.none 0)) (List.toArray [])))
noncomputable def bo_269 : Params → Obj := (fun P => (Obj.mk (Value.type "function") Option.none (Data.func (FuncData.mk (Str.ofString "find_longest_match") (Str.ofString "SequenceMatcher.find_longest_match") (Arguments.mk [] [(Arg.mk (Str.ofString "self") Option.none (Pos.mk 260 27 260 31)), (Arg.mk (Str.ofString "alo") Option.none (Pos.mk 260 33 260 36)), (Arg.mk (Str.ofString "ahi") Option.none (Pos.mk 260 40 260 43)), (Arg.mk (Str.ofString "blo") Option.none (Pos.mk 260 50 260 53)), (Arg.mk (Str.ofString "bhi") Option.none (Pos.mk 260 57 260 60))] Option.none [] [] Option.none [(Expr.Constant (Const.int (0 : Int)) 0 (Pos.mk 260 37 260 38)), (Expr.Constant Const.none 0 (Pos.mk 260 44 260 48)), (Expr.Constant (Const.int (0 : Int)) 0 (Pos.mk 260 54 260 55)), (Expr.Constant Const.none 0 (Pos.mk 260 61 260 65))]) (FuncBody.stmts (mb 5 6)) (Scope.mk ScopeKind.function [(Prod.mk (Str.ofString "self") NameKind.local), (Prod.mk (Str.ofString "alo") NameKind.local), (Prod.mk (Str.ofString "ahi") NameKind.local), (Prod.mk (Str.ofString "blo") NameKind.local), (Prod.mk (Str.ofString "bhi") NameKind.local), (Prod.mk (Str.ofString "a") NameKind.local), (Prod.mk (Str.ofString "b") NameKind.local), (Prod.mk (Str.ofString "b2j") NameKind.local), (Prod.mk (Str.ofString "isbjunk") NameKind.local), (Prod.mk (Str.ofString "besti") NameKind.local), (Prod.mk (Str.ofString "bestj") NameKind.local), (Prod.mk (Str.ofString "bestsize") NameKind.local), (Prod.mk (Str.ofString "j2len") NameKind.local), (Prod.mk (Str.ofString "nothing") NameKind.local), (Prod.mk (Str.ofString "i") NameKind.local), (Prod.mk (Str.ofString "j2lenget") NameKind.local), (Prod.mk (Str.ofString "newj2len") NameKind.local), (Prod.mk (Str.ofString "j") NameKind.local), (Prod.mk (Str.ofString "k") NameKind.local), (Prod.mk (Str.ofString "len") NameKind.globalImplicit), (Prod.mk (Str.ofString "range") NameKind.globalImplicit), (Prod.mk (Str.ofString "Match") NameKind.globalImplicit)] Bool.false Bool.false []) 3 [] (Value.ref 189) Value.none (Value.str (docS (mb 5 6)) 490) (Value.str (Str.ofString "cpy313.difflib") 194) Option.none (Value.ref 195) Value.none 0)) (List.toArray [])))
noncomputable def bo_95 : Params → Obj := (fun P => (Obj.mk (Value.type "function") Option.none (Data.func (FuncData.mk (Str.ofString "_replace") (Str.ofString "Match._replace") (Arguments.mk [(Arg.mk (Str.ofString "self") Option.none (Pos.mk 41 17 41 21))] [] Option.none [] [] (Option.some (Arg.mk (Str.ofString "kwds") Option.none (Pos.mk 41 28 41 32))) []) (FuncBody.stmts (mb 3 6)) (Scope.mk ScopeKind.function [(Prod.mk (Str.ofString "self") NameKind.local), (Prod.mk (Str.ofString "kwds") NameKind.local), (Prod.mk (Str.ofString "result") NameKind.local), (Prod.mk (Str.ofString "__class__") NameKind.free), (Prod.mk (Str.ofString "type") NameKind.globalImplicit), (Prod.mk (Str.ofString "tuple") NameKind.globalImplicit), (Prod.mk (Str.ofString "map") NameKind.globalImplicit), (Prod.mk (Str.ofString "TypeError") NameKind.globalImplicit), (Prod.mk (Str.ofString "list") NameKind.globalImplicit)] Bool.false Bool.false []) 3 [(Prod.mk (Str.ofString "__class__") 68)] Value.none Value.none (Value.str (docS (mb 3 6)) 316) (Value.str (Str.ofString "cpy313.difflib") 194) Option.none (Value.ref 99) (Value.ref 93) 0)) (List.toArray [])))
noncomputable def bo_237 : Params → Obj := (fun P => (Obj.mk (Value.type "tuple") Option.none (Data.seq (List.toArray []) 0) (List.toArray [])))
noncomputable def bo_444 : Params → Obj := (fun P => (Obj.mk Value.none Option.none (Data.fields (List.toArray [])) (List.toArray [])))
noncomputable def bo_301 : Params → Obj := (fun P => (Obj.mk (Value.type "tuple") Option.none (Data.seq (List.toArray [(Value.str (Str.ofString "self") 547)]) 0) (List.toArray [])))
noncomputable def bo_44 : Params → Obj := (fun P => (Obj.mk Value.none Option.none (Data.fields (List.toArray [])) (List.toArray [])))
noncomputable def bo_79 : Params → Obj := (fun P => (Obj.mk Value.none Option.none (Data.fields (List.toArray [])) (List.toArray [])))
noncomputable def bo_221 : Params → Obj := (fun P => (Obj.mk (Value.type "dict") Option.none (Data.dict (List.toArray [(DictEntry.mk (PyData.keyHash P (Str.ofString "__module__")) (Value.str (Str.ofString "__module__") 396) (Value.str (Str.ofString "cpy313.difflib") 194)), (DictEntry.mk (PyData.keyHash P (Str.ofString "__qualname__")) (Value.str (Str.ofString "__qualname__") 398) (Value.str (Str.ofString "SequenceMatcher") 397)), (DictEntry.mk (PyData.keyHash P (Str.ofString "__firstlineno__")) (Value.str (Str.ofString "__firstlineno__") 400) (Value.int (70 : Int) 399)), (DictEntry.mk (PyData.keyHash P (Str.ofString "__doc__")) (Value.str (Str.ofString "__doc__") 402) docVT), (DictEntry.mk (PyData.keyHash P (Str.ofString "__init__")) (Value.str (Str.ofString "__init__") 417) (Value.ref 160)), (DictEntry.mk (PyData.keyHash P (Str.ofString "set_seqs")) (Value.str (Str.ofString "set_seqs") 427) (Value.ref 167)), (DictEntry.mk (PyData.keyHash P (Str.ofString "set_seq1")) (Value.str (Str.ofString "set_seq1") 436) (Value.ref 174)), (DictEntry.mk (PyData.keyHash P (Str.ofString "set_seq2")) (Value.str (Str.ofString "set_seq2") 445) (Value.ref 181)), (DictEntry.mk (PyData.keyHash P (Str.ofString "_SequenceMatcher__chain_b")) (Value.str (Str.ofString "_SequenceMatcher__chain_b") 463) (Value.ref 188)), (DictEntry.mk (PyData.keyHash P (Str.ofString "find_longest_match")) (Value.str (Str.ofString "find_longest_match") 491) (Value.ref 196)), (DictEntry.mk (PyData.keyHash P (Str.ofString "get_matching_blocks")) (Value.str (Str.ofString "get_matching_blocks") 518) (Value.ref 203)), (DictEntry.mk (PyData.keyHash P (Str.ofString "get_opcodes")) (Value.str (Str.ofString "get_opcodes") 525) (Value.ref 210)), (DictEntry.mk (PyData.keyHash P (Str.ofString "get_grouped_opcodes")) (Value.str (Str.ofString "get_grouped_opcodes") 534) (Value.ref 218)), (DictEntry.mk (PyData.keyHash P (Str.ofString "ratio")) (Value.str (Str.ofString "ratio") 543) (Value.ref 225)), (DictEntry.mk (PyData.keyHash P (Str.ofString "quick_ratio")) (Value.str (Str.ofString "quick_ratio") 550) (Value.ref 232)), (DictEntry.mk (PyData.keyHash P (Str.ofString "real_quick_ratio")) (Value.str (Str.ofString "real_quick_ratio") 557) (Value.ref 239)), (DictEntry.mk (PyData.keyHash P (Str.ofString "__static_attributes__")) (Value.str (Str.ofString "__static_attributes__") 568) (Value.ref 240))]) 17) (List.toArray [])))
noncomputable def bo_428 : Params → Obj := (fun P => (Obj.mk (Value.type "function") Option.none (Data.func (FuncData.mk (Str.ofString "b64encode") (Str.ofString "b64encode") (Arguments.mk [] [(Arg.mk (Str.ofString "s") Option.none (Pos.mk 455 14 455 15)), (Arg.mk (Str.ofString "altchars") Option.none (Pos.mk 455 17 455 25))] Option.none [] [] Option.none [(Expr.Constant Const.none 0 (Pos.mk 455 26 455 30))]) (FuncBody.stmts (bd 12)) (Scope.mk ScopeKind.function [(Prod.mk (Str.ofString "s") NameKind.local), (Prod.mk (Str.ofString "altchars") NameKind.local), (Prod.mk (Str.ofString "encoded") NameKind.local), (Prod.mk (Str.ofString "b2a_base64") NameKind.globalImplicit), (Prod.mk (Str.ofString "len") NameKind.globalImplicit), (Prod.mk (Str.ofString "repr") NameKind.globalImplicit), (Prod.mk (Str.ofString "bytes") NameKind.globalImplicit)] Bool.false Bool.false []) 3 [] (Value.ref 269) Value.none (Value.str (docS (bd 12)) 619) (Value.str (Str.ofString "cpy313.base64") 609) Option.none (Value.ref 275) Value.none 0)) (List.toArray [])))
noncomputable def bo_285 : Params → Obj := (fun P => (Obj.mk (Value.type "tuple") Option.none (Data.seq (List.toArray []) 0) (List.toArray [])))
noncomputable def bo_111 : Params → Obj := (fun P => (Obj.mk Value.none Option.none (Data.fields (List.toArray [])) (List.toArray [])))
noncomputable def bo_253 : Params → Obj := (fun P => (Obj.mk (Value.type "code") Option.none (Data.fields (List.toArray [(Value.str (Str.ofString "set_seq2") 437), (Value.str (Str.ofString "SequenceMatcher.set_seq2") 438), (Value.str (Str.ofString "/claim/cut.py") 439), (Value.int (209 : Int) 0), (Value.int (2 : Int) 0), (Value.int (0 : Int) 0), (Value.int (0 : Int) 0), (Value.int (3 : Int) 0), (Value.ref 175), (Value.bool Bool.true), (Value.int (181 : Int) 0), (Value.ref 176), Value.none, (Value.ref 177), (Value.ref 178), (Value.ref 179), (Value.int (442 : Int) 0), (Value.int (209 : Int) 0), (Value.str (Str.ofString "/claim/cut.py") 443)])) (List.toArray [])))
noncomputable def bo_460 : Params → Obj := (fun P => (Obj.mk (Value.type "code") Option.none (Data.fields (List.toArray [(Value.str (Str.ofString "_law_longest") 662), (Value.str (Str.ofString "_law_longest") 663), (Value.str (Str.ofString "/claim/cut.py") 664), (Value.int (519 : Int) 0), (Value.int (3 : Int) 0), (Value.int (0 : Int) 0), (Value.int (0 : Int) 0), (Value.int (3 : Int) 0), (Value.ref 303), (Value.bool Bool.true), (Value.int (181 : Int) 0), (Value.ref 304), Value.none, (Value.ref 305), (Value.ref 306), (Value.ref 307), (Value.int (671 : Int) 0), (Value.int (519 : Int) 0), (Value.str (Str.ofString "/claim/cut.py") 672)])) (List.toArray [])))
noncomputable def bo_317 : Params → Obj := (fun P => (Obj.mk (Value.type "getset_descriptor") Option.none (Data.fields (List.toArray [(Value.str (Str.ofString "__weakref__") 571), (Value.ref 242), (Value.builtin "ExceptionGroup.__weakref__"), Value.none])) (List.toArray [])))
noncomputable def bo_20 : Params → Obj := (fun P => (Obj.mk (Value.type "frame") Option.none Data.plain (List.toArray [(Option.some (Value.ref 27)), (Option.some (Value.ref 3)), (Option.some (Value.ref 24)), Option.none, (Option.some (Value.str (Str.ofString "cpy313.difflib") 194)), Option.none, (Option.some (Value.ref 0))])))
noncomputable def bo_36 : Params → Obj := (fun P => (Obj.mk (Value.type "tuple") Option.none (Data.seq (List.toArray []) 0) (List.toArray [])))
noncomputable def bo_71 : Params → Obj := (fun P => (Obj.mk (Value.type "tuple") Option.none (Data.seq (List.toArray []) 0) (List.toArray [])))
noncomputable def bo_210 : Params → Obj := (fun P => (Obj.mk Value.none Option.none (Data.fields (List.toArray [])) (List.toArray [])))
noncomputable def bo_420 : Params → Obj := (fun P => (Obj.mk (Value.type "function") Option.none (Data.func (FuncData.mk (Str.ofString "b2a_base64") (Str.ofString "b2a_base64") (Arguments.mk [(Arg.mk (Str.ofString "data") Option.none (Pos.mk 432 15 432 19))] [] Option.none [(Arg.mk (Str.ofString "newline") Option.none (Pos.mk 432 27 432 34))] [(Option.some (Expr.Constant (Const.bool Bool.true) 0 (Pos.mk 432 35 432 39)))] Option.none []) (FuncBody.stmts (bd 10)) (Scope.mk ScopeKind.function [(Prod.mk (Str.ofString "data") NameKind.local), (Prod.mk (Str.ofString "newline") NameKind.local), (Prod.mk (Str.ofString "bin_data") NameKind.local), (Prod.mk (Str.ofString "out") NameKind.local), (Prod.mk (Str.ofString "leftbits") NameKind.local), (Prod.mk (Str.ofString "leftchar") NameKind.local), (Prod.mk (Str.ofString "b") NameKind.local), (Prod.mk (Str.ofString "_buffer") NameKind.globalImplicit), (Prod.mk (Str.ofString "_truth") NameKind.globalImplicit), (Prod.mk (Str.ofString "_B64") NameKind.globalImplicit), (Prod.mk (Str.ofString "bytes") NameKind.globalImplicit)] Bool.false Bool.false []) 3 [] Value.none (Value.ref 261) Value.none (Value.str (Str.ofString "binascii") 575) Option.none (Value.ref 267) Value.none 0)) (List.toArray [])))
noncomputable def bo_277 : Params → Obj := (fun P => (Obj.mk (Value.type "tuple") Option.none (Data.seq (List.toArray []) 0) (List.toArray [])))
noncomputable def bo_103 : Params → Obj := (fun P => (Obj.mk (Value.type "tuple") Option.none (Data.seq (List.toArray []) 0) (List.toArray [])))
noncomputable def bo_245 : Params → Obj := (fun P => (Obj.mk Value.none Option.none (Data.func (FuncData.mk (Str.ofString "set_seq1") (Str.ofString "SequenceMatcher.set_seq1") (Arguments.mk [] [(Arg.mk (Str.ofString "self") Option.none (Pos.mk 184 17 184 21)), (Arg.mk (Str.ofString "a") Option.none (Pos.mk 184 23 184 24))] Option.none [] [] Option.none []) (FuncBody.stmts (mb 5 3)) (Scope.mk ScopeKind.function [(Prod.mk (Str.ofString "self") NameKind.local), (Prod.mk (Str.ofString "a") NameKind.local)] Bool.false Bool.false []) 0 [] Value.none Value.none Value.none Value.none Option.none Value.none Value.none 0)) (List.toArray [])))
noncomputable def bo_452 : Params → Obj := (fun P => (Obj.mk Value.none Option.none (Data.func (FuncData.mk (Str.ofString "_law_filled") (Str.ofString "_law_filled") (Arguments.mk [] [(Arg.mk (Str.ofString "signs") Option.none (Pos.mk 517 16 517 21))] Option.none [] [] Option.none []) (FuncBody.stmts (bd 18)) (Scope.mk ScopeKind.function [(Prod.mk (Str.ofString "signs") NameKind.local), (Prod.mk (Str.ofString "len") NameKind.globalImplicit)] Bool.false Bool.false []) 0 [] Value.none Value.none Value.none Value.none Option.none Value.none Value.none 0)) (List.toArray [])))
noncomputable def bo_309 : Params → Obj := (fun P => (Obj.mk (Value.type "tuple") Option.none (Data.seq (List.toArray []) 0) (List.toArray [])))
noncomputable def bo_52 : Params → Obj := (fun P => (Obj.mk (Value.type "type") Option.none (Data.cls (ClassData.mk (Str.ofString "_tuplegetter") [(Value.type "object")] [(Value.ref 60), (Value.type "object")] 59 (Str.ofString "_tuplegetter") Bool.true [] [] Bool.false Option.none Bool.false)) (List.toArray [Option.none, Option.none, (Option.some (Value.str (Str.ofString "_tuplegetter") 196)), (Option.some (Value.str (Str.ofString "_tuplegetter") 204)), (Option.some (Value.builtin "object.__new__")), (Option.some (Value.bool Bool.true))])))
noncomputable def bo_87 : Params → Obj := (fun P => (Obj.mk (Value.type "dict") Option.none (Data.dict (List.toArray []) 0) (List.toArray [])))
noncomputable def bo_229 : Params → Obj := (fun P => (Obj.mk (Value.type "tuple") Option.none (Data.seq (List.toArray [(Value.str (Str.ofString "self") 409), (Value.str (Str.ofString "isjunk") 410), (Value.str (Str.ofString "a") 411), (Value.str (Str.ofString "b") 412), (Value.str (Str.ofString "autojunk") 413)]) 0) (List.toArray [])))
noncomputable def bo_436 : Params → Obj := (fun P => (Obj.mk (Value.type "tuple") Option.none (Data.seq (List.toArray []) 0) (List.toArray [])))
noncomputable def bo_293 : Params → Obj := (fun P => (Obj.mk Value.none Option.none (Data.fields (List.toArray [])) (List.toArray [])))
noncomputable def bo_119 : Params → Obj := (fun P => (Obj.mk (Value.ref 60) (Option.some 123) Data.plain (List.toArray [])))
noncomputable def bo_261 : Params → Obj := (fun P => (Obj.mk (Value.type "function") Option.none (Data.func (FuncData.mk (Str.ofString "__chain_b") (Str.ofString "SequenceMatcher.__chain_b") (Arguments.mk [] [(Arg.mk (Str.ofString "self") Option.none (Pos.mk 236 18 236 22))] Option.none [] [] Option.none []) (FuncBody.stmts (mb 5 5)) (Scope.mk ScopeKind.function [(Prod.mk (Str.ofString "self") NameKind.local), (Prod.mk (Str.ofString "b") NameKind.local), (Prod.mk (Str.ofString "b2j") NameKind.local), (Prod.mk (Str.ofString "i") NameKind.local), (Prod.mk (Str.ofString "elt") NameKind.local), (Prod.mk (Str.ofString "indices") NameKind.local), (Prod.mk (Str.ofString "junk") NameKind.local), (Prod.mk (Str.ofString "isjunk") NameKind.local), (Prod.mk (Str.ofString "popular") NameKind.local), (Prod.mk (Str.ofString "n") NameKind.local), (Prod.mk (Str.ofString "ntest") NameKind.local), (Prod.mk (Str.ofString "idxs") NameKind.local), (Prod.mk (Str.ofString "enumerate") NameKind.globalImplicit), (Prod.mk (Str.ofString "set") NameKind.globalImplicit), (Prod.mk (Str.ofString "len") NameKind.globalImplicit)] Bool.false Bool.false []) 3 [] Value.none Value.none Value.none (Value.str (Str.ofString "cpy313.difflib") 194) Option.none (Value.ref 187) Value.none 0)) (List.toArray [])))
noncomputable def bo_404 : Params → Obj := (fun P => (Obj.mk (Value.type "code") Option.none (Data.fields (List.toArray [(Value.str (Str.ofString "_buffer") 577), (Value.str (Str.ofString "_buffer") 578), (Value.str (Str.ofString "/claim/cut.py") 579), (Value.int (419 : Int) 0), (Value.int (1 : Int) 0), (Value.int (0 : Int) 0), (Value.int (0 : Int) 0), (Value.int (3 : Int) 0), (Value.ref 247), (Value.bool Bool.true), (Value.int (181 : Int) 0), (Value.ref 248), Value.none, (Value.ref 249), (Value.ref 250), (Value.ref 251), (Value.int (582 : Int) 0), (Value.int (419 : Int) 0), (Value.str (Str.ofString "/claim/cut.py") 583)])) (List.toArray [])))
noncomputable def bo_10 : Params → Obj := (fun P => (Obj.mk (Value.type "tuple") Option.none (Data.seq (List.toArray []) 0) (List.toArray [])))
noncomputable def bo_26 : Params → Obj := (fun P => (Obj.mk (Value.type "code") Option.none (Data.fields (List.toArray [(Value.str (Str.ofString "__init__") 208), (Value.str (Str.ofString "_tuplegetter.__init__") 209), (Value.str (Str.ofString "/claim/cut.py") 210), (Value.int (7 : Int) 0), (Value.int (3 : Int) 0), (Value.int (0 : Int) 0), (Value.int (0 : Int) 0), (Value.int (3 : Int) 0), (Value.ref 29), (Value.bool Bool.true), (Value.int (181 : Int) 0), (Value.ref 30), Value.none, (Value.ref 31), (Value.ref 32), (Value.ref 33), (Value.int (214 : Int) 0), (Value.int (7 : Int) 0), (Value.str (Str.ofString "/claim/cut.py") 215)])) (List.toArray [])))
noncomputable def bo_61 : Params → Obj := (fun P => (Obj.mk (Value.type "builtin_function_or_method") Option.none (Data.fields (List.toArray [(Value.builtin "type.__prepare__"), (Value.type "type")])) (List.toArray [])))
noncomputable def bo_125 : Params → Obj := (fun P => (Obj.mk (Value.ref 60) (Option.some 129) Data.plain (List.toArray [])))
noncomputable def bo_410 : Params → Obj := (fun P => (Obj.mk Value.none Option.none (Data.func (FuncData.mk (Str.ofString "_truth") (Str.ofString "_truth") (Arguments.mk [] [(Arg.mk (Str.ofString "x") Option.none (Pos.mk 426 11 426 12))] Option.none [] [] Option.none []) (FuncBody.stmts (bd 8)) (Scope.mk ScopeKind.function [(Prod.mk (Str.ofString "x") NameKind.local), (Prod.mk (Str.ofString "t") NameKind.local), (Prod.mk (Str.ofString "type") NameKind.globalImplicit), (Prod.mk (Str.ofString "bool") NameKind.globalImplicit), (Prod.mk (Str.ofString "int") NameKind.globalImplicit), (Prod.mk (Str.ofString "float") NameKind.globalImplicit), (Prod.mk (Str.ofString "complex") NameKind.globalImplicit), (Prod.mk (Str.ofString "str") NameKind.globalImplicit), (Prod.mk (Str.ofString "bytes") NameKind.globalImplicit), (Prod.mk (Str.ofString "bytearray") NameKind.globalImplicit), (Prod.mk (Str.ofString "list") NameKind.globalImplicit), (Prod.mk (Str.ofString "tuple") NameKind.globalImplicit), (Prod.mk (Str.ofString "dict") NameKind.globalImplicit), (Prod.mk (Str.ofString "set") NameKind.globalImplicit), (Prod.mk (Str.ofString "frozenset") NameKind.globalImplicit), (Prod.mk (Str.ofString "range") NameKind.globalImplicit), (Prod.mk (Str.ofString "_wall") NameKind.globalImplicit)] Bool.false Bool.false []) 0 [] Value.none Value.none Value.none Value.none Option.none Value.none Value.none 0)) (List.toArray [])))
noncomputable def bo_267 : Params → Obj := (fun P => (Obj.mk Value.none Option.none (Data.func (FuncData.mk (Str.ofString "find_longest_match") (Str.ofString "SequenceMatcher.find_longest_match") (Arguments.mk [] [(Arg.mk (Str.ofString "self") Option.none (Pos.mk 260 27 260 31)), (Arg.mk (Str.ofString "alo") Option.none (Pos.mk 260 33 260 36)), (Arg.mk (Str.ofString "ahi") Option.none (Pos.mk 260 40 260 43)), (Arg.mk (Str.ofString "blo") Option.none (Pos.mk 260 50 260 53)), (Arg.mk (Str.ofString "bhi") Option.none (Pos.mk 260 57 260 60))] Option.none [] [] Option.none [(Expr.Constant (Const.int (0 : Int)) 0 (Pos.mk 260 37 260 38)), (Expr.Constant Const.none 0 (Pos.mk 260 44 260 48)), (Expr.Constant (Const.int (0 : Int)) 0 (Pos.mk 260 54 260 55)), (Expr.Constant Const.none 0 (Pos.mk 260 61 260 65))]) (FuncBody.stmts (mb 5 6)) (Scope.mk ScopeKind.function [(Prod.mk (Str.ofString "self") NameKind.local), (Prod.mk (Str.ofString "alo") NameKind.local), (Prod.mk (Str.ofString "ahi") NameKind.local), (Prod.mk (Str.ofString "blo") NameKind.local), (Prod.mk (Str.ofString "bhi") NameKind.local), (Prod.mk (Str.ofString "a") NameKind.local), (Prod.mk (Str.ofString "b") NameKind.local), (Prod.mk (Str.ofString "b2j") NameKind.local), (Prod.mk (Str.ofString "isbjunk") NameKind.local), (Prod.mk (Str.ofString "besti") NameKind.local), (Prod.mk (Str.ofString "bestj") NameKind.local), (Prod.mk (Str.ofString "bestsize") NameKind.local), (Prod.mk (Str.ofString "j2len") NameKind.local), (Prod.mk (Str.ofString "nothing") NameKind.local), (Prod.mk (Str.ofString "i") NameKind.local), (Prod.mk (Str.ofString "j2lenget") NameKind.local), (Prod.mk (Str.ofString "newj2len") NameKind.local), (Prod.mk (Str.ofString "j") NameKind.local), (Prod.mk (Str.ofString "k") NameKind.local), (Prod.mk (Str.ofString "len") NameKind.globalImplicit), (Prod.mk (Str.ofString "range") NameKind.globalImplicit), (Prod.mk (Str.ofString "Match") NameKind.globalImplicit)] Bool.false Bool.false []) 0 [] Value.none Value.none Value.none Value.none Option.none Value.none Value.none 0)) (List.toArray [])))
noncomputable def bo_93 : Params → Obj := (fun P => (Obj.mk Value.none Option.none (Data.func (FuncData.mk (Str.ofString "_replace") (Str.ofString "Match._replace") (Arguments.mk [(Arg.mk (Str.ofString "self") Option.none (Pos.mk 41 17 41 21))] [] Option.none [] [] (Option.some (Arg.mk (Str.ofString "kwds") Option.none (Pos.mk 41 28 41 32))) []) (FuncBody.stmts (mb 3 6)) (Scope.mk ScopeKind.function [(Prod.mk (Str.ofString "self") NameKind.local), (Prod.mk (Str.ofString "kwds") NameKind.local), (Prod.mk (Str.ofString "result") NameKind.local), (Prod.mk (Str.ofString "__class__") NameKind.free), (Prod.mk (Str.ofString "type") NameKind.globalImplicit), (Prod.mk (Str.ofString "tuple") NameKind.globalImplicit), (Prod.mk (Str.ofString "map") NameKind.globalImplicit), (Prod.mk (Str.ofString "TypeError") NameKind.globalImplicit), (Prod.mk (Str.ofString "list") NameKind.globalImplicit)] Bool.false Bool.false []) 0 [] Value.none Value.none Value.none Value.none Option.none Value.none Value.none 0)) (List.toArray [])))
noncomputable def bo_235 : Params → Obj := (fun P => (Obj.mk Value.none Option.none (Data.fields (List.toArray [])) (List.toArray [])))
noncomputable def bo_442 : Params → Obj := (fun P => (Obj.mk (Value.type "function") Option.none (Data.func (FuncData.mk (Str.ofString "_law_ring") (Str.ofString "_law_ring") (Arguments.mk [] [] Option.none [] [] Option.none []) (FuncBody.stmts (bd 16)) (Scope.mk ScopeKind.function [(Prod.mk (Str.ofString "ring") NameKind.local), (Prod.mk (Str.ofString "low") NameKind.local), (Prod.mk (Str.ofString "high") NameKind.local), (Prod.mk (Str.ofString "range") NameKind.globalImplicit)] Bool.false Bool.false []) 3 [] Value.none Value.none Value.none (Value.str (Str.ofString "law_rt0114_01") 638) Option.none (Value.ref 289) Value.none 0)) (List.toArray [])))
noncomputable def bo_299 : Params → Obj := (fun P => (Obj.mk (Value.type "tuple") Option.none (Data.seq (List.toArray []) 0) (List.toArray [])))
noncomputable def bo_42 : Params → Obj := (fun P => (Obj.mk (Value.type "function") Option.none (Data.func (FuncData.mk (Str.ofString "__set__") (Str.ofString "_tuplegetter.__set__") (Arguments.mk [] [(Arg.mk (Str.ofString "self") Option.none (Pos.mk 18 16 18 20)), (Arg.mk (Str.ofString "obj") Option.none (Pos.mk 18 22 18 25)), (Arg.mk (Str.ofString "value") Option.none (Pos.mk 18 27 18 32))] Option.none [] [] Option.none []) (FuncBody.stmts (mb 2 2)) (Scope.mk ScopeKind.function [(Prod.mk (Str.ofString "self") NameKind.local), (Prod.mk (Str.ofString "obj") NameKind.local), (Prod.mk (Str.ofString "value") NameKind.local), (Prod.mk (Str.ofString "AttributeError") NameKind.globalImplicit)] Bool.false Bool.false []) 3 [] Value.none Value.none Value.none (Value.str (Str.ofString "cpy313.difflib") 194) Option.none (Value.ref 49) Value.none 0)) (List.toArray [])))
noncomputable def bo_77 : Params → Obj := (fun P => (Obj.mk (Value.type "function") Option.none (Data.func (FuncData.mk (Str.ofString "__new__") (Str.ofString "Match.__new__") (Arguments.mk [] [(Arg.mk (Str.ofString "_cls") Option.none (Pos.mk 29 16 29 20)), (Arg.mk (Str.ofString "a") Option.none (Pos.mk 29 22 29 23)), (Arg.mk (Str.ofString "b") Option.none (Pos.mk 29 25 29 26)), (Arg.mk (Str.ofString "size") Option.none (Pos.mk 29 28 29 32))] Option.none [] [] Option.none []) (FuncBody.stmts (mb 3 4)) (Scope.mk ScopeKind.function [(Prod.mk (Str.ofString "_cls") NameKind.local), (Prod.mk (Str.ofString "a") NameKind.local), (Prod.mk (Str.ofString "b") NameKind.local), (Prod.mk (Str.ofString "size") NameKind.local), (Prod.mk (Str.ofString "tuple") NameKind.globalImplicit)] Bool.false Bool.false []) 3 [] Value.none Value.none (Value.str (docS (mb 3 4)) 283) (Value.str (Str.ofString "cpy313.difflib") 194) Option.none (Value.ref 81) Value.none 0)) (List.toArray [])))
noncomputable def bo_219 : Params → Obj := (fun P => (Obj.mk (Value.type "tuple") Option.none (Data.seq (List.toArray []) 0) (List.toArray [])))
noncomputable def bo_426 : Params → Obj := (fun P => (Obj.mk Value.none Option.none (Data.func (FuncData.mk (Str.ofString "b64encode") (Str.ofString "b64encode") (Arguments.mk [] [(Arg.mk (Str.ofString "s") Option.none (Pos.mk 455 14 455 15)), (Arg.mk (Str.ofString "altchars") Option.none (Pos.mk 455 17 455 25))] Option.none [] [] Option.none [(Expr.Constant Const.none 0 (Pos.mk 455 26 455 30))]) (FuncBody.stmts (bd 12)) (Scope.mk ScopeKind.function [(Prod.mk (Str.ofString "s") NameKind.local), (Prod.mk (Str.ofString "altchars") NameKind.local), (Prod.mk (Str.ofString "encoded") NameKind.local), (Prod.mk (Str.ofString "b2a_base64") NameKind.globalImplicit), (Prod.mk (Str.ofString "len") NameKind.globalImplicit), (Prod.mk (Str.ofString "repr") NameKind.globalImplicit), (Prod.mk (Str.ofString "bytes") NameKind.globalImplicit)] Bool.false Bool.false []) 0 [] Value.none Value.none Value.none Value.none Option.none Value.none Value.none 0)) (List.toArray [])))
noncomputable def bo_283 : Params → Obj := (fun P => (Obj.mk (Value.type "function") Option.none (Data.func (FuncData.mk (Str.ofString "get_opcodes") (Str.ofString "SequenceMatcher.get_opcodes") (Arguments.mk [] [(Arg.mk (Str.ofString "self") Option.none (Pos.mk 383 20 383 24))] Option.none [] [] Option.none []) (FuncBody.stmts (mb 5 8)) (Scope.mk ScopeKind.function [(Prod.mk (Str.ofString "self") NameKind.local), (Prod.mk (Str.ofString "_wall") NameKind.globalImplicit)] Bool.false Bool.false []) 3 [] Value.none Value.none Value.none (Value.str (Str.ofString "cpy313.difflib") 194) Option.none (Value.ref 209) Value.none 0)) (List.toArray [])))
noncomputable def bo_109 : Params → Obj := (fun P => (Obj.mk (Value.type "function") Option.none (Data.func (FuncData.mk (Str.ofString "_asdict") (Str.ofString "Match._asdict") (Arguments.mk [] [(Arg.mk (Str.ofString "self") Option.none (Pos.mk 56 16 56 20))] Option.none [] [] Option.none []) (FuncBody.stmts (mb 3 9)) (Scope.mk ScopeKind.function [(Prod.mk (Str.ofString "self") NameKind.local), (Prod.mk (Str.ofString "_wall") NameKind.globalImplicit)] Bool.false Bool.false []) 3 [] Value.none Value.none Value.none (Value.str (Str.ofString "cpy313.difflib") 194) Option.none (Value.ref 113) Value.none 0)) (List.toArray [])))
noncomputable def bo_251 : Params → Obj := (fun P => (Obj.mk (Value.type "tuple") Option.none (Data.seq (List.toArray []) 0) (List.toArray [])))
noncomputable def bo_458 : Params → Obj := (fun P => (Obj.mk (Value.type "tuple") Option.none (Data.seq (List.toArray []) 0) (List.toArray [])))
noncomputable def bo_315 : Params → Obj := (fun P => (Obj.mk (Value.type "type") Option.none (Data.cls (ClassData.mk (Str.ofString "SequenceMatcher") [(Value.type "object")] [(Value.ref 242), (Value.type "object")] 241 (Str.ofString "SequenceMatcher") Bool.true [] [] Bool.false Option.none Bool.false)) (List.toArray [Option.none, Option.none, (Option.some (Value.str (Str.ofString "SequenceMatcher") 389)), (Option.some (Value.str (Str.ofString "SequenceMatcher") 397)), (Option.some (Value.builtin "object.__new__")), (Option.some (Value.bool Bool.true))])))
noncomputable def bo_18 : Params → Obj := (fun P => (Obj.mk Value.none Option.none (Data.fields (List.toArray [(Value.int (7 : Int) 0), (Value.int (4 : Int) 0), (Value.ref 34), (Value.int (11 : Int) 0), (Value.int (4 : Int) 0), (Value.ref 42), (Value.int (18 : Int) 0), (Value.int (4 : Int) 0), (Value.ref 49), (Value.int (21 : Int) 0), (Value.int (4 : Int) 0), (Value.ref 56)])) (List.toArray [])))
noncomputable def bo_34 : Params → Obj := (fun P => (Obj.mk (Value.type "code") Option.none (Data.fields (List.toArray [(Value.str (Str.ofString "__get__") 217), (Value.str (Str.ofString "_tuplegetter.__get__") 218), (Value.str (Str.ofString "/claim/cut.py") 219), (Value.int (11 : Int) 0), (Value.int (3 : Int) 0), (Value.int (0 : Int) 0), (Value.int (0 : Int) 0), (Value.int (3 : Int) 0), (Value.ref 37), (Value.bool Bool.true), (Value.int (181 : Int) 0), (Value.ref 38), Value.none, (Value.ref 39), (Value.ref 40), (Value.ref 41), (Value.int (223 : Int) 0), (Value.int (11 : Int) 0), (Value.str (Str.ofString "/claim/cut.py") 224)])) (List.toArray [])))
noncomputable def bo_69 : Params → Obj := (fun P => (Obj.mk (Value.type "tuple") Option.none (Data.seq (List.toArray [(Value.str (Str.ofString "a") 269), (Value.str (Str.ofString "b") 270), (Value.str (Str.ofString "size") 271)]) 0) (List.toArray [])))
noncomputable def bo_133 : Params → Obj := (fun P => (Obj.mk (Value.type "builtin_function_or_method") Option.none (Data.fields (List.toArray [(Value.builtin "object.__init_subclass__"), (Value.ref 135)])) (List.toArray [])))
noncomputable def bo_418 : Params → Obj := (fun P => (Obj.mk Value.none Option.none (Data.func (FuncData.mk (Str.ofString "b2a_base64") (Str.ofString "b2a_base64") (Arguments.mk [(Arg.mk (Str.ofString "data") Option.none (Pos.mk 432 15 432 19))] [] Option.none [(Arg.mk (Str.ofString "newline") Option.none (Pos.mk 432 27 432 34))] [(Option.some (Expr.Constant (Const.bool Bool.true) 0 (Pos.mk 432 35 432 39)))] Option.none []) (FuncBody.stmts (bd 10)) (Scope.mk ScopeKind.function [(Prod.mk (Str.ofString "data") NameKind.local), (Prod.mk (Str.ofString "newline") NameKind.local), (Prod.mk (Str.ofString "bin_data") NameKind.local), (Prod.mk (Str.ofString "out") NameKind.local), (Prod.mk (Str.ofString "leftbits") NameKind.local), (Prod.mk (Str.ofString "leftchar") NameKind.local), (Prod.mk (Str.ofString "b") NameKind.local), (Prod.mk (Str.ofString "_buffer") NameKind.globalImplicit), (Prod.mk (Str.ofString "_truth") NameKind.globalImplicit), (Prod.mk (Str.ofString "_B64") NameKind.globalImplicit), (Prod.mk (Str.ofString "bytes") NameKind.globalImplicit)] Bool.false Bool.false []) 0 [] Value.none Value.none Value.none Value.none Option.none Value.none Value.none 0)) (List.toArray [])))
noncomputable def bo_275 : Params → Obj := (fun P => (Obj.mk (Value.type "code") Option.none (Data.fields (List.toArray [(Value.str (Str.ofString "get_matching_blocks") 492), (Value.str (Str.ofString "SequenceMatcher.get_matching_blocks") 493), (Value.str (Str.ofString "/claim/cut.py") 494), (Value.int (335 : Int) 0), (Value.int (1 : Int) 0), (Value.int (0 : Int) 0), (Value.int (0 : Int) 0), (Value.int (3 : Int) 0), (Value.ref 197), (Value.bool Bool.true), (Value.int (181 : Int) 0), (Value.ref 198), Value.none, (Value.ref 199), (Value.ref 200), (Value.ref 201), (Value.int (515 : Int) 0), (Value.int (335 : Int) 0), (Value.str (Str.ofString "/claim/cut.py") 516)])) (List.toArray [])))
noncomputable def bo_101 : Params → Obj := (fun P => (Obj.mk (Value.type "code") Option.none (Data.fields (List.toArray [(Value.str (Str.ofString "__repr__") 319), (Value.str (Str.ofString "Match.__repr__") 320), (Value.str (Str.ofString "/claim/cut.py") 321), (Value.int (52 : Int) 0), (Value.int (1 : Int) 0), (Value.int (0 : Int) 0), (Value.int (0 : Int) 0), (Value.int (3 : Int) 0), (Value.ref 101), (Value.bool Bool.true), (Value.int (181 : Int) 0), (Value.ref 102), Value.none, (Value.ref 103), (Value.ref 104), (Value.ref 105), (Value.int (323 : Int) 0), (Value.int (52 : Int) 0), (Value.str (Str.ofString "/claim/cut.py") 324)])) (List.toArray [])))
noncomputable def bo_243 : Params → Obj := (fun P => (Obj.mk (Value.type "tuple") Option.none (Data.seq (List.toArray [(Value.str (Str.ofString "self") 431), (Value.str (Str.ofString "a") 432)]) 0) (List.toArray [])))
noncomputable def bo_450 : Params → Obj := (fun P => (Obj.mk (Value.type "tuple") Option.none (Data.seq (List.toArray [(Value.str (Str.ofString "signs") 658)]) 0) (List.toArray [])))
noncomputable def bo_307 : Params → Obj := (fun P => (Obj.mk Value.none Option.none (Data.fields (List.toArray [])) (List.toArray [])))
noncomputable def bo_50 : Params → Obj := (fun P => (Obj.mk (Value.type "tuple") Option.none (Data.seq (List.toArray [(Value.str (Str.ofString "__doc__") 243), (Value.str (Str.ofString "index") 244)]) 0) (List.toArray [])))
noncomputable def bo_85 : Params → Obj := (fun P => (Obj.mk (Value.type "dict") Option.none (Data.dict (List.toArray [(DictEntry.mk (PyData.keyHash P (Str.ofString "__module__")) (Value.str (Str.ofString "__module__") 295) (Value.str (Str.ofString "cpy313.difflib") 194)), (DictEntry.mk (PyData.keyHash P (Str.ofString "__name__")) (Value.str (Str.ofString "__name__") 298) (Value.str (Str.ofString "_make") 297)), (DictEntry.mk (PyData.keyHash P (Str.ofString "__qualname__")) (Value.str (Str.ofString "__qualname__") 301) (Value.str (Str.ofString "Match._make") 300)), (DictEntry.mk (PyData.keyHash P (Str.ofString "__doc__")) (Value.str (Str.ofString "__doc__") 303) (Value.str (Str.ofString "Make a new Match object from a sequence or iterable") 293)), (DictEntry.mk (PyData.keyHash P (Str.ofString "__annotations__")) (Value.str (Str.ofString "__annotations__") 305) (Value.ref 92))]) 5) (List.toArray [])))
noncomputable def bo_227 : Params → Obj := (fun P => (Obj.mk (Value.type "tuple") Option.none (Data.seq (List.toArray []) 0) (List.toArray [])))
noncomputable def bo_434 : Params → Obj := (fun P => (Obj.mk (Value.type "code") Option.none (Data.fields (List.toArray [(Value.str (Str.ofString "sorted_list_difference") 623), (Value.str (Str.ofString "sorted_list_difference") 624), (Value.str (Str.ofString "/claim/cut.py") 625), (Value.int (468 : Int) 0), (Value.int (2 : Int) 0), (Value.int (0 : Int) 0), (Value.int (0 : Int) 0), (Value.int (3 : Int) 0), (Value.ref 277), (Value.bool Bool.true), (Value.int (181 : Int) 0), (Value.ref 278), Value.none, (Value.ref 279), (Value.ref 280), (Value.ref 281), (Value.int (634 : Int) 0), (Value.int (468 : Int) 0), (Value.str (Str.ofString "/claim/cut.py") 635)])) (List.toArray [])))
noncomputable def bo_291 : Params → Obj := (fun P => (Obj.mk (Value.type "function") Option.none (Data.func (FuncData.mk (Str.ofString "get_grouped_opcodes") (Str.ofString "SequenceMatcher.get_grouped_opcodes") (Arguments.mk [] [(Arg.mk (Str.ofString "self") Option.none (Pos.mk 386 28 386 32)), (Arg.mk (Str.ofString "n") Option.none (Pos.mk 386 34 386 35))] Option.none [] [] Option.none [(Expr.Constant (Const.int (3 : Int)) 0 (Pos.mk 386 36 386 37))]) (FuncBody.stmts (mb 5 9)) (Scope.mk ScopeKind.function [(Prod.mk (Str.ofString "self") NameKind.local), (Prod.mk (Str.ofString "n") NameKind.local), (Prod.mk (Str.ofString "_wall") NameKind.globalImplicit)] Bool.false Bool.false []) 3 [] (Value.ref 211) Value.none Value.none (Value.str (Str.ofString "cpy313.difflib") 194) Option.none (Value.ref 217) Value.none 0)) (List.toArray [])))
noncomputable def bo_117 : Params → Obj := (fun P => (Obj.mk (Value.type "tuple") Option.none (Data.seq (List.toArray [(Value.str (Str.ofString "a") 342), (Value.str (Str.ofString "b") 343), (Value.str (Str.ofString "size") 344)]) 0) (List.toArray [])))
noncomputable def bo_259 : Params → Obj := (fun P => (Obj.mk Value.none Option.none (Data.func (FuncData.mk (Str.ofString "__chain_b") (Str.ofString "SequenceMatcher.__chain_b") (Arguments.mk [] [(Arg.mk (Str.ofString "self") Option.none (Pos.mk 236 18 236 22))] Option.none [] [] Option.none []) (FuncBody.stmts (mb 5 5)) (Scope.mk ScopeKind.function [(Prod.mk (Str.ofString "self") NameKind.local), (Prod.mk (Str.ofString "b") NameKind.local), (Prod.mk (Str.ofString "b2j") NameKind.local), (Prod.mk (Str.ofString "i") NameKind.local), (Prod.mk (Str.ofString "elt") NameKind.local), (Prod.mk (Str.ofString "indices") NameKind.local), (Prod.mk (Str.ofString "junk") NameKind.local), (Prod.mk (Str.ofString "isjunk") NameKind.local), (Prod.mk (Str.ofString "popular") NameKind.local), (Prod.mk (Str.ofString "n") NameKind.local), (Prod.mk (Str.ofString "ntest") NameKind.local), (Prod.mk (Str.ofString "idxs") NameKind.local), (Prod.mk (Str.ofString "enumerate") NameKind.globalImplicit), (Prod.mk (Str.ofString "set") NameKind.globalImplicit), (Prod.mk (Str.ofString "len") NameKind.globalImplicit)] Bool.false Bool.false []) 0 [] Value.none Value.none Value.none Value.none Option.none Value.none Value.none 0)) (List.toArray [])))
noncomputable def bo_466 : Params → Obj := (fun P => (Obj.mk (Value.type "function") Option.none (Data.func (FuncData.mk (Str.ofString "law") (Str.ofString "law") (Arguments.mk [] [(Arg.mk (Str.ofString "script") Option.none (Pos.mk 528 8 528 14))] Option.none [] [] Option.none []) (FuncBody.stmts (bd 20)) (Scope.mk ScopeKind.function [(Prod.mk (Str.ofString "script") NameKind.local), (Prod.mk (Str.ofString "row") NameKind.local), (Prod.mk (Str.ofString "number") NameKind.local), (Prod.mk (Str.ofString "octet") NameKind.local), (Prod.mk (Str.ofString "moved") NameKind.local), (Prod.mk (Str.ofString "count") NameKind.local), (Prod.mk (Str.ofString "width") NameKind.local), (Prod.mk (Str.ofString "figures") NameKind.local), (Prod.mk (Str.ofString "ring") NameKind.cell), (Prod.mk (Str.ofString "pairs") NameKind.local), (Prod.mk (Str.ofString "spots") NameKind.local), (Prod.mk (Str.ofString "alphabet") NameKind.cell), (Prod.mk (Str.ofString "laid") NameKind.cell), (Prod.mk (Str.ofString "matcher") NameKind.local), (Prod.mk (Str.ofString "places") NameKind.local), (Prod.mk (Str.ofString "start") NameKind.local), (Prod.mk (Str.ofString "found") NameKind.local), (Prod.mk (Str.ofString "signs") NameKind.local), (Prod.mk (Str.ofString "written") NameKind.cell), (Prod.mk (Str.ofString "plain") NameKind.cell), (Prod.mk (Str.ofString "cut") NameKind.local), (Prod.mk (Str.ofString "low") NameKind.local), (Prod.mk (Str.ofString "end") NameKind.local), (Prod.mk (Str.ofString "absent") NameKind.local), (Prod.mk (Str.ofString "bytes") NameKind.globalImplicit), (Prod.mk (Str.ofString "_law_figures") NameKind.globalImplicit), (Prod.mk (Str.ofString "len") NameKind.globalImplicit), (Prod.mk (Str.ofString "_law_ring") NameKind.globalImplicit), (Prod.mk (Str.ofString "range") NameKind.globalImplicit), (Prod.mk (Str.ofString "dict") NameKind.globalImplicit), (Prod.mk (Str.ofString "zip") NameKind.globalImplicit), (Prod.mk (Str.ofString "SequenceMatcher") NameKind.globalImplicit), (Prod.mk (Str.ofString "tuple") NameKind.globalImplicit), (Prod.mk (Str.ofString "b64encode") NameKind.globalImplicit), (Prod.mk (Str.ofString "_law_filled") NameKind.globalImplicit), (Prod.mk (Str.ofString "sum") NameKind.globalImplicit), (Prod.mk (Str.ofString "_law_longest") NameKind.globalImplicit), (Prod.mk (Str.ofString "sorted_list_difference") NameKind.globalImplicit), (Prod.mk (Str.ofString "list") NameKind.globalImplicit), (Prod.mk (Str.ofString "sorted") NameKind.globalImplicit)] Bool.false Bool.false [(Prod.mk (Str.ofString "fast") (Const.str (Str.ofString "script"))), (Prod.mk (Str.ofString "fast") (Const.str (Str.ofString "x"))), (Prod.mk (Str.ofString "fast") (Const.str (Str.ofString "row"))), (Prod.mk (Str.ofString "fast") (Const.str (Str.ofString "number"))), (Prod.mk (Str.ofString "fast") (Const.str (Str.ofString "octet"))), (Prod.mk (Str.ofString "fast") (Const.str (Str.ofString "moved"))), (Prod.mk (Str.ofString "fast") (Const.str (Str.ofString "count"))), (Prod.mk (Str.ofString "fast") (Const.str (Str.ofString "width"))), (Prod.mk (Str.ofString "fast") (Const.str (Str.ofString "figures"))), (Prod.mk (Str.ofString "fast") (Const.str (Str.ofString "ring"))), (Prod.mk (Str.ofString "fast") (Const.str (Str.ofString "k"))), (Prod.mk (Str.ofString "fast") (Const.str (Str.ofString "pairs"))), (Prod.mk (Str.ofString "fast") (Const.str (Str.ofString "spots"))), (Prod.mk (Str.ofString "fast") (Const.str (Str.ofString "alphabet"))), (Prod.mk (Str.ofString "fast") (Const.str (Str.ofString "pair"))), (Prod.mk (Str.ofString "fast") (Const.str (Str.ofString "laid"))), (Prod.mk (Str.ofString "fast") (Const.str (Str.ofString "matcher"))), (Prod.mk (Str.ofString "fast") (Const.str (Str.ofString "places"))), (Prod.mk (Str.ofString "fast") (Const.str (Str.ofString "start"))), (Prod.mk (Str.ofString "fast") (Const.str (Str.ofString "found"))), (Prod.mk (Str.ofString "fast") (Const.str (Str.ofString "place"))), (Prod.mk (Str.ofString "fast") (Const.str (Str.ofString "signs"))), (Prod.mk (Str.ofString "fast") (Const.str (Str.ofString "written"))), (Prod.mk (Str.ofString "fast") (Const.str (Str.ofString "plain"))), (Prod.mk (Str.ofString "fast") (Const.str (Str.ofString "cut"))), (Prod.mk (Str.ofString "fast") (Const.str (Str.ofString "low"))), (Prod.mk (Str.ofString "fast") (Const.str (Str.ofString "end"))), (Prod.mk (Str.ofString "fast") (Const.str (Str.ofString "absent")))]) 3 [] Value.none Value.none Value.none (Value.str (Str.ofString "law_rt0114_01") 638) Option.none (Value.ref 313) Value.none 0)) (List.toArray [])))
noncomputable def bo_402 : Params → Obj := (fun P => (Obj.mk (Value.type "tuple") Option.none (Data.seq (List.toArray []) 0) (List.toArray [])))
noncomputable def bo_4 : Params → Obj := (fun P => (Obj.mk (Value.type "frame") Option.none Data.plain (List.toArray [(Option.some (Value.ref 13)), (Option.some (Value.ref 3)), (Option.some (Value.ref 3)), Option.none, (Option.some (Value.str (Str.ofString "__main__") 164)), Option.none, (Option.some (Value.ref 0))])))
noncomputable def bo_14 : Params → Obj := (fun P => (Obj.mk (Value.type "tuple") Option.none (Data.seq (List.toArray []) 0) (List.toArray [])))
noncomputable def bo_30 : Params → Obj := (fun P => (Obj.mk Value.none Option.none (Data.fields (List.toArray [])) (List.toArray [])))
noncomputable def bo_65 : Params → Obj := (fun P => (Obj.mk Value.none Option.none (Data.fields (List.toArray [(Value.int (29 : Int) 0), (Value.int (4 : Int) 0), (Value.ref 81), (Value.int (34 : Int) 0), (Value.int (4 : Int) 0), (Value.ref 88), (Value.int (41 : Int) 0), (Value.int (4 : Int) 0), (Value.ref 99), (Value.int (52 : Int) 0), (Value.int (4 : Int) 0), (Value.ref 106), (Value.int (56 : Int) 0), (Value.int (4 : Int) 0), (Value.ref 113), (Value.int (59 : Int) 0), (Value.int (4 : Int) 0), (Value.ref 120)])) (List.toArray [])))
noncomputable def bo_129 : Params → Obj := (fun P => (Obj.mk (Value.type "dict") Option.none (Data.dict (List.toArray [(DictEntry.mk (PyData.keyHash P (Str.ofString "__module__")) (Value.str (Str.ofString "__module__") 260) (Value.str (Str.ofString "cpy313.difflib") 194)), (DictEntry.mk (PyData.keyHash P (Str.ofString "__firstlineno__")) (Value.str (Str.ofString "__firstlineno__") 264) (Value.int (23 : Int) 263)), (DictEntry.mk (PyData.keyHash P (Str.ofString "__doc__")) (Value.str (Str.ofString "__doc__") 266) (Value.str (Str.ofString "Match(a, b, size)") 265)), (DictEntry.mk (PyData.keyHash P (Str.ofString "__slots__")) (Value.str (Str.ofString "__slots__") 268) (Value.ref 73)), (DictEntry.mk (PyData.keyHash P (Str.ofString "_fields")) (Value.str (Str.ofString "_fields") 272) (Value.ref 74)), (DictEntry.mk (PyData.keyHash P (Str.ofString "_field_defaults")) (Value.str (Str.ofString "_field_defaults") 273) (Value.ref 75)), (DictEntry.mk (PyData.keyHash P (Str.ofString "__new__")) (Value.str (Str.ofString "__new__") 284) (Value.ref 136)), (DictEntry.mk (PyData.keyHash P (Str.ofString "_make")) (Value.str (Str.ofString "_make") 306) (Value.ref 91)), (DictEntry.mk (PyData.keyHash P (Str.ofString "_replace")) (Value.str (Str.ofString "_replace") 317) (Value.ref 100)), (DictEntry.mk (PyData.keyHash P (Str.ofString "__replace__")) (Value.str (Str.ofString "__replace__") 318) (Value.ref 100)), (DictEntry.mk (PyData.keyHash P (Str.ofString "__repr__")) (Value.str (Str.ofString "__repr__") 326) (Value.ref 107)), (DictEntry.mk (PyData.keyHash P (Str.ofString "_asdict")) (Value.str (Str.ofString "_asdict") 333) (Value.ref 114)), (DictEntry.mk (PyData.keyHash P (Str.ofString "__getnewargs__")) (Value.str (Str.ofString "__getnewargs__") 341) (Value.ref 121)), (DictEntry.mk (PyData.keyHash P (Str.ofString "__match_args__")) (Value.str (Str.ofString "__match_args__") 345) (Value.ref 122)), (DictEntry.mk (PyData.keyHash P (Str.ofString "a")) (Value.str (Str.ofString "a") 355) (Value.ref 124)), (DictEntry.mk (PyData.keyHash P (Str.ofString "b")) (Value.str (Str.ofString "b") 365) (Value.ref 127)), (DictEntry.mk (PyData.keyHash P (Str.ofString "size")) (Value.str (Str.ofString "size") 375) (Value.ref 130)), (DictEntry.mk (PyData.keyHash P (Str.ofString "__static_attributes__")) (Value.str (Str.ofString "__static_attributes__") 376) (Value.ref 132))]) 2) (List.toArray [])))
noncomputable def bo_414 : Params → Obj := (fun P => (Obj.mk (Value.type "tuple") Option.none (Data.seq (List.toArray []) 0) (List.toArray [])))
noncomputable def bo_271 : Params → Obj := (fun P => (Obj.mk Value.none Option.none (Data.fields (List.toArray [])) (List.toArray [])))
noncomputable def bo_97 : Params → Obj := (fun P => (Obj.mk Value.none Option.none (Data.fields (List.toArray [])) (List.toArray [])))
noncomputable def bo_239 : Params → Obj := (fun P => (Obj.mk (Value.type "code") Option.none (Data.fields (List.toArray [(Value.str (Str.ofString "set_seqs") 418), (Value.str (Str.ofString "SequenceMatcher.set_seqs") 419), (Value.str (Str.ofString "/claim/cut.py") 420), (Value.int (173 : Int) 0), (Value.int (3 : Int) 0), (Value.int (0 : Int) 0), (Value.int (0 : Int) 0), (Value.int (3 : Int) 0), (Value.ref 161), (Value.bool Bool.true), (Value.int (181 : Int) 0), (Value.ref 162), Value.none, (Value.ref 163), (Value.ref 164), (Value.ref 165), (Value.int (424 : Int) 0), (Value.int (173 : Int) 0), (Value.str (Str.ofString "/claim/cut.py") 425)])) (List.toArray [])))
noncomputable def bo_446 : Params → Obj := (fun P => (Obj.mk (Value.type "code") Option.none (Data.fields (List.toArray [(Value.str (Str.ofString "_law_figures") 649), (Value.str (Str.ofString "_law_figures") 650), (Value.str (Str.ofString "/claim/cut.py") 651), (Value.int (515 : Int) 0), (Value.int (3 : Int) 0), (Value.int (0 : Int) 0), (Value.int (0 : Int) 0), (Value.int (3 : Int) 0), (Value.ref 291), (Value.bool Bool.true), (Value.int (181 : Int) 0), (Value.ref 292), Value.none, Value.none, Value.none, (Value.ref 293), (Value.int (652 : Int) 0), (Value.int (515 : Int) 0), (Value.str (Str.ofString "/claim/cut.py") 653)])) (List.toArray [])))
noncomputable def bo_303 : Params → Obj := (fun P => (Obj.mk Value.none Option.none (Data.func (FuncData.mk (Str.ofString "quick_ratio") (Str.ofString "SequenceMatcher.quick_ratio") (Arguments.mk [] [(Arg.mk (Str.ofString "self") Option.none (Pos.mk 413 20 413 24))] Option.none [] [] Option.none []) (FuncBody.stmts (mb 5 11)) (Scope.mk ScopeKind.function [(Prod.mk (Str.ofString "self") NameKind.local), (Prod.mk (Str.ofString "_wall") NameKind.globalImplicit)] Bool.false Bool.false []) 0 [] Value.none Value.none Value.none Value.none Option.none Value.none Value.none 0)) (List.toArray [])))
noncomputable def bo_46 : Params → Obj := (fun P => (Obj.mk (Value.type "tuple") Option.none (Data.seq (List.toArray []) 0) (List.toArray [])))
noncomputable def bo_81 : Params → Obj := (fun P => (Obj.mk (Value.type "tuple") Option.none (Data.seq (List.toArray []) 0) (List.toArray [])))
noncomputable def bo_223 : Params → Obj := (fun P => (Obj.mk Value.none Option.none (Data.fields (List.toArray [(Value.int (145 : Int) 0), (Value.int (4 : Int) 0), (Value.ref 159), (Value.int (173 : Int) 0), (Value.int (4 : Int) 0), (Value.ref 166), (Value.int (184 : Int) 0), (Value.int (4 : Int) 0), (Value.ref 173), (Value.int (209 : Int) 0), (Value.int (4 : Int) 0), (Value.ref 180), (Value.int (236 : Int) 0), (Value.int (4 : Int) 0), (Value.ref 187), (Value.int (260 : Int) 0), (Value.int (4 : Int) 0), (Value.ref 195), (Value.int (335 : Int) 0), (Value.int (4 : Int) 0), (Value.ref 202), (Value.int (383 : Int) 0), (Value.int (4 : Int) 0), (Value.ref 209), (Value.int (386 : Int) 0), (Value.int (4 : Int) 0), (Value.ref 217), (Value.int (389 : Int) 0), (Value.int (4 : Int) 0), (Value.ref 224), (Value.int (413 : Int) 0), (Value.int (4 : Int) 0), (Value.ref 231), (Value.int (416 : Int) 0), (Value.int (4 : Int) 0), (Value.ref 238)])) (List.toArray [])))
noncomputable def bo_430 : Params → Obj := (fun P => (Obj.mk Value.none Option.none (Data.fields (List.toArray [])) (List.toArray [])))
noncomputable def bo_287 : Params → Obj := (fun P => (Obj.mk (Value.type "tuple") Option.none (Data.seq (List.toArray [(Value.str (Str.ofString "self") 530), (Value.str (Str.ofString "n") 531)]) 0) (List.toArray [])))
noncomputable def bo_113 : Params → Obj := (fun P => (Obj.mk (Value.type "tuple") Option.none (Data.seq (List.toArray []) 0) (List.toArray [])))
noncomputable def bo_255 : Params → Obj := (fun P => (Obj.mk (Value.type "tuple") Option.none (Data.seq (List.toArray []) 0) (List.toArray [])))
noncomputable def bo_462 : Params → Obj := (fun P => (Obj.mk (Value.type "tuple") Option.none (Data.seq (List.toArray []) 0) (List.toArray [])))
noncomputable def bo_319 : Params → Obj := (fun P => (Obj.mk (Value.type "builtin_function_or_method") Option.none (Data.fields (List.toArray [(Value.builtin "object.__init_subclass__"), (Value.ref 242)])) (List.toArray [])))
noncomputable def bo_22 : Params → Obj := (fun P => (Obj.mk Value.none Option.none (Data.fields (List.toArray [])) (List.toArray [])))
noncomputable def bo_38 : Params → Obj := (fun P => (Obj.mk (Value.type "tuple") Option.none (Data.seq (List.toArray [(Value.str (Str.ofString "self") 229), (Value.str (Str.ofString "obj") 230), (Value.str (Str.ofString "value") 231)]) 0) (List.toArray [])))
noncomputable def bo_73 : Params → Obj := (fun P => (Obj.mk (Value.type "tuple") Option.none (Data.seq (List.toArray [(Value.str (Str.ofString "_cls") 277), (Value.str (Str.ofString "a") 278), (Value.str (Str.ofString "b") 279), (Value.str (Str.ofString "size") 280)]) 0) (List.toArray [])))
noncomputable def bo_212 : Params → Obj := (fun P => (Obj.mk (Value.type "tuple") Option.none (Data.seq (List.toArray []) 0) (List.toArray [])))
noncomputable def bo_422 : Params → Obj := (fun P => (Obj.mk (Value.type "tuple") Option.none (Data.seq (List.toArray []) 0) (List.toArray [])))
noncomputable def bo_279 : Params → Obj := (fun P => (Obj.mk (Value.type "tuple") Option.none (Data.seq (List.toArray [(Value.str (Str.ofString "self") 522)]) 0) (List.toArray [])))
noncomputable def bo_105 : Params → Obj := (fun P => (Obj.mk (Value.type "tuple") Option.none (Data.seq (List.toArray [(Value.str (Str.ofString "self") 330)]) 0) (List.toArray [])))
noncomputable def bo_247 : Params → Obj := (fun P => (Obj.mk (Value.type "function") Option.none (Data.func (FuncData.mk (Str.ofString "set_seq1") (Str.ofString "SequenceMatcher.set_seq1") (Arguments.mk [] [(Arg.mk (Str.ofString "self") Option.none (Pos.mk 184 17 184 21)), (Arg.mk (Str.ofString "a") Option.none (Pos.mk 184 23 184 24))] Option.none [] [] Option.none []) (FuncBody.stmts (mb 5 3)) (Scope.mk ScopeKind.function [(Prod.mk (Str.ofString "self") NameKind.local), (Prod.mk (Str.ofString "a") NameKind.local)] Bool.false Bool.false []) 3 [] Value.none Value.none (Value.str (docS (mb 5 3)) 435) (Value.str (Str.ofString "cpy313.difflib") 194) Option.none (Value.ref 173) Value.none 0)) (List.toArray [])))
noncomputable def bo_454 : Params → Obj := (fun P => (Obj.mk (Value.type "function") Option.none (Data.func (FuncData.mk (Str.ofString "_law_filled") (Str.ofString "_law_filled") (Arguments.mk [] [(Arg.mk (Str.ofString "signs") Option.none (Pos.mk 517 16 517 21))] Option.none [] [] Option.none []) (FuncBody.stmts (bd 18)) (Scope.mk ScopeKind.function [(Prod.mk (Str.ofString "signs") NameKind.local), (Prod.mk (Str.ofString "len") NameKind.globalImplicit)] Bool.false Bool.false []) 3 [] Value.none Value.none Value.none (Value.str (Str.ofString "law_rt0114_01") 638) Option.none (Value.ref 301) Value.none 0)) (List.toArray [])))
noncomputable def bo_311 : Params → Obj := (fun P => (Obj.mk (Value.type "code") Option.none (Data.fields (List.toArray [(Value.str (Str.ofString "real_quick_ratio") 551), (Value.str (Str.ofString "SequenceMatcher.real_quick_ratio") 552), (Value.str (Str.ofString "/claim/cut.py") 553), (Value.int (416 : Int) 0), (Value.int (1 : Int) 0), (Value.int (0 : Int) 0), (Value.int (0 : Int) 0), (Value.int (3 : Int) 0), (Value.ref 233), (Value.bool Bool.true), (Value.int (181 : Int) 0), (Value.ref 234), Value.none, (Value.ref 235), (Value.ref 236), (Value.ref 237), (Value.int (555 : Int) 0), (Value.int (416 : Int) 0), (Value.str (Str.ofString "/claim/cut.py") 556)])) (List.toArray [])))
noncomputable def bo_54 : Params → Obj := (fun P => (Obj.mk (Value.type "getset_descriptor") Option.none (Data.fields (List.toArray [(Value.str (Str.ofString "__weakref__") 248), (Value.ref 60), (Value.builtin "ExceptionGroup.__weakref__"), Value.none])) (List.toArray [])))
noncomputable def bo_89 : Params → Obj := (fun P => (Obj.mk (Value.type "tuple") Option.none (Data.seq (List.toArray [(Value.str (Str.ofString "__class__") 310)]) 0) (List.toArray [])))
noncomputable def bo_231 : Params → Obj := (fun P => (Obj.mk Value.none Option.none (Data.func (FuncData.mk (Str.ofString "__init__") (Str.ofString "SequenceMatcher.__init__") (Arguments.mk [] [(Arg.mk (Str.ofString "self") Option.none (Pos.mk 145 17 145 21)), (Arg.mk (Str.ofString "isjunk") Option.none (Pos.mk 145 23 145 29)), (Arg.mk (Str.ofString "a") Option.none (Pos.mk 145 36 145 37)), (Arg.mk (Str.ofString "b") Option.none (Pos.mk 145 42 145 43)), (Arg.mk (Str.ofString "autojunk") Option.none (Pos.mk 145 48 145 56))] Option.none [] [] Option.none [(Expr.Constant Const.none 0 (Pos.mk 145 30 145 34)), (Expr.Constant (Const.str (Str.ofString "")) 0 (Pos.mk 145 38 145 40)), (Expr.Constant (Const.str (Str.ofString "")) 0 (Pos.mk 145 44 145 46)), (Expr.Constant (Const.bool Bool.true) 0 (Pos.mk 145 57 145 61))]) (FuncBody.stmts (mb 5 1)) (Scope.mk ScopeKind.function [(Prod.mk (Str.ofString "self") NameKind.local), (Prod.mk (Str.ofString "isjunk") NameKind.local), (Prod.mk (Str.ofString "a") NameKind.local), (Prod.mk (Str.ofString "b") NameKind.local), (Prod.mk (Str.ofString "autojunk") NameKind.local)] Bool.false Bool.false []) 0 [] Value.none Value.none Value.none Value.none Option.none Value.none Value.none 0)) (List.toArray [])))
noncomputable def bo_438 : Params → Obj := (fun P => (Obj.mk (Value.type "tuple") Option.none (Data.seq (List.toArray [(Value.str (Str.ofString "ring") 643), (Value.str (Str.ofString "low") 644), (Value.str (Str.ofString "high") 645)]) 0) (List.toArray [])))
noncomputable def bo_295 : Params → Obj := (fun P => (Obj.mk (Value.type "tuple") Option.none (Data.seq (List.toArray []) 0) (List.toArray [])))
noncomputable def bo_121 : Params → Obj := (fun P => (Obj.mk (Value.type "dict") Option.none (Data.dict (List.toArray [(DictEntry.mk (PyData.keyHash P (Str.ofString "index")) (Value.str (Str.ofString "index") 362) (Value.int (1 : Int) 356)), (DictEntry.mk (PyData.keyHash P (Str.ofString "__doc__")) (Value.str (Str.ofString "__doc__") 364) (Value.str (Str.ofString "Alias for field number 1") 357))]) 2) (List.toArray [])))
noncomputable def bo_263 : Params → Obj := (fun P => (Obj.mk (Value.type "tuple") Option.none (Data.seq (List.toArray []) 0) (List.toArray [])))
noncomputable def bo_406 : Params → Obj := (fun P => (Obj.mk (Value.type "tuple") Option.none (Data.seq (List.toArray []) 0) (List.toArray [])))
noncomputable def atree_4 : Params → BT := (fun P => (BT.node (boot_o_0 P) (BT.node (boot_o_1 P) (BT.node (boot_o_3 P) (BT.node (boot_o_7 P) BT.nil BT.nil) (BT.node (ao_1 P) BT.nil BT.nil)) (BT.node (boot_o_5 P) (BT.node (boot_o_9 P) BT.nil BT.nil) (BT.node (ao_3 P) BT.nil BT.nil))) (BT.node (boot_o_2 P) (BT.node (boot_o_4 P) (BT.node (boot_o_8 P) BT.nil BT.nil) (BT.node (ao_2 P) BT.nil BT.nil)) (BT.node (boot_o_6 P) (BT.node (boot_o_10 P) BT.nil BT.nil) (BT.node (ao_4 P) BT.nil BT.nil)))))
noncomputable def btree_466 : Params → BT := (fun P => (BT.node (boot_o_0 P) (BT.node (boot_o_1 P) (BT.node (bo_397 P) (BT.node (boot_o_7 P) (BT.node (bo_7 P) (BT.node (bo_23 P) (BT.node (bo_55 P) (BT.node (bo_122 P) (BT.node (bo_407 P) BT.nil BT.nil) BT.nil) (BT.node (bo_264 P) BT.nil BT.nil)) (BT.node (bo_90 P) (BT.node (bo_232 P) (BT.node (bo_439 P) BT.nil BT.nil) BT.nil) (BT.node (bo_296 P) BT.nil BT.nil))) (BT.node (bo_39 P) (BT.node (bo_74 P) (BT.node (bo_213 P) (BT.node (bo_423 P) BT.nil BT.nil) BT.nil) (BT.node (bo_280 P) BT.nil BT.nil)) (BT.node (bo_106 P) (BT.node (bo_248 P) (BT.node (bo_455 P) BT.nil BT.nil) BT.nil) (BT.node (bo_312 P) BT.nil BT.nil)))) (BT.node (bo_15 P) (BT.node (bo_31 P) (BT.node (bo_66 P) (BT.node (bo_130 P) (BT.node (bo_415 P) BT.nil BT.nil) BT.nil) (BT.node (bo_272 P) BT.nil BT.nil)) (BT.node (bo_98 P) (BT.node (bo_240 P) (BT.node (bo_447 P) BT.nil BT.nil) BT.nil) (BT.node (bo_304 P) BT.nil BT.nil))) (BT.node (bo_47 P) (BT.node (bo_82 P) (BT.node (bo_224 P) (BT.node (bo_431 P) BT.nil BT.nil) BT.nil) (BT.node (bo_288 P) BT.nil BT.nil)) (BT.node (bo_114 P) (BT.node (bo_256 P) (BT.node (bo_463 P) BT.nil BT.nil) BT.nil) (BT.node (bo_399 P) BT.nil BT.nil))))) (BT.node (bo_1 P) (BT.node (bo_11 P) (BT.node (bo_27 P) (BT.node (bo_62 P) (BT.node (bo_126 P) (BT.node (bo_411 P) BT.nil BT.nil) BT.nil) (BT.node (bo_268 P) BT.nil BT.nil)) (BT.node (bo_94 P) (BT.node (bo_236 P) (BT.node (bo_443 P) BT.nil BT.nil) BT.nil) (BT.node (bo_300 P) BT.nil BT.nil))) (BT.node (bo_43 P) (BT.node (bo_78 P) (BT.node (bo_220 P) (BT.node (bo_427 P) BT.nil BT.nil) BT.nil) (BT.node (bo_284 P) BT.nil BT.nil)) (BT.node (bo_110 P) (BT.node (bo_252 P) (BT.node (bo_459 P) BT.nil BT.nil) BT.nil) (BT.node (bo_316 P) BT.nil BT.nil)))) (BT.node (bo_19 P) (BT.node (bo_35 P) (BT.node (bo_70 P) (BT.node (bo_209 P) (BT.node (bo_419 P) BT.nil BT.nil) BT.nil) (BT.node (bo_276 P) BT.nil BT.nil)) (BT.node (bo_102 P) (BT.node (bo_244 P) (BT.node (bo_451 P) BT.nil BT.nil) BT.nil) (BT.node (bo_308 P) BT.nil BT.nil))) (BT.node (bo_51 P) (BT.node (bo_86 P) (BT.node (bo_228 P) (BT.node (bo_435 P) BT.nil BT.nil) BT.nil) (BT.node (bo_292 P) BT.nil BT.nil)) (BT.node (bo_118 P) (BT.node (bo_260 P) BT.nil BT.nil) (BT.node (bo_403 P) BT.nil BT.nil)))))) (BT.node (boot_o_5 P) (BT.node (boot_o_9 P) (BT.node (bo_9 P) (BT.node (bo_25 P) (BT.node (bo_60 P) (BT.node (bo_124 P) (BT.node (bo_409 P) BT.nil BT.nil) BT.nil) (BT.node (bo_266 P) BT.nil BT.nil)) (BT.node (bo_92 P) (BT.node (bo_234 P) (BT.node (bo_441 P) BT.nil BT.nil) BT.nil) (BT.node (bo_298 P) BT.nil BT.nil))) (BT.node (bo_41 P) (BT.node (bo_76 P) (BT.node (bo_215 P) (BT.node (bo_425 P) BT.nil BT.nil) BT.nil) (BT.node (bo_282 P) BT.nil BT.nil)) (BT.node (bo_108 P) (BT.node (bo_250 P) (BT.node (bo_457 P) BT.nil BT.nil) BT.nil) (BT.node (bo_314 P) BT.nil BT.nil)))) (BT.node (bo_17 P) (BT.node (bo_33 P) (BT.node (bo_68 P) (BT.node (bo_132 P) (BT.node (bo_417 P) BT.nil BT.nil) BT.nil) (BT.node (bo_274 P) BT.nil BT.nil)) (BT.node (bo_100 P) (BT.node (bo_242 P) (BT.node (bo_449 P) BT.nil BT.nil) BT.nil) (BT.node (bo_306 P) BT.nil BT.nil))) (BT.node (bo_49 P) (BT.node (bo_84 P) (BT.node (bo_226 P) (BT.node (bo_433 P) BT.nil BT.nil) BT.nil) (BT.node (bo_290 P) BT.nil BT.nil)) (BT.node (bo_116 P) (BT.node (bo_258 P) (BT.node (bo_465 P) BT.nil BT.nil) BT.nil) (BT.node (bo_401 P) BT.nil BT.nil))))) (BT.node (bo_3 P) (BT.node (bo_13 P) (BT.node (bo_29 P) (BT.node (bo_64 P) (BT.node (bo_128 P) (BT.node (bo_413 P) BT.nil BT.nil) BT.nil) (BT.node (bo_270 P) BT.nil BT.nil)) (BT.node (bo_96 P) (BT.node (bo_238 P) (BT.node (bo_445 P) BT.nil BT.nil) BT.nil) (BT.node (bo_302 P) BT.nil BT.nil))) (BT.node (bo_45 P) (BT.node (bo_80 P) (BT.node (bo_222 P) (BT.node (bo_429 P) BT.nil BT.nil) BT.nil) (BT.node (bo_286 P) BT.nil BT.nil)) (BT.node (bo_112 P) (BT.node (bo_254 P) (BT.node (bo_461 P) BT.nil BT.nil) BT.nil) (BT.node (bo_318 P) BT.nil BT.nil)))) (BT.node (bo_21 P) (BT.node (bo_37 P) (BT.node (bo_72 P) (BT.node (bo_211 P) (BT.node (bo_421 P) BT.nil BT.nil) BT.nil) (BT.node (bo_278 P) BT.nil BT.nil)) (BT.node (bo_104 P) (BT.node (bo_246 P) (BT.node (bo_453 P) BT.nil BT.nil) BT.nil) (BT.node (bo_310 P) BT.nil BT.nil))) (BT.node (bo_53 P) (BT.node (bo_88 P) (BT.node (bo_230 P) (BT.node (bo_437 P) BT.nil BT.nil) BT.nil) (BT.node (bo_294 P) BT.nil BT.nil)) (BT.node (bo_120 P) (BT.node (bo_262 P) BT.nil BT.nil) (BT.node (bo_405 P) BT.nil BT.nil))))))) (BT.node (boot_o_2 P) (BT.node (boot_o_4 P) (BT.node (boot_o_8 P) (BT.node (bo_8 P) (BT.node (bo_24 P) (BT.node (bo_56 P) (BT.node (bo_123 P) (BT.node (bo_408 P) BT.nil BT.nil) BT.nil) (BT.node (bo_265 P) BT.nil BT.nil)) (BT.node (bo_91 P) (BT.node (bo_233 P) (BT.node (bo_440 P) BT.nil BT.nil) BT.nil) (BT.node (bo_297 P) BT.nil BT.nil))) (BT.node (bo_40 P) (BT.node (bo_75 P) (BT.node (bo_214 P) (BT.node (bo_424 P) BT.nil BT.nil) BT.nil) (BT.node (bo_281 P) BT.nil BT.nil)) (BT.node (bo_107 P) (BT.node (bo_249 P) (BT.node (bo_456 P) BT.nil BT.nil) BT.nil) (BT.node (bo_313 P) BT.nil BT.nil)))) (BT.node (bo_16 P) (BT.node (bo_32 P) (BT.node (bo_67 P) (BT.node (bo_131 P) (BT.node (bo_416 P) BT.nil BT.nil) BT.nil) (BT.node (bo_273 P) BT.nil BT.nil)) (BT.node (bo_99 P) (BT.node (bo_241 P) (BT.node (bo_448 P) BT.nil BT.nil) BT.nil) (BT.node (bo_305 P) BT.nil BT.nil))) (BT.node (bo_48 P) (BT.node (bo_83 P) (BT.node (bo_225 P) (BT.node (bo_432 P) BT.nil BT.nil) BT.nil) (BT.node (bo_289 P) BT.nil BT.nil)) (BT.node (bo_115 P) (BT.node (bo_257 P) (BT.node (bo_464 P) BT.nil BT.nil) BT.nil) (BT.node (bo_400 P) BT.nil BT.nil))))) (BT.node (bo_398 P) (BT.node (bo_12 P) (BT.node (bo_28 P) (BT.node (bo_63 P) (BT.node (bo_127 P) (BT.node (bo_412 P) BT.nil BT.nil) BT.nil) (BT.node (bo_269 P) BT.nil BT.nil)) (BT.node (bo_95 P) (BT.node (bo_237 P) (BT.node (bo_444 P) BT.nil BT.nil) BT.nil) (BT.node (bo_301 P) BT.nil BT.nil))) (BT.node (bo_44 P) (BT.node (bo_79 P) (BT.node (bo_221 P) (BT.node (bo_428 P) BT.nil BT.nil) BT.nil) (BT.node (bo_285 P) BT.nil BT.nil)) (BT.node (bo_111 P) (BT.node (bo_253 P) (BT.node (bo_460 P) BT.nil BT.nil) BT.nil) (BT.node (bo_317 P) BT.nil BT.nil)))) (BT.node (bo_20 P) (BT.node (bo_36 P) (BT.node (bo_71 P) (BT.node (bo_210 P) (BT.node (bo_420 P) BT.nil BT.nil) BT.nil) (BT.node (bo_277 P) BT.nil BT.nil)) (BT.node (bo_103 P) (BT.node (bo_245 P) (BT.node (bo_452 P) BT.nil BT.nil) BT.nil) (BT.node (bo_309 P) BT.nil BT.nil))) (BT.node (bo_52 P) (BT.node (bo_87 P) (BT.node (bo_229 P) (BT.node (bo_436 P) BT.nil BT.nil) BT.nil) (BT.node (bo_293 P) BT.nil BT.nil)) (BT.node (bo_119 P) (BT.node (bo_261 P) BT.nil BT.nil) (BT.node (bo_404 P) BT.nil BT.nil)))))) (BT.node (boot_o_6 P) (BT.node (boot_o_10 P) (BT.node (bo_10 P) (BT.node (bo_26 P) (BT.node (bo_61 P) (BT.node (bo_125 P) (BT.node (bo_410 P) BT.nil BT.nil) BT.nil) (BT.node (bo_267 P) BT.nil BT.nil)) (BT.node (bo_93 P) (BT.node (bo_235 P) (BT.node (bo_442 P) BT.nil BT.nil) BT.nil) (BT.node (bo_299 P) BT.nil BT.nil))) (BT.node (bo_42 P) (BT.node (bo_77 P) (BT.node (bo_219 P) (BT.node (bo_426 P) BT.nil BT.nil) BT.nil) (BT.node (bo_283 P) BT.nil BT.nil)) (BT.node (bo_109 P) (BT.node (bo_251 P) (BT.node (bo_458 P) BT.nil BT.nil) BT.nil) (BT.node (bo_315 P) BT.nil BT.nil)))) (BT.node (bo_18 P) (BT.node (bo_34 P) (BT.node (bo_69 P) (BT.node (bo_133 P) (BT.node (bo_418 P) BT.nil BT.nil) BT.nil) (BT.node (bo_275 P) BT.nil BT.nil)) (BT.node (bo_101 P) (BT.node (bo_243 P) (BT.node (bo_450 P) BT.nil BT.nil) BT.nil) (BT.node (bo_307 P) BT.nil BT.nil))) (BT.node (bo_50 P) (BT.node (bo_85 P) (BT.node (bo_227 P) (BT.node (bo_434 P) BT.nil BT.nil) BT.nil) (BT.node (bo_291 P) BT.nil BT.nil)) (BT.node (bo_117 P) (BT.node (bo_259 P) (BT.node (bo_466 P) BT.nil BT.nil) BT.nil) (BT.node (bo_402 P) BT.nil BT.nil))))) (BT.node (bo_4 P) (BT.node (bo_14 P) (BT.node (bo_30 P) (BT.node (bo_65 P) (BT.node (bo_129 P) (BT.node (bo_414 P) BT.nil BT.nil) BT.nil) (BT.node (bo_271 P) BT.nil BT.nil)) (BT.node (bo_97 P) (BT.node (bo_239 P) (BT.node (bo_446 P) BT.nil BT.nil) BT.nil) (BT.node (bo_303 P) BT.nil BT.nil))) (BT.node (bo_46 P) (BT.node (bo_81 P) (BT.node (bo_223 P) (BT.node (bo_430 P) BT.nil BT.nil) BT.nil) (BT.node (bo_287 P) BT.nil BT.nil)) (BT.node (bo_113 P) (BT.node (bo_255 P) (BT.node (bo_462 P) BT.nil BT.nil) BT.nil) (BT.node (bo_319 P) BT.nil BT.nil)))) (BT.node (bo_22 P) (BT.node (bo_38 P) (BT.node (bo_73 P) (BT.node (bo_212 P) (BT.node (bo_422 P) BT.nil BT.nil) BT.nil) (BT.node (bo_279 P) BT.nil BT.nil)) (BT.node (bo_105 P) (BT.node (bo_247 P) (BT.node (bo_454 P) BT.nil BT.nil) BT.nil) (BT.node (bo_311 P) BT.nil BT.nil))) (BT.node (bo_54 P) (BT.node (bo_89 P) (BT.node (bo_231 P) (BT.node (bo_438 P) BT.nil BT.nil) BT.nil) (BT.node (bo_295 P) BT.nil BT.nil)) (BT.node (bo_121 P) (BT.node (bo_263 P) BT.nil BT.nil) (BT.node (bo_406 P) BT.nil BT.nil)))))))))
noncomputable def aenv_1 : Env := (Env.mk (Module.scope (Program.main Challenge.pw_rt0114_01)) mainNs mainNs [] Str.empty Option.none (Value.ref 13) (Option.some (14 : PySem.Addr)) (0 : PySem.Addr))
noncomputable def K : Params → Frag := fun P => (nat_lit 2, boot_o_2 P) :: (nat_lit 3, bo_397 P) :: (nat_lit 15, bo_7 P) :: (nat_lit 17, bo_9 P) :: (nat_lit 18, bo_10 P) :: (nat_lit 20, bo_12 P) :: (nat_lit 21, bo_13 P) :: (nat_lit 29, bo_21 P) :: (nat_lit 31, bo_23 P) :: (nat_lit 32, bo_24 P) :: (nat_lit 34, bo_26 P) :: (nat_lit 35, bo_27 P) :: (nat_lit 36, bo_28 P) :: (nat_lit 37, bo_29 P) :: (nat_lit 39, bo_31 P) :: (nat_lit 40, bo_32 P) :: (nat_lit 42, bo_34 P) :: (nat_lit 43, bo_35 P) :: (nat_lit 44, bo_36 P) :: (nat_lit 46, bo_38 P) :: (nat_lit 47, bo_39 P) :: (nat_lit 49, bo_41 P) :: (nat_lit 50, bo_42 P) :: (nat_lit 51, bo_43 P) :: (nat_lit 53, bo_45 P) :: (nat_lit 54, bo_46 P) :: (nat_lit 56, bo_48 P) :: (nat_lit 57, bo_49 P) :: (nat_lit 58, bo_50 P) :: (nat_lit 59, bo_51 P) :: (nat_lit 60, bo_52 P) :: (nat_lit 61, bo_53 P) :: (nat_lit 62, bo_54 P) :: (nat_lit 65, bo_60 P) :: (nat_lit 68, bo_63 P) :: (nat_lit 73, bo_68 P) :: (nat_lit 74, bo_69 P) :: (nat_lit 75, bo_70 P) :: (nat_lit 76, bo_71 P) :: (nat_lit 78, bo_73 P) :: (nat_lit 79, bo_74 P) :: (nat_lit 81, bo_76 P) :: (nat_lit 82, bo_77 P) :: (nat_lit 83, bo_78 P) :: (nat_lit 85, bo_80 P) :: (nat_lit 86, bo_81 P) :: (nat_lit 88, bo_83 P) :: (nat_lit 89, bo_84 P) :: (nat_lit 90, bo_85 P) :: (nat_lit 91, bo_86 P) :: (nat_lit 92, bo_87 P) :: (nat_lit 93, bo_88 P) :: (nat_lit 94, bo_89 P) :: (nat_lit 96, bo_91 P) :: (nat_lit 97, bo_92 P) :: (nat_lit 99, bo_94 P) :: (nat_lit 100, bo_95 P) :: (nat_lit 101, bo_96 P) :: (nat_lit 103, bo_98 P) :: (nat_lit 104, bo_99 P) :: (nat_lit 106, bo_101 P) :: (nat_lit 107, bo_102 P) :: (nat_lit 108, bo_103 P) :: (nat_lit 110, bo_105 P) :: (nat_lit 111, bo_106 P) :: (nat_lit 113, bo_108 P) :: (nat_lit 114, bo_109 P) :: (nat_lit 115, bo_110 P) :: (nat_lit 117, bo_112 P) :: (nat_lit 118, bo_113 P) :: (nat_lit 120, bo_115 P) :: (nat_lit 121, bo_116 P) :: (nat_lit 122, bo_117 P) :: (nat_lit 123, bo_118 P) :: (nat_lit 124, bo_119 P) :: (nat_lit 126, bo_121 P) :: (nat_lit 127, bo_122 P) :: (nat_lit 129, bo_124 P) :: (nat_lit 130, bo_125 P) :: (nat_lit 132, bo_127 P) :: (nat_lit 134, bo_129 P) :: (nat_lit 135, bo_130 P) :: (nat_lit 136, bo_131 P) :: (nat_lit 139, bo_209 P) :: (nat_lit 141, bo_211 P) :: (nat_lit 142, bo_212 P) :: (nat_lit 144, bo_214 P) :: (nat_lit 145, bo_215 P) :: (nat_lit 153, bo_226 P) :: (nat_lit 154, bo_227 P) :: (nat_lit 156, bo_229 P) :: (nat_lit 157, bo_230 P) :: (nat_lit 159, bo_232 P) :: (nat_lit 160, bo_233 P) :: (nat_lit 161, bo_234 P) :: (nat_lit 163, bo_236 P) :: (nat_lit 164, bo_237 P) :: (nat_lit 166, bo_239 P) :: (nat_lit 167, bo_240 P) :: (nat_lit 168, bo_241 P) :: (nat_lit 170, bo_243 P) :: (nat_lit 171, bo_244 P) :: (nat_lit 173, bo_246 P) :: (nat_lit 174, bo_247 P) :: (nat_lit 175, bo_248 P) :: (nat_lit 177, bo_250 P) :: (nat_lit 178, bo_251 P) :: (nat_lit 180, bo_253 P) :: (nat_lit 181, bo_254 P) :: (nat_lit 182, bo_255 P) :: (nat_lit 184, bo_257 P) :: (nat_lit 185, bo_258 P) :: (nat_lit 187, bo_260 P) :: (nat_lit 188, bo_261 P) :: (nat_lit 189, bo_262 P) :: (nat_lit 190, bo_263 P) :: (nat_lit 192, bo_265 P) :: (nat_lit 193, bo_266 P) :: (nat_lit 195, bo_268 P) :: (nat_lit 196, bo_269 P) :: (nat_lit 197, bo_270 P) :: (nat_lit 199, bo_272 P) :: (nat_lit 200, bo_273 P) :: (nat_lit 202, bo_275 P) :: (nat_lit 203, bo_276 P) :: (nat_lit 204, bo_277 P) :: (nat_lit 206, bo_279 P) :: (nat_lit 207, bo_280 P) :: (nat_lit 209, bo_282 P) :: (nat_lit 210, bo_283 P) :: (nat_lit 211, bo_284 P) :: (nat_lit 212, bo_285 P) :: (nat_lit 214, bo_287 P) :: (nat_lit 215, bo_288 P) :: (nat_lit 217, bo_290 P) :: (nat_lit 218, bo_291 P) :: (nat_lit 219, bo_292 P) :: (nat_lit 221, bo_294 P) :: (nat_lit 222, bo_295 P) :: (nat_lit 224, bo_297 P) :: (nat_lit 225, bo_298 P) :: (nat_lit 226, bo_299 P) :: (nat_lit 228, bo_301 P) :: (nat_lit 229, bo_302 P) :: (nat_lit 231, bo_304 P) :: (nat_lit 232, bo_305 P) :: (nat_lit 233, bo_306 P) :: (nat_lit 235, bo_308 P) :: (nat_lit 236, bo_309 P) :: (nat_lit 238, bo_311 P) :: (nat_lit 239, bo_312 P) :: (nat_lit 240, bo_313 P) :: (nat_lit 241, bo_314 P) :: (nat_lit 242, bo_315 P) :: (nat_lit 243, bo_316 P) :: (nat_lit 244, bo_317 P) :: (nat_lit 247, bo_399 P) :: (nat_lit 249, bo_401 P) :: (nat_lit 250, bo_402 P) :: (nat_lit 252, bo_404 P) :: (nat_lit 253, bo_405 P) :: (nat_lit 254, bo_406 P) :: (nat_lit 256, bo_408 P) :: (nat_lit 257, bo_409 P) :: (nat_lit 259, bo_411 P) :: (nat_lit 260, bo_412 P) :: (nat_lit 261, bo_413 P) :: (nat_lit 262, bo_414 P) :: (nat_lit 264, bo_416 P) :: (nat_lit 265, bo_417 P) :: (nat_lit 267, bo_419 P) :: (nat_lit 268, bo_420 P) :: (nat_lit 269, bo_421 P) :: (nat_lit 270, bo_422 P) :: (nat_lit 272, bo_424 P) :: (nat_lit 273, bo_425 P) :: (nat_lit 275, bo_427 P) :: (nat_lit 276, bo_428 P) :: (nat_lit 277, bo_429 P) :: (nat_lit 279, bo_431 P) :: (nat_lit 280, bo_432 P) :: (nat_lit 282, bo_434 P) :: (nat_lit 283, bo_435 P) :: (nat_lit 284, bo_436 P) :: (nat_lit 286, bo_438 P) :: (nat_lit 287, bo_439 P) :: (nat_lit 289, bo_441 P) :: (nat_lit 290, bo_442 P) :: (nat_lit 291, bo_443 P) :: (nat_lit 294, bo_446 P) :: (nat_lit 295, bo_447 P) :: (nat_lit 296, bo_448 P) :: (nat_lit 298, bo_450 P) :: (nat_lit 299, bo_451 P) :: (nat_lit 301, bo_453 P) :: (nat_lit 302, bo_454 P) :: (nat_lit 303, bo_455 P) :: (nat_lit 305, bo_457 P) :: (nat_lit 306, bo_458 P) :: (nat_lit 308, bo_460 P) :: (nat_lit 309, bo_461 P) :: (nat_lit 310, bo_462 P) :: (nat_lit 313, bo_465 P) :: (nat_lit 314, bo_466 P) :: []
noncomputable def Kas : List Addr := nat_lit 2 :: nat_lit 3 :: nat_lit 15 :: nat_lit 17 :: nat_lit 18 :: nat_lit 20 :: nat_lit 21 :: nat_lit 29 :: nat_lit 31 :: nat_lit 32 :: nat_lit 34 :: nat_lit 35 :: nat_lit 36 :: nat_lit 37 :: nat_lit 39 :: nat_lit 40 :: nat_lit 42 :: nat_lit 43 :: nat_lit 44 :: nat_lit 46 :: nat_lit 47 :: nat_lit 49 :: nat_lit 50 :: nat_lit 51 :: nat_lit 53 :: nat_lit 54 :: nat_lit 56 :: nat_lit 57 :: nat_lit 58 :: nat_lit 59 :: nat_lit 60 :: nat_lit 61 :: nat_lit 62 :: nat_lit 65 :: nat_lit 68 :: nat_lit 73 :: nat_lit 74 :: nat_lit 75 :: nat_lit 76 :: nat_lit 78 :: nat_lit 79 :: nat_lit 81 :: nat_lit 82 :: nat_lit 83 :: nat_lit 85 :: nat_lit 86 :: nat_lit 88 :: nat_lit 89 :: nat_lit 90 :: nat_lit 91 :: nat_lit 92 :: nat_lit 93 :: nat_lit 94 :: nat_lit 96 :: nat_lit 97 :: nat_lit 99 :: nat_lit 100 :: nat_lit 101 :: nat_lit 103 :: nat_lit 104 :: nat_lit 106 :: nat_lit 107 :: nat_lit 108 :: nat_lit 110 :: nat_lit 111 :: nat_lit 113 :: nat_lit 114 :: nat_lit 115 :: nat_lit 117 :: nat_lit 118 :: nat_lit 120 :: nat_lit 121 :: nat_lit 122 :: nat_lit 123 :: nat_lit 124 :: nat_lit 126 :: nat_lit 127 :: nat_lit 129 :: nat_lit 130 :: nat_lit 132 :: nat_lit 134 :: nat_lit 135 :: nat_lit 136 :: nat_lit 139 :: nat_lit 141 :: nat_lit 142 :: nat_lit 144 :: nat_lit 145 :: nat_lit 153 :: nat_lit 154 :: nat_lit 156 :: nat_lit 157 :: nat_lit 159 :: nat_lit 160 :: nat_lit 161 :: nat_lit 163 :: nat_lit 164 :: nat_lit 166 :: nat_lit 167 :: nat_lit 168 :: nat_lit 170 :: nat_lit 171 :: nat_lit 173 :: nat_lit 174 :: nat_lit 175 :: nat_lit 177 :: nat_lit 178 :: nat_lit 180 :: nat_lit 181 :: nat_lit 182 :: nat_lit 184 :: nat_lit 185 :: nat_lit 187 :: nat_lit 188 :: nat_lit 189 :: nat_lit 190 :: nat_lit 192 :: nat_lit 193 :: nat_lit 195 :: nat_lit 196 :: nat_lit 197 :: nat_lit 199 :: nat_lit 200 :: nat_lit 202 :: nat_lit 203 :: nat_lit 204 :: nat_lit 206 :: nat_lit 207 :: nat_lit 209 :: nat_lit 210 :: nat_lit 211 :: nat_lit 212 :: nat_lit 214 :: nat_lit 215 :: nat_lit 217 :: nat_lit 218 :: nat_lit 219 :: nat_lit 221 :: nat_lit 222 :: nat_lit 224 :: nat_lit 225 :: nat_lit 226 :: nat_lit 228 :: nat_lit 229 :: nat_lit 231 :: nat_lit 232 :: nat_lit 233 :: nat_lit 235 :: nat_lit 236 :: nat_lit 238 :: nat_lit 239 :: nat_lit 240 :: nat_lit 241 :: nat_lit 242 :: nat_lit 243 :: nat_lit 244 :: nat_lit 247 :: nat_lit 249 :: nat_lit 250 :: nat_lit 252 :: nat_lit 253 :: nat_lit 254 :: nat_lit 256 :: nat_lit 257 :: nat_lit 259 :: nat_lit 260 :: nat_lit 261 :: nat_lit 262 :: nat_lit 264 :: nat_lit 265 :: nat_lit 267 :: nat_lit 268 :: nat_lit 269 :: nat_lit 270 :: nat_lit 272 :: nat_lit 273 :: nat_lit 275 :: nat_lit 276 :: nat_lit 277 :: nat_lit 279 :: nat_lit 280 :: nat_lit 282 :: nat_lit 283 :: nat_lit 284 :: nat_lit 286 :: nat_lit 287 :: nat_lit 289 :: nat_lit 290 :: nat_lit 291 :: nat_lit 294 :: nat_lit 295 :: nat_lit 296 :: nat_lit 298 :: nat_lit 299 :: nat_lit 301 :: nat_lit 302 :: nat_lit 303 :: nat_lit 305 :: nat_lit 306 :: nat_lit 308 :: nat_lit 309 :: nat_lit 310 :: nat_lit 313 :: nat_lit 314 :: []
noncomputable def anyL (p : Nat → Bool) (l : List Nat) : Bool := @List.rec Nat (fun _ => Bool) false (fun a _ ih => @Bool.rec (fun _ => Bool) ih true (p a)) l
theorem anyL_eq (p : Nat → Bool) : ∀ l : List Nat, l.any p = anyL p l
  | [] => rfl
  | a :: l => by
    rw [List.any_cons, anyL_eq p l]
    show _ = @Bool.rec (fun _ => Bool) (anyL p l) true (p a)
    cases p a <;> rfl
noncomputable def anyA (xs : Array Nat) (p : Nat → Bool) (i j : Nat) : Bool := @Bool.rec (fun _ => Bool) (xs.any p i j) (anyL p xs.toList) (Nat.beq i 0 && Nat.beq j xs.toList.length)
theorem anyA_eq : @Array.any Nat = anyA := by
  funext xs p i j
  unfold anyA
  cases h : (Nat.beq i 0 && Nat.beq j xs.toList.length) with
  | false => rfl
  | true =>
    obtain ⟨h1, h2⟩ := Bool.and_eq_true_iff.mp h
    obtain rfl := Nat.eq_of_beq_eq_true h1
    obtain rfl := Nat.eq_of_beq_eq_true h2
    show _ = anyL p xs.toList
    rw [← anyL_eq, Array.any_toList]
    rfl
theorem new_eq : treeTable "type.__new__" = some Builtin.«type.__new__» := by kernel_rfl
noncomputable def tbOf (b : Builtin) (T : String → Option Builtin) : String → Option Builtin := fun n => @Bool.rec (fun _ => Option Builtin) (T n) (some b) (Nat.beq (PySem.code n) (PySem.code "type.__new__"))
theorem tbOf_eq : treeTable = tbOf Builtin.«type.__new__» treeTable := by
  funext n
  unfold tbOf
  cases h : Nat.beq (PySem.code n) (PySem.code "type.__new__") with
  | false => rfl
  | true => rw [code_inj _ _ (Nat.eq_of_beq_eq_true h), new_eq]
noncomputable def setDoc (d : Str) : List Stmt → List Stmt
  | .ClassDef a b c (.Expr (.Constant (.str _) k e) f :: bd) g h i j k' l m :: r => .ClassDef a b c (.Expr (.Constant (.str d) k e) f :: bd) g h i j k' l m :: r
  | s => s
noncomputable def allS (d : Str) : List Stmt := bE.take 5 ++ setDoc d (bE.drop 5)
theorem docT_eq : docOf (bE.drop 5) = docT := docP.2.trans (Fast.ofString_ofList docP.1)
theorem parts : bE = allS docT ++ [] := by
  rw [← docT_eq]
  show bE = allS (docOf (bE.drop 5)) ++ []
  kernel_rfl
noncomputable def H1 (P : Params) : Heap := absHeap (btree_466 P) 315 {}
noncomputable def q : Program := view PySem.Challenge.pw_rt0114_01 [0, 2, 3, 4, 5, 7, 8, 9, 14, 16, 17, 18, 19, 20]
noncomputable def loose : List Str := [Str.ofString "_tuplegetter", Str.ofString "Match", Str.ofString "SequenceMatcher", Str.ofString "b2a_base64", Str.ofString "b64encode"]
noncomputable def eqR (tb : String → Option Builtin) (w : World) (N : Nat) (t t' : BT) (n n' k k' : Nat) (sts : List Stmt) (env : Env) (ps ps' : Pos) : Prop :=
  (fun (_p : Program) (b : List Stmt) (os : OsState) => segRunT tb _p w 11 (some (Value.ref 6)) 1 N (SharedT.mk t n {} ⟨[]⟩ {} k os)
    (piecesOf sts env (Code.body b env) ps [topFrame ⟨0, 0, 0, 0⟩])) =
  fun _ b os => some (.next, SharedT.mk t' n' {} ⟨[]⟩ {} k' os, Code.body b env, ps')
noncomputable def eq0R (tb : String → Option Builtin) (w : World) (p : Program) (t : BT) (b : List Stmt) (env : Env) : Prop :=
  (fun (os : OsState) => topGo tb p w 11 (some (Value.ref 6)) 12 ⟨boot_heap w.params, ⟨[]⟩, boot_drawn, boot_toks, os⟩ (topStub p)) =
  fun os => some ((SharedT.mk t 15 {} ⟨[]⟩ {} 187 os).abs, ⟨denote tb (Code.body b env), Code.body b env, ⟨0, 0, 0, 0⟩, [topFrame ⟨0, 0, 0, 0⟩]⟩)
noncomputable def eqBR (tb : String → Option Builtin) (w : World) (p : Program) (t : BT) (b : List Stmt) (env : Env) : Prop :=
  (fun (os : OsState) => segRun tb p w 11 (some (Value.ref 6)) 1 1 (SharedT.mk t 15 {} ⟨[]⟩ {} 187 os).abs (blockOf b env (Code.body b env) ⟨0, 0, 0, 0⟩ [topFrame ⟨0, 0, 0, 0⟩])) =
  fun os => some (.next, (SharedT.mk t 15 {} ⟨[]⟩ {} 187 os).abs, Code.body b env, ⟨0, 0, 0, 0⟩)
noncomputable def eqFR (tb : String → Option Builtin) (w : World) (p : Program) (t : BT) (h : Heap) (b : List Stmt) (env : Env) : Prop :=
  (fun (os : OsState) => topRun tb p w 11 (some (Value.ref 6)) 2 (SharedT.mk t 315 {} ⟨[]⟩ {} 680 os).abs ⟨doneF .next, Code.body b env, { line := 528, col := 0, endLine := 559, endCol := 82 }, [topFrame ⟨0, 0, 0, 0⟩]⟩) =
  fun os => some ⟨h, ⟨[]⟩, {}, 680, os⟩
noncomputable def lk0R (w : World) : Prop := ((boot_heap w.params).isNs mainGlobals && (⟨[]⟩ : Array GenState).size == 0, (boot_heap w.params).objs.size, (boot_heap w.params).nsMap mainGlobals "__annotations__") = (true, 11, some (Value.ref 6))
noncomputable def lk1R (w : World) (p : Program) (h : Heap) : Prop := (fun (os : OsState) => (staticsOk (importedModules p.main.body) (boot_heap w.params) h && namesBound p h && gensDone ⟨h, ⟨[]⟩, {}, 680, os⟩ && laidKept (boot_heap w.params) h)) = fun _ => true
noncomputable def lk2R (w : World) (p q : Program) (loose : List Str) (h : Heap) : Prop := (fun (os : OsState) => openSeen q loose (importedModules p.main.body) (fun s => xlAt q [] s && recOk [] s) true ⟨h, ⟨[]⟩, {}, 680, os⟩) = fun _ => openGood q loose
theorem eqR_rfl : eqR = eqR := rfl
theorem eq0R_rfl : eq0R = eq0R := rfl
theorem eqBR_rfl : eqBR = eqBR := rfl
theorem eqFR_rfl : eqFR = eqFR := rfl
theorem lk0R_rfl : lk0R = lk0R := rfl
theorem lk1R_rfl : lk1R = lk1R := rfl
theorem lk2R_rfl : lk2R = lk2R := rfl
name_quick mineEqR for eqR by eqR_rfl
name_quick mineEq0R for eq0R by eq0R_rfl
name_quick mineEqBR for eqBR by eqBR_rfl
name_quick mineEqFR for eqFR by eqFR_rfl
name_quick mineLk0R for lk0R by lk0R_rfl
name_quick mineLk1R for lk1R by lk1R_rfl
name_quick mineLk2R for lk2R by lk2R_rfl
theorem table_rfl : treeTable = treeTable := rfl
name_quick mineTb for treeTable by table_rfl
theorem new_rfl : Builtin.«type.__new__» = Builtin.«type.__new__» := rfl
name_quick mineNew for Builtin.«type.__new__» by new_rfl
theorem eq0_holds (w : World) : eq0R treeTable w PySem.Challenge.pw_rt0114_01 (atree_4 w.params) bE aenv_1 := by
  rw [Fast.mineEq0R_eq, Fast.mineTb_eq]
  delta Fast.mineEq0R
  show _ = _
  kernel_rfl
theorem eqB_holds (w : World) : eqBR treeTable w PySem.Challenge.pw_rt0114_01 (atree_4 w.params) bE aenv_1 := by
  rw [Fast.mineEqBR_eq, Fast.mineTb_eq]
  delta Fast.mineEqBR
  show _ = _
  kernel_rfl
theorem eqF_holds (w : World) : eqFR treeTable w PySem.Challenge.pw_rt0114_01 (btree_466 w.params) (H1 w.params) bE aenv_1 := by
  rw [Fast.mineEqFR_eq, Fast.mineTb_eq]
  delta Fast.mineEqFR
  show _ = _
  kernel_rfl
theorem lk0_holds (w : World) : lk0R w := by
  rw [Fast.mineLk0R_eq]
  delta Fast.mineLk0R
  show _ = _
  kernel_rfl
theorem lk1_holds (w : World) : lk1R w PySem.Challenge.pw_rt0114_01 (H1 w.params) := by
  rw [Fast.mineLk1R_eq]
  delta Fast.mineLk1R
  show _ = _
  kernel_rfl
theorem lk2_holds (w : World) : lk2R w PySem.Challenge.pw_rt0114_01 q loose (H1 w.params) := by
  rw [Fast.mineLk2R_eq]
  delta Fast.mineLk2R
  show _ = _
  kernel_rfl
theorem all_holds (w : World) : eqR treeTable w 2451 (atree_4 w.params) (btree_466 w.params) 15 315 187 680 (allS docT) aenv_1 { line := 0, col := 0, endLine := 0, endCol := 0 } { line := 528, col := 0, endLine := 559, endCol := 82 } := by
  rw [Fast.mineEqR_eq, tbOf_eq, Fast.mineTb_eq, Fast.mineNew_eq]
  delta Fast.mineNew
  delta Fast.tw4202317264376624991
  rw [anyA_eq]
  delta Fast.mineEqR
  show _ = _
  kernel_rfl
theorem kas_ok : ∀ P, Kas = (K P).map (·.1) := fun _ => by kernel_rfl
theorem hook_ok (P : Params) : Kas.map (H1 P).get? = (K P).map fun p => some p.2 := by kernel_rfl
theorem run (w : World) (os : OsState) : topRun treeTable PySem.Challenge.pw_rt0114_01 w 11 (some (Value.ref 6)) (12 + (1 + (2451 + 2))) ⟨boot_heap w.params, ⟨[]⟩, boot_drawn, boot_toks, os⟩ (topStub PySem.Challenge.pw_rt0114_01) =
    some ⟨H1 w.params, ⟨[]⟩, {}, 680, os⟩ := by
  refine go_top (congrFun (eq0_holds w) os) ?_
  refine piece_block (congrFun (eqB_holds w) os) ?_
  refine (congrArg (fun l => topRun treeTable PySem.Challenge.pw_rt0114_01 w 11 (some (Value.ref 6)) _ _ (restOf l aenv_1 (Code.body bE aenv_1) ⟨0, 0, 0, 0⟩ [topFrame ⟨0, 0, 0, 0⟩])) parts).trans ?_
  refine piece_app (segRun_of (congrFun (congrFun (congrFun (all_holds w) PySem.Challenge.pw_rt0114_01) bE) os)) ?_
  exact piece_nil (congrFun (eqF_holds w) os)
theorem opening_ok : opening PySem.Challenge.pw_rt0114_01 = plainProg PySem.Challenge.pw_rt0114_01.main.scope.names := by kernel_rfl
theorem fence_ok (s : Shared) : fenceModules? PySem.Challenge.pw_rt0114_01 s = some s := by kernel_rfl
theorem left : LeftO PySem.Challenge.pw_rt0114_01 q loose (fun s => xlAt q [] s && recOk [] s) (Hook.obs (kHook K Kas kas_ok)) (Hook.val (kHook K Kas kas_ok)) 5018 :=
  LeftO.of_pieces (H₀ := boot_heap) (H₁ := H1) (gs₀ := ⟨[]⟩) (gs₁ := ⟨[]⟩) (d₀ := boot_drawn) (d₁ := {}) (k₀ := boot_toks) (k₁ := 680) (m₀ := 11) (ann := some (Value.ref 6)) (M := 12 + (1 + (2451 + 2)))
    (boot_open opening_ok (by decide) fence_ok) (fun w => lk0_holds w) run (by decide)
    (fun w => funext fun os => Prod.ext (congrFun (lk1_holds w) os) (Prod.ext (congrFun (lk2_holds w) os) (hook_ok w.params)))
end
end Mine

end THdN
section TMyA
open PySem PySem.W PyProof.Rows PySem.Calls PySem.Spec
set_option Elab.async false
set_option maxRecDepth 100000
set_option maxHeartbeats 0
namespace Mine
theorem callX_ext {prog : Program} {w : World} {A₀ A : Around} {s : Shared} {base h₀ : Heap} {outer : List Env} {L : Addr} {m : Str → Option Value} {env : Env} {news : List (Addr × Obj)}
    {R : Result → Shared → Prop} {name qual : Str} {params : Arguments} {body : List Stmt} {scope : Scope} {dV kV doc pm cdv ct oc : Value} {an od : Option Addr} {osl : Array (Option Value)} {f : Addr} {args : Args} {binds : List (Str × Value)} {K : Frag}
    {p : Program} {loose : List Str} {mean : ExcName → Option Value} {mg mb : Str → Option Value}
    (B : Below A₀ base outer h₀) (F : Fr h₀ L s.heap m) (X₀ : K.In h₀) (N : News h₀ L s.heap news) (T : Top p loose mean mg mb h₀) (hA : A.frames = some (env :: outer)) (hf : env.frame = some L) (hke : env.scope.kind = .function)
    (ho : K.lookup f = some ⟨oc, od, .func (fnOf name qual params body scope dV kV doc pm an cdv ct), osl⟩) (hcd : codeIn K cdv qual = true) (hroom : A.depth < recursionLimit)
    (hbind : BindsTo s (fnOf name qual params body scope dV kV doc pm an cdv ct) args binds) (hloc : ∀ y ∈ binds, scope.names.lookup y.1 = some .local)
    (h : ∀ g L' h₁, Fr h₀ L g m → Fr g L' h₁ (fun y => binds.reverse.lookup y) → News g L' h₁ news → Below A base (env :: outer) g → K.In g → Top p loose mean mg mb g →
      (∀ b o, b ∉ news.map (·.1) → s.heap.get? b = some o → g.get? b = some o) → L' = s.heap.objs.size →
      wpAny (model prog w) (A.deeper (envOf qual scope L' f cdv)) (execs body (envOf qual scope L' f cdv))
        (fun fl s' => LeaveK h₀ L m g R (match fl with | .ret v => v | _ => .none) s')
        (fun e s' => wpAny (model prog w) (A.deeper (envOf qual scope L' f cdv)) («leaving» (envOf qual scope L' f cdv) e) (fun _ s'' => R (.error e) s'') (fun e' s'' => R (.error e') s'') s')
        { s with heap := h₁, toks := s.toks + binds.length })
    (hco : scope.isCoroutine = false) (hgen : scope.isGenerator = false) (hk : scope.kind = .function)
    (hcell : ∀ x ∈ scope.names, x.2 ≠ .cell) : codeAny (model prog w) A (.call (.ref f) args) R s := by
  obtain ⟨FG, BG, st, lv⟩ := groundX (R := R) B F N hA hf hke
  refine codeAny_call_def (fd := fnX name qual params body scope [] dV kV doc pm an cdv ct) (body := body) (binds := binds) hroom ((X₀.keeps F.keep) _ _ ho) rfl (T.nolimit.keeps F.keep) (codeRec_of (X₀.keeps F.keep) hcd) rfl hbind hcell hloc (fun h₁ hns hk₁ => ?_) hco hgen hk
  exact wpAny_mono (h _ s.heap.objs.size h₁ FG ⟨hns, fun b o e => hk₁ b o (of_hideAll _ e), Nat.le_of_eq (hideAll_size _ _)⟩
    (fun p hp => ⟨hk₁ _ _ (N p hp).1, Nat.ne_of_lt (Heap.lt_size (N p hp).1), hideAll_none _ (List.mem_map_of_mem hp)⟩) BG (X₀.keeps st) (T.keeps st)
    (fun b o hb e => hideAll_get _ e hb) rfl) (fun fl s' hl => lv _ _ hl) fun _ _ y => y
end Mine

end TMyA
section TMyB
open PySem PySem.W PyProof.Rows PySem.Calls
set_option Elab.async false
set_option maxRecDepth 100000
namespace Mine
abbrev boundObj (id : String) (self : Value) : Obj := { cls := .type "builtin_function_or_method", data := .fields #[.builtin id, self] }
theorem kind_dget : builtinKind "dict.get" = some .method := by decide +kernel
theorem vararg_dget : Manifest.varargsMethods.contains "dict.get" = false := by decide +kernel
theorem kind_scont : builtinKind "set.__contains__" = some .method := by decide +kernel
noncomputable def sigOf (id : String) : Manifest.Signature := (Manifest.signature? id).getD ⟨.hand, "", "", .none, []⟩
theorem sig_dget : Manifest.signature? "dict.get" = some (sigOf "dict.get") := by unfold sigOf; first | kernel_rfl | rfl
theorem last_dget : Bind.lastOf "dict.get" = "get" := by decide +kernel
theorem chk_dget {d : Addr} {key dflt : Value} : Bind.checkArgs "dict.get" { sigOf "dict.get" with full := s!"{Bind.lastOf "dict"}.{"get"}" } ⟨[.ref d, key, dflt], []⟩ = pure () := by kernel_rfl
theorem sub_dict_module : isSubtype (.type "dict") (.type "module") = pure false := by rw [isSubtype_type]; kernel_rfl
noncomputable def isClsObj (o : Obj) : Bool := match o.data with | .cls _ => true | _ => false
theorem sig_scont : Manifest.signature? "set.__contains__" = some (sigOf "set.__contains__") := by unfold sigOf; first | kernel_rfl | rfl
theorem vararg_scont : Manifest.varargsMethods.contains "set.__contains__" = false := by decide +kernel
theorem chk_scont {d : Addr} {key : Value} : Bind.checkArgs "set.__contains__" { sigOf "set.__contains__" with full := s!"{Bind.lastOf "set"}.{Bind.lastOf "set.__contains__"}" } ⟨[.ref d, key], []⟩ = pure () := by kernel_rfl
theorem sub_set_module : isSubtype (.type "set") (.type "module") = pure false := by rw [isSubtype_type]; kernel_rfl
theorem slot_md_get : Slot "method_descriptor" "__get__" "method_descriptor.__get__" :=
  .of (owner := "method_descriptor") (n := "__get__") (by rw [typeLookup_type, builtinLookup_eq_fast]; kernel_rfl) (by decide +kernel) (by decide +kernel) (by decide +kernel)
    (by first | exact .inl (by decide +kernel) | exact .inr (by decide +kernel)) (by rw [isSubtype_type]; kernel_rfl)
theorem entry_md_get : entryFor table "method_descriptor.__get__" = some Builtin.«method_descriptor.__get__» := entryFor_of_tree (by kernel_rfl)
theorem args_md_get (a b c : Value) : argsOk "method_descriptor.__get__" ⟨[a, b, c], []⟩ := by unfold argsOk; kernel_rfl
theorem entry_dict_ga : entryFor table "dict.__getattribute__" = some Builtin.«object.__getattribute__» :=
  entryFor_alias (id' := "object.__getattribute__") (by rw [fastTable_eq_tree]; kernel_rfl) (by first | rfl | decide +kernel) (by decide +kernel) (by rw [fastTable_eq_tree]; kernel_rfl)
theorem entry_set_ga : entryFor table "set.__getattribute__" = some Builtin.«object.__getattribute__» :=
  entryFor_alias (id' := "object.__getattribute__") (by rw [fastTable_eq_tree]; kernel_rfl) (by first | rfl | decide +kernel) (by decide +kernel) (by rw [fastTable_eq_tree]; kernel_rfl)
theorem lk_md_get : typeLookup (.type "method_descriptor") "__get__" = pure (some (.builtin "method_descriptor.__get__")) := by rw [typeLookup_type, builtinLookup_eq_fast]; kernel_rfl
theorem lk_md_set : typeLookup (.type "method_descriptor") "__set__" = pure none := by rw [typeLookup_type, builtinLookup_eq_fast]; kernel_rfl
theorem lk_md_del : typeLookup (.type "method_descriptor") "__delete__" = pure none := by rw [typeLookup_type, builtinLookup_eq_fast]; kernel_rfl
theorem told_scont : Manifest.toldItsClass.contains "set.__contains__" = false := by decide +kernel
theorem told_dget : Manifest.toldItsClass.contains "dict.get" = false := by decide +kernel
section
variable {prog : Program} {w : World} {M : Model} {A : Around} {E : Value → Shared → Prop} {s : Shared}
theorem chkb {id T : String} {sig : Manifest.Signature} {d : Addr} {o : Obj} {args : List Value} {Q : Unit → Shared → Prop}
    (hs : Manifest.signature? id = some sig) (hk : builtinKind id = some .method) (hv : Manifest.varargsMethods.contains id = false) (hm : isSubtype (.type T) (.type "module") = pure false)
    (hchk : Bind.checkArgs id { sig with full := s!"{Bind.lastOf T}.{Bind.lastOf id}" } ⟨.ref d :: args, []⟩ = pure ())
    (ho : s.heap.get? d = some o) (hc : o.cls = .type T) (hn : isClsObj o = false) (h : Q () s) :
    wpAny M A (checkBoundCall id ⟨.ref d :: args, []⟩) Q E s := by
  have hT : s.TypeIs (.ref d) T := ⟨o, ho, hc⟩
  unfold checkBoundCall
  rw [hs]
  simp only [hk, hv]
  refine KFB.if_not (by decide) ?_
  refine wpAny_bind (wpAny_isInstance hT hm ?_)
  refine KFB.if_not rfl ?_
  refine wpAny_bind ?_
  unfold isType loadHead
  refine wpAny_bind (wpAny_loadPart ho ?_)
  refine wpAny_pure ?_
  refine KFB.if_not hn ?_
  refine wpAny_bind (wpAny_typeOf hT ?_)
  dsimp only
  exact wpAny_of_eq hchk h
theorem bound_call {id : String} {self : Value} {q : Addr} {args : List Value} {B : Builtin} {S : PySem.Spec} {Q : Value → Shared → Prop} (ho : s.heap.get? q = some (boundObj id self))
    (hq : ∀ as, (Code.builtin id as).quiet = true) (entry : entryFor table id = some B) (hp : plainId id = true)
    (hc : ∀ {Q' : Unit → Shared → Prop} {E' : Value → Shared → Prop}, Q' () s → wpAny (model prog w) A.in1 (checkBoundCall id ⟨self :: args, []⟩) Q' E' s)
    (g : MeetsIn prog w (B ⟨self :: args, []⟩) S) (h : S A (wants Q E) s) :
    wpAny (model prog w) A (call (.ref q) args) Q E s := by
  refine wpAny_call (codeAny_of_tree ?_)
  show wpAny _ A.in1 (callAny (.ref q) ⟨args, []⟩) _ _ s
  simp only [callAny]
  refine wpAny_bind (wpAny_load ho ?_)
  simp only [boundObj, show (Value.type "builtin_function_or_method" == Value.type "method" || Value.type "builtin_function_or_method" == Value.type "builtin_function_or_method" || Value.type "builtin_function_or_method" == Value.type "method-wrapper") = true by decide, if_true]
  refine KFB.if_so (by decide) ?_
  refine wpAny_bind (hc ?_)
  refine wpAny_bind (wpAny_pure (wpAny_pure ?_))
  refine ⟨hq _, ?_⟩
  have hfin := g A (wants Q E) s h
  refine codeAny_builtin entry ?_
  rw [Around.under_plainId hp]
  exact wpAny_mono hfin (fun f s' z => z) (fun _ _ z => z)
theorem bound_call2 {id T : String} {sig : Manifest.Signature} {d q : Addr} {o : Obj} {args : List Value} {B : Builtin} {S : PySem.Spec} {Q : Value → Shared → Prop} (ho : s.heap.get? q = some (boundObj id (.ref d)))
    (hq : ∀ as, (Code.builtin id as).quiet = true) (entry : entryFor table id = some B) (hp : plainId id = true)
    (hs : Manifest.signature? id = some sig) (hk : builtinKind id = some .method) (hv : Manifest.varargsMethods.contains id = false) (hm : isSubtype (.type T) (.type "module") = pure false)
    (hchk : Bind.checkArgs id { sig with full := s!"{Bind.lastOf T}.{Bind.lastOf id}" } ⟨.ref d :: args, []⟩ = pure ())
    (h1 : s.heap.get? d = some o) (hc : o.cls = .type T) (hn : isClsObj o = false)
    (g : MeetsIn prog w (B ⟨.ref d :: args, []⟩) S) (h : S A (wants Q E) s) :
    wpAny (model prog w) A (call (.ref q) args) Q E s :=
  bound_call ho hq entry hp (fun hq' => chkb hs hk hv hm hchk h1 hc hn hq') g h
theorem dget_bound {K : Type} [DecidableEq K] {knd : KeyKind prog w K} {q d : Addr} {key dflt : Value} {k : K} {f : K → Option Value} {Q : Value → Shared → Prop}
    (ho : s.heap.get? q = some (boundObj "dict.get" (.ref d))) (hm : s.heap.MapOf knd d f) (hkey : knd.is k key = true) (hd : (d == sysModules) = false)
    (h : Q ((f k).getD dflt) { s with toks := s.toks + 1 }) : wpAny (model prog w) A (call (.ref q) [key, dflt]) Q E s := by
  obtain ⟨o, es, n, h1, ⟨h2, h3, h4⟩, h5⟩ := id hm
  refine bound_call2 (T := "dict") ho (fun as => Code.quiet_builtin _ (by decide +kernel)) F.entry_dict_get (by decide +kernel) sig_dget kind_dget vararg_dget sub_dict_module ?_ h1 ?_ ?_ (meets_dict_get_default knd d hkey hd dflt) ⟨f, hm, h⟩
  · exact chk_dget
  · exact h2
  · unfold isClsObj; rw [h5.1]
set_option maxHeartbeats 2000000 in
theorem scont_bound {K : Type} [DecidableEq K] {knd : KeyKind prog w K} {q a : Addr} {key : Value} {k : K} {S : K → Bool} {n : Nat} {Q : Value → Shared → Prop}
    (ho : s.heap.get? q = some (boundObj "set.__contains__" (.ref a))) (hS : s.heap.SetOf knd a S n) (hkey : knd.is k key = true) (hsc : key.scannable = true)
    (h : Q (.bool (S k)) { s with toks := s.toks + 1 }) : wpAny (model prog w) A (call (.ref q) [key]) Q E s := by
  obtain ⟨o, es, ep, st, h1, ⟨h2, h3, h4⟩, h5, hrest⟩ := id hS
  have body : MeetsIn prog w (Builtin.«frozenset.__contains__» ⟨[.ref a, key], []⟩) (fun _ R s' => s' = s ∧ R (.ok (.ret (.bool (S k)))) { s' with toks := s'.toks + 1 }) := by
    rintro A' R s' ⟨rfl, hR⟩
    unfold Builtin.«frozenset.__contains__» Builtin.Frozenset.oneOther
    simp only [List.isEmpty_nil, bind_assoc]
    unfold Builtin.Frozenset.addrOf Builtin.Frozenset.withSetAsKey setContains
    refine wpAny_bind (wpAny_pure ?_)
    try dsimp only
    refine wpAny_bind (wpAny_pure ?_)
    try dsimp only
    refine wpAny_bind (wpAny_tryCatch ?_)
    refine wpAny_holding ?_
    refine wpAny_bind (knd.pyHash hkey ?_)
    refine wpAny_bind (wpAny_setFind_of (s := { s' with toks := s'.toks + 1 }) hkey hsc hS fun r hr => ?_)
    refine wpAny_pure ?_
    show wpAny _ _ (ret (Value.bool r.isSome)) _ _ _
    rw [hr]
    exact wpAny_pure hR
  refine bound_call2 (T := "set") ho (fun as => Code.quiet_builtin _ (by decide +kernel)) entry_set_contains (by decide +kernel) sig_scont kind_scont vararg_scont sub_set_module ?_ h1 ?_ ?_ body ⟨rfl, h⟩
  · exact chk_scont
  · exact h2
  · unfold isClsObj; rw [h5]
theorem lk_dict_get : typeLookup (.type "dict") "get" = pure (some (.builtin "dict.get")) := by rw [typeLookup_type, builtinLookup_eq_fast]; kernel_rfl
theorem ty_dict_get : typeOf (.builtin "dict.get") = pure (.type "method_descriptor") := by show builtinType _ = _; rw [builtinType_eq_fast]; kernel_rfl
theorem sub_dict_dict : isSubtype (.type "dict") (.type "dict") = pure true := by rw [isSubtype_type]; kernel_rfl
noncomputable def kfbCheck (d obj : Value) : Sem Unit := (kfb_private% "checkInstance") d obj
theorem bindBuiltin_eq (T : String) (d obj : Value) : (kfb_private% "bindBuiltin") T d (some obj) = (do kfbCheck d obj; ret (← newFields T [d, obj])) := rfl
theorem checkInstance_eq (d obj : Value) : (kfb_private% "checkInstance") d obj = (do
  let (name, cls) ← (kfb_private% "nameAndClass") d
  if !(← isInstance obj cls) then
    rule "descr.get.wrong-instance"
    raiseError "TypeError" s!"descriptor '{name.toString}' for '{← typeName cls}' objects doesn't apply to a '{← typeNameOf obj}' object") := rfl
theorem get_dict_get {h : Heap} {g : Array GenState} {dr : Drawn} {t : Nat} {os : OsState} {a : Addr} {o : Obj} {R : Result → Shared → Prop} (hx : h.get? a = some o) (hc : o.cls = .type "dict")
    (hq : R (.ok (.ret (.ref h.objs.size))) ⟨h.push (boundObj "dict.get" (.ref a)), g, dr, t, os⟩) :
    codeAny (model prog w) A (.call (.builtin "method_descriptor.__get__") ⟨[.builtin "dict.get", .ref a, .type "dict"], []⟩) R ⟨h, g, dr, t, os⟩ := by
  have hT : (⟨h, g, dr, t, os⟩ : Shared).TypeIs (.ref a) "dict" := ⟨_, hx, hc⟩
  have hT5 : (⟨h, g, dr, t, os⟩ : Shared).TypeIs (.builtin "dict.get") "method_descriptor" := ty_dict_get
  refine codeAny_call_builtin slot_md_get.plain entry_md_get (slot_md_get.check _ _ _ _ _ _ _ _ hT5 (args_md_get _ _ _) ?_)
  unfold Builtin.«method_descriptor.__get__»
  refine wpAny_bind (wpAny_of_eq (a := (.builtin "dict.get", some (.ref a), some (.type "dict"))) (by kernel_rfl) ?_)
  simp only [told_dget]
  refine KFB.if_not rfl ?_
  rw [bindBuiltin_eq]
  refine wpAny_bind ?_
  unfold kfbCheck
  rw [checkInstance_eq]
  simp only [bind_assoc]
  refine wpAny_bind (wpAny_of_eq (a := (Str.ofString "get", Value.type "dict")) (by kernel_rfl) ?_)
  dsimp only
  refine wpAny_bind (wpAny_isInstance hT sub_dict_dict ?_)
  refine KFB.if_not rfl ?_
  refine wpAny_pure ?_
  refine wpAny_bind (wpAny_newObj_type (wpAny_pure hq))
section
variable {h : Heap} {g : Array GenState} {dr : Drawn} {t : Nat} {os : OsState} {a : Addr} {o : Obj}
theorem entry_dict_get_attr {tk : Tok} {Q : Fin → Shared → Prop} (hx : h.get? a = some o) (hc : o.cls = .type "dict") (hd : o.dict = none) (hcl : isClsObj o = false)
    (hq : Q (.done (.ret (.ref h.objs.size))) ⟨h.push (boundObj "dict.get" (.ref a)), g, dr, t, os⟩) :
    wpAny (model prog w) A (Builtin.«object.__getattribute__» ⟨[.ref a, .str "get" tk], []⟩) Q E ⟨h, g, dr, t, os⟩ := by
  have hT : (⟨h, g, dr, t, os⟩ : Shared).TypeIs (.ref a) "dict" := ⟨_, hx, hc⟩
  have hT5 : (⟨h, g, dr, t, os⟩ : Shared).TypeIs (.builtin "dict.get") "method_descriptor" := ty_dict_get
  have f4 := lk_dict_get
  have f5 := ty_dict_get
  have f6 := lk_md_get
  have f7 := lk_md_set
  have f8 := lk_md_del
  have hn : ∀ c, o.data ≠ .cls c := by intro c e; unfold isClsObj at hcl; rw [e] at hcl; cases hcl
  repeat (any_goals (first | assumption | wp_step))
  split
  · rename_i c hc'; exact absurd hc' (hn _)
  repeat (any_goals (first | assumption | wp_step))
  rw [hc]
  dsimp only
  rw [hd]
  dsimp only
  refine KFB.if_so rfl ?_
  repeat (any_goals (first | assumption | wp_step))
  refine get_dict_get hx hc ?_
  repeat (any_goals (first | assumption | wp_step))
theorem call_dict_get_attr {tk : Tok} {R : Result → Shared → Prop} (hx : h.get? a = some o) (hc : o.cls = .type "dict") (hd : o.dict = none) (hcl : isClsObj o = false)
    (hq : R (.ok (.ret (.ref h.objs.size))) ⟨h.push (boundObj "dict.get" (.ref a)), g, dr, t, os⟩) :
    codeAny (model prog w) A (.call (.builtin "dict.__getattribute__") ⟨[.ref a, .str "get" tk], []⟩) R ⟨h, g, dr, t, os⟩ :=
  codeAny_call_builtin F.slot_dict_getattribute.plain entry_dict_ga (F.slot_dict_getattribute.check _ _ _ _ _ _ _ _ (show (⟨h, g, dr, t, os⟩ : Shared).TypeIs (.ref a) "dict" from ⟨_, hx, hc⟩) (F.args_dict_getattribute_2 _ _) (entry_dict_get_attr hx hc hd hcl hq))
theorem attr_dict_get {expr : Bool} {Q : Value → Shared → Prop} (hx : h.get? a = some o) (hc : o.cls = .type "dict") (hd : o.dict = none) (hcl : isClsObj o = false)
    (hq : Q (.ref h.objs.size) ⟨h.push (boundObj "dict.get" (.ref a)), g, dr, t + 1, os⟩) : wpAny (model prog w) A (getAttr (.ref a) (Str.ofString "get") expr) Q E ⟨h, g, dr, t, os⟩ := by
  have hT : (⟨h, g, dr, t + 1, os⟩ : Shared).TypeIs (.ref a) "dict" := ⟨_, hx, hc⟩
  have f2 := F.slot_dict_getattribute.lookup
  have f3 := F.slot_dict_getattribute.bind (.ref a)
  have hx0 : (expr && onTheHeap (Value.builtin "dict.__getattribute__")) = false := by cases expr <;> rfl
  repeat (any_goals (first | assumption | wp_step))
  refine call_dict_get_attr hx hc hd hcl ?_
  repeat (any_goals (first | assumption | wp_step))
end
theorem lk_set_cont : typeLookup (.type "set") "__contains__" = pure (some (.builtin "set.__contains__")) := by rw [typeLookup_type, builtinLookup_eq_fast]; kernel_rfl
theorem ty_set_cont : typeOf (.builtin "set.__contains__") = pure (.type "method_descriptor") := by show builtinType _ = _; rw [builtinType_eq_fast]; kernel_rfl
theorem sub_set_set : isSubtype (.type "set") (.type "set") = pure true := by rw [isSubtype_type]; kernel_rfl
theorem get_set_cont {h : Heap} {g : Array GenState} {dr : Drawn} {t : Nat} {os : OsState} {a : Addr} {o : Obj} {R : Result → Shared → Prop} (hx : h.get? a = some o) (hc : o.cls = .type "set")
    (hq : R (.ok (.ret (.ref h.objs.size))) ⟨h.push (boundObj "set.__contains__" (.ref a)), g, dr, t, os⟩) :
    codeAny (model prog w) A (.call (.builtin "method_descriptor.__get__") ⟨[.builtin "set.__contains__", .ref a, .type "set"], []⟩) R ⟨h, g, dr, t, os⟩ := by
  have hT : (⟨h, g, dr, t, os⟩ : Shared).TypeIs (.ref a) "set" := ⟨_, hx, hc⟩
  have hT5 : (⟨h, g, dr, t, os⟩ : Shared).TypeIs (.builtin "set.__contains__") "method_descriptor" := ty_set_cont
  refine codeAny_call_builtin slot_md_get.plain entry_md_get (slot_md_get.check _ _ _ _ _ _ _ _ hT5 (args_md_get _ _ _) ?_)
  unfold Builtin.«method_descriptor.__get__»
  refine wpAny_bind (wpAny_of_eq (a := (.builtin "set.__contains__", some (.ref a), some (.type "set"))) (by kernel_rfl) ?_)
  simp only [told_scont]
  refine KFB.if_not rfl ?_
  rw [bindBuiltin_eq]
  refine wpAny_bind ?_
  unfold kfbCheck
  rw [checkInstance_eq]
  simp only [bind_assoc]
  refine wpAny_bind (wpAny_of_eq (a := (Str.ofString "__contains__", Value.type "set")) (by kernel_rfl) ?_)
  dsimp only
  refine wpAny_bind (wpAny_isInstance hT sub_set_set ?_)
  refine KFB.if_not rfl ?_
  refine wpAny_pure ?_
  refine wpAny_bind (wpAny_newObj_type (wpAny_pure hq))
section
variable {h : Heap} {g : Array GenState} {dr : Drawn} {t : Nat} {os : OsState} {a : Addr} {o : Obj}
theorem entry_set_cont_attr {tk : Tok} {Q : Fin → Shared → Prop} (hx : h.get? a = some o) (hc : o.cls = .type "set") (hd : o.dict = none) (hcl : isClsObj o = false)
    (hq : Q (.done (.ret (.ref h.objs.size))) ⟨h.push (boundObj "set.__contains__" (.ref a)), g, dr, t, os⟩) :
    wpAny (model prog w) A (Builtin.«object.__getattribute__» ⟨[.ref a, .str "__contains__" tk], []⟩) Q E ⟨h, g, dr, t, os⟩ := by
  have hT : (⟨h, g, dr, t, os⟩ : Shared).TypeIs (.ref a) "set" := ⟨_, hx, hc⟩
  have hT5 : (⟨h, g, dr, t, os⟩ : Shared).TypeIs (.builtin "set.__contains__") "method_descriptor" := ty_set_cont
  have f4 := lk_set_cont
  have f5 := ty_set_cont
  have f6 := lk_md_get
  have f7 := lk_md_set
  have f8 := lk_md_del
  have hn : ∀ c, o.data ≠ .cls c := by intro c e; unfold isClsObj at hcl; rw [e] at hcl; cases hcl
  repeat (any_goals (first | assumption | wp_step))
  split
  · rename_i c hc'; exact absurd hc' (hn _)
  repeat (any_goals (first | assumption | wp_step))
  rw [hc]
  dsimp only
  rw [hd]
  dsimp only
  refine KFB.if_so rfl ?_
  repeat (any_goals (first | assumption | wp_step))
  refine get_set_cont hx hc ?_
  repeat (any_goals (first | assumption | wp_step))
theorem call_set_cont_attr {tk : Tok} {R : Result → Shared → Prop} (hx : h.get? a = some o) (hc : o.cls = .type "set") (hd : o.dict = none) (hcl : isClsObj o = false)
    (hq : R (.ok (.ret (.ref h.objs.size))) ⟨h.push (boundObj "set.__contains__" (.ref a)), g, dr, t, os⟩) :
    codeAny (model prog w) A (.call (.builtin "set.__getattribute__") ⟨[.ref a, .str "__contains__" tk], []⟩) R ⟨h, g, dr, t, os⟩ :=
  codeAny_call_builtin F.slot_set_getattribute.plain entry_set_ga (F.slot_set_getattribute.check _ _ _ _ _ _ _ _ (show (⟨h, g, dr, t, os⟩ : Shared).TypeIs (.ref a) "set" from ⟨_, hx, hc⟩) (F.args_set_getattribute_2 _ _) (entry_set_cont_attr hx hc hd hcl hq))
theorem attr_set_cont {expr : Bool} {Q : Value → Shared → Prop} (hx : h.get? a = some o) (hc : o.cls = .type "set") (hd : o.dict = none) (hcl : isClsObj o = false)
    (hq : Q (.ref h.objs.size) ⟨h.push (boundObj "set.__contains__" (.ref a)), g, dr, t + 1, os⟩) : wpAny (model prog w) A (getAttr (.ref a) (Str.ofString "__contains__") expr) Q E ⟨h, g, dr, t, os⟩ := by
  have hT : (⟨h, g, dr, t + 1, os⟩ : Shared).TypeIs (.ref a) "set" := ⟨_, hx, hc⟩
  have f2 := F.slot_set_getattribute.lookup
  have f3 := F.slot_set_getattribute.bind (.ref a)
  have hx0 : (expr && onTheHeap (Value.builtin "set.__getattribute__")) = false := by cases expr <;> rfl
  repeat (any_goals (first | assumption | wp_step))
  refine call_set_cont_attr hx hc hd hcl ?_
  repeat (any_goals (first | assumption | wp_step))
end
section
variable {h₀ : Heap} {L : Addr} {m : Str → Option Value} {news : List (Addr × Obj)}
theorem attr_dget_N {d : Addr} {o : Obj} {expr : Bool} {Q : Value → Shared → Prop} (F : Fr h₀ L s.heap m) (N : News h₀ L s.heap news) (hm : (d, o) ∈ news) (hc : o.cls = .type "dict") (hd : o.dict = none) (hcl : isClsObj o = false)
    (h : ∀ q h', Fr h₀ L h' m → News h₀ L h' ((q, boundObj "dict.get" (.ref d)) :: news) → (∀ p ∈ news, p.1 < q) → Q (.ref q) { s with heap := h', toks := s.toks + 1 }) :
    wpAny (model prog w) A (getAttr (.ref d) (Str.ofString "get") expr) Q E s :=
  attr_dict_get (N.get hm) hc hd hcl (h _ _ (F.push _) (N.push F _) fun p hp => Heap.lt_size (N p hp).1)
theorem attr_scont_N {d : Addr} {o : Obj} {expr : Bool} {Q : Value → Shared → Prop} (F : Fr h₀ L s.heap m) (N : News h₀ L s.heap news) (hm : (d, o) ∈ news) (hc : o.cls = .type "set") (hd : o.dict = none) (hcl : isClsObj o = false)
    (h : ∀ q h', Fr h₀ L h' m → News h₀ L h' ((q, boundObj "set.__contains__" (.ref d)) :: news) → (∀ p ∈ news, p.1 < q) → Q (.ref q) { s with heap := h', toks := s.toks + 1 }) :
    wpAny (model prog w) A (getAttr (.ref d) (Str.ofString "__contains__") expr) Q E s :=
  attr_set_cont (N.get hm) hc hd hcl (h _ _ (F.push _) (N.push F _) fun p hp => Heap.lt_size (N p hp).1)
noncomputable def BoundAt (x : Addr) (id : String) (self : Value) (h : Heap) : Prop := h.get? x = some (boundObj id self)
theorem boundAt_of {x : Addr} {id : String} {self : Value} {h : Heap} (N : News h₀ L h news) (hm : (x, boundObj id self) ∈ news) : BoundAt x id self h := N.get hm
theorem callWith_bd0 {pos : Pos} {u : Addr} {id : String} {self : Value} {first : List Value} {args : List (Bool × Sem Value)} {Q : Value → Shared → Prop} (hplain : args.any (·.1) = false)
    (h : wpAny M A (evalArgs (.ref u) true args []) (fun x s₁ => BoundAt u id self s₁.heap ∧ wpAny M A (call (.ref u) (first ++ x.pos) x.kw) Q E s₁) E s) : wpAny M A (callWith pos (.ref u) first args []) Q E s := by
  unfold callWith
  refine wpAny_bind (wpAny_holding (wpAny_mono h (fun x s₁ h₁ => wpAny_bind (wpAny_standAt ?_)) fun _ _ x => x))
  obtain ⟨ho, hcall⟩ := h₁
  simp only [hplain, List.any_nil, Bool.or_false]
  refine wpAny_bind (m := keeperOf (.ref u)) ?_
  unfold keeperOf
  refine wpAny_bind (wpAny_load ho ?_)
  simp only [show (Value.type "builtin_function_or_method" != Value.type "method") = true by decide, show (Value.type "builtin_function_or_method" == Value.type "builtin_function_or_method" || Value.type "builtin_function_or_method" == Value.type "method-wrapper") = true by decide, if_true]
  refine wpAny_pure ?_
  exact wpAny_bind (wpAny_mono hcall (fun r s₂ hr => wpAny_bind (wpAny_holding (wpAny_point (wpAny_pure hr)))) fun _ _ x => x)
theorem callWith_bd {pos : Pos} {u : Addr} {id : String} {self : Value} {first : List Value} {env : Env} {e : Expr} {rest : List Expr} {Q : Value → Shared → Prop} (_N : News h₀ L s.heap news) (_hm : (u, boundObj id self) ∈ news)
    (h : wpAny M A (spliced (backTo pos (starEach (e :: rest) env))) (fun vs s₁ => BoundAt u id self s₁.heap ∧ wpAny M A (call (.ref u) (first ++ vs)) Q E s₁) E s)
    (he : starEach (e :: rest) env = (false, eval e env) :: starEach rest env := by rfl) (hplain : (backTo pos (starEach rest env)).any (·.1) = false := by rfl) :
    wpAny M A (callWith pos (.ref u) first (backTo pos (starEach (e :: rest) env)) []) Q E s := by
  rw [he] at h ⊢
  refine callWith_bd0 (id := id) (self := self) (by show (false || (backTo pos (starEach rest env)).any (·.1)) = false; rw [hplain]; rfl) ?_
  exact evalArgs_plain h
end
end
end Mine

end TMyB
section TMyC
open PySem PySem.W PyProof.Rows PySem.Calls
set_option Elab.async false
set_option maxRecDepth 100000
namespace Mine
noncomputable def LEnd {σ : Type} (h₀ : Heap) (L : Addr) (ps : σ → List (Str × Value)) (Led : σ → List (Addr × Obj)) (x : Str) (stored : List Str) (m₀ : Str → Option Value) (Inv : σ → Prop) (own : List (Addr × Obj)) (s₁ s₂ : Shared) : Prop :=
  ∃ c : σ, ∃ h' tk m' news', s₂ = { s₁ with heap := h', toks := tk } ∧ Fr h₀ L h' m' ∧ News h₀ L h' news' ∧ (∀ p ∈ Led c, p ∈ news') ∧ (∀ p ∈ own, p ∈ news') ∧ (∀ p ∈ own, ∀ q ∈ Led c, p.1 ≠ q.1) ∧
    (∀ p ∈ ps c, m' p.1 = some p.2) ∧ (∀ z, z ≠ x → (∀ p ∈ ps c, z ≠ p.1) → stored.contains z = false → m' z = m₀ z) ∧ Inv c
noncomputable def LPost {σ : Type} (h₀ : Heap) (L : Addr) (ps : σ → List (Str × Value)) (Led : σ → List (Addr × Obj)) (x : Str) (stored : List Str) (m₀ : Str → Option Value) (Inv : σ → Prop) (own : List (Addr × Obj)) (s₁ : Shared) (B : σ → Prop) (R : Value → Shared → Prop) (f : Flow) (s₂ : Shared) : Prop :=
  match f with
  | .ret v => R v s₂
  | .brk => LEnd h₀ L ps Led x stored m₀ B own s₁ s₂
  | _ => LEnd h₀ L ps Led x stored m₀ Inv own s₁ s₂
section
variable {prog : Program} {w : World} {A : Around} {E : Value → Shared → Prop} {s : Shared} {env : Env} {h₀ : Heap} {x : Str} {body : List Stmt} {Q : Flow → Shared → Prop}
theorem my_range {σ : Type} {r : Addr} {a₀ b₀ : Int} {t₀ u₀ v₀ : Tok} {n : Nat} {m₀ : Str → Option Value} {rest : List (Addr × Obj)} (ps : σ → List (Str × Value)) (Led : σ → List (Addr × Obj)) (stored : List Str) (Inv : Nat → σ → Prop) (Brk : σ → Prop) (c₀ : σ)
    (hh : A.handled = none) (hr : IsRange s.heap r a₀ b₀ 1 t₀ u₀ v₀) (hsmall : Builtin.Range.small a₀ b₀ 1 = true) (hn : Builtin.Range.rangeSize a₀ b₀ 1 = (n : Int)) (F : Fr h₀ env.locals s.heap m₀) (N : News h₀ env.locals s.heap (Led c₀ ++ rest))
    (hoff : ∀ p ∈ rest, ∀ q ∈ Led c₀, p.1 ≠ q.1) (hk : ∀ p ∈ ps c₀, m₀ p.1 = some p.2) (hi : Inv 0 c₀)
    (turn : ∀ (i : Nat) (k : Int) t (c : σ) (u : Str → Option Value) h tk own, i < n → k = a₀ + (i : Int) → Inv i c → (∀ p ∈ own, ∀ q ∈ Led c, p.1 ≠ q.1) → (∀ p ∈ rest, p ∈ own) →
      Fr h₀ env.locals h (fun y => if y = x then some (.int k t) else kstB (fun z => if stored.contains z then u z else m₀ z) (ps c) y) → News h₀ env.locals h (Led c ++ own) →
      wpAny (model prog w) A (execs body env) (LPost h₀ env.locals ps Led x stored m₀ (Inv (i + 1)) own { s with heap := h, toks := tk } Brk (fun v s' => Q (.ret v) s')) E { s with heap := h, toks := tk })
    (done : ∀ (c : σ) (u : Str → Option Value) h tk, (Inv n c ∨ Brk c) → (∀ p ∈ rest, ∀ q ∈ Led c, p.1 ≠ q.1) → Fr h₀ env.locals h (fun y => if y = x then u y else kstB (fun z => if stored.contains z then u z else m₀ z) (ps c) y) → News h₀ env.locals h (Led c ++ rest) → Q .next { s with heap := h, toks := tk }) :
    wpAny (model prog w) A (pyIter (.ref r)) (fun it s₂ => LoopAtV prog w A h₀ env x body Q E it s₂) E s := by
  refine tbr_invG (fun i m nx => ∃ c, nx = Led c ++ rest ∧ (∀ p ∈ rest, ∀ q ∈ Led c, p.1 ≠ q.1) ∧ (∀ p ∈ ps c, m p.1 = some p.2) ∧ (∀ z, z ≠ x → (∀ p ∈ ps c, z ≠ p.1) → stored.contains z = false → m z = m₀ z) ∧ Inv i c) hh hr hsmall hn F N ⟨c₀, rfl, hoff, hk, fun _ _ _ _ => rfl, hi⟩ ?_ ?_
  · rintro i k t m₁ nx h tk own hik hoffI ⟨c, rfl, hof, h1, h2, hI⟩ F₁ N₁
    have hlen : i < n := by
      have := (List.getElem?_eq_some_iff.mp hik).1
      simpa [rangeKs] using this
    have hkk : k = a₀ + (i : Int) := by
      simp [rangeKs, hlen] at hik
      lia
    have hofw : ∀ p ∈ rest ++ own, ∀ q ∈ Led c, p.1 ≠ q.1 := by
      intro p hp q hq
      rcases List.mem_append.mp hp with hp | hp
      · exact hof p hp q hq
      · exact hoffI p hp q (List.mem_append.mpr (.inl hq))
    rw [List.append_assoc] at N₁
    refine wpAny_mono (turn i k t c m₁ h tk (rest ++ own) hlen hkk hI hofw (fun p hp => List.mem_append.mpr (.inl hp)) (kst_fr h1 h2 F₁) N₁) (fun f s₂ p => ?_) fun _ _ e => e
    have fin : ∀ {J : σ → Prop}, LEnd h₀ env.locals ps Led x stored m₀ J (rest ++ own) { s with heap := h, toks := tk } s₂ →
        ∃ c h' tk' m' news', s₂ = { s with heap := h', toks := tk' } ∧ Fr h₀ env.locals h' m' ∧ News h₀ env.locals h' news' ∧ (∀ p ∈ Led c ++ rest, p ∈ news') ∧ (∀ p ∈ own, p ∈ news') ∧ TbOff own (Led c ++ rest) ∧
          (∀ p ∈ rest, ∀ q ∈ Led c, p.1 ≠ q.1) ∧ (∀ p ∈ ps c, m' p.1 = some p.2) ∧ (∀ z, z ≠ x → (∀ p ∈ ps c, z ≠ p.1) → stored.contains z = false → m' z = m₀ z) ∧ J c := by
      rintro J ⟨c', h', tk', m', news', rfl, F', N', ha, hb, hc, hd, he, hJ⟩
      refine ⟨c', h', tk', m', news', rfl, F', N', ?_, fun p hp => hb p (List.mem_append.mpr (.inr hp)), ?_, fun p hp => hc p (List.mem_append.mpr (.inl hp)), hd, he, hJ⟩
      · intro p hp
        rcases List.mem_append.mp hp with hp | hp
        · exact ha p hp
        · exact hb p (List.mem_append.mpr (.inl hp))
      · intro p hp q hq
        rcases List.mem_append.mp hq with hq | hq
        · exact hc p (List.mem_append.mpr (.inr hp)) q hq
        · exact hoffI p hp q (List.mem_append.mpr (.inr hq))
    cases f with
    | ret v => exact p
    | brk =>
      obtain ⟨c', h', tk', m', news', rfl, F', N', ha, hb, _, hof', hd, he, hJ⟩ := fin p
      have F2 := kst_frOut hd he F'
      exact done c' m' h' tk' (.inr hJ) hof' F2 (fun q hq => N' q (ha q hq))
    | next =>
      obtain ⟨c', h', tk', m', news', rfl, F', N', ha, hb, ht, hof', hd, he, hJ⟩ := fin p
      exact ⟨h', tk', m', news', Led c' ++ rest, rfl, F', N', ha, hb, ht, c', rfl, hof', hd, he, hJ⟩
    | cont =>
      obtain ⟨c', h', tk', m', news', rfl, F', N', ha, hb, ht, hof', hd, he, hJ⟩ := fin p
      exact ⟨h', tk', m', news', Led c' ++ rest, rfl, F', N', ha, hb, ht, c', rfl, hof', hd, he, hJ⟩
  · rintro m₁ nx h tk ⟨c, rfl, hof, h1, h2, hI⟩ F₁ N₁
    exact done c m₁ h tk (.inl hI) hof (kst_frOut h1 h2 F₁) N₁
theorem my_list {σ : Type} {l : Addr} {vs : List Value} {ns : List Int} {m₀ : Str → Option Value} {rest : List (Addr × Obj)} (ps : σ → List (Str × Value)) (Led : σ → List (Addr × Obj)) (stored : List Str) (Inv : Nat → σ → Prop) (Brk : σ → Prop) (c₀ : σ)
    (hh : A.handled = none) (hl : h₀.IsList l vs.toArray) (hints : IntsAre vs ns) (F : Fr h₀ env.locals s.heap m₀) (N : News h₀ env.locals s.heap (Led c₀ ++ rest))
    (hoff : ∀ p ∈ rest, ∀ q ∈ Led c₀, p.1 ≠ q.1) (hk : ∀ p ∈ ps c₀, m₀ p.1 = some p.2) (hi : Inv 0 c₀)
    (turn : ∀ (i : Nat) (k : Int) t (c : σ) (u : Str → Option Value) h tk own, ns[i]? = some k → Inv i c → (∀ p ∈ own, ∀ q ∈ Led c, p.1 ≠ q.1) → (∀ p ∈ rest, p ∈ own) →
      Fr h₀ env.locals h (fun y => if y = x then some (.int k t) else kstB (fun z => if stored.contains z then u z else m₀ z) (ps c) y) → News h₀ env.locals h (Led c ++ own) →
      wpAny (model prog w) A (execs body env) (LPost h₀ env.locals ps Led x stored m₀ (Inv (i + 1)) own { s with heap := h, toks := tk } Brk (fun v s' => Q (.ret v) s')) E { s with heap := h, toks := tk })
    (done : ∀ (c : σ) (u : Str → Option Value) h tk, (Inv ns.length c ∨ Brk c) → (∀ p ∈ rest, ∀ q ∈ Led c, p.1 ≠ q.1) → Fr h₀ env.locals h (fun y => if y = x then u y else kstB (fun z => if stored.contains z then u z else m₀ z) (ps c) y) → News h₀ env.locals h (Led c ++ rest) → Q .next { s with heap := h, toks := tk }) :
    wpAny (model prog w) A (pyIter (.ref l)) (fun it s₂ => LoopAtV prog w A h₀ env x body Q E it s₂) E s := by
  refine iter_invG (fun i m nx => ∃ c, nx = Led c ++ rest ∧ (∀ p ∈ rest, ∀ q ∈ Led c, p.1 ≠ q.1) ∧ (∀ p ∈ ps c, m p.1 = some p.2) ∧ (∀ z, z ≠ x → (∀ p ∈ ps c, z ≠ p.1) → stored.contains z = false → m z = m₀ z) ∧ Inv i c) hh hl hints F N ⟨c₀, rfl, hoff, hk, fun _ _ _ _ => rfl, hi⟩ ?_ ?_
  · rintro i k t m₁ nx h tk own hik _ hoffI' ⟨c, rfl, hof, h1, h2, hI⟩ F₁ N₁
    have hoffI : ∀ p ∈ own, ∀ q ∈ Led c ++ rest, p.1 ≠ q.1 := fun p hp q hq => hoffI' p hp q.1 (List.mem_map.mpr ⟨q, hq, rfl⟩)
    have hofw : ∀ p ∈ rest ++ own, ∀ q ∈ Led c, p.1 ≠ q.1 := by
      intro p hp q hq
      rcases List.mem_append.mp hp with hp | hp
      · exact hof p hp q hq
      · exact hoffI p hp q (List.mem_append.mpr (.inl hq))
    rw [List.append_assoc] at N₁
    refine wpAny_mono (turn i k t c m₁ h tk (rest ++ own) hik hI hofw (fun p hp => List.mem_append.mpr (.inl hp)) (kst_fr h1 h2 F₁) N₁) (fun f s₂ p => ?_) fun _ _ e => e
    have fin : ∀ {J : σ → Prop}, LEnd h₀ env.locals ps Led x stored m₀ J (rest ++ own) { s with heap := h, toks := tk } s₂ →
        ∃ c h' tk' m' news', s₂ = { s with heap := h', toks := tk' } ∧ Fr h₀ env.locals h' m' ∧ News h₀ env.locals h' news' ∧ (∀ p ∈ Led c ++ rest, p ∈ news') ∧ (∀ p ∈ own, p ∈ news') ∧ OwnOff own ((Led c ++ rest).map (·.1)) ∧
          (∀ p ∈ rest, ∀ q ∈ Led c, p.1 ≠ q.1) ∧ (∀ p ∈ ps c, m' p.1 = some p.2) ∧ (∀ z, z ≠ x → (∀ p ∈ ps c, z ≠ p.1) → stored.contains z = false → m' z = m₀ z) ∧ J c := by
      rintro J ⟨c', h', tk', m', news', rfl, F', N', ha, hb, hc, hd, he, hJ⟩
      refine ⟨c', h', tk', m', news', rfl, F', N', ?_, fun p hp => hb p (List.mem_append.mpr (.inr hp)), ?_, fun p hp => hc p (List.mem_append.mpr (.inl hp)), hd, he, hJ⟩
      · intro p hp
        rcases List.mem_append.mp hp with hp | hp
        · exact ha p hp
        · exact hb p (List.mem_append.mpr (.inl hp))
      · intro p hp b hb'
        obtain ⟨q, hq, rfl⟩ := List.mem_map.mp hb'
        rcases List.mem_append.mp hq with hq | hq
        · exact hc p (List.mem_append.mpr (.inr hp)) q hq
        · exact hoffI p hp q (List.mem_append.mpr (.inr hq))
    cases f with
    | ret v => exact p
    | brk =>
      obtain ⟨c', h', tk', m', news', rfl, F', N', ha, hb, _, hof', hd, he, hJ⟩ := fin p
      have F2 := kst_frOut hd he F'
      exact done c' m' h' tk' (.inr hJ) hof' F2 (fun q hq => N' q (ha q hq))
    | next =>
      obtain ⟨c', h', tk', m', news', rfl, F', N', ha, hb, ht, hof', hd, he, hJ⟩ := fin p
      exact InvEndG.intro (nx := Led c' ++ rest) F' N' ⟨c', rfl, hof', hd, he, hJ⟩ ht ha hb
    | cont =>
      obtain ⟨c', h', tk', m', news', rfl, F', N', ha, hb, ht, hof', hd, he, hJ⟩ := fin p
      exact InvEndG.intro (nx := Led c' ++ rest) F' N' ⟨c', rfl, hof', hd, he, hJ⟩ ht ha hb
  · rintro m₁ nx h tk ⟨c, rfl, hof, h1, h2, hI⟩ F₁ N₁
    exact done c m₁ h tk (.inl hI) hof (kst_frOut h1 h2 F₁) N₁
end
section
variable {h₀ h : Heap} {L : Addr}
theorem news_pick {pre post : List (Addr × Obj)} {x : Addr × Obj} (N : News h₀ L h (pre ++ x :: post)) : News h₀ L h ([x] ++ (pre ++ post)) := by
  intro p hp
  refine N p ?_
  simp only [List.mem_append, List.mem_cons, List.not_mem_nil, or_false, List.cons_append, List.nil_append] at hp ⊢
  rcases hp with h | h | h
  · exact .inr (.inl h)
  · exact .inl h
  · exact .inr (.inr h)
theorem off_one {rest : List (Addr × Obj)} {d : Addr} {o : Obj} (h : ∀ p ∈ rest, p.1 ≠ d) : ∀ p ∈ rest, ∀ q ∈ [(d, o)], p.1 ≠ q.1 := by
  intro p hp q hq
  rw [List.mem_singleton.mp hq]
  exact h p hp
theorem of_off_one {own : List (Addr × Obj)} {d : Addr} {o : Obj} (h : ∀ p ∈ own, ∀ q ∈ [(d, o)], p.1 ≠ q.1) : ∀ p ∈ own, p.1 ≠ d := fun p hp => h p hp _ (List.mem_singleton.mpr rfl)
theorem all_nil {m : Str → Option Value} : ∀ p ∈ ([] : List (Str × Value)), m p.1 = some p.2 := fun _ h => nomatch h
theorem rangeSize_sub {a b : Nat} (h : a ≤ b) : Builtin.Range.rangeSize (a : Int) (b : Int) 1 = ((b - a : Nat) : Int) := by
  unfold Builtin.Range.rangeSize
  rw [if_pos (by decide)]
  split
  · lia
  · lia
end
section
variable {prog : Program} {w : World} {A : Around} {E : Value → Shared → Prop} {s : Shared} {env : Env} {h₀ : Heap} {x : Str} {body : List Stmt} {Q : Flow → Shared → Prop}
theorem my_empty {l : Addr} {nn : Nat} {m₀ : Str → Option Value} {news : List (Addr × Obj)} (hh : A.handled = none) (F : Fr h₀ env.locals s.heap m₀) (N : News h₀ env.locals s.heap news) (hl : (l, W.listOf #[] nn) ∈ news)
    (done : ∀ h tk, Fr h₀ env.locals h m₀ → News h₀ env.locals h news → Q .next { s with heap := h, toks := tk }) :
    wpAny (model prog w) A (pyIter (.ref l)) (fun it s₂ => LoopAtV prog w A h₀ env x body Q E it s₂) E s := by
  refine iter_invNL (vs := []) (ns := []) (fun _ m nx => m = m₀ ∧ nx = news) hh hl .nil F N ⟨rfl, rfl⟩ ?_ ?_
  · intro i n t m₁ news₁ h tk own hn
    cases hn
  · rintro m₁ news₁ h tk _ ⟨rfl, rfl⟩ F₁ N₁
    exact done h tk F₁ N₁
end
section
variable {prog : Program} {w : World} {A : Around} {E : Value → Shared → Prop} {Q : Flow → Shared → Prop} {s : Shared} {env : Env} {h₀ : Heap} {L : Addr}
noncomputable def NoTurn (h₀ : Heap) (L : Addr) (m : Str → Option Value) (news : List (Addr × Obj)) (s : Shared) (b : Bool) (s₂ : Shared) : Prop :=
  b = false ∧ ∃ h tk, s₂ = { s with heap := h, toks := tk } ∧ Fr h₀ L h m ∧ News h₀ L h news
theorem noTurn_intro {m : Str → Option Value} {news news' : List (Addr × Obj)} {b : Bool} {h : Heap} {tk : Nat} (F : Fr h₀ L h m) (N : News h₀ L h news') (hs : ∀ p ∈ news, p ∈ news') (hb : b = false) : NoTurn h₀ L m news s b { s with heap := h, toks := tk } :=
  ⟨hb, h, tk, rfl, F, fun p hp => N p (hs p hp)⟩
theorem my_while_no {test : Expr} {body : List Stmt} {pos : Pos} {m : Str → Option Value} {news : List (Addr × Obj)} (_F : Fr h₀ L s.heap m) (_N : News h₀ L s.heap news)
    (ht : wpAny (model prog w) A (isTrue test env (eval test env)) (NoTurn h₀ L m news s) E s)
    (done : ∀ h tk, Fr h₀ L h m → News h₀ L h news → Q .next { s with heap := h, toks := tk })
    (hE : PassesOwn (model prog w) A env E := by passes_own) :
    wpAny (model prog w) A (exec (.While test body [] pos) env) Q E s := by
  refine wpAny_While (codeAny_whileLoop (fun _ s' => s' = s) ?_ 0 rfl)
  rintro n s' rfl
  refine wpAny_mono ht (fun b s₂ h₂ => ?_) hE
  obtain ⟨rfl, h, tk, rfl, F, N⟩ := h₂
  simp only [Bool.false_eq_true, if_false]
  exact wpAny_execs_nil (done h tk F N)
end
structure OwnMark (own : List (Addr × Obj)) : Prop where
theorem own_ne {own news : List (Addr × Obj)} {d : Addr} (_ : OwnMark own) (h : ∀ p ∈ news, p.1 < d) (hs : ∀ p ∈ own, p ∈ news) : ∀ p ∈ own, p.1 ≠ d := fun p hp => Nat.ne_of_lt (h p (hs p hp))
noncomputable def Hold (P : Prop) : Prop := P
theorem hold {P : Prop} (h : Hold P) : P := h
theorem unhold {P : Prop} (h : P) : Hold P := h
theorem mem_head {α : Type} {a : α} {l : List α} : a ∈ a :: l := List.mem_cons_self
theorem mem_tail {α : Type} {a b : α} {l : List α} (h : a ∈ l) : a ∈ b :: l := List.mem_cons_of_mem _ h
end Mine

end TMyC
section TMyD
open PySem PySem.W PyProof.Rows PySem.Calls
set_option Elab.async false
set_option maxRecDepth 100000
namespace Mine
noncomputable def cs (as bs : List Int) (alo blo : Nat) : Nat → Nat → Nat
  | 0, j => if alo = 0 ∧ blo ≤ j ∧ 0 < as.length ∧ j < bs.length ∧ as[0]? = bs[j]? then 1 else 0
  | i + 1, j => if alo ≤ i + 1 ∧ blo ≤ j ∧ i + 1 < as.length ∧ j < bs.length ∧ as[i + 1]? = bs[j]? then (match j with | 0 => 0 | j' + 1 => cs as bs alo blo i j') + 1 else 0
noncomputable def TabOK (kvs : List (Int × Value)) (f : Int → Int) : Prop := ∀ k, (∃ t, valueAt kvs k = some (.int (f k) t)) ∨ (valueAt kvs k = none ∧ f k = 0)
noncomputable def BestOf (as bs : List Int) (alo blo : Nat) (P : Nat → Nat → Prop) (bi bj bk : Int) : Prop :=
  (bk = 0 ∧ bi = alo ∧ bj = blo ∧ ∀ i j, P i j → cs as bs alo blo i j = 0) ∨
  ∃ i j : Nat, P i j ∧ 0 < cs as bs alo blo i j ∧ bk = cs as bs alo blo i j ∧ bi = (i : Int) - bk + 1 ∧ bj = (j : Int) - bk + 1 ∧
    ∀ i' j', P i' j' → cs as bs alo blo i' j' < cs as bs alo blo i j ∨ (cs as bs alo blo i' j' = cs as bs alo blo i j ∧ (i < i' ∨ i = i' ∧ j ≤ j'))
noncomputable def posOf (bs : List Int) (x : Int) : List Int := ((List.range bs.length).filter fun j => bs[j]? = some x).map fun j : Nat => (j : Int)
noncomputable def B2J (g : Heap) (bs : List Int) (kvs : List (Int × Value)) : Prop :=
  ∀ x, (valueAt kvs x = none ∧ posOf bs x = []) ∨ ∃ li vs, valueAt kvs x = some (.ref li) ∧ g.IsList li vs.toArray ∧ IntsAre vs (posOf bs x)
section
variable {prog : Program} {w : World} {M : Model} {A : Around} {E : Value → Shared → Prop} {s : Shared} {h₀ : Heap} {L : Addr} {m : Str → Option Value} {news : List (Addr × Obj)}
theorem mapOf_N {d : Addr} {o : Obj} {kvs : List (Int × Value)} (N : News h₀ L s.heap news) (hm : (d, o) ∈ news) (ho : o.IsDictOf (PySem.intKind prog w) kvs) : s.heap.MapOf (PySem.intKind prog w) d (valueAt kvs) :=
  (Heap.dictOf_iff.mpr ⟨o, N.get hm, ho⟩).mapOf
theorem get_tab {q d : Addr} {o : Obj} {kvs : List (Int × Value)} {f : Int → Int} {k : Int} {t u : Tok} {Q : Value → Shared → Prop} (N : News h₀ L s.heap news) (hq : (q, boundObj "dict.get" (.ref d)) ∈ news) (hm : (d, o) ∈ news)
    (ho : o.IsDictOf (PySem.intKind prog w) kvs) (hf : TabOK kvs f) (hd : (d == sysModules) = false) (h : ∀ t', Q (.int (f k) t') { s with toks := s.toks + 1 }) :
    wpAny (model prog w) A (call (.ref q) [.int k t, .int 0 u]) Q E s := by
  refine dget_bound (knd := PySem.intKind prog w) (k := k) (N.get hq) (mapOf_N N hm ho) (intKind_is _ _ _ _) hd ?_
  rcases hf k with ⟨t', e⟩ | ⟨e, e0⟩
  · rw [e]; exact h t'
  · rw [e]; rw [e0] at h; exact h u
theorem meth_dget {d : Addr} {o : Obj} {kvs : List (Int × Value)} {pl : Sem Bool} {Q : Value × List Value → Shared → Prop} (N : News h₀ L s.heap news) (hm : (d, o) ∈ news) (ho : o.IsDictOf (PySem.intKind prog w) kvs)
    (h : Q (.builtin "dict.get", [.ref d]) s) : wpAny (model prog w) A (getMethod (.ref d) (Str.ofString "get") pl) Q E s :=
  have hd : s.heap.DictOf (PySem.intKind prog w) d kvs := Heap.dictOf_iff.mpr ⟨o, N.get hm, ho⟩
  getMethod_builtin hd.typeIs PySem.F.plainAttrs_dict PySem.F.slot_dict_get PySem.F.type_dict_get hd.mapOf.noDict h
theorem get_b2j {d l0 : Addr} {o : Obj} {kvs : List (Int × Value)} {bs : List Int} {g : Heap} {x : Int} {t : Tok} {Q : Value → Shared → Prop} (N : News h₀ L s.heap news) (hm : (d, o) ∈ news) (ho : o.IsDictOf (PySem.intKind prog w) kvs) (hb : B2J g bs kvs) (hd : (d == sysModules) = false)
    (h1 : ∀ li vs, g.IsList li vs.toArray → IntsAre vs (posOf bs x) → Q (.ref li) { s with toks := s.toks + 1 }) (h2 : posOf bs x = [] → Q (.ref l0) { s with toks := s.toks + 1 }) :
    wpAny (model prog w) A (call (.builtin "dict.get") [.ref d, .int x t, .ref l0]) Q E s := by
  have hM := mapOf_N N hm ho
  refine call_meetsIn PySem.F.slot_dict_get hM.typeIs PySem.F.entry_dict_get (PySem.F.args_dict_get_3 _ _ _) (meets_dict_get_default (PySem.intKind prog w) d (k := x) (intKind_is _ _ _ _) hd _) ⟨_, hM, ?_⟩
  rcases hb x with ⟨e, e0⟩ | ⟨li, vs, e, hl, hi⟩
  · rw [e]; exact h2 e0
  · rw [e]; exact h1 li vs hl hi
abbrev setObj (led : Bool) : Obj := { cls := .type "set", dict := none, data := .set #[] 0 (.fresh 0 0 led) }
theorem call_junk {q a : Addr} {led : Bool} {k : Int} {t : Tok} {Q : Value → Shared → Prop} (N : News h₀ L s.heap news) (hq : (q, boundObj "set.__contains__" (.ref a)) ∈ news) (hm : (a, setObj led) ∈ news)
    (h : Q (.bool false) { s with toks := s.toks + 1 }) : wpAny (model prog w) A (call (.ref q) [.int k t]) Q E s := by
  have hso : Obj.SetObjOf (PySem.intKind prog w) (setObj led) (fun _ => false) 0 := setObjOf_fresh (knd := PySem.intKind prog w) led
  exact scont_bound (knd := PySem.intKind prog w) (k := k) (N.get hq) (hso.setOf (N.get hm) (by unfold scanBound; decide)) (intKind_is _ _ _ _) rfl h
end
end Mine

end TMyD
section TMyE
open PySem PySem.W PyProof.Rows PySem.Calls
set_option Elab.async false
namespace Mine
theorem lpost_next {σ : Type} {h₀ : Heap} {L : Addr} {ps : σ → List (Str × Value)} {Led : σ → List (Addr × Obj)} {x : Str} {stored : List Str} {m₀ m' : Str → Option Value} {Inv B : σ → Prop} {own news' : List (Addr × Obj)} {s₁ : Shared} {R : Value → Shared → Prop} {h' : Heap} {tk : Nat} (c : σ)
    (F : Fr h₀ L h' m') (N : News h₀ L h' news') (hl : ∀ p ∈ Led c, p ∈ news') (ho : ∀ p ∈ own, p ∈ news') (hof : ∀ p ∈ own, ∀ q ∈ Led c, p.1 ≠ q.1)
    (hk : ∀ p ∈ ps c, m' p.1 = some p.2) (hz : ∀ z, z ≠ x → (∀ p ∈ ps c, z ≠ p.1) → stored.contains z = false → m' z = m₀ z) (hi : Inv c) :
    LPost h₀ L ps Led x stored m₀ Inv own s₁ B R .next { s₁ with heap := h', toks := tk } := ⟨c, h', tk, m', news', rfl, F, N, hl, ho, hof, hk, hz, hi⟩
theorem lpost_cont {σ : Type} {h₀ : Heap} {L : Addr} {ps : σ → List (Str × Value)} {Led : σ → List (Addr × Obj)} {x : Str} {stored : List Str} {m₀ m' : Str → Option Value} {Inv B : σ → Prop} {own news' : List (Addr × Obj)} {s₁ : Shared} {R : Value → Shared → Prop} {h' : Heap} {tk : Nat} (c : σ)
    (F : Fr h₀ L h' m') (N : News h₀ L h' news') (hl : ∀ p ∈ Led c, p ∈ news') (ho : ∀ p ∈ own, p ∈ news') (hof : ∀ p ∈ own, ∀ q ∈ Led c, p.1 ≠ q.1)
    (hk : ∀ p ∈ ps c, m' p.1 = some p.2) (hz : ∀ z, z ≠ x → (∀ p ∈ ps c, z ≠ p.1) → stored.contains z = false → m' z = m₀ z) (hi : Inv c) :
    LPost h₀ L ps Led x stored m₀ Inv own s₁ B R .cont { s₁ with heap := h', toks := tk } := ⟨c, h', tk, m', news', rfl, F, N, hl, ho, hof, hk, hz, hi⟩
theorem lpost_brk {σ : Type} {h₀ : Heap} {L : Addr} {ps : σ → List (Str × Value)} {Led : σ → List (Addr × Obj)} {x : Str} {stored : List Str} {m₀ m' : Str → Option Value} {Inv B : σ → Prop} {own news' : List (Addr × Obj)} {s₁ : Shared} {R : Value → Shared → Prop} {h' : Heap} {tk : Nat} (c : σ)
    (F : Fr h₀ L h' m') (N : News h₀ L h' news') (hl : ∀ p ∈ Led c, p ∈ news') (ho : ∀ p ∈ own, p ∈ news') (hof : ∀ p ∈ own, ∀ q ∈ Led c, p.1 ≠ q.1)
    (hk : ∀ p ∈ ps c, m' p.1 = some p.2) (hz : ∀ z, z ≠ x → (∀ p ∈ ps c, z ≠ p.1) → stored.contains z = false → m' z = m₀ z) (hi : B c) :
    LPost h₀ L ps Led x stored m₀ Inv own s₁ B R .brk { s₁ with heap := h', toks := tk } := ⟨c, h', tk, m', news', rfl, F, N, hl, ho, hof, hk, hz, hi⟩
/-! the table's law under one more entry -/
theorem valueAt_stored {K : Type} [DecidableEq K] (kvs : List (K × Value)) (j : K) (v : Value) (k : K) : valueAt (stored kvs j v) k = if k = j then some v else valueAt kvs k := by
  unfold stored valueAt
  by_cases hany : (kvs.any fun kv => decide (kv.1 = j)) = true
  · rw [if_pos hany]
    induction kvs with
    | nil => simp at hany
    | cons a r ih =>
      simp only [List.map_cons, List.find?_cons]
      by_cases ha : a.1 = j
      · simp only [ha, if_true]
        by_cases hk : k = j
        · subst hk; simp
        · have : ¬ (j = k) := fun e => hk e.symm
          simp only [this, decide_false, if_neg hk]
          by_cases hr : (r.any fun kv => decide (kv.1 = j)) = true
          · have := ih hr
            rw [if_neg hk] at this
            exact this
          · congr 2
            have : r.map (fun kv => if kv.1 = j then (kv.1, v) else kv) = r := by
              conv => rhs; rw [← List.map_id r]
              apply List.map_congr_left
              intro x hx
              have : ¬ x.1 = j := fun e => hr (List.any_eq_true.mpr ⟨x, hx, by simpa using e⟩)
              simp [this]
            rw [this]
      · simp only [ha, if_false]
        have hr : (r.any fun kv => decide (kv.1 = j)) = true := by
          simp only [List.any_cons, ha, decide_false, Bool.false_or] at hany
          exact hany
        by_cases hk : a.1 = k
        · have : ¬ k = j := fun e => ha (hk.trans e)
          simp [hk, this]
        · simp only [hk, decide_false]
          exact ih hr
  · rw [if_neg hany, List.find?_append]
    have hno : ∀ x ∈ kvs, ¬ x.1 = j := fun x hx e => hany (List.any_eq_true.mpr ⟨x, hx, by simpa using e⟩)
    by_cases hk : k = j
    · subst hk
      have : kvs.find? (fun kv => decide (kv.1 = k)) = none := by
        rw [List.find?_eq_none]
        intro x hx
        simpa using hno x hx
      rw [this]; simp
    · have : ¬ j = k := fun e => hk e.symm
      rw [if_neg hk]
      simp [this]
/-! the table's law under one more entry -/
theorem tabOK_stored {kvs : List (Int × Value)} {f g : Int → Int} {j v : Int} {t : Tok} (h : TabOK kvs f) (hg : ∀ k, g k = if k = j then v else f k) : TabOK (stored kvs j (.int v t)) g := by
  intro k
  rw [valueAt_stored, hg k]
  by_cases hk : k = j
  · rw [if_pos hk, if_pos hk]; exact .inl ⟨t, rfl⟩
  · rw [if_neg hk, if_neg hk]; exact h k
noncomputable def rowI (as bs : List Int) (alo blo bhi n : Nat) (k : Int) : Int := if 0 < n ∧ 0 ≤ k ∧ k < bhi then (cs as bs alo blo (alo + n - 1) k.toNat : Int) else 0
/-! cs -/
theorem cs_zero {as bs : List Int} {alo blo : Nat} : ∀ {i j : Nat}, ¬ (alo ≤ i ∧ blo ≤ j ∧ i < as.length ∧ j < bs.length ∧ as[i]? = bs[j]?) → cs as bs alo blo i j = 0
  | 0, j, h => by
    unfold cs
    rw [if_neg]
    intro ⟨a, b, c, d, e⟩
    exact h ⟨by lia, b, c, d, e⟩
  | i + 1, j, h => by
    unfold cs
    rw [if_neg h]
theorem cs_step {as bs : List Int} {alo blo i j : Nat} (h1 : alo ≤ i) (h2 : blo ≤ j) (h3 : i < as.length) (h4 : j < bs.length) (h5 : as[i]? = bs[j]?) :
    cs as bs alo blo i j = (if 0 < i ∧ 0 < j then cs as bs alo blo (i - 1) (j - 1) else 0) + 1 := by
  cases i with
  | zero =>
    unfold cs
    rw [if_pos ⟨by lia, h2, h3, h4, h5⟩]
    simp
  | succ i =>
    simp only [Nat.add_sub_cancel]
    cases j with
    | zero => rw [cs, if_pos ⟨h1, h2, h3, h4, h5⟩]; simp
    | succ j => rw [cs, if_pos ⟨h1, h2, h3, h4, h5⟩]; simp
theorem row_step {as bs : List Int} {alo blo bhi n j : Nat} (h2 : blo ≤ j) (h3 : alo + n < as.length) (h4 : j < bs.length) (hb : j < bhi) (h5 : as[alo + n]? = bs[j]?) :
    rowI as bs alo blo bhi n ((j : Int) - 1) + 1 = (cs as bs alo blo (alo + n) j : Int) := by
  rw [cs_step (by lia) h2 h3 h4 h5]
  unfold rowI
  by_cases hn : 0 < n
  · by_cases hj : 0 < j
    · rw [if_pos ⟨hn, by lia, by lia⟩, if_pos ⟨by lia, hj⟩]
      have : ((j : Int) - 1).toNat = j - 1 := by lia
      rw [this]
      rfl
    · rw [if_neg (by lia), if_neg (by lia)]; rfl
  · rw [if_neg (by lia)]
    by_cases hz : 0 < alo + n ∧ 0 < j
    · rw [if_pos hz, cs_zero (by lia)]; rfl
    · rw [if_neg hz]; rfl
theorem cs_pos {as bs : List Int} {alo blo i j : Nat} (h1 : alo ≤ i) (h2 : blo ≤ j) (h3 : i < as.length) (h4 : j < bs.length) (h5 : as[i]? = bs[j]?) : 0 < cs as bs alo blo i j := by
  rw [cs_step h1 h2 h3 h4 h5]; lia
/-! the best stretch -/
theorem best_mono {as bs : List Int} {alo blo : Nat} {P P' : Nat → Nat → Prop} {bi bj bk : Int} (h : BestOf as bs alo blo P bi bj bk) (hs : ∀ i j, P i j → P' i j) (hz : ∀ i j, P' i j → P i j ∨ cs as bs alo blo i j = 0) : BestOf as bs alo blo P' bi bj bk := by
  rcases h with ⟨a, b, c, d⟩ | ⟨i, j, hp, h0, e1, e2, e3, hall⟩
  · exact .inl ⟨a, b, c, fun i j h => (hz i j h).elim (d i j) id⟩
  · refine .inr ⟨i, j, hs _ _ hp, h0, e1, e2, e3, fun i' j' h => ?_⟩
    rcases hz i' j' h with h | h
    · exact hall i' j' h
    · exact .inl (by lia)
theorem best_step {as bs : List Int} {alo blo : Nat} {P P' : Nat → Nat → Prop} {bi bj bk : Int} {I J : Nat} (h : BestOf as bs alo blo P bi bj bk) (hlt : ∀ i j, P i j → i < I ∨ (i = I ∧ j < J)) (hP : ∀ i j, P' i j ↔ P i j ∨ (i = I ∧ j = J)) (h0 : 0 < cs as bs alo blo I J) :
    (bk < cs as bs alo blo I J → BestOf as bs alo blo P' ((I : Int) - cs as bs alo blo I J + 1) ((J : Int) - cs as bs alo blo I J + 1) (cs as bs alo blo I J)) ∧
    (¬ bk < cs as bs alo blo I J → BestOf as bs alo blo P' bi bj bk) := by
  rcases h with ⟨a, b, c, d⟩ | ⟨i, j, hp, h1, e1, e2, e3, hall⟩
  · refine ⟨fun _ => .inr ⟨I, J, (hP _ _).mpr (.inr ⟨rfl, rfl⟩), h0, rfl, rfl, rfl, fun i' j' h => ?_⟩, fun hn => absurd (by lia) hn⟩
    rcases (hP _ _).mp h with h | ⟨rfl, rfl⟩
    · exact .inl (by rw [d _ _ h]; exact h0)
    · exact .inr ⟨rfl, .inr ⟨rfl, Nat.le_refl _⟩⟩
  · constructor
    · intro hk
      refine .inr ⟨I, J, (hP _ _).mpr (.inr ⟨rfl, rfl⟩), h0, rfl, rfl, rfl, fun i' j' h => ?_⟩
      rcases (hP _ _).mp h with h | ⟨rfl, rfl⟩
      · left
        rcases hall i' j' h with q | ⟨q, _⟩ <;> lia
      · exact .inr ⟨rfl, .inr ⟨rfl, Nat.le_refl _⟩⟩
    · intro hk
      refine .inr ⟨i, j, (hP _ _).mpr (.inl hp), h1, e1, e2, e3, fun i' j' h => ?_⟩
      rcases (hP _ _).mp h with h | ⟨rfl, rfl⟩
      · exact hall i' j' h
      · rcases hlt _ _ hp with q | ⟨q, q'⟩
        · by_cases he : cs as bs alo blo i' j' = cs as bs alo blo i j
          · exact .inr ⟨he, .inl q⟩
          · exact .inl (by lia)
        · by_cases he : cs as bs alo blo i' j' = cs as bs alo blo i j
          · exact .inr ⟨he, .inr ⟨q, by lia⟩⟩
          · exact .inl (by lia)
/-! the places of a value -/
theorem posOf_get {bs : List Int} {x : Int} {q : Nat} {k : Int} (h : (posOf bs x)[q]? = some k) : ∃ j : Nat, k = (j : Int) ∧ j < bs.length ∧ bs[j]? = some x := by
  unfold posOf at h
  rw [List.getElem?_map] at h
  obtain ⟨j, hj, rfl⟩ := Option.map_eq_some_iff.mp h
  have hm := List.mem_of_getElem? hj
  simp only [List.mem_filter, List.mem_range, decide_eq_true_eq] at hm
  exact ⟨j, rfl, hm.1, hm.2⟩
theorem posOf_mem {bs : List Int} {x : Int} {j : Nat} (h : bs[j]? = some x) : (j : Int) ∈ posOf bs x := by
  unfold posOf
  refine List.mem_map.mpr ⟨j, ?_, rfl⟩
  simp only [List.mem_filter, List.mem_range, decide_eq_true_eq]
  exact ⟨(List.getElem?_eq_some_iff.mp h).1, h⟩
theorem posOf_sorted (bs : List Int) (x : Int) : (posOf bs x).Pairwise (· < ·) := by
  unfold posOf
  rw [List.pairwise_map]
  refine List.Pairwise.imp (R := (· < ·)) (fun h => by lia) ?_
  exact List.Pairwise.filter _ List.pairwise_lt_range
theorem posOf_lt {bs : List Int} {x : Int} {q r : Nat} {k l : Int} (hq : (posOf bs x)[q]? = some k) (hr : (posOf bs x)[r]? = some l) (h : q < r) : k < l := by
  obtain ⟨h1, e1⟩ := List.getElem?_eq_some_iff.mp hq
  obtain ⟨h2, e2⟩ := List.getElem?_eq_some_iff.mp hr
  have := List.pairwise_iff_getElem.mp (posOf_sorted bs x) q r h1 h2 h
  lia
theorem posOf_length (bs : List Int) (x : Int) : (posOf bs x).length ≤ bs.length := by
  unfold posOf
  rw [List.length_map]
  exact Nat.le_trans (List.length_filter_le _ _) (by simp)
structure FI where
  bi : Int
  bj : Int
  bk : Int
  t1 : Tok
  t2 : Tok
  t3 : Tok
  o : Obj
  kvs : List (Int × Value)
  D : List (PyData × PyData)
structure FO where
  bi : Int
  bj : Int
  bk : Int
  t1 : Tok
  t2 : Tok
  t3 : Tok
  d : Addr
  o : Obj
  kvs : List (Int × Value)
  D : List (PyData × PyData)
noncomputable def InvO (prog : Program) (w : World) (as bs : List Int) (alo blo bhi : Nat) (n : Nat) (c : FO) : Prop :=
  c.o.IsDictOf (PySem.intKind prog w) c.kvs ∧ PyProof.V.FlatPairs PyData.int c.kvs c.D ∧ (c.d == sysModules) = false ∧ TabOK c.kvs (rowI as bs alo blo bhi n) ∧ c.D.length ≤ bs.length ∧
    BestOf as bs alo blo (fun i j => alo ≤ i ∧ i < alo + n ∧ blo ≤ j ∧ j < bhi) c.bi c.bj c.bk
noncomputable def SI (idx : List Int) (q : Nat) (k : Int) : Prop := ∃ r, r < q ∧ idx[r]? = some k
noncomputable def InvI (prog : Program) (w : World) (as bs : List Int) (alo blo bhi n : Nat) (x : Int) (q : Nat) (c : FI) : Prop :=
  c.o.IsDictOf (PySem.intKind prog w) c.kvs ∧ PyProof.V.FlatPairs PyData.int c.kvs c.D ∧
    (∃ f, TabOK c.kvs f ∧ ∀ k, (SI (posOf bs x) q k ∧ (blo : Int) ≤ k ∧ k < bhi → f k = cs as bs alo blo (alo + n) k.toNat) ∧ (¬ (SI (posOf bs x) q k ∧ (blo : Int) ≤ k ∧ k < bhi) → f k = 0)) ∧ c.D.length ≤ q ∧
    BestOf as bs alo blo (fun i j => (alo ≤ i ∧ i < alo + n ∧ blo ≤ j ∧ j < bhi) ∨ (i = alo + n ∧ blo ≤ j ∧ j < bhi ∧ SI (posOf bs x) q (j : Int))) c.bi c.bj c.bk
noncomputable def BrkI (prog : Program) (w : World) (as bs : List Int) (alo blo bhi n : Nat) (x : Int) (c : FI) : Prop :=
  ∃ q, q ≤ (posOf bs x).length ∧ InvI prog w as bs alo blo bhi n x q c ∧ ∀ r k, q ≤ r → (posOf bs x)[r]? = some k → (bhi : Int) ≤ k
section
variable {prog : Program} {w : World} {as bs : List Int} {alo blo bhi n q : Nat} {x j : Int} {c : FI}
theorem SI_succ {idx : List Int} {q : Nat} {j k : Int} (h : idx[q]? = some j) : SI idx (q + 1) k ↔ SI idx q k ∨ k = j := by
  constructor
  · rintro ⟨r, hr, e⟩
    by_cases hq : r = q
    · subst hq; rw [h] at e; exact .inr (Option.some.inj e).symm
    · exact .inl ⟨r, by lia, e⟩
  · rintro (⟨r, hr, e⟩ | rfl)
    · exact ⟨r, by lia, e⟩
    · exact ⟨q, by lia, h⟩
theorem way_cont (h : InvI prog w as bs alo blo bhi n x q c) (hj : (posOf bs x)[q]? = some j) (hb : j < blo) : InvI prog w as bs alo blo bhi n x (q + 1) c := by
  obtain ⟨a, b, ⟨f, hf, hk⟩, d, e⟩ := h
  refine ⟨a, b, ⟨f, hf, fun k => ?_⟩, by lia, best_mono e ?_ ?_⟩
  · constructor
    · rintro ⟨h1, h2, h3⟩
      rcases (SI_succ hj).mp h1 with h1 | rfl
      · exact (hk k).1 ⟨h1, h2, h3⟩
      · lia
    · intro hn
      exact (hk k).2 fun ⟨h1, h2⟩ => hn ⟨(SI_succ hj).mpr (.inl h1), h2⟩
  · rintro i j' (h | ⟨h1, h2, h3, h4⟩)
    · exact .inl h
    · exact .inr ⟨h1, h2, h3, (SI_succ hj).mpr (.inl h4)⟩
  · rintro i j' (h | ⟨h1, h2, h3, h4⟩)
    · exact .inl (.inl h)
    · rcases (SI_succ hj).mp h4 with h4 | e4
      · exact .inl (.inr ⟨h1, h2, h3, h4⟩)
      · lia
theorem way_brk (h : InvI prog w as bs alo blo bhi n x q c) (hj : (posOf bs x)[q]? = some j) (hb : (bhi : Int) ≤ j) : BrkI prog w as bs alo blo bhi n x c := by
  refine ⟨q, Nat.le_of_lt (List.getElem?_eq_some_iff.mp hj).1, h, fun r k hr hk => ?_⟩
  by_cases e : r = q
  · subst e; rw [hj] at hk; have := Option.some.inj hk; lia
  · have := posOf_lt hj hk (by lia); lia
theorem way_in (h : InvI prog w as bs alo blo bhi n x q c) (hx : as[alo + n]? = some x) (hj : (posOf bs x)[q]? = some j) (h1 : (blo : Int) ≤ j) (h2 : j < bhi) {o' : Obj} {v : Int} {t : Tok}
    (hv : v = rowI as bs alo blo bhi n (j - 1) + 1)
    (ho : o'.IsDictOf (PySem.intKind prog w) (stored c.kvs j (.int v t))) (hf : PyProof.V.FlatPairs PyData.int (stored c.kvs j (.int v t)) (PyProof.V.putD (PyData.int j) (PyData.int v) c.D)) {t1 t2 t3 : Tok} :
    (c.bk < v → InvI prog w as bs alo blo bhi n x (q + 1) ⟨(alo : Int) + (n : Int) - v + 1, j - v + 1, v, t1, t2, t3, o', stored c.kvs j (.int v t), PyProof.V.putD (PyData.int j) (PyData.int v) c.D⟩) ∧
    (¬ c.bk < v → InvI prog w as bs alo blo bhi n x (q + 1) ⟨c.bi, c.bj, c.bk, t1, t2, t3, o', stored c.kvs j (.int v t), PyProof.V.putD (PyData.int j) (PyData.int v) c.D⟩) := by
  obtain ⟨J, rfl, hJ, hJx⟩ := posOf_get hj
  obtain ⟨_, _, ⟨f, hf0, hk⟩, d, e⟩ := h
  have hI : alo + n < as.length := (List.getElem?_eq_some_iff.mp hx).1
  have hv' : v = (cs as bs alo blo (alo + n) J : Int) := by
    rw [hv]; exact row_step (by lia) hI hJ (by lia) (hx.trans hJx.symm)
  have hpos : 0 < cs as bs alo blo (alo + n) J := cs_pos (by lia) (by lia) hI hJ (hx.trans hJx.symm)
  have hd : (PyProof.V.putD (PyData.int (J : Int)) (PyData.int v) c.D).length ≤ q + 1 := Nat.le_trans (PyProof.V.putD_length_le _ _ _) (by lia)
  have htab : ∃ f', TabOK (stored c.kvs (J : Int) (.int v t)) f' ∧ ∀ k, (SI (posOf bs x) (q + 1) k ∧ (blo : Int) ≤ k ∧ k < bhi → f' k = cs as bs alo blo (alo + n) k.toNat) ∧ (¬ (SI (posOf bs x) (q + 1) k ∧ (blo : Int) ≤ k ∧ k < bhi) → f' k = 0) := by
    refine ⟨fun k => if k = (J : Int) then v else f k, tabOK_stored hf0 (fun _ => rfl), fun k => ⟨?_, ?_⟩⟩
    · rintro ⟨h3, h4, h5⟩
      dsimp only
      by_cases e : k = (J : Int)
      · rw [if_pos e, e, hv']; simp
      · rw [if_neg e]
        exact (hk k).1 ⟨((SI_succ hj).mp h3).resolve_right e, h4, h5⟩
    · intro hn
      dsimp only
      by_cases e : k = (J : Int)
      · subst e
        exact absurd ⟨(SI_succ hj).mpr (.inr rfl), h1, h2⟩ hn
      · rw [if_neg e]
        exact (hk k).2 fun ⟨h3, h4⟩ => hn ⟨(SI_succ hj).mpr (.inl h3), h4⟩
  have hb := best_step (P' := fun i j => (alo ≤ i ∧ i < alo + n ∧ blo ≤ j ∧ j < bhi) ∨ (i = alo + n ∧ blo ≤ j ∧ j < bhi ∧ SI (posOf bs x) (q + 1) (j : Int))) (I := alo + n) (J := J) e (by
      rintro i j' (h | ⟨h3, h4, h5, r, hr, hrk⟩)
      · exact .inl h.2.1
      · exact .inr ⟨h3, by have := posOf_lt hrk hj hr; lia⟩) (by
      intro i j'
      constructor
      · rintro (h | ⟨h3, h4, h5, h6⟩)
        · exact .inl (.inl h)
        · rcases (SI_succ hj).mp h6 with h6 | h6
          · exact .inl (.inr ⟨h3, h4, h5, h6⟩)
          · exact .inr ⟨h3, by lia⟩
      · rintro ((h | ⟨h3, h4, h5, h6⟩) | ⟨rfl, rfl⟩)
        · exact .inl h
        · exact .inr ⟨h3, h4, h5, (SI_succ hj).mpr (.inl h6)⟩
        · exact .inr ⟨rfl, by lia, by lia, (SI_succ hj).mpr (.inr rfl)⟩) hpos
  constructor
  · intro hlt
    refine ⟨ho, hf, htab, hd, ?_⟩
    have := hb.1 (by lia)
    rw [← hv', Int.natCast_add] at this
    exact this
  · intro hlt
    exact ⟨ho, hf, htab, hd, hb.2 (by lia)⟩
theorem way_start {o : Obj} {bi bj bk : Int} {t1 t2 t3 : Tok} (ho : o.IsDictOf (PySem.intKind prog w) []) (hb : BestOf as bs alo blo (fun i j => alo ≤ i ∧ i < alo + n ∧ blo ≤ j ∧ j < bhi) bi bj bk) :
    InvI prog w as bs alo blo bhi n x 0 ⟨bi, bj, bk, t1, t2, t3, o, [], []⟩ := by
  refine ⟨ho, .nil, ⟨fun _ => 0, fun k => .inr ⟨rfl, rfl⟩, fun k => ⟨fun ⟨⟨r, hr, _⟩, _⟩ => absurd hr (Nat.not_lt_zero _), fun _ => rfl⟩⟩, Nat.le_refl _, best_mono hb (fun i j h => .inl h) ?_⟩
  rintro i j (h | ⟨_, _, _, r, hr, _⟩)
  · exact .inl h
  · exact absurd hr (Nat.not_lt_zero _)
theorem way_done (hx : as[alo + n]? = some x) (h4 : bhi ≤ bs.length) (h : InvI prog w as bs alo blo bhi n x (posOf bs x).length c ∨ BrkI prog w as bs alo blo bhi n x c) {d : Addr} (hd : (d == sysModules) = false) {t1 t2 t3 : Tok} :
    InvO prog w as bs alo blo bhi (n + 1) ⟨c.bi, c.bj, c.bk, t1, t2, t3, d, c.o, c.kvs, c.D⟩ := by
  have hI : alo + n < as.length := (List.getElem?_eq_some_iff.mp hx).1
  have : ∃ q, q ≤ (posOf bs x).length ∧ InvI prog w as bs alo blo bhi n x q c ∧ ∀ r k, q ≤ r → (posOf bs x)[r]? = some k → (bhi : Int) ≤ k := by
    rcases h with h | h
    · refine ⟨_, Nat.le_refl _, h, fun r k hr hk => ?_⟩
      have := (List.getElem?_eq_some_iff.mp hk).1
      lia
    · exact h
  obtain ⟨q, hq, ⟨a, b, ⟨f, hf, hk⟩, e, g⟩, hall⟩ := this
  have key : ∀ j : Nat, j < bhi → bs[j]? = some x → SI (posOf bs x) q (j : Int) := by
    intro j hj hjx
    obtain ⟨r, hr⟩ := List.getElem?_of_mem (posOf_mem hjx)
    refine ⟨r, ?_, hr⟩
    by_cases hrq : q ≤ r
    · have := hall r _ hrq hr; lia
    · lia
  refine ⟨a, b, hd, fun k => ?_, Nat.le_trans e (Nat.le_trans hq (posOf_length _ _)), best_mono g ?_ ?_⟩
  · have e : rowI as bs alo blo bhi (n + 1) k = f k := by
      unfold rowI
      by_cases hs : SI (posOf bs x) q k ∧ (blo : Int) ≤ k ∧ k < bhi
      · rw [if_pos ⟨by lia, by lia, hs.2.2⟩, (hk k).1 hs]
        rfl
      · rw [(hk k).2 hs]
        split
        · rename_i hc
          obtain ⟨_, hk0, hkb⟩ := hc
          obtain ⟨j, rfl⟩ : ∃ j : Nat, k = (j : Int) := ⟨k.toNat, by lia⟩
          have hcz : cs as bs alo blo (alo + n) j = 0 := by
            refine cs_zero fun ⟨_, h2, _, _, h5⟩ => hs ⟨key j (by lia) (by rw [← h5]; exact hx), by lia, hkb⟩
          show ((cs as bs alo blo (alo + (n + 1) - 1) (j : Int).toNat : Nat) : Int) = 0
          rw [show alo + (n + 1) - 1 = alo + n by lia, Int.toNat_natCast, hcz]; rfl
        · rfl
    rw [e]; exact hf k
  · rintro i j (h | ⟨h1, h2, h3, _⟩)
    · exact ⟨h.1, by lia, h.2.2⟩
    · exact ⟨by lia, by lia, h2, h3⟩
  · rintro i j ⟨h1, h2, h3, h4'⟩
    by_cases hi : i = alo + n
    · subst hi
      by_cases hjx : bs[j]? = some x
      · exact .inl (.inr ⟨rfl, h3, h4', key j h4' hjx⟩)
      · exact .inr (cs_zero fun ⟨_, _, _, _, h5⟩ => hjx (by rw [← h5]; exact hx))
    · exact .inl (.inl ⟨h1, by lia, h3, h4'⟩)
end
theorem led_one {d : Addr} {o : Obj} {news : List (Addr × Obj)} (h : (d, o) ∈ news) : ∀ p ∈ [(d, o)], p ∈ news := by
  intro p hp
  rw [List.mem_singleton.mp hp]
  exact h
theorem not_in {l : List Str} {z a : Str} (h : l.contains z = false) (ha : a ∈ l) : z ≠ a := by
  rintro rfl
  rw [List.contains_iff_mem.mpr ha] at h
  cases h
theorem not_one {z a : Str} (h : z ≠ a) : [a].contains z = false := by
  cases e : [a].contains z with
  | false => rfl
  | true => exact absurd (List.mem_singleton.mp (List.contains_iff_mem.mp e)) h
theorem cs_le {as bs : List Int} {alo blo : Nat} : ∀ {i j : Nat}, (alo ≤ i → blo ≤ j → cs as bs alo blo i j + alo ≤ i + 1 ∧ cs as bs alo blo i j + blo ≤ j + 1)
  | 0, j => by
    intro h1 h2
    by_cases h : alo ≤ 0 ∧ blo ≤ j ∧ 0 < as.length ∧ j < bs.length ∧ as[0]? = bs[j]?
    · rw [cs_step h1 h2 h.2.2.1 h.2.2.2.1 h.2.2.2.2]; simp; lia
    · rw [cs_zero h]; lia
  | i + 1, j => by
    intro h1 h2
    by_cases h : alo ≤ i + 1 ∧ blo ≤ j ∧ i + 1 < as.length ∧ j < bs.length ∧ as[i + 1]? = bs[j]?
    · rw [cs_step h1 h2 h.2.2.1 h.2.2.2.1 h.2.2.2.2]
      simp only [Nat.add_sub_cancel]
      by_cases hj : 0 < i + 1 ∧ 0 < j
      · rw [if_pos hj]
        by_cases ha : alo ≤ i ∧ blo ≤ j - 1
        · have := cs_le (as := as) (bs := bs) (i := i) (j := j - 1) ha.1 ha.2
          lia
        · rw [cs_zero fun q => ha ⟨q.1, q.2.1⟩]; lia
      · rw [if_neg hj]; lia
    · rw [cs_zero h]; lia
theorem cs_run {as bs : List Int} {alo blo : Nat} : ∀ (d : Nat) {i j : Nat}, d < cs as bs alo blo i j → d ≤ i ∧ d ≤ j ∧ alo ≤ i - d ∧ blo ≤ j - d ∧ i < as.length ∧ j < bs.length ∧ as[i - d]? = bs[j - d]? ∧ cs as bs alo blo (i - d) (j - d) = cs as bs alo blo i j - d
  | 0, i, j => by
    intro h
    by_cases hc : alo ≤ i ∧ blo ≤ j ∧ i < as.length ∧ j < bs.length ∧ as[i]? = bs[j]?
    · exact ⟨Nat.zero_le _, Nat.zero_le _, hc.1, hc.2.1, hc.2.2.1, hc.2.2.2.1, hc.2.2.2.2, rfl⟩
    · rw [cs_zero hc] at h; lia
  | d + 1, i, j => by
    intro h
    obtain ⟨_, _, h1, h2, h3, h4, h5, _⟩ := cs_run 0 (as := as) (bs := bs) (alo := alo) (blo := blo) (i := i) (j := j) (by lia)
    have hs := cs_step h1 h2 h3 h4 h5
    simp only [Nat.sub_zero] at hs
    by_cases hz : 0 < i ∧ 0 < j
    · rw [if_pos hz] at hs
      obtain ⟨a1, a2, a3, a4, a5, a6, a7, a8⟩ := cs_run d (as := as) (bs := bs) (alo := alo) (blo := blo) (i := i - 1) (j := j - 1) (by lia)
      have e1 : i - 1 - d = i - (d + 1) := by lia
      have e2 : j - 1 - d = j - (d + 1) := by lia
      rw [e1] at a3 a7 a8
      rw [e2] at a4 a7 a8
      exact ⟨by lia, by lia, a3, a4, h3, h4, a7, by lia⟩
    · rw [if_neg hz] at hs; lia
theorem tn1 {i c a : Nat} (h0 : 0 < c) (h1 : c ≤ i + 1 - a) (h2 : (a : Int) < (i : Int) - (c : Int) + 1) : ((i : Int) - (c : Int) + 1 - 1).toNat = i - (c - 1) - 1 := by lia
theorem tn2 (i c : Nat) : ((i : Int) - (c : Int) + 1 + (c : Int)).toNat = i + 1 := by lia
theorem tn3 {i c a : Nat} (h0 : 0 < c) (h1 : c ≤ i + 1 - a) (h2 : (a : Int) < (i : Int) - (c : Int) + 1) : a ≤ i - (c - 1) - 1 ∧ i - (c - 1) - 1 < i ∧ i - (c - 1) = i - (c - 1) - 1 + 1 := by lia
theorem best_facts {as bs : List Int} {alo ahi blo bhi : Nat} (h1 : alo ≤ ahi) (h2 : ahi ≤ as.length) (h3 : blo ≤ bhi) (h4 : bhi ≤ bs.length) {bi bj bk : Int}
    (h : BestOf as bs alo blo (fun i j => alo ≤ i ∧ i < alo + (ahi - alo) ∧ blo ≤ j ∧ j < bhi) bi bj bk) :
    (alo : Int) ≤ bi ∧ (blo : Int) ≤ bj ∧ 0 ≤ bk ∧ bi + bk ≤ ahi ∧ bj + bk ≤ bhi ∧ ((alo : Int) < bi → (blo : Int) < bj → as.getD (bi - 1).toNat 0 ≠ bs.getD (bj - 1).toNat 0) ∧
      (bi + bk < ahi → bj + bk < bhi → as.getD (bi + bk).toNat 0 ≠ bs.getD (bj + bk).toNat 0) := by
  have getD_eq : ∀ {l : List Int} {k : Nat}, k < l.length → l[k]? = some (l.getD k 0) := by
    intro l k hk
    rw [List.getD_eq_getElem?_getD, List.getElem?_eq_getElem hk]; rfl
  rcases h with ⟨rfl, rfl, rfl, hz⟩ | ⟨i, j, ⟨p1, p2, p3, p4⟩, h0, rfl, rfl, rfl, hall⟩
  · refine ⟨by lia, by lia, by lia, by lia, by lia, by lia, fun q1 q2 e => ?_⟩
    have e1 : ((alo : Int) + 0).toNat = alo := by lia
    have e2 : ((blo : Int) + 0).toNat = blo := by lia
    rw [e1, e2] at e
    have := cs_pos (as := as) (bs := bs) (alo := alo) (blo := blo) (i := alo) (j := blo) (by lia) (by lia) (by lia) (by lia) (by rw [getD_eq (by lia), getD_eq (by lia), e])
    have := hz alo blo ⟨by lia, by lia, by lia, by lia⟩
    lia
  · have hle := cs_le (as := as) (bs := bs) (alo := alo) (blo := blo) (i := i) (j := j) p1 p3
    have hr := @cs_run as bs alo blo (cs as bs alo blo i j - 1) i j
    have hs := @cs_step as bs alo blo (i + 1) (j + 1)
    simp only [Nat.add_sub_cancel] at hs
    generalize cs as bs alo blo i j = c at hle hr hs h0 hall
    have h0 : 0 < c := h0
    have g1 : c ≤ i + 1 - alo := by lia
    have g2 : c ≤ j + 1 - blo := by lia
    refine ⟨by lia, by lia, by lia, by lia, by lia, fun q1 q2 e => ?_, fun q1 q2 e => ?_⟩
    · obtain ⟨-, -, a3, a4, a5, a6, a7, a8⟩ := hr (by lia)
      obtain ⟨b1, b2, b3⟩ := tn3 h0 g1 q1
      obtain ⟨d1, d2, d3⟩ := tn3 h0 g2 q2
      rw [tn1 h0 g1 q1, tn1 h0 g2 q2] at e
      have hi1 : i - (c - 1) < as.length := by lia
      have hj1 : j - (c - 1) < bs.length := by lia
      have a9 := cs_step (as := as) (bs := bs) a3 a4 hi1 hj1 a7
      have hp := cs_pos (as := as) (bs := bs) b1 d1 (Nat.lt_trans b2 a5) (Nat.lt_trans d2 a6) (by rw [getD_eq (Nat.lt_trans b2 a5), getD_eq (Nat.lt_trans d2 a6), e])
      rw [if_pos ⟨by rw [b3]; exact Nat.succ_pos _, by rw [d3]; exact Nat.succ_pos _⟩] at a9
      lia
    · rw [tn2, tn2] at e
      have x1 : i + 1 < as.length := by lia
      have x2 : j + 1 < bs.length := by lia
      have a9 := hs (Nat.le_succ_of_le p1) (Nat.le_succ_of_le p3) x1 x2 (by rw [getD_eq x1, getD_eq x2, e])
      rw [if_pos ⟨Nat.succ_pos _, Nat.succ_pos _⟩] at a9
      have := hall (i + 1) (j + 1) ⟨Nat.le_succ_of_le p1, by lia, Nat.le_succ_of_le p3, by lia⟩
      lia
end Mine

end TMyE
section TLawFig
open PySem PySem.W PyProof.Rows PySem.Calls PySem.Spec
set_option Elab.async false
set_option maxRecDepth 100000
set_option maxHeartbeats 4000000
namespace Mine
noncomputable def figsL (number : Int) (size count : Nat) : List Int := (List.range count).map fun k => number / (size : Int) ^ (count - 1 - k) % (size : Int)
theorem powi_ne {size e : Nat} (h : 2 ≤ size) : ((size : Int) ^ e) ≠ 0 := Int.pow_ne_zero (by lia)
theorem powi_py {size e : Nat} (h : size ≤ 256) (he : e ≤ 14) : ((size : Int) ^ e).natAbs.log2 < 9000 := by
  rw [Int.natAbs_pow, Int.natAbs_natCast]
  have h1 : size ^ e ≤ 256 ^ 14 := Nat.le_trans (Nat.pow_le_pow_left h e) (Nat.pow_le_pow_right (by decide) he)
  rcases Nat.eq_zero_or_pos (size ^ e) with h0 | h0
  · rw [h0]; decide
  · rw [Nat.log2_lt (by lia)]
    exact Nat.lt_of_le_of_lt h1 (by decide +kernel)
theorem off1_all {D : Addr} : ∀ {news : List (Addr × Obj)}, LCg.Off1 D news → ∀ p ∈ news, p.1 ≠ D
  | [], _ => fun _ h => nomatch h
  | _ :: _, h => List.forall_mem_cons.mpr ⟨h.1, off1_all h.2⟩
theorem figs_eq {number : Int} {size count : Nat} {ys : List Value} (hn0 : 0 ≤ number) (hs : 2 ≤ size) (_ : count ≤ 14) (h : IntsAre ys (List.map (fun k' => (number.fdiv ((size : Int) ^ ((count : Int) - 1 - k').toNat)).fmod (size : Int)) (rangeKs 0 ((count : Int) - 0).toNat))) : IntsAre ys (figsL number size count) := by
  refine cast (congrArg _ ?_) h
  unfold figsL rangeKs
  rw [List.map_map, show ((count : Int) - 0).toNat = count by lia]
  refine List.map_congr_left fun k hk => ?_
  have hk := List.mem_range.mp hk
  show (number.fdiv ((size : Int) ^ ((count : Int) - 1 - (0 + (k : Int))).toNat)).fmod (size : Int) = _
  rw [show ((count : Int) - 1 - (0 + (k : Int))).toNat = count - 1 - k by lia]
  have hp : (0 : Int) ≤ (size : Int) ^ (count - 1 - k) := Int.pow_nonneg (by lia)
  rw [Int.fdiv_eq_ediv_of_nonneg _ hp, Int.fmod_eq_emod_of_nonneg _ (by lia)]
theorem mine_ret {h₀ h' : Heap} {L l : Addr} {m : Str → Option Value} {s : Shared} {tk : Nat} {Q : Value → Shared → Prop} {news rest : List (Addr × Obj)} {ys : List Value} {ns : List Int}
    (hret : ∀ l n vs h' tk', Fr h₀ L h' m → News h₀ L h' ((l, W.listOf vs.toArray n) :: news) → (∀ p ∈ news, p.1 ≠ l) → IntsAre vs ns → Q (.ref l) { s with heap := h', toks := tk' })
    (F : Fr h₀ L h' m) (N : News h₀ L h' ((l, LCg.lst ys) :: rest)) (off : ∀ p ∈ news, p.1 ≠ l) (hi : IntsAre ys ns) (hs : ∀ p ∈ news, p ∈ rest) : Q (.ref l) { s with heap := h', toks := tk } :=
  hret l ys.length ys h' tk F (fun p hp => N p (by rcases List.mem_cons.mp hp with h | h; exact List.mem_cons.mpr (.inl h); exact .tail _ (hs p h))) off hi
theorem figs_call {w : World} {loose : List Str} {mean : ExcName → Option Value} {mg mb : Str → Option Value}
    {dp un : Nat} {gd : Option (List Code)} {cn : Str} {cs : Scope} {a : Addr} {ccd : Value} {cl : List (Str × Addr)} {outer : List Env} {A₀ : Around} {base h₀ : Heap} {L : Addr} {m : Str → Option Value} {s : Shared} {Q E : Value → Shared → Prop} {news : List (Addr × Obj)}
    (B : Below A₀ base outer h₀) (F : Fr h₀ L s.heap m) (X : (Mine.K w.params).In h₀) (N : News h₀ L s.heap news) (T : Top Mine.q loose mean mg mb h₀) (hk : cs.kind = .function)
    {number : Int} {size count : Nat} {t u v : Tok} (hn0 : 0 ≤ number) (hn1 : number < 2 ^ 62) (hs : 2 ≤ size) (hs2 : size ≤ 256) (hc : count ≤ 14) (hdp : dp + 20 < recursionLimit) (hun : un + 100 < cLine)
    (hret : ∀ l n vs h' tk', Fr h₀ L h' m → News h₀ L h' ((l, W.listOf vs.toArray n) :: news) → (∀ p ∈ news, p.1 ≠ l) → IntsAre vs (figsL number size count) → Q (.ref l) { s with heap := h', toks := tk' }) :
    wpAny (model PySem.Challenge.rw_rt0114_01.row.prog w) (ktrTop dp un gd cn cs L a ccd cl outer) (call (.ref 295) [.int number t, .int (size : Int) u, .int (count : Int) v]) Q E s := by
  k_with_none
  k_with "binaryOp Pow int int" => (k_here; (with_reducible refine pow_int_small ?kb1 ?kb2 ?kb3 ?_); (case kb1 => lia); (case kb2 => lia); (case kb3 => lia))
  k_with "binaryOp FloorDiv int int" => (k_here; (with_reducible refine floordiv_int (powi_ne ?a) ?_ (Or.inl (PyProof.noPylong_of_log2 (powi_py ?b ?c)))); (case a => assumption); (case b => assumption); (case c => lia))
  k_with "binaryOp Mod int int" => (k_here; (with_reducible refine mod_int' ?a ?_); (case a => lia))
  revert X; k_fill; intro X
  refine wpAny_call ?_
  k_dflt (refine' code_defC B F X N T ?kA ?kF ?kK ?k6 ?k7 ?k8 ?k9 ?kB ?kD ?_ ?c2 ?c3 ?c4; (case kA => exact rfl); (case kF => exact rfl); (case kK => assumption); (case k6 => k_is); (case k7 => k_is); (case k8 => ktr_room); (case k9 => first | exact BindsTo.of_eq rfl | exact binds_K (by k_in) rfl (by k_is) rfl rfl rfl); (case kB => exact rfl); (case kD => decide +kernel); (case c2 => exact rfl); (case c3 => exact rfl); (case c4 => exact rfl); k_whole)
  intro g' L' h' tk' cells' FG' F' N' Y' B' X' T' l1; (try k_lt l1); k_cells Y'; (try simp only [List.cons_append, List.nil_append] at N'); (try dsimp only); (try k_fold)
  k_steps
  rename Fr h₀ L _ m => kF
  rename News h₀ L _ _ => kN
  rename IntsAre _ (List.map _ _) => kI
  rename _ ∧ _ ∧ _ ∧ LCg.Off1 _ news => kO
  have kI2 := figs_eq hn0 hs hc kI
  have kO2 := off1_all kO.2.2.2
  refine mine_ret hret kF kN kO2 kI2 ?hs
  exact fun p h => .tail _ (.tail _ (.tail _ h))
  k_with_none
end Mine

end TLawFig
section TLawLst
open PySem PySem.W PyProof.Rows PySem.Calls PySem.Spec
set_option Elab.async false
set_option maxRecDepth 100000
set_option maxHeartbeats 4000000
namespace Mine
theorem tooLong_no {n : Nat} (h : n ≤ 100000) : Builtin.List.listTooLong n = false := by
  unfold Builtin.List.listTooLong
  simp only [decide_eq_false_iff_not, sizeLine_eq]
  lia
section
variable {prog : Program} {w : World} {A : Around} {E : Value → Shared → Prop} {s : Shared} {D L b : Addr} {h₀ : Heap} {m : Str → Option Value} {news news' : List (Addr × Obj)} {Q : Value → Shared → Prop}
theorem append_L {vs : List Value} {n : Nat} {x : Value} (F : Fr h₀ L s.heap m) (N : News h₀ L s.heap news) (U : Upd D (listOf vs.toArray n) (listOf (vs ++ [x]).toArray (n + 1)) news news') (hz : vs.length ≤ 100000)
    (h : ∀ h', Fr h₀ L h' m → News h₀ L h' news' → Q .none { s with heap := h' }) : wpAny (model prog w) A (call (.builtin "list.append") [.ref D, x]) Q E s := by
  refine append_K F N (by rw [List.push_toArray]; exact U) h ?_
  rw [List.size_toArray, sizeLine_eq]
  lia
theorem extend_L {vs ws : List Value} {n n2 : Nat} (F : Fr h₀ L s.heap m) (N : News h₀ L s.heap news) (hb : (b, listOf ws.toArray n2) ∈ news) (hne : ws.length ≠ 0)
    (U : Upd D (listOf vs.toArray n) (listOf (vs ++ ws).toArray (n + 1)) news news') (hz : vs.length + ws.length ≤ 100000)
    (h : ∀ h', Fr h₀ L h' m → News h₀ L h' news' → Q .none { s with heap := h' }) : wpAny (model prog w) A (call (.builtin "list.extend") [.ref D, .ref b]) Q E s := by
  refine kl_extend F N hb rfl hne U ?_ ?_ ?_ h
  · rw [List.size_toArray, List.size_toArray, tooLong_no (by lia)]
    simp
  · rw [sizeLine_eq]
    show vs.length ≤ _
    lia
  · rw [List.size_toArray, List.size_toArray, sizeLine_eq]
    lia
theorem isList_N {l : Addr} {vs : List Value} {n : Nat} (N : News h₀ L s.heap news) (h : (l, listOf vs.toArray n) ∈ news) : s.heap.IsList l vs.toArray := ⟨_, (N _ h).1, rfl, _, rfl⟩
theorem add_L {l c : Addr} {vs ws : List Value} {n1 n2 : Nat} (F : Fr h₀ L s.heap m) (N : News h₀ L s.heap news) (ha : (l, listOf vs.toArray n1) ∈ news) (hb : (c, listOf ws.toArray n2) ∈ news) (hz : vs.length + ws.length ≤ 100000)
    (h : ∀ d h', Fr h₀ L h' m → News h₀ L h' ((d, listOf (vs ++ ws).toArray 0) :: news) → (∀ p ∈ news, p.1 < d) → Q (.ref d) { s with heap := h' }) : wpAny (model prog w) A (binaryOp .Add (.ref l) (.ref c)) Q E s := by
  refine add_arrays F N (isList_N N ha) (isList_N N hb) (fun h' F' N' => h _ h' F' N' fun p hp => Heap.lt_size (N p hp).1) ?_
  rw [List.size_toArray, List.size_toArray, sizeLine_eq]
  lia
end
theorem mine_retL {h₀ h' : Heap} {L l : Addr} {n : Nat} {m : Str → Option Value} {s : Shared} {tk : Nat} {Q : Value → Shared → Prop} {news rest : List (Addr × Obj)} {ys : List Value} {ns : List Int}
    (hret : ∀ l n vs h' tk', Fr h₀ L h' m → News h₀ L h' ((l, W.listOf vs.toArray n) :: news) → (∀ p ∈ news, p.1 ≠ l) → IntsAre vs ns → Q (.ref l) { s with heap := h', toks := tk' })
    (F : Fr h₀ L h' m) (N : News h₀ L h' ((l, W.listOf ys.toArray n) :: rest)) (off : ∀ p ∈ news, p.1 < l) (hs : ∀ p ∈ news, p ∈ rest) (hi : IntsAre ys ns) : Q (.ref l) { s with heap := h', toks := tk } :=
  hret l n ys h' tk F (fun p hp => N p (by rcases List.mem_cons.mp hp with h | h; exact List.mem_cons.mpr (.inl h); exact .tail _ (hs p h))) (fun p hp => Nat.ne_of_lt (off p hp)) hi
end Mine

end TLawLst
section TLawFin
open PySem PySem.W PyProof.Rows PySem.Calls PySem.Spec
set_option Elab.async false
set_option maxRecDepth 100000
namespace Mine
noncomputable def smEs (P : Params) (t0 t1 t2 t3 t4 t5 t6 t7 t8 t9 : Tok) (va vb vm vo vf v2 vj vp : Value) : List DictEntry :=
  [⟨PyData.keyHash P (Str.ofString "isjunk"), .str (Str.ofString "isjunk") t0, .none⟩,
   ⟨PyData.keyHash P (Str.ofString "a"), .str (Str.ofString "a") t1, va⟩,
   ⟨PyData.keyHash P (Str.ofString "b"), .str (Str.ofString "b") t2, vb⟩,
   ⟨PyData.keyHash P (Str.ofString "autojunk"), .str (Str.ofString "autojunk") t3, .bool true⟩,
   ⟨PyData.keyHash P (Str.ofString "matching_blocks"), .str (Str.ofString "matching_blocks") t4, vm⟩,
   ⟨PyData.keyHash P (Str.ofString "opcodes"), .str (Str.ofString "opcodes") t5, vo⟩,
   ⟨PyData.keyHash P (Str.ofString "fullbcount"), .str (Str.ofString "fullbcount") t6, vf⟩,
   ⟨PyData.keyHash P (Str.ofString "b2j"), .str (Str.ofString "b2j") t7, v2⟩,
   ⟨PyData.keyHash P (Str.ofString "bjunk"), .str (Str.ofString "bjunk") t8, vj⟩,
   ⟨PyData.keyHash P (Str.ofString "bpopular"), .str (Str.ofString "bpopular") t9, vp⟩]
abbrev matchObj (d : Addr) (i : Int) (t : Tok) (j : Int) (u : Tok) (k : Int) (v : Tok) : Obj := { cls := .ref 135, dict := some d, data := .seq #[.int i t, .int j u, .int k v] }
section
variable {h₀ h h' g : Heap} {L x d : Addr} {led news : List (Addr × Obj)} {m : Str → Option Value}
theorem keep_all (N : News h₀ L h led) (hg : ∀ b o, b ∉ led.map (·.1) → h.get? b = some o → g.get? b = some o) (hF : ∀ b o, g.get? b = some o → h'.get? b = some o) (hN : ∀ p ∈ led, h'.get? p.1 = some p.2) :
    ∀ b o, h.get? b = some o → h'.get? b = some o := by
  intro b o e
  by_cases hb : b ∈ led.map (·.1)
  · obtain ⟨p, hp, rfl⟩ := List.mem_map.mp hb
    rw [(N p hp).1] at e
    rw [hN p hp, e]
  · exact hF b o (hg b o hb e)
theorem new_all (hg : ∀ b o, b ∉ led.map (·.1) → h.get? b = some o → g.get? b = some o) (hx : g.get? x = none) (hl : ∀ p ∈ led, p.1 < x) : ∀ b o, h.get? b = some o → b ≠ x := by
  intro b o e
  by_cases hb : b ∈ led.map (·.1)
  · obtain ⟨p, hp, rfl⟩ := List.mem_map.mp hb
    exact Nat.ne_of_lt (hl p hp)
  · rintro rfl
    rw [hg b o hb e] at hx
    cases hx
theorem fr_ext (F : Fr h₀ L h m) (k : ∀ b o, h.get? b = some o → h'.get? b = some o) : Fr h₀ L h' m := by
  obtain ⟨oL, a1, a2, hL, a3⟩ := F.ns
  exact ⟨⟨oL, a1, a2, k _ _ hL, a3⟩, fun b o e => k b o (F.keep b o e), F.above⟩
theorem news_ext (N : News h₀ L h news) (k : ∀ b o, h.get? b = some o → h'.get? b = some o) : News h₀ L h' news := fun p hp => ⟨k _ _ (N p hp).1, (N p hp).2⟩
theorem news_new {o : Obj} (F : Fr h₀ L h m) (N : News h₀ L h' news) (n : ∀ b o, h.get? b = some o → b ≠ x) (hx : h'.get? x = some o) : News h₀ L h' ((x, o) :: news) := by
  intro p hp
  rcases List.mem_cons.mp hp with rfl | hp
  · obtain ⟨oL, a1, a2, hL, a3⟩ := F.ns
    refine ⟨hx, fun e => n L oL hL e.symm, ?_⟩
    cases q : h₀.get? x with
    | none => rfl
    | some o' => exact absurd rfl (n x o' (F.keep x o' q))
  · exact N p hp
theorem off_new (N : News h₀ L h news) (n : ∀ b o, h.get? b = some o → b ≠ x) : ∀ p ∈ news, p.1 ≠ x := fun p hp => n _ _ (N p hp).1
end
end Mine

end TLawFin
section TLawEnum
open PySem PySem.W PyProof.Rows PySem.Calls PySem.Spec
set_option Elab.async false
set_option maxRecDepth 100000
namespace Mine
section
variable {prog : Program} {w : World} {A : Around} {E : Value → Shared → Prop} {s : Shared} {env : Env} {h₀ : Heap} {xi xv : Str} {pk pv pt : Pos} {x1 : Nat} {body : List Stmt} {R : Result → Shared → Prop}
structure EnumSt {σ : Type} (h₀ : Heap) (L l e it : Addr) (vs : List Value) (n : Nat) (m₀ : Str → Option Value) (rest : List (Addr × Obj)) (ps : σ → List (Str × Value)) (Led : σ → List (Addr × Obj)) (xi xv : Str) (stored : List Str) (Inv : Nat → σ → Prop) (s : Shared) (k : Nat) (s' : Shared) : Prop where
  ex : ∃ h tk m c i, s' = { s with heap := h, toks := tk } ∧ ((∃ old, IsEnum h e it ((i : Nat) : Int) old) ∧ h.IsListIter it l i ∧ h.IsList l vs.toArray) ∧ Fr h₀ L h m ∧ News h₀ L h (Led c ++ rest) ∧
      (∀ p ∈ Led c ++ rest, p.1 ≠ e ∧ p.1 ≠ it) ∧ (∀ p ∈ rest, ∀ q ∈ Led c, p.1 ≠ q.1) ∧ (∀ p ∈ ps c, m p.1 = some p.2) ∧ (∀ z, z ≠ xv → (∀ p ∈ ps c, z ≠ p.1) → (xi :: stored).contains z = false → m z = m₀ z) ∧ Inv i c ∧ i ≤ n ∧ k = n + 1 - i
theorem my_enum {σ : Type} {l : Addr} {vs : List Value} {nl : Nat} {ns : List Int} {m₀ : Str → Option Value} {rest : List (Addr × Obj)} (ps : σ → List (Str × Value)) (Led : σ → List (Addr × Obj)) (stored : List Str) (Inv : Nat → σ → Prop) (c₀ : σ)
    (hh : A.handled = none) (hxi : env.kindOf xi = some .local) (hxv : env.kindOf xv = some .local)
    (hp : (env.scope.kind == .class || (env.scope.kind == .module && env.locals != env.globals)) = false) (hne : xi ≠ xv)
    (hps : ∀ c, ∀ p ∈ ps c, p.1 ≠ xi) (hl : (l, W.listOf vs.toArray nl) ∈ rest) (hints : IntsAre vs ns)
    (F : Fr h₀ env.locals s.heap m₀) (N : News h₀ env.locals s.heap (Led c₀ ++ rest))
    (hoff : ∀ p ∈ rest, ∀ q ∈ Led c₀, p.1 ≠ q.1) (hk : ∀ p ∈ ps c₀, m₀ p.1 = some p.2) (hi : Inv 0 c₀)
    (turn : ∀ (i : Nat) (k : Int) t ti (c : σ) (u : Str → Option Value) h tk own, ns[i]? = some k → Inv i c → (∀ p ∈ own, ∀ q ∈ Led c, p.1 ≠ q.1) → (∀ p ∈ rest, p ∈ own) →
      Fr h₀ env.locals h (fun y => if y = xv then some (.int k t) else kstB (fun z => if (xi :: stored).contains z then u z else m₀ z) ((xi, .int (i : Int) ti) :: ps c) y) → News h₀ env.locals h (Led c ++ own) →
      wpAny (model prog w) A (execs body env) (LPost h₀ env.locals ps Led xv (xi :: stored) m₀ (Inv (i + 1)) own { s with heap := h, toks := tk } (fun _ => False) (fun v s' => R (.ok (.ret v)) s')) (notedBy (model prog w) A env fun e s' => R (.error e) s') { s with heap := h, toks := tk })
    (done : ∀ (c : σ) (u : Str → Option Value) h tk, Inv ns.length c → (∀ p ∈ rest, ∀ q ∈ Led c, p.1 ≠ q.1) → Fr h₀ env.locals h (fun y => if y = xv then u y else kstB (fun z => if (xi :: stored).contains z then u z else m₀ z) (ps c) y) → News h₀ env.locals h (Led c ++ rest) → R (.ok .next) { s with heap := h, toks := tk }) :
    wpAny (model prog w) A (call (.type "enumerate") [.ref l]) (fun x s₁ => wpAny (model prog w) A (pyIter x) (fun it s₂ => codeAny (model prog w) A (.forLoop (.Tuple [.Name xi pk, .Name xv pv] x1 pt) it body [] env) R s₂) E s₁) E s := by
  have hls : s.heap.IsList l vs.toArray := isList_N N (List.mem_append_right _ hl)
  refine call_enumerate_list hls fun h' he hit hsz hkp => ?_
  have hLlt : env.locals < s.heap.objs.size := F.ns.lt
  have hllt : l < s.heap.objs.size := Heap.lt_size (N _ (List.mem_append_right _ hl)).1
  have hlL : l ≠ env.locals := (N _ (List.mem_append_right _ hl)).2.1
  obtain ⟨e, hee⟩ : ∃ e, e = s.heap.objs.size + 1 := ⟨_, rfl⟩
  obtain ⟨it, hite⟩ : ∃ it, it = s.heap.objs.size := ⟨_, rfl⟩
  rw [← hee, ← hite] at he
  rw [← hite] at hit
  rw [← hee]
  have hei : e ≠ it := by rw [hee, hite]; exact Nat.succ_ne_self _
  have hle : l ≠ e := by rw [hee]; exact Nat.ne_of_lt (Nat.lt_succ_of_lt hllt)
  have hli : l ≠ it := by rw [hite]; exact Nat.ne_of_lt hllt
  have Wk := WalksT.enumerate (prog := prog) (w := w) hh e it l hei hle hli vs.toArray
  have hnw0 : ∀ p ∈ Led c₀ ++ rest, p.1 ≠ e ∧ p.1 ≠ it := fun p hp => by
    have := Heap.lt_size (N p hp).1
    rw [hee, hite]
    exact ⟨Nat.ne_of_lt (Nat.lt_succ_of_lt this), Nat.ne_of_lt this⟩
  have hLe : env.locals ≠ e := by rw [hee]; exact Nat.ne_of_lt (Nat.lt_succ_of_lt hLlt)
  have hLi : env.locals ≠ it := by rw [hite]; exact Nat.ne_of_lt hLlt
  have h0e : h₀.get? e = none := by rw [hee]; exact Heap.get?_none_of_le (Nat.le_trans F.above (Nat.le_of_lt (Nat.lt_succ_of_lt hLlt)))
  have h0i : h₀.get? it = none := by rw [hite]; exact Heap.get?_none_of_le (Nat.le_trans F.above (Nat.le_of_lt hLlt))
  have F' : Fr h₀ env.locals h' m₀ := fr_ext F hkp
  have N' : News h₀ env.locals h' (Led c₀ ++ rest) := news_ext N hkp
  have hl' : h'.IsList l vs.toArray := hls.at fun o x => hkp l o x
  refine Wk.self 0 _ _ _ ⟨⟨_, he⟩, hit, hl'⟩ ?_
  have hlen : vs.toArray.size = ns.length := by rw [List.size_toArray, hints.length]
  have old : ∀ b o, h₀.get? b = some o → b ∉ [e, it] := fun b o x hb => by
    rcases List.mem_cons.mp hb with rfl | hb
    · rw [h0e] at x; cases x
    · rw [List.mem_singleton.mp hb, h0i] at x; cases x
  have hLw : env.locals ∉ [e, it] := fun hb => by
    rcases List.mem_cons.mp hb with hb | hb
    · exact hLe hb
    · exact hLi (List.mem_singleton.mp hb)
  have hLf : env.locals ∉ [e, it, l] := fun hb => by
    rcases List.mem_cons.mp hb with hb | hb
    · exact hLe hb
    · rcases List.mem_cons.mp hb with hb | hb
      · exact hLi hb
      · exact hlL (List.mem_singleton.mp hb).symm
  refine codeAny_forLoop_any
    (EnumSt h₀ env.locals l e it vs ns.length m₀ rest ps Led xi xv stored Inv s) ?_ (ns.length + 1)
    ⟨h', s.toks, m₀, c₀, 0, rfl, ⟨⟨_, he⟩, hit, hl'⟩, F', N', hnw0, hoff, hk, fun _ _ _ _ => rfl, hi, Nat.zero_le _, rfl⟩
  rintro k s' ⟨H, tk, m, c, i, rfl, hst, F1, N1, hnw, hof, hm1, hm2, hI, hile, rfl⟩
  have next : ∀ h₁ : Heap, (∀ b o, b ∉ [e, it] → H.get? b = some o → h₁.get? b = some o) → Fr h₀ env.locals h₁ m ∧ News h₀ env.locals h₁ (Led c ++ rest) := fun h₁ hk₁ =>
    ⟨⟨F1.ns.at' fun o x => hk₁ _ o hLw x, fun b o x => hk₁ b o (old b o x) (F1.keep b o x), F1.above⟩, fun p hp => ⟨hk₁ _ _ (fun hb => by
      rcases List.mem_cons.mp hb with hb | hb
      · exact (hnw p hp).1 hb
      · exact (hnw p hp).2 (List.mem_singleton.mp hb)) (N1 p hp).1, (N1 p hp).2⟩⟩
  by_cases hlt : i < ns.length
  · refine Wk.item i _ _ _ (by rw [hlen]; exact hlt) hst fun T vals h₁ tk₁ hPt _ hT hMid hk₁ => ?_
    obtain ⟨ti, x, hx, rfl⟩ := hPt
    obtain ⟨kk, hkk⟩ : ∃ kk, ns[i]? = some kk := ⟨_, List.getElem?_eq_getElem hlt⟩
    obtain ⟨t, rfl⟩ : ∃ t, x = .int kk t := by
      have := hints.get i kk hkk
      obtain ⟨t, ht⟩ := this
      rw [List.getElem?_toArray, ht] at hx
      exact ⟨t, (Option.some.inj hx).symm⟩
    refine Wk.go _ x1 pt i T _ _ _ hMid fun h₂ hst₂ hk₂ => ?_
    have ht₂ : h₂.IsTuple T #[.int (i : Int) ti, .int kk t] := hT.at fun o x => hk₂ T o (Wk.apart i T h₁ hMid) x
    refine wpAny_assign_Tuple hh ht₂ rfl rfl fun h₃ hx₃ => ?_
    replace hx₃ : Heap.ExtBut h₂.objs.size h₂ h₃ := hx₃
    have up₃ : ∀ b o, h₂.get? b = some o → h₃.get? b = some o := fun b o x => hx₃ b o (Nat.ne_of_lt (Heap.lt_size x)) x
    obtain ⟨F₃, N₃⟩ := next h₃ fun b o hb x => up₃ b o (hk₂ b o hb (hk₁ b o hb x))
    show wpAny _ A (do holding [Value.int kk t] (assign (.Name xi pk) env (.int (i : Int) ti)); do holding [] (assign (.Name xv pv) env (.int kk t)); pure ()) _ _ _
    refine wpAny_bind (wpAny_holding (wpAny_assign_Name (wpAny_storeName_local hxi F₃.ns (fun h₄ hn₄ hs₄ => ?_) hp)))
    replace hs₄ : Heap.SameBut env.locals h₃ h₄ := hs₄
    have F₄ := F₃.set hn₄ hs₄
    refine wpAny_bind (wpAny_holding (wpAny_assign_Name (wpAny_storeName_local hxv F₄.ns (fun h₅ hn₅ hs₅ => wpAny_pure ?_) hp)))
    replace hs₅ : Heap.SameBut env.locals h₄ h₅ := hs₅
    have F₅ := F₄.set hn₅ hs₅
    have N₅ : News h₀ env.locals h₅ (Led c ++ rest) := (N₃.set hs₄).set hs₅
    have hst₅ := Wk.frame _ _ h₅ hst₂ fun b hb o x => hs₅.extBut b o (fun q => hLf (q ▸ hb)) (hs₄.extBut b o (fun q => hLf (q ▸ hb)) (up₃ b o x))
    obtain ⟨⟨oldv, hen⟩, ⟨oit, hoit, hoit2⟩, hlist5⟩ := id hst₅
    have hown : News h₀ env.locals h₅ (rest ++ ownOf h₀ [e, it] h₅) := fun p hp => by
      rcases List.mem_append.mp hp with hp | hp
      · exact N₅ p (List.mem_append_right _ hp)
      · exact news_ownOf hLw p hp
    have hofw : ∀ p ∈ rest ++ ownOf h₀ [e, it] h₅, ∀ q ∈ Led c, p.1 ≠ q.1 := by
      intro p hp q hq
      rcases List.mem_append.mp hp with hp | hp
      · exact hof p hp q hq
      · intro x
        have := ownOf_sub p hp
        have hq' := hnw q (List.mem_append_left _ hq)
        rcases List.mem_cons.mp this with hb | hb
        · exact hq'.1 (x ▸ hb)
        · exact hq'.2 (x ▸ List.mem_singleton.mp hb)
    have m1' : ∀ p ∈ (xi, Value.int (i : Int) ti) :: ps c, (fun y => if y = xi then some (Value.int (i : Int) ti) else m y) p.1 = some p.2 := by
      refine List.forall_mem_cons.mpr ⟨by simp, fun p hp => ?_⟩
      simp only [hps c p hp, if_false]
      exact hm1 p hp
    have m2' : ∀ z, z ≠ xv → (∀ p ∈ (xi, Value.int (i : Int) ti) :: ps c, z ≠ p.1) → (xi :: stored).contains z = false → (fun y => if y = xi then some (Value.int (i : Int) ti) else m y) z = m₀ z := by
      intro z h1 h2 h3
      have h4 : z ≠ xi := h2 _ (.head _)
      simp only [h4, if_false]
      exact hm2 z h1 (fun p hp => h2 p (.tail _ hp)) h3
    have F₆ := kst_fr (stored := xi :: stored) m1' m2' F₅
    have N₆ : News h₀ env.locals h₅ (Led c ++ (rest ++ ownOf h₀ [e, it] h₅)) := fun p hp => by
      rcases List.mem_append.mp hp with hp | hp
      · exact N₅ p (List.mem_append_left _ hp)
      · exact hown p hp
    refine wpAny_mono (turn i kk t ti c _ h₅ _ (rest ++ ownOf h₀ [e, it] h₅) hkk hI hofw (fun p hp => List.mem_append_left _ hp) F₆ N₆) (fun f s₃ h₆ => ?_) fun _ _ x => x
    have hme : (e, _) ∈ ownOf h₀ [e, it] h₅ := mem_ownOf (.head _) h0e hen
    have hmi : (it, oit) ∈ ownOf h₀ [e, it] h₅ := mem_ownOf (.tail _ (.head _)) h0i hoit
    have fin : LEnd h₀ env.locals ps Led xv (xi :: stored) m₀ (Inv (i + 1)) (rest ++ ownOf h₀ [e, it] h₅) { s with heap := h₅, toks := tk₁ } s₃ → ∃ mm, mm < ns.length + 1 - i ∧ EnumSt h₀ env.locals l e it vs ns.length m₀ rest ps Led xi xv stored Inv s mm s₃ := by
      rintro ⟨c', h7, tk7, m7, news7, rfl, F7, N7, ha, hb, hc, hd, hee7, hJ⟩
      refine ⟨ns.length + 1 - (i + 1), by lia, h7, tk7, m7, c', i + 1, rfl, ⟨⟨oldv, ?_⟩, ?_, ?_⟩, F7, ?_, ?_, ?_, hd, hee7, hJ, hlt, rfl⟩
      · exact (N7 _ (hb _ (List.mem_append_right _ hme))).1
      · exact ⟨oit, (N7 _ (hb _ (List.mem_append_right _ hmi))).1, hoit2⟩
      · exact ⟨_, (N7 _ (hb _ (List.mem_append_left _ hl))).1, rfl, _, rfl⟩
      · intro p hp
        rcases List.mem_append.mp hp with hp | hp
        · exact N7 p (ha p hp)
        · exact N7 p (hb p (List.mem_append_left _ hp))
      · intro p hp
        rcases List.mem_append.mp hp with hp | hp
        · exact ⟨fun x => hc _ (List.mem_append_right _ hme) p hp x.symm, fun x => hc _ (List.mem_append_right _ hmi) p hp x.symm⟩
        · exact hnw p (List.mem_append_right _ hp)
      · exact fun p hp => hc p (List.mem_append_left _ hp)
    cases f with
    | ret v => exact h₆
    | brk => obtain ⟨_, _, _, _, _, _, _, _, _, _, _, _, _, h⟩ := h₆; exact h.elim
    | cont => exact fin h₆
    | next => exact fin h₆
  · have hin : i = ns.length := by lia
    subst hin
    refine Wk.done _ _ _ (by rw [hlen]; exact hst) fun h₁ tk₁ hk₁ => wpAny_execs_nil ?_
    obtain ⟨F₁, N₁⟩ := next h₁ hk₁
    exact done c m h₁ tk₁ hI hof (kst_frOut hm1 hm2 F₁) N₁
end
end Mine

end TLawEnum
section TLawSmP
open PySem PySem.W PyProof.Rows PySem.Calls PySem.Spec
set_option Elab.async false
set_option maxRecDepth 100000
namespace Mine
structure CB where
  o : Obj
  kvs : List (Int × Value)
  ls : List (Int × Addr × List Value × Nat)
noncomputable def CB.row (e : Int × Addr × List Value × Nat) : Addr × Obj := (e.2.1, W.listOf e.2.2.1.toArray e.2.2.2)
noncomputable def CB.led (db : Addr) (c : CB) : List (Addr × Obj) := (db, c.o) :: c.ls.map CB.row
noncomputable def posTo (bs : List Int) (i : Nat) (x : Int) : List Int := ((List.range i).filter fun j => bs[j]? = some x).map fun j : Nat => (j : Int)
theorem posTo_succ (bs : List Int) (i : Nat) (x : Int) : posTo bs (i + 1) x = posTo bs i x ++ if bs[i]? = some x then [(i : Int)] else [] := by
  unfold posTo
  rw [List.range_succ, List.filter_append, List.map_append]
  congr 1
  by_cases h : bs[i]? = some x
  · simp [h]
  · simp [h]
theorem posTo_len (bs : List Int) (i : Nat) (x : Int) : (posTo bs i x).length ≤ i := by
  unfold posTo
  rw [List.length_map]
  exact Nat.le_trans (List.length_filter_le _ _) (by rw [List.length_range]; exact Nat.le_refl _)
structure CBInv (db : Addr) (prog : Program) (w : World) (bs : List Int) (i : Nat) (c : CB) : Prop where
  dict : c.o.IsDictOf (PySem.intKind prog w) c.kvs
  len : c.kvs.length ≤ i
  vals : ∀ x, valueAt c.kvs x = (c.ls.lookup x).map fun e => Value.ref e.1
  nums : ∀ e ∈ c.ls, IntsAre e.2.2.1 (posTo bs i e.1)
  miss : ∀ x, c.ls.lookup x = none → posTo bs i x = []
  once : (c.ls.map (·.1)).Nodup
  apart : (c.ls.map (·.2.1)).Nodup
  off : ∀ e ∈ c.ls, e.2.1 ≠ db
theorem CBInv.zero {db : Addr} {prog : Program} {w : World} {bs : List Int} {o : Obj} (h : o.IsDictOf (PySem.intKind prog w) []) : CBInv db prog w bs 0 ⟨o, [], []⟩ :=
  ⟨h, Nat.le_refl _, fun _ => rfl, fun _ h => (nomatch h), fun _ _ => rfl, .nil, .nil, fun _ h => (nomatch h)⟩
theorem ints_app' {a b : List Value} {x y : List Int} (h : IntsAre a x) (h' : IntsAre b y) : IntsAre (a ++ b) (x ++ y) := by
  induction h with
  | nil => exact h'
  | cons _ _ _ ih => exact .cons _ _ ih
section
variable {db L : Addr} {h₀ h h' : Heap} {c : CB} {own R : List (Addr × Obj)} {prog : Program} {w : World} {bs : List Int} {i : Nat} {k : Int}
theorem lookup_none_ne {α β : Type} [DecidableEq α] : ∀ {l : List (α × β)} {x : α}, l.lookup x = none → ∀ e ∈ l, e.1 ≠ x
  | (y, b) :: l, x, h, e, he => by
    rw [List.lookup_cons] at h
    cases hb : x == y with
    | true => rw [hb] at h; cases h
    | false =>
      rw [hb] at h
      have hne : x ≠ y := by simpa using hb
      rcases List.mem_cons.mp he with rfl | he
      · exact fun q => hne q.symm
      · exact lookup_none_ne h e he
theorem lookup_split {α β : Type} [DecidableEq α] : ∀ {l : List (α × β)} {x : α} {b : β}, l.lookup x = some b → ∃ pre post, l = pre ++ (x, b) :: post ∧ ∀ e ∈ pre, e.1 ≠ x
  | (y, b') :: l, x, b, h => by
    rw [List.lookup_cons] at h
    cases hb : x == y with
    | true =>
      rw [hb] at h
      have : x = y := by simpa using hb
      subst this
      cases h
      exact ⟨[], l, rfl, fun _ h => (nomatch h)⟩
    | false =>
      rw [hb] at h
      have hne : x ≠ y := by simpa using hb
      obtain ⟨pre, post, rfl, hp⟩ := lookup_split h
      exact ⟨(y, b') :: pre, post, rfl, List.forall_mem_cons.mpr ⟨fun q => hne q.symm, hp⟩⟩
theorem turn_none (hI : CBInv db prog w bs i c) (hoff : ∀ p ∈ own, ∀ q ∈ CB.led db c, p.1 ≠ q.1) (N : News h₀ L h (CB.led db c ++ own)) :
    ∃ R, R = c.ls.map CB.row ++ own ∧ News h₀ L h ((db, c.o) :: R) ∧ ∀ p ∈ R, p.1 ≠ db := by
  refine ⟨_, rfl, N, fun p hp => ?_⟩
  rcases List.mem_append.mp hp with hp | hp
  · obtain ⟨e, he, rfl⟩ := List.mem_map.mp hp
    exact hI.off e he
  · exact hoff p hp _ (.head _)
theorem turn_some {li : Addr} {vs : List Value} {n : Nat} (hI : CBInv db prog w bs i c) (hc : c.ls.lookup k = some (li, vs, n)) (hoff : ∀ p ∈ own, ∀ q ∈ CB.led db c, p.1 ≠ q.1) (N : News h₀ L h (CB.led db c ++ own)) :
    ∃ pre post R, c.ls = pre ++ (k, li, vs, n) :: post ∧ R = (pre ++ post).map CB.row ++ own ∧ News h₀ L h ((db, c.o) :: (li, W.listOf vs.toArray n) :: R) ∧ (∀ p ∈ R, p.1 ≠ db) ∧ (∀ p ∈ R, p.1 ≠ li) ∧ db ≠ li ∧ vs.length ≤ i := by
  obtain ⟨pre, post, e, _⟩ := lookup_split hc
  have hmem : (k, li, vs, n) ∈ c.ls := by rw [e]; exact List.mem_append_right _ (.head _)
  have hap := hI.apart
  rw [e, List.map_append, List.map_cons] at hap
  have hap2 := List.nodup_append.mp hap
  refine ⟨pre, post, _, e, rfl, fun p hp => N p ?_, fun p hp => ?_, fun p hp => ?_, fun q => hI.off _ hmem q.symm, ?_⟩
  · show p ∈ (db, c.o) :: (c.ls.map CB.row ++ own)
    rw [e, List.map_append, List.map_cons]
    rw [List.map_append] at hp
    simp only [List.mem_cons, List.mem_append] at hp ⊢
    rcases hp with h | h | (h | h) | h
    · exact .inl h
    · exact .inr (.inl (.inr (.inl h)))
    · exact .inr (.inl (.inl h))
    · exact .inr (.inl (.inr (.inr h)))
    · exact .inr (.inr h)
  · rcases List.mem_append.mp hp with hp | hp
    · obtain ⟨x, hx, rfl⟩ := List.mem_map.mp hp
      refine hI.off x ?_
      rw [e]
      rcases List.mem_append.mp hx with hx | hx
      · exact List.mem_append_left _ hx
      · exact List.mem_append_right _ (.tail _ hx)
    · exact hoff p hp _ (.head _)
  · rcases List.mem_append.mp hp with hp | hp
    · obtain ⟨x, hx, rfl⟩ := List.mem_map.mp hp
      rcases List.mem_append.mp hx with hx | hx
      · exact hap2.2.2 _ (List.mem_map_of_mem hx) _ (.head _)
      · exact fun q => (List.nodup_cons.mp hap2.2.1).1 (q ▸ List.mem_map_of_mem (f := (·.2.1)) hx)
    · exact hoff p hp _ (.tail _ (List.mem_map_of_mem (f := CB.row) hmem))
  · have := (hI.nums _ hmem).length
    rw [this]
    exact posTo_len _ _ _
theorem lookup_cons_ne {α β : Type} [DecidableEq α] {l : List (α × β)} {x y : α} {b : β} (h : x ≠ y) : ((y, b) :: l).lookup x = l.lookup x := by
  rw [List.lookup_cons, show (x == y) = false by simpa using h]
theorem cb_new {o' : Obj} {l0 : Addr} {ti : Tok} {n0 : Nat} (hI : CBInv db prog w bs i c) (hc : c.ls.lookup k = none) (hk : bs[i]? = some k) (hd : o'.IsDictOf (PySem.intKind prog w) (stored c.kvs k (.ref l0)))
    (hl : ∀ e ∈ c.ls, e.2.1 ≠ l0) (hdl : l0 ≠ db) : CBInv db prog w bs (i + 1) ⟨o', stored c.kvs k (.ref l0), (k, l0, [.int (i : Int) ti], n0) :: c.ls⟩ where
  dict := hd
  len := by
    have h1 := stored_length_le c.kvs k (.ref l0)
    have h2 := hI.len
    show (stored c.kvs k (.ref l0)).length ≤ i + 1
    lia
  vals := fun x => by
    rw [valueAt_stored]
    by_cases hx : x = k
    · subst hx
      rw [if_pos rfl, List.lookup_cons, show (x == x) = true by simp]
      rfl
    · rw [if_neg hx, lookup_cons_ne hx, hI.vals]
  nums := by
    refine List.forall_mem_cons.mpr ⟨?_, fun e he => ?_⟩
    · show IntsAre [Value.int (i : Int) ti] (posTo bs (i + 1) k)
      rw [posTo_succ, if_pos hk, hI.miss k hc]
      exact .cons _ _ .nil
    · have hne := lookup_none_ne hc e he
      rw [posTo_succ, if_neg (by rw [hk]; exact fun q => hne (Option.some.inj q).symm), List.append_nil]
      exact hI.nums e he
  miss := fun x hx => by
    by_cases hxk : x = k
    · subst hxk
      rw [List.lookup_cons, show (x == x) = true by simp] at hx
      cases hx
    · rw [lookup_cons_ne hxk] at hx
      rw [posTo_succ, hI.miss x hx, if_neg (by rw [hk]; exact fun q => hxk (Option.some.inj q).symm)]
      rfl
  once := by
    rw [List.map_cons]
    refine List.nodup_cons.mpr ⟨fun hm => ?_, hI.once⟩
    obtain ⟨e, he, q⟩ := List.mem_map.mp hm
    exact lookup_none_ne hc e he q
  apart := by
    rw [List.map_cons]
    refine List.nodup_cons.mpr ⟨fun hm => ?_, hI.apart⟩
    obtain ⟨e, he, q⟩ := List.mem_map.mp hm
    exact hl e he q
  off := List.forall_mem_cons.mpr ⟨hdl, hI.off⟩
theorem lookup_mid {pre post : List (Int × Addr × List Value × Nat)} {x : Int} {b b' : Addr × List Value × Nat} (hb : b.1 = b'.1) :
    ((pre ++ (k, b) :: post).lookup x).map (fun e => Value.ref e.1) = ((pre ++ (k, b') :: post).lookup x).map (fun e => Value.ref e.1) ∧ ((pre ++ (k, b) :: post).lookup x = none → (pre ++ (k, b') :: post).lookup x = none) := by
  induction pre with
  | nil =>
    rw [List.nil_append, List.nil_append, List.lookup_cons, List.lookup_cons]
    cases x == k with
    | true => exact ⟨by simp [hb], fun h => by cases h⟩
    | false => exact ⟨rfl, id⟩
  | cons p r ih =>
    obtain ⟨y, by'⟩ := p
    rw [List.cons_append, List.cons_append, List.lookup_cons, List.lookup_cons]
    cases x == y with
    | true => exact ⟨rfl, fun h => by cases h⟩
    | false => exact ih
theorem cb_old {li : Addr} {vs : List Value} {n n' : Nat} {ti : Tok} {pre post : List (Int × Addr × List Value × Nat)} (hI : CBInv db prog w bs i c) (e : c.ls = pre ++ (k, li, vs, n) :: post) (hk : bs[i]? = some k) :
    CBInv db prog w bs (i + 1) ⟨c.o, c.kvs, pre ++ (k, li, vs ++ [.int (i : Int) ti], n') :: post⟩ where
  dict := hI.dict
  len := Nat.le_succ_of_le hI.len
  vals := fun x => by
    rw [hI.vals, e]
    exact (lookup_mid (b := (li, vs, n)) (b' := (li, vs ++ [.int (i : Int) ti], n')) rfl).1
  nums := fun x hx => by
    have hn := hI.once
    rw [e, List.map_append, List.map_cons] at hn
    have hn2 := List.nodup_append.mp hn
    rcases List.mem_append.mp hx with hx | hx
    · have hne : x.1 ≠ k := hn2.2.2 _ (List.mem_map_of_mem hx) _ (.head _)
      rw [posTo_succ, if_neg (by rw [hk]; exact fun q => hne (Option.some.inj q).symm), List.append_nil]
      exact hI.nums x (e ▸ List.mem_append_left _ hx)
    · rcases List.mem_cons.mp hx with rfl | hx
      · rw [posTo_succ, if_pos hk]
        exact ints_app' (hI.nums _ (e ▸ List.mem_append_right _ (.head _))) (.cons _ _ .nil)
      · have hne : x.1 ≠ k := fun q => (List.nodup_cons.mp hn2.2.1).1 (q ▸ List.mem_map_of_mem (f := (·.1)) hx)
        rw [posTo_succ, if_neg (by rw [hk]; exact fun q => hne (Option.some.inj q).symm), List.append_nil]
        exact hI.nums x (e ▸ List.mem_append_right _ (.tail _ hx))
  miss := fun x hx => by
    have hx2 : c.ls.lookup x = none := by rw [e]; exact (lookup_mid (b := (li, vs ++ [.int (i : Int) ti], n')) (b' := (li, vs, n)) rfl).2 hx
    have hxk : x ≠ k := fun q => lookup_none_ne hx2 (k, li, vs, n) (e ▸ List.mem_append_right _ (.head _)) q.symm
    rw [posTo_succ, hI.miss x hx2, if_neg (by rw [hk]; exact fun q => hxk (Option.some.inj q).symm)]
    rfl
  once := by
    have := hI.once
    rw [e, List.map_append, List.map_cons] at this
    rw [List.map_append, List.map_cons]
    exact this
  apart := by
    have := hI.apart
    rw [e, List.map_append, List.map_cons] at this
    rw [List.map_append, List.map_cons]
    exact this
  off := fun x hx => by
    rcases List.mem_append.mp hx with hx | hx
    · exact hI.off x (e ▸ List.mem_append_left _ hx)
    · rcases List.mem_cons.mp hx with rfl | hx
      · exact hI.off (k, li, vs, n) (e ▸ List.mem_append_right _ (.head _))
      · exact hI.off x (e ▸ List.mem_append_right _ (.tail _ hx))
variable {x : Str} {st : List Str} {m₀ m' : Str → Option Value} {s₁ : Shared} {Bk : CB → Prop} {R' : Value → Shared → Prop} {tk : Nat}
theorem turn_none_end {o' : Obj} {l0 : Addr} {ti : Tok} {n0 : Nat} (hI : CBInv db prog w bs i c) (hc : c.ls.lookup k = none) (hk : bs[i]? = some k) (hR : R = c.ls.map CB.row ++ own) (hoff : ∀ p ∈ own, ∀ q ∈ CB.led db c, p.1 ≠ q.1)
    (F : Fr h₀ L h' m') (N : News h₀ L h' ((l0, W.listOf [Value.int (i : Int) ti].toArray n0) :: (db, o') :: R)) (hd : o'.IsDictOf (PySem.intKind prog w) (stored c.kvs k (.ref l0))) (hl : ∀ p ∈ R, p.1 ≠ l0) (hdl : l0 ≠ db)
    (hz : ∀ z, z ≠ x → st.contains z = false → m' z = m₀ z) : LPost h₀ L (fun _ : CB => []) (CB.led db) x st m₀ (CBInv db prog w bs (i + 1)) own s₁ Bk R' .next { s₁ with heap := h', toks := tk } := by
  subst hR
  refine lpost_next ⟨o', stored c.kvs k (.ref l0), (k, l0, [.int (i : Int) ti], n0) :: c.ls⟩ F N ?_ (fun p hp => .tail _ (.tail _ (List.mem_append_right _ hp))) ?_ (fun _ h => nomatch h) (fun z h1 _ h3 => hz z h1 h3)
    (cb_new hI hc hk hd (fun e he => hl _ (List.mem_append_left _ (List.mem_map_of_mem (f := CB.row) he))) hdl)
  · intro p hp
    rcases List.mem_cons.mp hp with rfl | hp
    · exact .tail _ (.head _)
    rcases List.mem_cons.mp hp with rfl | hp
    · exact .head _
    · exact .tail _ (.tail _ (List.mem_append_left _ hp))
  · intro p hp q hq
    rcases List.mem_cons.mp hq with rfl | hq
    · exact hoff p hp (db, c.o) (.head _)
    rcases List.mem_cons.mp hq with rfl | hq
    · exact hl p (List.mem_append_right _ hp)
    · exact hoff p hp q (.tail _ hq)
theorem turn_some_end {li : Addr} {vs : List Value} {n n' : Nat} {ti : Tok} {pre post : List (Int × Addr × List Value × Nat)} {extra : List (Addr × Obj)} (hI : CBInv db prog w bs i c) (e : c.ls = pre ++ (k, li, vs, n) :: post) (hk : bs[i]? = some k) (hR : R = (pre ++ post).map CB.row ++ own) (hoff : ∀ p ∈ own, ∀ q ∈ CB.led db c, p.1 ≠ q.1)
    (F : Fr h₀ L h' m') (N : News h₀ L h' (extra ++ (db, c.o) :: (li, W.listOf (vs ++ [Value.int (i : Int) ti]).toArray n') :: R))
    (hz : ∀ z, z ≠ x → st.contains z = false → m' z = m₀ z) : LPost h₀ L (fun _ : CB => []) (CB.led db) x st m₀ (CBInv db prog w bs (i + 1)) own s₁ Bk R' .next { s₁ with heap := h', toks := tk } := by
  subst hR
  refine lpost_next ⟨c.o, c.kvs, pre ++ (k, li, vs ++ [.int (i : Int) ti], n') :: post⟩ F N ?_ (fun p hp => List.mem_append_right _ (.tail _ (.tail _ (List.mem_append_right _ hp)))) ?_ (fun _ h => nomatch h) (fun z h1 _ h3 => hz z h1 h3) (cb_old hI e hk)
  · intro p hp
    refine List.mem_append_right _ ?_
    rcases List.mem_cons.mp hp with rfl | hp
    · exact .head _
    rw [List.map_append, List.map_cons] at hp
    rw [List.map_append]
    rcases List.mem_append.mp hp with hp | hp
    · exact .tail _ (.tail _ (List.mem_append_left _ (List.mem_append_left _ hp)))
    rcases List.mem_cons.mp hp with rfl | hp
    · exact .tail _ (.head _)
    · exact .tail _ (.tail _ (List.mem_append_left _ (List.mem_append_right _ hp)))
  · intro p hp q hq
    rcases List.mem_cons.mp hq with rfl | hq
    · exact hoff p hp _ (.head _)
    rw [List.map_append, List.map_cons] at hq
    rcases List.mem_append.mp hq with hq | hq
    · exact hoff p hp q (.tail _ (e ▸ (by rw [List.map_append]; exact List.mem_append_left _ hq)))
    rcases List.mem_cons.mp hq with rfl | hq
    · exact hoff p hp (CB.row (k, li, vs, n)) (.tail _ (e ▸ (by rw [List.map_append]; exact List.mem_append_right _ (.head _))))
    · exact hoff p hp q (.tail _ (e ▸ (by rw [List.map_append]; exact List.mem_append_right _ (.tail _ hq))))
end
section
variable {prog : Program} {w : World} {A : Around} {E : Value → Shared → Prop} {s : Shared} {env : Env} {h₀ : Heap} {xi xv : Str} {pk pv pt : Pos} {x1 : Nat} {body : List Stmt} {R : Result → Shared → Prop}
theorem enum_cb {db : Addr} {o : Obj} {l : Addr} {vs : List Value} {nl : Nat} {bs : List Int} {m₀ : Str → Option Value} {rest : List (Addr × Obj)} (stored : List Str)
    (hh : A.handled = none) (hxi : env.kindOf xi = some .local) (hxv : env.kindOf xv = some .local)
    (hp : (env.scope.kind == .class || (env.scope.kind == .module && env.locals != env.globals)) = false) (hne : xi ≠ xv)
    (hl : (l, W.listOf vs.toArray nl) ∈ rest) (hints : IntsAre vs bs)
    (F : Fr h₀ env.locals s.heap m₀) (N : News h₀ env.locals s.heap ((db, o) :: rest)) (hoff : ∀ p ∈ rest, p.1 ≠ db) (hd : o.IsDictOf (PySem.intKind prog w) [])
    (turn : ∀ (i : Nat) (k : Int) t ti (c : CB) (u : Str → Option Value) h tk own, bs[i]? = some k → CBInv db prog w bs i c → (∀ p ∈ own, ∀ q ∈ CB.led db c, p.1 ≠ q.1) → (∀ p ∈ rest, p ∈ own) →
      Fr h₀ env.locals h (fun y => if y = xv then some (.int k t) else kstB (fun z => if (xi :: stored).contains z then u z else m₀ z) [(xi, .int (i : Int) ti)] y) → News h₀ env.locals h (CB.led db c ++ own) →
      wpAny (model prog w) A (execs body env) (LPost h₀ env.locals (fun _ : CB => []) (CB.led db) xv (xi :: stored) m₀ (CBInv db prog w bs (i + 1)) own { s with heap := h, toks := tk } (fun _ => False) (fun v s' => R (.ok (.ret v)) s')) (notedBy (model prog w) A env fun e s' => R (.error e) s') { s with heap := h, toks := tk })
    (done : ∀ (c : CB) (u : Str → Option Value) h tk, CBInv db prog w bs bs.length c → (∀ p ∈ rest, ∀ q ∈ CB.led db c, p.1 ≠ q.1) → Fr h₀ env.locals h (fun y => if y = xv then u y else kstB (fun z => if (xi :: stored).contains z then u z else m₀ z) [] y) → News h₀ env.locals h (CB.led db c ++ rest) → R (.ok .next) { s with heap := h, toks := tk }) :
    wpAny (model prog w) A (call (.type "enumerate") [.ref l]) (fun x s₁ => wpAny (model prog w) A (pyIter x) (fun it s₂ => codeAny (model prog w) A (.forLoop (.Tuple [.Name xi pk, .Name xv pv] x1 pt) it body [] env) R s₂) E s₁) E s :=
  my_enum (σ := CB) (fun _ => []) (CB.led db) stored (fun i c => CBInv db prog w bs i c) ⟨o, [], []⟩ hh hxi hxv hp hne (fun _ _ h => nomatch h) hl hints F N (off_one hoff) (fun _ h => nomatch h) (CBInv.zero hd) turn done
theorem led_split {db L : Addr} {h₀ h : Heap} {c : CB} {rest : List (Addr × Obj)} (N : News h₀ L h (CB.led db c ++ rest)) (hoff : ∀ p ∈ rest, ∀ q ∈ CB.led db c, p.1 ≠ q.1) (off : ∀ e ∈ c.ls, e.2.1 ≠ db) :
    ∃ R, R = c.ls.map CB.row ∧ News h₀ L h ((db, c.o) :: (rest ++ R)) ∧ (∀ p ∈ R, p.1 ≠ db) ∧ (∀ p ∈ rest, ∀ q ∈ R, q.1 ≠ p.1) ∧ ∀ p ∈ rest, p.1 ≠ db := by
  refine ⟨_, rfl, fun p hp => N p ?_, fun p hp => ?_, fun p hp q hq x => hoff p hp q (.tail _ hq) x.symm, fun p hp => hoff p hp _ (.head _)⟩
  · rcases List.mem_cons.mp hp with rfl | hp
    · exact .head _
    rcases List.mem_append.mp hp with hp | hp
    · exact List.mem_append_right _ hp
    · exact List.mem_append_left _ (.tail _ hp)
  · obtain ⟨e, he, rfl⟩ := List.mem_map.mp hp
    exact off e he
end
end Mine

end TLawSmP
section TMyF
open PySem PySem.W PyProof.Rows PySem.Calls
set_option Elab.async false
set_option maxRecDepth 100000
set_option maxHeartbeats 1000000
namespace Mine
theorem slot_call {prog : Program} {w : World} {A : Around} {R : Result → Shared → Prop} {s : Shared} {i owner n : String} {self : Value} {rest : List Value} {kw : List (Str × Value)} {b : Builtin} (hq : plainId i = true) (hb : entryFor table i = some b)
    (hk : builtinKind i = some .slot) (hs : splitId i = some (owner, n)) (hi : Looks (model prog w) s.heap (isInstance self (.type owner)) true) (ha : argsOk i ⟨self :: rest, kw⟩)
    (h : wpAny (model prog w) A.in1 (b ⟨self :: rest, kw⟩) (fun fin s' => match fin with | .done f => R (.ok f) s' | .again c' => c'.quiet = true ∧ codeAny (model prog w) A c' R s') (fun e s' => R (.error e) s') s) :
    codeAny (model prog w) A (.call (.builtin i) ⟨self :: rest, kw⟩) R s := codeAny_call_builtin hq hb (check_slot hk hs hi ha h)
theorem slot_call_at {prog : Program} {w : World} {A : Around} {R : Result → Shared → Prop} {s : Shared} {i owner n : String} {self : Value} {rest : List Value} {kw : List (Str × Value)} {b : Builtin} (hq : (Code.builtin i ⟨self :: rest, kw⟩).quiet = true) (hb : entryFor table i = some b)
    (hk : builtinKind i = some .slot) (hs : splitId i = some (owner, n)) (hi : Looks (model prog w) s.heap (isInstance self (.type owner)) true) (ha : argsOk i ⟨self :: rest, kw⟩)
    (h : wpAny (model prog w) (A.under (.builtin i ⟨self :: rest, kw⟩)) (b ⟨self :: rest, kw⟩) (fun fin s' => match fin with | .done f => R (.ok f) s' | .again c' => c'.quiet = true ∧ codeAny (model prog w) A c' R s') (fun e s' => R (.error e) s') s) :
    codeAny (model prog w) A (.call (.builtin i) ⟨self :: rest, kw⟩) R s := codeAny_call_builtin_at hq hb (check_slot hk hs hi ha h)
theorem plain_tnew : plainId "tuple.__new__" = true := by decide +kernel
theorem entry_tnew : entryFor table "tuple.__new__" = some Builtin.«tuple.__new__» := entryFor_of_tree (by kernel_rfl)
theorem madeBy_tuple : Bind.madeBy (.type "tuple") = pure (some "tuple.__new__") := by
  unfold Bind.madeBy
  rw [show mroOf (.type "tuple") = pure [.type "tuple", .type "object"] from by kernel_rfl]
  kernel_rfl
theorem cls135 {P : Params} {h : Heap} (X : (Mine.K P).In h) : ∃ od cd sl, h.get? 135 = some ⟨.type "type", od, .cls cd, sl⟩ ∧ cd.mro = [.ref 135, .type "tuple", .type "object"] ∧ cd.bases = [.type "tuple"] ∧ cd.hasDel = false ∧ cd.hasDict = false ∧ sl[4]? = some (some .none) :=
  ⟨_, _, _, X _ _ rfl, rfl, rfl, rfl, rfl, rfl⟩
section
variable {M : Model} {h : Heap}
theorem mro135 {P : Params} (X : (Mine.K P).In h) : Looks M h (mroOf (.ref 135)) [.ref 135, .type "tuple", .type "object"] := by
  obtain ⟨od, cd, sl, hC, hm, -⟩ := cls135 X
  have this : Looks M h (mroOf (.ref 135)) cd.mro := ((Looks.ld (part := none) hC).andThen .now).andThen .now
  rw [hm] at this
  exact this
theorem made135 {P : Params} (X : (Mine.K P).In h) : Looks M h (Bind.madeBy (.ref 135)) none := by
  have hM := mro135 (M := M) X
  obtain ⟨od, cd, sl, hC, hm, hb, hd, hdi, h4⟩ := cls135 X
  intro A Q E s k q
  unfold Bind.madeBy
  refine wpAny_bind (hM A _ E s k ?_)
  rw [List.forIn_cons]
  refine wpAny_bind (wpAny_bind (wpAny_bind (wpAny_bind (wpAny_loadPart (k _ _ hC) (wpAny_pure ?_)))))
  dsimp only
  rw [h4]
  exact wpAny_pure (wpAny_pure (wpAny_pure q))
theorem base135 {P : Params} (X : (Mine.K P).In h) : Looks M h (Bind.staticBase (.ref 135)) (.type "tuple") := by
  have hM := mro135 (M := M) X
  have hm1 := made135 (M := M) X
  obtain ⟨od, cd, sl, hC, hm, hb, hd, hdi, h4⟩ := cls135 X
  intro A Q E s k q
  unfold Bind.staticBase
  refine wpAny_bind (hM A _ E s k ?_)
  rw [List.forIn_cons]
  refine wpAny_bind (wpAny_bind (wpAny_bind (hm1 A _ E s k ?_)))
  refine KFB.if_not rfl ?_
  dsimp only
  refine wpAny_bind ?_
  unfold classData
  refine wpAny_bind (wpAny_load (k _ _ hC) ?_)
  refine wpAny_pure ?_
  rw [hb]
  refine wpAny_bind (wpAny_of_eq (a := Value.type "tuple") (by kernel_rfl) ?_)
  refine wpAny_pure ?_
  dsimp only
  rw [List.forIn_cons]
  refine wpAny_bind (wpAny_bind ?_)
  dsimp only
  refine wpAny_of_eq madeBy_tuple ?_
  refine KFB.if_so rfl ?_
  exact wpAny_pure (wpAny_pure (wpAny_pure q))
theorem isType135 {P : Params} (X : (Mine.K P).In h) : Looks M h (isType (.ref 135)) true := by
  obtain ⟨od, cd, sl, hC, -⟩ := cls135 X
  exact (Looks.ld hC).andThen .now
theorem sub135 {P : Params} (X : (Mine.K P).In h) : Looks M h (isSubtype (.ref 135) (.type "tuple")) true := looks_mroIn X (by kernel_rfl)
theorem init135 {P : Params} (X : (Mine.K P).In h) : Looks M h (typeLookup (.ref 135) "__init__") (some (.builtin "object.__init__")) := looks_findIn X (by kernel_rfl)
theorem canon_tnew : (Manifest.canonical "tuple.__new__" != Manifest.canonical "tuple.__new__") = false := by simp
theorem kind_tnew : builtinKind "tuple.__new__" = some .builtinFn := by decide +kernel
theorem split_tnew : splitId "tuple.__new__" = some ("tuple", "__new__") := by decide +kernel
noncomputable def sigTnew : Manifest.Signature := (Manifest.signature? "tuple.__new__").getD ⟨.hand, "", "", .none, []⟩
theorem sig_tnew : Manifest.signature? "tuple.__new__" = some sigTnew := by unfold sigTnew; first | kernel_rfl | rfl
theorem chk_tnew {a b : Value} : Bind.checkArgs "tuple.__new__" sigTnew ⟨[a, b], []⟩ = pure () := by kernel_rfl
end
section
variable {w : World} {A : Around} {E : Value → Shared → Prop} {s : Shared} {P : Params}
theorem tnew135 {prog : Program} {tp : Addr} {o : Obj} {items : Array Value} {n : Nat} {Q : Value → Shared → Prop} (X : (Mine.K P).In s.heap) (ho : s.heap.get? tp = some o) (hc : o.cls = .type "tuple") (hd : o.data = .seq items n) (hsz : items.size ≤ sizeLine)
    (hq : ∀ x d h', (∀ b o', s.heap.get? b = some o' → h'.get? b = some o') → h'.get? x = some { cls := .ref 135, dict := some d, data := .seq items } → h'.get? d = some { cls := .type "dict", data := .dict #[] } → (∀ b o', s.heap.get? b = some o' → b < d) → d < x → Q (.ref x) { s with heap := h' }) :
    wpAny (model prog w) A (call (.builtin "tuple.__new__") [.ref 135, .ref tp]) Q E s := by
  have i1 := isType135 (M := model prog w) X
  have i2 := sub135 (M := model prog w) X
  have i3 := base135 (M := model prog w) X
  have i4 := init135 (M := model prog w) X
  refine wpAny_call (codeAny_call_builtin plain_tnew entry_tnew ?_)
  simp only [checkBuiltinCall, kind_tnew, split_tnew, sig_tnew, chk_tnew]
  refine KFB.if_so (by decide) ?_
  refine wpAny_bind (i1.here ?_)
  refine KFB.if_not rfl ?_
  refine wpAny_bind (i2.here ?_)
  refine KFB.if_not rfl ?_
  refine wpAny_bind (i3.here ?_)
  refine wpAny_bind (wpAny_of_eq madeBy_tuple ?_)
  try dsimp only
  refine KFB.if_not canon_tnew ?_
  refine wpAny_pure ?_
  unfold Builtin.«tuple.__new__»
  refine wpAny_bind (i1.here ?_)
  refine KFB.if_not rfl ?_
  refine wpAny_bind (i2.here ?_)
  refine KFB.if_not rfl ?_
  try dsimp only
  unfold Bind.madeHere
  refine wpAny_bind (wpAny_bind (i3.here (wpAny_bind (wpAny_of_eq madeBy_tuple ?_))))
  refine KFB.if_not (by simp) ?_
  refine wpAny_pure ?_
  refine wpAny_bind (i4.here ?_)
  refine KFB.if_so (by decide) ?_
  refine wpAny_bind (wpAny_of_eq (a := ()) (by kernel_rfl) ?_)
  refine wpAny_bind (wpAny_of_eq (a := ()) (by kernel_rfl) ?_)
  try dsimp only
  refine wpAny_bind (wpAny_collect_seq tp (T := "tuple") (.inr rfl) ho hc hd (fun h' hk => ?_) hsz)
  refine wpAny_bind (wpAny_pure ?_)
  refine wpAny_bind (wpAny_alloc ?_)
  obtain ⟨od, cd, sl, hC, hm, hb, hdel, -⟩ := cls135 X
  unfold newObj
  simp only [Array.toArray_toList]
  rw [if_neg (by lia)]
  unfold newObjAsIs classHasDel
  refine wpAny_bind (wpAny_bind (wpAny_alloc (wpAny_bind (wpAny_bind (wpAny_load (Heap.get?_push_of_some _ (Heap.get?_push_of_some _ (hk _ _ hC))) (wpAny_pure ?_))))))
  rw [hdel]
  refine wpAny_pure (wpAny_pure ?_)
  refine hq _ h'.objs.size _ (fun b o' hb => Heap.get?_push_of_some _ (Heap.get?_push_of_some _ (hk b o' hb))) (Heap.get?_push_size _ rfl) (Heap.get?_push_of_some _ (Heap.get?_push_size _ rfl)) (fun b o' hb => Heap.lt_size (hk b o' hb)) ?_
  show h'.objs.size < (h'.push _).objs.size
  rw [Heap.size_push]
  exact Nat.lt_succ_self _
end
end Mine

end TMyF
section TMyG
open PySem PySem.W PyProof.Rows PySem.Calls
set_option Elab.async false
set_option maxRecDepth 100000
set_option maxHeartbeats 1000000
namespace Mine
noncomputable def MkBack (P : Params) (R : Result → Shared → Prop) (r : Result) (s' : Shared) : Prop := match r with
  | .ok (.ret v) => ∃ x ox, v = .ref x ∧ s'.heap.get? x = some ox ∧ ox.cls = .ref 135 ∧ (Mine.K P).In s'.heap ∧ R (.ok (.ret v)) s'
  | .ok _ => False
  | .error e => R (.error e) s'
theorem oi_argsR (a : Value) (rest : List Value) : argsOk "object.__init__" ⟨a :: rest, []⟩ := by unfold argsOk; kernel_rfl
section
variable {prog : Program} {w : World} {A : Around} {R : Result → Shared → Prop} {s : Shared} {h₀ : Heap} {L : Addr} {m : Str → Option Value}
theorem make135 {rest : List Value} (F : Fr h₀ L s.heap m) (X₀ : (Mine.K w.params).In h₀)
    (hq : codeAny (model prog w) (A.under (.builtin "type.__call__" ⟨.ref 135 :: rest, []⟩)) (.call (.ref 82) ⟨.ref 135 :: rest, []⟩) (MkBack w.params R) { s with toks := s.toks + 1 }) :
    codeAny (model prog w) A (.call (.ref 135) ⟨rest, []⟩) R s := by
  have X := X₀.keeps F.keep
  obtain ⟨od, cd, sl, hC, hm, hb, hd, hdi, h4⟩ := cls135 X
  have call : Looks (model prog w) s.heap (specialOf (.ref 135) "__call__") (some (.builtin "type.__call__")) := looks_specialIn X (by kernel_rfl)
  have typ : Looks (model prog w) s.heap (isInstance (.ref 135) (.type "type")) true := looks_instIn X (by kernel_rfl)
  refine codeAny_of_tree ?_
  show wpAny _ _ (callAny (.ref 135) _) _ _ _
  refine nd_load hC ?_
  show wpAny _ _ (callAny.viaDunder (.ref 135) _) _ _ _
  unfold callAny.viaDunder
  refine wpAny_bind (call.here ?_)
  dsimp only
  rw [tc_bind]
  refine wpAny_bind (wpAny_pure (wpAny_bind (wpAny_pure ?_)))
  refine wpAny_pure (a := Fin.again (.call (.builtin "type.__call__") ⟨.ref 135 :: rest, []⟩)) (And.intro rfl ?_)
  refine slot_call_at (Code.quiet_builtin _ (by decide +kernel)) entry_typeCall tc_kind tc_split typ (tc_args _ _ _) ?_
  unfold Builtin.«type.__call__»
  have hM := mro135 (M := model prog w) X
  have hMade := made135 (M := model prog w) X
  refine KFB.if_not (by simp) ?_
  dsimp only
  refine wpAny_bind (hM.here ?_)
  refine KFB.if_not rfl ?_
  refine wpAny_bind (hMade.here ?_)
  dsimp only
  refine wpAny_bind ?_
  have hcls : findCls (Mine.K w.params) (.ref 135) (.type "type") "__new__" = some (.get (.builtin "staticmethod.__get__") (.ref 136) .none (.ref 135)) := by kernel_rfl
  refine cls_sm F X₀ (mc := .type "type") (by kernel_rfl) (by kernel_rfl) hcls (f := .ref 82) (rest := []) (by kernel_rfl) rfl ?_
  refine wpAny_bind (wpAny_holding (wpAny_call ?_))
  refine codeAny_mono hq fun r s' z => ?_
  rcases r with e | (v | _ | _ | _) <;> first | exact z | exact z.elim | skip
  obtain ⟨x, ox, rfl, hx, hcx, X', z⟩ := z
  have t1 : Looks (model prog w) s'.heap (typeOf (.ref x)) (.ref 135) := by rw [← hcx]; exact (Looks.ld hx).andThen .now
  dsimp only
  have s1 : Looks (model prog w) s'.heap (isSubtype (.ref 135) (.ref 135)) true := looks_mroIn X' (by kernel_rfl)
  have i1 := init135 (M := model prog w) X'
  have b1 : Looks (model prog w) s'.heap (bindSpecial (.builtin "object.__init__") (.ref x)) (.builtin "object.__init__", [.ref x]) := Looks.of_pure (oi_bind (.ref x))
  have m1 := made135 (M := model prog w) X'
  have o1 : Looks (model prog w) s'.heap (isInstance (.ref x) (.type "object")) true := t1.andThen (looks_mroIn X' (by kernel_rfl))
  have n1 : Looks (model prog w) s'.heap (isInstance (.ref x) (.ref 135)) true := t1.andThen s1
  refine wpAny_bind (n1.here ?_)
  refine KFB.if_not rfl ?_
  refine wpAny_bind (wpAny_holding ?_)
  unfold callSpecial? specialOf
  refine wpAny_bind (wpAny_bind (t1.here (i1.here ?_)))
  dsimp only
  refine wpAny_holding (wpAny_bind (b1.here ?_))
  dsimp only
  refine wpAny_bind (wpAny_call ?_)
  show codeAny _ _ (.call (.builtin "object.__init__") ⟨.ref x :: rest, []⟩) _ _
  refine slot_call oi_plain entry_oi oi_kind oi_split o1 (oi_argsR _ _) ?_
  have fin : wpAny (model prog w) (A.under (.builtin "type.__call__" ⟨.ref 135 :: rest, []⟩)).in1 (Builtin.«object.__init__» ⟨.ref x :: rest, []⟩) (fun f s₂ => f = .done (.ret .none) ∧ s₂ = s') (fun _ _ => False) s' := by
    unfold Builtin.«object.__init__»
    dsimp only
    split
    · refine wpAny_bind (t1.here ?_)
      refine wpAny_bind (i1.here ?_)
      refine wpAny_bind (m1.here ?_)
      refine KFB.if_not (by decide) ?_
      refine KFB.if_not (by simp) ?_
      exact wpAny_pure ⟨rfl, rfl⟩
    · exact wpAny_pure ⟨rfl, rfl⟩
  refine wpAny_mono fin (fun f s₂ hf => ?_) fun _ _ hf => hf.elim
  obtain ⟨rfl, rfl⟩ := hf
  dsimp only
  exact wpAny_pure (wpAny_pure z)
end
end Mine

end TMyG
section TDevM
open PySem PySem.W PyProof.Rows PySem.Calls PySem.Spec
set_option Elab.async false
set_option maxRecDepth 100000
set_option maxHeartbeats 1000000
namespace Mine
theorem ty_tuple : typeOf (.type "tuple") = pure (.type "type") := by first | rfl | kernel_rfl
theorem frExt {h₀ h h' : Heap} {L : Addr} {m : Str → Option Value} (F : Fr h₀ L h m) (k : ∀ b o, h.get? b = some o → h'.get? b = some o) : Fr h₀ L h' m := by
  obtain ⟨oL, a1, a2, hL, a3⟩ := F.ns
  exact ⟨⟨oL, a1, a2, k _ _ hL, a3⟩, fun b o e => k b o (F.keep b o e), F.above⟩
theorem tnew_N {prog : Program} {w : World} {A : Around} {E : Value → Shared → Prop} {s : Shared} {h₀ : Heap} {L tp : Addr} {m : Str → Option Value} {news : List (Addr × Obj)} {items : List Value} {n : Nat} {Q : Value → Shared → Prop}
    (F : Fr h₀ L s.heap m) (X₀ : (Mine.K w.params).In h₀) (N : News h₀ L s.heap news) (hm : (tp, ({ cls := .type "tuple", data := .seq items.toArray n } : Obj)) ∈ news) (hsz : items.length ≤ sizeLine)
    (hq : ∀ x d h', Fr h₀ L h' m → News h₀ L h' ((x, { cls := .ref 135, dict := some d, data := .seq items.toArray }) :: (d, dictOf [] 0) :: news) → (∀ p ∈ news, p.1 < d) → d < x → Q (.ref x) { s with heap := h' }) :
    wpAny (model prog w) A (call (.builtin "tuple.__new__") [.ref 135, .ref tp]) Q E s := by
  refine tnew135 (X₀.keeps F.keep) (N.get hm) rfl rfl (by simpa using hsz) fun x d h' hk hx hd hlt hdx => ?_
  have hL := (F.ns.lt)
  obtain ⟨oL, a1, a2, hLo, a3⟩ := F.ns
  refine hq x d h' (frExt F hk) (fun p hp => ?_) (fun p hp => hlt _ _ (N.get hp)) hdx
  have nw : ∀ y, d ≤ y → y ≠ L ∧ h₀.get? y = none := by
    intro y hy
    refine ⟨fun e => absurd (hlt L oL hLo) (by subst e; exact Nat.not_lt.mpr hy), ?_⟩
    cases q : h₀.get? y with
    | none => rfl
    | some o => exact absurd (hlt y o (F.keep y o q)) (Nat.not_lt.mpr hy)
  rcases List.mem_cons.mp hp with rfl | hp
  · exact ⟨hx, nw _ (Nat.le_of_lt hdx)⟩
  rcases List.mem_cons.mp hp with rfl | hp
  · exact ⟨hd, nw _ (Nat.le_refl _)⟩
  · exact ⟨hk _ _ (N p hp).1, (N p hp).2⟩
theorem match_call {w : World} {loose : List Str} {mean : ExcName → Option Value} {mg mb : Str → Option Value}
    {dp un : Nat} {gd : Option (List Code)} {cn : Str} {cs : Scope} {a : Addr} {ccd : Value} {cl : List (Str × Addr)} {outer : List Env} {A₀ : Around} {base h₀ : Heap} {L : Addr} {m : Str → Option Value} {s : Shared} {Q E : Value → Shared → Prop} {news : List (Addr × Obj)}
    (B : Below A₀ base outer h₀) (F : Fr h₀ L s.heap m) (X : (Mine.K w.params).In h₀) (N : News h₀ L s.heap news) (T : Top Mine.q loose mean mg mb h₀) (hk : cs.kind = .function)
    {i j k : Int} {t u v : Tok} (hdp : dp + 10 < recursionLimit) (hun : un + 50 < cLine)
    (hret : ∀ x d h' tk', Fr h₀ L h' m → News h₀ L h' ((x, { cls := .ref 135, dict := some d, data := .seq #[.int i t, .int j u, .int k v] }) :: (d, dictOf [] 0) :: news) → (∀ p ∈ news, p.1 < d) → d < x → Q (.ref x) { s with heap := h', toks := tk' }) :
    wpAny (model PySem.Challenge.rw_rt0114_01.row.prog w) (ktrTop dp un gd cn cs L a ccd cl outer) (call (.ref 135) [.int i t, .int j u, .int k v]) Q E s := by
  k_with_none
  k_with "getMethod type:tuple" => (k_here; refine' method_type ?F ?X ty_tuple (by decide +kernel) ?e ?h ?_; (case F => k_asm); (case X => k_asm); (case e => k_dflt k_is); (case h => k_handed))
  k_with "call builtin:tuple.__new__" => (k_here; k_dflt (refine' Mine.tnew_N ?F ?X ?N ?m ?z ?_; (case F => k_asm); (case X => k_asm); (case N => k_asm); (case m => k_mem); (case z => (rw [sizeLine_eq]; exact Nat.le_of_ble_eq_true rfl)); k_whole); intro x' d' h' F' N' l1 l2; (try k_lt l1))
  revert X; k_fill; intro X
  refine wpAny_call ?_
  refine make135 F X ?_
  k_dflt (refine' callX_ext B F X N T ?kA ?kF ?kK ?k6 ?k7 ?k8 ?k9 ?kB ?_ ?c2 ?c3 ?c4 ?c5; (case kA => exact rfl); (case kF => exact rfl); (case kK => assumption); (case k6 => k_is); (case k7 => k_is); (case k8 => ktr_room); (case k9 => exact BindsTo.of_eq rfl); (case c5 => decide); (case kB => exact locs rfl); (case c2 => exact rfl); (case c3 => exact rfl); (case c4 => exact rfl); k_whole)
  intro g' L' h' FG' F' N' B' X' T' hg' hL'
  (try dsimp only); (try k_fold); (conv in (execs _ _) => arg 1; whnf)
  k_steps
  rename Fr h₀ L _ m => kF
  rename News h₀ L _ _ => kN
  refine ⟨_, _, rfl, (kN _ (List.mem_cons_self)).1, rfl, X.keeps kF.keep, ?_⟩
  show Q _ _
  refine' hret _ _ _ _ kF ?hs ?hl (by with_reducible assumption)
  case hl =>
    rename _ ∧ AllLt _ news => l9
    exact kst_ltOf l9.2
  case hs =>
    intro p hp
    refine kN p ?_
    simp only [List.mem_cons] at hp ⊢
    rcases hp with h | h | h
    · exact .inl h
    · exact .inr (.inl h)
    · exact .inr (.inr (.inr h))
  k_with_none
end Mine

end TDevM
section TFlmCall
open PySem PySem.W PyProof.Rows PySem.Calls PySem.Spec
set_option Elab.async false
set_option maxRecDepth 100000
set_option maxHeartbeats 8000000
set_option pp.deepTerms true
set_option pp.maxSteps 1500
namespace Mine
theorem dictOf_cls {prog : Program} {w : World} {o : Obj} {kvs : List (Int × Value)} (h : o.IsDictOf (PySem.intKind prog w) kvs) : o.cls = .type "dict" ∧ o.dict = none ∧ isClsObj o = false := by
  obtain ⟨es, n, ⟨h1, h2, h3⟩, h4, _⟩ := h
  exact ⟨h1, h2, by unfold isClsObj; rw [h4]⟩
theorem flm_call {w : World} {loose : List Str} {mean : ExcName → Option Value} {mg mb : Str → Option Value}
    {dp un : Nat} {gd : Option (List Code)} {cn : Str} {cs : Scope} {a : Addr} {ccd : Value} {cl : List (Str × Addr)} {outer : List Env} {A₀ : Around} {base h₀ : Heap} {L : Addr} {m : Str → Option Value} {s : Shared} {Q E : Value → Shared → Prop}
    (B : Below A₀ base outer h₀) (F : Fr h₀ L s.heap m) (X : (Mine.K w.params).In h₀) (T : Top Mine.q loose mean mg mb h₀) (hk : cs.kind = .function)
    {self dx la lb db jk pp : Addr} {t0 t1 t2 t3 t4 t5 t6 t7 t8 t9 : Tok} {vm vo vf : Value} {nd na nb : Nat} {avs bvs : List Value} {as bs : List Int} {od : Obj} {led : Bool} {kvs : List (Int × Value)}
    (N : News h₀ L s.heap [(self, instObj 242 dx), (dx, dictOf (smEs w.params t0 t1 t2 t3 t4 t5 t6 t7 t8 t9 (.ref la) (.ref lb) vm vo vf (.ref db) (.ref jk) (.ref pp)) nd),
      (la, listOf avs.toArray na), (lb, listOf bvs.toArray nb), (db, od), (jk, setObj led)])
    (hB : ∀ g : Heap, (∀ b o, b ∉ [self, dx, la, lb, db, jk] → s.heap.get? b = some o → g.get? b = some o) → B2J g bs kvs) (hdb : (db == sysModules) = false) (hod : od.IsDictOf (PySem.intKind PySem.Challenge.rw_rt0114_01.row.prog w) kvs) (ha : IntsAre avs as) (hb : IntsAre bvs bs)
    {alo ahi blo bhi : Nat} {u0 u1 u2 u3 : Tok} (h1 : alo ≤ ahi) (h2 : ahi ≤ as.length) (h3 : blo ≤ bhi) (h4 : bhi ≤ bs.length) (hsz : as.length < 1000000 ∧ bs.length < 1000000)
    (hdp : dp + 20 < recursionLimit) (hun : un + 100 < cLine)
    (hret : ∀ x d h' tk' bi bj bk z1 z2 z3, (∀ b o, s.heap.get? b = some o → h'.get? b = some o) → (∀ b o, s.heap.get? b = some o → b ≠ x) → (∀ b o, s.heap.get? b = some o → b ≠ d) → h'.get? x = some (matchObj d bi z1 bj z2 bk z3) → h'.get? d = some (dictOf [] 0) → BestOf as bs alo blo (fun i j => alo ≤ i ∧ i < ahi ∧ blo ≤ j ∧ j < bhi) bi bj bk → Q (.ref x) { s with heap := h', toks := tk' }) :
    wpAny (model PySem.Challenge.rw_rt0114_01.row.prog w) (ktrTop dp un gd cn cs L a ccd cl outer) (call (.ref 196) [.ref self, .int (alo : Int) u0, .int (ahi : Int) u1, .int (blo : Int) u2, .int (bhi : Int) u3]) Q E s := by
  k_with_none
  k_with "getAttr ref" => (k_here; (with_reducible show wpAny _ _ (getAttr (Value.ref _) (PySem.Str.ofString "__contains__") _) _ _ _); k_dflt
  (refine' Mine.attr_scont_N ?k1 ?k2 ?k3 ?k4 ?k5 ?k6 ?_; (case k1 => k_asm); (case k2 => k_asm); (case k3 => k_mem); (case k4 => rfl); (case k5 => rfl); (case k6 => rfl); k_whole; intro q' h' F' N' l1; (try k_lt l1); (try k_sweep)))
  k_with "getAttr ref" => (k_here; (with_reducible show wpAny _ _ (getAttr (Value.ref _) (PySem.Str.ofString "get") _) _ _ _); k_dflt
  (refine' Mine.attr_dget_N ?k1 ?k2 ?k3 ?k4 ?k5 ?k6 ?_; (case k1 => k_asm); (case k2 => k_asm); (case k3 => k_mem); (case k4 => exact (dictOf_cls (by assumption)).1); (case k5 => exact (dictOf_cls (by assumption)).2.1); (case k6 => exact (dictOf_cls (by assumption)).2.2); k_whole; intro q' h' F' N' l1; (try k_lt l1); (try k_sweep)))
  k_with "getMethod ref" => (k_here; (with_reducible show wpAny _ _ (getMethod (Value.ref _) (PySem.Str.ofString "get") _) _ _ _); k_dflt
  (refine' Mine.meth_dget ?k1 ?k2 ?k3 ?_; (case k1 => k_asm); (case k2 => k_mem); (case k3 => with_reducible assumption); k_whole))
  k_with "call builtin:dict.get" => (k_here; (with_reducible show wpAny _ _ (call (Value.builtin "dict.get") [Value.ref _, Value.int _ _, Value.ref _]) _ _ _); k_dflt
  (refine' Mine.get_b2j ?k1 ?k2 ?k3 ?k4 ?k5 ?_ ?_; (case k1 => k_asm); (case k2 => k_mem); (case k3 => with_reducible assumption); (case k4 => with_reducible assumption); (case k5 => with_reducible assumption)))
  k_with "callWith ref" => (k_here; (fail_if_success (with_reducible show wpAny _ _ (callWith _ (Value.ref 135) _ _ _) _ _ _)); k_dflt (refine' Mine.callWith_bd ?k1 ?k2 ?_ ?k3 ?k4; (case k1 => k_asm); (case k2 => k_mem); (case k3 => rfl); (case k4 => rfl); k_whole))
  k_with "And" => ((with_reducible show Mine.BoundAt _ _ _ _ ∧ _); refine ⟨Mine.boundAt_of (by k_asm) (by k_mem), ?_⟩; try dsimp only [List.nil_append, List.cons_append])
  k_with "call ref" => (k_here; (with_reducible show wpAny _ _ (call (Value.ref _) [Value.int _ _, Value.int 0 _]) _ _ _); k_dflt
  (refine' Mine.get_tab ?k1 ?k2 ?k3 ?k4 ?k5 ?k6 ?_; (case k1 => k_asm); (case k2 => k_mem); (case k3 => k_mem); (case k4 => with_reducible assumption); (case k5 => with_reducible assumption); (case k6 => with_reducible assumption); intro t9))
  k_with "call ref" => (k_here; (with_reducible show wpAny _ _ (call (Value.ref _) [Value.int _ _]) _ _ _); k_dflt
  (refine' Mine.call_junk ?k1 ?k2 ?k3 ?_; (case k1 => k_asm); (case k2 => k_mem); (case k3 => k_mem)))
  k_with "setItem ref int" => (k_here; k_dflt (refine' setItem_K PyProof.V.same_int (intKind_is _ _ _ _) ?v ?F ?N ?U ?d ?f ?_ ?z; (case F => k_asm); (case N => k_asm); (case U => k_updF); (case d => with_reducible assumption); (case f => with_reducible assumption); (case z => (rw [sizeLine_eq]; lia)); (case v => k_flat)); intro h' o' F' N' hd' hf'; (try dsimp only at N'); (try k_sweep))
  k_with "pyIter ref" => (refine Mine.hold ?_)
  k_with "k_lt" => (intro ltq9; ((try (have hne9 := Mine.own_ne (by assumption) ltq9 (by (intro p hp; repeat (first | exact hp | refine List.Mem.tail _ ?_))))); replace ltq9 := allLt_of ltq9; simp only [AllLt, and_true] at ltq9))
  k_with "k_mem" => (first | with_reducible assumption | exact Mine.mem_head | (refine Mine.mem_tail ?_; k_mem))
  k_with "k_all" => (with_reducible assumption)
  k_with "call ref" => (k_here; (with_reducible show wpAny _ _ (call (Value.ref 135) [Value.int _ _, Value.int _ _, Value.int _ _]) _ _ _); k_dflt (refine' Mine.match_call ?kB ?kF ?kX ?kN ?kT ?kh ?kd ?ku ?_; (case kB => k_asm); (case kF => k_asm); (case kX => k_asm); (case kN => k_asm); (case kT => k_asm); (case kh => exact rfl); (case kd => ktr_room); (case ku => ktr_units); k_whole); intro x9 d9 h' tk9 F' N' l1 l2; (try k_lt l1); (try k_sweep))
  k_with "exec While" => (refine Mine.hold ?_)
  k_with "NoTurn" => (refine Mine.hold ?_)
  k_with "LPost" => (refine Mine.hold ?_)
  revert X; k_fill; intro X
  refine wpAny_call ?_
  k_dflt (refine' callX_ext B F X N T ?kA ?kF ?kK ?k6 ?k7 ?k8 ?k9 ?kB ?_ ?c2 ?c3 ?c4 ?c5; (case kA => exact rfl); (case kF => exact rfl); (case kK => assumption); (case k6 => k_is); (case k7 => k_is); (case k8 => ktr_room); (case k9 => first | exact BindsTo.of_eq rfl | exact binds_K (by k_in) rfl (by k_is) rfl rfl rfl); (case c5 => decide); (case kB => exact locs rfl); (case c2 => exact rfl); (case c3 => exact rfl); (case c4 => exact rfl); k_whole)
  intro g' L' h' FG' F' N' B' X' T' hg' hL'
  have hB' := hB g' hg'
  (try dsimp only); (try k_fold)
  k_steps
  refine unhold ?_
  rename Fr _ _ _ _ => lF
  rename News _ _ _ _ => lN
  rename IsRange _ _ _ _ _ _ _ _ => lR
  refine' my_range (σ := FO) (n := ahi - alo)
    (fun c => [(Str.ofString "besti", .int c.bi c.t1), (Str.ofString "bestj", .int c.bj c.t2), (Str.ofString "bestsize", .int c.bk c.t3), (Str.ofString "j2len", .ref c.d)])
    (fun c => [(c.d, c.o)]) [Str.ofString "j2lenget", Str.ofString "newj2len", Str.ofString "j", Str.ofString "k"] (InvO PySem.Challenge.rw_rt0114_01.row.prog w as bs alo blo bhi) (fun c => False) (FO.mk _ _ _ _ _ _ _ _ [] []) (by rfl) lR (small_one (by lia) (by lia) (by lia) (by lia)) (rangeSize_sub h1) lF (news_pick (pre := [_]) lN) ?ho ?hk ?hi ?turn ?done
  case hk =>
    refine List.forall_mem_cons.mpr ⟨?_, List.forall_mem_cons.mpr ⟨?_, List.forall_mem_cons.mpr ⟨?_, List.forall_mem_cons.mpr ⟨?_, List.forall_mem_nil _⟩⟩⟩⟩
    all_goals (dsimp only; (repeat rw [if_neg (by decide)]); first | done | (rw [if_pos rfl]) | skip)
    all_goals (try exact rfl)
  case ho =>
    (with_reducible rename _ < _ ∧ _ < _ ∧ _ < _ ∧ _ < _ ∧ _ < _ ∧ _ < _ ∧ _ < _ ∧ _ < _ ∧ _ < _ ∧ _ < _ => lA)
    (with_reducible rename _ < _ ∧ _ < _ ∧ _ < _ ∧ _ < _ ∧ _ < _ ∧ _ < _ ∧ _ < _ ∧ _ < _ ∧ _ < _ => lB)
    refine off_one ?_
    (try dsimp only [List.cons_append, List.nil_append])
    exact List.forall_mem_cons.mpr ⟨Ne.symm (Nat.ne_of_lt lA.1), List.forall_mem_cons.mpr ⟨Nat.ne_of_lt lB.1, List.forall_mem_cons.mpr ⟨Nat.ne_of_lt lB.2.1, List.forall_mem_cons.mpr ⟨Nat.ne_of_lt lB.2.2.1, List.forall_mem_cons.mpr ⟨Nat.ne_of_lt lB.2.2.2.1, List.forall_mem_cons.mpr ⟨Nat.ne_of_lt lB.2.2.2.2.1, List.forall_mem_cons.mpr ⟨Nat.ne_of_lt lB.2.2.2.2.2.1, List.forall_mem_cons.mpr ⟨Nat.ne_of_lt lB.2.2.2.2.2.2.1, List.forall_mem_cons.mpr ⟨Nat.ne_of_lt lB.2.2.2.2.2.2.2.1, List.forall_mem_cons.mpr ⟨Nat.ne_of_lt lB.2.2.2.2.2.2.2.2, List.forall_mem_nil _⟩⟩⟩⟩⟩⟩⟩⟩⟩⟩
  case hi =>
    refine ⟨by assumption, by assumption, by assumption, fun k => .inr ⟨rfl, by simp [rowI]⟩, Nat.zero_le _, .inl ⟨rfl, rfl, rfl, fun i j h => by lia⟩⟩
  case done =>
    intro c u h9 tk9 hIB hoff F9 N9
    clear lF lN lR
    obtain ⟨hod9, hfp9, hds9, htab9, hlen9, hbest9⟩ := hIB.resolve_right id
    obtain ⟨e1, e2, e3, e4, e5, e6, e7⟩ := best_facts h1 h2 h3 h4 hbest9
    clear hIB hoff
    simp only [List.cons_append, List.nil_append] at N9
    replace F9 : Fr g' L' h9 _ := F9
    replace N9 : News g' L' h9 _ := N9
    k_steps
    refine unhold ?_
    (with_reducible rename Fr _ _ _ _ => wF0)
    (with_reducible rename News _ _ _ _ => wN0)
    refine my_while_no wF0 wN0 ?wt0 ?wd0
    case wt0 =>
      (try k_fold)
      k_steps
      all_goals (refine unhold ?_; (with_reducible rename Fr _ _ _ _ => eF); (with_reducible rename News _ _ _ _ => eN); refine noTurn_intro eF eN (by intro p hp; exact hp) ?_; first | rfl | exact absurd (by assumption) (e6 (by assumption) (by assumption)) | exact absurd (by assumption) (e7 (by assumption) (by assumption)))
    intro h8 tk8 F8 N8
    clear wF0 wN0
    k_steps
    refine unhold ?_
    (with_reducible rename Fr _ _ _ _ => wF1)
    (with_reducible rename News _ _ _ _ => wN1)
    refine my_while_no wF1 wN1 ?wt1 ?wd1
    case wt1 =>
      (try k_fold)
      k_steps
      all_goals (refine unhold ?_; (with_reducible rename Fr _ _ _ _ => eF); (with_reducible rename News _ _ _ _ => eN); refine noTurn_intro eF eN (by intro p hp; exact hp) ?_; first | rfl | exact absurd (by assumption) (e6 (by assumption) (by assumption)) | exact absurd (by assumption) (e7 (by assumption) (by assumption)))
    intro h8 tk8 F8 N8
    clear wF1 wN1
    k_steps
    refine unhold ?_
    (with_reducible rename Fr _ _ _ _ => wF2)
    (with_reducible rename News _ _ _ _ => wN2)
    refine my_while_no wF2 wN2 ?wt2 ?wd2
    case wt2 =>
      (try k_fold)
      k_steps
      all_goals (refine unhold ?_; (with_reducible rename Fr _ _ _ _ => eF); (with_reducible rename News _ _ _ _ => eN); refine noTurn_intro eF eN (by intro p hp; exact hp) ?_; first | rfl | exact absurd (by assumption) (e6 (by assumption) (by assumption)) | exact absurd (by assumption) (e7 (by assumption) (by assumption)))
    intro h8 tk8 F8 N8
    clear wF2 wN2
    k_steps
    refine unhold ?_
    (with_reducible rename Fr _ _ _ _ => wF3)
    (with_reducible rename News _ _ _ _ => wN3)
    refine my_while_no wF3 wN3 ?wt3 ?wd3
    case wt3 =>
      (try k_fold)
      k_steps
      all_goals (refine unhold ?_; (with_reducible rename Fr _ _ _ _ => eF); (with_reducible rename News _ _ _ _ => eN); refine noTurn_intro eF eN (by intro p hp; exact hp) ?_; first | rfl | exact absurd (by assumption) (e6 (by assumption) (by assumption)) | exact absurd (by assumption) (e7 (by assumption) (by assumption)))
    intro h8 tk8 F8 N8
    clear wF3 wN3
    k_steps
    (with_reducible rename Fr g' L' _ _ => zF)
    (with_reducible rename News g' L' _ _ => zN)
    (with_reducible rename _ < _ => l2)
    have l3 : @LT.lt Nat _ _ _ := l2
    (with_reducible rename _ ∧ _ => l1)
    have hkp := keep_all N hg' zF.keep (fun p hp => (zN p (.tail _ (.tail _ (.tail _ (.tail _ (.tail _ (.tail _ (.tail _ hp)))))))).1)
    have hz1 := (zN _ (.tail _ (.head _))).2.2
    have hz2 := (zN _ (.head _)).2.2
    dsimp only at hz1 hz2
    obtain ⟨_, _, _, _, _, i1, i2, i3, i4, i5, i6⟩ := l1
    have hnd := new_all hg' hz1 (List.forall_mem_cons.mpr ⟨i1, List.forall_mem_cons.mpr ⟨i2, List.forall_mem_cons.mpr ⟨i3, List.forall_mem_cons.mpr ⟨i4, List.forall_mem_cons.mpr ⟨i5, List.forall_mem_cons.mpr ⟨i6, List.forall_mem_nil _⟩⟩⟩⟩⟩⟩)
    have hnx := new_all hg' hz2 (List.forall_mem_cons.mpr ⟨Nat.lt_trans i1 l2, List.forall_mem_cons.mpr ⟨Nat.lt_trans i2 l2, List.forall_mem_cons.mpr ⟨Nat.lt_trans i3 l2, List.forall_mem_cons.mpr ⟨Nat.lt_trans i4 l2, List.forall_mem_cons.mpr ⟨Nat.lt_trans i5 l2, List.forall_mem_cons.mpr ⟨Nat.lt_trans i6 l2, List.forall_mem_nil _⟩⟩⟩⟩⟩⟩)
    rw [show alo + (ahi - alo) = ahi by lia] at hbest9
    exact hret _ _ _ _ _ _ _ _ _ _ hkp hnx hnd (zN _ (.head _)).1 (zN _ (.tail _ (.head _))).1 hbest9
  case turn =>
    intro i k t c u h9 tk9 own hi hk hI hoff hrest F9 N9
    clear lF lN lR
    obtain ⟨hod9, hfp9, hds9, htab9, hlen9, hbest9⟩ := hI
    have hmk : OwnMark own := ⟨⟩
    have hoff9 := of_off_one hoff
    clear hoff
    simp only [List.cons_append, List.nil_append] at N9 hrest
    simp only [List.forall_mem_cons] at hrest
    obtain ⟨hr0, hr1, hr2, hr3, hr4, hr5, hr6, hr7, hr8, hr9, -⟩ := hrest
    replace F9 : Fr g' L' h9 _ := F9
    replace N9 : News g' L' h9 _ := N9
    subst hk
    (try k_fold)
    k_steps
    · refine unhold ?_
      rename Fr _ _ _ _ => lF
      rename News _ _ _ _ => lN
      rename IntsAre _ (posOf _ _) => lI
      rename Heap.IsList _ _ _ => lL
      obtain ⟨xx, hxe⟩ : ∃ x, x = as.getD ((alo : Int) + (i : Int)).toNat 0 := ⟨_, rfl⟩
      rw [← hxe] at lI
      have hx : as[alo + i]? = some xx := by
        rw [hxe, show ((alo : Int) + (i : Int)).toNat = alo + i by lia, List.getD_eq_getElem?_getD, List.getElem?_eq_getElem (by lia)]
        rfl
      refine' my_list (σ := FI)
        (fun c => [(Str.ofString "besti", .int c.bi c.t1), (Str.ofString "bestj", .int c.bj c.t2), (Str.ofString "bestsize", .int c.bk c.t3)])
        (fun c => [(_, c.o)]) [Str.ofString "k"] (InvI PySem.Challenge.rw_rt0114_01.row.prog w as bs alo blo bhi i xx) (BrkI PySem.Challenge.rw_rt0114_01.row.prog w as bs alo blo bhi i xx) (FI.mk c.bi c.bj c.bk c.t1 c.t2 c.t3 _ [] []) (by rfl) lL lI lF lN ?ho2 ?hk2 ?hi2 ?turn2 ?done2
      case ho2 =>
        (with_reducible rename _ < _ ∧ _ < _ ∧ AllLt _ own => lD)
        exact off_one (List.forall_mem_cons.mpr ⟨Nat.ne_of_lt lD.1, List.forall_mem_cons.mpr ⟨Nat.ne_of_lt lD.2.1, by with_reducible assumption⟩⟩)
      case hk2 => exact List.forall_mem_cons.mpr ⟨rfl, List.forall_mem_cons.mpr ⟨rfl, List.forall_mem_cons.mpr ⟨rfl, List.forall_mem_nil _⟩⟩⟩
      case hi2 => exact way_start (by assumption) hbest9
      case done2 =>
        intro c2 u2 h8 tk8 hI2 hoff2 F8 N8
        clear lF lN
        simp only [List.cons_append, List.nil_append] at N8
        replace F8 : Fr g' L' h8 _ := F8
        replace N8 : News g' L' h8 _ := N8
        k_steps
        refine unhold ?_
        (with_reducible rename Fr _ _ _ _ => eF)
        (with_reducible rename News _ _ _ _ => eN)
        refine' lpost_next (FO.mk c2.bi c2.bj c2.bk c2.t1 c2.t2 c2.t3 _ c2.o c2.kvs c2.D) eF eN (led_one (by k_mem)) (by (intro p hp; repeat (first | exact hp | refine List.Mem.tail _ ?_))) (off_one (by with_reducible assumption)) ?ek ?ez ?ei
        case ei => exact way_done hx h4 hI2 (by with_reducible assumption)
        case ek => exact List.forall_mem_cons.mpr ⟨rfl, List.forall_mem_cons.mpr ⟨rfl, List.forall_mem_cons.mpr ⟨rfl, List.forall_mem_cons.mpr ⟨rfl, List.forall_mem_nil _⟩⟩⟩⟩
        case ez =>
          intro z z1 z2 z3
          simp only [List.forall_mem_cons] at z2
          obtain ⟨y1, y2, y3, y4, -⟩ := z2
          have y5 := not_in z3 (a := Str.ofString "j2lenget") (by simp)
          have y6 := not_in z3 (a := Str.ofString "newj2len") (by simp)
          have y7 := not_in z3 (a := Str.ofString "j") (by simp)
          have y8 := not_in z3 (a := Str.ofString "k") (by simp)
          have y9 := not_one y8
          simp only [kstB, z1, y1, y2, y3, y4, y5, y6, y7, y8, y9, z3, if_false, Bool.false_eq_true]
      case turn2 =>
        intro q j t2 c2 u2 h8 tk8 own2 hq hI2 hoff2 hrest2 F8 N8
        clear lF lN hmk
        have hI3 := hI2
        obtain ⟨hod8, hfp8, -, hlen8, -⟩ := hI3
        have hmk2 : OwnMark own2 := ⟨⟩
        have hoff8 := of_off_one hoff2
        clear hoff2
        simp only [List.cons_append, List.nil_append] at N8 hrest2
        simp only [List.forall_mem_cons] at hrest2
        obtain ⟨hs0, hs1, hs2⟩ := hrest2
        replace F8 : Fr g' L' h8 _ := F8
        replace N8 : News g' L' h8 _ := N8
        have hlen7 : c2.D.length < 1000000 := by
          have := posOf_length bs xx
          have := (List.getElem?_eq_some_iff.mp hq).1
          lia
        (try k_fold)
        k_steps
        · refine unhold ?_
          (with_reducible rename Fr _ _ _ _ => eF)
          (with_reducible rename News _ _ _ _ => eN)
          refine' lpost_cont c2 eF eN (led_one (by k_mem)) (by (intro p hp; repeat (first | exact hp | refine List.Mem.tail _ ?_))) (off_one hoff8) ?ek ?ez ?ei
          case ei => exact way_cont hI2 hq (by lia)
          case ek => exact List.forall_mem_cons.mpr ⟨rfl, List.forall_mem_cons.mpr ⟨rfl, List.forall_mem_cons.mpr ⟨rfl, List.forall_mem_nil _⟩⟩⟩
          case ez =>
            intro z z1 z2 z3
            simp only [List.forall_mem_cons] at z2
            obtain ⟨y1, y2, y3, -⟩ := z2
            have y4 := not_in z3 (a := Str.ofString "k") (by simp)
            simp only [kstB, z1, y1, y2, y3, y4, z3, if_false, Bool.false_eq_true]
        · refine unhold ?_
          (with_reducible rename Fr _ _ _ _ => eF)
          (with_reducible rename News _ _ _ _ => eN)
          refine' lpost_brk c2 eF eN (led_one (by k_mem)) (by (intro p hp; repeat (first | exact hp | refine List.Mem.tail _ ?_))) (off_one hoff8) ?ek ?ez ?ei
          case ei => exact way_brk hI2 hq (by lia)
          case ek => exact List.forall_mem_cons.mpr ⟨rfl, List.forall_mem_cons.mpr ⟨rfl, List.forall_mem_cons.mpr ⟨rfl, List.forall_mem_nil _⟩⟩⟩
          case ez =>
            intro z z1 z2 z3
            simp only [List.forall_mem_cons] at z2
            obtain ⟨y1, y2, y3, -⟩ := z2
            have y4 := not_in z3 (a := Str.ofString "k") (by simp)
            simp only [kstB, z1, y1, y2, y3, y4, z3, if_false, Bool.false_eq_true]
        · rename Obj.IsDictOf (PySem.intKind _ _) _ (stored _ _ _) => hd7
          rename PyProof.V.FlatPairs _ (stored _ _ _) _ => hf7
          refine unhold ?_
          (with_reducible rename Fr _ _ _ _ => eF)
          (with_reducible rename News _ _ _ _ => eN)
          refine' lpost_next (FI.mk _ _ _ _ _ _ _ _ _) eF eN (led_one (by k_mem)) (by (intro p hp; repeat (first | exact hp | refine List.Mem.tail _ ?_))) (off_one hoff8) ?ek ?ez ?ei
          case ei => exact (way_in hI2 hx hq (by lia) (by lia) rfl hd7 hf7).1 (by lia)
          case ek =>
            refine List.forall_mem_cons.mpr ⟨?_, List.forall_mem_cons.mpr ⟨?_, List.forall_mem_cons.mpr ⟨?_, List.forall_mem_nil _⟩⟩⟩
            all_goals (dsimp only; (repeat rw [if_neg (by decide)]); first | done | (rw [if_pos rfl]) | skip)
            all_goals (try exact rfl)
          case ez =>
            intro z z1 z2 z3
            simp only [List.forall_mem_cons] at z2
            obtain ⟨y1, y2, y3, -⟩ := z2
            have y4 := not_in z3 (a := Str.ofString "k") (by simp)
            simp only [kstB, z1, y1, y2, y3, y4, z3, if_false, Bool.false_eq_true]
        · rename Obj.IsDictOf (PySem.intKind _ _) _ (stored _ _ _) => hd7
          rename PyProof.V.FlatPairs _ (stored _ _ _) _ => hf7
          refine unhold ?_
          (with_reducible rename Fr _ _ _ _ => eF)
          (with_reducible rename News _ _ _ _ => eN)
          refine' lpost_next (FI.mk c2.bi c2.bj c2.bk c2.t1 c2.t2 c2.t3 _ _ _) eF eN (led_one (by k_mem)) (by (intro p hp; repeat (first | exact hp | refine List.Mem.tail _ ?_))) (off_one hoff8) ?ek ?ez ?ei
          case ei => exact (way_in hI2 hx hq (by lia) (by lia) rfl hd7 hf7).2 (by lia)
          case ek => exact List.forall_mem_cons.mpr ⟨rfl, List.forall_mem_cons.mpr ⟨rfl, List.forall_mem_cons.mpr ⟨rfl, List.forall_mem_nil _⟩⟩⟩
          case ez =>
            intro z z1 z2 z3
            simp only [List.forall_mem_cons] at z2
            obtain ⟨y1, y2, y3, -⟩ := z2
            have y4 := not_in z3 (a := Str.ofString "k") (by simp)
            simp only [kstB, z1, y1, y2, y3, y4, z3, if_false, Bool.false_eq_true]
    · refine unhold ?_
      rename Fr _ _ _ _ => lF
      rename News _ _ _ _ => lN
      refine my_empty rfl lF lN (by k_mem) ?_
      intro h8 tk8 F8 N8
      clear lF lN
      rename posOf _ _ = [] => hnil
      obtain ⟨xx, hxe⟩ : ∃ x, x = as.getD ((alo : Int) + (i : Int)).toNat 0 := ⟨_, rfl⟩
      rw [← hxe] at hnil
      have hx : as[alo + i]? = some xx := by
        rw [hxe, show ((alo : Int) + (i : Int)).toNat = alo + i by lia, List.getD_eq_getElem?_getD, List.getElem?_eq_getElem (by lia)]
        rfl
      rename Obj.IsDictOf (PySem.intKind _ _) _ [] => hE
      k_steps
      · refine unhold ?_
        (with_reducible rename Fr _ _ _ _ => eF)
        (with_reducible rename News _ _ _ _ => eN)
        refine' lpost_next (FO.mk c.bi c.bj c.bk c.t1 c.t2 c.t3 _ _ _ _) eF eN (led_one (by k_mem)) (by (intro p hp; repeat (first | exact hp | refine List.Mem.tail _ ?_))) (off_one (by with_reducible assumption)) ?ek ?ez ?ei
        case ei => exact way_done (c := FI.mk c.bi c.bj c.bk c.t1 c.t2 c.t3 _ [] []) hx h4 (.inl (by rw [hnil]; exact way_start hE hbest9)) (by with_reducible assumption)
        case ek => exact List.forall_mem_cons.mpr ⟨rfl, List.forall_mem_cons.mpr ⟨rfl, List.forall_mem_cons.mpr ⟨rfl, List.forall_mem_cons.mpr ⟨rfl, List.forall_mem_nil _⟩⟩⟩⟩
        case ez =>
          intro z z1 z2 z3
          simp only [List.forall_mem_cons] at z2
          obtain ⟨y1, y2, y3, y4, -⟩ := z2
          have y5 := not_in z3 (a := Str.ofString "j2lenget") (by simp)
          have y6 := not_in z3 (a := Str.ofString "newj2len") (by simp)
          have y7 := not_in z3 (a := Str.ofString "j") (by simp)
          have y8 := not_in z3 (a := Str.ofString "k") (by simp)
          have y9 := not_one y8
          simp only [kstB, z1, y1, y2, y3, y4, y5, y6, y7, y8, y9, z3, if_false, Bool.false_eq_true]
  k_with_none
end Mine

end TFlmCall
section TLawFnd
open PySem PySem.W PyProof.Rows PySem.Calls PySem.Spec
set_option Elab.async false
set_option maxRecDepth 100000
set_option maxHeartbeats 4000000
namespace Mine
theorem lookup_in {x : Int} {e : Addr × List Value × Nat} : ∀ {l : List (Int × Addr × List Value × Nat)}, l.lookup x = some e → (x, e) ∈ l
  | [], h => nomatch h
  | (y, f) :: l, h => by
    rw [List.lookup_cons] at h
    by_cases hy : (x == y) = true
    · rw [hy] at h
      obtain rfl := eq_of_beq hy
      obtain rfl := Option.some.inj h
      exact .head _
    · rw [Bool.eq_false_iff.mpr hy] at h
      exact .tail _ (lookup_in h)
structure SmR where
  dx : Addr
  db : Addr
  jk : Addr
  pp : Addr
  c : CB
  avs : List Value
  bvs : List Value
  na : Nat
  nb : Nat
  nd : Nat
  l2 : Bool
  t0 : Tok
  t1 : Tok
  t2 : Tok
  t3 : Tok
  t4 : Tok
  t5 : Tok
  t6 : Tok
  t7 : Tok
  t8 : Tok
  t9 : Tok
structure SmOk (w : World) (self la lb : Addr) (as bs : List Int) (r : SmR) : Prop where
  a8 : CBInv r.db PySem.Challenge.rw_rt0114_01.row.prog w bs bs.length r.c
  a9 : (r.db == sysModules) = false
  a10 : ∀ q ∈ r.c.ls.map CB.row, q.1 ≠ la
  a11 : ∀ q ∈ r.c.ls.map CB.row, q.1 ≠ lb
  a12 : IntsAre r.avs as
  a13 : IntsAre r.bvs bs
noncomputable def SmR.led (r : SmR) (w : World) (self la lb : Addr) : List (Addr × Obj) :=
  (self, instObj 242 r.dx) :: (r.dx, dictOf (smEs w.params r.t0 r.t1 r.t2 r.t3 r.t4 r.t5 r.t6 r.t7 r.t8 r.t9 (.ref la) (.ref lb) .none .none .none (.ref r.db) (.ref r.jk) (.ref r.pp)) r.nd) :: (la, W.listOf r.avs.toArray r.na) :: (lb, W.listOf r.bvs.toArray r.nb) :: (r.db, r.c.o) :: (r.jk, setObj r.l2) :: r.c.ls.map CB.row
noncomputable def Smat (w : World) (news : List (Addr × Obj)) (self la lb : Addr) (as bs : List Int) : Prop := ∃ r : SmR, SmOk w self la lb as bs r ∧ ∀ p ∈ r.led w self la lb, p ∈ news
theorem Smat.mono {w : World} {news news' : List (Addr × Obj)} {self la lb : Addr} {as bs : List Int} (h : Smat w news self la lb as bs) (hs : ∀ p ∈ news, p ∈ news') : Smat w news' self la lb as bs := by
  obtain ⟨r, h1, h2⟩ := h
  exact ⟨r, h1, fun p hp => hs p (h2 p hp)⟩
theorem b2j_any {h₀ h : Heap} {L self dx la lb db jk : Addr} {news : List (Addr × Obj)} {prog : Program} {w : World} {bs : List Int} {c : CB} {es : List DictEntry} {nd : Nat} {l2 : Bool} (N : News h₀ L h news) (hI : CBInv db prog w bs bs.length c)
    (hr : ∀ e ∈ c.ls, CB.row e ∈ news) (h1 : (self, instObj 242 dx) ∈ news) (h2 : (dx, dictOf es nd) ∈ news) (h3 : (jk, setObj l2) ∈ news) (ha : ∀ q ∈ c.ls.map CB.row, q.1 ≠ la) (hb : ∀ q ∈ c.ls.map CB.row, q.1 ≠ lb) :
    ∀ g : Heap, (∀ b o, b ∉ [self, dx, la, lb, db, jk] → h.get? b = some o → g.get? b = some o) → B2J g bs c.kvs := by
  intro g hg x
  rw [hI.vals x]
  cases hl : c.ls.lookup x with
  | none => exact .inl ⟨rfl, hI.miss x hl⟩
  | some e =>
    have hm := lookup_in hl
    have hrow := (N _ (hr _ hm)).1
    have hin : CB.row (x, e) ∈ c.ls.map CB.row := List.mem_map_of_mem hm
    have hcl : ∀ {b : Addr} {o : Obj}, (b, o) ∈ news → o.cls ≠ .type "list" → e.1 ≠ b := fun {b o} hb' hc q => by
      have := (N _ hb').1
      rw [← q] at this
      have e2 : h.get? e.1 = some (CB.row (x, e)).2 := hrow
      have this2 : h.get? e.1 = some o := this
      rw [e2] at this2
      obtain rfl := Option.some.inj this2
      exact hc rfl
    refine .inr ⟨e.1, e.2.1, rfl, ⟨_, hg e.1 _ ?_ hrow, rfl, e.2.2, rfl⟩, hI.nums _ hm⟩
    intro hmem
    rcases List.mem_cons.mp hmem with q | hmem
    · exact hcl h1 (by intro q; cases q) q
    rcases List.mem_cons.mp hmem with q | hmem
    · exact hcl h2 (by show Value.type "dict" ≠ _; decide) q
    rcases List.mem_cons.mp hmem with q | hmem
    · exact ha _ hin q
    rcases List.mem_cons.mp hmem with q | hmem
    · exact hb _ hin q
    rcases List.mem_cons.mp hmem with q | hmem
    · exact hI.off _ hm q
    · exact hcl h3 (by show Value.type "set" ≠ _; decide) (List.mem_singleton.mp hmem)
theorem news6 {h₀ h : Heap} {L : Addr} {news : List (Addr × Obj)} {p1 p2 p3 p4 p5 p6 : Addr × Obj} (N : News h₀ L h news) (a1 : p1 ∈ news) (a2 : p2 ∈ news) (a3 : p3 ∈ news) (a4 : p4 ∈ news) (a5 : p5 ∈ news) (a6 : p6 ∈ news) : News h₀ L h [p1, p2, p3, p4, p5, p6] :=
  List.forall_mem_cons.mpr ⟨N _ a1, List.forall_mem_cons.mpr ⟨N _ a2, List.forall_mem_cons.mpr ⟨N _ a3, List.forall_mem_cons.mpr ⟨N _ a4, List.forall_mem_cons.mpr ⟨N _ a5, List.forall_mem_cons.mpr ⟨N _ a6, List.forall_mem_nil _⟩⟩⟩⟩⟩⟩
theorem find_call {w : World} {loose : List Str} {mean : ExcName → Option Value} {mg mb : Str → Option Value}
    {dp un : Nat} {gd : Option (List Code)} {cn : Str} {cs : Scope} {a : Addr} {ccd : Value} {cl : List (Str × Addr)} {outer : List Env} {A₀ : Around} {base h₀ : Heap} {L : Addr} {m : Str → Option Value} {s : Shared} {Q E : Value → Shared → Prop} {news : List (Addr × Obj)}
    (B : Below A₀ base outer h₀) (F : Fr h₀ L s.heap m) (X : (Mine.K w.params).In h₀) (N : News h₀ L s.heap news) (T : Top Mine.q loose mean mg mb h₀) (hk : cs.kind = .function)
    {self la lb : Addr} {as bs : List Int} (M : Smat w news self la lb as bs) {alo ahi blo bhi : Nat} {u0 u1 u2 u3 : Tok} (h1 : alo ≤ ahi) (h2 : ahi ≤ as.length) (h3 : blo ≤ bhi) (h4 : bhi ≤ bs.length) (hsz : as.length < 1000000 ∧ bs.length < 1000000)
    (hdp : dp + 20 < recursionLimit) (hun : un + 100 < cLine)
    (hret : ∀ x d h' tk' bi bj bk z1 z2 z3, Fr h₀ L h' m → News h₀ L h' ((x, matchObj d bi z1 bj z2 bk z3) :: (d, dictOf [] 0) :: news) → (∀ p ∈ news, p.1 ≠ x) → (∀ p ∈ news, p.1 ≠ d) → BestOf as bs alo blo (fun i j => alo ≤ i ∧ i < ahi ∧ blo ≤ j ∧ j < bhi) bi bj bk → Q (.ref x) { s with heap := h', toks := tk' }) :
    wpAny (model PySem.Challenge.rw_rt0114_01.row.prog w) (ktrTop dp un gd cn cs L a ccd cl outer) (call (.ref 196) [.ref self, .int (alo : Int) u0, .int (ahi : Int) u1, .int (blo : Int) u2, .int (bhi : Int) u3]) Q E s := by
  obtain ⟨r, ⟨a8, a9, a10, a11, a12, a13⟩, hl⟩ := M
  have a1 := hl _ (.head _)
  have a2 := hl _ (.tail _ (.head _))
  have a3 := hl _ (.tail _ (.tail _ (.head _)))
  have a4 := hl _ (.tail _ (.tail _ (.tail _ (.head _))))
  have a5 := hl _ (.tail _ (.tail _ (.tail _ (.tail _ (.head _)))))
  have a6 := hl _ (.tail _ (.tail _ (.tail _ (.tail _ (.tail _ (.head _))))))
  have a7 : ∀ e ∈ r.c.ls, CB.row e ∈ news := fun e he => hl _ (.tail _ (.tail _ (.tail _ (.tail _ (.tail _ (.tail _ (List.mem_map_of_mem he)))))))
  have hB := b2j_any (la := la) (lb := lb) N a8 a7 a1 a2 a6 a10 a11
  refine flm_call B F X T hk (news6 N a1 a2 a3 a4 a5 a6) hB a9 a8.dict a12 a13 h1 h2 h3 h4 hsz hdp hun ?_
  intro x d h' tk' bi bj bk z1 z2 z3 hkeep hx hd ex ed hbest
  have N1 := news_new F (news_ext N hkeep) hd ed
  have N2 := news_new F N1 hx ex
  exact hret x d h' tk' bi bj bk z1 z2 z3 (fr_ext F hkeep) N2 (off_new N hx) (off_new N hd) hbest
end Mine

end TLawFnd
section TLawTup
open PySem PySem.W PyProof.Rows PySem.Calls
set_option Elab.async false
set_option maxRecDepth 100000
set_option maxHeartbeats 8000000
namespace Mine
section
variable {prog : Program} {w : World} {A : Around} {E : Value → Shared → Prop} {s : Shared}
theorem tnext_item {it t : Addr} {i nn : Nat} {ol : Obj} {items : Array Value} {x : Value} {Q : Option Value → Shared → Prop} (hit : s.heap.IsTupleIter it t i)
    (hol : s.heap.get? t = some ol) (hdl : ol.data = .seq items nn) (hx : items[i]? = some x)
    (hQ : ∀ h', h'.IsTupleIter it t (i + 1) → Heap.SameBut it s.heap h' → Q (some x) { s with heap := h' }) :
    wpAny (model prog w) A (pyNext (.ref it)) Q E s := by
  obtain ⟨o, ho, hc, hd⟩ := id hit
  unfold pyNext
  refine wpAny_bind (wpAny_attempt (wpAny_callSpecial?_slot (name := Str.ofString "__next__") hit.typeIs F.slot_tuple_iterator_next
    (wpAny_call_entry F.slot_tuple_iterator_next hit.typeIs F.entry_tuple_iterator_next ?_ (F.args_tuple_iterator_next_1 _))))
  refine wpAny_bind (m := field (.ref it) 0) (wpAny_field ho hd (x := .ref t) rfl ?_)
  refine KFB.if_not (by simp) ?_
  refine wpAny_bind (m := field (.ref it) 1) (wpAny_field ho hd (x := .int i 0) rfl ?_)
  refine wpAny_bind (m := seqItems? (.ref t)) (wpAny_seqItems hol hdl ?_)
  simp only [Int.toNat_natCast, hx]
  refine wpAny_bind (wpAny_setField ho hd (by simp) (wpAny_pure ⟨x, rfl, wpAny_pure (hQ _ ?_ (Heap.SameBut.update ..))⟩))
  exact ⟨_, Heap.get?_update_self _ ho (Obj.isFreed_of_fields (Obj.data_mapFields hd _)), (Obj.cls_mapFields ..).trans hc, by
    rw [Obj.data_mapFields hd]; simp [rawInt]⟩
theorem tnext_end {it t : Addr} {i nn : Nat} {ol : Obj} {items : Array Value} {Q : Option Value → Shared → Prop} (hh : A.handled = none)
    (hit : s.heap.IsTupleIter it t i) (hol : s.heap.get? t = some ol) (hdl : ol.data = .seq items nn) (hx : items[i]? = none)
    (hQ : ∀ h', Heap.ExtBut it s.heap h' → Q none { s with heap := h' }) : wpAny (model prog w) A (pyNext (.ref it)) Q E s := by
  obtain ⟨o, ho, hc, hd⟩ := id hit
  unfold pyNext
  refine wpAny_bind (wpAny_attempt (wpAny_callSpecial?_slot (name := Str.ofString "__next__") hit.typeIs F.slot_tuple_iterator_next
    (wpAny_call_entry F.slot_tuple_iterator_next hit.typeIs F.entry_tuple_iterator_next ?_ (F.args_tuple_iterator_next_1 _))))
  refine wpAny_bind (m := field (.ref it) 0) (wpAny_field ho hd (x := .ref t) rfl ?_)
  refine KFB.if_not (by simp) ?_
  refine wpAny_bind (m := field (.ref it) 1) (wpAny_field ho hd (x := .int i 0) rfl ?_)
  refine wpAny_bind (m := seqItems? (.ref t)) (wpAny_seqItems hol hdl ?_)
  simp only [Int.toNat_natCast, hx]
  refine wpAny_bind (wpAny_rule (wpAny_bind (wpAny_setField ho hd (by simp) ?_)))
  refine wpAny_bind (m := newExc (.type "StopIteration") []) ?_
  simp only [newExc, newTuple]
  refine wpAny_bind (wpAny_newObj_type ?_ (by size_fits))
  refine wpAny_bind (m := firstArgMember _ _) (wpAny_of_eq (a := Value.none) (by first | rfl | (simp only [firstArgMember]; rfl)) ?_)
  refine wpAny_newObj_type ?_ (by size_fits)
  simp only [raiseNew]
  refine wpAny_bind (wpAny_handled ?_)
  first | rw [show A.in1.handled = none from hh] | rw [hh]
  refine wpAny_bind (wpAny_pure (wpAny_throw ?_))
  refine wpAny_bind (wpAny_isInstance (T := "StopIteration") (b := true) ⟨_, Heap.get?_push_size _ rfl, rfl⟩ isSubtype_stop ?_)
  exact wpAny_pure (hQ _ (((Heap.SameBut.update ..).extBut.push _).push _))
end
theorem text_loop {prog : Program} {w : World} {R : Result → Shared → Prop} {A : Around} (hh : A.in1.handled = none) {S I x : Addr} {ox : Obj} {items : Array Value} {nn : Nat} {res : Value} (hdx : ox.data = .seq items nn) (h1 : S ≠ I) (h2 : S ≠ x) (h3 : I ≠ x) (hsz : items.size ≤ 1000) :
    ∀ (k i : Nat) (s : Shared) (acc : Array Value) (c : Nat), items.size - i = k → i ≤ items.size → acc = (items.toList.take i).toArray → s.heap.IsTupleIter I x i → s.heap.get? x = some ox → s.heap.get? S = some { cls := .type "list", data := .seq acc c } →
      (∀ h' c', (∀ b o, b ≠ S → b ≠ I → s.heap.get? b = some o → h'.get? b = some o) → h'.get? S = some { cls := .type "list", data := .seq items c' } → R (.ok (.ret res)) { s with heap := h' }) →
      codeAny (model prog w) A (.builtin "list.extend.loop" ⟨[.ref S, .ref I, res], []⟩) R s := by
  intro k
  induction k with
  | zero =>
    intro i s acc c hk hi hacc hit hx hS hR
    obtain rfl : i = items.size := by lia
    refine codeAny_builtin F.entry_extend_loop ?_
    rw [Around.under_plainId F.plain_extend_loop _]
    refine wpAny_bind (m := pyNext (.ref I)) (tnext_end hh hit hx hdx (by simp) fun h' he => ?_)
    have e : acc = items := by rw [hacc]; rw [List.take_of_length_le (by simp)]
    exact wpAny_pure (hR h' c (fun b o _ hb e => he b o hb e) (by rw [← e]; exact he S _ h1 hS))
  | succ k ih =>
    intro i s acc c hk hi hacc hit hx hS hR
    have hlt : i < items.size := by lia
    refine codeAny_builtin F.entry_extend_loop ?_
    rw [Around.under_plainId F.plain_extend_loop _]
    refine wpAny_bind (m := pyNext (.ref I)) (tnext_item hit hx hdx (x := items[i]) (by simp [hlt]) fun h' hit' hs' => ?_)
    have hS' := hs'.extBut S _ h1 hS
    have hx' := hs'.extBut x _ (Ne.symm h3) hx
    have hac : acc.size = i := by rw [hacc]; simp; lia
    refine wpAny_bind (m := updateSeq S (·.push items[i])) (wpAny_updateSeq hS' rfl (wpAny_pure ⟨plainId_quiet F.plain_extend_loop _, ih (i + 1) _ (acc.push items[i]) _ (by lia) hlt ?_ ?_ ?_ (Heap.get?_update_self _ hS' rfl) fun h'' c' hk' hS'' => ?_⟩) (by rw [hac]; have : sizeLine = 2 ^ 24 := (by decide); lia) (by show (acc.push items[i]).size ≤ sizeLine + 1; rw [Array.size_push, hac]; have : sizeLine = 2 ^ 24 := (by decide); lia))
    · rw [hacc, List.take_add_one]
      simp [hlt]
    · exact hit'.extBut (fun b o hb e => (Heap.get?_update_other _ _ (Ne.symm hb)).trans e) (Ne.symm h1)
    · exact (Heap.get?_update_other _ _ h2).trans hx'
    · exact hR h'' c' (fun b o hb hb2 e => hk' b o hb hb2 ((Heap.get?_update_other _ _ (Ne.symm hb)).trans (hs'.extBut b o hb2 e))) hS''
theorem kind_titer : builtinKind "tuple.__iter__" = some .slot := by decide +kernel
theorem kind_tlen : builtinKind "tuple.__len__" = some .slot := by decide +kernel
theorem split_titer : splitId "tuple.__iter__" = some ("tuple", "__iter__") := by decide +kernel
theorem split_tlen : splitId "tuple.__len__" = some ("tuple", "__len__") := by decide +kernel
section
variable {M : Model} {h : Heap} {x : Addr} {ox : Obj} {P : Params}
theorem typ135 (hx : h.get? x = some ox) (hc : ox.cls = .ref 135) : Looks M h (typeOf (.ref x)) (.ref 135) := by rw [← hc]; exact (Looks.ld hx).andThen .now
theorem iter135 (X : (Mine.K P).In h) (hx : h.get? x = some ox) (hc : ox.cls = .ref 135) : Looks M h (specialOf (.ref x) "__iter__") (some (.builtin "tuple.__iter__")) := (typ135 hx hc).andThen (looks_findIn X (by kernel_rfl))
theorem len135 (X : (Mine.K P).In h) (hx : h.get? x = some ox) (hc : ox.cls = .ref 135) : Looks M h (specialOf (.ref x) "__len__") (some (.builtin "tuple.__len__")) := (typ135 hx hc).andThen (looks_findIn X (by kernel_rfl))
theorem inst135 (X : (Mine.K P).In h) (hx : h.get? x = some ox) (hc : ox.cls = .ref 135) : Looks M h (isInstance (.ref x) (.type "tuple")) true := (typ135 hx hc).andThen (sub135 X)
end
section
variable {prog : Program} {w : World} {A : Around} {E : Value → Shared → Prop} {s : Shared} {P : Params} {x : Addr} {ox : Obj} {items : Array Value} {nn : Nat}
theorem iter_match {Q : Value → Shared → Prop} (X : (Mine.K P).In s.heap) (hx : s.heap.get? x = some ox) (hc : ox.cls = .ref 135)
    (hQ : Q (.ref s.heap.objs.size) { s with heap := s.heap.push { cls := .type "tuple_iterator", data := .fields #[.ref x, .int 0 0] } }) : wpAny (model prog w) A (pyIter (.ref x)) Q E s := by
  have l1 := iter135 (M := model prog w) X hx hc
  have i1 := inst135 (M := model prog w) X hx hc
  unfold pyIter
  refine wpAny_bind (l1.here ?_)
  dsimp only
  refine wpAny_bind ?_
  unfold callSpecialIfBoundUnlessNone? bindSpecialIfBound?
  refine wpAny_holding (wpAny_bind (wpAny_bind (l1.here ?_)))
  dsimp only
  simp only [F.slot_tuple_iter.bind]
  refine wpAny_bind (wpAny_askSetting (wpAny_ite ?_))
  have fin : wpAny (model prog w) A (if (Value.builtin "tuple.__iter__" == Value.none) = true then ((do rule "iter.none"; raiseError "TypeError" s!"'{← typeNameOf (.ref x)}' object is not iterable") >>= fun v => pure (some v)) else (call (.builtin "tuple.__iter__") [.ref x] >>= fun v => pure (some v)))
      (fun a s' => wpAny (model prog w) A (match a with
      | some it =>
        specialOf it "__next__" >>= fun y => match y with
        | none => do rule "iter.non-iterator"; raiseError "TypeError" s!"iter() returned non-iterator of type '{← typeNameOf it}'"
        | some _ => pure it
      | none =>
        bindSpecialIfBound? (.ref x) "__getitem__" >>= fun y => match y with
        | none => do rule "iter.not-iterable"; raiseError "TypeError" s!"'{← typeNameOf (.ref x)}' object is not iterable"
        | some _ => do rule "iter.getitem-fallback"; newFields "iterator" [.ref x, ← mkInt 0]) Q E s') E s := by
    refine KFB.if_not (by decide) ?_
    refine wpAny_bind (wpAny_call (slot_call F.slot_tuple_iter.plain F.entry_tuple_iter kind_titer split_titer i1 (F.args_tuple_iter_1 _) ?_))
    refine wpAny_bind (m := newFields "tuple_iterator" [.ref x, rawInt 0]) (wpAny_newObj_type (wpAny_pure ?_))
    refine wpAny_pure ?_
    dsimp only
    refine wpAny_bind (wpAny_specialOf (T := "tuple_iterator") ⟨_, Heap.get?_push_size _ rfl, rfl⟩ F.slot_tuple_iterator_next.lookup (wpAny_pure hQ))
  split
  · exact wpAny_bind (wpAny_pure (wpAny_pure fin))
  · exact wpAny_tryCatch (wpAny_bind (wpAny_pure (wpAny_pure fin)))
theorem len_match {Q : Value → Shared → Prop} (X : (Mine.K P).In s.heap) (hx : s.heap.get? x = some ox) (hc : ox.cls = .ref 135) (hd : ox.data = .seq items nn) (hsz : items.size ≤ 1000)
    (h : Q (.int items.size (s.toks + 1)) { s with toks := s.toks + 1 + 1 }) : wpAny (model prog w) A (call (.builtin "len") [.ref x]) Q E s := by
  have l1 := len135 (M := model prog w) X hx hc
  have i1 := inst135 (M := model prog w) X hx hc
  refine call_function_entry kind_len plain_len entry_len (args_len1 _) ?_
  unfold Builtin.«len»
  refine wpAny_bind (m := oneArg "len" _) (wpAny_pure ?_)
  refine wpAny_bind (m := callSpecial? (.ref x) (Str.ofString "__len__")) ?_
  unfold callSpecial?
  refine wpAny_bind (l1.here ?_)
  dsimp only
  simp only [F.slot_tuple_len.bind]
  refine wpAny_holding (wpAny_bind (wpAny_pure ?_))
  refine wpAny_bind (wpAny_call (slot_call F.slot_tuple_len.plain F.entry_tuple_len kind_tlen split_tlen i1 (F.args_tuple_len_1 _) ?_))
  show wpAny _ _ (Builtin.Tuple.tupleItemsOf (.ref x) >>= fun xs => retInt xs.size) _ _ _
  refine wpAny_bind ?_
  unfold Builtin.Tuple.tupleItemsOf
  refine wpAny_bind (wpAny_seqItems hx hd (wpAny_pure ?_))
  refine wpAny_bind (wpAny_mkInt (wpAny_pure ?_))
  dsimp only
  refine wpAny_pure ?_
  dsimp only
  refine wpAny_bind (wpAny_holding (wpAny_pure ?_))
  refine wpAny_bind (wpAny_letGo ?_)
  show wpAny _ _ (if ((items.size : Nat) : Int) < 0 then _ else _) _ _ _
  rw [if_neg (by lia)]
  show wpAny _ _ (if ((items.size : Nat) : Int) ≥ 2 ^ 63 then _ else _) _ _ _
  rw [if_neg (by lia)]
  exact wpAny_bind (wpAny_mkInt (wpAny_pure ⟨_, rfl, h⟩))
theorem collect_match {Q : List Value → Shared → Prop} (hh : A.handled = none) (X : (Mine.K P).In s.heap) (hx : s.heap.get? x = some ox) (hc : ox.cls = .ref 135) (hd : ox.data = .seq items nn) (h0 : items.size ≠ 0) (hsz : items.size ≤ 1000)
    (hQ : ∀ h' tk', (∀ b o', s.heap.get? b = some o' → h'.get? b = some o') → Q items.toList { s with heap := h', toks := tk' }) : wpAny (model prog w) A (collect (.ref x)) Q E s := by
  unfold collect
  refine wpAny_bind (wpAny_runValue (codeAny_builtin F.entry_proto_collect ?_))
  rw [Around.under_plainId F.plain_proto_collect _]
  show wpAny _ A.in1 (newList [] >>= fun l => again (.builtin "list.__iadd__" ⟨[l, .ref x], []⟩)) _ _ s
  refine wpAny_bind (wpAny_newObj_type ?_)
  refine wpAny_pure ⟨plainId_quiet F.plain_list_iadd _, codeAny_builtin F.entry_list_iadd ?_⟩
  rw [Around.under_plainId F.plain_list_iadd _]
  show wpAny _ A.in1 (Builtin.List.listExtendWith (.ref s.heap.objs.size) (.ref x) (.ref s.heap.objs.size)) _ _ _
  have hSx : s.heap.objs.size ≠ x := Ne.symm (Nat.ne_of_lt (Heap.lt_size hx))
  have X1 : (Mine.K P).In (s.heap.push { cls := .type "list", data := .seq ([] : List Value).toArray }) := fun a o e => Heap.get?_push_of_some _ (X a o e)
  have hx1 := Heap.get?_push_of_some { cls := .type "list", data := .seq ([] : List Value).toArray } hx
  have hS1 : (s.heap.push { cls := .type "list", data := .seq ([] : List Value).toArray }).get? s.heap.objs.size = some { cls := .type "list", data := .seq ([] : List Value).toArray } := Heap.get?_push_size _ rfl
  have t1 : Looks (model prog w) (s.heap.push { cls := .type "list", data := .seq ([] : List Value).toArray }) (typeOf (.ref x)) (.ref 135) := typ135 hx1 hc
  unfold Builtin.List.listExtendWith
  refine wpAny_bind (t1.here ?_)
  have h1 : Builtin.List.listSameRef (.ref s.heap.objs.size) (.ref x) = false := by simp [Builtin.List.listSameRef, hSx]
  have h2 : (Value.ref 135 == Value.type "list") = false := by decide
  have h3 : (Value.ref 135 == Value.type "tuple") = false := by decide
  simp only [h1, h2, h3, Bool.or_false, Bool.false_eq_true, if_false]
  refine wpAny_bind (iter_match X1 hx1 hc ?_)
  have X2 : (Mine.K P).In ((s.heap.push { cls := .type "list", data := .seq ([] : List Value).toArray }).push { cls := .type "tuple_iterator", data := .fields #[.ref x, .int 0 0] }) := fun a o e => Heap.get?_push_of_some _ (X1 a o e)
  have hx2 := Heap.get?_push_of_some { cls := .type "tuple_iterator", data := .fields #[.ref x, .int 0 0] } hx1
  have hS2 := Heap.get?_push_of_some { cls := .type "tuple_iterator", data := .fields #[.ref x, .int 0 0] } hS1
  have l2 := len135 (M := model prog w) X2 hx2 hc
  have i2 := inst135 (M := model prog w) X2 hx2 hc
  have t2 : Looks (model prog w) _ (typeOf (.ref x)) (.ref 135) := typ135 hx2 hc
  refine wpAny_bind (wpAny_holding ?_)
  unfold Builtin.List.listLengthHint
  refine wpAny_bind (l2.here ?_)
  simp only [split_tlen]
  refine wpAny_bind (i2.here ?_)
  refine KFB.if_not (by simp) ?_
  refine wpAny_bind (t2.here ?_)
  dsimp only
  refine wpAny_bind (len_match X2 hx2 hc hd hsz ?_)
  refine wpAny_bind (m := asInt? _) (wpAny_pure ?_)
  dsimp only
  refine wpAny_pure ?_
  refine KFB.if_so (by rw [Bool.or_eq_true]; left; simpa using h0) ?_
  refine wpAny_bind (wpAny_rule ?_)
  refine wpAny_bind ?_
  show wpAny _ A.in1 (updateSeq s.heap.objs.size (·.push .none) >>= fun _ => updateSeq s.heap.objs.size (·.pop)) _ _ _
  refine wpAny_bind (wpAny_updateSeq hS2 rfl ?_)
  have hS3 := Heap.get?_update_self (Obj.mapSeq (·.push Value.none)) hS2 rfl
  refine wpAny_updateSeq hS3 rfl ?_
  have hS4 := Heap.get?_update_self (Obj.mapSeq (·.pop)) hS3 rfl
  have oth : ∀ b o, b ≠ s.heap.objs.size → ((s.heap.push { cls := .type "list", data := .seq ([] : List Value).toArray }).push { cls := .type "tuple_iterator", data := .fields #[.ref x, .int 0 0] }).get? b = some o →
      ((((s.heap.push { cls := .type "list", data := .seq ([] : List Value).toArray }).push { cls := .type "tuple_iterator", data := .fields #[.ref x, .int 0 0] }).update s.heap.objs.size (Obj.mapSeq (·.push Value.none))).update s.heap.objs.size (Obj.mapSeq (·.pop))).get? b = some o :=
    fun b o hb e => (Heap.get?_update_other _ _ (Ne.symm hb)).trans ((Heap.get?_update_other _ _ (Ne.symm hb)).trans e)
  have hSI : s.heap.objs.size ≠ (s.heap.push { cls := .type "list", data := .seq ([] : List Value).toArray }).objs.size := by rw [Heap.size_push]; exact Nat.ne_of_lt (Nat.lt_succ_self _)
  have hIx : (s.heap.push { cls := .type "list", data := .seq ([] : List Value).toArray }).objs.size ≠ x := Ne.symm (Nat.ne_of_lt (Heap.lt_size hx1))
  refine wpAny_pure ⟨plainId_quiet F.plain_extend_loop _, text_loop (A := A) hh hd hSI hSx hIx hsz _ 0 _ _ _ rfl (Nat.zero_le _) rfl ⟨_, oth _ _ (Ne.symm hSI) (Heap.get?_push_size _ rfl), rfl, rfl⟩ (oth x _ (Ne.symm hSx) hx2) hS4 fun h' c' hk' hS' => ?_⟩
  refine wpAny_bind (wpAny_load hS' ?_)
  refine wpAny_pure (hQ h' _ fun b o e => ?_)
  have hbS : b ≠ s.heap.objs.size := Nat.ne_of_lt (Heap.lt_size e)
  have e1 := Heap.get?_push_of_some { cls := .type "list", data := .seq ([] : List Value).toArray } e
  exact hk' b o hbS (Nat.ne_of_lt (Heap.lt_size e1)) (oth b o hbS (Heap.get?_push_of_some _ e1))
end
theorem tuple_new_match {P : Params} {x : Addr} {ox : Obj} {items : Array Value} {nn : Nat} (hc : ox.cls = .ref 135) (hd : ox.data = .seq items nn) (h0 : items.size ≠ 0) (hsz : items.size ≤ 1000) :
    Meets (Builtin.«tuple.__new__» ⟨[.type "tuple", .ref x], []⟩) (fun A R s => (Mine.K P).In s.heap ∧ s.heap.get? x = some ox ∧ A.handled = none ∧ ∀ (h' : Heap) (tk' : Nat), (∀ b o', s.heap.get? b = some o' → h'.get? b = some o') → R (.ok (.ret (.ref h'.objs.size))) { s with heap := h'.push { cls := .type "tuple", data := .seq items }, toks := tk' }) :=
  .of_wp fun prog w A R s h => by
    obtain ⟨X, hx, hh, hq⟩ := h
    obtain ⟨hp, g, d, tk, os⟩ := s
    have hsub := sub_tuple_self
    have hinit := init_tuple_lookup
    have hmh := madeHere_tuple
    have t1 : Looks (model prog w) hp (typeOf (.ref x)) (.ref 135) := typ135 hx hc
    have hcol := fun (Q : List Value → Shared → Prop) E hQ => collect_match (prog := prog) (w := w) (A := A.in1) (E := E) (Q := Q) hh X hx hc hd h0 hsz hQ
    wp_walk using t1.here, hcol
    intro h' tk' hk
    show wpAny _ _ (Builtin.Tuple.tupleExact items.toList.toArray >>= fun v => ret v) _ _ _
    unfold Builtin.Tuple.tupleExact
    refine wpAny_bind (wpAny_newObj_type ?_ (by show items.toList.toArray.size ≤ sizeLine; have : sizeLine = 2 ^ 24 := (by decide); simp; lia))
    refine wpAny_pure ⟨_, rfl, ?_⟩
    have e : items.toList.toArray = items := by simp
    rw [e]
    exact hq h' tk' hk
theorem tuple_match {prog : Program} {w : World} {A : Around} {E : Value → Shared → Prop} {s : Shared} {P : Params} {x d : Addr} {i j k : Int} {t u v : Tok} {Q : Value → Shared → Prop} {h₀ : Heap} {L : Addr} {m : Str → Option Value} {news : List (Addr × Obj)}
    (F₀ : Fr h₀ L s.heap m) (X : (Mine.K P).In h₀) (N : News h₀ L s.heap news) (hx : (x, matchObj d i t j u k v) ∈ news) (hh : A.handled = none)
    (hq : ∀ T h' tk', Fr h₀ L h' m → News h₀ L h' ((T, { cls := .type "tuple", data := .seq #[.int i t, .int j u, .int k v] }) :: news) → (∀ p ∈ news, p.1 < T) → Q (.ref T) { s with heap := h', toks := tk' }) :
    wpAny (model prog w) A (call (.type "tuple") [.ref x]) Q E s := by
  have hx' : s.heap.get? x = some (matchObj d i t j u k v) := (N _ hx).1
  refine callType_new F.called_tuple (by decide) (F.typeCall_tuple_1 _) (F.newCall_tuple_1 _) (fun obj => F.args_object_init_2 obj _) F.entry_tuple_new
    (tuple_new_match (P := P) (x := x) (ox := matchObj d i t j u k v) rfl rfl (by simp) (by simp)) ⟨X.keeps F₀.keep, hx', hh, fun h' tk' hk => ⟨⟨_, Heap.get?_push_size _ rfl, rfl⟩, ?_⟩⟩
  have F' : Fr h₀ L h' m := F₀.keeps hk
  have N' : News h₀ L h' news := fun p hp => ⟨hk _ _ (N p hp).1, (N p hp).2⟩
  exact hq _ _ _ (F'.push _) (N'.push F' _) fun p hp => Heap.lt_size (N' p hp).1
end Mine

end TLawTup
section TLawRing
open PySem PySem.W PyProof.Rows PySem.Calls PySem.Spec
set_option Elab.async false
set_option maxRecDepth 100000
set_option maxHeartbeats 4000000
namespace Mine
noncomputable def ringIn (i j : Nat) : List Int := (List.range j).flatMap fun k : Nat => [(i : Int), (i : Int) + 1 + (k : Int)]
noncomputable def ringTo : Nat → List Int
  | 0 => []
  | i + 1 => ringTo i ++ (i : Int) :: ringIn i (7 - i)
theorem ringIn_len (i : Nat) : ∀ j, (ringIn i j).length = 2 * j := by
  intro j
  induction j with
  | zero => rfl
  | succ j ih =>
    unfold ringIn at ih ⊢
    rw [List.range_succ, List.flatMap_append, List.length_append, ih]
    rfl
theorem ringTo_len {i : Nat} (h : i ≤ 8) : (ringTo i).length ≤ 64 := by
  have : i = 0 ∨ i = 1 ∨ i = 2 ∨ i = 3 ∨ i = 4 ∨ i = 5 ∨ i = 6 ∨ i = 7 ∨ i = 8 := by lia
  rcases this with rfl | rfl | rfl | rfl | rfl | rfl | rfl | rfl | rfl <;> decide
theorem ringIn_succ (i j : Nat) : ringIn i (j + 1) = ringIn i j ++ [(i : Int), (i : Int) + 1 + (j : Int)] := by
  unfold ringIn
  rw [List.range_succ, List.flatMap_append]
  rfl
theorem ints_app {a b : List Value} {x y : List Int} (h : IntsAre a x) (h' : IntsAre b y) : IntsAre (a ++ b) (x ++ y) := by
  induction h with
  | nil => exact h'
  | cons _ _ _ ih => exact .cons _ _ ih
theorem ring_step {i j : Nat} {vs : List Value} {t t2 : Tok} (h : IntsAre vs (ringTo i ++ (i : Int) :: ringIn i j)) : IntsAre (vs ++ [Value.int (0 + (i : Int)) t, Value.int (0 + (i : Int) + 1 + (j : Int)) t2]) (ringTo i ++ (i : Int) :: ringIn i (j + 1)) := by
  rw [ringIn_succ, ← List.cons_append, ← List.append_assoc, Int.zero_add]
  exact ints_app h (.cons _ _ (.cons _ _ .nil))
theorem ring_size {i : Nat} (h : i < 8) : Builtin.Range.rangeSize (0 + (i : Int) + 1) 8 1 = ((7 - i : Nat) : Int) := by
  have : i = 0 ∨ i = 1 ∨ i = 2 ∨ i = 3 ∨ i = 4 ∨ i = 5 ∨ i = 6 ∨ i = 7 := by lia
  rcases this with rfl | rfl | rfl | rfl | rfl | rfl | rfl | rfl <;> decide
noncomputable def ringL : List Int := ringTo 8 ++ [0]
theorem ring_call {w : World} {loose : List Str} {mean : ExcName → Option Value} {mg mb : Str → Option Value}
    {dp un : Nat} {gd : Option (List Code)} {cn : Str} {cs : Scope} {a : Addr} {ccd : Value} {cl : List (Str × Addr)} {outer : List Env} {A₀ : Around} {base h₀ : Heap} {L : Addr} {m : Str → Option Value} {s : Shared} {Q E : Value → Shared → Prop} {news : List (Addr × Obj)}
    (B : Below A₀ base outer h₀) (F : Fr h₀ L s.heap m) (X : (Mine.K w.params).In h₀) (N : News h₀ L s.heap news) (T : Top Mine.q loose mean mg mb h₀) (hk : cs.kind = .function)
     (hdp : dp + 20 < recursionLimit) (hun : un + 100 < cLine)
    (hret : ∀ l n vs h' tk', Fr h₀ L h' m → News h₀ L h' ((l, W.listOf vs.toArray n) :: news) → (∀ p ∈ news, p.1 ≠ l) → IntsAre vs ringL → Q (.ref l) { s with heap := h', toks := tk' }) :
    wpAny (model PySem.Challenge.rw_rt0114_01.row.prog w) (ktrTop dp un gd cn cs L a ccd cl outer) (call (.ref 290) []) Q E s := by
  k_with_none
  k_with "pyIter ref" => (refine Mine.hold ?_)
  k_with "exec While" => (refine Mine.hold ?_)
  k_with "NoTurn" => (refine Mine.hold ?_)
  k_with "LPost" => (refine Mine.hold ?_)
  k_with "k_lt" => (intro ltq9; ((try (have hne9 := Mine.own_ne (by assumption) ltq9 (by (intro p hp; repeat (first | exact hp | refine Mine.mem_tail ?_))))); replace ltq9 := allLt_of ltq9; simp only [AllLt, and_true] at ltq9))
  k_with "k_mem" => (first | with_reducible assumption | exact Mine.mem_head | (refine Mine.mem_tail ?_; k_mem))
  k_with "k_all" => (with_reducible assumption)
  k_with "call type:range" => (k_here; (rename Fr _ _ _ _ => F'); (rename News _ _ _ _ => N'); first | (with_unfolding_all refine range1_rows F' N' ?_; intro _ _ _ _ _ _ _ _ _) | (with_unfolding_all refine range2_rows F' N' ?_; intro _ _ _ _ _ _ _ _ _))
  k_with "binaryOp Add ref ref" => (k_here; (with_reducible show wpAny _ _ (binaryOp _ (Value.ref _) (Value.ref _)) _ _ _); k_dflt (refine' Mine.add_L ?k1 ?k2 ?a ?b ?z ?_; (case k1 => k_asm); (case k2 => k_asm); (case a => k_mem); (case b => k_mem); (case z => (simp only [List.length_cons, List.length_nil, List.length_append]; lia)); k_whole); intro d' h' F' N' l1; (try k_lt l1); (try k_sweep))
  k_with "call builtin:list.append" => (k_here; (with_reducible show wpAny _ _ (call (Value.builtin _) [Value.ref _, _]) _ _ _); k_dflt (refine' Mine.append_L ?k1 ?k2 ?k3 ?z ?_; (case k1 => k_asm); (case k2 => k_asm); (case k3 => k_upd); (case z => lia); k_whole); intro h' F' N'; (try k_sweep))
  k_with "call builtin:list.extend" => (k_here; (with_reducible show wpAny _ _ (call (Value.builtin _) [Value.ref _, Value.ref _]) _ _ _); k_dflt (refine' Mine.extend_L ?k1 ?k2 ?b ?ne ?k3 ?z ?_; (case k1 => k_asm); (case k2 => k_asm); (case b => k_mem); (case ne => first | exact Nat.succ_ne_zero _ | lia); (case k3 => k_upd); (case z => (simp only [List.length_cons, List.length_nil, List.length_append]; lia)); k_whole); intro h' F' N'; (try k_sweep))
  revert X; k_fill; intro X
  refine wpAny_call ?_
  k_dflt (refine' callX_ext B F X N T ?kA ?kF ?kK ?k6 ?k7 ?k8 ?k9 ?kB ?_ ?c2 ?c3 ?c4 ?c5; (case kA => exact rfl); (case kF => exact rfl); (case kK => assumption); (case k6 => k_is); (case k7 => k_is); (case k8 => ktr_room); (case k9 => first | exact BindsTo.of_eq rfl | exact binds_K (by k_in) rfl (by k_is) rfl rfl rfl); (case c5 => decide); (case kB => exact locs rfl); (case c2 => exact rfl); (case c3 => exact rfl); (case c4 => exact rfl); k_whole)
  intro g' L' h' FG' F' N' B' X' T' hg' hL'
  (try dsimp only); (try k_fold)
  k_steps
  refine unhold ?_
  rename Fr _ _ _ _ => lF
  rename News _ _ _ _ => lN
  rename IsRange _ _ _ _ _ _ _ _ => lR
  rename ∀ p ∈ news, p.1 < _ => lL
  refine' my_range (σ := List Value × Nat) (n := 8) (fun _ => []) (fun c => [(_, W.listOf c.1.toArray c.2)]) [Str.ofString "high"] (fun i c => IntsAre c.1 (ringTo i)) (fun _ => False) ([], 0) (by rfl) lR (by decide) (by decide) lF lN ?ho ?hk ?hi ?turn ?done
  case ho => exact off_one (fun p hp => Nat.ne_of_lt (lL p hp))
  case hk => exact fun _ h => nomatch h
  case hi => exact .nil
  case turn =>
    intro i k t c u h9 tk9 own hi hk hI hoff hrest F9 N9
    clear lF lN lR
    have hmk : OwnMark own := ⟨⟩
    have hoff9 := of_off_one hoff
    clear hoff
    simp only [List.cons_append, List.nil_append] at N9 hrest
    replace F9 : Fr g' L' h9 _ := F9
    replace N9 : News g' L' h9 _ := N9
    subst hk
    have hlen : c.1.length ≤ 64 := by rw [hI.length]; exact ringTo_len (Nat.le_of_lt hi)
    k_steps
    refine unhold ?_
    rename Fr _ _ _ _ => lF
    rename News _ _ _ _ => lN
    rename IsRange _ _ _ _ _ _ _ _ => lR
    refine' my_range (σ := List Value × Nat) (n := 7 - i) (fun _ => []) (fun c => [(_, W.listOf c.1.toArray c.2)]) [] (fun j c => IntsAre c.1 (ringTo i ++ (i : Int) :: ringIn i j)) (fun _ => False) (_, _) (by rfl) lR ?hs ?hn lF lN ?ho2 ?hk2 ?hi2 ?turn2 ?done2
    case hs => exact small_one (by lia) (by lia) (by lia) (by lia)
    case hn => exact ring_size hi
    case ho2 => exact off_one (by with_reducible assumption)
    case hk2 => exact fun _ h => nomatch h
    case hi2 =>
      rw [Int.zero_add]
      exact ints_app hI (.cons _ _ .nil)
    case turn2 =>
      intro j k2 t2 c2 u2 h8 tk8 own2 hj hk2 hI2 hoff2 hrest2 F8 N8
      clear lF lN lR hmk
      have hmk2 : OwnMark own2 := ⟨⟩
      have hoff8 := of_off_one hoff2
      clear hoff2
      simp only [List.cons_append, List.nil_append] at N8 hrest2
      replace F8 : Fr g' L' h8 _ := F8
      replace N8 : News g' L' h8 _ := N8
      subst hk2
      have hlen2 : c2.1.length ≤ 90 := by
        have h1 := ringTo_len (Nat.le_of_lt hi)
        have h2 := ringIn_len i j
        have h3 := hI2.length
        simp only [List.length_append, List.length_cons] at h3
        lia
      k_steps
      refine unhold ?_
      (with_reducible rename Fr _ _ _ _ => eF)
      (with_reducible rename News _ _ _ _ => eN)
      refine' lpost_next (_, _) eF eN (led_one (by k_mem)) (fun _ h => .tail _ (.tail _ h)) (off_one hoff8) (fun _ h => nomatch h) ?ez ?ei
      case ei => exact ring_step hI2
      case ez =>
        intro z z1 z2 z3
        simp only [z1, z3, if_false, Bool.false_eq_true, kstB]
    case done2 => 
      intro c2 u2 h8 tk8 hI2 hoff2 F8 N8
      clear lF lN lR
      simp only [List.cons_append, List.nil_append] at N8
      replace F8 : Fr g' L' h8 _ := F8
      replace N8 : News g' L' h8 _ := N8
      k_steps
      refine unhold ?_
      (with_reducible rename Fr _ _ _ _ => eF)
      (with_reducible rename News _ _ _ _ => eN)
      refine' lpost_next (_, _) eF eN (led_one (by k_mem)) (fun _ h => .tail _ h) (off_one hoff9) (fun _ h => nomatch h) ?ez ?ei
      case ei => exact hI2.resolve_right id
      case ez =>
        intro z z1 z2 z3
        have y1 := not_in z3 (a := Str.ofString "high") (by simp)
        simp only [z1, z3, y1, if_false, Bool.false_eq_true, kstB, List.contains_nil]
  case done =>
    intro c u h8 tk8 hI hoff F8 N8
    clear lF lN lR
    simp only [List.cons_append, List.nil_append] at N8
    replace F8 : Fr g' L' h8 _ := F8
    replace N8 : News g' L' h8 _ := N8
    replace hI := hI.resolve_right id
    have hlen2 : c.1.length ≤ 64 := by rw [hI.length]; exact ringTo_len (Nat.le_refl _)
    k_steps
    rename Fr h₀ L _ m => kF
    rename News h₀ L _ _ => kN
    rename _ ∧ _ ∧ AllLt _ news => l9
    have off := kst_ltOf l9.2.2
    exact mine_retL hret kF kN off (fun p hp => .tail _ (.tail _ hp)) (ints_app hI (.cons _ _ .nil))
  k_with_none
end Mine

end TLawRing
section TLawSm
open PySem PySem.W PyProof.Rows PySem.Calls PySem.Spec
set_option Elab.async false
set_option maxRecDepth 100000
set_option maxHeartbeats 8000000
namespace Mine
theorem sm_call {w : World} {loose : List Str} {mean : ExcName → Option Value} {mg mb : Str → Option Value}
    {dp un : Nat} {gd : Option (List Code)} {cn : Str} {cs : Scope} {a : Addr} {ccd : Value} {cl : List (Str × Addr)} {outer : List Env} {A₀ : Around} {base h₀ : Heap} {L : Addr} {m : Str → Option Value} {s : Shared} {Q E : Value → Shared → Prop}
    (B : Below A₀ base outer h₀) (F : Fr h₀ L s.heap m) (X : (Mine.K w.params).In h₀) (T : Top Mine.q loose mean mg mb h₀) (hk : cs.kind = .function)
    {la lb : Addr} {avs bvs : List Value} {as bs : List Int} {na nb : Nat} {rest : List (Addr × Obj)} (N : News h₀ L s.heap ((la, W.listOf avs.toArray na) :: (lb, W.listOf bvs.toArray nb) :: rest)) (ha : IntsAre avs as) (hb : IntsAre bvs bs) (hlb : bs.length < 200)
    (hdp : dp + 20 < recursionLimit) (hun : un + 100 < cLine)
    (hret : ∀ self dx jk pp db c l1 l2 t0 t1 t2 t3 t4 t5 t6 t7 t8 t9 h' tk', Fr h₀ L h' m → CBInv db PySem.Challenge.rw_rt0114_01.row.prog w bs bs.length c → (db == sysModules) = false → (∀ q ∈ c.ls.map CB.row, q.1 ≠ la) → (∀ q ∈ c.ls.map CB.row, q.1 ≠ lb) →
      News h₀ L h' ((pp, setObj l1) :: (jk, setObj l2) :: (db, c.o) :: (self, instObj 242 dx) :: (dx, dictOf (smEs w.params t0 t1 t2 t3 t4 t5 t6 t7 t8 t9 (.ref la) (.ref lb) .none .none .none (.ref db) (.ref jk) (.ref pp)) 10) :: (la, W.listOf avs.toArray na) :: (lb, W.listOf bvs.toArray nb) :: (rest ++ c.ls.map CB.row)) → Q (.ref self) { s with heap := h', toks := tk' }) :
    wpAny (model PySem.Challenge.rw_rt0114_01.row.prog w) (ktrTop dp un gd cn cs L a ccd cl outer) (call (.ref 242) [.none, .ref la, .ref lb]) Q E s := by
  k_with_none
  k_with "k_room" => (ktr_room)
  k_with "pyIter ref" => (refine Mine.hold ?_)
  k_with "exec While" => (refine Mine.hold ?_)
  k_with "NoTurn" => (refine Mine.hold ?_)
  k_with "LPost" => (refine Mine.hold ?_)
  k_with "k_lt" => (intro ltq9; ((try (have hne9 := Mine.own_ne (by assumption) ltq9 (by (intro p hp; repeat (first | exact hp | refine Mine.mem_tail ?_))))); replace ltq9 := allLt_of ltq9; simp only [AllLt, and_true] at ltq9))
  k_with "k_mem" => (first | with_reducible assumption | exact Mine.mem_head | (refine Mine.mem_tail ?_; k_mem))
  k_with "k_all" => (with_reducible assumption)
  k_with "call type:range" => (k_here; (rename Fr _ _ _ _ => F'); (rename News _ _ _ _ => N'); first | (with_unfolding_all refine range1_rows F' N' ?_; intro _ _ _ _ _ _ _ _ _) | (with_unfolding_all refine range2_rows F' N' ?_; intro _ _ _ _ _ _ _ _ _))
  k_with "binaryOp Add ref ref" => (k_here; (with_reducible show wpAny _ _ (binaryOp _ (Value.ref _) (Value.ref _)) _ _ _); k_dflt (refine' Mine.add_L ?k1 ?k2 ?a ?b ?z ?_; (case k1 => k_asm); (case k2 => k_asm); (case a => k_mem); (case b => k_mem); (case z => (simp only [List.length_cons, List.length_nil, List.length_append]; lia)); k_whole); intro d' h' F' N' l1; (try k_lt l1); (try k_sweep))
  k_with "call builtin:list.append" => (k_here; (with_reducible show wpAny _ _ (call (Value.builtin _) [Value.ref _, _]) _ _ _); k_dflt (refine' Mine.append_L ?k1 ?k2 ?k3 ?z ?_; (case k1 => k_asm); (case k2 => k_asm); (case k3 => k_upd); (case z => first | lia | (simp only [List.length_cons, List.length_nil, List.length_append]; lia)); k_whole); intro h' F' N'; (try k_sweep))
  k_with "call builtin:list.extend" => (k_here; (with_reducible show wpAny _ _ (call (Value.builtin _) [Value.ref _, Value.ref _]) _ _ _); k_dflt (refine' Mine.extend_L ?k1 ?k2 ?b ?ne ?k3 ?z ?_; (case k1 => k_asm); (case k2 => k_asm); (case b => k_mem); (case ne => first | exact Nat.succ_ne_zero _ | lia); (case k3 => k_upd); (case z => (simp only [List.length_cons, List.length_nil, List.length_append]; lia)); k_whole); intro h' F' N'; (try k_sweep))
  k_with "exec For Tuple Call" => (refine Mine.hold ?_)
  k_with "call type:enumerate" => (refine Mine.hold ?_)
  k_with "getMethod ref" => (k_here; (with_reducible show wpAny _ _ (getMethod (Value.ref _) (Str.ofString "setdefault") _) _ _ _); k_dflt (refine' kob_method (knd := PySem.intKind _ _) PySem.F.slot_dict_setdefault PySem.F.type_dict_setdefault ?a ?b ?c ?_; (case a => k_asm); (case b => k_mem); (case c => with_reducible assumption)))
  k_with "call builtin:dict.setdefault" => (k_here; (with_reducible show wpAny _ _ (call (Value.builtin "dict.setdefault") [Value.ref _, Value.int _ _, Value.ref _]) _ _ _); k_dflt (first
  | (refine kob_setdef_there (knd := PySem.intKind _ _) (by k_asm) (by k_mem) (by with_reducible assumption) (by with_reducible assumption) (intKind_is _ _ _ _) (PySem.F.args_dict_setdefault_3 _ _ _) (by with_reducible assumption) (by rw [sizeLine_eq]; lia) ?_)
  | (refine kob_setdef_new (knd := PySem.intKind _ _) (by k_asm) (by k_asm) (by k_updF) (by with_reducible assumption) (by with_reducible assumption) (intKind_is _ _ _ _) (PySem.F.args_dict_setdefault_3 _ _ _) (by with_reducible assumption) (by rw [sizeLine_eq]; lia) ?_; intro h' o' F' N' hd'; (try dsimp only at N'); (try k_sweep))))
  revert X; k_fill; intro X
  refine wpAny_call ?_
  k_dflt (refine' make_K F N (X.keeps F.keep) ?hm ?hi ?hf ?_; (case hm => k_is); (case hi => k_is); (case hf => k_is))
  intro self dx h1 F1 N1 l1 l2
  have hmk0 : OwnMark rest := ⟨⟩
  k_lt l1
  have l1 := ltq9; clear ltq9
  replace l2 := ltN l2
  have hrx : ∀ p ∈ rest, p.1 ≠ self := fun p hp => Nat.ne_of_lt (Nat.lt_trans (kst_ltOf l1.2.2 p hp) l2)
  k_dflt (refine' callX_ext B F1 X N1 T ?kA ?kF ?kK ?k6 ?k7 ?k8 ?k9 ?kB ?_ ?c2 ?c3 ?c4 ?c5; (case kA => exact rfl); (case kF => exact rfl); (case kK => assumption); (case k6 => k_is); (case k7 => k_is); (case k8 => ktr_room); (case k9 => first | exact BindsTo.of_eq rfl | exact binds_K (by k_in) rfl (by k_is) rfl rfl rfl); (case c5 => decide); (case kB => exact locs rfl); (case c2 => exact rfl); (case c3 => exact rfl); (case c4 => exact rfl); k_whole)
  intro g' L' h' FG' F' N' B' X' T' hg' hL'
  (try dsimp only); (try k_fold)
  k_steps
  refine unhold ?_
  refine wpAny_For ?_
  k_steps
  refine unhold ?_
  rename Fr _ _ _ _ => lF
  rename News _ _ _ _ => lN
  rename Obj.IsDictOf (PySem.intKind _ _) _ [] => lD
  refine' enum_cb [Str.ofString "indices"] (by rfl) (by rfl) (by rfl) (by rfl) (by decide) ?hl hb lF lN ?hoff lD ?turn ?done
  case hl => k_mem
  case hoff => exact List.forall_mem_cons.mpr ⟨by k_ne, List.forall_mem_cons.mpr ⟨by k_ne, List.forall_mem_cons.mpr ⟨by k_ne, List.forall_mem_cons.mpr ⟨by k_ne, by with_reducible assumption⟩⟩⟩⟩
  case turn =>
    intro i k t ti c u h9 tk9 own hik hI hoff hrest F9 N9
    clear lF lN lD
    have hil : i < bs.length := (List.getElem?_eq_some_iff.mp hik).1
    have hkl := hI.len
    have hD := hI.dict
    rename _ = false => lo9
    cases hc : c.ls.lookup k with
    | none =>
      obtain ⟨R, hRe, N8, hRd⟩ := turn_none hI hoff N9
      clear N9
      have hv : valueAt c.kvs k = none := by rw [hI.vals, hc]; rfl
      have hmk : OwnMark R := ⟨⟩
      k_steps
      refine unhold ?_
      (with_reducible rename Fr _ _ _ _ => eF)
      (with_reducible rename News _ _ _ _ => eN)
      (with_reducible rename Obj.IsDictOf _ _ (stored _ _ _) => hd7)
      refine turn_none_end hI hc hik hRe hoff eF eN hd7 (by with_reducible assumption) (by k_ne) ?_
      intro z z1 z3
      have y1 := not_in z3 (a := Str.ofString "indices") (by simp)
      have y2 := not_in z3 (a := Str.ofString "i") (by simp)
      simp only [kstB, z1, y1, y2, z3, if_false, Bool.false_eq_true]
      try rfl
    | some e =>
      obtain ⟨li, vs, n⟩ := e
      obtain ⟨pre, post, R, hls, hRe, N8, hRd, hRl, hdl, hvl⟩ := turn_some hI hc hoff N9
      clear N9
      have hv : valueAt c.kvs k = some (.ref li) := by rw [hI.vals, hc]; rfl
      have hmk : OwnMark R := ⟨⟩
      k_steps
      refine unhold ?_
      (with_reducible rename Fr _ _ _ _ => eF)
      (with_reducible rename News _ _ _ _ => eN)
      refine turn_some_end (extra := [_]) hI hls hik hRe hoff eF eN ?_
      intro z z1 z3
      have y1 := not_in z3 (a := Str.ofString "indices") (by simp)
      have y2 := not_in z3 (a := Str.ofString "i") (by simp)
      simp only [kstB, z1, y1, y2, z3, if_false, Bool.false_eq_true]
      try rfl
  case done =>
    intro c u h9 tk9 hI hoff F9 N9
    clear lF lN lD
    obtain ⟨R, hRe, N8, hRd, hRr, hrd⟩ := led_split N9 hoff hI.off
    clear N9 hoff
    simp only [List.cons_append, List.nil_append] at N8
    simp only [List.forall_mem_cons] at hRr hrd
    obtain ⟨hr1, hr2, hr3, hr4, -⟩ := hRr
    obtain ⟨hr5, hr6, hr7, hr8, hr9⟩ := hrd
    obtain ⟨R2, hR2⟩ : ∃ R2, R2 = rest ++ R := ⟨_, rfl⟩
    rw [← hR2] at N8
    have hR2d : ∀ p ∈ R2, p.1 ≠ dx := by
      rw [hR2]
      intro p hp
      rcases List.mem_append.mp hp with hp | hp
      · exact (show ∀ p ∈ rest, p.1 ≠ dx by with_reducible assumption) p hp
      · exact hr2 p hp
    clear hmk0
    have hmk : OwnMark R2 := ⟨⟩
    have hbl := hb.length
    have hD := hI.dict
    k_steps
    (with_reducible rename Fr h₀ L _ m => kF)
    (with_reducible rename News h₀ L _ _ => kN)
    subst hR2 hRe
    refine hret self dx _ _ _ c _ _ _ _ _ _ _ _ _ _ _ _ _ _ kF hI (by with_reducible assumption) hr3 hr4 kN
  k_with_none
end Mine

end TLawSm
section TLawWalk
open PySem PySem.W PyProof.Rows PySem.Calls PySem.Spec
set_option Elab.async false
set_option maxRecDepth 100000
namespace Mine
section
variable {prog : Program} {w : World} {A : Around} {E : Value → Shared → Prop} {s : Shared} {env : Env} {h₀ : Heap} {x : Str} {body : List Stmt} {Q : Flow → Shared → Prop}
theorem my_walks {σ : Type} {I : Addr} {fp wr : List Addr} {n : Nat} {P : Nat → Value → Prop} {St : Nat → Heap → Prop} {m₀ : Str → Option Value} {rest : List (Addr × Obj)} (ps : σ → List (Str × Value)) (Led : σ → List (Addr × Obj)) (stored : List Str) (Inv : Nat → σ → Prop) (Brk : σ → Prop) (c₀ : σ)
    (W : Walks prog w A I fp wr n P St) (hfw : ∀ a ∈ fp, a ∈ wr) (hwf : ∀ b ∈ wr, b ∈ fp) (hob : ∀ i h, St i h → ∀ b ∈ wr, ∃ o, h.get? b = some o) (hLf : env.locals ∉ fp) (hwr : ∀ b ∈ wr, h₀.get? b = none) (hnw : ∀ p ∈ Led c₀ ++ rest, p.1 ∉ wr) (hst : St 0 s.heap)
    (F : Fr h₀ env.locals s.heap m₀) (N : News h₀ env.locals s.heap (Led c₀ ++ rest))
    (hoff : ∀ p ∈ rest, ∀ q ∈ Led c₀, p.1 ≠ q.1) (hk : ∀ p ∈ ps c₀, m₀ p.1 = some p.2) (hi : Inv 0 c₀)
    (turn : ∀ (i : Nat) (v : Value) (c : σ) (u : Str → Option Value) h tk own, i < n → P i v → Inv i c → (∀ p ∈ own, ∀ q ∈ Led c, p.1 ≠ q.1) → (∀ p ∈ rest, p ∈ own) →
      Fr h₀ env.locals h (fun y => if y = x then some v else kstB (fun z => if stored.contains z then u z else m₀ z) (ps c) y) → News h₀ env.locals h (Led c ++ own) →
      wpAny (model prog w) A (execs body env) (LPost h₀ env.locals ps Led x stored m₀ (Inv (i + 1)) own { s with heap := h, toks := tk } Brk (fun v s' => Q (.ret v) s')) E { s with heap := h, toks := tk })
    (done : ∀ (c : σ) (u : Str → Option Value) h tk, (Inv n c ∨ Brk c) → (∀ p ∈ rest, ∀ q ∈ Led c, p.1 ≠ q.1) → Fr h₀ env.locals h (fun y => if y = x then u y else kstB (fun z => if stored.contains z then u z else m₀ z) (ps c) y) → News h₀ env.locals h (Led c ++ rest) → Q .next { s with heap := h, toks := tk }) :
    LoopAtV prog w A h₀ env x body Q E (.ref I) s := by
  refine kdr_loop (fun i m nx => ∃ c, nx = Led c ++ rest ∧ (∀ p ∈ rest, ∀ q ∈ Led c, p.1 ≠ q.1) ∧ (∀ p ∈ ps c, m p.1 = some p.2) ∧ (∀ z, z ≠ x → (∀ p ∈ ps c, z ≠ p.1) → stored.contains z = false → m z = m₀ z) ∧ Inv i c) W hfw hwf hob hLf hwr hnw hst F N ⟨c₀, rfl, hoff, hk, fun _ _ _ _ => rfl, hi⟩ ?_ ?_
  · rintro i v m₁ nx h tk own hin hP hoffI' ⟨c, rfl, hof, h1, h2, hI⟩ F₁ N₁
    have hoffI : ∀ p ∈ own, ∀ q ∈ Led c ++ rest, p.1 ≠ q.1 := fun p hp q hq => hoffI' p hp q.1 (List.mem_map.mpr ⟨q, hq, rfl⟩)
    have hofw : ∀ p ∈ rest ++ own, ∀ q ∈ Led c, p.1 ≠ q.1 := by
      intro p hp q hq
      rcases List.mem_append.mp hp with hp | hp
      · exact hof p hp q hq
      · exact hoffI p hp q (List.mem_append.mpr (.inl hq))
    rw [List.append_assoc] at N₁
    refine wpAny_mono (turn i v c m₁ h tk (rest ++ own) hin hP hI hofw (fun p hp => List.mem_append.mpr (.inl hp)) (kst_fr h1 h2 F₁) N₁) (fun f s₂ p => ?_) fun _ _ e => e
    have fin : ∀ {J : σ → Prop}, LEnd h₀ env.locals ps Led x stored m₀ J (rest ++ own) { s with heap := h, toks := tk } s₂ →
        ∃ c h' tk' m' news', s₂ = { s with heap := h', toks := tk' } ∧ Fr h₀ env.locals h' m' ∧ News h₀ env.locals h' news' ∧ (∀ p ∈ Led c ++ rest, p ∈ news') ∧ (∀ p ∈ own, p ∈ news') ∧ OwnOff own ((Led c ++ rest).map (·.1)) ∧
          (∀ p ∈ rest, ∀ q ∈ Led c, p.1 ≠ q.1) ∧ (∀ p ∈ ps c, m' p.1 = some p.2) ∧ (∀ z, z ≠ x → (∀ p ∈ ps c, z ≠ p.1) → stored.contains z = false → m' z = m₀ z) ∧ J c := by
      rintro J ⟨c', h', tk', m', news', rfl, F', N', ha, hb, hc, hd, he, hJ⟩
      refine ⟨c', h', tk', m', news', rfl, F', N', ?_, fun p hp => hb p (List.mem_append.mpr (.inr hp)), ?_, fun p hp => hc p (List.mem_append.mpr (.inl hp)), hd, he, hJ⟩
      · intro p hp
        rcases List.mem_append.mp hp with hp | hp
        · exact ha p hp
        · exact hb p (List.mem_append.mpr (.inl hp))
      · intro p hp b hb'
        obtain ⟨q, hq, rfl⟩ := List.mem_map.mp hb'
        rcases List.mem_append.mp hq with hq | hq
        · exact hc p (List.mem_append.mpr (.inr hp)) q hq
        · exact hoffI p hp q (List.mem_append.mpr (.inr hq))
    cases f with
    | ret v => exact p
    | brk =>
      obtain ⟨c', h', tk', m', news', rfl, F', N', ha, hb, _, hof', hd, he, hJ⟩ := fin p
      have F2 := kst_frOut hd he F'
      exact done c' m' h' tk' (.inr hJ) hof' F2 (fun q hq => N' q (ha q hq))
    | next =>
      obtain ⟨c', h', tk', m', news', rfl, F', N', ha, hb, ht, hof', hd, he, hJ⟩ := fin p
      exact InvEndG.intro (nx := Led c' ++ rest) F' N' ⟨c', rfl, hof', hd, he, hJ⟩ ht ha hb
    | cont =>
      obtain ⟨c', h', tk', m', news', rfl, F', N', ha, hb, ht, hof', hd, he, hJ⟩ := fin p
      exact InvEndG.intro (nx := Led c' ++ rest) F' N' ⟨c', rfl, hof', hd, he, hJ⟩ ht ha hb
  · rintro m₁ nx h tk ⟨c, rfl, hof, h1, h2, hI⟩ F₁ N₁
    exact done c m₁ h tk (.inl hI) hof (kst_frOut h1 h2 F₁) N₁
theorem my_bytes {σ : Type} {b : Array UInt8} {tb : Tok} {m₀ : Str → Option Value} {rest : List (Addr × Obj)} (ps : σ → List (Str × Value)) (Led : σ → List (Addr × Obj)) (stored : List Str) (Inv : Nat → σ → Prop) (c₀ : σ)
    (hh : A.handled = none) (F : Fr h₀ env.locals s.heap m₀) (N : News h₀ env.locals s.heap (Led c₀ ++ rest))
    (hoff : ∀ p ∈ rest, ∀ q ∈ Led c₀, p.1 ≠ q.1) (hk : ∀ p ∈ ps c₀, m₀ p.1 = some p.2) (hi : Inv 0 c₀)
    (turn : ∀ (i : Nat) (k : Int) t (c : σ) (u : Str → Option Value) h tk own, (KBw.bInts b)[i]? = some k → 0 ≤ k → k < 256 → Inv i c → (∀ p ∈ own, ∀ q ∈ Led c, p.1 ≠ q.1) → (∀ p ∈ rest, p ∈ own) →
      Fr h₀ env.locals h (fun y => if y = x then some (.int k t) else kstB (fun z => if stored.contains z then u z else m₀ z) (ps c) y) → News h₀ env.locals h (Led c ++ own) →
      wpAny (model prog w) A (execs body env) (LPost h₀ env.locals ps Led x stored m₀ (Inv (i + 1)) own { s with heap := h, toks := tk } (fun _ => False) (fun v s' => Q (.ret v) s')) E { s with heap := h, toks := tk })
    (done : ∀ (c : σ) (u : Str → Option Value) h tk, Inv b.size c → (∀ p ∈ rest, ∀ q ∈ Led c, p.1 ≠ q.1) → Fr h₀ env.locals h (fun y => if y = x then u y else kstB (fun z => if stored.contains z then u z else m₀ z) (ps c) y) → News h₀ env.locals h (Led c ++ rest) → Q .next { s with heap := h, toks := tk }) :
    wpAny (model prog w) A (pyIter (.bytes b tb)) (fun it s₂ => LoopAtV prog w A h₀ env x body Q E it s₂) E s := by
  refine KBw.pyIter_bytes ?_
  have W := KBw.walks (prog := prog) (w := w) hh s.heap.objs.size b tb
  refine my_walks ps Led stored Inv (fun _ => False) c₀ W (fun _ h => h) (fun _ h => h) ?_ ?_ ?_ ?_ ⟨_, Heap.get?_push_size _ rfl, rfl, rfl⟩ (F.push _) (fun p hp => ⟨Heap.get?_push_of_some _ (N p hp).1, (N p hp).2⟩) hoff hk hi ?_ (fun c u h tk hI => done c u h tk (hI.resolve_right id))
  · rintro i h ⟨o, ho, _⟩ b' hb
    exact ⟨o, (List.mem_singleton.mp hb) ▸ ho⟩
  · intro hm
    exact absurd F.ns.lt ((List.mem_singleton.mp hm) ▸ Nat.lt_irrefl _)
  · intro b' hb
    rw [List.mem_singleton.mp hb]
    exact next_is_new F
  · intro p hp hI
    exact absurd (Heap.lt_size (N p hp).1) ((List.mem_singleton.mp hI) ▸ Nat.lt_irrefl _)
  · rintro i v c u h tk own hin ⟨cc, t, hc, rfl⟩ hI hoff' hrest F₁ N₁
    have hb := KBw.ints_in (List.mem_of_getElem? (KBw.ints_get hc))
    exact turn i _ t c u h tk own (KBw.ints_get hc) hb.1 hb.2 hI hoff' hrest F₁ N₁
end
end Mine

end TLawWalk
section TLawBits
open PySem PySem.W PyProof.Rows PySem.Calls PySem.Spec
set_option Elab.async false
set_option maxRecDepth 100000
namespace Mine
noncomputable def b64A : List Int := [65, 66, 67, 68, 69, 70, 71, 72, 73, 74, 75, 76, 77, 78, 79, 80, 81, 82, 83, 84, 85, 86, 87, 88, 89, 90, 97, 98, 99, 100, 101, 102, 103, 104, 105, 106, 107, 108, 109, 110, 111, 112, 113, 114, 115, 116, 117, 118, 119, 120, 121, 122, 48, 49, 50, 51, 52, 53, 54, 55, 56, 57, 43, 47]
noncomputable def b64B : List UInt8 := [65, 66, 67, 68, 69, 70, 71, 72, 73, 74, 75, 76, 77, 78, 79, 80, 81, 82, 83, 84, 85, 86, 87, 88, 89, 90, 97, 98, 99, 100, 101, 102, 103, 104, 105, 106, 107, 108, 109, 110, 111, 112, 113, 114, 115, 116, 117, 118, 119, 120, 121, 122, 48, 49, 50, 51, 52, 53, 54, 55, 56, 57, 43, 47]
noncomputable def signOf (v : Int) : Int := b64A.getD v.toNat 0
theorem sign_at : ∀ n < 64, ((b64B.getD n 0).toNat : Int) = b64A.getD n 0 := by decide +kernel
theorem and_low (x : Int) : ∀ (k : Nat) (y : Int), 0 ≤ y → y < 2 ^ k → Builtin.bitAnd (x * 2 ^ k) y = 0
  | 0, y, h0, h1 => by
    have : y = 0 := by simp at h1; lia
    subst this
    have h := kbt_mask (x * 2 ^ 0) 0
    simpa using h
  | k + 1, y, h0, h1 => by
    rw [kbt_halves]
    have e : x * 2 ^ (k + 1) / 2 = x * 2 ^ k := by
      rw [Int.pow_succ, ← Int.mul_assoc]
      exact Int.mul_ediv_cancel _ (by decide)
    have e2 : x * 2 ^ (k + 1) % 2 = 0 := by
      rw [Int.pow_succ, ← Int.mul_assoc]
      exact Int.mul_emod_left _ _
    rw [e, e2, and_low x k (y / 2) (by lia) (by rw [Int.pow_succ] at h1; lia)]
    simp
theorem or_low (x : Int) (k : Nat) (y : Int) (h0 : 0 ≤ y) (h1 : y < 2 ^ k) : Builtin.bitOr (x * 2 ^ k) y = x * 2 ^ k + y := by
  have h := bitXor_and (x * 2 ^ k) y
  unfold Builtin.bitXor at h
  rw [and_low x k y h0 h1] at h
  lia
section
variable {prog : Program} {w : World} {A : Around} {E : Value → Shared → Prop} {s : Shared} {a b m : Int} {t u : Tok} {Q : Value → Shared → Prop}
theorem and_mask (k : Nat) (hm : m = 2 ^ k - 1) (h : ∀ t', Q (.int (a % 2 ^ k) t') { s with toks := s.toks + 1 }) : wpAny (model prog w) A (binaryOp .BitAnd (.int a t) (.int m u)) Q E s := by
  refine and_int ?_
  rw [hm, kbt_mask]
  exact h _
theorem shl_nat (k : Nat) {n : Int} (hn : n = k) (hk : k ≤ 1000) (ha : a.natAbs < 2 ^ 64) (h : ∀ t', Q (.int (a * 2 ^ k) t') { s with toks := s.toks + 1 }) : wpAny (model prog w) A (binaryOp .LShift (.int a t) (.int n u)) Q E s := by
  subst hn
  refine lshift_int_small (Int.natCast_nonneg _) (by lia) ha ?_
  rw [Int.toNat_natCast]
  exact h _
theorem or_byte (h0 : 0 ≤ b) (h1 : b < 256) (h : ∀ t', Q (.int (a * 256 + b) t') { s with toks := s.toks + 1 }) : wpAny (model prog w) A (binaryOp .BitOr (.int (a * 2 ^ 8) t) (.int b u)) Q E s := by
  refine or_int ?_
  rw [or_low a 8 b h0 (by simpa using h1)]
  exact h _
theorem shr_nat (k : Nat) {n : Int} (hn : n = k) (h : ∀ t', Q (.int (a / 2 ^ k) t') { s with toks := s.toks + 1 }) : wpAny (model prog w) A (binaryOp .RShift (.int a t) (.int n u)) Q E s := by
  subst hn
  refine rshift_int (Int.natCast_nonneg _) ?_
  rw [Int.toNat_natCast, Int.fdiv_eq_ediv_of_nonneg _ (Int.pow_nonneg (by decide))]
  exact h _
theorem b64_sub {value slice : Expr} {v : Int} {arr : Array UInt8} (ha : arr = b64B.toArray) (h0 : 0 ≤ v) (h1 : v < 64) (h : ∀ t', Q (.int (signOf v) t') { s with toks := s.toks + 1 })
    (hs : subscripted slice false (.bytes arr t) (.int v u) = operate [.bytes arr t, .int v u] (getItem (.bytes arr t) (.int v u)) := by with_unfolding_all rfl) (ht : ∀ r, letTemporaryGo value (.bytes arr t) r = pure () := by intro _; with_unfolding_all rfl) :
    wpAny (model prog w) A (subscriptTail value slice (.bytes arr t) (.int v u)) Q E s := by
  subst ha
  refine subscriptTail_builtin (typeIs_bytes _ _ _) FB.slot_bytes_getitem.lookup (getItem_bytes (by decide) h0 (by simpa [b64B] using h1) ?_) hs ht
  rw [sign_at v.toNat (by lia)]
  exact h _
theorem bytes_L {h₀ : Heap} {L D : Addr} {m' : Str → Option Value} {news : List (Addr × Obj)} {vs : List Value} {n : Nat} {ns : List Int} (F : Fr h₀ L s.heap m') (N : News h₀ L s.heap news) (hh : A.handled = none) (ha : (D, W.listOf vs.toArray n) ∈ news) (hi : IntsAre vs ns) (hr : KBa.In ns) (hn : ns.length ≤ 100000)
    (h : ∀ h' t' k, Fr h₀ L h' m' → News h₀ L h' news → Q (.bytes (byteArr ns) t') { s with heap := h', toks := k }) : wpAny (model prog w) A (call (.type "bytes") [.ref D]) Q E s :=
  KBa.make_K F N hh (isList_N N ha) hi hr (by lia) fun h' t' k F' N' _ => h h' t' k F' N'
end
end Mine

end TLawBits
section TLawB4
open PySem PySem.W PyProof.Rows PySem.Calls PySem.Spec
set_option Elab.async false
set_option maxRecDepth 100000
namespace Mine
structure B4 where
  vs : List Value
  n : Nat
  lc : Int
  tl : Tok
  lb : Int
  tb : Tok
noncomputable def numTo (os : List Int) (i : Nat) : Int := (os.take i).foldl (fun n o => 256 * n + o) 0
noncomputable def outTo (os : List Int) (i : Nat) : List Int := (List.range (8 * i / 6)).map fun k => signOf (numTo os i / 2 ^ (8 * i - 6 * (k + 1)) % 64)
structure B4Inv (os : List Int) (i : Nat) (c : B4) : Prop where
  out : IntsAre c.vs (outTo os i)
  lc : c.lc = numTo os i % 65536
  lb : c.lb = ((8 * i % 6 : Nat) : Int)
theorem numTo_succ {os : List Int} {i : Nat} {k : Int} (h : os[i]? = some k) : numTo os (i + 1) = 256 * numTo os i + k := by
  unfold numTo
  rw [List.take_add_one, h, List.foldl_append]
  rfl
theorem numTo_nonneg {os : List Int} (h : ∀ o ∈ os, 0 ≤ o) : ∀ i, 0 ≤ numTo os i
  | 0 => by simp [numTo]
  | i + 1 => by
    cases e : os[i]? with
    | none =>
      have : numTo os (i + 1) = numTo os i := by unfold numTo; rw [List.take_add_one, e]; simp
      rw [this]; exact numTo_nonneg h i
    | some k =>
      rw [numTo_succ e]
      have := numTo_nonneg h i
      have := h k (List.mem_of_getElem? e)
      lia
theorem div_pow_add (n k : Int) (j : Nat) (h0 : 0 ≤ k) (h1 : k < 256) : (256 * n + k) / 2 ^ (j + 8) = n / 2 ^ j := by
  rw [Int.pow_add, Int.mul_comm (2 ^ j), ← Int.ediv_ediv_of_nonneg (by decide)]
  congr 1
  have : (2 : Int) ^ 8 = 256 := by decide
  rw [this]
  lia
theorem out_old {os : List Int} {i : Nat} {k : Int} (h : os[i]? = some k) (h0 : 0 ≤ k) (h1 : k < 256) (q : Nat) (hq : q < 8 * i / 6) :
    signOf (numTo os (i + 1) / 2 ^ (8 * (i + 1) - 6 * (q + 1)) % 64) = signOf (numTo os i / 2 ^ (8 * i - 6 * (q + 1)) % 64) := by
  rw [numTo_succ h, show 8 * (i + 1) - 6 * (q + 1) = (8 * i - 6 * (q + 1)) + 8 by lia, div_pow_add _ _ _ h0 h1]
theorem outTo_succ {os : List Int} {i : Nat} {k : Int} (h : os[i]? = some k) (h0 : 0 ≤ k) (h1 : k < 256) :
    outTo os (i + 1) = outTo os i ++ (List.range (8 * (i + 1) / 6 - 8 * i / 6)).map fun q => signOf (numTo os (i + 1) / 2 ^ (8 * (i + 1) - 6 * (8 * i / 6 + q + 1)) % 64) := by
  unfold outTo
  conv => lhs; rw [show 8 * (i + 1) / 6 = 8 * i / 6 + (8 * (i + 1) / 6 - 8 * i / 6) by lia]
  rw [List.range_add, List.map_append, List.map_map]
  congr 1
  exact List.map_congr_left fun q hq => out_old h h0 h1 q (List.mem_range.mp hq)
theorem low_div (x : Int) (j : Nat) (hj : j ≤ 10) : x % 65536 / 2 ^ j % 64 = x / 2 ^ j % 64 := by
  obtain ⟨k, hk⟩ : ∃ k, j + k = 10 := ⟨10 - j, by lia⟩
  have e : (65536 : Int) = 2 ^ j * (64 * 2 ^ k) := by
    have h : (2 : Int) ^ 10 = 2 ^ j * 2 ^ k := by rw [← hk, Int.pow_add]
    rw [Int.mul_left_comm, ← h]; decide
  have h := Int.mul_ediv_add_emod x 65536
  have hp : (2 : Int) ^ j ≠ 0 := Int.pow_ne_zero (by decide)
  generalize x % 65536 = r at h ⊢
  generalize x / 65536 = q at h
  rw [← h, e, Int.mul_assoc, Int.add_comm, Int.add_mul_ediv_left _ _ hp, Int.mul_assoc, Int.add_mul_emod_self_left]
theorem b4_lc {os : List Int} {i : Nat} {k lc : Int} (h : os[i]? = some k) (hl : lc = numTo os i % 65536) : (lc * 256 + k) % 2 ^ 16 = numTo os (i + 1) % 65536 := by
  rw [numTo_succ h, hl]
  have : (2 : Int) ^ 16 = 65536 := by decide
  rw [this]
  lia
theorem sign_eq {os : List Int} {i : Nat} {k lc : Int} {j : Nat} (h : os[i]? = some k) (hl : lc = numTo os i % 65536) (hj : j ≤ 10) : signOf ((lc * 256 + k) % 2 ^ 16 / 2 ^ j % 2 ^ 6) = signOf (numTo os (i + 1) / 2 ^ j % 64) := by
  rw [b4_lc h hl]
  have : (2 : Int) ^ 6 = 64 := by decide
  rw [this, low_div _ _ hj]
theorem cnt_one {i : Nat} (hm : i % 3 ≠ 2) : 8 * (i + 1) / 6 - 8 * i / 6 = 1 ∧ 8 * (i + 1) - 6 * (8 * i / 6 + 0 + 1) = 8 * (i + 1) % 6 ∧ 8 * (i + 1) % 6 ≤ 4 := by
  obtain ⟨g, hg⟩ : ∃ g, i = 3 * g ∨ i = 3 * g + 1 := ⟨i / 3, by lia⟩
  rcases hg with rfl | rfl
  · refine ⟨by lia, by lia, by lia⟩
  · refine ⟨by lia, by lia, by lia⟩
theorem cnt_two {i : Nat} (hm : i % 3 = 2) : 8 * (i + 1) / 6 - 8 * i / 6 = 2 ∧ 8 * (i + 1) - 6 * (8 * i / 6 + 0 + 1) = 6 ∧ 8 * (i + 1) - 6 * (8 * i / 6 + 1 + 1) = 0 := by
  obtain ⟨g, hg⟩ : ∃ g, i = 3 * g + 2 := ⟨i / 3, by lia⟩
  subst hg
  refine ⟨by lia, by lia, by lia⟩
theorem b4_one {os : List Int} {i : Nat} {k lc : Int} {vs : List Value} {t : Tok} {j : Nat} (h : os[i]? = some k) (h0 : 0 ≤ k) (h1 : k < 256) (hl : lc = numTo os i % 65536) (ho : IntsAre vs (outTo os i)) (hm : i % 3 ≠ 2) (hj : j = 8 * (i + 1) % 6) :
    IntsAre (vs ++ [.int (signOf ((lc * 256 + k) % 2 ^ 16 / 2 ^ j % 2 ^ 6)) t]) (outTo os (i + 1)) := by
  obtain ⟨c1, c2, c3⟩ := cnt_one hm
  rw [outTo_succ h h0 h1, sign_eq h hl (by lia), c1]
  refine ints_app' ho ?_
  show IntsAre _ [signOf (numTo os (i + 1) / 2 ^ (8 * (i + 1) - 6 * (8 * i / 6 + 0 + 1)) % 64)]
  rw [c2, ← hj]
  exact .cons _ _ .nil
theorem b4_two {os : List Int} {i : Nat} {k lc : Int} {vs : List Value} {t u : Tok} (h : os[i]? = some k) (h0 : 0 ≤ k) (h1 : k < 256) (hl : lc = numTo os i % 65536) (ho : IntsAre vs (outTo os i)) (hm : i % 3 = 2) :
    IntsAre (vs ++ [.int (signOf ((lc * 256 + k) % 2 ^ 16 / 2 ^ 6 % 2 ^ 6)) t] ++ [.int (signOf ((lc * 256 + k) % 2 ^ 16 / 2 ^ 0 % 2 ^ 6)) u]) (outTo os (i + 1)) := by
  obtain ⟨c1, c2, c3⟩ := cnt_two hm
  rw [outTo_succ h h0 h1, sign_eq h hl (by lia), sign_eq h hl (by lia), c1, List.append_assoc]
  refine ints_app' ho ?_
  show IntsAre _ [signOf (numTo os (i + 1) / 2 ^ (8 * (i + 1) - 6 * (8 * i / 6 + 0 + 1)) % 64), signOf (numTo os (i + 1) / 2 ^ (8 * (i + 1) - 6 * (8 * i / 6 + 1 + 1)) % 64)]
  rw [c2, c3]
  exact .cons _ _ (.cons _ _ .nil)
end Mine
namespace Mine
theorem lb_cases (i : Nat) : (i % 3 = 0 ∧ 8 * i % 6 = 0 ∧ 8 * (i + 1) % 6 = 2) ∨ (i % 3 = 1 ∧ 8 * i % 6 = 2 ∧ 8 * (i + 1) % 6 = 4) ∨ (i % 3 = 2 ∧ 8 * i % 6 = 4 ∧ 8 * (i + 1) % 6 = 0) := by
  obtain ⟨g, hg⟩ : ∃ g, i = 3 * g ∨ i = 3 * g + 1 ∨ i = 3 * g + 2 := ⟨i / 3, by lia⟩
  rcases hg with rfl | rfl | rfl
  · exact .inl ⟨by lia, by lia, by lia⟩
  · exact .inr (.inl ⟨by lia, by lia, by lia⟩)
  · exact .inr (.inr ⟨by lia, by lia, by lia⟩)
theorem outTo_len (os : List Int) (i : Nat) : (outTo os i).length = 8 * i / 6 := by
  unfold outTo
  rw [List.length_map, List.length_range]
end Mine
namespace Mine
noncomputable def b64Pad (os : List Int) : List Int := if os.length % 3 = 0 then [] else if os.length % 3 = 1 then [signOf (numTo os os.length % 2 ^ 2 * 2 ^ 4), 61, 61] else [signOf (numTo os os.length % 2 ^ 4 * 2 ^ 2), 61]
noncomputable def b64L (os : List Int) : List Int := outTo os os.length ++ b64Pad os
theorem sign_in (v : Int) : 0 ≤ signOf v ∧ signOf v < 256 := by
  unfold signOf
  have h : ∀ n, 0 ≤ b64A.getD n 0 ∧ b64A.getD n 0 < 256 := by
    intro n
    by_cases hn : n < 64
    · exact (show ∀ n < 64, 0 ≤ b64A.getD n 0 ∧ b64A.getD n 0 < 256 by decide +kernel) n hn
    · rw [List.getD_eq_getElem?_getD, List.getElem?_eq_none (by simpa [b64A] using hn)]
      decide
  exact h _
theorem b64L_in (os : List Int) : KBa.In (b64L os) := by
  intro n hn
  rcases List.mem_append.mp hn with hn | hn
  · unfold outTo at hn
    obtain ⟨q, _, rfl⟩ := List.mem_map.mp hn
    exact sign_in _
  · unfold b64Pad at hn
    split at hn
    · cases hn
    split at hn
    · simp only [List.mem_cons, List.not_mem_nil, or_false] at hn
      rcases hn with rfl | rfl | rfl
      · exact sign_in _
      · decide
      · decide
    · simp only [List.mem_cons, List.not_mem_nil, or_false] at hn
      rcases hn with rfl | rfl
      · exact sign_in _
      · decide
theorem b64L_len (os : List Int) (h : os.length ≤ 1000) : (b64L os).length ≤ 100000 := by
  unfold b64L
  rw [List.length_append, outTo_len]
  unfold b64Pad
  split
  · simp; lia
  split
  · simp; lia
  · simp; lia
theorem fin0 {os : List Int} {vs : List Value} (ho : IntsAre vs (outTo os os.length)) (h : os.length % 3 = 0) : IntsAre vs (b64L os) := by
  unfold b64L b64Pad
  rw [if_pos h, List.append_nil]
  exact ho
theorem fin1 {os : List Int} {vs : List Value} {lc : Int} {t1 t2 t3 : Tok} (ho : IntsAre vs (outTo os os.length)) (hl : lc = numTo os os.length % 65536) (h : os.length % 3 = 1) :
    IntsAre (vs ++ [.int (signOf (lc % 2 ^ 2 * 2 ^ 4)) t1] ++ [.int 61 t2] ++ [.int 61 t3]) (b64L os) := by
  unfold b64L b64Pad
  rw [if_neg (by lia), if_pos h, List.append_assoc, List.append_assoc]
  refine ints_app' ho ?_
  rw [show numTo os os.length % 2 ^ 2 = lc % 2 ^ 2 by lia]
  exact .cons _ _ (.cons _ _ (.cons _ _ .nil))
theorem fin2 {os : List Int} {vs : List Value} {lc : Int} {t1 t2 : Tok} (ho : IntsAre vs (outTo os os.length)) (hl : lc = numTo os os.length % 65536) (h : os.length % 3 = 2) :
    IntsAre (vs ++ [.int (signOf (lc % 2 ^ 4 * 2 ^ 2)) t1] ++ [.int 61 t2]) (b64L os) := by
  unfold b64L b64Pad
  rw [if_neg (by lia), if_neg (by lia), List.append_assoc]
  refine ints_app' ho ?_
  rw [show numTo os os.length % 2 ^ 4 = lc % 2 ^ 4 by lia]
  exact .cons _ _ (.cons _ _ .nil)
end Mine

end TLawB4
section TLawB64
open PySem PySem.W PyProof.Rows PySem.Calls PySem.Spec
set_option Elab.async false
set_option maxRecDepth 100000
set_option maxHeartbeats 8000000
namespace Mine
theorem b64_call {w : World} {loose : List Str} {mean : ExcName → Option Value} {mg mb : Str → Option Value}
    {dp un : Nat} {gd : Option (List Code)} {cn : Str} {cs : Scope} {a : Addr} {ccd : Value} {cl : List (Str × Addr)} {outer : List Env} {A₀ : Around} {base h₀ : Heap} {L : Addr} {m : Str → Option Value} {s : Shared} {Q E : Value → Shared → Prop} {news : List (Addr × Obj)}
    (B : Below A₀ base outer h₀) (F : Fr h₀ L s.heap m) (X : (Mine.K w.params).In h₀) (N : News h₀ L s.heap news) (T : Top Mine.q loose mean mg mb h₀) (hk : cs.kind = .function)
    {arr : Array UInt8} {t : Tok} (hlen : arr.size ≤ 100) (hdp : dp + 20 < recursionLimit) (hun : un + 100 < cLine)
    (hret : ∀ t' h' tk', Fr h₀ L h' m → News h₀ L h' news → Q (.bytes (byteArr (b64L (KBw.bInts arr))) t') { s with heap := h', toks := tk' }) :
    wpAny (model PySem.Challenge.rw_rt0114_01.row.prog w) (ktrTop dp un gd cn cs L a ccd cl outer) (call (.ref 276) [.bytes arr t]) Q E s := by
  k_with_none
  k_with "k_room" => (ktr_room)
  k_with "pyIter ref" => (refine Mine.hold ?_)
  k_with "NoTurn" => (refine Mine.hold ?_)
  k_with "LPost" => (refine Mine.hold ?_)
  k_with "k_lt" => (intro ltq9; ((try (have hne9 := Mine.own_ne (by assumption) ltq9 (by (intro p hp; repeat (first | exact hp | refine Mine.mem_tail ?_))))); replace ltq9 := allLt_of ltq9; simp only [AllLt, and_true] at ltq9))
  k_with "k_mem" => (first | with_reducible assumption | exact Mine.mem_head | (refine Mine.mem_tail ?_; k_mem))
  k_with "k_all" => (with_reducible assumption)
  k_with "call type:range" => (k_here; (rename Fr _ _ _ _ => F'); (rename News _ _ _ _ => N'); first | (with_unfolding_all refine range1_rows F' N' ?_; intro _ _ _ _ _ _ _ _ _) | (with_unfolding_all refine range2_rows F' N' ?_; intro _ _ _ _ _ _ _ _ _))
  k_with "binaryOp Add ref ref" => (k_here; (with_reducible show wpAny _ _ (binaryOp _ (Value.ref _) (Value.ref _)) _ _ _); k_dflt (refine' Mine.add_L ?k1 ?k2 ?a ?b ?z ?_; (case k1 => k_asm); (case k2 => k_asm); (case a => k_mem); (case b => k_mem); (case z => (simp only [List.length_cons, List.length_nil, List.length_append]; lia)); k_whole); intro d' h' F' N' l1; (try k_lt l1); (try k_sweep))
  k_with "call builtin:list.append" => (k_here; (with_reducible show wpAny _ _ (call (Value.builtin _) [Value.ref _, _]) _ _ _); k_dflt (refine' Mine.append_L ?k1 ?k2 ?k3 ?z ?_; (case k1 => k_asm); (case k2 => k_asm); (case k3 => k_upd); (case z => first | lia | (simp only [List.length_cons, List.length_nil, List.length_append]; lia)); k_whole); intro h' F' N'; (try k_sweep))
  k_with "call builtin:list.extend" => (k_here; (with_reducible show wpAny _ _ (call (Value.builtin _) [Value.ref _, Value.ref _]) _ _ _); k_dflt (refine' Mine.extend_L ?k1 ?k2 ?b ?ne ?k3 ?z ?_; (case k1 => k_asm); (case k2 => k_asm); (case b => k_mem); (case ne => first | exact Nat.succ_ne_zero _ | lia); (case k3 => k_upd); (case z => (simp only [List.length_cons, List.length_nil, List.length_append]; lia)); k_whole); intro h' F' N'; (try k_sweep))
  k_with "call type:type" => ((with_reducible show wpAny _ _ (call _ [Value.bytes _ _]) _ _ _); refine call_type_of (Tx := "bytes") rfl (by decide +kernel) ?_)
  k_with "binaryOp BitAnd int int" => (k_here; first | ((with_reducible show wpAny _ _ (binaryOp _ (Value.int _ _) (Value.int 65535 _)) _ _ _); refine and_mask 16 rfl ?_; intro _) | ((with_reducible show wpAny _ _ (binaryOp _ (Value.int _ _) (Value.int 63 _)) _ _ _); refine and_mask 6 rfl ?_; intro _) | ((with_reducible show wpAny _ _ (binaryOp _ (Value.int _ _) (Value.int 15 _)) _ _ _); refine and_mask 4 rfl ?_; intro _) | ((with_reducible show wpAny _ _ (binaryOp _ (Value.int _ _) (Value.int 3 _)) _ _ _); refine and_mask 2 rfl ?_; intro _))
  k_with "binaryOp LShift int int" => (k_here; first | (refine shl_nat 8 (by decide) (by decide) ?a ?_; (case a => lia); intro _) | (refine shl_nat 4 (by decide) (by decide) ?a ?_; (case a => lia); intro _) | (refine shl_nat 2 (by decide) (by decide) ?a ?_; (case a => lia); intro _))
  k_with "call type:bytes" => (refine Mine.hold ?_)
  k_with "binaryOp BitOr int int" => (k_here; refine or_byte ?a ?b ?_; (case a => with_reducible assumption); (case b => with_reducible assumption); intro _)
  k_with "binaryOp RShift int int" => (k_here; first | (refine shr_nat 2 (by decide) ?_; intro _) | (refine shr_nat 4 (by decide) ?_; intro _) | (refine shr_nat 6 (by decide) ?_; intro _) | (refine shr_nat 0 (by decide) ?_; intro _))
  k_with "subscriptTail" => (k_here; (with_reducible show wpAny _ _ (subscriptTail _ _ (Value.bytes _ _) (Value.int _ _)) _ _ _); k_dflt (refine b64_sub ?a ?b ?c ?_; (case a => rfl); (case b => lia); (case c => lia)); intro _)
  k_with "pyIter bytes" => (refine Mine.hold ?_)
  revert X; k_fill; intro X
  refine wpAny_call ?_
  k_dflt (refine' callX_ext B F X N T ?kA ?kF ?kK ?k6 ?k7 ?k8 ?k9 ?kB ?_ ?c2 ?c3 ?c4 ?c5; (case kA => exact rfl); (case kF => exact rfl); (case kK => assumption); (case k6 => k_is); (case k7 => k_is); (case k8 => ktr_room); (case k9 => first | exact BindsTo.of_eq rfl | exact binds_K (by k_in) rfl (by k_is) rfl rfl rfl); (case c5 => decide); (case kB => exact locs rfl); (case c2 => exact rfl); (case c3 => exact rfl); (case c4 => exact rfl); k_whole)
  intro g' L' h' FG' F' N' B' X' T' hg' hL'
  (try dsimp only); (try k_fold)
  k_steps
  refine unhold ?_
  rename Fr _ _ _ _ => lF
  rename News _ _ _ _ => lN
  rename ∀ p ∈ news, p.1 < _ => lL
  refine' my_bytes (σ := B4) (fun c => [(Str.ofString "leftchar", .int c.lc c.tl), (Str.ofString "leftbits", .int c.lb c.tb)]) (fun c => [(_, W.listOf c.vs.toArray c.n)]) [] (fun i c => B4Inv (KBw.bInts arr) i c) (B4.mk [] 0 0 _ 0 _) (by rfl) lF lN ?ho ?hk ?hi ?turn ?done
  case ho => exact off_one (fun p hp => Nat.ne_of_lt (lL p hp))
  case hk =>
    refine List.forall_mem_cons.mpr ⟨?_, List.forall_mem_cons.mpr ⟨?_, List.forall_mem_nil _⟩⟩
    all_goals (dsimp only; (repeat rw [if_neg (by decide)]); first | done | (rw [if_pos rfl]) | skip)
    all_goals (try exact rfl)
  case hi => exact ⟨.nil, rfl, rfl⟩
  case turn =>
    intro i k t2 c u h9 tk9 own hik hk0 hk1 hI hoff hrest F9 N9
    clear lF lN
    obtain ⟨vs, n, lc, tl, lb, tb⟩ := c
    have hmk : OwnMark own := ⟨⟩
    have hoff9 := of_off_one hoff
    clear hoff
    simp only [List.cons_append, List.nil_append] at N9 hrest
    obtain ⟨hout, hlc, hlb⟩ := hI
    dsimp only at F9 N9 hout hlc hlb
    have hlc0 : 0 ≤ lc := by lia
    have hlc1 : lc < 65536 := by lia
    have hisz : i < arr.size := by rw [← KBw.ints_length]; exact (List.getElem?_eq_some_iff.mp hik).1
    have hvl : vs.length ≤ 1000 := by
      have := hout.length
      rw [outTo_len] at this
      lia
    rcases lb_cases i with ⟨m1, m2, m3⟩ | ⟨m1, m2, m3⟩ | ⟨m1, m2, m3⟩
    · rw [m2] at hlb
      replace hlb : lb = 0 := hlb
      subst hlb
      k_steps
      refine unhold ?_
      (with_reducible rename Fr _ _ _ _ => eF)
      (with_reducible rename News _ _ _ _ => eN)
      refine' lpost_next (B4.mk _ _ _ _ _ _) eF eN (led_one (by k_mem)) (fun _ h => .tail _ h) (off_one hoff9) ?ek ?ez ?ei
      case ek =>
        refine List.forall_mem_cons.mpr ⟨?_, List.forall_mem_cons.mpr ⟨?_, List.forall_mem_nil _⟩⟩
        all_goals (dsimp only; (repeat rw [if_neg (by decide)]); first | done | (rw [if_pos rfl]) | skip)
        all_goals (try exact rfl)
      case ez =>
        intro z z1 z2 z3
        simp only [List.forall_mem_cons] at z2
        obtain ⟨y1, y2, -⟩ := z2
        simp only [kstB, z1, y1, y2, z3, if_false, Bool.false_eq_true]
      case ei => exact ⟨b4_one hik hk0 hk1 hlc hout (by lia) m3.symm, b4_lc hik hlc, by (rw [m3]; try rfl)⟩
    · rw [m2] at hlb
      replace hlb : lb = 2 := hlb
      subst hlb
      k_steps
      refine unhold ?_
      (with_reducible rename Fr _ _ _ _ => eF)
      (with_reducible rename News _ _ _ _ => eN)
      refine' lpost_next (B4.mk _ _ _ _ _ _) eF eN (led_one (by k_mem)) (fun _ h => .tail _ h) (off_one hoff9) ?ek ?ez ?ei
      case ek =>
        refine List.forall_mem_cons.mpr ⟨?_, List.forall_mem_cons.mpr ⟨?_, List.forall_mem_nil _⟩⟩
        all_goals (dsimp only; (repeat rw [if_neg (by decide)]); first | done | (rw [if_pos rfl]) | skip)
        all_goals (try exact rfl)
      case ez =>
        intro z z1 z2 z3
        simp only [List.forall_mem_cons] at z2
        obtain ⟨y1, y2, -⟩ := z2
        simp only [kstB, z1, y1, y2, z3, if_false, Bool.false_eq_true]
      case ei => exact ⟨b4_one hik hk0 hk1 hlc hout (by lia) m3.symm, b4_lc hik hlc, by (rw [m3]; try rfl)⟩
    · rw [m2] at hlb
      replace hlb : lb = 4 := hlb
      subst hlb
      k_steps
      refine unhold ?_
      (with_reducible rename Fr _ _ _ _ => eF)
      (with_reducible rename News _ _ _ _ => eN)
      refine' lpost_next (B4.mk _ _ _ _ _ _) eF eN (led_one (by k_mem)) (fun _ h => .tail _ h) (off_one hoff9) ?ek ?ez ?ei
      case ek =>
        refine List.forall_mem_cons.mpr ⟨?_, List.forall_mem_cons.mpr ⟨?_, List.forall_mem_nil _⟩⟩
        all_goals (dsimp only; (repeat rw [if_neg (by decide)]); first | done | (rw [if_pos rfl]) | skip)
        all_goals (try exact rfl)
      case ez =>
        intro z z1 z2 z3
        simp only [List.forall_mem_cons] at z2
        obtain ⟨y1, y2, -⟩ := z2
        simp only [kstB, z1, y1, y2, z3, if_false, Bool.false_eq_true]
      case ei => exact ⟨b4_two hik hk0 hk1 hlc hout m1, b4_lc hik hlc, by (rw [m3]; try rfl)⟩
  case done =>
    intro c u h9 tk9 hI hoff F9 N9
    clear lF lN
    obtain ⟨vs, n, lc, tl, lb, tb⟩ := c
    obtain ⟨hout, hlc, hlb⟩ := hI
    dsimp only at F9 N9 hout hlc hlb
    simp only [List.cons_append, List.nil_append] at N9
    have hlc0 : 0 ≤ lc := by lia
    have hlc1 : lc < 65536 := by lia
    have hvl : vs.length ≤ 1000 := by
      have := hout.length
      rw [outTo_len] at this
      lia
    rw [← KBw.ints_length] at hout hlc hlb
    rcases lb_cases (KBw.bInts arr).length with ⟨m1, m2, m3⟩ | ⟨m1, m2, m3⟩ | ⟨m1, m2, m3⟩
    · rw [m2] at hlb
      replace hlb : lb = 0 := hlb
      subst hlb
      have hfin := fin0 hout m1
      k_steps
      refine unhold ?_
      refine' bytes_L ?k1 ?k2 rfl ?a (hfin) (b64L_in _) (b64L_len _ (by rw [KBw.ints_length]; lia)) ?_
      case k1 => k_asm
      case k2 => k_asm
      case a => k_mem
      intro h' t' k' F' N'
      k_steps
      (with_reducible rename Fr h₀ L _ m => kF)
      (with_reducible rename News h₀ L _ _ => kN)
      exact hret _ _ _ kF (fun p hp => kN p (by first | exact hp | exact .tail _ hp))
    · rw [m2] at hlb
      replace hlb : lb = 2 := hlb
      subst hlb
      have hfin := fun t1 t2 t3 => fin1 (t1 := t1) (t2 := t2) (t3 := t3) hout hlc m1
      k_steps
      refine unhold ?_
      refine' bytes_L ?k1 ?k2 rfl ?a (hfin _ _ _) (b64L_in _) (b64L_len _ (by rw [KBw.ints_length]; lia)) ?_
      case k1 => k_asm
      case k2 => k_asm
      case a => k_mem
      intro h' t' k' F' N'
      k_steps
      (with_reducible rename Fr h₀ L _ m => kF)
      (with_reducible rename News h₀ L _ _ => kN)
      exact hret _ _ _ kF (fun p hp => kN p (by first | exact hp | exact .tail _ hp))
    · rw [m2] at hlb
      replace hlb : lb = 4 := hlb
      subst hlb
      have hfin := fun t1 t2 => fin2 (t1 := t1) (t2 := t2) hout hlc m1
      k_steps
      refine unhold ?_
      refine' bytes_L ?k1 ?k2 rfl ?a (hfin _ _) (b64L_in _) (b64L_len _ (by rw [KBw.ints_length]; lia)) ?_
      case k1 => k_asm
      case k2 => k_asm
      case a => k_mem
      intro h' t' k' F' N'
      k_steps
      (with_reducible rename Fr h₀ L _ m => kF)
      (with_reducible rename News h₀ L _ _ => kN)
      exact hret _ _ _ kF (fun p hp => kN p (by first | exact hp | exact .tail _ hp))
  k_with_none
end Mine

end TLawB64
section TLawTry
open PySem PySem.W PyProof.Rows PySem.Calls
set_option Elab.async false
set_option maxRecDepth 100000
namespace Mine
structure Exc (G h' : Heap) (e : Addr) (c : Value) : Prop where
  keeps : ∀ b o, G.get? b = some o → h'.get? b = some o
  new : G.get? e = none
  there : ∃ ob t, h'.get? e = some ob ∧ ob.cls = .type "IndexError" ∧ ob.data = .fields #[t, .none, c, .none, .bool false, .none]
theorem Exc.of {G h' : Heap} {e : Addr} (x : Heap.NewExc G h' e "IndexError") : Exc G h' e .none := ⟨x.keeps, x.new, x.there⟩
structure Seen (B h' : Heap) (l : List Env) (e T : Addr) (oe : Obj) (t c fl : Value) : Prop where
  stays : B.StaysIn h'
  fresh : B.get? e = none
  frames : h'.FunFrames B l
  exc : h'.get? e = some oe
  cls : oe.cls = .type "IndexError"
  data : oe.data = .fields #[t, .ref T, c, .none, .bool false, .none]
  freshT : B.get? T = none
  ne : T ≠ e
  trace : ∃ oT ts, h'.get? T = some oT ∧ oT.data = .fields ts ∧ ts[3]? = some fl
theorem Seen.traced {B h' : Heap} {l : List Env} {e T : Addr} {oe : Obj} {t c fl : Value} (x : Seen B h' l e T oe t c fl) : h'.TracedAtW B e (.type "IndexError") t fl := by
  obtain ⟨oT, ts, hT, hd, h3⟩ := x.trace
  exact ⟨oe, _, T, oT, ts, x.exc, ⟨x.cls, rfl⟩, x.data, rfl, x.freshT, x.ne, hT, hd, h3⟩
section
variable {M : Model} {A : Around} {E : Value → Shared → Prop} {s : Shared}
theorem note_new {B : Heap} {env : Env} {outer : List Env} {L e : Addr} {oe : Obj} {t c : Value} {Q : Unit → Shared → Prop}
    (hfr : A.frames = some (env :: outer)) (hl : s.heap.FunFrames B (env :: outer)) (hf : env.frame = some L)
    (he : s.heap.get? e = some oe) (hc : oe.cls = .type "IndexError") (hkb : B.StaysIn s.heap) (hen : B.get? e = none) (hd : oe.data = .fields #[t, .none, c, .none, .bool false, .none])
    (h : ∀ h' T oe', Seen B h' (env :: outer) e T oe' t c (rawInt L) → s.heap.UpToSlots h' → Q () { s with heap := h' }) :
    wpAny M A (noteFrame (.ref e) env) Q E s := by
  unfold noteFrame
  simp only [hf]
  refine wpAny_bind (wpAny_field he hd (x := .none) rfl ?_)
  rw [if_neg (by decide)]
  have hene : e ∉ (env :: outer).filterMap (·.frame) := fun hm => by
    obtain ⟨_, o, ho, hnf⟩ := hl.mem hm
    rw [he] at ho; cases ho
    exact hnf _ hd
  refine wpAny_bind (wpAny_frameOf_fun hfr hl hf fun h₁ hs₁ => ?_)
  refine wpAny_bind (wpAny_entryPlaceOf fun pl hpl => ?_)
  unfold EntryCells.newEntry newFields
  refine wpAny_bind (wpAny_newObj_type ?_ (hpl.sizeOk5 _ _ _ _ _))
  have he₁ : h₁.get? e = some oe := (hs₁.2.1 e hene).trans he
  have kb₁ : B.StaysIn h₁ := fun b o hbo => (hs₁.2.1 b fun hm => by rw [(hl.mem hm).1] at hbo; cases hbo).trans (hkb b o hbo)
  generalize hpo : ({ cls := Value.type "traceback", dict := none, data := Data.fields ([Value.none, .ref L, .none, rawInt L, .none] ++ (if pl.isEmpty then List.replicate 6 Value.none else pl)).toArray } : Obj) = po
  have he₂ := Heap.get?_push_of_some (h := h₁) po he₁
  have hpd : po.data = Data.fields ([Value.none, .ref L, .none, rawInt L, .none] ++ (if pl.isEmpty then List.replicate 6 Value.none else pl)).toArray := by rw [← hpo]
  have hpf : po.isFreed = false := Obj.isFreed_of_fields hpd
  refine wpAny_setField he₂ hd (show 1 < 6 by decide) (h _ h₁.objs.size (Obj.mapFields (·.setIfInBounds 1 (Value.ref h₁.objs.size)) oe) ?_ ?_)
  · have hTe : h₁.objs.size ≠ e := Nat.ne_of_gt (Heap.lt_size he₁)
    have hd₃ := Obj.data_mapFields hd (·.setIfInBounds 1 (Value.ref h₁.objs.size))
    have he₃ := Heap.get?_update_self (Obj.mapFields (·.setIfInBounds 1 (Value.ref h₁.objs.size))) he₂ (Obj.isFreed_of_fields hd₃)
    have hT₃ := (Heap.get?_update_other (h₁.push po) (Obj.mapFields (·.setIfInBounds 1 (Value.ref h₁.objs.size))) (Ne.symm hTe)).trans (Heap.get?_push_size h₁ hpf)
    have keep : ∀ b o, b ≠ e → h₁.get? b = some o → ((h₁.push po).update e (Obj.mapFields (·.setIfInBounds 1 (Value.ref h₁.objs.size)))).get? b = some o := fun b o hbe hb => by
      rw [Heap.get?_update_other _ _ (Ne.symm hbe)]
      exact Heap.get?_push_of_some _ hb
    refine ⟨fun b o hbo => keep b o (fun q => by rw [q, hen] at hbo; cases hbo) (kb₁ b o hbo), hen, hl.of_keeps fun b o hb hnf => ?_, he₃, (Obj.cls_mapFields _ _).trans hc, ?_, kb₁.fresh, hTe, po, _, hT₃, hpd, ?_⟩
    · obtain ⟨sl, hs⟩ := hs₁.2.2 b o hb
      exact ⟨_, keep b _ (fun q => by rw [q, he] at hb; cases hb; exact hnf _ hd) hs, rfl⟩
    · rw [hd₃]; rfl
    · rcases hpl with rfl | ⟨_, _, _, _, _, _, _, rfl⟩ <;> simp
  · intro b o hb hnf
    have hbe : b ≠ e := fun q => by rw [q, he] at hb; cases hb; exact hnf _ hd
    obtain ⟨sl, hs⟩ := hs₁.2.2 b o hb
    refine ⟨sl, ?_⟩
    rw [Heap.get?_update_other _ _ (Ne.symm hbe)]
    exact Heap.get?_push_of_some _ hs
theorem land_seen {B : Heap} {l : List Env} {e T : Addr} {oe : Obj} {t c fl : Value} {Q : Unit → Shared → Prop} (x : Seen B s.heap l e T oe t c fl)
    (h : ∀ h', Seen B h' l e T oe t c .none → s.heap.UpToSlots h' → Q () { s with heap := h' }) : wpAny M A (setFlight (.ref e) none) Q E s := by
  obtain ⟨x1, x2, x3, x4, x5, x6, x7, x8, oT, ts, hT, hdT, h3⟩ := x
  have hsz3 : 3 < ts.size := (Array.getElem?_eq_some_iff.mp h3).1
  have other : ∀ b, b ≠ T → (s.heap.update T (Obj.mapFields (·.setIfInBounds 3 Value.none))).get? b = s.heap.get? b := fun b hb => Heap.get?_update_other _ _ (Ne.symm hb)
  have noRecord : ∀ b o, s.heap.get? b = some o → (∀ vs, o.data ≠ .fields vs) → b ≠ T := fun b o hb hnf q => by
    rw [q, hT] at hb; cases hb; exact hnf ts hdT
  unfold setFlight
  refine wpAny_bind (wpAny_field x4 x6 (x := .ref T) rfl ?_)
  rw [if_pos (show (Value.ref T != Value.none) = true from by simp)]
  refine wpAny_setField hT hdT hsz3 (h _ ⟨fun b o hbo => (other b fun q => by rw [q, x7] at hbo; cases hbo).trans (x1 b o hbo), x2,
    x3.of_keeps fun b o hb hnf => ⟨o, (other b (noRecord b o hb hnf)).trans hb, rfl⟩, (other e (Ne.symm x8)).trans x4, x5, x6, x7, x8,
    _, _, Heap.get?_update_self _ hT (Obj.isFreed_of_fields (Obj.data_mapFields hdT _)), Obj.data_mapFields hdT _, by simp [hsz3]⟩ fun b o hb hnf => ⟨o.slots, (other b (noRecord b o hb hnf)).trans hb⟩)
end
section
variable {prog : Program} {w : World} {A₀ : Around} {E : Value → Shared → Prop} {s' : Shared} {base g g₀ G : Heap} {outer : List Env} {L a e : Addr} {m : Str → Option Value} {name : Str} {scope : Scope} {cd : Value}
  {b₀ : Stmt} {suite : List Stmt} {pos np : Pos} {rest : List ExceptHandler} {news : List (Addr × Obj)} {KF : Frag} {p : Program} {loose : List Str} {mean : ExcName → Option Value} {mg mb : Str → Option Value} {c : Value}
theorem hide_facts (K : Below A₀ base outer g) (F : Fr g L G m) (hk : scope.kind = .function) :
    (∀ b o, G.get? b = some o → b ∉ (envOf name scope L a cd :: outer).filterMap (·.frame) → (hideAll G ((envOf name scope L a cd :: outer).filterMap (·.frame))).get? b = some o) ∧
      ∀ h' : Heap, (∀ b o, G.get? b = some o → h'.get? b = some o) → h'.FunFrames (hideAll G ((envOf name scope L a cd :: outer).filterMap (·.frame))) (envOf name scope L a cd :: outer) := by
  refine ⟨fun b o q nm => hideAll_get _ q nm, fun h' hh => ?_⟩
  exact (funFrames_hide (K.push (name := name) (a := a) (cd := cd) F hk).frames fun env he b hb => List.mem_filterMap.mpr ⟨env, he, hb⟩).of_keeps fun b o hb _ => ⟨o, hh b o hb, rfl⟩
theorem hide_none {h : Heap} {l : List Addr} {b : Addr} (hb : h.get? b = none) : (hideAll h l).get? b = none := by
  cases q : (hideAll h l).get? b with
  | none => rfl
  | some o => have := of_hideAll _ q; rw [hb] at this; cases this
theorem look_new {Q : Unit → Shared → Prop} (K : Below A₀ base outer g) (F : Fr g L G m) (hx : Exc G s'.heap e c) (hk : scope.kind = .function)
    (h : ∀ (h' : Heap) T oe t, Seen (hideAll G ((envOf name scope L a cd :: outer).filterMap (·.frame))) h' (envOf name scope L a cd :: outer) e T oe t c (rawInt L) → G.UpToSlots h' → Q () { s' with heap := h' }) :
    wpAny (model prog w) (A₀.deeper (envOf name scope L a cd)) (noteFrame (.ref e) (envOf name scope L a cd)) Q E s' := by
  obtain ⟨ob, t, he, hcl, hd⟩ := hx.there
  obtain ⟨sg, ff⟩ := hide_facts (name := name) (scope := scope) (a := a) (cd := cd) K F hk
  refine note_new (Around.frames_deeper K.stack) (ff _ hx.keeps) rfl he hcl (fun b o q => hx.keeps b o (of_hideAll _ q)) (hide_none hx.new) hd fun h' T oe' S U => ?_
  exact h h' T oe' t S ((Heap.UpToSlots.of_keeps hx.keeps).trans U)
theorem caught_ix {Q : Flow → Shared → Prop} (K : Below A₀ base outer g) (F : Fr g L G m) (N : News g L G news) (hx : Exc G s'.heap e c) (XB : KF.In base) (TB : Top p loose mean mg mb base)
    (T0 : KtsTurn (outer.filterMap (·.frame)) g₀ g) (ex : nsIn KF mainGlobals ("IndexError" : Str) = some none)
    (k : ∀ h' g', KtsTurn (outer.filterMap (·.frame)) g₀ g' → Fr g' L h' m → News g' L h' news → Below A₀ base outer g' → KF.In g' → Top p loose mean mg mb g' →
      wpAny (model prog w) ((A₀.deeper (envOf name scope L a cd)).mark (some (.ref e))) (execs (b₀ :: suite) (envOf name scope L a cd)) Q E { s' with heap := h' })
    (hk : scope.kind = .function) (hx' : (envOf name scope L a cd).kindOf ("IndexError" : Str) = some .globalImplicit)
    (hE : PassesOwnAt (model prog w) ((A₀.deeper (envOf name scope L a cd)).mark (some (.ref e))) (A₀.deeper (envOf name scope L a cd)) (envOf name scope L a cd) E := by passes_own) :
    wpAny (model prog w) (A₀.deeper (envOf name scope L a cd)) (noteFrame (.ref e) (envOf name scope L a cd))
      (fun _ s₂ => wpAny (model prog w) (A₀.deeper (envOf name scope L a cd)) (setFlight (.ref e) none) (fun _ s₃ =>
        wpAny (model prog w) (A₀.deeper (envOf name scope L a cd)) (handleBy (.ref e) (envOf name scope L a cd) (.ExceptHandler (some (.Name ("IndexError" : Str) np)) none (b₀ :: suite) pos :: rest)) Q E s₃) E s₂) E s' := by
  have hBG := (hide_facts (name := name) (scope := scope) (a := a) (cd := cd) K F hk).1
  refine look_new K F hx hk fun h₄ T oe t S₄ U₄ => ?_
  refine land_seen S₄ fun h₅ S₅ U₅ => ?_
  obtain ⟨g₅, T₅, F₅, K₅⟩ := kts_ground K F hBG S₅.stays (U₄.trans U₅)
  have X₅ : KF.In g₅ := XB.keeps K₅.stays
  have P₅ : TopRead p loose mg mb g₅ := topRead_of (TB.keeps K₅.stays)
  refine wpAny_handleBy_builtin (X := "IndexError") (T := "IndexError") (b := true) PySem.F.isExc_IndexError PySem.F.notTuple_IndexError (by rw [isSubtype_type]; kernel_rfl)
    (name_B F₅ X₅ P₅ ex PyProof.Rows.Boot.«IndexError» (by decide) ⟨rfl, ⟨oe, S₅.exc, S₅.cls⟩, ?_⟩ hk hx' (by decide))
  refine land_seen S₅ fun h₆ S₆ U₆ => ?_
  obtain ⟨g₆, T₆, F₆, K₆⟩ := kts_ground K F hBG S₆.stays ((U₄.trans U₅).trans U₆)
  refine wpAny_passesOwnAt hE (k h₆ g₆ (T0.trans T₆) F₆ (fun q hq => ?_) K₆ (XB.keeps K₆.stays) (TB.keeps K₆.stays))
  have hq1 := N q hq
  have hnm : q.1 ∉ (envOf name scope L a cd :: outer).filterMap (·.frame) := fun hm => by
    rcases kts_mem hm with z | z
    · exact hq1.2.1 z
    · obtain ⟨_, o', ho', _⟩ := K.frames.mem z
      rw [hq1.2.2] at ho'; cases ho'
  exact ⟨S₆.stays _ _ (hBG _ _ hq1.1 hnm), hq1.2.1, T₆.none_ _ hq1.2.2⟩
open PySem in
theorem finally_ix {Q : Flow → Shared → Prop} {f₀ : Stmt} {fs : List Stmt} (K : Below A₀ base outer g) (F : Fr g L G m) (N : News g L G news) (hx : Exc G s'.heap e c) (XB : KF.In base) (TB : Top p loose mean mg mb base)
    (hk : scope.kind = .function)
    (k : ∀ h' g' oe t T, KtsTurn (outer.filterMap (·.frame)) g g' → Fr g' L h' m → oe.data = .fields #[t, .ref T, c, .none, .bool false, .none] → News g' L h' ((e, oe) :: news) → Below A₀ base outer g' → KF.In g' → Top p loose mean mg mb g' →
      wpAny (model prog w) ((A₀.deeper (envOf name scope L a cd)).mark (some (.ref e))) (execs (f₀ :: fs) (envOf name scope L a cd))
        (fun g s₂ => match g with | .next => wpAny (model prog w) (A₀.deeper (envOf name scope L a cd)) (passOn "try.finally" (.ref e) (envOf name scope L a cd)) Q E s₂ | g => wpAny (model prog w) (A₀.deeper (envOf name scope L a cd)) (setFlight (.ref e) none) (fun _ s₃ => Q g s₃) E s₂)
        E { s' with heap := h' })
    (hE : PassesOwnAt (model prog w) ((A₀.deeper (envOf name scope L a cd)).mark (some (.ref e))) (A₀.deeper (envOf name scope L a cd)) (envOf name scope L a cd) E := by passes_own) :
    wpAny (model prog w) (A₀.deeper (envOf name scope L a cd)) (noteFrame (.ref e) (envOf name scope L a cd))
      (fun _ s₂ => FinallyRaised prog w (A₀.deeper (envOf name scope L a cd)) E (envOf name scope L a cd) (f₀ :: fs) Q (.ref e) s₂)
      (FinallyRaised prog w (A₀.deeper (envOf name scope L a cd)) E (envOf name scope L a cd) (f₀ :: fs) Q) s' := by
  have hBG := (hide_facts (name := name) (scope := scope) (a := a) (cd := cd) K F hk).1
  refine look_new K F hx hk fun h₄ T oe t S₄ U₄ => ⟨ref_ne_byPass _, ?_⟩
  refine wpAny_noteFrame_againW (L := L) rfl S₄.traced ?_
  refine land_seen S₄ fun h₅ S₅ U₅ => ?_
  obtain ⟨g₅, T₅, F₅, K₅⟩ := kts_ground K F hBG S₅.stays (U₄.trans U₅)
  have hnm : ∀ b, b ≠ L → g.get? b = none → b ∉ (envOf name scope L a cd :: outer).filterMap (·.frame) := fun b h1 h2 hm => by
    rcases kts_mem hm with z | z
    · exact h1 z
    · obtain ⟨_, o', ho', _⟩ := K.frames.mem z
      rw [h2] at ho'; cases ho'
  have hge : g.get? e = none := kts_none F.keep hx.new
  have heL : e ≠ L := fun q => by
    obtain ⟨oL, _, _, hL, _⟩ := F.ns
    have := hx.new
    rw [q, hL] at this; cases this
  refine wpAny_passesOwnAt hE (k h₅ g₅ oe t T T₅ F₅ S₅.data (fun q hq => ?_) K₅ (XB.keeps K₅.stays) (TB.keeps K₅.stays))
  rcases List.mem_cons.mp hq with rfl | hq
  · exact ⟨S₅.exc, heL, T₅.none_ _ hge⟩
  · have hq1 := N q hq
    exact ⟨S₅.stays _ _ (hBG _ _ hq1.1 (hnm _ hq1.2.1 hq1.2.2)), hq1.2.1, T₅.none_ _ hq1.2.2⟩
end
section
variable {prog : Program} {w : World} {A : Around} {E : Value → Shared → Prop} {s : Shared}
theorem entry_unchain : entryFor table "proto.unchain" = some Builtin.«proto.unchain» := by first | exact entryFor_of_fast (by kernel_rfl) | exact entryFor_of_tree (by kernel_rfl)
theorem raiseNew_under {α : Type} {Q : α → Shared → Prop} {e e1 : Addr} {o1 oe : Obj} {t1 T1 : Value} {vs : Array Value} (hh : A.handled = some (.ref e1)) (h1 : s.heap.get? e1 = some o1) (hd1 : o1.data = .fields #[t1, T1, .none, .none, .bool false, .none])
    (he : s.heap.get? e = some oe) (hd : oe.data = .fields vs) (hsz : 2 < vs.size) (hne : e1 ≠ e)
    (h : E (.ref e) { s with heap := s.heap.update e (Obj.mapFields (·.setIfInBounds 2 (.ref e1))) }) : wpAny (model prog w) A (raiseNew (.ref e) : Sem α) Q E s := by
  unfold raiseNew
  refine wpAny_bind (wpAny_handled ?_)
  rw [hh]
  dsimp only
  have hb : (Value.ref e1 != Value.ref e) = true := by
    simp only [bne_iff_ne, ne_eq, Value.ref.injEq]
    exact hne
  rw [if_pos hb]
  refine wpAny_bind (wpAny_holding (wpAny_runValue (codeAny_builtin entry_unchain ?_)))
  show wpAny _ _ (field (.ref e1) 2 >>= _) _ _ s
  refine wpAny_bind (wpAny_field h1 hd1 (x := .none) rfl ?_)
  rw [if_pos (by decide)]
  refine wpAny_bind (wpAny_pure (wpAny_pure ?_))
  show wpAny _ _ (setField (.ref e) 2 (.ref e1) >>= fun _ => throw (Value.ref e)) _ _ s
  exact wpAny_bind (wpAny_setField he hd hsz (wpAny_throw h))
theorem raise_under {α : Type} {msg : String} {Q : α → Shared → Prop} {e1 : Addr} {o1 : Obj} {t1 T1 : Value} (hh : A.handled = some (.ref e1)) (h1 : s.heap.get? e1 = some o1) (hd1 : o1.data = .fields #[t1, T1, .none, .none, .bool false, .none])
    (h : ∀ h' tk e, Exc s.heap h' e (.ref e1) → E (.ref e) { s with heap := h', toks := tk }) :
    wpAny (model prog w) A (raiseErrorWords "IndexError" msg : Sem α) Q E s := by
  unfold raiseErrorWords
  refine wpAny_bind (wpAny_mkText (wpAny_bind ?_))
  unfold newExc newTuple
  refine wpAny_bind (wpAny_newObj_type ?_)
  refine wpAny_bind (m := firstArgMember _ _) (wpAny_of_eq (a := Value.none) (by simp only [firstArgMember, plainExc_IndexError.first]; rfl) ?_)
  rw [plainExc_IndexError.own]
  refine wpAny_newObj_type ?_
  have k1 := Heap.get?_push_of_some { cls := Value.type "tuple", data := Data.seq #[Value.str (Str.ofString msg) s.toks] } h1
  have k2 := Heap.get?_push_of_some { cls := Value.type "IndexError", data := .fields (#[Value.ref s.heap.objs.size, .none, .none, .none, .bool false, .none] ++ #[]) } k1
  refine raiseNew_under hh k2 hd1 (Heap.get?_push_size _ rfl) rfl (show 2 < 6 by decide) (Nat.ne_of_lt (Heap.lt_size k1)) ?_
  have ne2 : ∀ b o, s.heap.get? b = some o → b ≠ (s.heap.push { cls := Value.type "tuple", data := Data.seq #[Value.str (Str.ofString msg) s.toks] }).objs.size := fun b o hb =>
    Nat.ne_of_lt (Heap.lt_size (Heap.get?_push_of_some _ hb))
  have he2 := Heap.get?_push_size (s.heap.push { cls := Value.type "tuple", data := Data.seq #[Value.str (Str.ofString msg) s.toks] }) (o := { cls := Value.type "IndexError", data := .fields (#[Value.ref s.heap.objs.size, .none, .none, .none, .bool false, .none] ++ #[]) }) rfl
  refine h _ _ _ ⟨fun b o hb => ?_, Heap.get?_none_of_le (by simp), _, .ref s.heap.objs.size, Heap.get?_update_self _ he2 rfl, rfl, rfl⟩
  exact (Heap.get?_update_other _ _ (Ne.symm (ne2 b o hb))).trans (Heap.get?_push_of_some _ (Heap.get?_push_of_some _ hb))
theorem getItem_under {l : Addr} {items : Array Value} {z : Int} {t : Tok} {Q : Value → Shared → Prop} {e1 : Addr} {o1 : Obj} {t1 T1 : Value} (hh : A.handled = some (.ref e1)) (h1 : s.heap.get? e1 = some o1) (hd1 : o1.data = .fields #[t1, T1, .none, .none, .bool false, .none])
    (hl : s.heap.IsList l items) (hk : (items.size : Int) ≤ z) (hfit : Builtin.List.listFitsIndex z = true)
    (h : ∀ h' tk e, Exc s.heap h' e (.ref e1) → E (.ref e) { s with heap := h', toks := tk }) : wpAny (model prog w) A (getItem (.ref l) (.int z t)) Q E s := by
  obtain ⟨o, ho, hc, ne, hd⟩ := id hl
  unfold getItem
  try with_reducible refine wpAny_holding ?_
  first | refine wpAny_bind (wpAny_pure ?_) | skip
  refine wpAny_bind (wpAny_sequenceKey hl.typeIs (by decide) ?_)
  refine wpAny_bind (wpAny_callSpecial?_slot (name := Str.ofString "__getitem__") hl.typeIs slot_list_getitem
    (wpAny_call_entry slot_list_getitem hl.typeIs entry_list_getitem ?_ (args_list_getitem _ _)))
  show wpAny _ _ (Builtin.List.listSubscript? (.int z t) >>= _) _ _ s
  refine wpAny_bind (wpAny_listSubscript_int hfit ?_)
  clear hfit
  cases z with
  | negSucc j => exact absurd hk (by have := Int.negSucc_lt_zero j; lia)
  | ofNat j =>
    have hx : items[j]? = none := Array.getElem?_eq_none (by have : (items.size : Int) ≤ (j : Int) := hk; lia)
    show wpAny _ _ ((seqItemAt l j >>= fun r => pure (r.map (j, ·))) >>= _) _ _ s
    refine wpAny_bind (wpAny_bind (wpAny_seqItemAt ho hd (wpAny_pure ?_)))
    rw [hx]
    first
      | exact wpAny_bind (wpAny_rule (raise_under hh h1 hd1 h))
      | exact wpAny_bind (wpAny_rule (wpAny_bind (raise_under hh h1 hd1 h)))
      | exact wpAny_bind (wpAny_bind (wpAny_rule (raise_under hh h1 hd1 h)))
      | exact wpAny_rule (raise_under hh h1 hd1 h)
theorem item_under {value slice : PySem.Expr} {l : Addr} {items : Array Value} {z : Int} {u : Tok} {Q : Value → Shared → Prop} {e1 : Addr} {o1 : Obj} {t1 T1 : Value} (hh : A.handled = some (.ref e1)) (h1 : s.heap.get? e1 = some o1) (hd1 : o1.data = .fields #[t1, T1, .none, .none, .bool false, .none])
    (hl : s.heap.IsList l items) (hk : (items.size : Int) ≤ z) (hhi : z < 1000000)
    (hE : ∀ h' tk e, Exc s.heap h' e (.ref e1) → E (.ref e) { s with heap := h', toks := tk })
    (hs : subscripted slice false (.ref l) (.int z u) = operate [.ref l, .int z u] (getItem (.ref l) (.int z u)) := by with_unfolding_all rfl) :
    wpAny (model prog w) A (subscriptTail value slice (.ref l) (.int z u)) Q E s :=
  tail_any hl.typeIs slot_list_getitem.lookup (getItem_under hh h1 hd1 hl hk (fitsIndex_both (by lia) (by lia)) hE) hs
theorem item_out {value slice : PySem.Expr} {l : Addr} {items : Array Value} {z : Int} {u : Tok} {Q : Value → Shared → Prop} (hh : A.handled = none)
    (hl : s.heap.IsList l items) (hk : (items.size : Int) ≤ z) (hhi : z < 1000000)
    (hE : ∀ h' tk e, Exc s.heap h' e .none → E (.ref e) { s with heap := h', toks := tk })
    (hs : subscripted slice false (.ref l) (.int z u) = operate [.ref l, .int z u] (getItem (.ref l) (.int z u)) := by with_unfolding_all rfl) :
    wpAny (model prog w) A (subscriptTail value slice (.ref l) (.int z u)) Q E s :=
  item_outK hh hl (.inr hk) (by lia) (by lia) (fun h' tk e x => hE h' tk e (Exc.of x)) hs
end
end Mine

end TLawTry
section TLawSldP
open PySem PySem.W PyProof.Rows PySem.Calls PySem.Spec
set_option Elab.async false
set_option maxRecDepth 100000
set_option maxHeartbeats 4000000
namespace Mine
theorem tokIn {vs : List Value} {ns : List Int} (h : IntsAre vs ns) : ∀ {k : Nat}, k < ns.length → ∃ t, vs[k]? = some (.int (ns.getD k 0) t) := by
  induction h with
  | nil => intro k hk; exact absurd hk (Nat.not_lt_zero _)
  | cons n t _ ih =>
    intro k hk
    cases k with
    | zero => exact ⟨t, rfl⟩
    | succ k => exact ih (Nat.lt_of_succ_lt_succ hk)
section
variable {prog : Program} {w : World} {A : Around} {E : Value → Shared → Prop} {s : Shared} {D L b : Addr} {h₀ : Heap} {m : Str → Option Value} {news news' : List (Addr × Obj)} {Q : Value → Shared → Prop}
theorem item_ints {value slice : PySem.Expr} {vs : List Value} {ns : List Int} {n : Nat} {z : Int} {u : Tok} (N : News h₀ L s.heap news) (hm : (D, W.listOf vs.toArray n) ∈ news) (hi : IntsAre vs ns) (h0 : 0 ≤ z) (h1 : z < ns.length) (hz : z < 1000000)
    (h : ∀ t, Q (.int (ns.getD z.toNat 0) t) s)
    (hs : subscripted slice false (.ref D) (.int z u) = operate [.ref D, .int z u] (getItem (.ref D) (.int z u)) := by with_unfolding_all rfl) :
    wpAny (model prog w) A (subscriptTail value slice (.ref D) (.int z u)) Q E s := by
  have hl := isList_N N hm
  obtain ⟨t, ht⟩ := tokIn hi (k := z.toNat) (by lia)
  exact tail_any hl.typeIs slot_list_getitem.lookup (wpAny_getItem_list hl h0 (by lia) (by rw [List.getElem?_toArray]; exact ht) (h t)) hs
theorem slice_from {value slice : PySem.Expr} {vs : List Value} {ns : List Int} {n : Nat} {x : Int} {u : Tok} (F : Fr h₀ L s.heap m) (N : News h₀ L s.heap news) (hm : (D, W.listOf vs.toArray n) ∈ news) (hi : IntsAre vs ns) (h0 : 0 ≤ x) (hlen : vs.length ≤ 100000)
    (h : ∀ D zs h', Fr h₀ L h' m → News h₀ L h' ((D, W.listOf (List.toArray zs) 0) :: news) → (∀ p ∈ news, p.1 < D) → IntsAre zs (ns.drop x.toNat) → Q (.ref D) { s with heap := h' })
    (hs : subscripted slice false (.ref D) (.ref s.heap.objs.size) = operate [.ref s.heap.objs.size, .ref D] (getItem (.ref D) (.ref s.heap.objs.size)) := by with_unfolding_all rfl) (ht : ∀ r, letTemporaryGo value (.ref D) r = pure () := by intro _; with_unfolding_all rfl) :
    wpAny (model prog w) A (subscriptTail value slice (.ref D) (.ref s.heap.objs.size)) Q E { s with heap := s.heap.push { cls := .type "slice", data := .fields #[.int x u, .none, .none] } } :=
  kmk_slice_ints F N (isList_N N hm) (.int _ _) .none hi (kmk_from hi h0) rfl (fun D ws h' F' N' l1 hi' _ _ => h D ws h' F' N' l1 hi') hs ht (by rw [List.size_toArray, sizeLine_eq]; lia)
theorem extend_nil {vs ws : List Value} {n n2 : Nat} (F : Fr h₀ L s.heap m) (N : News h₀ L s.heap news) (hb : (b, W.listOf ws.toArray n2) ∈ news) (hw : ws.length = 0)
    (U : Upd D (W.listOf vs.toArray n) (W.listOf vs.toArray n) news news') (hz : vs.length ≤ 100000)
    (h : ∀ h', Fr h₀ L h' m → News h₀ L h' news' → Q .none { s with heap := h' }) : wpAny (model prog w) A (call (.builtin "list.extend") [.ref D, .ref b]) Q E s := by
  obtain rfl := List.eq_nil_of_length_eq_zero hw
  obtain ⟨pre, post, e1, e2, a, c⟩ := U.split
  subst e1
  have z := N (D, W.listOf vs.toArray n) (List.mem_append.mpr (.inr (.head _)))
  have hd : ¬(!vs.toArray.isEmpty && Builtin.List.listTooLong (vs.toArray.size + (#[] : Array Value).size)) = true := by
    rw [List.size_toArray, tooLong_no (by simp; lia)]
    simp
  have hs1 : vs.toArray.size ≤ sizeLine := by rw [List.size_toArray, sizeLine_eq]; lia
  have hs2 : vs.toArray.size + (#[] : Array Value).size ≤ sizeLine + 1 := by rw [List.size_toArray, sizeLine_eq]; simp; lia
  have h' := h (s.heap.update D (Obj.mapSeq fun x => x ++ #[])) (F.change (Heap.SameBut.update ..) z.2.1 z.2.2)
  rw [e2] at h'
  refine call_meets PySem.F.slot_list_extend ⟨_, z.1, rfl⟩ PySem.F.entry_list_extend (PySem.F.args_list_extend_2 _ _) (PySem.AutoSeq1.list_extend_list_list_0 D vs.toArray n b #[] n2 hd hs1 hs2) ⟨z.1, (N _ hb).1, h' (kl_turn0 _ N a c ?_ ?_)⟩
  · simp
  · simp
theorem upd_split {o o' : Obj} {post : List (Addr × Obj)} : ∀ {pre : List (Addr × Obj)}, (∀ p ∈ pre, p.1 ≠ D) → (∀ p ∈ post, p.1 ≠ D) → Upd D o o' (pre ++ (D, o) :: post) (pre ++ (D, o') :: post)
  | [], _, h2 => .head h2
  | p :: _, h1, h2 => .tail (h1 p (.head _)) (upd_split (fun q hq => h1 q (.tail _ hq)) h2)
theorem extend_at {vs ws : List Value} {n n2 : Nat} {pre post : List (Addr × Obj)} (F : Fr h₀ L s.heap m) (N : News h₀ L s.heap (pre ++ (D, W.listOf vs.toArray n) :: post)) (hb : (b, W.listOf ws.toArray n2) ∈ pre ++ (D, W.listOf vs.toArray n) :: post)
    (h1 : ∀ p ∈ pre, p.1 ≠ D) (h2 : ∀ p ∈ post, p.1 ≠ D) (hz : vs.length + ws.length ≤ 100000)
    (h : ∀ h' n', Fr h₀ L h' m → News h₀ L h' (pre ++ (D, W.listOf (vs ++ ws).toArray n') :: post) → Q .none { s with heap := h' }) : wpAny (model prog w) A (call (.builtin "list.extend") [.ref D, .ref b]) Q E s := by
  by_cases hw : ws.length = 0
  · refine extend_nil F N hb hw (upd_split h1 h2) (by lia) fun h' F' N' => h h' n F' ?_
    rw [List.eq_nil_of_length_eq_zero hw, List.append_nil]
    exact N'
  · exact extend_L F N hb hw (upd_split h1 h2) hz fun h' F' N' => h h' (n + 1) F' N'
end
section
variable {prog : Program} {w : World} {A : Around} {E : Value → Shared → Prop} {s : Shared} {env : Env} {h₀ : Heap} {L : Addr} {Q : Flow → Shared → Prop}
noncomputable def Skip (h₀ : Heap) (L : Addr) (x : Str) (m : Str → Option Value) (news : List (Addr × Obj)) (C : Nat → Prop) (n k : Nat) (s : Shared) (f : Flow) (s₃ : Shared) : Prop :=
  f = .next ∧ k < n ∧ C k ∧ ∃ h tk m' t, s₃ = { s with heap := h, toks := tk } ∧ Fr h₀ L h m' ∧ News h₀ L h news ∧ m' x = some (.int ((k : Int) + 1) t) ∧ ∀ z, z ≠ x → m' z = m z
theorem skip_intro {x : Str} {m m' : Str → Option Value} {news news' : List (Addr × Obj)} {C : Nat → Prop} {n k tk : Nat} {h : Heap} {t : Tok} (hk : k < n) (hc : C k) (F : Fr h₀ L h m') (N : News h₀ L h news') (hs : ∀ p ∈ news, p ∈ news') (hx : m' x = some (.int ((k : Int) + 1) t)) (hz : ∀ z, z ≠ x → m' z = m z) :
    Skip h₀ L x m news C n k s .next { s with heap := h, toks := tk } := ⟨rfl, hk, hc, h, tk, m', t, rfl, F, fun p hp => N p (hs p hp), hx, hz⟩
theorem my_skip {x : Str} {test : Expr} {body : List Stmt} {pos : Pos} {m : Str → Option Value} {news : List (Addr × Obj)} (C : Nat → Prop) (n k₀ : Nat) {t₀ : Tok} (F : Fr h₀ L s.heap m) (N : News h₀ L s.heap news) (hx : m x = some (.int (k₀ : Int) t₀)) (hk : k₀ ≤ n)
    (turn : ∀ k t h tk m', k₀ ≤ k → k ≤ n → (∀ q, k₀ ≤ q → q < k → C q) → m' x = some (.int (k : Int) t) → (∀ z, z ≠ x → m' z = m z) → Fr h₀ L h m' → News h₀ L h news →
      wpAny (model prog w) A (isTrue test env (eval test env)) (fun b s₂ => if b then wpAny (model prog w) A (execs body env) (fun f s₃ => Skip h₀ L x m news C n k s f s₃) E s₂ else Q .next s₂) E { s with heap := h, toks := tk })
    (hE : PassesOwn (model prog w) A env E := by passes_own) :
    wpAny (model prog w) A (exec (.While test body [] pos) env) Q E s := by
  refine wpAny_While (codeAny_whileLoop (fun N' s' => ∃ k t h tk m', N' = n - k ∧ k₀ ≤ k ∧ k ≤ n ∧ (∀ q, k₀ ≤ q → q < k → C q) ∧ m' x = some (.int (k : Int) t) ∧ (∀ z, z ≠ x → m' z = m z) ∧ Fr h₀ L h m' ∧ News h₀ L h news ∧ s' = { s with heap := h, toks := tk }) ?_ (n - k₀) ⟨k₀, t₀, s.heap, s.toks, m, rfl, Nat.le_refl _, hk, fun q h1 h2 => absurd h1 (by lia), hx, fun _ _ => rfl, F, N, rfl⟩)
  rintro N' s' ⟨k, t, h, tk, m', rfl, h1, h2, h3, h4, h5, F', N'', rfl⟩
  refine wpAny_mono (turn k t h tk m' h1 h2 h3 h4 h5 F' N'') (fun b s₂ hb => ?_) hE
  cases b with
  | false =>
    simp only [Bool.false_eq_true, if_false] at hb ⊢
    exact wpAny_execs_nil hb
  | true =>
    simp only [if_true] at hb ⊢
    refine wpAny_mono hb (fun f s₃ hf => ?_) hE
    obtain ⟨rfl, hkn, hc, h', tk', m'', t', rfl, F3, N3, hx3, hz3⟩ := hf
    exact ⟨n - (k + 1), by lia, k + 1, t', h', tk', m'', rfl, by lia, by lia, fun q q1 q2 => by
      by_cases e : q = k
      · subst e; exact hc
      · exact h3 q q1 (by lia), by rw [hx3]; simp, hz3, F3, N3, rfl⟩
end
theorem callS_ext {prog : Program} {w : World} {A₀ A : Around} {s : Shared} {base h₀ : Heap} {L : Addr} {m : Str → Option Value} {env : Env} {news : List (Addr × Obj)}
    {R : Result → Shared → Prop} {name qual : Str} {params : Arguments} {body : List Stmt} {scope : Scope} {dV kV doc pm cdv ct oc : Value} {an od : Option Addr} {osl : Array (Option Value)} {f : Addr} {args : Args} {binds : List (Str × Value)} {K : Frag}
    {p : Program} {loose : List Str} {mean : ExcName → Option Value} {mg mb : Str → Option Value}
    (B : Below A₀ base [] h₀) (F : Fr h₀ L s.heap m) (X₀ : K.In h₀) (N : News h₀ L s.heap news) (T : Top p loose mean mg mb h₀) (hA : A.frames = some [env]) (hf : env.frame = some L) (hke : env.scope.kind = .function)
    (ho : K.lookup f = some ⟨oc, od, .func (fnOf name qual params body scope dV kV doc pm an cdv ct), osl⟩) (hcd : codeIn K cdv qual = true) (hroom : A.depth < recursionLimit)
    (hbind : BindsTo s (fnOf name qual params body scope dV kV doc pm an cdv ct) args binds) (hloc : ∀ y ∈ binds, scope.names.lookup y.1 = some .local)
    (h : ∀ g L' h₁, Fr h₀ L g m → Fr g L' h₁ (fun y => binds.reverse.lookup y) → News g L' h₁ news → Below A base [env] g → K.In g → Top p loose mean mg mb g →
      wpAny (model prog w) (A.deeper (envOf qual scope L' f cdv)) (execs body (envOf qual scope L' f cdv))
        (fun fl s' => LeaveS0 ([env].filterMap (·.frame)) h₀ L m g R (match fl with | .ret v => v | _ => .none) s')
        (fun e s' => wpAny (model prog w) (A.deeper (envOf qual scope L' f cdv)) («leaving» (envOf qual scope L' f cdv) e) (fun _ s'' => R (.error e) s'') (fun e' s'' => R (.error e') s'') s')
        { s with heap := h₁, toks := s.toks + binds.length })
    (hco : scope.isCoroutine = false) (hgen : scope.isGenerator = false) (hk : scope.kind = .function)
    (hcell : ∀ x ∈ scope.names, x.2 ≠ .cell) : codeAny (model prog w) A (.call (.ref f) args) R s := by
  obtain ⟨FG, BG, st, _⟩ := groundX (R := R) B F N hA hf hke
  obtain ⟨oL, es, ep, hLg, hLd, hLk, hLf⟩ := FG.ns
  have hNs : ∀ (sl : Array (Option Value)) h', Heap.get? h' L = some { oL with slots := sl } → Heap.Ns h' L m := fun sl h' e => ⟨_, es, ep, e, hLd, hLk, hLf⟩
  have hL1 : [env].filterMap (·.frame) = [L] := by
    simp only [List.filterMap_cons, hf, List.filterMap_nil]
  refine codeAny_call_def (fd := fnX name qual params body scope [] dV kV doc pm an cdv ct) (body := body) (binds := binds) hroom ((X₀.keeps F.keep) _ _ ho) rfl (T.nolimit.keeps F.keep) (codeRec_of (X₀.keeps F.keep) hcd) rfl hbind hcell hloc (fun h₁ hns hk₁ => ?_) hco hgen hk
  refine wpAny_mono (h _ s.heap.objs.size h₁ FG ⟨hns, fun b o e => hk₁ b o (of_hideAll _ e), Nat.le_of_eq (hideAll_size _ _)⟩
    (fun p hp => ⟨hk₁ _ _ (N p hp).1, Nat.ne_of_lt (Heap.lt_size (N p hp).1), hideAll_none _ (List.mem_map_of_mem hp)⟩) BG (X₀.keeps st) (T.keeps st)) (fun fl s' hl => ?_) fun _ _ y => y
  obtain ⟨g', L', m', news', T', F', N', k⟩ := hl
  have nL₀ : h₀.get? L = none := kts_self F
  obtain ⟨sl, hs⟩ := T'.up hLg
  refine k ⟨hNs sl _ (F'.keep _ _ hs), fun b o e => F'.keep b o (T'.other b o (st b o e) (fun q => ?_)), F.above⟩ fun p hp => ⟨(N' p hp).1, fun q => ?_, ?_⟩
  · rw [hL1] at q
    rw [List.mem_singleton.mp q, nL₀] at e
    cases e
  · have := (N' p hp).2.2; rw [q, hs] at this; cases this
  · cases q : h₀.get? p.1 with
    | none => rfl
    | some o =>
      obtain ⟨sl', hs'⟩ := T'.up (st _ _ q)
      have := (N' p hp).2.2
      rw [hs'] at this
      cases this
noncomputable def upto (i : Nat) : List Int := (List.range i).map fun (k : Nat) => (k : Int)
noncomputable def up64 : List Int := upto 64
theorem upto_len (i : Nat) : (upto i).length = i := by simp [upto]
theorem upto_getD {i k : Nat} (h : k < i) : (upto i).getD k 0 = (k : Int) := by
  rw [List.getD_eq_getElem?_getD, upto, List.getElem?_map, List.getElem?_range h]; rfl
theorem upto_succ (i : Nat) : upto (i + 1) = upto i ++ [(i : Int)] := by
  simp only [upto, List.range_succ, List.map_append, List.map_cons, List.map_nil]
theorem upto_split {i n : Nat} (h : i ≤ n) : upto n = upto i ++ (upto n).drop i := by
  have : upto i = (upto n).take i := by
    simp only [upto]
    rw [← List.map_take, List.take_range, Nat.min_eq_left h]
  rw [this, List.take_append_drop]
structure SortedIn (ps : List Int) : Prop where
  len : ps.length ≤ 20
  lo : ∀ q, q < ps.length → 0 ≤ ps.getD q 0 ∧ ps.getD q 0 < 64
  mono : ∀ q r, q ≤ r → r < ps.length → ps.getD q 0 ≤ ps.getD r 0
noncomputable def absentL (ps : List Int) (i : Nat) : List Int := (upto i).filter fun k => !ps.contains k
theorem mem_getD {ps : List Int} {x : Int} : x ∈ ps ↔ ∃ q, q < ps.length ∧ ps.getD q 0 = x := by
  constructor
  · intro h
    obtain ⟨q, hq, e⟩ := List.getElem_of_mem h
    exact ⟨q, hq, by rw [List.getD_eq_getElem?_getD, List.getElem?_eq_getElem hq]; exact e⟩
  · rintro ⟨q, hq, rfl⟩
    rw [List.getD_eq_getElem?_getD, List.getElem?_eq_getElem hq]
    exact List.getElem_mem hq
theorem absent_in {ps : List Int} {i : Nat} (h : (i : Int) ∈ ps) : absentL ps (i + 1) = absentL ps i := by
  unfold absentL
  rw [upto_succ, List.filter_append]
  have : ([(i : Int)].filter fun k => !ps.contains k) = [] := by
    rw [List.filter_cons_of_neg (by simpa using h), List.filter_nil]
  rw [this, List.append_nil]
theorem absent_out {ps : List Int} {i : Nat} (h : ¬ (i : Int) ∈ ps) : absentL ps (i + 1) = absentL ps i ++ [(i : Int)] := by
  unfold absentL
  rw [upto_succ, List.filter_append]
  have : ([(i : Int)].filter fun k => !ps.contains k) = [(i : Int)] := by
    rw [List.filter_cons_of_pos (by simpa using h), List.filter_nil]
  rw [this]
theorem absent_rest {ps : List Int} {i : Nat} (hi : i ≤ 64) (h : ∀ q, q < ps.length → ps.getD q 0 < i) : absentL ps 64 = absentL ps i ++ up64.drop i := by
  unfold absentL
  rw [upto_split hi, List.filter_append]
  congr 1
  refine List.filter_eq_self.mpr fun x hx => ?_
  have hx' : (i : Int) ≤ x := by
    obtain ⟨q, hq, e⟩ := List.getElem_of_mem hx
    rw [List.getElem_drop] at e
    simp only [upto, List.getElem_map, List.getElem_range] at e
    lia
  simp only [Bool.not_eq_true', List.contains_eq_mem, decide_eq_false_iff_not]
  intro hm
  obtain ⟨q, hq, e⟩ := mem_getD.mp hm
  have := h q hq
  lia
structure SldInv (ps : List Int) (i j : Nat) : Prop where
  i63 : i ≤ 63
  jlen : j ≤ ps.length
  lo : ∀ q, q < j → ps.getD q 0 < i
  hi : ∀ q, j ≤ q → q < ps.length → (i : Int) ≤ ps.getD q 0
theorem sld_lt {ps : List Int} {i j : Nat} (hs : SortedIn ps) (h : SldInv ps i j) (hj : j < ps.length) (hl : (i : Int) < ps.getD j 0) : SldInv ps (i + 1) j ∧ ¬ (i : Int) ∈ ps := by
  have h64 := (hs.lo j hj).2
  refine ⟨⟨by lia, h.jlen, fun q hq => by have := h.lo q hq; lia, fun q h1 h2 => by have := hs.mono j q h1 h2; lia⟩, fun hm => ?_⟩
  obtain ⟨q, hq, e⟩ := mem_getD.mp hm
  by_cases hqj : q < j
  · have := h.lo q hqj; lia
  · have := hs.mono j q (by lia) hq; lia
theorem sld_eq {ps : List Int} {i j k : Nat} (hs : SortedIn ps) (h : SldInv ps i j) (hj : j < ps.length) (hl : ps.getD j 0 = (i : Int)) (hk : j + 1 ≤ k) (hkn : k ≤ ps.length) (hall : ∀ q, j + 1 ≤ q → q < k → ps.getD q 0 = (i : Int)) :
    (i : Int) ∈ ps ∧ (∀ q, q < k → ps.getD q 0 < ((i + 1 : Nat) : Int)) ∧ (k < ps.length → ps.getD k 0 ≠ (i : Int) → SldInv ps (i + 1) k) := by
  have hlo : ∀ q, q < k → ps.getD q 0 < ((i + 1 : Nat) : Int) := fun q hq => by
    by_cases h1 : q < j
    · have := h.lo q h1; lia
    · by_cases h2 : q = j
      · subst h2; lia
      · have := hall q (by lia) hq; lia
  refine ⟨mem_getD.mpr ⟨j, hj, hl⟩, hlo, fun hk2 hne => ?_⟩
  have h1 := h.hi k (by lia) hk2
  have h2 := (hs.lo k hk2).2
  exact ⟨by lia, hkn, hlo, fun q h3 h4 => by have := hs.mono k q h3 h4; lia⟩
structure SFr (eA aA md ud : Addr) (m : Str → Option Value) (i j : Int) : Prop where
  e1 : m ("expected" : Str) = some (.ref eA)
  e2 : m ("actual" : Str) = some (.ref aA)
  e3 : m ("missing" : Str) = some (.ref md)
  e4 : m ("unexpected" : Str) = some (.ref ud)
  e5 : ∃ t, m ("i" : Str) = some (.int i t)
  e6 : ∃ t, m ("j" : Str) = some (.int j t)
section
variable {prog : Program} {w : World} {A : Around} {E : Value → Shared → Prop} {s : Shared} {env : Env} {g : Heap} {L : Addr} {Q : Flow → Shared → Prop} {md ud eA aA : Addr} {vs ws : List Value} {n1 n2 nm nu : Nat} {ps : List Int} {rest : List (Addr × Obj)}
noncomputable def SPost (g : Heap) (L md ud eA aA : Addr) (vs ws : List Value) (n1 n2 nu : Nat) (ps : List Int) (rest : List (Addr × Obj)) (Q : Flow → Shared → Prop) (i : Nat) (s : Shared) (f : Flow) (s₃ : Shared) : Prop :=
  match f with
  | .next | .cont => ∃ i' j' ms nm' h tk m', i < i' ∧ SldInv ps i' j' ∧ IntsAre ms (absentL ps i') ∧ SFr eA aA md ud m' (i' : Int) (j' : Int) ∧ Fr g L h m' ∧
      News g L h ((ud, W.listOf #[] nu) :: (md, W.listOf ms.toArray nm') :: (eA, W.listOf vs.toArray n1) :: (aA, W.listOf ws.toArray n2) :: rest) ∧ s₃ = { s with heap := h, toks := tk }
  | .brk => Q .next s₃
  | .ret v => Q (.ret v) s₃
theorem spost_next {i i' j' : Nat} {ms : List Value} {nm' tk : Nat} {h : Heap} {m' : Str → Option Value} {news' : List (Addr × Obj)} (h1 : i < i') (h2 : SldInv ps i' j') (h3 : IntsAre ms (absentL ps i')) (h4 : SFr eA aA md ud m' (i' : Int) (j' : Int)) (F : Fr g L h m')
    (N : News g L h news') (hs : ∀ p ∈ (ud, W.listOf #[] nu) :: (md, W.listOf ms.toArray nm') :: (eA, W.listOf vs.toArray n1) :: (aA, W.listOf ws.toArray n2) :: rest, p ∈ news') :
    SPost g L md ud eA aA vs ws n1 n2 nu ps rest Q i s .next { s with heap := h, toks := tk } := ⟨i', j', ms, nm', h, tk, m', h1, h2, h3, h4, F, fun p hp => N p (hs p hp), rfl⟩
theorem sld_while {test : Expr} {body : List Stmt} {pos : Pos} {m : Str → Option Value} (F : Fr g L s.heap m)
    (N : News g L s.heap ((ud, W.listOf #[] nu) :: (md, W.listOf #[] nm) :: (eA, W.listOf vs.toArray n1) :: (aA, W.listOf ws.toArray n2) :: rest)) (h0 : SFr eA aA md ud m 0 0) (hps : SortedIn ps)
    (turn : ∀ i j ms nm' h tk m', SldInv ps i j → IntsAre ms (absentL ps i) → SFr eA aA md ud m' (i : Int) (j : Int) → Fr g L h m' →
      News g L h ((ud, W.listOf #[] nu) :: (md, W.listOf ms.toArray nm') :: (eA, W.listOf vs.toArray n1) :: (aA, W.listOf ws.toArray n2) :: rest) →
      wpAny (model prog w) A (isTrue test env (eval test env)) (fun b s₂ => if b then wpAny (model prog w) A (execs body env) (fun f s₃ => SPost g L md ud eA aA vs ws n1 n2 nu ps rest Q i s f s₃) E s₂ else Q .next s₂) E { s with heap := h, toks := tk })
    (hE : PassesOwn (model prog w) A env E := by passes_own) :
    wpAny (model prog w) A (exec (.While test body [] pos) env) Q E s := by
  refine wpAny_While (codeAny_whileLoop (fun N' s' => ∃ i j ms nm' h tk m', N' = 64 - i ∧ SldInv ps i j ∧ IntsAre ms (absentL ps i) ∧ SFr eA aA md ud m' (i : Int) (j : Int) ∧ Fr g L h m' ∧
    News g L h ((ud, W.listOf #[] nu) :: (md, W.listOf ms.toArray nm') :: (eA, W.listOf vs.toArray n1) :: (aA, W.listOf ws.toArray n2) :: rest) ∧ s' = { s with heap := h, toks := tk }) ?_ 64
    ⟨0, 0, [], nm, s.heap, s.toks, m, rfl, ⟨by lia, Nat.zero_le _, fun q hq => absurd hq (Nat.not_lt_zero _), fun q _ hq => (hps.lo q hq).1⟩, .nil, h0, F, N, rfl⟩)
  rintro N' s' ⟨i, j, ms, nm', h, tk, m', rfl, h1, h2, h3, F', N'', rfl⟩
  refine wpAny_mono (turn i j ms nm' h tk m' h1 h2 h3 F' N'') (fun b s₂ hb => ?_) hE
  cases b with
  | false =>
    simp only [Bool.false_eq_true, if_false] at hb ⊢
    exact wpAny_execs_nil hb
  | true =>
    simp only [if_true] at hb ⊢
    refine wpAny_mono hb (fun f s₃ hf => ?_) hE
    cases f with
    | next =>
      obtain ⟨i', j', ms', nm'', h', tk', m'', q1, q2, q3, q4, q5, q6, rfl⟩ := hf
      exact ⟨64 - i', by have := h1.i63; lia, i', j', ms', nm'', h', tk', m'', rfl, q2, q3, q4, q5, q6, rfl⟩
    | cont =>
      obtain ⟨i', j', ms', nm'', h', tk', m'', q1, q2, q3, q4, q5, q6, rfl⟩ := hf
      exact ⟨64 - i', by have := h1.i63; lia, i', j', ms', nm'', h', tk', m'', rfl, q2, q3, q4, q5, q6, rfl⟩
    | brk => exact hf
    | ret v => exact hf
end
theorem hand_first {α : Type} {M : Model} {A : Around} {t : Sem α} {Q : α → Shared → Prop} {E : Value → Shared → Prop} {s : Shared} (P : Value → Shared → Prop) (hand : ∀ e s, P e s → E e s) (body : (∀ e s, P e s → E e s) → wpAny M A t Q E s) : wpAny M A t Q E s := body hand
structure SldP (A₁ : Around) (base : Heap) (outer : List Env) (g : Heap) (L : Addr) (md ud eA aA : Addr) (vs ws : List Value) (n1 n2 nu : Nat) (ps : List Int) (rest : List (Addr × Obj)) (K : Frag) (p : Program) (loose : List Str) (mean : ExcName → Option Value) (mg mb : Str → Option Value) (s : Shared) (e : Value) (s' : Shared) : Prop where
  all : ∃ a c g' G i ms nm m' h' tk', e = .ref a ∧ i ≤ 64 ∧ (∀ q, q < ps.length → ps.getD q 0 < ((i : Nat) : Int)) ∧ IntsAre ms (absentL ps i) ∧ SFr eA aA md ud m' (i : Int) (ps.length : Int) ∧ KtsTurn (outer.filterMap (·.frame)) g g' ∧ Fr g' L G m' ∧
    News g' L G ((ud, W.listOf #[] nu) :: (md, W.listOf ms.toArray nm) :: (eA, W.listOf vs.toArray n1) :: (aA, W.listOf ws.toArray n2) :: rest) ∧ Below A₁ base outer g' ∧ K.In g' ∧ Top p loose mean mg mb g' ∧ Exc G h' a c ∧ s' = { s with heap := h', toks := tk' }
theorem hand_sld {α : Type} {M : Model} {A : Around} {t : Sem α} {Q : α → Shared → Prop} {E : Value → Shared → Prop} {s : Shared} (A₁ : Around) (base : Heap) (outer : List Env) (ps : List Int) (K : Frag) (p : Program) (loose : List Str) (mean : ExcName → Option Value) (mg mb : Str → Option Value)
    {g h9 : Heap} {L md ud eA aA : Addr} {vs ws ms : List Value} {n1 n2 nu nm : Nat} {rest : List (Addr × Obj)} (_N9 : News g L h9 ((ud, W.listOf #[] nu) :: (md, W.listOf ms.toArray nm) :: (eA, W.listOf vs.toArray n1) :: (aA, W.listOf ws.toArray n2) :: rest))
    (hand : ∀ e s', SldP A₁ base outer g L md ud eA aA vs ws n1 n2 nu ps rest K p loose mean mg mb s e s' → E e s')
    (body : (∀ e s', SldP A₁ base outer g L md ud eA aA vs ws n1 n2 nu ps rest K p loose mean mg mb s e s' → E e s') → wpAny M A t Q E s) : wpAny M A t Q E s := body hand
section
variable {prog : Program} {w : World} {A : Around} {E : Value → Shared → Prop} {s : Shared} {env : Env} {Q : Flow → Shared → Prop}
theorem my_while_up {test : Expr} {body : List Stmt} {pos : Pos} (ht : wpAny (model prog w) A (isTrue test env (eval test env)) (fun _ _ => False) E s)
    (hE : PassesOwn (model prog w) A env E := by passes_own) : wpAny (model prog w) A (exec (.While test body [] pos) env) Q E s := by
  refine wpAny_While (codeAny_whileLoop (fun _ s' => s' = s) ?_ 0 rfl)
  rintro n s' rfl
  exact wpAny_mono ht (fun _ _ hf => hf.elim) hE
end
theorem allLt_mem {d : Addr} : ∀ {l : List (Addr × Obj)}, AllLt d l → ∀ p ∈ l, p.1 < d
  | [], _, _, h => nomatch h
  | _ :: _, x, p, h => by
    rcases List.mem_cons.mp h with rfl | h
    · exact x.1
    · exact allLt_mem x.2 p h
theorem news_sw {h₀ h : Heap} {L : Addr} {p1 p2 p3 pb pa : Addr × Obj} {rest : List (Addr × Obj)} (N : News h₀ L h (p1 :: p2 :: p3 :: pb :: pa :: rest)) : News h₀ L h (p1 :: pa :: pb :: rest) := fun p hp => N p (by
  rcases List.mem_cons.mp hp with rfl | hp
  · exact .head _
  rcases List.mem_cons.mp hp with rfl | hp
  · exact .tail _ (.tail _ (.tail _ (.tail _ (.head _))))
  rcases List.mem_cons.mp hp with rfl | hp
  · exact .tail _ (.tail _ (.tail _ (.head _)))
  exact .tail _ (.tail _ (.tail _ (.tail _ (.tail _ hp)))))
end Mine

end TLawSldP
section TLawSld
open PySem PySem.W PyProof.Rows PySem.Calls PySem.Spec
set_option Elab.async false
set_option maxRecDepth 100000
set_option maxHeartbeats 8000000
namespace Mine
theorem sld_call {w : World} {loose : List Str} {mean : ExcName → Option Value} {mg mb : Str → Option Value}
    {dp un : Nat} {gd : Option (List Code)} {cn : Str} {cs : Scope} {a : Addr} {ccd : Value} {cl : List (Str × Addr)} {A₀ : Around} {base h₀ : Heap} {L : Addr} {m : Str → Option Value} {s : Shared} {Q E : Value → Shared → Prop} {news : List (Addr × Obj)}
    (B : Below A₀ base [] h₀) (F : Fr h₀ L s.heap m) (X : (Mine.K w.params).In h₀) (N : News h₀ L s.heap news) (T : Top Mine.q loose mean mg mb h₀) (hk : cs.kind = .function)
    {vs ws : List Value} {ps : List Int} {n1 n2 : Nat} {eA aA : Addr} {rest : List (Addr × Obj)} (hnews : news = (eA, W.listOf vs.toArray n1) :: (aA, W.listOf ws.toArray n2) :: rest) (hv : IntsAre vs up64) (hw : IntsAre ws ps) (hps : SortedIn ps) (hdp : dp + 20 < recursionLimit) (hun : un + 100 < cLine)
    (XB : (Mine.K w.params).In base) (TB : Top Mine.q loose mean mg mb base)
    (hret : ∀ T a b ms nm nu h' tk', Fr h₀ L h' m → News h₀ L h' ((T, ({ cls := .type "tuple", data := .seq #[.ref a, .ref b] } : Obj)) :: (a, W.listOf ms.toArray nm) :: (b, W.listOf #[] nu) :: news) → IntsAre ms (absentL ps 64) → Q (.ref T) { s with heap := h', toks := tk' }) :
    wpAny (model PySem.Challenge.rw_rt0114_01.row.prog w) (ktrTop dp un gd cn cs L a ccd cl []) (call (.ref 283) [.ref eA, .ref aA]) Q E s := by
  k_with_none
  k_with "k_room" => (ktr_room)
  k_with "pyIter ref" => (refine Mine.hold ?_)
  k_with "exec While" => (refine Mine.hold ?_)
  k_with "NoTurn" => (refine Mine.hold ?_)
  k_with "LPost" => (refine Mine.hold ?_)
  k_with "k_lt" => (intro ltq9; ((try (have hne9 := Mine.own_ne (by assumption) ltq9 (by (intro p hp; repeat (first | exact hp | refine Mine.mem_tail ?_))))); replace ltq9 := allLt_of ltq9; simp only [AllLt, and_true] at ltq9))
  k_with "k_mem" => (first | with_reducible assumption | exact Mine.mem_head | (refine Mine.mem_tail ?_; k_mem))
  k_with "k_all" => (with_reducible assumption)
  k_with "call type:range" => (k_here; (rename Fr _ _ _ _ => F'); (rename News _ _ _ _ => N'); first | (with_unfolding_all refine range1_rows F' N' ?_; intro _ _ _ _ _ _ _ _ _) | (with_unfolding_all refine range2_rows F' N' ?_; intro _ _ _ _ _ _ _ _ _))
  k_with "binaryOp Add ref ref" => (k_here; (with_reducible show wpAny _ _ (binaryOp _ (Value.ref _) (Value.ref _)) _ _ _); k_dflt (refine' Mine.add_L ?k1 ?k2 ?a ?b ?z ?_; (case k1 => k_asm); (case k2 => k_asm); (case a => k_mem); (case b => k_mem); (case z => (simp only [List.length_cons, List.length_nil, List.length_append]; lia)); k_whole); intro d' h' F' N' l1; (try k_lt l1); (try k_sweep))
  k_with "call builtin:list.append" => (k_here; (with_reducible show wpAny _ _ (call (Value.builtin _) [Value.ref _, _]) _ _ _); k_dflt (refine' Mine.append_L ?k1 ?k2 ?k3 ?z ?_; (case k1 => k_asm); (case k2 => k_asm); (case k3 => k_upd); (case z => first | lia | (simp only [List.length_cons, List.length_nil, List.length_append]; lia)); k_whole); intro h' F' N'; (try k_sweep))
  k_with "subscriptTail Name Slice ref ref" => (refine Mine.hold ?_)
  k_with "loadName" => (k_here; k_dflt (refine' ldn ?k1 ?k2 ?_; (case k1 => k_asm); (case k2 => first | exact rfl | assumption | (dsimp only; (repeat rw [if_neg (by decide)]); first | assumption | (rw [if_pos rfl]))); k_whole))
  k_with "eval Name" => (k_here; k_dflt (refine' ld ?k1 ?k2 ?_; (case k1 => k_asm); (case k2 => first | exact rfl | assumption | ((try dsimp only); (repeat rw [if_neg (by decide)]); first | assumption | (rw [if_pos rfl]))); k_whole))
  k_with "subscriptTail Name Name ref int" => ((with_reducible show wpAny _ _ (subscriptTail _ _ (Value.ref _) (Value.int _ _)) _ _ _); refine Mine.hold ?_)
  k_with "call builtin:list.extend" => (refine Mine.hold ?_)
  k_with "exec Try" => (refine Mine.hold ?_)
  k_with "noteFrame ref" => (refine Mine.hold ?_)
  k_with "Skip" => (refine Mine.hold ?_)
  k_with "SPost" => (refine Mine.hold ?_)
  k_with "LeaveS0" => (refine Mine.hold ?_)
  revert X; k_fill; intro X
  refine wpAny_call ?_
  k_dflt (refine' callS_ext B F X N T ?kA ?kF ?kK ?k6 ?k7 ?k8 ?k9 ?kB ?_ ?c2 ?c3 ?c4 ?c5; (case kA => exact rfl); (case kF => exact rfl); (case kK => assumption); (case k6 => k_is); (case k7 => k_is); (case k8 => ktr_room); (case k9 => first | exact BindsTo.of_eq rfl | exact binds_K (by k_in) rfl (by k_is) rfl rfl rfl); (case kB => exact locs rfl); (case c2 => exact rfl); (case c3 => exact rfl); (case c4 => exact rfl); (case c5 => decide); k_whole)
  intro g' L' h' FG' F' N' B' X' T'
  (try dsimp only); (try k_fold); (conv in (execs _ _) => arg 1; whnf)
  subst hnews
  k_steps
  refine unhold ?_
  (with_reducible rename Fr _ _ _ _ => lF)
  (with_reducible rename News _ _ _ _ => lN)
  refine sld_while lF lN ?h0 hps ?turn
  case h0 => exact ⟨rfl, rfl, by ((try dsimp only); (repeat rw [if_neg (by decide)]); first | done | (rw [if_pos rfl]) | exact rfl), by ((try dsimp only); (repeat rw [if_neg (by decide)]); first | done | (rw [if_pos rfl]) | exact rfl), ⟨_, by ((try dsimp only); (repeat rw [if_neg (by decide)]); first | done | (rw [if_pos rfl]) | exact rfl)⟩, ⟨_, by ((try dsimp only); (repeat rw [if_neg (by decide)]); first | done | (rw [if_pos rfl]) | exact rfl)⟩⟩
  case turn =>
    intro i j ms nm9 h9 tk9 m9 hI hms hfr F9 N9
    clear lF lN
    obtain ⟨f1, f2, f3, f4, ⟨ti, f5⟩, ⟨tj, f6⟩⟩ := hfr
    k_steps
    refine unhold ?_
    refine wpAny_Try_except ?_
    refine hand_sld (ktrTop dp un gd cn cs L a ccd cl []) base [envX cn cs L a ccd cl] ps (Mine.K w.params) Mine.q loose mean mg mb N9 ?hand ?body
    case hand =>
      rintro _ _ ⟨a, c, g2, G, i2, ms2, nm2, m2, h2, tk2, rfl, q1, q2, q3, q4, q5, q6, q7, q8, q9, q10, q11, rfl⟩
      refine caught_ix q8 q6 q7 q11 XB TB q5 (by k_is) ?k rfl rfl
      clear q5 q6 q7 q8 q9 q10 q11 F9 N9 hI hms f1 f2 f3 f4 f5 f6 FG' B' X' T'
      obtain ⟨u1, u2, u3, u4, ⟨u5, u6⟩, ⟨u7, u8⟩⟩ := q4
      have v1 := q3.length
      have v2 := hv.length
      have v3 := hw.length
      have v4 : ms2.length ≤ 64 := by rw [v1]; exact Nat.le_trans (List.length_filter_le _ _) (by rw [upto_len]; exact q1)
      have v5 := hps.len
      intro h3 g3 T3 F3 N3 B3 X3 P3
      k_steps
      refine unhold ?_
      refine slice_from F3 N3 (.tail _ (.tail _ (.head _))) hv (by lia) (by rw [v2, show up64.length = 64 from upto_len 64]; lia) ?_
      intro d1 zs1 h5 F5 N5 l5 i5
      replace l5 := allLt_of l5
      simp only [AllLt, and_true] at l5
      clear F3 N3
      (with_reducible rename _ < _ ∧ _ < _ ∧ AllLt _ rest => la)
      (with_reducible rename _ < _ ∧ _ < _ ∧ _ < _ ∧ AllLt _ rest => lb)
      have v6 := i5.length
      rw [Int.toNat_natCast] at i5 v6
      have v7 : (up64.drop i2).length = 64 - i2 := by rw [List.length_drop]; exact congrArg (· - i2) (upto_len 64)
      k_steps
      refine unhold ?_
      refine extend_at (pre := [(d1, _), (_, _)]) F5 N5 (.head _) ?o1 ?o2 (by lia) ?_
      case o1 =>
        refine List.forall_mem_cons.mpr ⟨Ne.symm (Nat.ne_of_lt l5.2.1), List.forall_mem_cons.mpr ⟨Ne.symm (Nat.ne_of_lt lb.1), List.forall_mem_nil _⟩⟩
      case o2 =>
        refine List.forall_mem_cons.mpr ⟨Nat.ne_of_lt la.1, List.forall_mem_cons.mpr ⟨Nat.ne_of_lt la.2.1, fun p hp => Nat.ne_of_lt (allLt_mem la.2.2 p hp)⟩⟩
      intro h6 n6 F6 N6
      simp only [List.cons_append, List.nil_append] at N6
      clear F5 N5
      k_steps
      refine unhold ?_
      refine slice_from F6 N6 (.tail _ (.tail _ (.tail _ (.tail _ (.head _))))) hw (by lia) (by lia) ?_
      intro d2 zs2 h7 F7 N7 l7 i7
      replace l7 := allLt_of l7
      simp only [AllLt, and_true] at l7
      rw [Int.toNat_natCast, List.drop_length] at i7
      obtain rfl : zs2 = [] := List.eq_nil_of_length_eq_zero i7.length
      clear F6 N6
      k_steps
      refine unhold ?_
      refine extend_at (vs := []) (pre := [(d2, _), (d1, _)]) F7 N7 (.head _) ?o1 ?o2 (by simp) ?_
      case o1 =>
        refine List.forall_mem_cons.mpr ⟨Ne.symm (Nat.ne_of_lt l7.2.1), List.forall_mem_cons.mpr ⟨Ne.symm (Nat.ne_of_lt l5.1), List.forall_mem_nil _⟩⟩
      case o2 =>
        refine List.forall_mem_cons.mpr ⟨Nat.ne_of_lt lb.1, List.forall_mem_cons.mpr ⟨Nat.ne_of_lt lb.2.1, List.forall_mem_cons.mpr ⟨Nat.ne_of_lt lb.2.2.1, fun p hp => Nat.ne_of_lt (allLt_mem lb.2.2.2 p hp)⟩⟩⟩
      intro h8 n8 F8 N8
      simp only [List.cons_append, List.nil_append] at N8
      clear F7 N7
      k_steps
      refine unhold ?_
      dsimp only [SPost]
      k_steps
      refine unhold ?_
      (with_reducible rename Fr _ _ _ _ => eF)
      (with_reducible rename News _ _ _ _ => eN)
      refine leaveS0_ eF eN T3 ?_
      intro F9 N9
      exact hret _ _ _ _ _ _ _ _ F9 (news_sw N9) (by rw [absent_rest q1 q2]; exact q3.append i5)
    case body =>
      intro hand
      have lu : up64.length = 64 := upto_len 64
      have i63 := hI.i63
      have v5 := hps.len
      have gu : up64.getD ((i : Int)).toNat 0 = (i : Int) := by rw [Int.toNat_natCast]; exact upto_getD (by lia)
      k_steps
      refine unhold ?_
      refine item_ints N9 (.tail _ (.tail _ (.head _))) hv (by lia) (by rw [lu]; lia) (by lia) ?_
      intro te
      rw [gu]
      k_steps
      refine unhold ?_
      by_cases hj : j < ps.length
      · (with_reducible rename Fr _ _ _ _ => eF)
        (with_reducible rename News _ _ _ _ => eN)
        refine item_ints eN (.tail _ (.tail _ (.tail _ (.head _)))) hw (by lia) (by lia) (by lia) ?_
        intro ta
        rw [Int.toNat_natCast]
        have v6 : ms.length ≤ 64 := by rw [hms.length]; exact Nat.le_trans (List.length_filter_le _ _) (by rw [upto_len]; lia)
        have hlo := hI.hi j (Nat.le_refl _) hj
        by_cases hlt : (i : Int) < ps.getD j 0
        · k_steps
          all_goals (try (exfalso; lia))
          refine unhold ?_
          (with_reducible rename Fr _ _ _ _ => wF)
          (with_reducible rename News _ _ _ _ => wN)
          have hsl := sld_lt hps hI hj hlt
          have i62 := hsl.1.i63
          have gu2 : up64.getD ((i : Int) + 1).toNat 0 = (i : Int) + 1 := by rw [show ((i : Int) + 1).toNat = i + 1 by lia]; exact upto_getD (by lia)
          refine my_while_no wF wN ?wt0 ?wd0
          case wt0 =>
            k_steps
            refine unhold ?_
            refine item_ints wN (.tail _ (.tail _ (.head _))) hv (by lia) (by rw [lu]; lia) (by lia) ?_
            intro tz
            rw [gu2]
            k_steps
            refine unhold ?_
            (with_reducible rename Fr _ _ _ _ => eF)
            (with_reducible rename News _ _ _ _ => eN)
            exact noTurn_intro eF eN (fun p hp => hp) (by simp; try lia)
          intro h8 tk8 F8 N8
          clear wF wN
          k_steps
          refine unhold ?_
          (with_reducible rename Fr _ _ _ _ => eF)
          (with_reducible rename News _ _ _ _ => eN)
          exact spost_next (Nat.lt_succ_self i) hsl.1 (by rw [absent_out hsl.2]; exact hms.append (.cons _ _ .nil)) ⟨by ((try dsimp only); (repeat rw [if_neg (by decide)]); first | done | assumption | (rw [if_pos rfl]) | exact rfl), by ((try dsimp only); (repeat rw [if_neg (by decide)]); first | done | assumption | (rw [if_pos rfl]) | exact rfl), by ((try dsimp only); (repeat rw [if_neg (by decide)]); first | done | assumption | (rw [if_pos rfl]) | exact rfl), by ((try dsimp only); (repeat rw [if_neg (by decide)]); first | done | assumption | (rw [if_pos rfl]) | exact rfl), ⟨_, by ((try dsimp only); (repeat rw [if_neg (by decide)]); (try rw [if_pos rfl]); first | (rw [Int.natCast_add]; done) | (rw [Int.natCast_succ]; done) | (rw [Int.natCast_add]; rfl) | (rw [Int.natCast_succ]; rfl))⟩, ⟨_, by ((try dsimp only); (repeat rw [if_neg (by decide)]); first | done | assumption | (rw [if_pos rfl]) | exact rfl)⟩⟩ eF eN (fun p hp => hp)
        · have heq : ps.getD j 0 = (i : Int) := by lia
          rw [heq]
          k_steps
          all_goals (try (exfalso; lia))
          refine unhold ?_
          (with_reducible rename Fr _ _ _ _ => wF)
          (with_reducible rename News _ _ _ _ => wN)
          by_cases h63 : i < 63
          · have gu2 : up64.getD ((i : Int) + 1).toNat 0 = (i : Int) + 1 := by rw [show ((i : Int) + 1).toNat = i + 1 by lia]; exact upto_getD (by lia)
            refine my_while_no wF wN ?wt1 ?wd1
            case wt1 =>
              k_steps
              refine unhold ?_
              refine item_ints wN (.tail _ (.tail _ (.head _))) hv (by lia) (by rw [lu]; lia) (by lia) ?_
              intro tz
              rw [gu2]
              k_steps
              refine unhold ?_
              (with_reducible rename Fr _ _ _ _ => eF)
              (with_reducible rename News _ _ _ _ => eN)
              exact noTurn_intro eF eN (fun p hp => hp) (by simp; try lia)
            intro h8 tk8 F8 N8
            clear wF wN
            k_steps
            refine unhold ?_
            (with_reducible rename Fr _ _ _ _ => wF)
            (with_reducible rename News _ _ _ _ => wN)
            refine wpAny_passesOwn (by passes_own) ?_
            refine my_skip (x := ("j" : Str)) (fun q => ps.getD q 0 = (i : Int)) ps.length (j + 1) wF wN (by ((try dsimp only); (repeat rw [if_neg (by decide)]); (try rw [if_pos rfl]); first | (rw [Int.natCast_add]; done) | (rw [Int.natCast_succ]; done) | (rw [Int.natCast_add]; rfl) | (rw [Int.natCast_succ]; rfl))) (by lia) ?turna
            case turna =>
              intro k t8 h8 tk8 m8 hk1 hk2 hkC hkx hkz F8 N8
              have z1 : m8 ("expected" : Str) = some (.ref eA) := (hkz _ (by decide)).trans (by ((try dsimp only); (repeat rw [if_neg (by decide)]); first | done | assumption | (rw [if_pos rfl]) | exact rfl))
              have z2 : m8 ("actual" : Str) = some (.ref aA) := (hkz _ (by decide)).trans (by ((try dsimp only); (repeat rw [if_neg (by decide)]); first | done | assumption | (rw [if_pos rfl]) | exact rfl))
              have z3 := (hkz ("missing" : Str) (by decide)).trans (Eq.trans (by (try dsimp only); (repeat rw [if_neg (by decide)])) f3)
              have z4 := (hkz ("unexpected" : Str) (by decide)).trans (Eq.trans (by (try dsimp only); (repeat rw [if_neg (by decide)])) f4)
              have z5 : ∃ t, m8 ("i" : Str) = some (.int ((i : Int) + 1) t) := ⟨_, (hkz _ (by decide)).trans (by ((try dsimp only); (repeat rw [if_neg (by decide)]); first | done | assumption | (rw [if_pos rfl]) | exact rfl))⟩
              have z6 : m8 ("a" : Str) = some (.int (i : Int) ta) := (hkz _ (by decide)).trans (by ((try dsimp only); (repeat rw [if_neg (by decide)]); first | done | assumption | (rw [if_pos rfl]) | exact rfl))
              have hse := sld_eq hps hI hj heq hk1 hk2 hkC
              clear wF wN
              by_cases hkn : k < ps.length
              · k_steps
                refine unhold ?_
                (with_reducible rename Fr _ _ _ _ => eF)
                (with_reducible rename News _ _ _ _ => eN)
                refine item_ints eN (.tail _ (.tail _ (.tail _ (.head _)))) hw (by lia) (by lia) (by lia) ?_
                intro tz
                rw [Int.toNat_natCast]
                by_cases hz : ps.getD k 0 = (i : Int)
                · rw [hz]
                  k_steps
                  all_goals (try (exfalso; lia))
                  refine unhold ?_
                  (with_reducible rename Fr _ _ _ _ => eF)
                  (with_reducible rename News _ _ _ _ => eN)
                  exact skip_intro hkn hz eF eN (fun p hp => hp) (by ((try dsimp only); (repeat rw [if_neg (by decide)]); first | done | assumption | (rw [if_pos rfl]) | exact rfl)) (fun z hz => by dsimp only; rw [if_neg hz]; exact hkz z hz)
                · k_steps
                  all_goals (try (exfalso; lia))
                  refine unhold ?_
                  (with_reducible rename Fr _ _ _ _ => eF)
                  (with_reducible rename News _ _ _ _ => eN)
                  exact spost_next (Nat.lt_succ_self i) (hse.2.2 hkn hz) (by rw [absent_in hse.1]; exact hms) ⟨z1, z2, z3, z4, by simpa using z5, ⟨_, hkx⟩⟩ eF eN (fun p hp => hp)
              · have hke : k = ps.length := by lia
                subst hke
                k_steps
                refine unhold ?_
                (with_reducible rename Fr _ _ _ _ => eF)
                (with_reducible rename News _ _ _ _ => eN)
                refine item_out (z := ((ps.length : Nat) : Int)) rfl (isList_N eN (.tail _ (.tail _ (.tail _ (.head _))))) (by rw [List.size_toArray, hw.length]; lia) (by lia) ?_
                intro h3 tk3 e3 x3
                exact hand _ _ ⟨⟨e3, .none, _, _, i + 1, ms, nm9, _, h3, tk3, rfl, by lia, hse.2.1, by rw [absent_in hse.1]; exact hms, ⟨z1, z2, z3, z4, by simpa using z5, ⟨_, hkx⟩⟩, KtsTurn.refl, eF, eN, B', X', T', x3, rfl⟩⟩
          · refine my_while_up ?_
            k_steps
            refine unhold ?_
            refine item_out (z := (i : Int) + 1) rfl (isList_N wN (.tail _ (.tail _ (.head _)))) (by rw [List.size_toArray, hv.length, lu]; lia) (by lia) ?_
            intro h3 tk3 e3 x3
            refine finally_ix B' wF wN x3 XB TB rfl ?_
            intro h' g2 oe t T T2 F2 hd N2 B2 X2 P2
            clear wF wN
            k_steps
            refine unhold ?_
            (with_reducible rename Fr _ _ _ _ => wF)
            (with_reducible rename News _ _ _ _ => wN)
            refine my_skip (x := ("j" : Str)) (fun q => ps.getD q 0 = (i : Int)) ps.length (j + 1) wF wN (by ((try dsimp only); (repeat rw [if_neg (by decide)]); (try rw [if_pos rfl]); first | (rw [Int.natCast_add]; done) | (rw [Int.natCast_succ]; done) | (rw [Int.natCast_add]; rfl) | (rw [Int.natCast_succ]; rfl))) (by lia) ?turnb
            case turnb =>
              intro k t8 h8 tk8 m8 hk1 hk2 hkC hkx hkz F8 N8
              have z1 : m8 ("expected" : Str) = some (.ref eA) := (hkz _ (by decide)).trans (by ((try dsimp only); (repeat rw [if_neg (by decide)]); first | done | assumption | (rw [if_pos rfl]) | exact rfl))
              have z2 : m8 ("actual" : Str) = some (.ref aA) := (hkz _ (by decide)).trans (by ((try dsimp only); (repeat rw [if_neg (by decide)]); first | done | assumption | (rw [if_pos rfl]) | exact rfl))
              have z3 := (hkz ("missing" : Str) (by decide)).trans (Eq.trans (by (try dsimp only); (repeat rw [if_neg (by decide)])) f3)
              have z4 := (hkz ("unexpected" : Str) (by decide)).trans (Eq.trans (by (try dsimp only); (repeat rw [if_neg (by decide)])) f4)
              have z5 : ∃ t, m8 ("i" : Str) = some (.int ((i : Int) + 1) t) := ⟨_, (hkz _ (by decide)).trans (by ((try dsimp only); (repeat rw [if_neg (by decide)]); first | done | assumption | (rw [if_pos rfl]) | exact rfl))⟩
              have z6 : m8 ("a" : Str) = some (.int (i : Int) ta) := (hkz _ (by decide)).trans (by ((try dsimp only); (repeat rw [if_neg (by decide)]); first | done | assumption | (rw [if_pos rfl]) | exact rfl))
              have hse := sld_eq hps hI hj heq hk1 hk2 hkC
              clear wF wN
              by_cases hkn : k < ps.length
              · k_steps
                refine unhold ?_
                (with_reducible rename Fr _ _ _ _ => eF)
                (with_reducible rename News _ _ _ _ => eN)
                refine item_ints eN (.tail _ (.tail _ (.tail _ (.tail _ (.head _))))) hw (by lia) (by lia) (by lia) ?_
                intro tz
                rw [Int.toNat_natCast]
                by_cases hz : ps.getD k 0 = (i : Int)
                · rw [hz]
                  k_steps
                  all_goals (try (exfalso; lia))
                  refine unhold ?_
                  (with_reducible rename Fr _ _ _ _ => eF)
                  (with_reducible rename News _ _ _ _ => eN)
                  exact skip_intro hkn hz eF eN (fun p hp => hp) (by ((try dsimp only); (repeat rw [if_neg (by decide)]); first | done | assumption | (rw [if_pos rfl]) | exact rfl)) (fun z hz => by dsimp only; rw [if_neg hz]; exact hkz z hz)
                · exact absurd hz (by have := hps.mono j k (by lia) hkn; have := (hps.lo k hkn).2; lia)
              · have hke : k = ps.length := by lia
                subst hke
                k_steps
                refine unhold ?_
                (with_reducible rename Fr _ _ _ _ => eF)
                (with_reducible rename News _ _ _ _ => eN)
                refine item_under (z := ((ps.length : Nat) : Int)) rfl (eN _ (.head _)).1 hd (isList_N eN (.tail _ (.tail _ (.tail _ (.tail _ (.head _)))))) (by rw [List.size_toArray, hw.length]; lia) (by lia) ?_
                intro h3 tk3 e3 x3
                exact hand _ _ ⟨⟨e3, _, _, _, i + 1, ms, nm9, _, h3, tk3, rfl, by lia, hse.2.1, by rw [absent_in hse.1]; exact hms, ⟨z1, z2, z3, z4, by simpa using z5, ⟨_, hkx⟩⟩, T2, eF, (fun p hp => eN p (.tail _ hp)), B2, X2, P2, x3, rfl⟩⟩
      · (with_reducible rename Fr _ _ _ _ => eF)
        (with_reducible rename News _ _ _ _ => eN)
        have hjl := hI.jlen
        refine item_out (z := (j : Int)) rfl (isList_N eN (.tail _ (.tail _ (.tail _ (.head _))))) (by rw [List.size_toArray, hw.length]; lia) (by lia) ?_
        intro h3 tk3 e3 x3
        have hje : (j : Int) = ps.length := by have := hI.jlen; lia
        rw [hje] at f6
        exact hand _ _ ⟨⟨e3, .none, _, _, i, ms, nm9, _, h3, tk3, rfl, by lia, fun q hq => hI.lo q (by lia), hms, ⟨by ((try dsimp only); (repeat rw [if_neg (by decide)]); first | done | assumption | (rw [if_pos rfl]) | exact rfl), by ((try dsimp only); (repeat rw [if_neg (by decide)]); first | done | assumption | (rw [if_pos rfl]) | exact rfl), by ((try dsimp only); (repeat rw [if_neg (by decide)]); first | done | assumption | (rw [if_pos rfl]) | exact rfl), by ((try dsimp only); (repeat rw [if_neg (by decide)]); first | done | assumption | (rw [if_pos rfl]) | exact rfl), ⟨_, by ((try dsimp only); (repeat rw [if_neg (by decide)]); first | done | assumption | (rw [if_pos rfl]) | exact rfl)⟩, ⟨_, by ((try dsimp only); (repeat rw [if_neg (by decide)]); first | done | assumption | (rw [if_pos rfl]) | exact rfl)⟩⟩, KtsTurn.refl, eF, eN, B', X', T', x3, rfl⟩⟩
  k_with_none
end Mine

end TLawSld
section TLawByt
open PySem PySem.W PyProof.Rows PySem.Calls PySem.Spec
set_option Elab.async false
set_option maxRecDepth 100000
set_option maxHeartbeats 4000000
namespace Mine
theorem gives_mul1 {b : Array UInt8} {n : Int} {t u : Tok} (hf : Builtin.Bytes.fitsIndex n = true) (h63 : ¬ b.size * n.toNat ≥ 2 ^ 63) (he : (b.size * n.toNat == b.size) = true) :
    Gives (Builtin.«bytes.__mul__» ⟨[.bytes b t, .int n u], []⟩) (.val (.bytes b t)) := by
  refine .of_wp fun M A E s Q hq => ?_
  show wpAny M A (Builtin.Bytes.repeatArgs .bytes "__mul__" ⟨[.bytes b t, .int n u], []⟩ >>= fun r => _) _ E s
  refine wpAny_bind (wpAny_of_eq (BMul.args_eq hf) ?_)
  refine wpAny_bind (wpAny_of_eq (a := b) rfl ?_)
  show wpAny M A (if b.size * n.toNat ≥ 2 ^ 63 then _ else _) _ E s
  rw [if_neg h63]
  show wpAny M A (if (b.size * n.toNat == b.size) = true then _ else _) _ E s
  rw [if_pos he]
  refine wpAny_bind (wpAny_typeOf (typeIs_bytes s b t) ?_)
  rw [if_pos (by decide)]
  exact wpAny_bind (wpAny_rule (wpAny_bind (wpAny_pure (wpAny_pure ⟨_, rfl, hq⟩))))
section
variable {prog : Program} {w : World} {A : Around} {E : Value → Shared → Prop} {s : Shared} {Q : Value → Shared → Prop}
theorem eq_mul {n : Int} {t u : Tok} (h0 : 0 ≤ n) (h3 : n ≤ 3) (h : ∀ t' k, Q (.bytes (List.replicate n.toNat (61 : UInt8)).toArray t') { s with toks := k }) : wpAny (model prog w) A (binaryOp .Mult (.bytes #[61] t) (.int n u)) Q E s := by
  have hf : Builtin.Bytes.fitsIndex n = true := by
    simp only [Builtin.Bytes.fitsIndex, Bool.and_eq_true, decide_eq_true_eq]
    lia
  have hsz : (#[61] : Array UInt8).size * n.toNat = n.toNat := by simp
  have h63 : ¬ (#[61] : Array UInt8).size * n.toNat ≥ 2 ^ 63 := by rw [hsz]; lia
  refine wpAny_binaryOp_repeat (T := "bytes") (U := "int") (by decide) (fun s' => typeIs_bytes s' _ t) (fun s' => typeIs_int s' n u) BMul.noFill PySem.F.fills_int_mul PySem.F.slot_int_rmul BMul.repeats PySem.F.slot_int_index.lookup
    (call_gives PySem.F.slot_int_rmul (typeIs_int s n u) PySem.F.entry_int_rmul (PySem.F.args_int_rmul_2 _ _) (BMul.int_declines n u _ t) ⟨rfl, ?_⟩)
  by_cases h1 : n = 1
  · subst h1
    exact call_gives BMul.slot_mul (typeIs_bytes s _ t) BMul.entry_mul (BMul.args_mul _ _) (gives_mul1 hf h63 (by decide)) (h t s.toks)
  · have hne : ((#[61] : Array UInt8).size * n.toNat == (#[61] : Array UInt8).size) = false := beq_false_of_ne (by rw [hsz]; simp; lia)
    have hl : Builtin.Bytes.tooLong ((#[61] : Array UInt8).size * n.toNat) = false := by rw [hsz]; exact KBy.tooLong_not (by lia)
    refine call_gives BMul.slot_mul (typeIs_bytes s _ t) BMul.entry_mul (BMul.args_mul _ _) (BMul.gives_mul hf h63 hne hl) ?_
    rw [show (#[61] : Array UInt8) = [61].toArray from rfl, BMul.repeated_list (by decide)]
    have e : (List.replicate n.toNat [(61 : UInt8)]).flatten = List.replicate n.toNat 61 := by
      generalize n.toNat = k
      induction k with
      | zero => rfl
      | succ k ih => rw [List.replicate_succ, List.flatten_cons, ih]; rfl
    rw [e]
    refine ⟨?_, h _ _⟩
    rw [List.size_toArray, List.length_replicate, sizeLine_eq]
    lia
end
end Mine
namespace Mine
theorem byteArr_app (ks ls : List Int) : byteArr (ks ++ ls) = byteArr ks ++ byteArr ls := by simp [byteArr]
theorem byteArr_ints (b : Array UInt8) : byteArr (KBw.bInts b) = b := by
  obtain ⟨l⟩ := b
  simp only [byteArr, KBw.bInts]
  congr 1
  rw [List.map_map]
  conv => rhs; rw [← List.map_id l]
  refine List.map_congr_left fun c _ => ?_
  simp
theorem byteArr_eqs (k : Nat) : byteArr (List.replicate k 61) = (List.replicate k (61 : UInt8)).toArray := by
  simp [byteArr]
end Mine

end TLawByt
section TLawFil
open PySem PySem.W PyProof.Rows PySem.Calls PySem.Spec
set_option Elab.async false
set_option maxRecDepth 100000
set_option maxHeartbeats 4000000
namespace Mine
theorem fil_call {w : World} {loose : List Str} {mean : ExcName → Option Value} {mg mb : Str → Option Value}
    {dp un : Nat} {gd : Option (List Code)} {cn : Str} {cs : Scope} {a : Addr} {ccd : Value} {cl : List (Str × Addr)} {outer : List Env} {A₀ : Around} {base h₀ : Heap} {L : Addr} {m : Str → Option Value} {s : Shared} {Q E : Value → Shared → Prop} {news : List (Addr × Obj)}
    (B : Below A₀ base outer h₀) (F : Fr h₀ L s.heap m) (X : (Mine.K w.params).In h₀) (N : News h₀ L s.heap news) (T : Top Mine.q loose mean mg mb h₀) (hk : cs.kind = .function)
    {arr : Array UInt8} {t : Tok} (hlen : arr.size ≤ 100) (hdp : dp + 20 < recursionLimit) (hun : un + 100 < cLine)
    (hret : ∀ t' h' tk', Fr h₀ L h' m → News h₀ L h' news → Q (.bytes (byteArr (KBw.bInts arr ++ List.replicate ((-(arr.size : Int)) % 4).toNat 61)) t') { s with heap := h', toks := tk' }) :
    wpAny (model PySem.Challenge.rw_rt0114_01.row.prog w) (ktrTop dp un gd cn cs L a ccd cl outer) (call (.ref 302) [.bytes arr t]) Q E s := by
  k_with_none
  k_with "k_room" => (ktr_room)
  k_with "pyIter ref" => (refine Mine.hold ?_)
  k_with "exec While" => (refine Mine.hold ?_)
  k_with "NoTurn" => (refine Mine.hold ?_)
  k_with "LPost" => (refine Mine.hold ?_)
  k_with "k_lt" => (intro ltq9; ((try (have hne9 := Mine.own_ne (by assumption) ltq9 (by (intro p hp; repeat (first | exact hp | refine Mine.mem_tail ?_))))); replace ltq9 := allLt_of ltq9; simp only [AllLt, and_true] at ltq9))
  k_with "k_mem" => (first | with_reducible assumption | exact Mine.mem_head | (refine Mine.mem_tail ?_; k_mem))
  k_with "k_all" => (with_reducible assumption)
  k_with "call type:range" => (k_here; (rename Fr _ _ _ _ => F'); (rename News _ _ _ _ => N'); first | (with_unfolding_all refine range1_rows F' N' ?_; intro _ _ _ _ _ _ _ _ _) | (with_unfolding_all refine range2_rows F' N' ?_; intro _ _ _ _ _ _ _ _ _))
  k_with "binaryOp Add ref ref" => (k_here; (with_reducible show wpAny _ _ (binaryOp _ (Value.ref _) (Value.ref _)) _ _ _); k_dflt (refine' Mine.add_L ?k1 ?k2 ?a ?b ?z ?_; (case k1 => k_asm); (case k2 => k_asm); (case a => k_mem); (case b => k_mem); (case z => (simp only [List.length_cons, List.length_nil, List.length_append]; lia)); k_whole); intro d' h' F' N' l1; (try k_lt l1); (try k_sweep))
  k_with "call builtin:list.append" => (k_here; (with_reducible show wpAny _ _ (call (Value.builtin _) [Value.ref _, _]) _ _ _); k_dflt (refine' Mine.append_L ?k1 ?k2 ?k3 ?z ?_; (case k1 => k_asm); (case k2 => k_asm); (case k3 => k_upd); (case z => first | lia | (simp only [List.length_cons, List.length_nil, List.length_append]; lia)); k_whole); intro h' F' N'; (try k_sweep))
  k_with "call builtin:list.extend" => (k_here; (with_reducible show wpAny _ _ (call (Value.builtin _) [Value.ref _, Value.ref _]) _ _ _); k_dflt (refine' Mine.extend_L ?k1 ?k2 ?b ?ne ?k3 ?z ?_; (case k1 => k_asm); (case k2 => k_asm); (case b => k_mem); (case ne => first | exact Nat.succ_ne_zero _ | lia); (case k3 => k_upd); (case z => (simp only [List.length_cons, List.length_nil, List.length_append]; lia)); k_whole); intro h' F' N'; (try k_sweep))
  k_with "binaryOp Mod int int" => (k_here; (with_reducible refine mod_int' ?a ?_); (case a => lia))
  k_with "binaryOp Mult bytes int" => (refine Mine.hold ?_)
  k_with "binaryOp Add bytes bytes" => (refine Mine.hold ?_)
  revert X; k_fill; intro X
  refine wpAny_call ?_
  k_dflt (refine' callX_ext B F X N T ?kA ?kF ?kK ?k6 ?k7 ?k8 ?k9 ?kB ?_ ?c2 ?c3 ?c4 ?c5; (case kA => exact rfl); (case kF => exact rfl); (case kK => assumption); (case k6 => k_is); (case k7 => k_is); (case k8 => ktr_room); (case k9 => first | exact BindsTo.of_eq rfl | exact binds_K (by k_in) rfl (by k_is) rfl rfl rfl); (case c5 => decide); (case kB => exact locs rfl); (case c2 => exact rfl); (case c3 => exact rfl); (case c4 => exact rfl); k_whole)
  intro g' L' h' FG' F' N' B' X' T' hg' hL'
  (try dsimp only); (try k_fold); (conv in (execs _ _) => arg 1; whnf)
  k_steps
  refine unhold ?_
  have e0 : 0 ≤ (-(arr.size : Int)).fmod 4 := Int.fmod_nonneg_of_pos _ (by decide)
  have e1 : (-(arr.size : Int)).fmod 4 < 4 := Int.fmod_lt_of_pos _ (by decide)
  have e2 : (-(arr.size : Int)).fmod 4 = (-(arr.size : Int)) % 4 := Int.fmod_eq_emod_of_nonneg _ (by decide)
  refine eq_mul e0 (by lia) ?_
  intro t3 k3
  rw [e2]
  k_steps
  refine unhold ?_
  refine KBy.add_bytes (by simp only [List.size_toArray, List.length_replicate]; lia) ?_
  intro t4 k4
  k_steps
  (with_reducible rename Fr h₀ L _ m => kF)
  (with_reducible rename News h₀ L _ _ => kN)
  have hr := hret t4 _ k4 kF (fun p hp => kN p (by first | exact hp | exact .tail _ hp))
  rw [byteArr_app, byteArr_ints, byteArr_eqs] at hr
  exact hr
  k_with_none
end Mine

end TLawFil
section TLawLng
open PySem PySem.W PyProof.Rows PySem.Calls PySem.Spec
set_option Elab.async false
set_option maxRecDepth 100000
set_option maxHeartbeats 4000000
namespace Mine
noncomputable def runs (ps : List Int) (st k : Nat) : Prop := ∀ q, q + 1 < k → ps.getD (st + q) 0 = ps.getD st 0 + (q : Int)
structure LongTo (ps : List Int) (low en hi : Nat) (b0 b1 b2 : Int) : Prop where
  ex : ∃ st k : Nat, low ≤ st ∧ st < hi ∧ st + k ≤ en ∧ 2 ≤ k ∧ b0 = (st : Int) ∧ b1 = ps.getD st 0 ∧ b2 = (k : Int) ∧ runs ps st k ∧
    ∀ st' k', low ≤ st' → st' < hi → st' + k' ≤ en → 2 ≤ k' → runs ps st' k' → k' < k ∨ (k' = k ∧ st ≤ st')
structure LC where
  T : Addr
  b0 : Int
  b1 : Int
  b2 : Int
  t0 : Tok
  t1 : Tok
  t2 : Tok
abbrev tup3 (a b c : Value) : Obj := { cls := .type "tuple", data := .seq #[a, b, c] }
noncomputable def LInv (ps : List Int) (low en i : Nat) (c : LC) : Prop := (i = 0 ∧ c.b2 = 0) ∨ LongTo ps low en (low + i) c.b0 c.b1 c.b2
theorem run_of {ps : List Int} {S k : Nat} (h : ∀ q, 2 ≤ q → q < k → ps.getD (S + q - 1) 0 = ps.getD S 0 + (q : Int) - 1) : runs ps S k := by
  intro q hq
  by_cases h0 : q = 0
  · subst h0; simp
  · have := h (q + 1) (by lia) (by lia)
    rw [show S + (q + 1) - 1 = S + q by lia] at this
    rw [this]; lia
theorem run_max {ps : List Int} {S k en k' : Nat} (hx : S + k < en → ¬ ps.getD (S + k - 1) 0 = ps.getD S 0 + (k : Int) - 1) (h2 : 2 ≤ k) (hr : runs ps S k') (he : S + k' ≤ en) : k' ≤ k := by
  by_cases h : k' ≤ k
  · exact h
  · exfalso
    refine hx (by lia) ?_
    have := hr (k - 1) (by lia)
    rw [show S + (k - 1) = S + k - 1 by lia] at this
    rw [this]; lia
theorem linv_new {ps : List Int} {low en i k : Nat} {c : LC} (h : LInv ps low en i c) (hr : runs ps (low + i) k) (h2 : 2 ≤ k) (he : low + i + k ≤ en) (hm : ∀ k', low + i + k' ≤ en → runs ps (low + i) k' → k' ≤ k) (hlt : c.b2 < (k : Int)) (T : Addr) (t0 t1 t2 : Tok) :
    LInv ps low en (i + 1) ⟨T, (low : Int) + (i : Int), ps.getD (low + i) 0, (k : Int), t0, t1, t2⟩ := by
  refine .inr ⟨low + i, k, by lia, by lia, he, h2, by simp, rfl, rfl, hr, fun st' k' h1 h3 h4 h5 h6 => ?_⟩
  by_cases hs : st' = low + i
  · subst hs
    have := hm k' h4 h6
    lia
  · rcases h with ⟨rfl, _⟩ | ⟨st, k0, q1, q2, q3, q4, q5, q6, q7, q8, q9⟩
    · lia
    · have := q9 st' k' h1 (by lia) h4 h5 h6
      lia
theorem linv_old {ps : List Int} {low en i k : Nat} {c : LC} (h : LInv ps low en i c) (h2 : 2 ≤ k) (hm : ∀ k', low + i + k' ≤ en → runs ps (low + i) k' → k' ≤ k) (hlt : ¬ c.b2 < (k : Int)) : LInv ps low en (i + 1) c := by
  rcases h with ⟨_, h0⟩ | ⟨st, k0, q1, q2, q3, q4, q5, q6, q7, q8, q9⟩
  · lia
  · refine .inr ⟨st, k0, q1, by lia, q3, q4, q5, q6, q7, q8, fun st' k' h1 h3 h4 h5 h6 => ?_⟩
    by_cases hs : st' = low + i
    · subst hs
      have := hm k' h4 h6
      lia
    · exact q9 st' k' h1 (by lia) h4 h5 h6
theorem frame_ex {h₀ h : Heap} {L : Addr} {m : Str → Option Value} (F : Fr h₀ L h m) : ∃ m', Fr h₀ L h m' ∧ ∀ z, m' z = m z := ⟨m, F, fun _ => rfl⟩
theorem range_n {a n : Nat} {b : Int} (h : b = (a : Int) + (n : Int)) : Builtin.Range.rangeSize (a : Int) b 1 = (n : Int) := by
  unfold Builtin.Range.rangeSize
  rw [if_pos (by decide)]
  split
  · rw [Int.ediv_one]; lia
  · lia
theorem lng_call {w : World} {loose : List Str} {mean : ExcName → Option Value} {mg mb : Str → Option Value}
    {dp un : Nat} {gd : Option (List Code)} {cn : Str} {cs : Scope} {a : Addr} {ccd : Value} {cl : List (Str × Addr)} {outer : List Env} {A₀ : Around} {base h₀ : Heap} {L : Addr} {m : Str → Option Value} {s : Shared} {Q E : Value → Shared → Prop} {news : List (Addr × Obj)}
    (B : Below A₀ base outer h₀) (F : Fr h₀ L s.heap m) (X : (Mine.K w.params).In h₀) (N : News h₀ L s.heap news) (T : Top Mine.q loose mean mg mb h₀) (hk : cs.kind = .function)
    {pl : Addr} {vs : List Value} {ps : List Int} {nv low en : Nat} {t u : Tok} {rest : List (Addr × Obj)} (hnews : news = (pl, W.listOf vs.toArray nv) :: rest) (hv : IntsAre vs ps) (h1 : low + 2 ≤ en) (h2 : en ≤ ps.length + 1) (h3 : ps.length ≤ 1000) (hdp : dp + 20 < recursionLimit) (hun : un + 100 < cLine)
    (hret : ∀ (c : LC) h' tk', LongTo ps low en (en - 1) c.b0 c.b1 c.b2 → Fr h₀ L h' m → News h₀ L h' ((c.T, tup3 (.int c.b0 c.t0) (.int c.b1 c.t1) (.int c.b2 c.t2)) :: news) → Q (.ref c.T) { s with heap := h', toks := tk' }) :
    wpAny (model PySem.Challenge.rw_rt0114_01.row.prog w) (ktrTop dp un gd cn cs L a ccd cl outer) (call (.ref 309) [.ref pl, .int (low : Int) t, .int (en : Int) u]) Q E s := by
  k_with_none
  k_with "k_room" => (ktr_room)
  k_with "pyIter ref" => (refine Mine.hold ?_)
  k_with "exec While" => (refine Mine.hold ?_)
  k_with "NoTurn" => (refine Mine.hold ?_)
  k_with "LPost" => (refine Mine.hold ?_)
  k_with "k_lt" => (intro ltq9; ((try (have hne9 := Mine.own_ne (by assumption) ltq9 (by (intro p hp; repeat (first | exact hp | refine Mine.mem_tail ?_))))); replace ltq9 := allLt_of ltq9; simp only [AllLt, and_true] at ltq9))
  k_with "k_mem" => (first | with_reducible assumption | exact Mine.mem_head | (refine Mine.mem_tail ?_; k_mem))
  k_with "k_all" => (with_reducible assumption)
  k_with "call type:range" => (k_here; (rename Fr _ _ _ _ => F'); (rename News _ _ _ _ => N'); first | (with_unfolding_all refine range1_rows F' N' ?_; intro _ _ _ _ _ _ _ _ _) | (with_unfolding_all refine range2_rows F' N' ?_; intro _ _ _ _ _ _ _ _ _))
  k_with "binaryOp Add ref ref" => (k_here; (with_reducible show wpAny _ _ (binaryOp _ (Value.ref _) (Value.ref _)) _ _ _); k_dflt (refine' Mine.add_L ?k1 ?k2 ?a ?b ?z ?_; (case k1 => k_asm); (case k2 => k_asm); (case a => k_mem); (case b => k_mem); (case z => (simp only [List.length_cons, List.length_nil, List.length_append]; lia)); k_whole); intro d' h' F' N' l1; (try k_lt l1); (try k_sweep))
  k_with "call builtin:list.append" => (k_here; (with_reducible show wpAny _ _ (call (Value.builtin _) [Value.ref _, _]) _ _ _); k_dflt (refine' Mine.append_L ?k1 ?k2 ?k3 ?z ?_; (case k1 => k_asm); (case k2 => k_asm); (case k3 => k_upd); (case z => first | lia | (simp only [List.length_cons, List.length_nil, List.length_append]; lia)); k_whole); intro h' F' N'; (try k_sweep))
  k_with "call builtin:list.extend" => (k_here; (with_reducible show wpAny _ _ (call (Value.builtin _) [Value.ref _, Value.ref _]) _ _ _); k_dflt (refine' Mine.extend_L ?k1 ?k2 ?b ?ne ?k3 ?z ?_; (case k1 => k_asm); (case k2 => k_asm); (case b => k_mem); (case ne => first | exact Nat.succ_ne_zero _ | lia); (case k3 => k_upd); (case z => (simp only [List.length_cons, List.length_nil, List.length_append]; lia)); k_whole); intro h' F' N'; (try k_sweep))
  k_with "eval Name" => (k_here; k_dflt (refine' ld ?k1 ?k2 ?_; (case k1 => k_asm); (case k2 => first | exact rfl | assumption | (dsimp only; (repeat rw [if_neg (by decide)]); first | assumption | (rw [if_pos rfl]))); k_whole))
  k_with "loadName" => (k_here; k_dflt (refine' ldn ?k1 ?k2 ?_; (case k1 => k_asm); (case k2 => first | exact rfl | assumption | (dsimp only; (repeat rw [if_neg (by decide)]); first | assumption | (rw [if_pos rfl]))); k_whole))
  k_with "subscriptTail Name Name ref int" => (refine Mine.hold ?_)
  k_with "subscriptTail Name BinOp ref int" => (refine Mine.hold ?_)
  k_with "newTuple" => (k_here; k_dflt (refine' kup_newTuple ?F ?N ?_ ?z; (case F => k_asm); (case N => k_asm); (case z => kmk_size)); intro D' h' F' N' l1; (try k_lt l1); (try k_sweep))
  k_with "Skip" => (refine Mine.hold ?_)
  revert X; k_fill; intro X
  refine wpAny_call ?_
  k_dflt (refine' callX_ext B F X N T ?kA ?kF ?kK ?k6 ?k7 ?k8 ?k9 ?kB ?_ ?c2 ?c3 ?c4 ?c5; (case kA => exact rfl); (case kF => exact rfl); (case kK => assumption); (case k6 => k_is); (case k7 => k_is); (case k8 => ktr_room); (case k9 => first | exact BindsTo.of_eq rfl | exact binds_K (by k_in) rfl (by k_is) rfl rfl rfl); (case c5 => decide); (case kB => exact locs rfl); (case c2 => exact rfl); (case c3 => exact rfl); (case c4 => exact rfl); k_whole)
  intro g' L' h' FG' F' N' B' X' T' hg' hL'
  (try dsimp only); (try k_fold); (conv in (execs _ _) => arg 1; whnf)
  subst hnews
  k_steps
  refine unhold ?_
  rename Fr _ _ _ _ => lF
  rename News _ _ _ _ => lN
  rename IsRange _ _ _ _ _ _ _ _ => lR
  refine' my_range (σ := LC) (n := en - 1 - low) (fun c => [(Str.ofString "best", .ref c.T)]) (fun c => [(c.T, tup3 (.int c.b0 c.t0) (.int c.b1 c.t1) (.int c.b2 c.t2))]) [Str.ofString "size"] (fun i c => LInv ps low en i c) (fun _ => False) (LC.mk _ _ _ _ _ _ _) (by rfl) lR ?hs ?hn lF lN ?ho ?hk ?hi ?turn ?done
  case hs => exact small_one (by lia) (by lia) (by lia) (by lia)
  case hn => exact range_n (by lia)
  case ho =>
    rename _ < _ ∧ AllLt _ rest => lD
    exact off_one (List.forall_mem_cons.mpr ⟨Nat.ne_of_lt lD.1, fun p hp => Nat.ne_of_lt (allLt_mem lD.2 p hp)⟩)
  case hk => exact List.forall_mem_cons.mpr ⟨by ((try dsimp only); (repeat rw [if_neg (by decide)]); first | done | assumption | (rw [if_pos rfl]; done) | (rw [if_pos rfl]; exact rfl) | exact rfl), List.forall_mem_nil _⟩
  case hi => exact .inl ⟨rfl, rfl⟩
  case turn =>
    intro i k t9 c u9 h9 tk9 own hi hk9 hI hoff hrest F9 N9
    clear lF lN lR
    have hmk : OwnMark own := ⟨⟩
    have hoff9 := of_off_one hoff
    clear hoff
    simp only [List.cons_append, List.nil_append] at N9
    replace F9 : Fr g' L' h9 _ := F9
    replace N9 : News g' L' h9 _ := N9
    subst hk9
    have hpl : (pl, W.listOf vs.toArray nv) ∈ own := hrest _ (.head _)
    have g2 : ((low : Int) + (i : Int)).toNat = low + i := by lia
    k_steps
    refine unhold ?_
    (with_reducible rename Fr _ _ _ _ => wF)
    (with_reducible rename News _ _ _ _ => wN)
    obtain ⟨mm, wG, hmm⟩ := frame_ex wF
    clear wF
    refine my_skip (x := ("size" : Str)) (fun q => low + i + q < en ∧ ps.getD (low + i + q - 1) 0 = ps.getD (low + i) 0 + (q : Int) - 1) (en - (low + i)) 2 wG wN ((hmm _).trans (by ((try dsimp only); (repeat rw [if_neg (by decide)]); first | done | assumption | (rw [if_pos rfl]; done) | (rw [if_pos rfl]; exact rfl) | exact rfl))) (by lia) ?turna
    case turna =>
      intro k8 t8 h8 tk8 m8 hk1 hk2 hkC hkx hkz F8 N8
      have z1 : m8 ("start" : Str) = some (.int ((low : Int) + (i : Int)) t9) := ((hkz _ (by decide)).trans (hmm _)).trans (by ((try dsimp only); (repeat rw [if_neg (by decide)]); first | done | assumption | (rw [if_pos rfl]; done) | (rw [if_pos rfl]; exact rfl) | exact rfl))
      have z2 : m8 ("end" : Str) = some (.int (en : Int) u) := ((hkz _ (by decide)).trans (hmm _)).trans (by ((try dsimp only); (repeat rw [if_neg (by decide)]); first | done | assumption | (rw [if_pos rfl]; done) | (rw [if_pos rfl]; exact rfl) | exact rfl))
      have z3 : m8 ("places" : Str) = some (.ref pl) := ((hkz _ (by decide)).trans (hmm _)).trans (by ((try dsimp only); (repeat rw [if_neg (by decide)]); first | done | assumption | (rw [if_pos rfl]; done) | (rw [if_pos rfl]; exact rfl) | exact rfl))
      have z4 : m8 ("best" : Str) = some (.ref c.T) := ((hkz _ (by decide)).trans (hmm _)).trans (by ((try dsimp only); (repeat rw [if_neg (by decide)]); first | done | assumption | (rw [if_pos rfl]; done) | (rw [if_pos rfl]; exact rfl) | exact rfl))
      have hruns : runs ps (low + i) k8 := run_of fun q q1 q2 => (hkC q q1 q2).2
      clear wG wN
      by_cases hb : low + i + k8 < en
      · have g1 : ((low : Int) + (i : Int) + (k8 : Int) - 1).toNat = low + i + k8 - 1 := by lia
        k_steps
        all_goals (try (exfalso; lia))
        refine unhold ?_
        (with_reducible rename Fr _ _ _ _ => eF)
        (with_reducible rename News _ _ _ _ => eN)
        refine item_ints eN (by k_mem) hv (by lia) (by lia) (by lia) ?_
        intro ta
        rw [g1]
        try dsimp only
        k_steps
        refine unhold ?_
        (with_reducible rename Fr _ _ _ _ => eF)
        (with_reducible rename News _ _ _ _ => eN)
        refine item_ints eN (by k_mem) hv (by lia) (by lia) (by lia) ?_
        intro tb
        rw [g2]
        try dsimp only
        by_cases hC : ps.getD (low + i + k8 - 1) 0 = ps.getD (low + i) 0 + (k8 : Int) - 1
        · k_steps
          all_goals (try (exfalso; lia))
          refine unhold ?_
          (with_reducible rename Fr _ _ _ _ => eF)
          (with_reducible rename News _ _ _ _ => eN)
          exact skip_intro (by lia) ⟨hb, hC⟩ eF eN (fun p hp => hp) (by ((try dsimp only); (repeat rw [if_neg (by decide)]); first | done | assumption | (rw [if_pos rfl]; done) | (rw [if_pos rfl]; exact rfl) | exact rfl)) (fun z hz => by dsimp only; rw [if_neg hz]; exact hkz z hz)
        · have hmax : ∀ k', low + i + k' ≤ en → runs ps (low + i) k' → k' ≤ k8 := fun k' q1 q2 => run_max (fun _ => hC) hk1 q2 q1
          by_cases hbb : c.b2 < (k8 : Int)
          · k_steps
            all_goals (try (exfalso; lia))
            refine unhold ?_
            (with_reducible rename Fr _ _ _ _ => eF)
            (with_reducible rename News _ _ _ _ => eN)
            refine item_ints eN (by k_mem) hv (by lia) (by lia) (by lia) ?_
            intro tq
            rw [g2]
            k_steps
            refine unhold ?_
            (with_reducible rename Fr _ _ _ _ => eF)
            (with_reducible rename News _ _ _ _ => eN)
            refine' lpost_next (LC.mk _ _ _ _ _ _ _) eF eN (led_one (by k_mem)) (fun _ h => .tail _ (.tail _ h)) (off_one (by with_reducible assumption)) ?ek ?ez ?ei
            case ek => exact List.forall_mem_cons.mpr ⟨by ((try dsimp only); (repeat rw [if_neg (by decide)]); first | done | assumption | (rw [if_pos rfl]; done) | (rw [if_pos rfl]; exact rfl) | exact rfl), List.forall_mem_nil _⟩
            case ez =>
              intro z w1 w2 w3
              simp only [List.forall_mem_cons] at w2
              obtain ⟨y1, -⟩ := w2
              have y2 := not_in w3 (a := Str.ofString "size") (by simp)
              show (if z = _ then _ else m8 z) = _
              rw [if_neg y1, hkz z y2, hmm z]
              simp only [kstB, w1, y1, y2, w3, if_false, Bool.false_eq_true]
            case ei => exact linv_new hI hruns hk1 (by lia) hmax hbb _ _ _ _
          · k_steps
            all_goals (try (exfalso; lia))
            refine unhold ?_
            (with_reducible rename Fr _ _ _ _ => eF)
            (with_reducible rename News _ _ _ _ => eN)
            refine' lpost_next c eF eN (led_one (by k_mem)) (fun _ h => .tail _ h) (off_one hoff9) ?ek ?ez ?ei
            case ek => exact List.forall_mem_cons.mpr ⟨by ((try dsimp only); (repeat rw [if_neg (by decide)]); first | done | assumption | (rw [if_pos rfl]; done) | (rw [if_pos rfl]; exact rfl) | exact rfl), List.forall_mem_nil _⟩
            case ez =>
              intro z w1 w2 w3
              simp only [List.forall_mem_cons] at w2
              obtain ⟨y1, -⟩ := w2
              have y2 := not_in w3 (a := Str.ofString "size") (by simp)
              rw [hkz z y2, hmm z]
              simp only [kstB, w1, y1, y2, w3, if_false, Bool.false_eq_true]
            case ei => exact linv_old hI hk1 hmax hbb
      · have hmax : ∀ k', low + i + k' ≤ en → runs ps (low + i) k' → k' ≤ k8 := fun k' q1 q2 => by lia
        by_cases hbb : c.b2 < (k8 : Int)
        · k_steps
          all_goals (try (exfalso; lia))
          refine unhold ?_
          (with_reducible rename Fr _ _ _ _ => eF)
          (with_reducible rename News _ _ _ _ => eN)
          refine item_ints eN (by k_mem) hv (by lia) (by lia) (by lia) ?_
          intro tq
          rw [g2]
          k_steps
          refine unhold ?_
          (with_reducible rename Fr _ _ _ _ => eF)
          (with_reducible rename News _ _ _ _ => eN)
          refine' lpost_next (LC.mk _ _ _ _ _ _ _) eF eN (led_one (by k_mem)) (fun _ h => .tail _ (.tail _ h)) (off_one (by with_reducible assumption)) ?ek ?ez ?ei
          case ek => exact List.forall_mem_cons.mpr ⟨by ((try dsimp only); (repeat rw [if_neg (by decide)]); first | done | assumption | (rw [if_pos rfl]; done) | (rw [if_pos rfl]; exact rfl) | exact rfl), List.forall_mem_nil _⟩
          case ez =>
            intro z w1 w2 w3
            simp only [List.forall_mem_cons] at w2
            obtain ⟨y1, -⟩ := w2
            have y2 := not_in w3 (a := Str.ofString "size") (by simp)
            show (if z = _ then _ else m8 z) = _
            rw [if_neg y1, hkz z y2, hmm z]
            simp only [kstB, w1, y1, y2, w3, if_false, Bool.false_eq_true]
          case ei => exact linv_new hI hruns hk1 (by lia) hmax hbb _ _ _ _
        · k_steps
          all_goals (try (exfalso; lia))
          refine unhold ?_
          (with_reducible rename Fr _ _ _ _ => eF)
          (with_reducible rename News _ _ _ _ => eN)
          refine' lpost_next c eF eN (led_one (by k_mem)) (fun _ h => .tail _ h) (off_one hoff9) ?ek ?ez ?ei
          case ek => exact List.forall_mem_cons.mpr ⟨by ((try dsimp only); (repeat rw [if_neg (by decide)]); first | done | assumption | (rw [if_pos rfl]; done) | (rw [if_pos rfl]; exact rfl) | exact rfl), List.forall_mem_nil _⟩
          case ez =>
            intro z w1 w2 w3
            simp only [List.forall_mem_cons] at w2
            obtain ⟨y1, -⟩ := w2
            have y2 := not_in w3 (a := Str.ofString "size") (by simp)
            rw [hkz z y2, hmm z]
            simp only [kstB, w1, y1, y2, w3, if_false, Bool.false_eq_true]
          case ei => exact linv_old hI hk1 hmax hbb
  case done =>
    intro c u9 h8 tk8 hI hoff F8 N8
    clear lF lN lR
    simp only [List.cons_append, List.nil_append] at N8
    replace F8 : Fr g' L' h8 _ := F8
    replace N8 : News g' L' h8 _ := N8
    replace hI := hI.resolve_right id
    k_steps
    (with_reducible rename Fr h₀ L _ m => kF)
    (with_reducible rename News h₀ L _ _ => kN)
    have hL : LongTo ps low en (en - 1) c.b0 c.b1 c.b2 := by
      rcases hI with ⟨h0, _⟩ | h
      · lia
      · rw [show low + (en - 1 - low) = en - 1 by lia] at h
        exact h
    exact hret c _ _ hL kF (fun p hp => kN p (by first | exact hp | exact .tail _ hp))
  k_with_none
end Mine

end TLawLng
section TLawFlat
open PySem PySem.W PyProof.Rows PySem.Calls PySem.Spec
set_option Elab.async false
set_option maxRecDepth 100000
namespace Mine
section
variable {prog : Program} {w : World} {A : Around} {E : Value → Shared → Prop} {s : Shared} {env : Env} {h₀ : Heap} {x : Str} {body : List Stmt} {Q : Flow → Shared → Prop}
end
end Mine

end TLawFlat
section TLawZip0
open PySem PySem.W PyProof.Rows PySem.Calls
set_option Elab.async false
set_option maxRecDepth 100000
set_option maxHeartbeats 4000000
namespace Mine
theorem zip_keys_miss : typeLookup (.type "zip") ("keys" : Str) = pure none := am_miss_of_fast (by kernel_rfl)
theorem zip_getattr_none : typeLookup (.type "zip") "__getattr__" = pure none := by rw [typeLookup_type, builtinLookup_eq_fast]; kernel_rfl
abbrev zipObj (vs : Array Value) : Obj := { cls := .type "zip", dict := none, data := .fields vs, slots := #[] }
theorem zip_ga_miss (z : Addr) (vs : Array Value) (u : Tok) :
    Meets (Builtin.«object.__getattribute__» ⟨[.ref z, .str ("keys" : Str) u], []⟩) (fun A R s => s.heap.get? z = some (zipObj vs) ∧ raisesAttr (.ref z) ("keys" : Str) A R s) :=
  Meets.of_wp fun prog w A R s hs => by
    obtain ⟨hz, hs⟩ := hs
    have hmiss := zip_keys_miss
    obtain ⟨hp, g, d, tk, os⟩ := s
    have hT : (⟨hp, g, d, tk, os⟩ : Shared).TypeIs (.ref z) "zip" := ⟨_, hz, rfl⟩
    have hsz : ("keys" : Str).length + 100 ≤ sizeLine := by size_fits
    unfold Builtin.«object.__getattribute__»
    repeat (any_goals (first | assumption | wp_step))
    exact wpAny_raiseAttrError hs.1 hs.2 (attrMsg_fits (by decide +kernel) hsz)
theorem zip_entry_ga : entryFor table "zip.__getattribute__" = some Builtin.«object.__getattribute__» :=
  entryFor_alias (id' := "object.__getattribute__") (by rw [fastTable_eq_tree]; kernel_rfl) (by first | rfl | decide +kernel) (by decide +kernel) (by rw [fastTable_eq_tree]; kernel_rfl)
theorem zip_no_keys {prog : Program} {w : World} {A : Around} {E : Value → Shared → Prop} {s : Shared} {z : Addr} {vs : Array Value} {Q : Option Value → Shared → Prop} (hz : s.heap.get? z = some (zipObj vs)) (hA : A.handled = none)
    (h : ∀ h' tk, (∀ b o, s.heap.get? b = some o → h'.get? b = some o) → Q none { s with heap := h', toks := tk }) : wpAny (model prog w) A (getAttr? (.ref z) ("keys" : Str)) Q E s := by
  obtain ⟨hp, g, d, tk, os⟩ := s
  have hT : (⟨hp, g, d, tk, os⟩ : Shared).TypeIs (.ref z) "zip" := ⟨_, hz, rfl⟩
  have hT2 : ∀ t', (⟨hp, g, d, t', os⟩ : Shared).TypeIs (.ref z) "zip" := fun _ => ⟨_, hz, rfl⟩
  have f1 := sub_AttributeError
  have f3 := F.slot_zip_getattribute.lookup
  have f4 := F.slot_zip_getattribute.bind (.ref z)
  have f5 := zip_getattr_none
  unfold getAttr? getAttrBy? getAttrBy
  repeat (any_goals (first | assumption | ((with_reducible show wpAny _ _ (call (Value.builtin "zip.__getattribute__") _ _) _ _ _); refine call_meets F.slot_zip_getattribute (hT2 _) zip_entry_ga (F.args_zip_getattribute_2 _ _) (zip_ga_miss z vs _) ⟨hz, hA, fun h' tk' e hx => ?_⟩) | wp_step))
  obtain ⟨t', u', he⟩ := hx.there
  show wpAny _ _ (getattributeRaised _ _ _ _ _ _ _) _ _ _
  unfold getattributeRaised
  repeat (any_goals (first | assumption | wp_step))
  exact h _ _ hx.keeps
section
variable {prog : Program} {w : World} {A : Around} {E : Value → Shared → Prop} {s : Shared}
theorem nextOf_range {it : Addr} {x left step : Int} {Q : Value → Shared → Prop} (hit : IsRangeIter s.heap it x left step) (hleft : 0 < left)
    (hQ : ∀ h', IsRangeIter h' it (x + step) (left - 1) step → Heap.SameBut it s.heap h' → Q (.int x s.toks) { s with heap := h', toks := s.toks + 1 }) :
    wpAny (model prog w) A (Builtin.SmallTypes.nextOf (.ref it)) Q E s := by
  have hT : s.TypeIs (.ref it) "range_iterator" := ⟨_, hit, rfl⟩
  unfold Builtin.SmallTypes.nextOf
  refine wpAny_bind (wpAny_callSpecial?_slot (name := Str.ofString "__next__") hT F.slot_range_iterator_next
    (call_meets F.slot_range_iterator_next hT F.entry_range_iterator_next (F.args_range_iterator_next_1 _) (AutoRange.range_iterator___next___range_iterator_1 it x left step (by lia)) ⟨hit, ?_⟩))
  exact wpAny_pure (hQ _ (Heap.get?_update_self _ (Heap.get?_update_self _ hit rfl) rfl) ((Heap.SameBut.update ..).trans (Heap.SameBut.update ..)))
structure ZA (z TI TO i1 i2 l : Addr) : Prop where
  TIz : TI ≠ z
  TOz : TO ≠ z
  i1z : i1 ≠ z
  i2z : i2 ≠ z
  TITO : TI ≠ TO
  TIi1 : TI ≠ i1
  TIi2 : TI ≠ i2
  TOi1 : TO ≠ i1
  TOi2 : TO ≠ i2
  i12 : i1 ≠ i2
  lz : l ≠ z
  lTO : l ≠ TO
  li1 : l ≠ i1
  li2 : l ≠ i2
theorem range_ext {h h' : Heap} {a it : Addr} {x left step : Int} (hr : IsRangeIter h it x left step) (hs : Heap.SameBut a h h') (hne : it ≠ a) : IsRangeIter h' it x left step := hs.extBut _ _ hne hr
theorem zip_first {z TI TO i1 i2 l : Addr} {k1 : Nat} {xs : Array Value} {x a b : Value} {y left : Int} {Q : Value → Shared → Prop} (D : ZA z TI TO i1 i2 l)
    (hz : IsZip s.heap z TI TO .none) (hTI : IsPair s.heap TI (.ref i1) (.ref i2)) (hTO : IsPair s.heap TO a b)
    (h1 : s.heap.IsListIter i1 l k1) (h2 : IsRangeIter s.heap i2 y left 1) (hl : s.heap.IsList l xs) (hx : xs[k1]? = some x) (hy : 0 < left)
    (hQ : ∀ h' tk, IsZip h' z TI TO (rawInt s.heap.objs.size) → (∃ a b, IsPair h' TO a b) → h'.IsListIter i1 l (k1 + 1) → IsRangeIter h' i2 (y + 1) (left - 1) 1 → (∃ t, IsPair h' s.heap.objs.size x (.int y t)) →
      (∀ c o, c ≠ z → c ≠ TO → c ≠ i1 → c ≠ i2 → s.heap.get? c = some o → h'.get? c = some o) → Q (.ref s.heap.objs.size) { s with heap := h', toks := tk }) :
    wpAny (model prog w) A (Builtin.«zip.__next__» ⟨[.ref z], []⟩) (fun fin s' => ∃ v, fin = .done (.ret v) ∧ Q v s') E s := by
  show wpAny _ _ (field (.ref z) 2 >>= _) _ _ _
  refine wpAny_bind (wpAny_field hz rfl (x := .bool false) rfl ?_)
  show wpAny _ _ (field (.ref z) 3 >>= _) _ _ _
  refine wpAny_bind (wpAny_field hz rfl (x := .ref TI) rfl ?_)
  refine wpAny_bind (wpAny_seqItems hTI rfl ?_)
  show wpAny _ _ (Builtin.SmallTypes.ownedTupleIsFree (.ref z) >>= _) _ _ _
  refine wpAny_bind ?_
  unfold Builtin.SmallTypes.ownedTupleIsFree
  refine wpAny_bind (wpAny_field hz rfl (x := .none) rfl (wpAny_pure ?_))
  simp only [if_true]
  refine wpAny_bind (wpAny_rule ?_)
  refine wpAny_bind (wpAny_field hz rfl (x := .ref TO) rfl ?_)
  refine wpAny_bind (wpAny_setField_rec hz (by simp) fun h₁ hz₁ hs₁ => ?_)
  replace hz₁ : IsZip h₁ z TI TO .ellipsis := hz₁
  refine wpAny_bind ?_
  simp only [List.zipIdx_cons, List.zipIdx_nil, List.forIn_cons, List.forIn_nil]
  refine wpAny_bind (wpAny_bind (wpAny_onRaise ?_))
  show wpAny _ _ (Builtin.SmallTypes.nextOf (.ref i1) >>= _) _ _ _
  refine wpAny_bind (wpAny_nextOf_list_item (h1.extBut hs₁.extBut D.i1z) (hl.extBut hs₁.extBut D.lz) hx fun h₂ h1₂ hs₂ => wpAny_pure ?_)
  have hTO₂ : IsPair h₂ TO a b := hs₂.extBut _ _ D.TOi1 (hs₁.extBut _ _ D.TOz hTO)
  refine wpAny_bind (wpAny_seqItems hTO₂ rfl ?_)
  refine wpAny_bind (wpAny_updateSeq_pair hTO₂ fun h₃ hTO₃ hs₃ => ?_)
  replace hTO₃ : IsPair h₃ TO x b := hTO₃
  refine wpAny_bind (wpAny_letGo (wpAny_pure ?_))
  refine wpAny_bind (wpAny_bind (wpAny_onRaise ?_))
  show wpAny _ _ (Builtin.SmallTypes.nextOf (.ref i2) >>= _) _ _ _
  refine wpAny_bind (nextOf_range (range_ext (range_ext (range_ext h2 hs₁ D.i2z) hs₂ D.i12.symm) hs₃ D.TOi2.symm) hy fun h₄ h2₄ hs₄ => wpAny_pure ?_)
  have hTO₄ : IsPair h₄ TO x b := hs₄.extBut _ _ D.TOi2 hTO₃
  refine wpAny_bind (wpAny_seqItems hTO₄ rfl ?_)
  refine wpAny_bind (wpAny_updateSeq_pair hTO₄ fun h₅ hTO₅ hs₅ => ?_)
  replace hTO₅ : IsPair h₅ TO x (.int y s.toks) := hTO₅
  refine wpAny_bind (wpAny_letGo (wpAny_pure (wpAny_pure ?_)))
  refine wpAny_bind (wpAny_seqItems hTO₅ rfl ?_)
  refine wpAny_bind (wpAny_newTuple ?_)
  have hsz : h₅.objs.size = s.heap.objs.size := by rw [hs₅.1, hs₄.1, hs₃.1, hs₂.1, hs₁.1]
  have hz₅ : IsZip h₅ z TI TO .ellipsis := hs₅.extBut _ _ D.TOz.symm (hs₄.extBut _ _ D.i2z.symm (hs₃.extBut _ _ D.TOz.symm (hs₂.extBut _ _ D.i1z.symm hz₁)))
  have hk₅ : ∀ c o, c ≠ z → c ≠ TO → c ≠ i1 → c ≠ i2 → s.heap.get? c = some o → h₅.get? c = some o := fun c o c1 c2 c3 c4 e =>
    hs₅.extBut _ _ c2 (hs₄.extBut _ _ c4 (hs₃.extBut _ _ c2 (hs₂.extBut _ _ c3 (hs₁.extBut _ _ c1 e))))
  have h1₅ : h₅.IsListIter i1 l (k1 + 1) := ((h1₂.extBut hs₃.extBut D.TOi1.symm).extBut hs₄.extBut D.i12).extBut hs₅.extBut D.TOi1.symm
  have h2₅ : IsRangeIter h₅ i2 (y + 1) (left - 1) 1 := range_ext h2₄ hs₅ D.TOi2.symm
  have hzlt : z < h₅.objs.size := Heap.lt_size hz₅
  show wpAny _ _ (Builtin.SmallTypes.ownedTupleHandOut (.ref z) (.ref h₅.objs.size) >>= _) _ _ _
  refine wpAny_bind ?_
  unfold Builtin.SmallTypes.ownedTupleHandOut
  have hz₆ : IsZip (h₅.push { cls := .type "tuple", data := .seq #[x, .int y s.toks] }) z TI TO .ellipsis := Heap.get?_push_of_some _ hz₅
  refine wpAny_bind (wpAny_setField_rec hz₆ (by simp) fun h₇ hz₇ hs₇ => ?_)
  replace hz₇ : IsZip h₇ z TI TO (rawInt h₅.objs.size) := hz₇
  refine wpAny_setField_rec hz₇ (by simp) fun h₈ hz₈ hs₈ => ?_
  replace hz₈ : IsZip h₈ z TI TO (rawInt h₅.objs.size) := hz₈
  have up : ∀ c o, c ≠ z → h₅.get? c = some o → h₈.get? c = some o := fun c o c1 e => hs₈.extBut _ _ c1 (hs₇.extBut _ _ c1 (Heap.get?_push_of_some _ e))
  have hT₈ : IsPair h₈ h₅.objs.size x (.int y s.toks) := hs₈.extBut _ _ (Nat.ne_of_gt hzlt) (hs₇.extBut _ _ (Nat.ne_of_gt hzlt) (Heap.get?_push_size _ rfl))
  rw [hsz] at hz₈ hT₈
  refine wpAny_pure ⟨_, rfl, ?_⟩
  show Q (.ref h₅.objs.size) _
  rw [hsz]
  exact hQ h₈ _ hz₈ ⟨_, _, up _ _ D.TOz hTO₅⟩ (h1₅.at fun o e => up _ o D.i1z e) (up _ _ D.i2z h2₅) ⟨_, hT₈⟩ fun c o c1 c2 c3 c4 e => up c o c1 (hk₅ c o c1 c2 c3 c4 e)
end
end Mine

end TLawZip0
section TLawZip2
open PySem PySem.W PyProof.Rows PySem.Calls
set_option Elab.async false
set_option maxRecDepth 100000
set_option maxHeartbeats 4000000
namespace Mine
section
variable {prog : Program} {w : World} {A : Around} {E : Value → Shared → Prop} {s : Shared}
abbrev zipMore (T TI TO : Addr) (f : Bool) : Obj := zipObj #[rawInt T, .bool f, .bool false, .ref TI, .ref TO]
theorem not_free {z T TI TO : Addr} {f : Bool} {oT : Obj} {Q : Bool → Shared → Prop} (hz : s.heap.get? z = some (zipMore T TI TO f)) (hT : s.heap.get? T = some oT)
    (h : ∀ h', h'.get? z = some (zipMore T TI TO true) → Heap.SameBut z s.heap h' → Q false { s with heap := h' }) : wpAny (model prog w) A (Builtin.SmallTypes.ownedTupleIsFree (.ref z)) Q E s := by
  unfold Builtin.SmallTypes.ownedTupleIsFree
  refine wpAny_bind (wpAny_field hz rfl (x := rawInt T) rfl ?_)
  show wpAny _ _ (loadIfAlive ((T : Int).toNat) >>= _) _ _ _
  refine wpAny_bind (kdx_alive hT ?_)
  show wpAny _ _ (field (.ref z) 1 >>= _) _ _ _
  refine wpAny_bind (wpAny_field hz rfl (x := .bool f) rfl ?_)
  cases f with
  | true =>
    rw [if_neg (by decide)]
    exact wpAny_pure (h s.heap hz ⟨rfl, fun _ _ => rfl⟩)
  | false =>
    rw [if_pos (by decide)]
    exact wpAny_bind (wpAny_setField_rec hz (by simp) fun h' hz' hs' => wpAny_pure (h h' hz' hs'))
theorem zip_more {z T TI TO i1 i2 l : Addr} {f : Bool} {oT : Obj} {k1 : Nat} {xs : Array Value} {x : Value} {y left : Int} {Q : Value → Shared → Prop} (D : ZA z TI TO i1 i2 l)
    (hz : s.heap.get? z = some (zipMore T TI TO f)) (hT : s.heap.get? T = some oT) (hTI : IsPair s.heap TI (.ref i1) (.ref i2))
    (h1 : s.heap.IsListIter i1 l k1) (h2 : IsRangeIter s.heap i2 y left 1) (hl : s.heap.IsList l xs) (hx : xs[k1]? = some x) (hy : 0 < left)
    (hQ : ∀ h' tk T', h'.get? z = some (zipMore T TI TO true) → h'.IsListIter i1 l (k1 + 1) → IsRangeIter h' i2 (y + 1) (left - 1) 1 → (∃ t, IsPair h' T' x (.int y t)) →
      (∀ c o, c ≠ z → c ≠ i1 → c ≠ i2 → s.heap.get? c = some o → h'.get? c = some o) → Q (.ref T') { s with heap := h', toks := tk }) :
    wpAny (model prog w) A (Builtin.«zip.__next__» ⟨[.ref z], []⟩) (fun fin s' => ∃ v, fin = .done (.ret v) ∧ Q v s') E s := by
  show wpAny _ _ (field (.ref z) 2 >>= _) _ _ _
  refine wpAny_bind (wpAny_field hz rfl (x := .bool false) rfl ?_)
  show wpAny _ _ (field (.ref z) 3 >>= _) _ _ _
  refine wpAny_bind (wpAny_field hz rfl (x := .ref TI) rfl ?_)
  refine wpAny_bind (wpAny_seqItems hTI rfl ?_)
  show wpAny _ _ (Builtin.SmallTypes.ownedTupleIsFree (.ref z) >>= _) _ _ _
  refine wpAny_bind (not_free hz hT fun h₁ hz₁ hs₁ => ?_)
  simp only [Bool.false_eq_true, if_false, List.forIn_toArray, List.forIn_cons, List.forIn_nil]
  refine wpAny_bind (wpAny_bind (wpAny_bind (wpAny_holding ?_)))
  show wpAny _ _ (Builtin.SmallTypes.nextOf (.ref i1) >>= _) _ _ _
  refine wpAny_bind (wpAny_nextOf_list_item (h1.extBut hs₁.extBut D.i1z) (hl.extBut hs₁.extBut D.lz) hx fun h₂ h1₂ hs₂ => wpAny_pure ?_)
  refine wpAny_pure ?_
  dsimp only
  refine wpAny_bind (wpAny_bind (wpAny_holding ?_))
  show wpAny _ _ (Builtin.SmallTypes.nextOf (.ref i2) >>= _) _ _ _
  refine wpAny_bind (nextOf_range (range_ext (range_ext h2 hs₁ D.i2z) hs₂ D.i12.symm) hy fun h₃ h2₃ hs₃ => wpAny_pure ?_)
  refine wpAny_pure ?_
  dsimp only
  refine wpAny_pure ?_
  dsimp only
  show wpAny _ _ (newTuple [x, .int y s.toks] >>= _) _ _ _
  refine wpAny_bind (wpAny_newTuple ?_)
  refine wpAny_pure ⟨_, rfl, ?_⟩
  have up : ∀ c o, h₃.get? c = some o → (h₃.push { cls := .type "tuple", data := .seq #[x, .int y s.toks] }).get? c = some o := fun c o e => Heap.get?_push_of_some _ e
  refine hQ _ _ _ (up _ _ (hs₃.extBut _ _ D.i2z.symm (hs₂.extBut _ _ D.i1z.symm hz₁))) ((h1₂.extBut hs₃.extBut D.i12).at fun o e => up _ o e) (up _ _ h2₃) ⟨_, Heap.get?_push_size _ rfl⟩ fun c o c1 c2 c3 e => up _ _ (hs₃.extBut _ _ c3 (hs₂.extBut _ _ c2 (hs₁.extBut _ _ c1 e)))
theorem zip_stop {z T TI TO i1 i2 l : Addr} {f : Bool} {oT : Obj} {k1 : Nat} {xs : Array Value} {Q : Fin → Shared → Prop} (hh : A.handled = none) (D : ZA z TI TO i1 i2 l)
    (hz : s.heap.get? z = some (zipMore T TI TO f)) (hT : s.heap.get? T = some oT) (hTI : IsPair s.heap TI (.ref i1) (.ref i2))
    (h1 : s.heap.IsListIter i1 l k1) (hl : s.heap.IsList l xs) (hx : xs[k1]? = none)
    (hE : ∀ h' e, (∀ c o, c ≠ z → c ≠ i1 → c ≠ i2 → s.heap.get? c = some o → h'.get? c = some o) → (∃ o, h'.get? e = some o ∧ o.cls = .type "StopIteration") → E (.ref e) { s with heap := h' }) :
    wpAny (model prog w) A (Builtin.«zip.__next__» ⟨[.ref z], []⟩) Q E s := by
  show wpAny _ _ (field (.ref z) 2 >>= _) _ _ _
  refine wpAny_bind (wpAny_field hz rfl (x := .bool false) rfl ?_)
  show wpAny _ _ (field (.ref z) 3 >>= _) _ _ _
  refine wpAny_bind (wpAny_field hz rfl (x := .ref TI) rfl ?_)
  refine wpAny_bind (wpAny_seqItems hTI rfl ?_)
  show wpAny _ _ (Builtin.SmallTypes.ownedTupleIsFree (.ref z) >>= _) _ _ _
  refine wpAny_bind (not_free hz hT fun h₁ hz₁ hs₁ => ?_)
  simp only [Bool.false_eq_true, if_false, List.forIn_toArray, List.forIn_cons, List.forIn_nil]
  refine wpAny_bind (wpAny_bind (wpAny_bind (wpAny_holding ?_)))
  show wpAny _ _ (Builtin.SmallTypes.nextOf (.ref i1) >>= _) _ _ _
  exact wpAny_bind (wpAny_nextOf_list_end hh (h1.extBut hs₁.extBut D.i1z) (hl.extBut hs₁.extBut D.lz) hx fun h₂ e hs₂ he => hE h₂ e (fun c o c1 c2 _ x => hs₂ _ _ c2 (hs₁.extBut _ _ c1 x)) he)
theorem next_first {z TI TO i1 i2 l : Addr} {k1 : Nat} {xs : Array Value} {x a b : Value} {y left : Int} {Q : Option Value → Shared → Prop} (D : ZA z TI TO i1 i2 l)
    (hz : IsZip s.heap z TI TO .none) (hTI : IsPair s.heap TI (.ref i1) (.ref i2)) (hTO : IsPair s.heap TO a b)
    (h1 : s.heap.IsListIter i1 l k1) (h2 : IsRangeIter s.heap i2 y left 1) (hl : s.heap.IsList l xs) (hx : xs[k1]? = some x) (hy : 0 < left)
    (hQ : ∀ h' tk, IsZip h' z TI TO (rawInt s.heap.objs.size) → (∃ a b, IsPair h' TO a b) → h'.IsListIter i1 l (k1 + 1) → IsRangeIter h' i2 (y + 1) (left - 1) 1 → (∃ t, IsPair h' s.heap.objs.size x (.int y t)) →
      (∀ c o, c ≠ z → c ≠ TO → c ≠ i1 → c ≠ i2 → s.heap.get? c = some o → h'.get? c = some o) → Q (some (.ref s.heap.objs.size)) { s with heap := h', toks := tk }) : wpAny (model prog w) A (pyNext (.ref z)) Q E s := by
  have hT : s.TypeIs (.ref z) "zip" := ⟨_, hz, rfl⟩
  unfold pyNext
  exact wpAny_bind (wpAny_attempt (wpAny_callSpecial?_slot (name := Str.ofString "__next__") hT F.slot_zip_next
    (wpAny_call_entry F.slot_zip_next hT F.entry_zip_next
      (zip_first D hz hTI hTO h1 h2 hl hx hy fun h' tk a1 a2 a3 a4 a5 a6 => wpAny_pure (hQ h' tk a1 a2 a3 a4 a5 a6)) (F.args_zip_next_1 _))))
theorem next_more {z T TI TO i1 i2 l : Addr} {f : Bool} {oT : Obj} {k1 : Nat} {xs : Array Value} {x : Value} {y left : Int} {Q : Option Value → Shared → Prop} (D : ZA z TI TO i1 i2 l)
    (hz : s.heap.get? z = some (zipMore T TI TO f)) (hT : s.heap.get? T = some oT) (hTI : IsPair s.heap TI (.ref i1) (.ref i2))
    (h1 : s.heap.IsListIter i1 l k1) (h2 : IsRangeIter s.heap i2 y left 1) (hl : s.heap.IsList l xs) (hx : xs[k1]? = some x) (hy : 0 < left)
    (hQ : ∀ h' tk T', h'.get? z = some (zipMore T TI TO true) → h'.IsListIter i1 l (k1 + 1) → IsRangeIter h' i2 (y + 1) (left - 1) 1 → (∃ t, IsPair h' T' x (.int y t)) →
      (∀ c o, c ≠ z → c ≠ i1 → c ≠ i2 → s.heap.get? c = some o → h'.get? c = some o) → Q (some (.ref T')) { s with heap := h', toks := tk }) : wpAny (model prog w) A (pyNext (.ref z)) Q E s := by
  have hTy : s.TypeIs (.ref z) "zip" := ⟨_, hz, rfl⟩
  unfold pyNext
  exact wpAny_bind (wpAny_attempt (wpAny_callSpecial?_slot (name := Str.ofString "__next__") hTy F.slot_zip_next
    (wpAny_call_entry F.slot_zip_next hTy F.entry_zip_next
      (zip_more D hz hT hTI h1 h2 hl hx hy fun h' tk T' a1 a2 a3 a4 a5 => wpAny_pure (hQ h' tk T' a1 a2 a3 a4 a5)) (F.args_zip_next_1 _))))
theorem next_stop {z T TI TO i1 i2 l : Addr} {f : Bool} {oT : Obj} {k1 : Nat} {xs : Array Value} {Q : Option Value → Shared → Prop} (hh : A.handled = none) (D : ZA z TI TO i1 i2 l)
    (hz : s.heap.get? z = some (zipMore T TI TO f)) (hT : s.heap.get? T = some oT) (hTI : IsPair s.heap TI (.ref i1) (.ref i2))
    (h1 : s.heap.IsListIter i1 l k1) (hl : s.heap.IsList l xs) (hx : xs[k1]? = none)
    (hQ : ∀ h', (∀ c o, c ≠ z → c ≠ i1 → c ≠ i2 → s.heap.get? c = some o → h'.get? c = some o) → Q none { s with heap := h' }) : wpAny (model prog w) A (pyNext (.ref z)) Q E s := by
  have hTy : s.TypeIs (.ref z) "zip" := ⟨_, hz, rfl⟩
  unfold pyNext
  refine wpAny_bind (wpAny_attempt (wpAny_callSpecial?_slot (name := Str.ofString "__next__") hTy F.slot_zip_next
    (wpAny_call_entry F.slot_zip_next hTy F.entry_zip_next (zip_stop hh D hz hT hTI h1 hl hx fun h' e hk he => ?_) (F.args_zip_next_1 _))))
  obtain ⟨o, ho, hc⟩ := he
  refine wpAny_bind (wpAny_isInstance (T := "StopIteration") (b := true) ⟨o, ho, hc⟩ isSubtype_stop ?_)
  exact wpAny_pure (hQ _ hk)
end
abbrev zR1 (h : Heap) (l1 : Addr) : Heap := h.push { cls := .type "list_iterator", data := .fields #[.ref l1, .int 0 0] }
abbrev zR2 (h : Heap) (l1 : Addr) (n : Int) : Heap := (zR1 h l1).push { cls := .type "range_iterator", data := .fields #[rawInt 0, rawInt n, rawInt 1] }
abbrev zR3 (h : Heap) (l1 : Addr) (n : Int) : Heap := (zR2 h l1 n).push { cls := .type "tuple", data := .seq #[.ref h.objs.size, .ref (zR1 h l1).objs.size] }
abbrev zR4 (h : Heap) (l1 : Addr) (n : Int) : Heap := (zR3 h l1 n).push { cls := .type "tuple", data := .seq #[.none, .none] }
abbrev zR5 (h : Heap) (l1 : Addr) (n : Int) : Heap := (zR4 h l1 n).push { cls := .type "zip", data := .fields #[.none, .bool false, .bool false, .ref (zR2 h l1 n).objs.size, .ref (zR3 h l1 n).objs.size] }
theorem range64 : Builtin.Range.rangeSize 0 64 1 = 64 := by decide
theorem small64 : Builtin.Range.small 0 64 1 = true := by decide
theorem zip_new (l1 r : Addr) (xs : Array Value) (t u v : Tok) :
    Meets (Builtin.«zip.__new__» ⟨[.type "zip", .ref l1, .ref r], []⟩) (fun _ R s => s.heap.IsList l1 xs ∧ IsRange s.heap r 0 64 1 t u v ∧
      R (.ok (.ret (.ref (zR4 s.heap l1 64).objs.size))) { s with heap := zR5 s.heap l1 64 }) :=
  .of_wp fun prog w A R s h => by
    obtain ⟨hp, g, d, tk, os⟩ := s; obtain ⟨hl1, hr, h⟩ := h
    have hsub := sub_zip
    have hL1 : Heap.IsList (Shared.heap ⟨hp, g, d, tk, os⟩) l1 xs := hl1
    have hL2 : IsRange (Shared.heap ⟨hp.push { cls := .type "list_iterator", data := .fields #[.ref l1, .int 0 0] }, g, d, tk, os⟩) r 0 64 1 t u v := Heap.get?_push_of_some _ hr
    have hs := small64
    wp_walk using wpAny_pyIter_list hL1, wpAny_pyIter_range hL2 hs
    simp only [range64]
    exact ⟨_, rfl, h⟩
section
variable {prog : Program} {w : World} {A : Around} {E : Value → Shared → Prop} {s : Shared}
theorem call_zipR {l1 r : Addr} {xs : Array Value} {t u v : Tok} {Q : Value → Shared → Prop} (hl1 : s.heap.IsList l1 xs) (hr : IsRange s.heap r 0 64 1 t u v)
    (h : ∀ h', IsZip h' (s.heap.objs.size + 4) (s.heap.objs.size + 2) (s.heap.objs.size + 3) .none → IsPair h' (s.heap.objs.size + 2) (.ref s.heap.objs.size) (.ref (s.heap.objs.size + 1)) →
      IsPair h' (s.heap.objs.size + 3) .none .none → h'.IsListIter s.heap.objs.size l1 0 → IsRangeIter h' (s.heap.objs.size + 1) 0 64 1 →
      (∀ c o, s.heap.get? c = some o → h'.get? c = some o) → Q (.ref (s.heap.objs.size + 4)) { s with heap := h' }) :
    wpAny (model prog w) A (call (.type "zip") [.ref l1, .ref r]) Q E s := by
  refine callType_new F.called_zip (by decide) (F.typeCall_zip_2 _ _) (F.newCall_zip_2 _ _) (fun obj => F.args_object_init_3 obj _ _) F.entry_zip_new
    (zip_new l1 r xs t u v) ⟨hl1, hr, ?_⟩
  have z1 : (zR1 s.heap l1).objs.size = s.heap.objs.size + 1 := Heap.size_push ..
  have z2 : (zR2 s.heap l1 64).objs.size = s.heap.objs.size + 2 := by rw [Heap.size_push, z1]
  have z3 : (zR3 s.heap l1 64).objs.size = s.heap.objs.size + 3 := by rw [Heap.size_push, z2]
  have z4 : (zR4 s.heap l1 64).objs.size = s.heap.objs.size + 4 := by rw [Heap.size_push, z3]
  have g5 : (zR5 s.heap l1 64).get? (zR4 s.heap l1 64).objs.size = some _ := Heap.get?_push_size _ rfl
  have g4 : (zR5 s.heap l1 64).get? (zR3 s.heap l1 64).objs.size = some _ := Heap.get?_push_of_some _ (Heap.get?_push_size _ rfl)
  have g3 : (zR5 s.heap l1 64).get? (zR2 s.heap l1 64).objs.size = some _ := Heap.get?_push_of_some _ (Heap.get?_push_of_some _ (Heap.get?_push_size _ rfl))
  have g2 : (zR5 s.heap l1 64).get? (zR1 s.heap l1).objs.size = some _ := Heap.get?_push_of_some _ (Heap.get?_push_of_some _ (Heap.get?_push_of_some _ (Heap.get?_push_size _ rfl)))
  have g1 : (zR5 s.heap l1 64).get? s.heap.objs.size = some _ := Heap.get?_push_of_some _ (Heap.get?_push_of_some _ (Heap.get?_push_of_some _ (Heap.get?_push_of_some _ (Heap.get?_push_size _ rfl))))
  show _ ∧ _
  rw [z2, z3, z4] at g5
  rw [z1, z2] at g3
  rw [z3] at g4
  rw [z1] at g2
  rw [z4]
  exact ⟨⟨_, g5, rfl⟩, h _ g5 g3 g4 ⟨_, g1, rfl, rfl⟩ g2 fun c o x =>
    Heap.get?_push_of_some _ (Heap.get?_push_of_some _ (Heap.get?_push_of_some _ (Heap.get?_push_of_some _ (Heap.get?_push_of_some _ x))))⟩
theorem entry_upd_loop : entryFor table "dict.update.loop" = some Builtin.«dict.update.loop» := by first | exact entryFor_of_fast (by kernel_rfl) | exact entryFor_of_tree (by kernel_rfl)
end
end Mine

end TLawZip2
section TLawUpd
open PySem PySem.W PyProof.Rows PySem.Calls
set_option Elab.async false
set_option maxRecDepth 100000
set_option maxHeartbeats 4000000
namespace Mine
noncomputable def SpotOK (f : Int → Option Value) (ps : List Int) (k : Nat) : Prop :=
  ∀ x, (∀ j, j < k → ps[j]? = some x → ∃ j' t, j' < k ∧ ps[j']? = some x ∧ f x = some (.int (j' : Int) t)) ∧ ((∀ j, j < k → ps[j]? ≠ some x) → f x = none)
theorem spot_zero (ps : List Int) : SpotOK (fun _ => none) ps 0 := fun _ => ⟨fun _ h => absurd h (Nat.not_lt_zero _), fun _ => rfl⟩
theorem spot_succ {f : Int → Option Value} {ps : List Int} {k : Nat} {p : Int} {t : Tok} (h : SpotOK f ps k) (hp : ps[k]? = some p) : SpotOK (fun x => if x = p then some (.int (k : Int) t) else f x) ps (k + 1) := by
  intro x
  by_cases hx : x = p
  · subst hx
    refine ⟨fun j hj he => ⟨k, t, Nat.lt_succ_self k, hp, by simp⟩, fun hn => absurd hp (hn k (Nat.lt_succ_self k))⟩
  · refine ⟨fun j hj he => ?_, fun hn => ?_⟩
    · have hjk : j < k := by
        rcases Nat.lt_succ_iff_lt_or_eq.mp hj with h1 | h1
        · exact h1
        · subst h1; rw [hp] at he; exact absurd (Option.some.inj he).symm hx
      obtain ⟨j', t', a, b, c⟩ := (h x).1 j hjk he
      exact ⟨j', t', Nat.lt_succ_of_lt a, b, by simp only [hx, if_false]; exact c⟩
    · simp only [hx, if_false]
      exact (h x).2 fun j hj => hn j (Nat.lt_succ_of_lt hj)
section
variable {prog : Program} {w : World} {A : Around} {E : Value → Shared → Prop} {s : Shared}
theorem upd_turn {d z T' : Addr} {k : Nat} {x p : Int} {tx ty : Tok} {f : Int → Option Value} {R : Result → Shared → Prop} (hpair : IsPair s.heap T' (.int p tx) (.int x ty)) (hm : s.heap.IntMap d f) (hz : s.heap.DictLe d k) (hk : k ≤ sizeLine)
    (hR : ∀ h' tk, h'.IntMap d (fun y => if y = p then some (.int x ty) else f y) → h'.DictLe d (k + 1) → Heap.SameBut d s.heap h' → codeAny (model prog w) A (.builtin "dict.update.loop" ⟨[.ref d, .ref z, rawInt ((k : Int) + 1), .none], []⟩) R { s with heap := h', toks := tk })
    {c : Code} :
    wpAny (model prog w) (A.under c) (holding [Value.ref T'] (do
      let pair ← (Builtin.Dict.pairItems (.ref T')).tryCatch fun e => do
        if !(← isInstance e (.type "TypeError")) then throw e
        rule "dict.update.element-no-sequence"
        raiseError "TypeError" s!"cannot convert dictionary update sequence element #{(k : Int)} to a sequence"
      match pair with
      | [k, v] => holding [k, v] (dictSet d k v)
      | l =>
        rule "dict.update.element-length"
        raiseError "ValueError" s!"dictionary update sequence element #{(k : Int)} has length {l.length}; 2 is required") >>= fun _ => again (.builtin "dict.update.loop" ⟨[.ref d, .ref z, rawInt ((k : Int) + 1), .none], []⟩))
      (fun fin s' => match fin with | .done f => R (.ok f) s' | .again c' => c'.quiet = true ∧ codeAny (model prog w) A c' R s') (fun e s' => R (.error e) s') s := by
  refine wpAny_bind (wpAny_holding (wpAny_bind (wpAny_tryCatch ?_)))
  unfold Builtin.Dict.pairItems
  refine wpAny_bind (wpAny_typeOf (T := "tuple") ⟨_, hpair, rfl⟩ ?_)
  rw [if_pos (by decide)]
  refine wpAny_bind (wpAny_seqItems hpair rfl ?_)
  refine wpAny_pure ?_
  show wpAny _ _ (holding [Value.int p tx, Value.int x ty] (dictSet d (.int p tx) (.int x ty))) _ _ _
  refine wpAny_holding (wpAny_dictSet_int_le hm hz hk fun h' hm' hz' hs' => ?_)
  exact wpAny_pure ⟨Code.quiet_builtin _ (by decide +kernel), hR h' _ hm' hz' hs'⟩
theorem upd_more {d z T TI TO i1 i2 l : Addr} {xs : Array Value} {ps : List Int} (hxs : IntsAre xs.toList ps) (hl64 : ps.length = 64) (D : ZA z TI TO i1 i2 l)
    (d1 : d ≠ z) (d2 : d ≠ i1) (d3 : d ≠ i2) (d4 : d ≠ T) (d5 : d ≠ TI) (d6 : d ≠ l) (t1 : T ≠ z) (t2 : T ≠ i1) (t3 : T ≠ i2) {R : Result → Shared → Prop} : ∀ (n k : Nat) {s : Shared} {f : Int → Option Value} {fz : Bool} {oT : Obj}, k + n = 64 →
      s.heap.get? z = some (zipMore T TI TO fz) → s.heap.get? T = some oT → IsPair s.heap TI (.ref i1) (.ref i2) → s.heap.IsListIter i1 l k → IsRangeIter s.heap i2 (k : Int) (64 - (k : Int)) 1 → s.heap.IsList l xs → s.heap.IntMap d f → s.heap.DictLe d k → SpotOK f ps k →
      (∀ h' tk f', h'.IntMap d f' → SpotOK f' ps 64 → (∀ c o, c ≠ d → c ≠ z → c ≠ i1 → c ≠ i2 → s.heap.get? c = some o → h'.get? c = some o) → R (.ok (.ret .none)) { s with heap := h', toks := tk }) →
      A.handled = none → codeAny (model prog w) A (.builtin "dict.update.loop" ⟨[.ref d, .ref z, rawInt (k : Int), .none], []⟩) R s
  | 0, k, s, f, fz, oT, hkn, hz, hT, hTI, h1, h2, hl, hm, hle, hsp, hR, hh => by
    have hk : k = 64 := by lia
    subst hk
    refine codeAny_builtin entry_upd_loop ?_
    show wpAny _ _ (pyNext (.ref z) >>= _) _ _ _
    have hx : xs[64]? = none := Array.getElem?_eq_none (by rw [← Array.length_toList, hxs.length, hl64]; exact Nat.le_refl _)
    refine wpAny_bind (next_stop (by exact hh) D hz hT hTI h1 hl hx fun h' hk => ?_)
    refine wpAny_bind (wpAny_pure (wpAny_pure ?_))
    have hmd : ∀ o, s.heap.get? d = some o → h'.get? d = some o := fun o e => hk d o d1 d2 d3 e
    have hm' : h'.IntMap d f := by
      obtain ⟨o, es, ep, ho, r⟩ := hm
      exact ⟨o, es, ep, hmd o ho, r⟩
    exact hR h' _ f hm' hsp fun c o c0 c1 c2 c3 e => hk c o c1 c2 c3 e
  | n + 1, k, s, f, fz, oT, hkn, hz, hT, hTI, h1, h2, hl, hm, hle, hsp, hR, hh => by
    refine codeAny_builtin entry_upd_loop ?_
    show wpAny _ _ (pyNext (.ref z) >>= _) _ _ _
    have hkl : k < ps.length := by lia
    obtain ⟨tx, htx⟩ := tokIn hxs hkl
    have hx : xs[k]? = some (.int (ps.getD k 0) tx) := by rw [← Array.getElem?_toList]; exact htx
    have hpk : ps[k]? = some (ps.getD k 0) := by rw [List.getD_eq_getElem?_getD, List.getElem?_eq_getElem hkl]; rfl
    refine wpAny_bind (next_more D hz hT hTI h1 h2 hl hx (by lia) fun h' tk T' hz' h1' h2' hp hk => ?_)
    obtain ⟨ty, hp⟩ := hp
    have hm' : h'.IntMap d f := by
      obtain ⟨o, es, ep, ho, r⟩ := hm
      exact ⟨o, es, ep, hk d o d1 d2 d3 ho, r⟩
    have hle' : h'.DictLe d k := by
      obtain ⟨o, es, ep, ho, r⟩ := hm
      intro o' es' ep' ho' hd'
      rw [hk d o d1 d2 d3 ho] at ho'
      obtain rfl := Option.some.inj ho'
      exact hle _ _ _ ho hd'
    refine upd_turn hp hm' hle' (by rw [sizeLine_eq]; lia) fun h3 tk3 hm3 hle3 hs3 => ?_
    rw [show ((k : Int) + 1) = ((k + 1 : Nat) : Int) by simp]
    refine upd_more hxs hl64 D d1 d2 d3 d4 d5 d6 t1 t2 t3 n (k + 1) (by lia) (hs3.extBut _ _ d1.symm hz') (hs3.extBut _ _ d4.symm (hk T _ t1 t2 t3 hT)) (hs3.extBut _ _ d5.symm (hk _ _ D.TIz D.TIi1 D.TIi2 hTI)) (h1'.extBut hs3.extBut d2.symm)
      (by have := range_ext h2' hs3 d3.symm; simpa [Int.sub_sub] using this) ((hl.at fun o e => hk l o D.lz D.li1 D.li2 e).extBut hs3.extBut d6.symm) hm3 hle3 (spot_succ hsp hpk) (fun h4 tk4 f4 a1 a2 a3 => hR h4 tk4 f4 a1 a2 fun c o c0 c1 c2 c3 e => a3 c o c0 c1 c2 c3 (hs3.extBut _ _ c0 (hk c o c1 c2 c3 e))) hh
theorem dict_of_zip {z TI TO i1 i2 l : Addr} {xs : Array Value} {ps : List Int} {a b : Value} {Q : Value → Shared → Prop} (hxs : IntsAre xs.toList ps) (hl64 : ps.length = 64) (D : ZA z TI TO i1 i2 l) (hh : A.handled = none)
    (hz : IsZip s.heap z TI TO .none) (hTI : IsPair s.heap TI (.ref i1) (.ref i2)) (hTO : IsPair s.heap TO a b) (h1 : s.heap.IsListIter i1 l 0) (h2 : IsRangeIter s.heap i2 0 64 1) (hl : s.heap.IsList l xs)
    (h : ∀ h' tk f, h'.IntMap s.heap.objs.size f → SpotOK f ps 64 → (∀ c o, c ≠ s.heap.objs.size → c ≠ z → c ≠ TO → c ≠ i1 → c ≠ i2 → s.heap.get? c = some o → h'.get? c = some o) → Q (.ref s.heap.objs.size) { s with heap := h', toks := tk }) :
    wpAny (model prog w) A (call (.type "dict") [.ref z]) Q E s := by
  refine callType_codes (Q₁ := fun obj s₁ => obj = .ref s.heap.objs.size ∧ s₁ = { s with heap := s.heap.push { cls := .type "dict", data := .dict #[] } }) F.kt_called_dict (F.kt_typeCall_dict_1 _) F.entry_dict_init (kt_code_dict_new _ ⟨rfl, rfl⟩) ?_
  rintro obj s₁ ⟨rfl, rfl⟩
  have hnew : (s.heap.push { cls := .type "dict", data := .dict #[] }).IntMap s.heap.objs.size fun _ => none := Heap.IntMap.new s.heap
  refine ⟨hnew.typeIs, F.args_dict_init_2 _ _, ?_⟩
  unfold Builtin.«dict.__init__»
  refine wpAny_bind ?_
  unfold Builtin.Dict.selfAndRest
  refine wpAny_bind (wpAny_notOrdered_dict hnew.typeIs ?_)
  show wpAny _ _ (pure (s.heap.objs.size, [Value.ref z])) _ _ _
  refine wpAny_pure ?_
  show wpAny _ _ (Builtin.Dict.updateFrom "dict.__init__" s.heap.objs.size (.ref z) [] .none) _ _ _
  unfold Builtin.Dict.updateFrom
  have hz' : IsZip (s.heap.push { cls := .type "dict", data := .dict #[] }) z TI TO .none := Heap.get?_push_of_some _ hz
  refine wpAny_bind (wpAny_typeOf (T := "zip") ⟨_, hz', rfl⟩ ?_)
  rw [if_pos (by decide)]
  refine wpAny_bind (zip_no_keys (vs := #[.none, .bool false, .bool false, .ref TI, .ref TO]) hz' (by exact hh) fun h₂ tk₂ k₂ => ?_)
  rw [if_pos (by rfl)]
  refine wpAny_bind (wpAny_rule ?_)
  refine wpAny_bind (wpAny_pyIter_zip (k₂ _ _ hz') ?_)
  refine wpAny_pure ⟨Code.quiet_builtin _ (by decide +kernel), ?_⟩
  have kp : ∀ c o, s.heap.get? c = some o → (s.heap.push { cls := .type "dict", data := .dict #[] }).get? c = some o := fun c o e => Heap.get?_push_of_some _ e
  have k2 : ∀ c o, s.heap.get? c = some o → h₂.get? c = some o := fun c o e => k₂ _ _ (kp c o e)
  have hd2 : h₂.IntMap s.heap.objs.size fun _ => none := by
    obtain ⟨o, es, ep, ho, r⟩ := hnew
    exact ⟨o, es, ep, k₂ _ _ ho, r⟩
  have hle2 : h₂.DictLe s.heap.objs.size 0 := (Heap.DictLe.new s.heap).of_same (Heap.get?_push_size _ rfl) (k₂ _ _ (Heap.get?_push_size _ rfl))
  have lt : ∀ {c o}, s.heap.get? c = some o → s.heap.objs.size ≠ c := fun e => Nat.ne_of_gt (Heap.lt_size e)
  have lt2 : ∀ {c o}, h₂.get? c = some o → h₂.objs.size ≠ c := fun e => Nat.ne_of_gt (Heap.lt_size e)
  obtain ⟨oi1, ei1, r1⟩ := id h1
  obtain ⟨ol, el, rl⟩ := id hl
  have hkl : 0 < ps.length := by lia
  obtain ⟨tx, htx⟩ := tokIn hxs hkl
  have hx : xs[0]? = some (.int (ps.getD 0 0) tx) := by rw [← Array.getElem?_toList]; exact htx
  have hpk : ps[0]? = some (ps.getD 0 0) := by rw [List.getD_eq_getElem?_getD, List.getElem?_eq_getElem hkl]; rfl
  obtain ⟨od, esd, epd, hod, rd⟩ := id hd2
  refine codeAny_builtin entry_upd_loop ?_
  show wpAny _ _ (pyNext (.ref z) >>= _) _ _ _
  refine wpAny_bind (next_first (xs := xs) D (k2 _ _ hz) (k2 _ _ hTI) (k2 _ _ hTO) (h1.at fun o e => k2 _ o e) (k2 _ _ h2) (hl.at fun o e => k2 _ o e) hx (by decide) fun h' tk hz3 hTO3 h13 h23 hp hk => ?_)
  obtain ⟨ty, hp⟩ := hp
  have d1 := lt hz
  have d2 := lt ei1
  have d3 := lt h2
  have d5 := lt hTI
  have d6 := lt el
  have d7 := lt hTO
  have hm' : h'.IntMap s.heap.objs.size fun _ => none := ⟨od, esd, epd, hk _ od d1 d7 d2 d3 hod, rd⟩
  have hle' : h'.DictLe s.heap.objs.size 0 := hle2.of_same hod (hk _ od d1 d7 d2 d3 hod)
  have t1 := lt2 (k2 _ _ hz)
  have t2 := lt2 (k2 _ _ ei1)
  have t3 := lt2 (k2 _ _ h2)
  have d4 : s.heap.objs.size ≠ h₂.objs.size := Ne.symm (lt2 hod)
  refine upd_turn (k := 0) hp hm' hle' (Nat.zero_le _) fun h4 tk4 hm4 hle4 hs4 => ?_
  refine upd_more hxs hl64 D d1 d2 d3 d4 d5 d6 t1 t2 t3 63 1 (fz := false) (by decide) (hs4.extBut _ _ d1.symm hz3) (hs4.extBut _ _ d4.symm hp) (hs4.extBut _ _ d5.symm (hk _ _ D.TIz D.TITO D.TIi1 D.TIi2 (k2 _ _ hTI))) (h13.extBut hs4.extBut d2.symm)
    (range_ext h23 hs4 d3.symm) ((hl.at fun o e => hk l o D.lz D.lTO D.li1 D.li2 (k2 _ o e)).extBut hs4.extBut d6.symm) hm4 hle4 (spot_succ (spot_zero ps) hpk) (fun h5 tk5 f5 a1 a2 a3 => ?_) (by exact hh)
  exact ⟨rfl, h h5 _ f5 a1 a2 fun c o c0 c1 cT c2 c3 e => a3 c o c0 c1 c2 c3 (hs4.extBut _ _ c0 (hk c o c1 cT c2 c3 (k2 c o e)))⟩
end
end Mine

end TLawUpd
section TLawZipL
open PySem PySem.W PyProof.Rows PySem.Calls
set_option Elab.async false
set_option maxRecDepth 100000
set_option maxHeartbeats 4000000
namespace Mine
noncomputable def ZipSt (h : Heap) (z l : Addr) (xs : Array Value) (h₀ : Heap) (L : Addr) (news : List (Addr × Obj)) : Prop :=
  ∃ TI TO i1 i2 a b, ZA z TI TO i1 i2 l ∧ IsZip h z TI TO .none ∧ IsPair h TI (.ref i1) (.ref i2) ∧ IsPair h TO a b ∧ h.IsListIter i1 l 0 ∧ IsRangeIter h i2 0 64 1 ∧ h.IsList l xs ∧
    ∀ c ∈ [z, TO, i1, i2], h₀.get? c = none ∧ c ≠ L ∧ ∀ p ∈ news, p.1 ≠ c
section
variable {prog : Program} {w : World} {A : Around} {E : Value → Shared → Prop} {s : Shared} {h₀ : Heap} {L : Addr} {m : Str → Option Value} {news : List (Addr × Obj)} {Q : Value → Shared → Prop}
theorem zip_L {l r : Addr} {xs : List Value} {n : Nat} {t u v : Tok} (F : Fr h₀ L s.heap m) (N : News h₀ L s.heap news) (hl : (l, W.listOf xs.toArray n) ∈ news) (hr : IsRange s.heap r 0 64 1 t u v)
    (h : ∀ z h', Fr h₀ L h' m → News h₀ L h' news → ZipSt h' z l xs.toArray h₀ L news → Q (.ref z) { s with heap := h' }) : wpAny (model prog w) A (call (.type "zip") [.ref l, .ref r]) Q E s := by
  have hls := isList_N N hl
  refine call_zipR hls hr fun h' a1 a2 a3 a4 a5 hk => ?_
  have F' := fr_ext F hk
  have N' := news_ext N hk
  have hlt : l < s.heap.objs.size := Heap.lt_size (N _ hl).1
  have nw : ∀ k, h₀.get? (s.heap.objs.size + k) = none := fun k => Heap.get?_none_of_le (Nat.le_trans F.above (Nat.le_trans (Nat.le_of_lt F.ns.lt) (Nat.le_add_right _ k)))
  have nL : ∀ k, s.heap.objs.size + k ≠ L := fun k e => Nat.ne_of_gt (Nat.lt_of_lt_of_le F.ns.lt (Nat.le_add_right _ k)) e
  have nN : ∀ k, ∀ p ∈ news, p.1 ≠ s.heap.objs.size + k := fun k p hp e => Nat.ne_of_lt (Nat.lt_of_lt_of_le (Heap.lt_size (N p hp).1) (Nat.le_add_right _ k)) e
  refine h _ h' F' N' ⟨_, _, _, _, _, _, ?_, a1, a2, a3, a4, a5, hls.at fun o e => hk l o e, ?_⟩
  · have hll : ∀ k, l ≠ s.heap.objs.size + k := fun k e => Nat.ne_of_lt (Nat.lt_of_lt_of_le hlt (Nat.le_add_right _ k)) e
    have dd : ∀ {i j : Nat}, i ≠ j → s.heap.objs.size + i ≠ s.heap.objs.size + j := fun hij e => hij (Nat.add_left_cancel e)
    exact ⟨dd (i := 2) (j := 4) (by decide), dd (i := 3) (j := 4) (by decide), dd (i := 0) (j := 4) (by decide), dd (i := 1) (j := 4) (by decide), dd (i := 2) (j := 3) (by decide), dd (i := 2) (j := 0) (by decide), dd (i := 2) (j := 1) (by decide),
      dd (i := 3) (j := 0) (by decide), dd (i := 3) (j := 1) (by decide), dd (i := 0) (j := 1) (by decide), hll 4, hll 3, hll 0, hll 1⟩
  · intro c hc
    simp only [List.mem_cons, List.not_mem_nil, or_false] at hc
    rcases hc with rfl | rfl | rfl | rfl
    · exact ⟨nw 4, nL 4, nN 4⟩
    · exact ⟨nw 3, nL 3, nN 3⟩
    · exact ⟨nw 0, nL 0, nN 0⟩
    · exact ⟨nw 1, nL 1, nN 1⟩
theorem dict_L {z l : Addr} {xs : List Value} {ps : List Int} (Z : ZipSt s.heap z l xs.toArray h₀ L news) (hxs : IntsAre xs ps) (hl64 : ps.length = 64) (hh : A.handled = none) (F : Fr h₀ L s.heap m) (N : News h₀ L s.heap news)
    (h : ∀ d o f h' tk, Fr h₀ L h' m → News h₀ L h' ((d, o) :: news) → (∀ p ∈ news, p.1 < d) → (∀ h2 : Heap, h2.get? d = some o → h2.IntMap d f) → SpotOK f ps 64 → Q (.ref d) { s with heap := h', toks := tk }) :
    wpAny (model prog w) A (call (.type "dict") [.ref z]) Q E s := by
  obtain ⟨TI, TO, i1, i2, a, b, D, hz, hTI, hTO, h1, h2, hl, hoff⟩ := Z
  refine dict_of_zip (xs := xs.toArray) (by exact hxs) hl64 D hh hz hTI hTO h1 h2 hl fun h' tk f hm hsp hk => ?_
  obtain ⟨o, es, ep, ho, r⟩ := id hm
  have oz := hoff z (by simp)
  have oTO := hoff TO (by simp)
  have oi1 := hoff i1 (by simp)
  have oi2 := hoff i2 (by simp)
  have kL : ∀ ob, s.heap.get? L = some ob → h'.get? L = some ob := fun ob e => hk L ob (Nat.ne_of_lt (Heap.lt_size e)) oz.2.1.symm oTO.2.1.symm oi1.2.1.symm oi2.2.1.symm e
  have kn : ∀ c, c ≠ z → c ≠ TO → c ≠ i1 → c ≠ i2 → ∀ ob, s.heap.get? c = some ob → h'.get? c = some ob := fun c c1 c2 c3 c4 ob e => hk c ob (Nat.ne_of_lt (Heap.lt_size e)) c1 c2 c3 c4 e
  have F' : Fr h₀ L h' m := by
    obtain ⟨oL, x1, x2, hL, x3⟩ := F.ns
    refine ⟨⟨oL, x1, x2, kL _ hL, x3⟩, fun c ob e => kn c ?_ ?_ ?_ ?_ ob (F.keep c ob e), F.above⟩
    · intro q; rw [q, oz.1] at e; cases e
    · intro q; rw [q, oTO.1] at e; cases e
    · intro q; rw [q, oi1.1] at e; cases e
    · intro q; rw [q, oi2.1] at e; cases e
  refine h _ o f h' tk F' (fun p hp => ?_) (fun p hp => Heap.lt_size (N p hp).1) (fun h2 e => ⟨o, es, ep, e, r⟩) hsp
  rcases List.mem_cons.mp hp with rfl | hp
  · exact ⟨ho, fun q => Nat.ne_of_gt F.ns.lt q, Heap.get?_none_of_le (Nat.le_trans F.above (Nat.le_of_lt F.ns.lt))⟩
  · exact ⟨kn _ (oz.2.2 p hp) (oTO.2.2 p hp) (oi1.2.2 p hp) (oi2.2.2 p hp) _ (N p hp).1, (N p hp).2⟩
end
end Mine

end TLawZipL
section TLawPl
open PySem PySem.W PyProof.Rows PySem.Calls
set_option Elab.async false
set_option maxRecDepth 100000
set_option maxHeartbeats 1000000
namespace Mine
noncomputable def pairsL : List Int := (List.range 64).map fun k => 8 * ringL.getD k 0 + ringL.getD (k + 1) 0
theorem pairs_lo {k : Int} (h : k ∈ pairsL) : 0 ≤ k := (show ∀ k ∈ pairsL, 0 ≤ k by decide +kernel) k h
theorem pairs_hi {k : Int} (h : k ∈ pairsL) : k < 64 := (show ∀ k ∈ pairsL, k < 64 by decide +kernel) k h
theorem pairs_eq : List.map (fun k' : Int => 8 * ringL.getD k'.toNat 0 + ringL.getD (k' + 1).toNat 0) (rangeKs 0 (64 - 0 : Int).toNat) = pairsL := by decide +kernel
theorem ring_len : ringL.length = 65 := by decide +kernel
theorem pairs_len : pairsL.length = 64 := by decide +kernel
noncomputable def spotOf (v : Int) : Nat := pairsL.idxOf v
theorem spot_all : ∀ v < 64, spotOf (v : Nat) < 64 ∧ pairsL[spotOf (v : Nat)]? = some ((v : Nat) : Int) := by decide +kernel
theorem spot_pair : ∀ j < 64, spotOf (pairsL.getD j 0) = j := by decide +kernel
theorem pair_at : ∀ j < 64, pairsL.getD j 0 = 8 * ringL.getD j 0 + ringL.getD (j + 1) 0 := by decide +kernel
theorem ring_in : ∀ j < 65, 0 ≤ ringL.getD j 0 ∧ ringL.getD j 0 < 8 := by decide +kernel
theorem spot_of {v : Int} (h0 : 0 ≤ v) (h1 : v < 64) : spotOf v < 64 ∧ pairsL[spotOf v]? = some v := by
  obtain ⟨n, rfl⟩ := Int.eq_ofNat_of_zero_le h0
  exact spot_all n (by lia)
theorem spot_uni {v : Int} {j : Nat} (hj : pairsL[j]? = some v) : spotOf v = j := by
  have hl : j < 64 := by
    have := (List.getElem?_eq_some_iff.mp hj).1
    rwa [pairs_len] at this
  have := spot_pair j hl
  rw [List.getD_eq_getElem?_getD, hj] at this
  exact this
noncomputable def placeAt (fg : List Int) (i : Nat) : Nat := spotOf (8 * fg.getD i 0 + fg.getD (i + 1) 0)
noncomputable def placesTo (fg : List Int) (i : Nat) : List Int := (List.range i).map fun k => (placeAt fg k : Int)
structure Figs (fg : List Int) : Prop where
  h : ∀ k, 0 ≤ fg.getD k 0 ∧ fg.getD k 0 < 8
theorem figs_of {fg : List Int} (h : ∀ k ∈ fg, 0 ≤ k ∧ k < 8) : Figs fg := ⟨fun k => by
  rw [List.getD_eq_getElem?_getD]
  cases e : fg[k]? with
  | none => simp
  | some x => exact h x (List.mem_of_getElem? e)⟩
theorem placeAt_lt {fg : List Int} (F : Figs fg) (i : Nat) : placeAt fg i < 64 := by
  have h1 := F.h i
  have h2 := F.h (i + 1)
  exact (spot_of (by lia) (by lia)).1
theorem place_ring {fg : List Int} (F : Figs fg) (i : Nat) : ringL.getD (placeAt fg i) 0 = fg.getD i 0 ∧ ringL.getD (placeAt fg i + 1) 0 = fg.getD (i + 1) 0 := by
  have h1 := F.h i
  have h2 := F.h (i + 1)
  obtain ⟨a, b⟩ := spot_of (v := 8 * fg.getD i 0 + fg.getD (i + 1) 0) (by lia) (by lia)
  have h3 := pair_at _ a
  have h4 := ring_in _ (Nat.lt_succ_of_lt a)
  have h5 := ring_in (spotOf (8 * fg.getD i 0 + fg.getD (i + 1) 0) + 1) (Nat.succ_lt_succ a)
  rw [List.getD_eq_getElem?_getD, b] at h3
  simp only [Option.getD_some] at h3
  unfold placeAt
  constructor <;> lia
theorem place_of {fg : List Int} {i j : Nat} (hj : j < 64) (h1 : fg.getD i 0 = ringL.getD j 0) (h2 : fg.getD (i + 1) 0 = ringL.getD (j + 1) 0) : placeAt fg i = j := by
  unfold placeAt
  rw [h1, h2, ← pair_at j hj]
  exact spot_pair j hj
theorem getD_eq {l : List Int} {k : Nat} (hk : k < l.length) : l[k]? = some (l.getD k 0) := by
  rw [List.getD_eq_getElem?_getD, List.getElem?_eq_getElem hk]; rfl
theorem eq_getD {l r : List Int} {i j : Nat} (hi : i < l.length) (hj : j < r.length) : (l[i]? = r[j]?) ↔ l.getD i 0 = r.getD j 0 := by
  rw [getD_eq hi, getD_eq hj]
  exact ⟨Option.some.inj, congrArg some⟩
theorem places_len (fg : List Int) (n : Nat) : (placesTo fg n).length = n := by simp [placesTo]
theorem places_get {fg : List Int} {n i : Nat} (h : i < n) : (placesTo fg n).getD i 0 = (placeAt fg i : Int) := by
  rw [List.getD_eq_getElem?_getD]; simp [placesTo, h]
theorem places_succ (fg : List Int) (n : Nat) : placesTo fg (n + 1) = placesTo fg n ++ [(placeAt fg n : Int)] := by
  simp [placesTo, List.range_succ]
theorem cs_ge {as bs : List Int} {alo : Nat} : ∀ (k i j : Nat), alo ≤ i → i + k < as.length → j + k < bs.length → (∀ q ≤ k, as.getD (i + q) 0 = bs.getD (j + q) 0) → k + 1 ≤ cs as bs alo 0 (i + k) (j + k)
  | 0, i, j, h1, h2, h3, h4 => by
    have := cs_pos (as := as) (bs := bs) (alo := alo) (blo := 0) (i := i) (j := j) h1 (Nat.zero_le _) h2 h3 ((eq_getD h2 h3).mpr (h4 0 (Nat.le_refl _)))
    exact this
  | k + 1, i, j, h1, h2, h3, h4 => by
    have ih := cs_ge k i j h1 (by lia) (by lia) fun q hq => h4 q (by lia)
    have hs := cs_step (as := as) (bs := bs) (alo := alo) (blo := 0) (i := i + (k + 1)) (j := j + (k + 1)) (by lia) (Nat.zero_le _) h2 h3 ((eq_getD h2 h3).mpr (h4 _ (Nat.le_refl _)))
    rw [if_pos ⟨by lia, by lia⟩] at hs
    rw [hs]
    have e1 : i + (k + 1) - 1 = i + k := by lia
    have e2 : j + (k + 1) - 1 = j + k := by lia
    rw [e1, e2]
    lia
theorem best_run {fg : List Int} (F : Figs fg) {lo en : Nat} (h1 : lo + 2 ≤ en) (h2 : en ≤ fg.length) {bi bj bk : Int} (h : BestOf fg ringL lo 0 (fun i j => lo ≤ i ∧ i < en ∧ 0 ≤ j ∧ j < 65) bi bj bk) :
    ∃ st k : Nat, bi = (st : Int) ∧ bk = (k : Int) ∧ bj = (placeAt fg st : Int) ∧ 2 ≤ k ∧ lo ≤ st ∧ st + k ≤ en ∧ (∀ q, q + 1 < k → placeAt fg (st + q) = placeAt fg st + q) ∧
      ∀ st' k', lo ≤ st' → st' + k' ≤ en → 2 ≤ k' → (∀ q, q + 1 < k' → placeAt fg (st' + q) = placeAt fg st' + q) → k' < k ∨ (k' = k ∧ st ≤ st') := by
  have hrl := ring_len
  -- every run gives a suffix
  have hrun : ∀ st' k', lo ≤ st' → st' + k' ≤ en → 2 ≤ k' → (∀ q, q + 1 < k' → placeAt fg (st' + q) = placeAt fg st' + q) → placeAt fg st' + k' ≤ 65 ∧ k' ≤ cs fg ringL lo 0 (st' + (k' - 1)) (placeAt fg st' + (k' - 1)) := by
    intro st' k' a1 a2 a3 a4
    have hb : placeAt fg st' + k' ≤ 65 := by
      have e1 := a4 (k' - 2) (by lia)
      have e2 := placeAt_lt F (st' + (k' - 2))
      lia
    have e := cs_ge (as := fg) (bs := ringL) (alo := lo) (k' - 1) st' (placeAt fg st') a1 (by lia) (by lia) (fun q hq => by
      by_cases hq2 : q + 1 < k'
      · rw [← (place_ring F (st' + q)).1, a4 q hq2]
      · obtain rfl : q = (k' - 2) + 1 := by lia
        have e3 := (place_ring F (st' + (k' - 2))).2
        rw [a4 (k' - 2) (by lia)] at e3
        exact e3.symm)
    exact ⟨hb, by lia⟩
  have hfirst := hrun lo 2 (Nat.le_refl _) h1 (Nat.le_refl _) (fun q hq => by obtain rfl : q = 0 := by lia
                                                                              rfl)
  rcases h with ⟨-, -, -, hz⟩ | ⟨i, j, ⟨p1, p2, p3, p4⟩, h0, hk, hi, hj, hall⟩
  · exfalso
    have := hz (lo + (2 - 1)) (placeAt fg lo + (2 - 1)) ⟨by lia, by lia, Nat.zero_le _, by lia⟩
    lia
  · have hK2 : 2 ≤ cs fg ringL lo 0 i j := by
      have := hall (lo + (2 - 1)) (placeAt fg lo + (2 - 1)) ⟨by lia, by lia, Nat.zero_le _, by lia⟩
      lia
    obtain ⟨K, hK⟩ : ∃ K, K = cs fg ringL lo 0 i j := ⟨_, rfl⟩
    rw [← hK] at hK2 hall hk h0
    have hle := (cs_le (as := fg) (bs := ringL) (alo := lo) (blo := 0) (i := i) (j := j)) p1 (Nat.zero_le _)
    rw [← hK] at hle
    have hat : ∀ q, q < K → fg.getD (i + 1 - K + q) 0 = ringL.getD (j + 1 - K + q) 0 := by
      intro q hq
      obtain ⟨a1, a2, a3, a4, a5, a6, a7, -⟩ := cs_run (as := fg) (bs := ringL) (alo := lo) (blo := 0) (K - 1 - q) (i := i) (j := j) (by lia)
      have := (eq_getD (l := fg) (r := ringL) (i := i - (K - 1 - q)) (j := j - (K - 1 - q)) (by lia) (by lia)).mp a7
      have e1 : i + 1 - K + q = i - (K - 1 - q) := by lia
      have e2 : j + 1 - K + q = j - (K - 1 - q) := by lia
      rw [e1, e2]; exact this
    have hpl : ∀ q, q + 1 < K → placeAt fg (i + 1 - K + q) = j + 1 - K + q := fun q hq => place_of (by lia) (hat q (by lia)) (by
      have := hat (q + 1) (by lia)
      rw [← Nat.add_assoc, ← Nat.add_assoc] at this
      exact this)
    have hp0 := hpl 0 (by lia)
    simp only [Nat.add_zero] at hp0
    refine ⟨i + 1 - K, K, by lia, hk, by rw [hp0]; lia, hK2, by lia, by lia, fun q hq => by rw [hpl q hq, hp0], ?_⟩
    intro st' k' a1 a2 a3 a4
    obtain ⟨b1, b2⟩ := hrun st' k' a1 a2 a3 a4
    have := hall (st' + (k' - 1)) (placeAt fg st' + (k' - 1)) ⟨by lia, by lia, Nat.zero_le _, by lia⟩
    lia
theorem find_two {fg : List Int} (F : Figs fg) {st en : Nat} (he : en = st + 2) (h2 : en ≤ fg.length) {bi bj bk : Int} (h : BestOf fg ringL st 0 (fun i j => st ≤ i ∧ i < en ∧ 0 ≤ j ∧ j < 65) bi bj bk) :
    bi = (st : Int) ∧ bj = (placeAt fg st : Int) ∧ bk = 2 := by
  obtain ⟨a, k, rfl, rfl, rfl, h3, h4, h5, -, -⟩ := best_run F (by lia) h2 h
  have : a = st := by lia
  subst this
  exact ⟨rfl, rfl, by lia⟩
theorem find_long {fg : List Int} (F : Figs fg) {lo en n : Nat} (h1 : lo + 2 ≤ en) (h2 : en ≤ fg.length) (hn : en ≤ n + 1) {bi bj bk b0 b1 b2 : Int} (h : BestOf fg ringL lo 0 (fun i j => lo ≤ i ∧ i < en ∧ 0 ≤ j ∧ j < 65) bi bj bk)
    (hL : LongTo (placesTo fg n) lo en (en - 1) b0 b1 b2) : b0 = bi ∧ b1 = bj ∧ b2 = bk := by
  obtain ⟨st, k, rfl, rfl, rfl, h3, h4, h5, h6, h7⟩ := best_run F h1 h2 h
  obtain ⟨S, K, a1, a2, a3, a4, rfl, rfl, rfl, a5, a6⟩ := hL.ex
  have hr1 : runs (placesTo fg n) st k := by
    intro q hq
    rw [places_get (by lia), places_get (by lia), h6 q hq]
    lia
  have hr2 : ∀ q, q + 1 < K → placeAt fg (S + q) = placeAt fg S + q := by
    intro q hq
    have := a5 q hq
    rw [places_get (by lia), places_get (by lia)] at this
    lia
  have q1 := h7 S K a1 a3 a4 hr2
  have q2 := a6 st k h4 (by lia) h5 h3 hr1
  have e1 : S = st := by lia
  have e2 : K = k := by lia
  subst e1; subst e2
  exact ⟨rfl, places_get (by lia), rfl⟩
theorem range_0 {n : Nat} {b : Int} (h : b = (n : Int)) : Builtin.Range.rangeSize 0 b 1 = (n : Int) := by
  have := range_n (a := 0) (n := n) (b := b) (by lia)
  exact this
theorem allLt_ne {d : Addr} {l : List (Addr × Obj)} (h : AllLt d l) : ∀ p ∈ l, p.1 ≠ d := fun p hp => Nat.ne_of_lt (allLt_mem h p hp)
theorem places_lo {fg : List Int} {n : Nat} {k : Int} (h : k ∈ placesTo fg n) : 0 ≤ k := by
  obtain ⟨i, _, rfl⟩ := List.mem_map.mp h
  lia
theorem places_hi {fg : List Int} {n : Nat} {k : Int} (F : Figs fg) (h : k ∈ placesTo fg n) : k < 64 := by
  obtain ⟨i, _, rfl⟩ := List.mem_map.mp h
  have := placeAt_lt F i
  lia
theorem places_hl {fg : List Int} {n : Nat} {k : Int} {f : Int → Int} (F : Figs fg) (h : k ∈ placesTo fg n) : k < ((pairsL.map f).length : Int) := by
  rw [List.length_map, pairs_len]; exact places_hi F h
theorem places_c {fg : List Int} {n : Nat} {k : Int} (F : Figs fg) (h : k ∈ placesTo fg n) : k < 1000000 := Int.lt_trans (places_hi F h) (by decide)
noncomputable def signsL (fg : List Int) (n : Nat) : List Int := (List.range n).map fun i => signOf (8 * fg.getD i 0 + fg.getD (i + 1) 0)
theorem signs_eq {fg : List Int} (F : Figs fg) (n : Nat) : (placesTo fg n).map (fun k' : Int => (pairsL.map signOf).getD k'.toNat 0) = signsL fg n := by
  unfold placesTo signsL
  rw [List.map_map]
  refine List.map_congr_left fun i _ => ?_
  have h1 := F.h i
  have h2 := F.h (i + 1)
  obtain ⟨a, b⟩ := spot_of (v := 8 * fg.getD i 0 + fg.getD (i + 1) 0) (by lia) (by lia)
  show (pairsL.map signOf).getD ((placeAt fg i : Int)).toNat 0 = _
  rw [Int.toNat_natCast, List.getD_eq_getElem?_getD, List.getElem?_map]
  show ((pairsL[spotOf (8 * fg.getD i 0 + fg.getD (i + 1) 0)]?).map signOf).getD 0 = _
  rw [b]; rfl
theorem signs_in (fg : List Int) (n : Nat) : KBa.In (signsL fg n) := by
  intro v hv
  obtain ⟨k, _, rfl⟩ := List.mem_map.mp hv
  exact sign_in _
theorem signs_len (fg : List Int) (n : Nat) : (signsL fg n).length = n := by simp [signsL]
theorem numTo_lt {os : List Int} (h : ∀ o ∈ os, 0 ≤ o ∧ o < 256) : ∀ i, i ≤ os.length → numTo os i < 256 ^ i
  | 0, _ => by simp [numTo]
  | i + 1, hi => by
    have hx : os[i]? = some os[i] := List.getElem?_eq_getElem (by lia)
    rw [numTo_succ hx]
    have h1 := numTo_lt h i (by lia)
    have h2 := h os[i] (List.getElem_mem _)
    rw [Int.pow_succ]
    lia
theorem figsL_len (number : Int) (size count : Nat) : (figsL number size count).length = count := by simp [figsL]
theorem figs_in (number : Int) (count : Nat) : KBa.In (figsL number 256 count) := by
  intro n hn
  obtain ⟨k, _, rfl⟩ := List.mem_map.mp hn
  exact ⟨Int.emod_nonneg _ (by decide), Int.emod_lt_of_pos _ (by decide)⟩
theorem pow_256 {n : Nat} (h : n ≤ 4) : (256 : Int) ^ n ≤ 4294967296 := by
  have : n = 0 ∨ n = 1 ∨ n = 2 ∨ n = 3 ∨ n = 4 := by lia
  rcases this with rfl | rfl | rfl | rfl | rfl <;> decide
end Mine

end TLawPl
section TLawEnv
open PySem PySem.W PyProof.Rows PySem.Calls PySem.Spec
set_option Elab.async false
set_option maxRecDepth 100000
set_option maxHeartbeats 4000000
namespace Mine
@[reducible] noncomputable def lawSc : Scope := (Scope.mk ScopeKind.function [(Prod.mk (Str.ofString "script") NameKind.local), (Prod.mk (Str.ofString "row") NameKind.local), (Prod.mk (Str.ofString "number") NameKind.local), (Prod.mk (Str.ofString "octet") NameKind.local), (Prod.mk (Str.ofString "moved") NameKind.local), (Prod.mk (Str.ofString "count") NameKind.local), (Prod.mk (Str.ofString "width") NameKind.local), (Prod.mk (Str.ofString "figures") NameKind.local), (Prod.mk (Str.ofString "ring") NameKind.cell), (Prod.mk (Str.ofString "pairs") NameKind.local), (Prod.mk (Str.ofString "spots") NameKind.local), (Prod.mk (Str.ofString "alphabet") NameKind.cell), (Prod.mk (Str.ofString "laid") NameKind.cell), (Prod.mk (Str.ofString "matcher") NameKind.local), (Prod.mk (Str.ofString "places") NameKind.local), (Prod.mk (Str.ofString "start") NameKind.local), (Prod.mk (Str.ofString "found") NameKind.local), (Prod.mk (Str.ofString "signs") NameKind.local), (Prod.mk (Str.ofString "written") NameKind.cell), (Prod.mk (Str.ofString "plain") NameKind.cell), (Prod.mk (Str.ofString "cut") NameKind.local), (Prod.mk (Str.ofString "low") NameKind.local), (Prod.mk (Str.ofString "end") NameKind.local), (Prod.mk (Str.ofString "absent") NameKind.local), (Prod.mk (Str.ofString "bytes") NameKind.globalImplicit), (Prod.mk (Str.ofString "_law_figures") NameKind.globalImplicit), (Prod.mk (Str.ofString "len") NameKind.globalImplicit), (Prod.mk (Str.ofString "_law_ring") NameKind.globalImplicit), (Prod.mk (Str.ofString "range") NameKind.globalImplicit), (Prod.mk (Str.ofString "dict") NameKind.globalImplicit), (Prod.mk (Str.ofString "zip") NameKind.globalImplicit), (Prod.mk (Str.ofString "SequenceMatcher") NameKind.globalImplicit), (Prod.mk (Str.ofString "tuple") NameKind.globalImplicit), (Prod.mk (Str.ofString "b64encode") NameKind.globalImplicit), (Prod.mk (Str.ofString "_law_filled") NameKind.globalImplicit), (Prod.mk (Str.ofString "sum") NameKind.globalImplicit), (Prod.mk (Str.ofString "_law_longest") NameKind.globalImplicit), (Prod.mk (Str.ofString "sorted_list_difference") NameKind.globalImplicit), (Prod.mk (Str.ofString "list") NameKind.globalImplicit), (Prod.mk (Str.ofString "sorted") NameKind.globalImplicit)] Bool.false Bool.false [(Prod.mk (Str.ofString "fast") (Const.str (Str.ofString "script"))), (Prod.mk (Str.ofString "fast") (Const.str (Str.ofString "x"))), (Prod.mk (Str.ofString "fast") (Const.str (Str.ofString "row"))), (Prod.mk (Str.ofString "fast") (Const.str (Str.ofString "number"))), (Prod.mk (Str.ofString "fast") (Const.str (Str.ofString "octet"))), (Prod.mk (Str.ofString "fast") (Const.str (Str.ofString "moved"))), (Prod.mk (Str.ofString "fast") (Const.str (Str.ofString "count"))), (Prod.mk (Str.ofString "fast") (Const.str (Str.ofString "width"))), (Prod.mk (Str.ofString "fast") (Const.str (Str.ofString "figures"))), (Prod.mk (Str.ofString "fast") (Const.str (Str.ofString "ring"))), (Prod.mk (Str.ofString "fast") (Const.str (Str.ofString "k"))), (Prod.mk (Str.ofString "fast") (Const.str (Str.ofString "pairs"))), (Prod.mk (Str.ofString "fast") (Const.str (Str.ofString "spots"))), (Prod.mk (Str.ofString "fast") (Const.str (Str.ofString "alphabet"))), (Prod.mk (Str.ofString "fast") (Const.str (Str.ofString "pair"))), (Prod.mk (Str.ofString "fast") (Const.str (Str.ofString "laid"))), (Prod.mk (Str.ofString "fast") (Const.str (Str.ofString "matcher"))), (Prod.mk (Str.ofString "fast") (Const.str (Str.ofString "places"))), (Prod.mk (Str.ofString "fast") (Const.str (Str.ofString "start"))), (Prod.mk (Str.ofString "fast") (Const.str (Str.ofString "found"))), (Prod.mk (Str.ofString "fast") (Const.str (Str.ofString "place"))), (Prod.mk (Str.ofString "fast") (Const.str (Str.ofString "signs"))), (Prod.mk (Str.ofString "fast") (Const.str (Str.ofString "written"))), (Prod.mk (Str.ofString "fast") (Const.str (Str.ofString "plain"))), (Prod.mk (Str.ofString "fast") (Const.str (Str.ofString "cut"))), (Prod.mk (Str.ofString "fast") (Const.str (Str.ofString "low"))), (Prod.mk (Str.ofString "fast") (Const.str (Str.ofString "end"))), (Prod.mk (Str.ofString "fast") (Const.str (Str.ofString "absent")))])
@[reducible] noncomputable def lawEnv (L fa : Addr) (cd : Value) : Env := envOfC (Str.ofString "law") lawSc L fa cd
theorem lawA (L fa : Addr) (cd : Value) : callerA.deeper (lawEnv L fa cd) = ktrTop (1 + claimMargin + 1) 7 (some []) (Str.ofString "law") lawSc L fa cd (cellsFrom (L + 1) lawSc.names []) [] := rfl
theorem ringB0 {k : Int} (h : k < 0 + (((64 : Int) - 0).toNat : Int)) : k < (ringL.length : Int) := by
  have e : ringL.length = 65 := by decide
  lia
theorem ringB1 {k : Int} (h : k < 0 + (((64 : Int) - 0).toNat : Int)) : k + 1 < (ringL.length : Int) := by
  have e : ringL.length = 65 := by decide
  lia
theorem ringC0 {k : Int} (h : k < 0 + (((64 : Int) - 0).toNat : Int)) : k < 1000000 := by lia
theorem ringC1 {k : Int} (h : k < 0 + (((64 : Int) - 0).toNat : Int)) : k + 1 < 1000000 := by lia
structure OffA (l : Addr) (as : List Addr) : Prop where
  all : ∀ a ∈ as, a ≠ l
theorem offa_of {l : Addr} {news : List (Addr × Obj)} (h : ∀ p ∈ news, p.1 ≠ l) : OffA l (news.map (·.1)) := ⟨fun a ha => by
  obtain ⟨p, hp, rfl⟩ := List.mem_map.mp ha
  exact h p hp⟩
theorem OffA.n1 {l a : Addr} {as : List Addr} (h : OffA l as) (ha : a ∈ as) : @Ne Nat a l := h.all a ha
theorem OffA.n2 {l a : Addr} {as : List Addr} (h : OffA l as) (ha : a ∈ as) : @Ne Nat l a := Ne.symm (h.all a ha)
theorem offa8 {l a1 a2 a3 a4 a5 a6 a7 a8 : Addr} (h : a1 ≠ l ∧ a2 ≠ l ∧ a3 ≠ l ∧ a4 ≠ l ∧ a5 ≠ l ∧ a6 ≠ l ∧ a7 ≠ l ∧ a8 ≠ l) : OffA l [a1, a2, a3, a4, a5, a6, a7, a8] := ⟨by
  obtain ⟨h1, h2, h3, h4, h5, h6, h7, h8⟩ := h
  exact List.forall_mem_cons.mpr ⟨h1, List.forall_mem_cons.mpr ⟨h2, List.forall_mem_cons.mpr ⟨h3, List.forall_mem_cons.mpr ⟨h4, List.forall_mem_cons.mpr ⟨h5, List.forall_mem_cons.mpr ⟨h6, List.forall_mem_cons.mpr ⟨h7, List.forall_mem_cons.mpr ⟨h8, List.forall_mem_nil _⟩⟩⟩⟩⟩⟩⟩⟩⟩
theorem law_dp : 1 + claimMargin + 1 + 20 < recursionLimit := by decide
theorem law_un : 7 + 100 < cLine := by decide
theorem in_execs {M : Model} {A : Around} {l l' : List Stmt} {env : Env} {Q : Flow → Shared → Prop} {E : Value → Shared → Prop} {s : Shared} (e : l = l') (h : wpAny M A (execs l' env) Q E s) : wpAny M A (execs l env) Q E s := e ▸ h
theorem in_top {α : Type} {M : Model} {A A' : Around} {t : Sem α} {Q : α → Shared → Prop} {E : Value → Shared → Prop} {s : Shared} (e : A = A') (h : wpAny M A' t Q E s) : wpAny M A t Q E s := e ▸ h
end Mine

end TLawEnv
section TLawSpot
open PySem PySem.W PyProof.Rows PySem.Calls PySem.Spec
set_option Elab.async false
set_option maxRecDepth 100000
set_option maxHeartbeats 4000000
namespace Mine
section
variable {prog : Program} {w : World} {A : Around} {E : Value → Shared → Prop} {s : Shared} {Q : Value → Shared → Prop} {h₀ : Heap} {L : Addr} {m : Str → Option Value} {news : List (Addr × Obj)}
theorem item_spot {value slice : PySem.Expr} {d : Addr} {od : Obj} {fd : Int → Option Value} {z : Int} {u : Tok} (N : News h₀ L s.heap news) (hm : (d, od) ∈ news) (hmap : ∀ h2 : Heap, h2.get? d = some od → h2.IntMap d fd) (hspot : SpotOK fd pairsL 64)
    (h0 : 0 ≤ z) (h1 : z < 64) (h : ∀ t, Q (.int (spotOf z : Nat) t) { s with toks := s.toks + 1 })
    (hs : subscripted slice false (.ref d) (.int z u) = operate [.ref d, .int z u] (getItem (.ref d) (.int z u)) := by with_unfolding_all rfl) :
    wpAny (model prog w) A (subscriptTail value slice (.ref d) (.int z u)) Q E s := by
  have hi := hmap s.heap (N _ hm).1
  obtain ⟨a, b⟩ := spot_of h0 h1
  obtain ⟨j', t, -, c1, c2⟩ := (hspot z).1 _ a b
  obtain rfl := spot_uni c1
  exact tail_any hi.typeIs F.slot_dict_getitem.lookup (wpAny_getItem_intMap hi c2 (h t)) hs
end
end Mine

end TLawSpot
section TLawCmp
open PySem PySem.W PyProof.Rows PySem.Calls PySem.Spec
set_option Elab.async false
set_option maxRecDepth 100000
set_option maxHeartbeats 4000000
namespace Mine
section
variable {prog : Program} {w : World} {A : Around} {E : Value → Shared → Prop} {s : Shared} {Q : Value → Shared → Prop} {h₀ : Heap} {L : Addr} {m : Str → Option Value} {news : List (Addr × Obj)}
theorem ne_tup {a b : Addr} {i j k : Int} {t u v t' u' v' : Tok} (N : News h₀ L s.heap news) (ha : (a, { cls := .type "tuple", data := .seq #[.int i t, .int j u, .int k v] }) ∈ news) (hb : (b, { cls := .type "tuple", data := .seq #[.int i t', .int j u', .int k v'] }) ∈ news)
    (hu : A.units + 64 < cLine) (h : Q (.bool false) s) : wpAny (model prog w) A (compareOp .NotEq (.ref a) (.ref b)) Q E s := by
  refine ne_dataH (reads_tuple_at (News.get N ha) rfl rfl (.cons (.int _ _) (.cons (.int _ _) (.cons (.int _ _) .nil)))) (reads_tuple_at (News.get N hb) rfl rfl (.cons (.int _ _) (.cons (.int _ _) (.cons (.int _ _) .nil)))) rfl rfl hu ?_
  simp only [PyData.eqv, PyData.eqvAll, beq_self_eq_true, Bool.and_true, Bool.true_and, Bool.not_true, decide_true]
  exact h
theorem eq_lists2 {a b la lb ua ub : Addr} {vs vs' : List Value} {ns : List Int} {n n' z z' : Nat} (N : News h₀ L s.heap news) (ha : (a, { cls := .type "tuple", data := .seq #[.ref la, .ref ua] }) ∈ news) (hb : (b, { cls := .type "tuple", data := .seq #[.ref lb, .ref ub] }) ∈ news)
    (h1 : (la, W.listOf vs.toArray n) ∈ news) (h2 : (ua, W.listOf #[] z) ∈ news) (h3 : (lb, W.listOf vs'.toArray n') ∈ news) (h4 : (ub, W.listOf #[] z') ∈ news) (i1 : IntsAre vs ns) (i2 : IntsAre vs' ns)
    (hu : A.units + 64 < cLine) (h : Q (.bool true) s) : wpAny (model prog w) A (compareOp .Eq (.ref a) (.ref b)) Q E s := by
  refine eq_dataH (reads_tuple_at (News.get N ha) rfl rfl (.cons (reads_newData (News.isList N h1) (ke_carried i1)) (.cons (reads_list_at (News.get N h2) rfl rfl .nil) .nil))) (reads_tuple_at (News.get N hb) rfl rfl (.cons (reads_newData (News.isList N h3) (ke_carried i2)) (.cons (reads_list_at (News.get N h4) rfl rfl .nil) .nil)))
    (by simp [SeqAt.shaped, PyData.canLay0, PyData.canLayAll0, PyData.depth, PyData.depthAll, ke_canLayAll0, ke_depthAll]) (by simp [SeqAt.shaped, PyData.canLay0, PyData.canLayAll0, PyData.depth, PyData.depthAll, ke_canLayAll0, ke_depthAll]) hu ?_
  simp only [PyData.eqv, PyData.eqvAll, ked_eqvAll, beq_self_eq_true, Bool.and_true, Bool.true_and, Bool.not_true, decide_true]
  exact h
end
end Mine

end TLawCmp
section TLawSlc
open PySem PySem.W PyProof.Rows PySem.Calls PySem.Spec
set_option Elab.async false
set_option maxRecDepth 100000
set_option maxHeartbeats 4000000
namespace Mine
open Builtin
noncomputable def stepTwo (b : Array UInt8) (lo : Nat) : Array UInt8 := ((List.range ((b.size - lo + 1) / 2)).filterMap fun k => b[lo + 2 * k]?).toArray
theorem sliced_two (b : Array UInt8) (lo : Nat) (h : lo ≤ b.size) : Bytes.sliced b (lo : Int) (b.size : Int) 2 = stepTwo b lo := by
  unfold Bytes.sliced stepTwo sliceRange
  rw [if_pos (by decide)]
  have e : (if (lo : Int) < (b.size : Int) then ((b.size : Int) - (lo : Int) + 2 - 1) / 2 else 0).toNat = (b.size - lo + 1) / 2 := by
    split <;> lia
  dsimp only
  rw [e, List.filterMap_map]
  congr 1
theorem stepTwo_le (b : Array UInt8) (lo : Nat) : (stepTwo b lo).size ≤ b.size := by
  unfold stepTwo
  rw [List.size_toArray]
  have := List.length_filterMap_le (fun k => b[lo + 2 * k]?) (List.range ((b.size - lo + 1) / 2))
  rw [List.length_range] at this
  exact Nat.le_trans this (by lia)
theorem bounds_two {lo : Option Int} {k n : Nat} (h : lo.getD 0 = (k : Int)) (hk : k ≤ n) : sliceBounds lo none (some 2) n = ((k : Int), (n : Int), 2) := by
  cases lo with
  | none => simp only [Option.getD_none] at h; simp [sliceBounds]; lia
  | some i => simp only [Option.getD_some] at h; subst h; simp [sliceBounds]; lia
theorem meets_two (b : Array UInt8) (t : Tok) (a : Addr) {l : Value} {lo : Option Int} {k : Nat} {u : Tok} (hl : IsPart l lo) (hk : lo.getD 0 = (k : Int)) (hkn : k ≤ b.size) :
    Meets («bytes.__getitem__» ⟨[.bytes b t, .ref a], []⟩) (fun _ R s => s.heap.IsSliceOf a l .none (.int 2 u) ∧ b.size ≤ sizeLine ∧ ∀ t' k', R (.ok (.ret (.bytes (stepTwo b k) t'))) { s with toks := k' }) := by
  refine .of_wp fun prog w A R s hS => ?_
  obtain ⟨⟨o, ho, hc, hd⟩, hsz, h⟩ := hS
  have hT : s.TypeIs (.ref a) "slice" := ⟨o, ho, hc⟩
  show wpAny _ _ (Bytes.payload (.bytes b t) >>= fun r => _) _ _ s
  refine wpAny_bind (wpAny_of_eq (a := b) rfl ?_)
  show wpAny _ _ (Bytes.subscript? (.ref a) >>= fun r => _) _ _ s
  refine wpAny_bind ?_
  unfold Bytes.subscript?
  refine wpAny_bind (wpAny_specialOf hT slice_no_index (wpAny_pure ?_))
  refine wpAny_bind (wpAny_typeOf hT ?_)
  show wpAny _ _ (Bytes.sliceParts (.ref a) >>= fun r => _) _ _ s
  refine wpAny_bind ?_
  unfold Bytes.sliceParts
  refine wpAny_bind (wpAny_field (x := .int 2 u) ho hd rfl ?_)
  kby_int
  refine wpAny_ite (KBy.ite_no (show ¬ ((rawInt 2 == rawInt 0) = true) by decide) ?_)
  refine wpAny_bind (wpAny_field (x := l) ho hd rfl ?_)
  have go : wpAny (model prog w) A.in1 (sliceIndices (rawPart lo) (rawPart none) (rawPart (some 2)) b.size) (fun r s' => r = sliceBounds lo none (some 2) b.size ∧ s' = s) (fun _ _ => False) s :=
    wpAny_of_eq (sliceIndices_raw lo none (some 2) b.size (by decide)) ⟨rfl, rfl⟩
  cases hl <;> (first
    | (kby_none; (refine wpAny_bind (wpAny_field (x := .none) ho hd rfl ?_)); kby_none)
    | (kby_int; (refine wpAny_bind (wpAny_field (x := .none) ho hd rfl ?_)); kby_none)) <;> refine wpAny_pure ?_
  all_goals
    refine wpAny_bind (wpAny_mono go (fun r s' hr => ?_) fun _ _ e => e.elim)
    obtain ⟨hr1, hr2⟩ := hr
    rw [bounds_two hk hkn] at hr1
    subst hr1 hr2
    refine wpAny_ite (KBy.ite_no (by simp) ?_)
    dsimp only
    rw [sliced_two b k hkn]
    exact wpAny_bind (wpAny_mkBytes (wpAny_pure ⟨_, rfl, h _ _⟩) (Nat.le_trans (stepTwo_le b k) hsz))
section
variable {prog : Program} {w : World} {A : Around} {E : Value → Shared → Prop} {s : Shared} {value slice : PySem.Expr} {b : Array UInt8} {t u : Tok} {h₀ : Heap} {L : Addr} {m : PySem.Str → Option Value} {news : List (Addr × Obj)} {l : Value} {lo : Option Int} {Q : Value → Shared → Prop} {k : Nat}
theorem slice_two (hF : Fr h₀ L s.heap m) (hN : News h₀ L s.heap news) (hl : IsPart l lo) (hk : lo.getD 0 = (k : Int)) (hkn : k ≤ b.size) (hz : b.size ≤ 1000)
    (h : ∀ h' t' k', Fr h₀ L h' m → News h₀ L h' news → Q (.bytes (stepTwo b k) t') { s with heap := h', toks := k' })
    (hs : subscripted slice false (.bytes b t) (.ref s.heap.objs.size) = operate [.ref s.heap.objs.size, .bytes b t] (getItem (.bytes b t) (.ref s.heap.objs.size)) := by with_unfolding_all rfl)
    (ht : ∀ r, letTemporaryGo value (.bytes b t) r = pure () := by intro _; with_unfolding_all rfl) :
    wpAny (model prog w) A (subscriptTail value slice (.bytes b t) (.ref s.heap.objs.size)) Q E { s with heap := s.heap.push { cls := .type "slice", data := .fields #[l, .none, .int 2 u] } } :=
  tail_of_ItemOn ⟨"bytes", _, FB.slot_bytes_getitem.lookup, typeIs_bytes _ _ _, getItem_meets (typeIs_bytes _ _ _) (by decide) FB.slot_bytes_getitem FB.entry_bytes_getitem (FB.args_bytes_getitem_2 _ _) (meets_two b t _ hl hk hkn)
    ⟨Heap.IsSliceOf.new _ _ _ _, by rw [sizeLine_eq]; lia, fun t' k' => h _ _ _ (hF.push _) (News.pushKeep hN _)⟩⟩ hs ht
end
end Mine

end TLawSlc
section TLawPlA
open PySem PySem.W PyProof.Rows PySem.Calls
set_option Elab.async false
set_option maxRecDepth 100000
set_option maxHeartbeats 1000000
namespace Mine
theorem ints_byteArr : ∀ {l : List Int}, KBa.In l → KBw.bInts (byteArr l) = l
  | [], _ => rfl
  | x :: l, h => by
    have h1 := h x (.head _)
    have ih := ints_byteArr (l := l) fun v hv => h v (.tail _ hv)
    show (((x.toNat.toUInt8).toNat : Nat) : Int) :: _ = _
    rw [show ((x.toNat.toUInt8).toNat : Int) = x by
      rw [Nat.toUInt8, UInt8.toNat_ofNat']; lia]
    exact congrArg _ ih
theorem pow_shift {N : Int} {a b c d : Nat} (h : a + d = c + b) : N * 2 ^ a / 2 ^ b = N * 2 ^ c / 2 ^ d := by
  have key : ∀ (a b j : Nat), N * 2 ^ a / 2 ^ b = N * 2 ^ (a + j) / 2 ^ (b + j) := by
    intro a b j
    rw [Int.pow_add, Int.pow_add, ← Int.mul_assoc, Int.mul_ediv_mul_of_pos_left _ _ (Int.pow_pos (by decide))]
  by_cases hac : a ≤ c
  · obtain ⟨j, rfl⟩ := Nat.exists_eq_add_of_le hac
    obtain rfl : d = b + j := by lia
    exact key a b j
  · obtain ⟨j, rfl⟩ := Nat.exists_eq_add_of_le (Nat.le_of_not_le hac)
    obtain rfl : b = d + j := by lia
    exact (key c d j).symm
theorem numTo_figs {M : Int} {c : Nat} (h0 : 0 ≤ M) (h1 : M < 256 ^ c) : ∀ i, i ≤ c → numTo (figsL M 256 c) i = M / 256 ^ (c - i)
  | 0, _ => by
    simp only [numTo, List.take_zero, List.foldl_nil, Nat.sub_zero]
    exact (Int.ediv_eq_zero_of_lt h0 h1).symm
  | i + 1, hi => by
    have hx : (figsL M 256 c)[i]? = some (M / 256 ^ (c - 1 - i) % 256) := by
      simp only [figsL, List.getElem?_map, List.getElem?_range (show i < c by lia)]; rfl
    rw [numTo_succ hx, numTo_figs h0 h1 i (by lia)]
    have e : c - i = (c - (i + 1)) + 1 := by lia
    have e2 : c - 1 - i = c - (i + 1) := by lia
    rw [e, e2, Int.pow_succ, ← Int.ediv_ediv_of_nonneg (Int.pow_nonneg (by decide))]
    have := Int.mul_ediv_add_emod (M / 256 ^ (c - (i + 1))) 256
    lia
noncomputable def sixL (X : Int) (w : Nat) : List Int := (List.range w).map fun k => signOf (X / 2 ^ (6 * (w - 1 - k)) % 64)
theorem b64_six {os : List Int} : b64L os = sixL (numTo os os.length * 2 ^ (6 * ((8 * os.length + 5) / 6) - 8 * os.length)) ((8 * os.length + 5) / 6) ++ List.replicate ((-(((8 * os.length + 5) / 6 : Nat) : Int)) % 4).toNat 61 := by
  obtain ⟨M, hM⟩ : ∃ M, M = numTo os os.length := ⟨_, rfl⟩
  unfold b64L b64Pad outTo sixL
  rw [← hM]
  generalize os.length = c
  obtain ⟨g, hg⟩ : ∃ g, c = 3 * g ∨ c = 3 * g + 1 ∨ c = 3 * g + 2 := ⟨c / 3, by lia⟩
  rcases hg with rfl | rfl | rfl
  · rw [if_pos (by lia), show (8 * (3 * g) + 5) / 6 = 4 * g by lia, show 8 * (3 * g) / 6 = 4 * g by lia, show ((-(((4 * g : Nat) : Nat) : Int)) % 4).toNat = 0 by lia]
    simp only [List.replicate_zero, List.append_nil]
    refine List.map_congr_left fun k hk => ?_
    have := List.mem_range.mp hk
    congr 2
    rw [show 6 * (4 * g) - 8 * (3 * g) = 0 by lia]
    simp only [Int.pow_zero, Int.mul_one]
    congr 2
    lia
  · rw [if_neg (by lia), if_pos (by lia), show (8 * (3 * g + 1) + 5) / 6 = 4 * g + 1 + 1 by lia, show 8 * (3 * g + 1) / 6 = 4 * g + 1 by lia, show ((-(((4 * g + 1 + 1 : Nat) : Nat) : Int)) % 4).toNat = 2 by lia]
    rw [List.range_succ (n := 4 * g + 1), List.map_append, List.append_assoc]
    congr 1
    · refine List.map_congr_left fun k hk => ?_
      have := List.mem_range.mp hk
      congr 2
      have := pow_shift (N := M) (a := 0) (b := 8 * (3 * g + 1) - 6 * (k + 1)) (c := 6 * (4 * g + 1 + 1) - 8 * (3 * g + 1)) (d := 6 * (4 * g + 1 + 1 - 1 - k)) (by lia)
      rwa [Int.pow_zero, Int.mul_one] at this
    · simp only [List.map_cons, List.map_nil, List.replicate_succ, List.replicate_zero, List.cons_append, List.nil_append]
      congr 2
      rw [show 4 * g + 1 + 1 - 1 - (4 * g + 1) = 0 by lia, show 6 * (4 * g + 1 + 1) - 8 * (3 * g + 1) = 4 by lia]
      lia
  · rw [if_neg (by lia), if_neg (by lia), show (8 * (3 * g + 2) + 5) / 6 = 4 * g + 2 + 1 by lia, show 8 * (3 * g + 2) / 6 = 4 * g + 2 by lia, show ((-(((4 * g + 2 + 1 : Nat) : Nat) : Int)) % 4).toNat = 1 by lia]
    rw [List.range_succ (n := 4 * g + 2), List.map_append, List.append_assoc]
    congr 1
    · refine List.map_congr_left fun k hk => ?_
      have := List.mem_range.mp hk
      congr 2
      have := pow_shift (N := M) (a := 0) (b := 8 * (3 * g + 2) - 6 * (k + 1)) (c := 6 * (4 * g + 2 + 1) - 8 * (3 * g + 2)) (d := 6 * (4 * g + 2 + 1 - 1 - k)) (by lia)
      rwa [Int.pow_zero, Int.mul_one] at this
    · simp only [List.map_cons, List.map_nil, List.replicate_succ, List.replicate_zero, List.cons_append, List.nil_append]
      congr 2
      rw [show 4 * g + 2 + 1 - 1 - (4 * g + 2) = 0 by lia, show 6 * (4 * g + 2 + 1) - 8 * (3 * g + 2) = 2 by lia]
      lia
theorem figs_two {X : Int} {n i : Nat} (h : i + 1 < n) : 8 * (figsL X 8 n).getD i 0 + (figsL X 8 n).getD (i + 1) 0 = X / 2 ^ (3 * (n - 2 - i)) % 64 := by
  have g : ∀ j, j < n → (figsL X 8 n).getD j 0 = X / 8 ^ (n - 1 - j) % 8 := by
    intro j hj
    rw [List.getD_eq_getElem?_getD]
    simp [figsL, hj]
  rw [g i (by lia), g (i + 1) h, Int.pow_mul, show (2 : Int) ^ 3 = 8 by decide]
  have e : n - 1 - i = n - 2 - i + 1 := by lia
  have e2 : n - 1 - (i + 1) = n - 2 - i := by lia
  rw [e, e2, Int.pow_succ, ← Int.ediv_ediv_of_nonneg (Int.pow_nonneg (by decide))]
  lia
end Mine

end TLawPlA
section TLawPl2
open PySem PySem.W PyProof.Rows PySem.Calls
set_option Elab.async false
set_option maxRecDepth 100000
set_option maxHeartbeats 1000000
namespace Mine
structure LawK (row fg : List Int) (wd : Nat) (mv : Array UInt8) : Prop where
  rlen : row.length ≤ 4
  rin : ∀ k ∈ row, 0 ≤ k ∧ k < 256
  hW : wd = (8 * row.length + 13) / 6
  hmv : mv = byteArr (figsL (32 * numTo row row.length) 256 (row.length + 1))
  hfe : fg = figsL (32 * numTo row row.length * 2 ^ (6 * wd - 8 * (row.length + 1))) 8 (2 * wd)
theorem cut_eq {ks : List Int} {c : Nat} : (ks.drop ((none : Option Int).elim 0 (clipAt ks.length))).take ((some (c : Int)).elim ks.length (clipAt ks.length) - (none : Option Int).elim 0 (clipAt ks.length)) = ks.take c := by
  simp only [Option.elim, clipAt_nat, List.drop_zero, Nat.sub_zero]
  by_cases h : c ≤ ks.length
  · rw [Nat.min_eq_left h]
  · rw [Nat.min_eq_right (by lia), List.take_of_length_le (Nat.le_refl _), List.take_of_length_le (by lia)]
theorem fm_congr {α β : Type} {f g : α → Option β} : ∀ {l : List α}, (∀ a ∈ l, f a = g a) → l.filterMap f = l.filterMap g
  | [], _ => rfl
  | a :: l, h => by
    rw [List.filterMap_cons, List.filterMap_cons, h a (.head _), fm_congr fun b hb => h b (.tail _ hb)]
noncomputable def everyTwo (l : List Int) (lo : Nat) : List Int := (List.range ((l.length - lo + 1) / 2)).map fun k => l.getD (lo + 2 * k) 0
theorem two_ints {l : List Int} (h : KBa.In l) (lo : Nat) : KBw.bInts (stepTwo (byteArr l) lo) = everyTwo l lo := by
  unfold stepTwo everyTwo KBw.bInts
  have hs : (byteArr l).size = l.length := byteArr_size l
  rw [hs]
  dsimp only
  rw [List.map_filterMap, ← List.filterMap_eq_map]
  refine fm_congr fun k hk => ?_
  have hk := List.mem_range.mp hk
  have hlt : lo + 2 * k < l.length := by lia
  have e : (byteArr l)[lo + 2 * k]? = some ((l.getD (lo + 2 * k) 0).toNat.toUInt8) := by
    rw [List.getD_eq_getElem?_getD, List.getElem?_eq_getElem hlt]
    unfold byteArr
    rw [List.getElem?_toArray, List.getElem?_map, List.getElem?_eq_getElem hlt]
    rfl
  rw [e]
  have hin := h (l.getD (lo + 2 * k) 0) (by rw [List.getD_eq_getElem?_getD, List.getElem?_eq_getElem hlt]; exact List.getElem_mem _)
  show some (((l.getD (lo + 2 * k) 0).toNat.toUInt8).toNat : Int) = some (l.getD (lo + 2 * k) 0)
  congr 1
  rw [Nat.toUInt8, UInt8.toNat_ofNat']; lia
theorem two_size (b : Array UInt8) (lo : Nat) : (stepTwo b lo).size = (KBw.bInts (stepTwo b lo)).length := by
  simp [KBw.bInts]
theorem two_len (l : List Int) (lo : Nat) : (everyTwo l lo).length = (l.length - lo + 1) / 2 := by simp [everyTwo]
theorem signs_get {fg : List Int} {n i : Nat} (h : i < n) : (signsL fg n).getD i 0 = signOf (8 * fg.getD i 0 + fg.getD (i + 1) 0) := by
  rw [List.getD_eq_getElem?_getD]
  simp [signsL, h]
section
variable {row fg : List Int} {wd : Nat} {mv : Array UInt8}
theorem LawK.n0 (h : LawK row fg wd mv) : 0 ≤ numTo row row.length := numTo_nonneg (fun o ho => (h.rin o ho).1) _
theorem LawK.n1 (h : LawK row fg wd mv) : numTo row row.length < 256 ^ row.length := numTo_lt h.rin _ (Nat.le_refl _)
theorem LawK.m1 (h : LawK row fg wd mv) : 32 * numTo row row.length < 256 ^ (row.length + 1) := by
  have h0 := h.n0
  have := h.n1
  rw [Int.pow_succ]
  generalize (256 : Int) ^ row.length = P at this ⊢
  lia
theorem LawK.os (h : LawK row fg wd mv) : KBw.bInts mv = figsL (32 * numTo row row.length) 256 (row.length + 1) := by
  rw [h.hmv]; exact ints_byteArr (figs_in _ _)
theorem LawK.num (h : LawK row fg wd mv) : numTo (KBw.bInts mv) (KBw.bInts mv).length = 32 * numTo row row.length := by
  rw [h.os, figsL_len, numTo_figs (by have := h.n0; lia) h.m1 _ (Nat.le_refl _), Nat.sub_self]
  simp
theorem LawK.two (h : LawK row fg wd mv) {i : Nat} (hi : i < 2 * wd - 1) : 8 * fg.getD i 0 + fg.getD (i + 1) 0 = 32 * numTo row row.length * 2 ^ (6 * wd - 8 * (row.length + 1)) / 2 ^ (3 * (2 * wd - 2 - i)) % 64 := by
  rw [h.hfe]; exact figs_two (by lia)
theorem LawK.written (h : LawK row fg wd mv) : b64L (KBw.bInts mv) = everyTwo (signsL fg (2 * wd - 1)) 0 ++ List.replicate ((-(wd : Int)) % 4).toNat 61 := by
  have hw := h.hW
  have hl : (KBw.bInts mv).length = row.length + 1 := by rw [h.os, figsL_len]
  rw [b64_six, h.num, hl, show (8 * (row.length + 1) + 5) / 6 = wd by lia]
  congr 1
  unfold sixL everyTwo
  rw [signs_len, show (2 * wd - 1 - 0 + 1) / 2 = wd by lia]
  refine List.map_congr_left fun k hk => ?_
  have hk := List.mem_range.mp hk
  rw [signs_get (by lia), h.two (by lia), show 3 * (2 * wd - 2 - (0 + 2 * k)) = 6 * (wd - 1 - k) by lia]
theorem LawK.plain (h : LawK row fg wd mv) : b64L row = (everyTwo (signsL fg (2 * wd - 1)) 1).take ((8 * row.length + 5) / 6) ++ List.replicate ((-(((8 * row.length + 5) / 6 : Nat) : Int)) % 4).toNat 61 := by
  have hw := h.hW
  rw [b64_six]
  congr 1
  unfold sixL everyTwo
  rw [signs_len, ← List.map_take, List.take_range, show min ((8 * row.length + 5) / 6) ((2 * wd - 1 - 1 + 1) / 2) = (8 * row.length + 5) / 6 by lia]
  refine List.map_congr_left fun k hk => ?_
  have hk := List.mem_range.mp hk
  rw [signs_get (by lia), h.two (by lia)]
  congr 2
  rw [show (32 : Int) = 2 ^ 5 by decide, Int.mul_comm (2 ^ 5), Int.mul_assoc, ← Int.pow_add]
  exact pow_shift (by lia)
end
theorem plain_written {row fg : List Int} {wd : Nat} {mv sg : Array UInt8} (h : LawK row fg wd mv) (hsg : sg = byteArr (signsL fg (2 * wd - 1))) :
    byteArr (b64L (KBw.bInts mv)) = byteArr (KBw.bInts (stepTwo sg 0) ++ List.replicate ((-((stepTwo sg 0).size : Int)) % 4).toNat 61) := by
  have hw := h.hW
  rw [two_size, hsg, two_ints (signs_in _ _), two_len, signs_len, show (2 * wd - 1 - 0 + 1) / 2 = wd by lia, h.written]
theorem plain_plain {row fg : List Int} {wd : Nat} {mv sg ct ra : Array UInt8} (h : LawK row fg wd mv) (hra : ra = byteArr row) (hsg : sg = byteArr (signsL fg (2 * wd - 1)))
    (hct : KBw.bInts ct = (KBw.bInts (stepTwo sg 1)).take ((8 * row.length + 5) / 6)) :
    byteArr (b64L (KBw.bInts ra)) = byteArr (KBw.bInts ct ++ List.replicate ((-(ct.size : Int)) % 4).toNat 61) := by
  have hw := h.hW
  have hcs : ct.size = (KBw.bInts ct).length := by simp [KBw.bInts]
  rw [hcs, hct, hsg, two_ints (signs_in _ _), List.length_take, two_len, signs_len, show min ((8 * row.length + 5) / 6) ((2 * wd - 1 - 1 + 1) / 2) = (8 * row.length + 5) / 6 by lia, hra, ints_byteArr h.rin, h.plain]
theorem sign_inj {a b : Int} (a0 : 0 ≤ a) (a1 : a < 64) (b0 : 0 ≤ b) (b1 : b < 64) (h : signOf a = signOf b) : a = b := by
  have key : ∀ i < 64, ∀ j < 64, signOf ((i : Nat) : Int) = signOf ((j : Nat) : Int) → i = j := by decide +kernel
  have := key a.toNat (by lia) b.toNat (by lia) (by rw [Int.toNat_of_nonneg a0, Int.toNat_of_nonneg b0]; exact h)
  lia
theorem sign_not_eq {a : Int} (a0 : 0 ≤ a) (a1 : a < 64) : signOf a ≠ 61 := by
  have key : ∀ i < 64, signOf ((i : Nat) : Int) ≠ 61 := by decide +kernel
  have := key a.toNat (by lia)
  rwa [Int.toNat_of_nonneg a0] at this
section
variable {row fg : List Int} {wd : Nat} {mv : Array UInt8}
theorem mem_two {l : List Int} {lo i : Nat} {x : Int} (h : lo + 2 * i < l.length) (hx : l.getD (lo + 2 * i) 0 = x) : x ∈ everyTwo l lo :=
  List.mem_map.mpr ⟨i, List.mem_range.mpr (by lia), hx⟩
theorem two_mem {l : List Int} {lo : Nat} {x : Int} (h : x ∈ everyTwo l lo) (hl : lo ≤ l.length) : ∃ i, i < l.length ∧ l.getD i 0 = x := by
  obtain ⟨k, hk, rfl⟩ := List.mem_map.mp h
  have := List.mem_range.mp hk
  exact ⟨lo + 2 * k, by lia, rfl⟩
theorem LawK.signs (h : LawK row fg wd mv) (x : Int) (hx : x ≠ 61) : (x ∈ b64L (KBw.bInts mv) ++ b64L row) ↔ ∃ i, i < 2 * wd - 1 ∧ signOf (8 * fg.getD i 0 + fg.getD (i + 1) 0) = x := by
  have hw := h.hW
  have hr := h.rlen
  have h61 : ∀ n, x ∉ List.replicate n (61 : Int) := fun n hm => hx (List.eq_of_mem_replicate hm)
  rw [h.written, h.plain, List.mem_append, List.mem_append, List.mem_append]
  constructor
  · rintro ((hm | hm) | (hm | hm))
    · obtain ⟨i, hi, e⟩ := two_mem hm (by lia)
      rw [signs_len] at hi
      exact ⟨i, hi, by rw [← signs_get hi]; exact e⟩
    · exact absurd hm (h61 _)
    · obtain ⟨i, hi, e⟩ := two_mem (List.mem_of_mem_take hm) (by rw [signs_len]; lia)
      rw [signs_len] at hi
      exact ⟨i, hi, by rw [← signs_get hi]; exact e⟩
    · exact absurd hm (h61 _)
  · rintro ⟨i, hi, rfl⟩
    have even : ∀ j, 2 * j < 2 * wd - 1 → signOf (8 * fg.getD (2 * j) 0 + fg.getD (2 * j + 1) 0) ∈ everyTwo (signsL fg (2 * wd - 1)) 0 := fun j hj => mem_two (i := j) (by rw [signs_len]; lia) (by rw [Nat.zero_add]; exact signs_get hj)
    obtain ⟨j, hj⟩ : ∃ j, i = 2 * j ∨ i = 2 * j + 1 := ⟨i / 2, by lia⟩
    rcases hj with rfl | rfl
    · exact .inl (.inl (even j hi))
    · by_cases hc : j < (8 * row.length + 5) / 6
      · refine .inr (.inl (List.mem_iff_getElem?.mpr ⟨j, ?_⟩))
        rw [List.getElem?_take_of_lt hc]
        unfold everyTwo
        rw [List.getElem?_map, List.getElem?_range (by rw [signs_len]; lia)]
        show some ((signsL fg (2 * wd - 1)).getD (1 + 2 * j) 0) = _
        rw [Nat.add_comm 1, signs_get hi]
      · have hn : row.length = 0 ∨ row.length = 3 := by
          have : row.length = 0 ∨ row.length = 1 ∨ row.length = 2 ∨ row.length = 3 ∨ row.length = 4 := by lia
          rcases this with q | q | q | q | q <;> lia
        have e1 : 8 * fg.getD (2 * j + 1) 0 + fg.getD (2 * j + 1 + 1) 0 = 0 := by
          rw [h.two hi]
          rcases hn with hn | hn
          · have : numTo row row.length = 0 := by rw [hn]; rfl
            rw [this]; simp
          · obtain rfl : j = 4 := by lia
            obtain rfl : wd = 6 := by lia
            rw [hn]
            lia
        have e2 : 8 * fg.getD (2 * (j + 1)) 0 + fg.getD (2 * (j + 1) + 1) 0 = 0 := by
          rw [h.two (by lia)]
          rcases hn with hn | hn
          · have : numTo row row.length = 0 := by rw [hn]; rfl
            rw [this]; simp
          · obtain rfl : j = 4 := by lia
            obtain rfl : wd = 6 := by lia
            rw [hn]
            lia
        have := even (j + 1) (by lia)
        rw [e2] at this
        rw [e1]
        exact .inl (.inl this)
theorem LawK.figs (h : LawK row fg wd mv) : Figs fg := by
  refine figs_of fun k hk => ?_
  rw [h.hfe] at hk
  obtain ⟨j, _, rfl⟩ := List.mem_map.mp hk
  exact ⟨Int.emod_nonneg _ (by decide), Int.emod_lt_of_pos _ (by decide)⟩
theorem LawK.met (h : LawK row fg wd mv) {k : Nat} (hk : k < 64) : (signOf (pairsL.getD k 0) ∈ b64L (KBw.bInts mv) ++ b64L row) ↔ (k : Int) ∈ placesTo fg (2 * wd - 1) := by
  have hF := h.figs
  have hp : pairsL.getD k 0 ∈ pairsL := by
    rw [List.getD_eq_getElem?_getD, List.getElem?_eq_getElem (by rw [pairs_len]; exact hk)]
    exact List.getElem_mem _
  rw [h.signs _ (sign_not_eq (pairs_lo hp) (pairs_hi hp))]
  constructor
  · rintro ⟨i, hi, e⟩
    have h1 := hF.h i
    have h2 := hF.h (i + 1)
    have := sign_inj (by lia) (by lia) (pairs_lo hp) (pairs_hi hp) e
    refine List.mem_map.mpr ⟨i, List.mem_range.mpr hi, ?_⟩
    unfold placeAt
    rw [this, spot_pair k hk]
  · intro hm
    obtain ⟨i, hi, e⟩ := List.mem_map.mp hm
    have hi := List.mem_range.mp hi
    have h1 := hF.h i
    have h2 := hF.h (i + 1)
    refine ⟨i, hi, ?_⟩
    congr 1
    have e2 : placeAt fg i = k := by lia
    obtain ⟨a, b⟩ := spot_of (v := 8 * fg.getD i 0 + fg.getD (i + 1) 0) (by lia) (by lia)
    unfold placeAt at e2
    rw [e2] at b
    rw [List.getD_eq_getElem?_getD (l := pairsL), b]; rfl
end
end Mine

end TLawPl2
section TLawTwn
open PySem PySem.W PyProof.Rows PySem.Calls PySem.Spec
set_option Elab.async false
set_option maxRecDepth 100000
set_option maxHeartbeats 1000000
namespace Mine
noncomputable def TEnd (h₀ : Heap) (L : Addr) (names : List Str) (m₀ : Str → Option Value) (own : List (Addr × Obj)) (s₁ : Shared) (R : Value → Shared → Prop) (f : Flow) (s₂ : Shared) : Prop :=
  match f with
  | .ret v => R v s₂
  | .brk => False
  | _ => ∃ h' tk' m' news', s₂ = { s₁ with heap := h', toks := tk' } ∧ Fr h₀ L h' m' ∧ News h₀ L h' news' ∧ (∀ p ∈ own, p ∈ news') ∧ (∀ z, names.contains z = false → m' z = m₀ z)
section
variable {prog : Program} {w : World} {A : Around} {E : Value → Shared → Prop} {s : Shared} {env : Env} {h₀ : Heap} {target : PySem.Expr} {body : List Stmt} {Q : Flow → Shared → Prop}
theorem tend_next {L : Addr} {names : List Str} {m₀ m' : Str → Option Value} {own news' : List (Addr × Obj)} {s₁ : Shared} {R : Value → Shared → Prop} {h' : Heap} {tk : Nat} (F : Fr h₀ L h' m') (N : News h₀ L h' news') (ho : ∀ p ∈ own, p ∈ news') (hz : ∀ z, names.contains z = false → m' z = m₀ z) :
    TEnd h₀ L names m₀ own s₁ R .next { s₁ with heap := h', toks := tk } := ⟨h', tk, m', news', rfl, F, N, ho, hz⟩
theorem turns_flat {l : Addr} {vs : List Value} {nn : Nat} {m₀ : Str → Option Value} {news : List (Addr × Obj)} (names : List Str) (hh : A.handled = none) (hl : (l, W.listOf vs.toArray nn) ∈ news) (F : Fr h₀ env.locals s.heap m₀) (N : News h₀ env.locals s.heap news)
    (turn : ∀ (i : Nat) (v : Value) (u : Str → Option Value) h tk own, vs[i]? = some v → (∀ p ∈ news, p ∈ own) → Fr h₀ env.locals h (fun y => if names.contains y then u y else m₀ y) → News h₀ env.locals h own →
      wpAny (model prog w) A (assign target env v) (fun _ s₃ => wpAny (model prog w) A (execs body env) (TEnd h₀ env.locals names m₀ own { s with heap := h, toks := tk } (fun v s' => Q (.ret v) s')) E s₃) E { s with heap := h, toks := tk })
    (done : ∀ (u : Str → Option Value) h tk, Fr h₀ env.locals h (fun y => if names.contains y then u y else m₀ y) → News h₀ env.locals h news → Q .next { s with heap := h, toks := tk }) :
    wpAny (model prog w) A (pyIter (.ref l)) (fun it s₂ => TurnsAt prog w A h₀ env target body Q E it s₂) E s := by
  have hax := N _ hl
  have hli : s.heap.IsList l vs.toArray := ⟨_, hax.1, rfl, nn, rfl⟩
  have hlt : l < s.heap.objs.size := Heap.lt_size hax.1
  have hne : l ≠ s.heap.objs.size := Nat.ne_of_lt hlt
  have hfr : ∀ {h : Heap} {m₁ : Str → Option Value}, (∀ z, names.contains z = false → m₁ z = m₀ z) → Fr h₀ env.locals h m₁ → Fr h₀ env.locals h (fun y => if names.contains y then m₁ y else m₀ y) := by
    intro h m₁ hz F₁
    have e : m₁ = fun y => if names.contains y then m₁ y else m₀ y := by
      funext y
      cases hc : names.contains y with
      | true => rfl
      | false => exact hz y hc
    rw [← e]; exact F₁
  refine wpAny_pyIter_list hli ?_
  refine ⟨s.heap.objs.size, _, _, _, _, _, _, m₀, news, fun _ m' n' => n' = news ∧ ∀ z, names.contains z = false → m' z = m₀ z, rfl, KTurns.ofWalks (Walks.list hh s.heap.objs.size l hne vs.toArray) (fun i v s Q E st q => letGo_listiter st.1 q), ?_, ?_, ?_, ⟨⟨_, Heap.get?_push_size _ rfl, rfl, rfl⟩, hli.at fun o e => Heap.get?_push_of_some _ e⟩, F.push _, fun p hp => ⟨Heap.get?_push_of_some _ (N p hp).1, (N p hp).2⟩, ⟨rfl, fun _ _ => rfl⟩, ?_, ?_⟩
  · intro hI
    rcases List.mem_cons.mp hI with e | hI
    · exact absurd F.ns.lt (e ▸ Nat.lt_irrefl _)
    · exact hax.2.1 (List.mem_singleton.mp hI).symm
  · intro b hb
    rw [List.mem_singleton.mp hb]
    exact next_is_new F
  · intro p hp hI
    exact absurd (Heap.lt_size (N p hp).1) ((List.mem_singleton.mp hI) ▸ Nat.lt_irrefl _)
  · rintro i v m₁ news₁ h₁ tk₁ own hi hP ⟨rfl, hz⟩ hnw hown1 hown2 hown3 hst F₁ N₁
    have hv : vs[i]? = some v := by
      have : vs.toArray[i]? = some v := hP
      simpa using this
    refine wpAny_mono (turn i v m₁ h₁ tk₁ (own ++ news₁) hv (fun p hp => List.mem_append.mpr (.inr hp)) (hfr hz F₁) N₁) (fun _ s₃ h3 => wpAny_mono h3 (fun f s₄ h4 => ?_) fun _ _ e => e) fun _ _ e => e
    have fin : (∃ h' tk' m' news', s₄ = { s with heap := h', toks := tk' } ∧ Fr h₀ env.locals h' m' ∧ News h₀ env.locals h' news' ∧ (∀ p ∈ own ++ news₁, p ∈ news') ∧ (∀ z, names.contains z = false → m' z = m₀ z)) → LoopStepU h₀ env.locals [s.heap.objs.size] own (fun m' n' => n' = news₁ ∧ ∀ z, names.contains z = false → m' z = m₀ z) { s with heap := h₁, toks := tk₁ } .next s₄ := by
      rintro ⟨h', tk', m', news', rfl, F', N', ha, hz'⟩
      exact ⟨rfl, h', tk', m', news₁, rfl, F', fun p hp => N' p (ha p hp), hnw, rfl, hz'⟩
    cases f with
    | ret v => exact h4
    | brk => exact h4.elim
    | next => exact fin h4
    | cont => exact fin h4
  · rintro h' tk m' news' F' N' _ ⟨rfl, hz⟩
    exact done m' h' tk (hfr hz F') N'
end
end Mine

end TLawTwn
section TLawIn
open PySem PySem.W PyProof.Rows PySem.Calls PySem.Spec
set_option Elab.async false
set_option maxRecDepth 100000
set_option maxHeartbeats 4000000
namespace Mine
open Builtin
theorem gives_bcont {b : Array UInt8} {x : Int} {t u : Tok} (h0 : 0 ≤ x) (h1 : x < 256) : Gives («bytes.__contains__» ⟨[.bytes b u, .int x t], []⟩) (.val (.bool (b.contains x.toNat.toUInt8))) := by
  refine .of_wp fun M A E s Q hq => ?_
  show wpAny M A (Bytes.containsIn "bytes.__contains__" (.bytes b u) (.int x t) >>= fun r => ret (.bool r)) _ E s
  refine wpAny_bind ?_
  unfold Bytes.containsIn
  refine wpAny_bind (wpAny_of_eq (a := Except.ok x) rfl ?_)
  refine wpAny_bind (wpAny_of_eq KBy.buffer_eq ?_)
  dsimp only
  rw [if_neg (by simp; lia)]
  exact wpAny_pure (wpAny_pure ⟨_, rfl, hq⟩)
section
variable {prog : Program} {w : World} {A : Around} {E : Value → Shared → Prop} {s : Shared} {Q : Value → Shared → Prop}
theorem notin_bytes {b : Array UInt8} {x : Int} {t u : Tok} (h0 : 0 ≤ x) (h1 : x < 256) (h : Q (.bool (!(b.contains x.toNat.toUInt8))) s) : wpAny (model prog w) A (compareOp .NotIn (.int x t) (.bytes b u)) Q E s :=
  notIn_gives (typeIs_bytes s b u) FB.slot_bytes_contains FB.entry_bytes_contains (FB.args_bytes_contains_2 _ _) (gives_bcont h0 h1) h
end
end Mine

end TLawIn
section TLawFlt
open PySem PySem.W PyProof.Rows PySem.Calls PySem.Spec
set_option Elab.async false
set_option maxRecDepth 100000
set_option maxHeartbeats 1000000
namespace Mine
noncomputable def FTest (h₀ : Heap) (L : Addr) (m : Str → Option Value) (s₁ : Shared) (full : List (Addr × Obj)) (b ok : Bool) (s' : Shared) : Prop :=
  ok = b ∧ ∃ h' tk', s' = { s₁ with heap := h', toks := tk' } ∧ Fr h₀ L h' m ∧ News h₀ L h' full
theorem ftest {h₀ : Heap} {L : Addr} {m : Str → Option Value} {s₁ : Shared} {full full' : List (Addr × Obj)} {b ok : Bool} {h' : Heap} {tk' : Nat} (F : Fr h₀ L h' m) (N : News h₀ L h' full') (hs : ∀ p ∈ full, p ∈ full') (e : ok = b) :
    FTest h₀ L m s₁ full b ok { s₁ with heap := h', toks := tk' } := ⟨e, h', tk', rfl, F, fun p hp => N p (hs p hp)⟩
section
variable {prog : Program} {w : World} {A : Around} {h₀ : Heap} {L : Addr} {m : Str → Option Value} {env : Env} {ct : Expr} {x : Str} {px : Pos} {scope : Scope} {cl : List (Str × Addr)} {s : Shared} {Fin : List Value → List (Addr × Obj) → Prop} {news : List (Addr × Obj)}
theorem filt_range {n : Nat} {a : Int} (p : Int → Bool) (hk : scope.kind = .function) (hl : scope.names.lookup x = some .local) (hd : (x == ("__debug__" : Str)) = false)
    (turn : ∀ k t I oI C oC D m₂ ys h tk (E' : Value → Shared → Prop), a ≤ k → k < a + (n : Int) → LCg.NsObj oC m₂ → m₂ x = some (.int k t) → Fr h₀ L h m → News h₀ L h ((I, oI) :: (C, oC) :: (D, LCg.lst ys) :: news) → LCg.Off3 I C D news → ((@Ne Nat I C) ∧ (@Ne Nat I D) ∧ (@Ne Nat C D)) →
      wpAny (model prog w) A (isTrue ct (compEnvC scope cl C env) (eval ct (compEnvC scope cl C env))) (FTest h₀ L m { s with heap := h, toks := tk } ((I, oI) :: (C, oC) :: (D, LCg.lst ys) :: news) (p k)) E' { s with heap := h, toks := tk })
    (fin : ∀ ys, IntsAre ys ((rangeKs a n).filter p) → Fin ys news) :
    LCt.CompRestT prog w A h₀ L m env ct (.Name x px) x scope cl s (fun _ => True) (fun i v => ∃ t, v = .int (a + (i : Int)) t) Fin n 0 [] news := by
  have key : ∀ (j i : Nat) (ys : List Value), i + j = n → IntsAre ys (((rangeKs a n).take i).filter p) → LCt.CompRestT prog w A h₀ L m env ct (.Name x px) x scope cl s (fun _ => True) (fun i v => ∃ t, v = .int (a + (i : Int)) t) Fin j i ys news := by
    intro j
    induction j with
    | zero =>
      intro i ys hi hy
      have e : i = (rangeKs a n).length := by rw [rangeKs_length]; lia
      subst e
      rw [List.take_length] at hy
      exact LCt.CompRestT.zero (fin ys hy)
    | succ j ih =>
      intro i ys hi hy
      refine LCt.CompRestT.succ ?_
      intro v I oI C oC D m₂ h tk E' hv hC hx F N off ne
      obtain ⟨t, rfl⟩ := hv
      refine wpAny_mono (turn (a + (i : Int)) t I oI C oC D m₂ ys h tk E' (by lia) (by lia) hC hx F N off ne) (fun ok s₂ hq => ?_) fun _ _ e => e
      obtain ⟨rfl, h', tk', rfl, F', N'⟩ := hq
      have hki : (rangeKs a n)[i]? = some (a + (i : Int)) := by simp [rangeKs, show i < n by lia]
      cases hp : p (a + (i : Int)) with
      | true =>
        rw [if_pos rfl]
        refine LCgL.ld_own N' (.tail _ (.head _)) hC hx ?_ (hk := hk) (hl := lookup_relabel_local hl) (hd := hd)
        refine ⟨h', tk', news, rfl, F', N', off, trivial, ?_⟩
        refine ih (i + 1) _ (by lia) ?_
        rw [List.take_add_one, hki]
        rw [List.filter_append]
        refine IntsAre.append hy ?_
        show IntsAre _ (List.filter p [a + (i : Int)])
        rw [List.filter_cons_of_pos hp]
        exact .cons _ t .nil
      | false =>
        rw [if_neg (by simp)]
        refine ⟨h', tk', news, rfl, F', N', off, trivial, ?_⟩
        refine ih (i + 1) _ (by lia) ?_
        rw [List.take_add_one, hki, List.filter_append]
        show IntsAre _ (_ ++ List.filter p [a + (i : Int)])
        rw [List.filter_cons_of_neg (by rw [hp]; simp)]
        simpa using hy
  exact key n 0 [] (by lia) (by simp only [List.take_zero, List.filter_nil]; exact .nil)
end
end Mine

end TLawFlt
section TLawPl3
open PySem PySem.W PyProof.Rows PySem.Calls
set_option Elab.async false
set_option maxRecDepth 100000
set_option maxHeartbeats 1000000
namespace Mine
theorem laid_get {k : Nat} (hk : k < 64) : (pairsL.map signOf).getD k 0 = signOf (pairsL.getD k 0) := by
  rw [List.getD_eq_getElem?_getD, List.getElem?_map, List.getD_eq_getElem?_getD, List.getElem?_eq_getElem (by rw [pairs_len]; exact hk)]
  rfl
theorem laid_in {k : Int} : 0 ≤ (pairsL.map signOf).getD k.toNat 0 ∧ (pairsL.map signOf).getD k.toNat 0 < 256 := by
  by_cases h : k.toNat < 64
  · rw [laid_get h]; exact sign_in _
  · rw [List.getD_eq_getElem?_getD, List.getElem?_eq_none (by rw [List.length_map, pairs_len]; lia)]
    decide
theorem byte_inj {x y : Int} (x0 : 0 ≤ x) (x1 : x < 256) (y0 : 0 ≤ y) (y1 : y < 256) (h : x.toNat.toUInt8 = y.toNat.toUInt8) : x = y := by
  have := congrArg UInt8.toNat h
  rw [show x.toNat.toUInt8 = UInt8.ofNat x.toNat from rfl, show y.toNat.toUInt8 = UInt8.ofNat y.toNat from rfl, UInt8.toNat_ofNat', UInt8.toNat_ofNat'] at this
  lia
theorem byte_mem {x : Int} (x0 : 0 ≤ x) (x1 : x < 256) {l : List Int} (hl : KBa.In l) : (byteArr l).contains x.toNat.toUInt8 = decide (x ∈ l) := by
  rw [Bool.eq_iff_iff, decide_eq_true_eq, Array.contains_iff_mem]
  unfold byteArr
  rw [List.mem_toArray, List.mem_map]
  constructor
  · rintro ⟨y, hy, e⟩
    have := byte_inj (hl y hy).1 (hl y hy).2 x0 x1 e
    exact this ▸ hy
  · intro h
    exact ⟨x, h, rfl⟩
theorem range_up : rangeKs 0 64 = upto 64 := by decide +kernel
theorem LawK.absent {row fg : List Int} {wd : Nat} {mv wra ra pla : Array UInt8} {ns : List Int} (h : LawK row fg wd mv) (hwra : wra = byteArr (b64L (KBw.bInts mv))) (hra : ra = byteArr row) (hpla : pla = byteArr (b64L (KBw.bInts ra))) (hp : ns.Perm (placesTo fg (2 * wd - 1))) :
    (rangeKs 0 64).filter (fun k => !((wra ++ pla).contains ((pairsL.map signOf).getD k.toNat 0).toNat.toUInt8)) = absentL ns 64 := by
  rw [range_up]
  unfold absentL
  refine List.filter_congr fun k hk => ?_
  obtain ⟨j, hj, rfl⟩ := List.mem_map.mp hk
  have hj := List.mem_range.mp hj
  congr 1
  rw [hwra, hpla, hra, ints_byteArr h.rin, ← byteArr_app, byte_mem laid_in.1 laid_in.2 (fun v hv => by
    rcases List.mem_append.mp hv with hv | hv
    · exact b64L_in _ v hv
    · exact b64L_in _ v hv), Int.toNat_natCast, laid_get hj, Bool.eq_iff_iff, decide_eq_true_eq, h.met hj]
  rw [List.contains_iff_mem]
  exact hp.mem_iff.symm
theorem sortedIn_of {ns : List Int} {fg : List Int} {n : Nat} (F : Figs fg) (hp : ns.Perm (placesTo fg n)) (hs : ns.Pairwise (· ≤ ·)) (hn : n ≤ 20) : SortedIn ns := by
  have hl : ns.length = n := by rw [hp.length_eq, places_len]
  have hget : ∀ q (hq : q < ns.length), ns.getD q 0 = ns[q] := fun q hq => by rw [List.getD_eq_getElem?_getD, List.getElem?_eq_getElem hq]; rfl
  refine ⟨by lia, fun q hq => ?_, fun q r hqr hr => ?_⟩
  · have hm : ns.getD q 0 ∈ placesTo fg n := hp.mem_iff.mp (by rw [hget q hq]; exact List.getElem_mem _)
    exact ⟨places_lo hm, places_hi F hm⟩
  · rw [hget q (by lia), hget r hr]
    rcases Nat.lt_or_eq_of_le hqr with hlt | rfl
    · exact List.pairwise_iff_getElem.mp hs q r (by lia) hr hlt
    · exact Int.le_refl _
end Mine

end TLawPl3
section TLawP7
open PySem PySem.W PyProof.Rows PySem.Calls PySem.Spec
set_option Elab.async false
set_option maxRecDepth 100000
set_option maxHeartbeats 16000000
namespace Mine
theorem lawP7 {w : World} {loose : List Str} {mean : ExcName → Option Value} {mg mb : Str → Option Value} {base g : Heap} {L' fa : Addr} {cd : Value} {m : Str → Option Value} {s : Shared} {Q : Flow → Shared → Prop} {E : Value → Shared → Prop}
    {wra pla ra : Array UInt8} {wrt plt : Tok} {pl : Addr} {pvs : List Value} {pn : Nat} {fl lad rl self dx rg db jk pp : Addr} {fvs lvs ys : List Value} {fn ln nr nd : Nat} {fg row : List Int} {mv : Array UInt8} {wd : Nat} {o3 o4 o5 : Obj} {t0 t1 t2 t3 t4 t5 t6 t7 t8 t9 : Tok} {sml : List (Addr × Obj)}
    (B : Below callerA base [] g) (F : Fr g L' s.heap m) (X : (Mine.K w.params).In g) (XB : (Mine.K w.params).In base) (T : Top Mine.q loose mean mg mb g) (TB : Top Mine.q loose mean mg mb base)
    (N : News g L' s.heap ((pl, W.listOf pvs.toArray pn) :: (fl, W.listOf fvs.toArray fn) :: (lad, W.listOf lvs.toArray ln) :: (rl, W.listOf ys.toArray nr) :: (L' + 1 + 1 + 1, o3) :: (L' + 1 + 1 + 1 + 1 + 1, o5) :: (L' + 1 + 1 + 1 + 1, o4) :: (self, instObj 242 dx) :: (dx, dictOf (smEs w.params t0 t1 t2 t3 t4 t5 t6 t7 t8 t9 (.ref fl) (.ref rg) .none .none .none (.ref db) (.ref jk) (.ref pp)) nd) :: sml))
    (hM : Smat w sml self fl rg fg ringL)
    (x4 : OffA (L' + 1 + 1 + 1 + 1) [pl, fl, lad, rl, self, dx]) (x5 : OffA (L' + 1 + 1 + 1 + 1 + 1) [pl, fl, lad, rl, self, dx]) (s4 : ∀ p ∈ sml, p.1 ≠ L' + 1 + 1 + 1 + 1) (s5 : ∀ p ∈ sml, p.1 ≠ L' + 1 + 1 + 1 + 1 + 1)
    (d3 : o3.data = .cell (some (.ref lad))) (d4 : o4.data = .cell (some (.bytes wra wrt))) (d5 : o5.data = .cell (some (.bytes pla plt)))
    (hrow : IntsAre ys row) (rlen : row.length ≤ 4) (rin : ∀ k ∈ row, 0 ≤ k ∧ k < 256) (hW : wd = (8 * row.length + 13) / 6) (hmv : mv = byteArr (figsL (32 * numTo row row.length) 256 (row.length + 1))) (hfg : IntsAre fvs fg) (hfe : fg = figsL (32 * numTo row row.length * 2 ^ (6 * wd - 8 * (row.length + 1))) 8 (2 * wd)) (hfl : fg.length = 2 * wd) (hff : Figs fg)
    (hlaid : IntsAre lvs (pairsL.map signOf))
    (hpl : IntsAre pvs (placesTo fg (2 * wd - 1)))
     (f8 : m (Str.ofString "places") = some (.ref pl))
    (hwra : wra = byteArr (b64L (KBw.bInts mv))) (hra : ra = byteArr row) (hpla : pla = byteArr (b64L (KBw.bInts ra)))
    (hE : PassesOwn (model PySem.Challenge.rw_rt0114_01.row.prog w) (callerA.deeper (lawEnv L' fa cd)) (lawEnv L' fa cd) E)
    (hret : ∀ h' tk' m' news', Fr g L' h' m' → News g L' h' news' → Q (.ret (.bool true)) { s with heap := h', toks := tk' }) :
    wpAny (model PySem.Challenge.rw_rt0114_01.row.prog w) (callerA.deeper (lawEnv L' fa cd)) (execs ((bd 20).drop 21) (lawEnv L' fa cd)) Q E s := by
  k_with_none
  k_with "pyIter ref" => ((with_reducible show wpAny _ _ (pyIter _) (fun it s₂ => LoopAtV _ _ _ _ _ (Str.ofString _) _ _ _ it s₂) _ _); refine Mine.hold ?_)
  k_with "exec While" => (refine Mine.hold ?_)
  k_with "NoTurn" => (refine Mine.hold ?_)
  k_with "LPost" => (refine Mine.hold ?_)
  k_with "k_lt" => (intro ltq9; ((try (have hne9 := Mine.own_ne (by assumption) ltq9 (by (intro p hp; repeat (first | exact hp | refine Mine.mem_tail ?_))))); replace ltq9 := allLt_of ltq9; simp only [AllLt, and_true] at ltq9))
  k_with "k_mem" => (first | with_reducible assumption | exact Mine.mem_head | (refine Mine.mem_tail ?_; k_mem))
  k_with "k_all" => (with_reducible assumption)
  k_with "call type:range" => (k_here; (rename Fr _ _ _ _ => F'); (rename News _ _ _ _ => N'); first | (with_unfolding_all refine range1_rows F' N' ?_; intro _ _ _ _ _ _ _ _ _) | (with_unfolding_all refine range2_rows F' N' ?_; intro _ _ _ _ _ _ _ _ _))
  k_with "binaryOp Add ref ref" => (k_here; (with_reducible show wpAny _ _ (binaryOp _ (Value.ref _) (Value.ref _)) _ _ _); k_dflt (refine' Mine.add_L ?k1 ?k2 ?a ?b ?z ?_; (case k1 => k_asm); (case k2 => k_asm); (case a => k_mem); (case b => k_mem); (case z => (simp only [List.length_cons, List.length_nil, List.length_append]; lia)); k_whole); intro d' h' F' N' l1; (try k_lt l1); (try k_sweep))
  k_with "call builtin:list.append" => (k_here; (with_reducible show wpAny _ _ (call (Value.builtin _) [Value.ref _, _]) _ _ _); k_dflt (refine' Mine.append_L ?k1 ?k2 ?k3 ?z ?_; (case k1 => k_asm); (case k2 => k_asm); (case k3 => k_upd); (case z => first | lia | (simp only [List.length_cons, List.length_nil, List.length_append]; lia)); k_whole); intro h' F' N'; (try k_sweep))
  k_with "call builtin:list.extend" => (k_here; (with_reducible show wpAny _ _ (call (Value.builtin _) [Value.ref _, Value.ref _]) _ _ _); k_dflt (refine' Mine.extend_L ?k1 ?k2 ?b ?ne ?k3 ?z ?_; (case k1 => k_asm); (case k2 => k_asm); (case b => k_mem); (case ne => first | exact Nat.succ_ne_zero _ | lia); (case k3 => k_upd); (case z => (simp only [List.length_cons, List.length_nil, List.length_append]; lia)); k_whole); intro h' F' N'; (try k_sweep))
  k_with "execs" => ((with_reducible show wpAny _ _ (execs (List.drop _ (Mine.bd _)) _) _ _ _); refine Mine.hold ?_)
  k_with "eval Name" => (k_here; k_dflt (refine' nameX_L ?k1 ?k2 ?_ ?k3 ?k4; (case k3 => rfl); (case k4 => rfl); (case k1 => k_asm); (case k2 => first | assumption | exact rfl | (dsimp only; (repeat rw [if_neg (by decide)]); first | assumption | (rw [if_pos rfl]))); k_whole))
  k_with "exec For Name Name" => (refine Mine.hold ?_)
  k_with "call ref" => (refine Mine.hold ?_)
  k_with "binaryOp Pow int int" => (refine Mine.hold ?_)
  k_with "call type:bytes" => (refine Mine.hold ?_)
  k_with "binaryOp FloorDiv int int" => (refine Mine.hold ?_)
  k_with "subscriptTail Name Name ref int" => (k_here; (with_reducible show wpAny _ _ (subscriptTail _ _ (Value.ref _) (Value.int _ _)) _ _ _); k_dflt (refine' Mine.item_ints ?N ?m ?i ?a ?b ?c ?_; (case N => k_asm); (case m => k_mem); (case i => assumption); (case a => first | assumption | exact Int.le_add_one (by assumption) | lia); (case b => first | exact Mine.ringB0 (by assumption) | exact Mine.ringB1 (by assumption) | lia); (case c => first | exact Mine.ringC0 (by assumption) | exact Mine.ringC1 (by assumption) | lia); k_whole); intro _)
  k_with "subscriptTail Name BinOp ref int" => (k_here; (with_reducible show wpAny _ _ (subscriptTail _ _ (Value.ref _) (Value.int _ _)) _ _ _); k_dflt (refine' Mine.item_ints ?N ?m ?i ?a ?b ?c ?_; (case N => k_asm); (case m => k_mem); (case i => assumption); (case a => first | assumption | exact Int.le_add_one (by assumption) | lia); (case b => first | exact Mine.ringB0 (by assumption) | exact Mine.ringB1 (by assumption) | lia); (case c => first | exact Mine.ringC0 (by assumption) | exact Mine.ringC1 (by assumption) | lia); k_whole); intro _)
  k_with "k_ne" => (first | ((with_reducible refine Mine.OffA.n1 (by assumption) ?_); k_mem) | ((with_reducible refine Mine.OffA.n2 (by assumption) ?_); k_mem) | fail)
  k_with "call type:zip" => (refine Mine.hold ?_)
  k_with "call type:dict" => (refine Mine.hold ?_)
  k_with "subscriptTail Name Name ref int" => (refine Mine.hold ?_)
  k_with "subscriptTail Name BinOp ref int" => (refine Mine.hold ?_)
  k_with "call type:tuple" => (refine Mine.hold ?_)
  k_with "compareOp NotEq ref ref" => (refine Mine.hold ?_)
  k_with "newTuple" => (k_here; k_dflt (refine' kup_newTuple ?F ?N ?_ ?z; (case F => k_asm); (case N => k_asm); (case z => kmk_size)); intro D' h' F' N' l1; (try k_lt l1); (try k_sweep))
  k_with "k_all" => (first | with_reducible assumption | exact List.forall_mem_nil _ | (refine' List.forall_mem_cons.mpr ⟨?a, ?b⟩; (case a => k_ne); (case b => k_all)))
  k_with "subscriptTail Name Name ref int" => (k_here; (with_reducible show wpAny _ _ (subscriptTail _ _ (Value.ref _) (Value.int _ _)) _ _ _); k_dflt (refine' Mine.item_ints ?N ?m ?i ?a ?b ?c ?_; (case N => k_asm); (case m => k_mem); (case i => assumption); (case a => lia); (case b => rw [List.length_map, Mine.pairs_len]; lia); (case c => lia); k_whole); intro _)
  k_with "CompSrcT" => (refine Mine.hold ?_)
  k_with "FTest" => (refine Mine.hold ?_)
  k_with "compareOp NotIn int bytes" => (refine Mine.hold ?_)
  k_with "binaryOp Add bytes bytes" => (refine Mine.hold ?_)
  k_with "call type:list" => (refine Mine.hold ?_)
  k_with "call builtin:sorted" => (refine Mine.hold ?_)
  k_with "compareOp Eq ref ref" => (refine Mine.hold ?_)
  revert X; k_fill; intro X
  (conv in (execs _ _) => arg 1; whnf)
  have hplen : pvs.length = 2 * wd - 1 := by rw [IntsAre.length hpl, places_len]
  have hwd : 2 ≤ wd ∧ wd ≤ 7 := by lia
  have hrl := ring_len
  have hpsl := places_len fg (2 * wd - 1)
  k_steps
  refine unhold ?_
  (with_reducible rename Fr _ _ _ _ => wF)
  (with_reducible rename News _ _ _ _ => wN)
  (with_reducible rename IsRange _ _ _ _ _ _ _ _ => wR)
  refine LCt.CompSrcT.range rfl wF wN wR (by decide) (n := 64) (by decide) (by decide) ?_
  intro g9
  have hK : LawK row fg wd mv := ⟨rlen, rin, hW, hmv, hfe⟩
  have z1 : wra.size ≤ 100000 := by rw [hwra, byteArr_size]; exact b64L_len _ (by rw [hK.os, figsL_len]; lia)
  have z2 : pla.size ≤ 100000 := by rw [hpla, byteArr_size]; exact b64L_len _ (by rw [hra, ints_byteArr rin]; lia)
  refine' filt_range (fun k => !((wra ++ pla).contains ((pairsL.map signOf).getD k.toNat 0).toNat.toUInt8)) rfl rfl (by decide) ?turn ?fin
  case turn =>
    intro k t9 I oI C oC D m9 ys9 h9 tk9 E9 hk0 hk1 hC9 hx9 F9 N9 off9 ne9
    clear wF wN wR
    have hk2 : k < 64 := by lia
    clear hk1
    k_steps
    refine unhold ?_
    refine KBy.add_bytes (by lia) ?_
    intro t4 k4
    k_steps
    refine unhold ?_
    refine notin_bytes laid_in.1 laid_in.2 ?_
    k_steps
    refine unhold ?_
    (with_reducible rename Fr _ _ _ _ => wF)
    (with_reducible rename News _ _ _ _ => wN)
    exact ftest wF wN (fun p hp => by repeat (first | exact hp | refine Mine.mem_tail ?_)) rfl
  case fin =>
    intro ys hys
    replace hys : IntsAre ys ((rangeKs 0 64).filter (fun k => !((wra ++ pla).contains ((pairsL.map signOf).getD k.toNat 0).toNat.toUInt8))) := hys
    rw [hK.absent hwra hra hpla (List.Perm.refl _)] at hys
    clear wF wN wR
    k_steps
    refine unhold ?_
    (with_reducible rename Fr _ _ _ _ => wF)
    (with_reducible rename News _ _ _ _ => wN)
    (with_reducible rename IsRange _ _ _ _ _ _ _ _ => wR)
    refine kll_range rfl wF wN wR (by decide) (n := 64) (by decide) (by decide) ?_
    intro D us c h2 tk2 F2 N2 l2 hi2
    rw [range_up] at hi2
    clear wF wN wR l2
    k_steps
    refine unhold ?_
    (with_reducible rename Fr _ _ _ _ => wF)
    (with_reducible rename News _ _ _ _ => wN)
    refine kso_sorted wF wN (isList_N wN (by k_mem)) hpl (by lia) ?_
    intro D3 vs3 ns3 c3 h3 F3 N3 l3 hi3 e3 p3 o3 _
    have hS : SortedIn ns3 := sortedIn_of hff p3 o3 (by lia)
    rw [(hK.absent hwra hra hpla (List.Perm.refl _)).symm.trans (hK.absent hwra hra hpla p3)] at hys
    clear wF wN l3
    k_steps
    refine unhold ?_
    (with_reducible rename Fr _ _ _ _ => wF)
    (with_reducible rename News _ _ _ _ => wN)
    refine in_top (lawA L' fa cd) ?_
    refine' sld_call (cs := lawSc) (eA := D) (aA := D3) (vs := us) (ws := vs3) B ?F X ?N T rfl rfl hi2 hi3 hS law_dp law_un XB TB ?_
    case F => exact wF
    case N => exact (List.forall_mem_cons.mpr ⟨wN _ (by k_mem), List.forall_mem_cons.mpr ⟨wN _ (by k_mem), wN⟩⟩ : News _ _ _ ((D, W.listOf us.toArray c) :: (D3, W.listOf vs3.toArray c3) :: _))
    intro T4 a4 b4 ms4 nm4 nu4 h4 tk4 F4 N4 hi4
    clear wF wN
    k_steps
    refine unhold ?_
    (with_reducible rename Fr _ _ _ _ => wF)
    (with_reducible rename News _ _ _ _ => wN)
    refine eq_lists2 wN (by k_mem) (by k_mem) (by k_mem) (by k_mem) (by k_mem) (by k_mem) hi4 hys (by show 7 + 64 < cLine; decide) ?_
    (with_reducible rename Fr _ _ _ _ => wF)
    (with_reducible rename News _ _ _ _ => wN)
    exact hret _ _ _ _ wF wN
  k_with_none
end Mine

end TLawP7
section TLawP6
open PySem PySem.W PyProof.Rows PySem.Calls PySem.Spec
set_option Elab.async false
set_option maxRecDepth 100000
set_option maxHeartbeats 16000000
namespace Mine
theorem lawP6 {w : World} {loose : List Str} {mean : ExcName → Option Value} {mg mb : Str → Option Value} {base g : Heap} {L' fa : Addr} {cd : Value} {m : Str → Option Value} {s : Shared} {Q : Flow → Shared → Prop} {E : Value → Shared → Prop}
    {wra pla ra : Array UInt8} {wrt plt : Tok} {pl : Addr} {pvs : List Value} {pn : Nat} {fl lad rl self dx rg db jk pp : Addr} {fvs lvs ys : List Value} {fn ln nr nd : Nat} {fg row : List Int} {mv : Array UInt8} {mt wt ct : Tok} {wd : Nat} {o3 o4 o5 : Obj} {t0 t1 t2 t3 t4 t5 t6 t7 t8 t9 : Tok} {sml : List (Addr × Obj)}
    (B : Below callerA base [] g) (F : Fr g L' s.heap m) (X : (Mine.K w.params).In g) (XB : (Mine.K w.params).In base) (T : Top Mine.q loose mean mg mb g) (TB : Top Mine.q loose mean mg mb base)
    (N : News g L' s.heap ((pl, W.listOf pvs.toArray pn) :: (fl, W.listOf fvs.toArray fn) :: (lad, W.listOf lvs.toArray ln) :: (rl, W.listOf ys.toArray nr) :: (L' + 1 + 1 + 1, o3) :: (L' + 1 + 1 + 1 + 1 + 1, o5) :: (L' + 1 + 1 + 1 + 1, o4) :: (self, instObj 242 dx) :: (dx, dictOf (smEs w.params t0 t1 t2 t3 t4 t5 t6 t7 t8 t9 (.ref fl) (.ref rg) .none .none .none (.ref db) (.ref jk) (.ref pp)) nd) :: sml))
    (hM : Smat w sml self fl rg fg ringL)
    (x4 : OffA (L' + 1 + 1 + 1 + 1) [pl, fl, lad, rl, self, dx]) (x5 : OffA (L' + 1 + 1 + 1 + 1 + 1) [pl, fl, lad, rl, self, dx]) (s4 : ∀ p ∈ sml, p.1 ≠ L' + 1 + 1 + 1 + 1) (s5 : ∀ p ∈ sml, p.1 ≠ L' + 1 + 1 + 1 + 1 + 1)
    (d3 : o3.data = .cell (some (.ref lad))) (d4 : o4.data = .cell (some (.bytes wra wrt))) (d5 : o5.data = .cell (some (.bytes pla plt)))
    (hrow : IntsAre ys row) (rlen : row.length ≤ 4) (rin : ∀ k ∈ row, 0 ≤ k ∧ k < 256) (hW : wd = (8 * row.length + 13) / 6) (hmv : mv = byteArr (figsL (32 * numTo row row.length) 256 (row.length + 1))) (hfg : IntsAre fvs fg) (hfe : fg = figsL (32 * numTo row row.length * 2 ^ (6 * wd - 8 * (row.length + 1))) 8 (2 * wd)) (hfl : fg.length = 2 * wd) (hff : Figs fg)
    (hlaid : IntsAre lvs (pairsL.map signOf))
    (hpl : IntsAre pvs (placesTo fg (2 * wd - 1)))
    (f1 : m (Str.ofString "row") = some (.ref rl)) (f2 : m (Str.ofString "moved") = some (.bytes mv mt)) (f3 : m (Str.ofString "count") = some (.int (((8 * row.length + 5) / 6 : Nat) : Int) ct)) (f4 : m (Str.ofString "width") = some (.int (wd : Int) wt)) (f5 : m (Str.ofString "figures") = some (.ref fl)) (f6 : m (Str.ofString "matcher") = some (.ref self)) (f8 : m (Str.ofString "places") = some (.ref pl))
    (hwra : wra = byteArr (b64L (KBw.bInts mv))) (hra : ra = byteArr row) (hpla : pla = byteArr (b64L (KBw.bInts ra)))
    (hE : PassesOwn (model PySem.Challenge.rw_rt0114_01.row.prog w) (callerA.deeper (lawEnv L' fa cd)) (lawEnv L' fa cd) E)
    (hret : ∀ h' tk' m' news', Fr g L' h' m' → News g L' h' news' → Q (.ret (.bool true)) { s with heap := h', toks := tk' }) :
    wpAny (model PySem.Challenge.rw_rt0114_01.row.prog w) (callerA.deeper (lawEnv L' fa cd)) (execs ((bd 20).drop 19) (lawEnv L' fa cd)) Q E s := by
  k_with_none
  k_with "pyIter ref" => ((with_reducible show wpAny _ _ (pyIter _) (fun it s₂ => LoopAtV _ _ _ _ _ (Str.ofString _) _ _ _ it s₂) _ _); refine Mine.hold ?_)
  k_with "exec While" => (refine Mine.hold ?_)
  k_with "NoTurn" => (refine Mine.hold ?_)
  k_with "LPost" => (refine Mine.hold ?_)
  k_with "k_lt" => (intro ltq9; ((try (have hne9 := Mine.own_ne (by assumption) ltq9 (by (intro p hp; repeat (first | exact hp | refine Mine.mem_tail ?_))))); replace ltq9 := allLt_of ltq9; simp only [AllLt, and_true] at ltq9))
  k_with "k_mem" => (first | with_reducible assumption | exact Mine.mem_head | (refine Mine.mem_tail ?_; k_mem))
  k_with "k_all" => (with_reducible assumption)
  k_with "call type:range" => (k_here; (rename Fr _ _ _ _ => F'); (rename News _ _ _ _ => N'); first | (with_unfolding_all refine range1_rows F' N' ?_; intro _ _ _ _ _ _ _ _ _) | (with_unfolding_all refine range2_rows F' N' ?_; intro _ _ _ _ _ _ _ _ _))
  k_with "binaryOp Add ref ref" => (k_here; (with_reducible show wpAny _ _ (binaryOp _ (Value.ref _) (Value.ref _)) _ _ _); k_dflt (refine' Mine.add_L ?k1 ?k2 ?a ?b ?z ?_; (case k1 => k_asm); (case k2 => k_asm); (case a => k_mem); (case b => k_mem); (case z => (simp only [List.length_cons, List.length_nil, List.length_append]; lia)); k_whole); intro d' h' F' N' l1; (try k_lt l1); (try k_sweep))
  k_with "call builtin:list.append" => (k_here; (with_reducible show wpAny _ _ (call (Value.builtin _) [Value.ref _, _]) _ _ _); k_dflt (refine' Mine.append_L ?k1 ?k2 ?k3 ?z ?_; (case k1 => k_asm); (case k2 => k_asm); (case k3 => k_upd); (case z => first | lia | (simp only [List.length_cons, List.length_nil, List.length_append]; lia)); k_whole); intro h' F' N'; (try k_sweep))
  k_with "call builtin:list.extend" => (k_here; (with_reducible show wpAny _ _ (call (Value.builtin _) [Value.ref _, Value.ref _]) _ _ _); k_dflt (refine' Mine.extend_L ?k1 ?k2 ?b ?ne ?k3 ?z ?_; (case k1 => k_asm); (case k2 => k_asm); (case b => k_mem); (case ne => first | exact Nat.succ_ne_zero _ | lia); (case k3 => k_upd); (case z => (simp only [List.length_cons, List.length_nil, List.length_append]; lia)); k_whole); intro h' F' N'; (try k_sweep))
  k_with "execs" => ((with_reducible show wpAny _ _ (execs (List.drop _ (Mine.bd _)) _) _ _ _); refine Mine.hold ?_)
  k_with "eval Name" => (k_here; k_dflt (refine' nameX_L ?k1 ?k2 ?_ ?k3 ?k4; (case k3 => rfl); (case k4 => rfl); (case k1 => k_asm); (case k2 => first | assumption | exact rfl | (dsimp only; (repeat rw [if_neg (by decide)]); first | assumption | (rw [if_pos rfl]))); k_whole))
  k_with "exec For Name Name" => (refine Mine.hold ?_)
  k_with "call ref" => (refine Mine.hold ?_)
  k_with "binaryOp Pow int int" => (refine Mine.hold ?_)
  k_with "call type:bytes" => (refine Mine.hold ?_)
  k_with "binaryOp FloorDiv int int" => (refine Mine.hold ?_)
  k_with "subscriptTail Name Name ref int" => (k_here; (with_reducible show wpAny _ _ (subscriptTail _ _ (Value.ref _) (Value.int _ _)) _ _ _); k_dflt (refine' Mine.item_ints ?N ?m ?i ?a ?b ?c ?_; (case N => k_asm); (case m => k_mem); (case i => assumption); (case a => first | assumption | exact Int.le_add_one (by assumption) | lia); (case b => first | exact Mine.ringB0 (by assumption) | exact Mine.ringB1 (by assumption) | lia); (case c => first | exact Mine.ringC0 (by assumption) | exact Mine.ringC1 (by assumption) | lia); k_whole); intro _)
  k_with "subscriptTail Name BinOp ref int" => (k_here; (with_reducible show wpAny _ _ (subscriptTail _ _ (Value.ref _) (Value.int _ _)) _ _ _); k_dflt (refine' Mine.item_ints ?N ?m ?i ?a ?b ?c ?_; (case N => k_asm); (case m => k_mem); (case i => assumption); (case a => first | assumption | exact Int.le_add_one (by assumption) | lia); (case b => first | exact Mine.ringB0 (by assumption) | exact Mine.ringB1 (by assumption) | lia); (case c => first | exact Mine.ringC0 (by assumption) | exact Mine.ringC1 (by assumption) | lia); k_whole); intro _)
  k_with "k_ne" => (first | ((with_reducible refine Mine.OffA.n1 (by assumption) ?_); k_mem) | ((with_reducible refine Mine.OffA.n2 (by assumption) ?_); k_mem) | fail)
  k_with "call type:zip" => (refine Mine.hold ?_)
  k_with "call type:dict" => (refine Mine.hold ?_)
  k_with "subscriptTail Name Name ref int" => (refine Mine.hold ?_)
  k_with "subscriptTail Name BinOp ref int" => (refine Mine.hold ?_)
  k_with "call type:tuple" => (refine Mine.hold ?_)
  k_with "compareOp NotEq ref ref" => (refine Mine.hold ?_)
  k_with "newTuple" => (k_here; k_dflt (refine' kup_newTuple ?F ?N ?_ ?z; (case F => k_asm); (case N => k_asm); (case z => kmk_size)); intro D' h' F' N' l1; (try k_lt l1); (try k_sweep))
  k_with "k_all" => (first | with_reducible assumption | exact List.forall_mem_nil _ | (refine' List.forall_mem_cons.mpr ⟨?a, ?b⟩; (case a => k_ne); (case b => k_all)))
  k_with "call builtin:sum" => (refine Mine.hold ?_)
  k_with "TEnd" => (refine Mine.hold ?_)
  k_with "pyIter ref" => ((with_reducible show wpAny _ _ (pyIter _) (fun it s₂ => TurnsAt _ _ _ _ _ _ _ _ _ it s₂) _ _); refine Mine.hold ?_)
  revert X; k_fill; intro X
  refine in_execs (show (bd 20).drop 19 = nthS 19 (bd 20) :: nthS 20 (bd 20) :: (bd 20).drop 21 from rfl) ?_
  (conv in (nthS 19 _) => whnf)
  (conv in (nthS 20 _) => whnf)
  have hplen : pvs.length = 2 * wd - 1 := by rw [IntsAre.length hpl, places_len]
  have hwd : 2 ≤ wd ∧ wd ≤ 7 := by lia
  have hrl := ring_len
  have hpsl := places_len fg (2 * wd - 1)
  k_steps
  refine unhold ?_
  (with_reducible rename Fr _ _ _ _ => wF)
  (with_reducible rename News _ _ _ _ => wN)
  refine LSm.sum_ints wF wN rfl (isList_N wN (by k_mem)) hrow ?_
  intro h1 tk1 st F1 N1
  clear wF wN
  k_steps
  refine unhold ?_
  (with_reducible rename Fr _ _ _ _ => wF)
  (with_reducible rename News _ _ _ _ => wN)
  have hfm : 0 ≤ row.sum.fmod (2 * (wd : Int) - 3) ∧ row.sum.fmod (2 * (wd : Int) - 3) < 2 * (wd : Int) - 3 := ⟨Int.fmod_nonneg_of_pos _ (by lia), Int.fmod_lt_of_pos _ (by lia)⟩
  obtain ⟨cut, hcut⟩ : ∃ cut : Nat, 2 + row.sum.fmod (2 * (wd : Int) - 3) = (cut : Int) := ⟨(2 + row.sum.fmod (2 * (wd : Int) - 3)).toNat, by lia⟩
  have hc2 : 2 ≤ cut ∧ cut + 2 ≤ 2 * wd := by lia
  clear hfm
  have e2w : (2 * (wd : Int)) = ((2 * wd : Nat) : Int) := by lia
  rw [hcut, e2w] at wN
  refine turns_flat [Str.ofString "low", Str.ofString "end"] (by rfl) (List.Mem.head _) wF wN ?turn ?done
  case turn =>
    intro i v u9 h9 tk9 own hv hrest F9 N9
    have hvs : ∃ (D0 : Addr) (a b : Nat) (ta tb : Tok), v = .ref D0 ∧ (D0, ({ cls := .type "tuple", data := .seq #[.int (a : Int) ta, .int (b : Int) tb] } : Obj)) ∈ own ∧ a + 2 ≤ b ∧ b ≤ 2 * wd := by
      have hi3 : i < 3 := (List.getElem?_eq_some_iff.mp hv).1
      have : i = 0 ∨ i = 1 ∨ i = 2 := by lia
      rcases this with rfl | rfl | rfl
      · obtain rfl := Option.some.inj hv
        exact ⟨_, 0, 2 * wd, _, _, rfl, hrest _ (by repeat (first | exact List.Mem.head _ | refine List.Mem.tail _ ?_)), by lia, by lia⟩
      · obtain rfl := Option.some.inj hv
        exact ⟨_, 0, cut, _, _, rfl, hrest _ (by repeat (first | exact List.Mem.head _ | refine List.Mem.tail _ ?_)), by lia, by lia⟩
      · obtain rfl := Option.some.inj hv
        exact ⟨_, cut, 2 * wd, _, _, rfl, hrest _ (by repeat (first | exact List.Mem.head _ | refine List.Mem.tail _ ?_)), by lia, by lia⟩
    obtain ⟨D0, a, b, ta, tb, rfl, hD0, hab, hb2⟩ := hvs
    have p2 := hrest (pl, W.listOf pvs.toArray pn) (by k_mem)
    have p3 := hrest (self, instObj 242 dx) (by k_mem)
    have p4 := hrest (dx, _) (by k_mem)
    have p5 : Smat w own self fl rg fg ringL := hM.mono (fun p hp => hrest p (by repeat (first | exact hp | refine Mine.mem_tail ?_)))
    have hmk : OwnMark own := ⟨⟩
    clear wF wN hv
    replace F9 : Fr g L' h9 _ := F9
    replace N9 : News g L' h9 own := N9
    have N10 : News g L' h9 ((D0, ({ cls := .type "tuple", data := .seq #[.int (a : Int) ta, .int (b : Int) tb] } : Obj)) :: (pl, W.listOf pvs.toArray pn) :: (self, instObj 242 dx) :: own) := List.forall_mem_cons.mpr ⟨N9 _ hD0, List.forall_mem_cons.mpr ⟨N9 _ p2, List.forall_mem_cons.mpr ⟨N9 _ p3, N9⟩⟩⟩
    clear N9
    have hpsl2 : b ≤ (placesTo fg (2 * wd - 1)).length + 1 := by lia
    k_steps
    refine unhold ?_
    (with_reducible rename Fr _ _ _ _ => wF)
    (with_reducible rename News _ _ _ _ => wN)
    refine in_top (lawA L' fa cd) ?_
    refine' find_call (cs := lawSc) (la := fl) (lb := rg) (as := fg) (bs := ringL) (alo := a) (ahi := b) (blo := 0) (bhi := 65) B ?F X ?N T rfl ?M (by lia) (by lia) (by lia) (by lia) ⟨by lia, by lia⟩ law_dp law_un ?_
    case F => exact wF
    case N => exact wN
    case M => exact p5.mono fun p hp => .tail _ (.tail _ (.tail _ hp))
    intro x dd h5 tk5 bi bj bk z1 z2 z3 F5 N5 n1 n2 hb
    clear wF wN
    k_steps
    refine unhold ?_
    (with_reducible rename Fr _ _ _ _ => wF)
    (with_reducible rename News _ _ _ _ => wN)
    refine tuple_match wF X wN (by k_mem) rfl ?_
    intro T1 h6 tk6 F6 N6 l6
    clear wF wN l6
    k_steps
    refine unhold ?_
    (with_reducible rename Fr _ _ _ _ => wF)
    (with_reducible rename News _ _ _ _ => wN)
    refine in_top (lawA L' fa cd) ?_
    refine' lng_call (cs := lawSc) B ?F X ?N T rfl rfl hpl hab hpsl2 (by lia) law_dp law_un ?_
    case F => exact wF
    case N => exact (List.forall_mem_cons.mpr ⟨wN (pl, W.listOf pvs.toArray pn) (by k_mem), wN⟩ : News _ _ _ ((pl, W.listOf pvs.toArray pn) :: _))
    intro c8 h8 tk8 hL8 F8 N8
    obtain ⟨q1, q2, q3⟩ := find_long hff hab (by lia) (by lia) hb hL8
    rw [q1, q2, q3] at N8
    clear wF wN
    k_steps
    refine unhold ?_
    (with_reducible rename Fr _ _ _ _ => wF)
    (with_reducible rename News _ _ _ _ => wN)
    refine ne_tup wN (by k_mem) (by k_mem) (by show 7 + 64 < cLine; decide) ?_
    k_steps
    refine unhold ?_
    (with_reducible rename Fr _ _ _ _ => wF)
    (with_reducible rename News _ _ _ _ => wN)
    trace_state
    refine tend_next wF wN (fun p hp => by repeat (first | exact hp | refine Mine.mem_tail ?_)) ?_
    intro z hz
    have y1 := not_in hz (a := Str.ofString "low") (by simp)
    have y2 := not_in hz (a := Str.ofString "end") (by simp)
    simp only [y1, y2, hz, if_false, Bool.false_eq_true]
  case done =>
    intro u9 h9 tk9 F9 N9
    have q7 : (if [Str.ofString "low", Str.ofString "end"].contains (Str.ofString "places") then u9 (Str.ofString "places") else if Str.ofString "places" = Str.ofString "cut" then some (Value.int (2 + row.sum.fmod (2 * (wd : Int) - 3)) (tk1 + 1 + 1 + 1 + 1 + 1)) else m (Str.ofString "places")) = some (.ref pl) := by
      rw [if_neg (by decide), if_neg (by decide)]
      exact f8
    exact lawP7 B F9 X XB T TB (fun p hp => N9 p (.tail _ (.tail _ (.tail _ (.tail _ hp))))) hM x4 x5 s4 s5 d3 d4 d5 hrow rlen rin hW hmv hfg hfe hfl hff hlaid hpl q7 hwra hra hpla hE hret
  k_with_none
end Mine

end TLawP6
section TLawP5
open PySem PySem.W PyProof.Rows PySem.Calls PySem.Spec
set_option Elab.async false
set_option maxRecDepth 100000
set_option maxHeartbeats 16000000
namespace Mine
theorem ne_same {prog : Program} {w : World} {A : Around} {E : Value → Shared → Prop} {s : Shared} {a b : Array UInt8} {t u : Tok} {Q : Value → Shared → Prop} (e : a = b) (h : Q (.bool false) s) : wpAny (model prog w) A (compareOp .NotEq (.bytes a t) (.bytes b u)) Q E s := by
  subst e
  refine ne_bytes ?_
  simpa using h
theorem lawP5 {w : World} {loose : List Str} {mean : ExcName → Option Value} {mg mb : Str → Option Value} {base g : Heap} {L' fa : Addr} {cd : Value} {m : Str → Option Value} {s : Shared} {Q : Flow → Shared → Prop} {E : Value → Shared → Prop}
    {pl : Addr} {pvs : List Value} {pn : Nat} {fl lad rl self dx rg db jk pp : Addr} {fvs lvs ys : List Value} {fn ln nr nd : Nat} {fg row : List Int} {mv : Array UInt8} {mt wt ct : Tok} {wd : Nat} {o3 o4 o5 : Obj} {v4 v5 : Option Value} {t0 t1 t2 t3 t4 t5 t6 t7 t8 t9 : Tok} {sml : List (Addr × Obj)}
    (B : Below callerA base [] g) (F : Fr g L' s.heap m) (X : (Mine.K w.params).In g) (XB : (Mine.K w.params).In base) (T : Top Mine.q loose mean mg mb g) (TB : Top Mine.q loose mean mg mb base)
    (N : News g L' s.heap ((pl, W.listOf pvs.toArray pn) :: (fl, W.listOf fvs.toArray fn) :: (lad, W.listOf lvs.toArray ln) :: (rl, W.listOf ys.toArray nr) :: (L' + 1 + 1 + 1, o3) :: (L' + 1 + 1 + 1 + 1 + 1, o5) :: (L' + 1 + 1 + 1 + 1, o4) :: (self, instObj 242 dx) :: (dx, dictOf (smEs w.params t0 t1 t2 t3 t4 t5 t6 t7 t8 t9 (.ref fl) (.ref rg) .none .none .none (.ref db) (.ref jk) (.ref pp)) nd) :: sml))
    (hM : Smat w sml self fl rg fg ringL)
    (x4 : OffA (L' + 1 + 1 + 1 + 1) [pl, fl, lad, rl, self, dx]) (x5 : OffA (L' + 1 + 1 + 1 + 1 + 1) [pl, fl, lad, rl, self, dx]) (s4 : ∀ p ∈ sml, p.1 ≠ L' + 1 + 1 + 1 + 1) (s5 : ∀ p ∈ sml, p.1 ≠ L' + 1 + 1 + 1 + 1 + 1)
    (d3 : o3.data = .cell (some (.ref lad))) (d4 : o4.data = .cell v4) (d5 : o5.data = .cell v5)
    (hrow : IntsAre ys row) (rlen : row.length ≤ 4) (rin : ∀ k ∈ row, 0 ≤ k ∧ k < 256) (hW : wd = (8 * row.length + 13) / 6) (hmv : mv = byteArr (figsL (32 * numTo row row.length) 256 (row.length + 1))) (hfg : IntsAre fvs fg) (hfe : fg = figsL (32 * numTo row row.length * 2 ^ (6 * wd - 8 * (row.length + 1))) 8 (2 * wd)) (hfl : fg.length = 2 * wd) (hff : Figs fg)
    (hlaid : IntsAre lvs (pairsL.map signOf))
    (hpl : IntsAre pvs (placesTo fg (2 * wd - 1)))
    (f1 : m (Str.ofString "row") = some (.ref rl)) (f2 : m (Str.ofString "moved") = some (.bytes mv mt)) (f3 : m (Str.ofString "count") = some (.int (((8 * row.length + 5) / 6 : Nat) : Int) ct)) (f4 : m (Str.ofString "width") = some (.int (wd : Int) wt)) (f5 : m (Str.ofString "figures") = some (.ref fl)) (f6 : m (Str.ofString "matcher") = some (.ref self)) (f8 : m (Str.ofString "places") = some (.ref pl))
    (hE : PassesOwn (model PySem.Challenge.rw_rt0114_01.row.prog w) (callerA.deeper (lawEnv L' fa cd)) (lawEnv L' fa cd) E)
    (hret : ∀ h' tk' m' news', Fr g L' h' m' → News g L' h' news' → Q (.ret (.bool true)) { s with heap := h', toks := tk' }) :
    wpAny (model PySem.Challenge.rw_rt0114_01.row.prog w) (callerA.deeper (lawEnv L' fa cd)) (execs ((bd 20).drop 15) (lawEnv L' fa cd)) Q E s := by
  k_with_none
  k_with "pyIter ref" => ((with_reducible show wpAny _ _ (pyIter _) (fun it s₂ => LoopAtV _ _ _ _ _ (Str.ofString _) _ _ _ it s₂) _ _); refine Mine.hold ?_)
  k_with "exec While" => (refine Mine.hold ?_)
  k_with "NoTurn" => (refine Mine.hold ?_)
  k_with "LPost" => (refine Mine.hold ?_)
  k_with "k_lt" => (intro ltq9; ((try (have hne9 := Mine.own_ne (by assumption) ltq9 (by (intro p hp; repeat (first | exact hp | refine Mine.mem_tail ?_))))); replace ltq9 := allLt_of ltq9; simp only [AllLt, and_true] at ltq9))
  k_with "k_mem" => (first | with_reducible assumption | exact Mine.mem_head | (refine Mine.mem_tail ?_; k_mem))
  k_with "k_all" => (with_reducible assumption)
  k_with "call type:range" => (k_here; (rename Fr _ _ _ _ => F'); (rename News _ _ _ _ => N'); first | (with_unfolding_all refine range1_rows F' N' ?_; intro _ _ _ _ _ _ _ _ _) | (with_unfolding_all refine range2_rows F' N' ?_; intro _ _ _ _ _ _ _ _ _))
  k_with "binaryOp Add ref ref" => (k_here; (with_reducible show wpAny _ _ (binaryOp _ (Value.ref _) (Value.ref _)) _ _ _); k_dflt (refine' Mine.add_L ?k1 ?k2 ?a ?b ?z ?_; (case k1 => k_asm); (case k2 => k_asm); (case a => k_mem); (case b => k_mem); (case z => (simp only [List.length_cons, List.length_nil, List.length_append]; lia)); k_whole); intro d' h' F' N' l1; (try k_lt l1); (try k_sweep))
  k_with "call builtin:list.append" => (k_here; (with_reducible show wpAny _ _ (call (Value.builtin _) [Value.ref _, _]) _ _ _); k_dflt (refine' Mine.append_L ?k1 ?k2 ?k3 ?z ?_; (case k1 => k_asm); (case k2 => k_asm); (case k3 => k_upd); (case z => first | lia | (simp only [List.length_cons, List.length_nil, List.length_append]; lia)); k_whole); intro h' F' N'; (try k_sweep))
  k_with "call builtin:list.extend" => (k_here; (with_reducible show wpAny _ _ (call (Value.builtin _) [Value.ref _, Value.ref _]) _ _ _); k_dflt (refine' Mine.extend_L ?k1 ?k2 ?b ?ne ?k3 ?z ?_; (case k1 => k_asm); (case k2 => k_asm); (case b => k_mem); (case ne => first | exact Nat.succ_ne_zero _ | lia); (case k3 => k_upd); (case z => (simp only [List.length_cons, List.length_nil, List.length_append]; lia)); k_whole); intro h' F' N'; (try k_sweep))
  k_with "execs" => ((with_reducible show wpAny _ _ (execs (List.drop _ (Mine.bd _)) _) _ _ _); refine Mine.hold ?_)
  k_with "eval Name" => (k_here; k_dflt (refine' nameX_L ?k1 ?k2 ?_ ?k3 ?k4; (case k3 => rfl); (case k4 => rfl); (case k1 => k_asm); (case k2 => first | assumption | exact rfl | (dsimp only; (repeat rw [if_neg (by decide)]); first | assumption | (rw [if_pos rfl]))); k_whole))
  k_with "exec For Name Name" => (refine Mine.hold ?_)
  k_with "call ref" => (refine Mine.hold ?_)
  k_with "binaryOp Pow int int" => (refine Mine.hold ?_)
  k_with "call type:bytes" => (refine Mine.hold ?_)
  k_with "binaryOp FloorDiv int int" => (refine Mine.hold ?_)
  k_with "subscriptTail Name Name ref int" => (k_here; (with_reducible show wpAny _ _ (subscriptTail _ _ (Value.ref _) (Value.int _ _)) _ _ _); k_dflt (refine' Mine.item_ints ?N ?m ?i ?a ?b ?c ?_; (case N => k_asm); (case m => k_mem); (case i => assumption); (case a => first | assumption | exact Int.le_add_one (by assumption) | lia); (case b => first | exact Mine.ringB0 (by assumption) | exact Mine.ringB1 (by assumption) | lia); (case c => first | exact Mine.ringC0 (by assumption) | exact Mine.ringC1 (by assumption) | lia); k_whole); intro _)
  k_with "subscriptTail Name BinOp ref int" => (k_here; (with_reducible show wpAny _ _ (subscriptTail _ _ (Value.ref _) (Value.int _ _)) _ _ _); k_dflt (refine' Mine.item_ints ?N ?m ?i ?a ?b ?c ?_; (case N => k_asm); (case m => k_mem); (case i => assumption); (case a => first | assumption | exact Int.le_add_one (by assumption) | lia); (case b => first | exact Mine.ringB0 (by assumption) | exact Mine.ringB1 (by assumption) | lia); (case c => first | exact Mine.ringC0 (by assumption) | exact Mine.ringC1 (by assumption) | lia); k_whole); intro _)
  k_with "k_ne" => (first | ((with_reducible refine Mine.OffA.n1 (by assumption) ?_); k_mem) | ((with_reducible refine Mine.OffA.n2 (by assumption) ?_); k_mem) | fail)
  k_with "call type:zip" => (refine Mine.hold ?_)
  k_with "call type:dict" => (refine Mine.hold ?_)
  k_with "subscriptTail Name Name ref int" => (refine Mine.hold ?_)
  k_with "subscriptTail Name BinOp ref int" => (refine Mine.hold ?_)
  k_with "call type:tuple" => (refine Mine.hold ?_)
  k_with "compareOp NotEq ref ref" => (refine Mine.hold ?_)
  k_with "newTuple" => (k_here; k_dflt (refine' kup_newTuple ?F ?N ?_ ?z; (case F => k_asm); (case N => k_asm); (case z => kmk_size)); intro D' h' F' N' l1; (try k_lt l1); (try k_sweep))
  k_with "k_all" => (first | with_reducible assumption | exact List.forall_mem_nil _ | (refine' List.forall_mem_cons.mpr ⟨?a, ?b⟩; (case a => k_ne); (case b => k_all)))
  k_with "k_ne" => (first | (dsimp only; (with_reducible refine Mine.OffA.n1 (by assumption) ?_); k_mem) | fail)
  k_with "subscriptTail Name Name ref int" => (k_here; (with_reducible show wpAny _ _ (subscriptTail _ _ (Value.ref _) (Value.int _ _)) _ _ _); k_dflt (refine' Mine.item_ints ?N ?m ?i ?a ?b ?c ?_; (case N => k_asm); (case m => k_mem); (case i => assumption); (case a => exact Mine.places_lo (by assumption)); (case b => exact Mine.places_hl (by assumption) (by assumption)); (case c => exact Mine.places_c (by assumption) (by assumption)); k_whole); intro _)
  k_with "subscriptTail" => ((with_reducible show wpAny _ _ (subscriptTail _ (Expr.Slice _ _ _ _) (Value.bytes _ _) (Value.ref _)) _ _ _); refine Mine.hold ?_)
  k_with "compareOp NotEq bytes bytes" => (refine Mine.hold ?_)
  revert X; k_fill; intro X
  refine in_execs (show (bd 20).drop 15 = nthS 15 (bd 20) :: nthS 16 (bd 20) :: nthS 17 (bd 20) :: nthS 18 (bd 20) :: (bd 20).drop 19 from rfl) ?_
  (conv in (nthS 15 _) => whnf)
  (conv in (nthS 16 _) => whnf)
  (conv in (nthS 17 _) => whnf)
  (conv in (nthS 18 _) => whnf)
  have hplen : pvs.length = 2 * wd - 1 := by rw [IntsAre.length hpl, places_len]
  have hwd : 2 ≤ wd ∧ wd ≤ 7 := by lia
  k_steps
  refine unhold ?_
  (with_reducible rename Fr _ _ _ _ => wF)
  (with_reducible rename News _ _ _ _ => wN)
  (with_reducible rename IntsAre _ (List.map _ _) => hsg)
  rw [signs_eq hff] at hsg
  refine' bytes_L ?F ?N rfl ?a hsg (signs_in _ _) (by rw [signs_len]; lia) ?_
  case F => exact wF
  case N => exact wN
  case a => k_mem
  intro h3 sgt k3 F3 N3
  clear wF wN
  obtain ⟨sg, hsge⟩ : ∃ sg, sg = byteArr (signsL fg (2 * wd - 1)) := ⟨_, rfl⟩
  rw [← hsge]
  have hmz : mv.size = row.length + 1 := by rw [hmv, byteArr_size, figsL_len]
  k_steps
  refine unhold ?_
  (with_reducible rename Fr _ _ _ _ => wF)
  (with_reducible rename News _ _ _ _ => wN)
  refine in_top (lawA L' fa cd) ?_
  refine' b64_call (cs := lawSc) B ?F X ?N T rfl (by lia) law_dp law_un ?_
  case F => exact wF
  case N => exact wN
  intro wrt h4 tk4 F4 N4
  clear wF wN
  k_steps
  refine unhold ?_
  (with_reducible rename Fr _ _ _ _ => wF)
  (with_reducible rename News _ _ _ _ => wN)
  refine' bytes_L ?F ?N rfl ?a hrow rin (by lia) ?_
  case F => exact wF
  case N => exact wN
  case a => k_mem
  intro h5 rwt k5 F5 N5
  clear wF wN
  obtain ⟨ra, hrae⟩ : ∃ ra, ra = byteArr row := ⟨_, rfl⟩
  rw [← hrae]
  have hrz : ra.size = row.length := by rw [hrae, byteArr_size]
  k_steps
  refine unhold ?_
  (with_reducible rename Fr _ _ _ _ => wF)
  (with_reducible rename News _ _ _ _ => wN)
  refine in_top (lawA L' fa cd) ?_
  refine' b64_call (cs := lawSc) B ?F X ?N T rfl (by lia) law_dp law_un ?_
  case F => exact wF
  case N => exact wN
  intro plt h6 tk6 F6 N6
  clear wF wN
  k_steps
  refine unhold ?_
  (with_reducible rename Fr _ _ _ _ => wF)
  (with_reducible rename News _ _ _ _ => wN)
  have hsz : sg.size = 2 * wd - 1 := by rw [hsge, byteArr_size, signs_len]
  have hst0 := stepTwo_le sg 0
  have hst1 := stepTwo_le sg 1
  have hK : LawK row fg wd mv := ⟨rlen, rin, hW, hmv, hfe⟩
  refine slice_two (k := 0) (s := ⟨_, _, _, _, _⟩) wF wN .none rfl (Nat.zero_le _) (by lia) ?_
  intro h7 t7' k7 F7 N7
  clear wF wN
  k_steps
  refine unhold ?_
  (with_reducible rename Fr _ _ _ _ => wF)
  (with_reducible rename News _ _ _ _ => wN)
  refine in_top (lawA L' fa cd) ?_
  refine' fil_call (cs := lawSc) B ?F X ?N T rfl (by lia) law_dp law_un ?_
  case F => exact wF
  case N => exact wN
  intro t8' h8 tk8 F8 N8
  clear wF wN
  k_steps
  refine unhold ?_
  refine ne_same (plain_written hK hsge) ?_
  k_steps
  refine unhold ?_
  (with_reducible rename Fr _ _ _ _ => wF)
  (with_reducible rename News _ _ _ _ => wN)
  refine slice_two (k := 1) (s := ⟨_, _, _, _, _⟩) wF wN (.int 1 _) rfl (by lia) (by lia) ?_
  intro h9 t9' k9 F9 N9
  clear wF wN
  k_steps
  refine unhold ?_
  (with_reducible rename Fr _ _ _ _ => wF)
  (with_reducible rename News _ _ _ _ => wN)
  refine KBc.slice_K (s := ⟨_, _, _, _, _⟩) wF wN rfl .none (.int _ _) (by rw [KBw.ints_length]; lia) ?_
  intro ha ta ka Fa Na hcut
  rw [cut_eq] at hcut
  have hcsz := KBc.size_picked_le (stepTwo sg 1) none (some (((8 * row.length + 5) / 6 : Nat) : Int))
  obtain ⟨ctt, hctt⟩ : ∃ ctt, ctt = KBy.picked (stepTwo sg 1) none (some (((8 * row.length + 5) / 6 : Nat) : Int)) := ⟨_, rfl⟩
  rw [← hctt] at hcut hcsz ⊢
  clear wF wN
  k_steps
  refine unhold ?_
  (with_reducible rename Fr _ _ _ _ => wF)
  (with_reducible rename News _ _ _ _ => wN)
  refine in_top (lawA L' fa cd) ?_
  refine' fil_call (cs := lawSc) B ?F X ?N T rfl (by lia) law_dp law_un ?_
  case F => exact wF
  case N => exact wN
  intro tb' hb' tkb Fb Nb
  clear wF wN
  k_steps
  refine unhold ?_
  refine ne_same (plain_plain hK hrae hsge hcut) ?_
  k_steps
  refine unhold ?_
  (with_reducible rename Fr _ _ _ _ => wF)
  (with_reducible rename News _ _ _ _ => wN)
  have hf : ∀ {y : Str} {v : Option Value}, y ≠ Str.ofString "signs" → m y = v → (if y = Str.ofString "signs" then some (Value.bytes sg sgt) else m y) = v := fun hy e => by rw [if_neg hy]; exact e
  exact lawP6 B wF X XB T TB (fun p hp => wN p (.tail _ hp)) hM x4 x5 s4 s5 d3 (by assumption) (by assumption) hrow rlen rin hW hmv hfg hfe hfl hff hlaid hpl (hf (by decide) f1) (hf (by decide) f2) (hf (by decide) f3) (hf (by decide) f4) (hf (by decide) f5) (hf (by decide) f6) (hf (by decide) f8) rfl hrae rfl hE hret
  k_with_none
end Mine

end TLawP5
section TLawP4
open PySem PySem.W PyProof.Rows PySem.Calls PySem.Spec
set_option Elab.async false
set_option maxRecDepth 100000
set_option maxHeartbeats 16000000
namespace Mine
theorem kstB_nil {f : Str → Option Value} {y : Str} : kstB f [] y = f y := rfl
theorem lawP4 {w : World} {loose : List Str} {mean : ExcName → Option Value} {mg mb : Str → Option Value} {base g : Heap} {L' fa : Addr} {cd : Value} {m : Str → Option Value} {s : Shared} {Q : Flow → Shared → Prop} {E : Value → Shared → Prop}
    {d : Addr} {od : Obj} {fd : Int → Option Value} {fl lad rl self dx rg db jk pp : Addr} {fvs lvs ys : List Value} {fn ln nr nd : Nat} {fg row : List Int} {mv : Array UInt8} {mt wt ct : Tok} {wd : Nat} {o3 o4 o5 : Obj} {v4 v5 : Option Value} {t0 t1 t2 t3 t4 t5 t6 t7 t8 t9 : Tok} {sml : List (Addr × Obj)}
    (B : Below callerA base [] g) (F : Fr g L' s.heap m) (X : (Mine.K w.params).In g) (XB : (Mine.K w.params).In base) (T : Top Mine.q loose mean mg mb g) (TB : Top Mine.q loose mean mg mb base)
    (N : News g L' s.heap ((d, od) :: (fl, W.listOf fvs.toArray fn) :: (lad, W.listOf lvs.toArray ln) :: (rl, W.listOf ys.toArray nr) :: (L' + 1 + 1 + 1, o3) :: (L' + 1 + 1 + 1 + 1 + 1, o5) :: (L' + 1 + 1 + 1 + 1, o4) :: (self, instObj 242 dx) :: (dx, dictOf (smEs w.params t0 t1 t2 t3 t4 t5 t6 t7 t8 t9 (.ref fl) (.ref rg) .none .none .none (.ref db) (.ref jk) (.ref pp)) nd) :: sml))
    (hM : Smat w sml self fl rg fg ringL)
    (x4 : OffA (L' + 1 + 1 + 1 + 1) [fl, lad, rl, self, dx]) (x5 : OffA (L' + 1 + 1 + 1 + 1 + 1) [fl, lad, rl, self, dx]) (s4 : ∀ p ∈ sml, p.1 ≠ L' + 1 + 1 + 1 + 1) (s5 : ∀ p ∈ sml, p.1 ≠ L' + 1 + 1 + 1 + 1 + 1)
    (d3 : o3.data = .cell (some (.ref lad))) (d4 : o4.data = .cell v4) (d5 : o5.data = .cell v5)
    (hrow : IntsAre ys row) (rlen : row.length ≤ 4) (rin : ∀ k ∈ row, 0 ≤ k ∧ k < 256) (hW : wd = (8 * row.length + 13) / 6) (hmv : mv = byteArr (figsL (32 * numTo row row.length) 256 (row.length + 1))) (hfg : IntsAre fvs fg) (hfe : fg = figsL (32 * numTo row row.length * 2 ^ (6 * wd - 8 * (row.length + 1))) 8 (2 * wd)) (hfl : fg.length = 2 * wd) (hff : Figs fg)
    (hlaid : IntsAre lvs (pairsL.map signOf))
    (hmap : ∀ h2 : Heap, h2.get? d = some od → h2.IntMap d fd) (hspot : SpotOK fd pairsL 64)
    (f1 : m (Str.ofString "row") = some (.ref rl)) (f2 : m (Str.ofString "moved") = some (.bytes mv mt)) (f3 : m (Str.ofString "count") = some (.int (((8 * row.length + 5) / 6 : Nat) : Int) ct)) (f4 : m (Str.ofString "width") = some (.int (wd : Int) wt)) (f5 : m (Str.ofString "figures") = some (.ref fl)) (f6 : m (Str.ofString "matcher") = some (.ref self)) (f7 : m (Str.ofString "spots") = some (.ref d))
    (hE : PassesOwn (model PySem.Challenge.rw_rt0114_01.row.prog w) (callerA.deeper (lawEnv L' fa cd)) (lawEnv L' fa cd) E)
    (hret : ∀ h' tk' m' news', Fr g L' h' m' → News g L' h' news' → Q (.ret (.bool true)) { s with heap := h', toks := tk' }) :
    wpAny (model PySem.Challenge.rw_rt0114_01.row.prog w) (callerA.deeper (lawEnv L' fa cd)) (execs ((bd 20).drop 13) (lawEnv L' fa cd)) Q E s := by
  k_with_none
  k_with "pyIter ref" => ((with_reducible show wpAny _ _ (pyIter _) (fun it s₂ => LoopAtV _ _ _ _ _ (Str.ofString _) _ _ _ it s₂) _ _); refine Mine.hold ?_)
  k_with "exec While" => (refine Mine.hold ?_)
  k_with "NoTurn" => (refine Mine.hold ?_)
  k_with "LPost" => (refine Mine.hold ?_)
  k_with "k_lt" => (intro ltq9; ((try (have hne9 := Mine.own_ne (by assumption) ltq9 (by (intro p hp; repeat (first | exact hp | refine Mine.mem_tail ?_))))); replace ltq9 := allLt_of ltq9; simp only [AllLt, and_true] at ltq9))
  k_with "k_mem" => (first | with_reducible assumption | exact Mine.mem_head | (refine Mine.mem_tail ?_; k_mem))
  k_with "k_all" => (with_reducible assumption)
  k_with "call type:range" => (k_here; (rename Fr _ _ _ _ => F'); (rename News _ _ _ _ => N'); first | (with_unfolding_all refine range1_rows F' N' ?_; intro _ _ _ _ _ _ _ _ _) | (with_unfolding_all refine range2_rows F' N' ?_; intro _ _ _ _ _ _ _ _ _))
  k_with "binaryOp Add ref ref" => (k_here; (with_reducible show wpAny _ _ (binaryOp _ (Value.ref _) (Value.ref _)) _ _ _); k_dflt (refine' Mine.add_L ?k1 ?k2 ?a ?b ?z ?_; (case k1 => k_asm); (case k2 => k_asm); (case a => k_mem); (case b => k_mem); (case z => (simp only [List.length_cons, List.length_nil, List.length_append]; lia)); k_whole); intro d' h' F' N' l1; (try k_lt l1); (try k_sweep))
  k_with "call builtin:list.append" => (k_here; (with_reducible show wpAny _ _ (call (Value.builtin _) [Value.ref _, _]) _ _ _); k_dflt (refine' Mine.append_L ?k1 ?k2 ?k3 ?z ?_; (case k1 => k_asm); (case k2 => k_asm); (case k3 => k_upd); (case z => first | lia | (simp only [List.length_cons, List.length_nil, List.length_append]; lia)); k_whole); intro h' F' N'; (try k_sweep))
  k_with "call builtin:list.extend" => (k_here; (with_reducible show wpAny _ _ (call (Value.builtin _) [Value.ref _, Value.ref _]) _ _ _); k_dflt (refine' Mine.extend_L ?k1 ?k2 ?b ?ne ?k3 ?z ?_; (case k1 => k_asm); (case k2 => k_asm); (case b => k_mem); (case ne => first | exact Nat.succ_ne_zero _ | lia); (case k3 => k_upd); (case z => (simp only [List.length_cons, List.length_nil, List.length_append]; lia)); k_whole); intro h' F' N'; (try k_sweep))
  k_with "execs" => ((with_reducible show wpAny _ _ (execs (List.drop _ (Mine.bd _)) _) _ _ _); refine Mine.hold ?_)
  k_with "eval Name" => (k_here; k_dflt (refine' nameX_L ?k1 ?k2 ?_ ?k3 ?k4; (case k3 => rfl); (case k4 => rfl); (case k1 => k_asm); (case k2 => first | assumption | exact rfl | (dsimp only; (repeat rw [if_neg (by decide)]); first | assumption | (rw [if_pos rfl]))); k_whole))
  k_with "exec For Name Name" => (refine Mine.hold ?_)
  k_with "call ref" => (refine Mine.hold ?_)
  k_with "binaryOp Pow int int" => (refine Mine.hold ?_)
  k_with "call type:bytes" => (refine Mine.hold ?_)
  k_with "binaryOp FloorDiv int int" => (refine Mine.hold ?_)
  k_with "subscriptTail Name Name ref int" => (k_here; (with_reducible show wpAny _ _ (subscriptTail _ _ (Value.ref _) (Value.int _ _)) _ _ _); k_dflt (refine' Mine.item_ints ?N ?m ?i ?a ?b ?c ?_; (case N => k_asm); (case m => k_mem); (case i => assumption); (case a => first | assumption | exact Int.le_add_one (by assumption) | lia); (case b => first | exact Mine.ringB0 (by assumption) | exact Mine.ringB1 (by assumption) | lia); (case c => first | exact Mine.ringC0 (by assumption) | exact Mine.ringC1 (by assumption) | lia); k_whole); intro _)
  k_with "subscriptTail Name BinOp ref int" => (k_here; (with_reducible show wpAny _ _ (subscriptTail _ _ (Value.ref _) (Value.int _ _)) _ _ _); k_dflt (refine' Mine.item_ints ?N ?m ?i ?a ?b ?c ?_; (case N => k_asm); (case m => k_mem); (case i => assumption); (case a => first | assumption | exact Int.le_add_one (by assumption) | lia); (case b => first | exact Mine.ringB0 (by assumption) | exact Mine.ringB1 (by assumption) | lia); (case c => first | exact Mine.ringC0 (by assumption) | exact Mine.ringC1 (by assumption) | lia); k_whole); intro _)
  k_with "k_ne" => (first | ((with_reducible refine Mine.OffA.n1 (by assumption) ?_); k_mem) | ((with_reducible refine Mine.OffA.n2 (by assumption) ?_); k_mem) | fail)
  k_with "call type:zip" => (refine Mine.hold ?_)
  k_with "call type:dict" => (refine Mine.hold ?_)
  k_with "subscriptTail Name Name ref int" => (refine Mine.hold ?_)
  k_with "subscriptTail Name BinOp ref int" => (refine Mine.hold ?_)
  k_with "call type:tuple" => (refine Mine.hold ?_)
  k_with "compareOp NotEq ref ref" => (refine Mine.hold ?_)
  k_with "newTuple" => (k_here; k_dflt (refine' kup_newTuple ?F ?N ?_ ?z; (case F => k_asm); (case N => k_asm); (case z => kmk_size)); intro D' h' F' N' l1; (try k_lt l1); (try k_sweep))
  k_with "k_all" => (first | with_reducible assumption | exact List.forall_mem_nil _ | (refine' List.forall_mem_cons.mpr ⟨?a, ?b⟩; (case a => k_ne); (case b => k_all)))
  revert X; k_fill; intro X
  refine in_execs (show (bd 20).drop 13 = nthS 13 (bd 20) :: nthS 14 (bd 20) :: (bd 20).drop 15 from rfl) ?_
  (conv in (nthS 13 _) => whnf)
  (conv in (nthS 14 _) => whnf)
  k_steps
  refine unhold ?_
  (with_reducible rename Fr _ _ _ _ => lF)
  (with_reducible rename News _ _ _ _ => lN)
  (with_reducible rename IsRange _ _ _ _ _ _ _ _ => lR)
  replace lF : Fr g (lawEnv L' fa cd).locals _ _ := lF
  replace lN : News g (lawEnv L' fa cd).locals _ _ := lN
  rename _ < _ ∧ _ < _ ∧ _ < _ ∧ _ < _ ∧ _ < _ ∧ _ < _ ∧ _ < _ ∧ _ < _ ∧ _ < _ ∧ AllLt _ sml => lD
  refine' my_range (σ := List Value × Nat) (n := 2 * wd - 1) (fun _ => []) (fun c => [(_, W.listOf c.1.toArray c.2)]) [Str.ofString "found"] (fun i c => IntsAre c.1 (placesTo fg i)) (fun _ => False) ([], 0) (by rfl) lR ?hs ?hn lF lN ?ho ?hk ?hi ?turn ?done
  case hs => exact small_one (by lia) (by lia) (by lia) (by lia)
  case hn => exact range_0 (by lia)
  case ho => exact off_one (allLt_ne lD)
  case hk => exact List.forall_mem_nil _
  case hi => exact .nil
  case turn =>
    intro i k t9 c u9 h9 tk9 own hi hk9 hI hoff hrest F9 N9
    clear lF lN lR
    have hmk : OwnMark own := ⟨⟩
    have hoff9 := of_off_one hoff
    clear hoff
    simp only [List.cons_append, List.nil_append] at N9
    replace F9 : Fr g L' h9 _ := F9
    replace N9 : News g L' h9 _ := N9
    replace hk9 : k = (i : Int) := by lia
    subst hk9
    have e2 : (i : Int) + 2 = ((i + 2 : Nat) : Int) := by lia
    have hrl := ring_len
    have hcl : c.1.length = i := by rw [IntsAre.length hI, places_len]
    have p1 := hrest (d, od) (by k_mem)
    have p2 := hrest (fl, W.listOf fvs.toArray fn) (by k_mem)
    have p3 := hrest (self, instObj 242 dx) (by k_mem)
    have p4 := hrest (dx, _) (by k_mem)
    have p5 : Smat w own self fl rg fg ringL := hM.mono (fun p hp => hrest p (by repeat (first | exact hp | refine Mine.mem_tail ?_)))
    have q1 := hoff9 _ p1
    have q2 := hoff9 _ p2
    have q3 := hoff9 _ p3
    have q4 := hoff9 _ p4
    dsimp only at q1 q2 q3 q4
    k_steps
    refine unhold ?_
    rw [e2]
    (with_reducible rename Fr _ _ _ _ => wF)
    (with_reducible rename News _ _ _ _ => wN)
    refine in_top (lawA L' fa cd) ?_
    refine' find_call (cs := lawSc) (la := fl) (lb := rg) (as := fg) (bs := ringL) (alo := i) (ahi := i + 2) (blo := 0) (bhi := 65) B ?F X ?N T rfl ?M (by lia) (by lia) (by lia) (by lia) ⟨by lia, by lia⟩ law_dp law_un ?_
    case F => exact wF
    case N => exact wN
    case M => exact p5.mono fun p hp => .tail _ hp
    intro x dd h5 tk5 bi bj bk z1 z2 z3 F5 N5 n1 n2 hb
    obtain ⟨rfl, rfl, rfl⟩ := find_two hff rfl (by lia) hb
    clear hb wF wN
    have n3 := n1 _ (.head _)
    have n4 := n2 _ (.head _)
    replace n3 : @Ne Nat _ _ := n3
    replace n4 : @Ne Nat _ _ := n4
    k_steps
    refine unhold ?_
    (with_reducible rename Fr _ _ _ _ => wF)
    (with_reducible rename News _ _ _ _ => wN)
    refine tuple_match wF X wN (by k_mem) rfl ?_
    intro T1 h6 tk6 F6 N6 l6
    clear wF wN
    have n5 := l6 _ (.tail _ (.tail _ (.head _)))
    have n6 : ∀ p ∈ own, p.1 < T1 := fun p hp => l6 p (.tail _ (.tail _ (.tail _ hp)))
    dsimp only at n5
    replace n5 := ltN n5
    clear l6
    k_steps
    refine unhold ?_
    (with_reducible rename Fr _ _ _ _ => wF)
    (with_reducible rename News _ _ _ _ => wN)
    have ti : ((i : Int)).toNat = i := by lia
    have ti1 : ((i : Int) + 1).toNat = i + 1 := by lia
    refine item_ints wN (by k_mem) hfg (by lia) (by lia) (by lia) ?_
    intro ta
    rw [ti]
    try dsimp only
    k_steps
    refine unhold ?_
    refine item_ints wN (by k_mem) hfg (by lia) (by lia) (by lia) ?_
    intro tb
    rw [ti1]
    try dsimp only
    have g1 := hff.h i
    have g2 := hff.h (i + 1)
    k_steps
    refine unhold ?_
    refine item_spot wN (by k_mem) hmap hspot (by lia) (by lia) ?_
    intro tc
    try dsimp only
    k_steps
    refine unhold ?_
    (with_reducible rename Fr _ _ _ _ => wF)
    (with_reducible rename News _ _ _ _ => wN)
    refine ne_tup wN (by k_mem) (by k_mem) (by show 7 + 64 < cLine; decide) ?_
    k_steps
    refine unhold ?_
    (with_reducible rename Fr _ _ _ _ => wF)
    (with_reducible rename News _ _ _ _ => wN)
    refine' lpost_next (c.1 ++ [.int (placeAt fg i : Int) z2], c.2 + 1) wF wN (led_one (by k_mem)) ?eo (off_one hoff9) ?ek ?ez ?ei
    case eo => exact fun p hp => by repeat (first | exact hp | refine Mine.mem_tail ?_)
    case ek => exact List.forall_mem_nil _
    case ez =>
      intro z w1 w2 w3
      have y2 := not_in w3 (a := Str.ofString "found") (by simp)
      simp only [kstB, w1, y2, w3, if_false, Bool.false_eq_true]
    case ei =>
      rw [places_succ]
      exact ints_app hI (.cons _ _ .nil)
  case done =>
    intro c9 u9 h9 tk9 hI9 hoff9 F9 N9
    replace F9 : Fr g L' h9 _ := F9
    replace N9 : News g L' h9 _ := N9
    clear lF lN lR
    have hp9 : IntsAre c9.1 (placesTo fg (2 * wd - 1)) := hI9.resolve_right id
    exact lawP5 B F9 X XB T TB (fun p hp => N9 p (by rcases List.mem_cons.mp hp with hp | hp; exact hp ▸ .head _; exact .tail _ (.tail _ hp))) hM ⟨List.forall_mem_cons.mpr ⟨Ne.symm (Nat.ne_of_lt lD.2.2.2.2.2.2.1), x4.all⟩⟩ ⟨List.forall_mem_cons.mpr ⟨Ne.symm (Nat.ne_of_lt lD.2.2.2.2.2.1), x5.all⟩⟩ s4 s5 d3 d4 d5 hrow rlen rin hW hmv hfg hfe hfl hff hlaid hp9 (by rw [if_neg (by decide), kstB_nil]; (try dsimp only); rw [if_neg (by decide), if_neg (by decide)]; exact f1) (by rw [if_neg (by decide), kstB_nil]; (try dsimp only); rw [if_neg (by decide), if_neg (by decide)]; exact f2) (by rw [if_neg (by decide), kstB_nil]; (try dsimp only); rw [if_neg (by decide), if_neg (by decide)]; exact f3) (by rw [if_neg (by decide), kstB_nil]; (try dsimp only); rw [if_neg (by decide), if_neg (by decide)]; exact f4) (by rw [if_neg (by decide), kstB_nil]; (try dsimp only); rw [if_neg (by decide), if_neg (by decide)]; exact f5) (by rw [if_neg (by decide), kstB_nil]; (try dsimp only); rw [if_neg (by decide), if_neg (by decide)]; exact f6) (by rw [if_neg (by decide), kstB_nil]; (try dsimp only); rw [if_neg (by decide), if_pos rfl]) hE hret
  k_with_none
end Mine

end TLawP4
section TLawOff
open PySem PySem.W PyProof.Rows PySem.Calls PySem.Spec
set_option Elab.async false
set_option maxRecDepth 100000
set_option maxHeartbeats 1000000
namespace Mine
theorem cell_off {h₀ h : Heap} {L c : Addr} {news : List (Addr × Obj)} {oc : Obj} {v : Option Value} (N : News h₀ L h news) (hc : (c, oc) ∈ news) (hd : oc.data = .cell v) {p : Addr × Obj} (hp : p ∈ news) (hn : ∀ v, p.2.data ≠ .cell v) : p.1 ≠ c := by
  intro e
  have h1 := (N _ hc).1
  have h2 := (N _ hp).1
  rw [e, show h.get? c = some oc from h1] at h2
  obtain rfl := Option.some.inj h2
  exact hn _ hd
theorem dict_nocell {prog : Program} {w : World} {o : Obj} {kvs : List (Int × Value)} (h : o.IsDictOf (PySem.intKind prog w) kvs) : ∀ v, o.data ≠ .cell v := by
  obtain ⟨es, ep, _, hd, _⟩ := h
  intro v e
  rw [hd] at e
  cases e
theorem rows_nocell (ls : List (Int × Addr × List Value × Nat)) : ∀ p ∈ ls.map CB.row, ∀ v, p.2.data ≠ .cell v := by
  intro p hp v e
  obtain ⟨x, _, rfl⟩ := List.mem_map.mp hp
  cases e
section
variable {w : World} {g h : Heap} {L' pp jk db self dx fl rg lad d pr rl : Addr} {fvs rvs lvs pvs ys : List Value} {fn rn nr nd : Nat} {od o1 o2 o3 o4 o5 : Obj} {v4 v5 : Option Value} {l1 l2 : Bool} {c : CB} {t0 t1 t2 t3 t4 t5 t6 t7 t8 t9 : Tok} {fg bs : List Int}
noncomputable def smLed (w : World) (pp jk db self dx fl rg : Addr) (fvs rvs : List Value) (fn rn nd : Nat) (l1 l2 : Bool) (c : CB) (t0 t1 t2 t3 t4 t5 t6 t7 t8 t9 : Tok) : List (Addr × Obj) :=
  [(pp, setObj l1), (jk, setObj l2), (db, c.o), (self, instObj 242 dx), (dx, dictOf (smEs w.params t0 t1 t2 t3 t4 t5 t6 t7 t8 t9 (.ref fl) (.ref rg) .none .none .none (.ref db) (.ref jk) (.ref pp)) nd), (fl, W.listOf fvs.toArray fn), (rg, W.listOf rvs.toArray rn)] ++ c.ls.map CB.row
theorem smLed_nocell {prog : Program} (hinv : CBInv db prog w bs bs.length c) : ∀ p ∈ smLed w pp jk db self dx fl rg fvs rvs fn rn nd l1 l2 c t0 t1 t2 t3 t4 t5 t6 t7 t8 t9, ∀ v, p.2.data ≠ .cell v := by
  intro p hp
  rcases List.mem_append.mp hp with h | h
  · simp only [List.mem_cons, List.not_mem_nil, or_false] at h
    rcases h with rfl | rfl | rfl | rfl | rfl | rfl | rfl
    · intro v e; cases e
    · intro v e; cases e
    · exact dict_nocell hinv.dict
    · intro v e; cases e
    · intro v e; cases e
    · intro v e; cases e
    · intro v e; cases e
  · exact rows_nocell _ p h
theorem smLed_smat (hinv : CBInv db PySem.Challenge.rw_rt0114_01.row.prog w bs bs.length c) (hdb : (db == sysModules) = false) (ha : ∀ q ∈ c.ls.map CB.row, q.1 ≠ fl) (hb : ∀ q ∈ c.ls.map CB.row, q.1 ≠ rg) (hfg : IntsAre fvs fg) (hbs : IntsAre rvs bs) :
    Smat w (smLed w pp jk db self dx fl rg fvs rvs fn rn nd l1 l2 c t0 t1 t2 t3 t4 t5 t6 t7 t8 t9) self fl rg fg bs := by
  refine ⟨⟨dx, db, jk, pp, c, fvs, rvs, fn, rn, nd, l2, t0, t1, t2, t3, t4, t5, t6, t7, t8, t9⟩, ⟨hinv, hdb, ha, hb, hfg, hbs⟩, ?_⟩
  have t : ∀ {p : Addr × Obj} {l : List (Addr × Obj)} {q : Addr × Obj}, p ∈ l → p ∈ q :: l := fun h => .tail _ h
  refine List.forall_mem_cons.mpr ⟨t (t (t (.head _))), List.forall_mem_cons.mpr ⟨t (t (t (t (.head _)))), List.forall_mem_cons.mpr ⟨t (t (t (t (t (.head _))))), List.forall_mem_cons.mpr ⟨t (t (t (t (t (t (.head _)))))), List.forall_mem_cons.mpr ⟨t (t (.head _)), List.forall_mem_cons.mpr ⟨t (.head _), fun p hp => List.mem_append.mpr (.inr hp)⟩⟩⟩⟩⟩⟩
theorem ledger_cut (N : News g L' h ((pp, setObj l1) :: (jk, setObj l2) :: (db, c.o) :: (self, instObj 242 dx) :: (dx, dictOf (smEs w.params t0 t1 t2 t3 t4 t5 t6 t7 t8 t9 (.ref fl) (.ref rg) .none .none .none (.ref db) (.ref jk) (.ref pp)) nd) :: (fl, W.listOf fvs.toArray fn) :: (rg, W.listOf rvs.toArray rn) ::
      ([(lad, LCg.lst lvs), (d, od), (pr, LCg.lst pvs), (rg, W.listOf rvs.toArray rn), (fl, W.listOf fvs.toArray fn), (rl, W.listOf ys.toArray nr), (L' + 1 + 1 + 1 + 1 + 1, o5), (L' + 1 + 1 + 1 + 1, o4), (L' + 1 + 1 + 1, o3), (L' + 1 + 1, o2), (L' + 1, o1)] ++ c.ls.map CB.row)))
    (d4 : o4.data = .cell v4) (d5 : o5.data = .cell v5) (hinv : CBInv db PySem.Challenge.rw_rt0114_01.row.prog w bs bs.length c) :
    News g L' h ((d, od) :: (fl, W.listOf fvs.toArray fn) :: (lad, W.listOf lvs.toArray lvs.length) :: (rl, W.listOf ys.toArray nr) :: (L' + 1 + 1 + 1, o3) :: (L' + 1 + 1 + 1 + 1 + 1, o5) :: (L' + 1 + 1 + 1 + 1, o4) :: (self, instObj 242 dx) :: (dx, dictOf (smEs w.params t0 t1 t2 t3 t4 t5 t6 t7 t8 t9 (.ref fl) (.ref rg) .none .none .none (.ref db) (.ref jk) (.ref pp)) nd) ::
        smLed w pp jk db self dx fl rg fvs rvs fn rn nd l1 l2 c t0 t1 t2 t3 t4 t5 t6 t7 t8 t9) ∧
      OffA (L' + 1 + 1 + 1 + 1) [fl, lad, rl, self, dx] ∧ OffA (L' + 1 + 1 + 1 + 1 + 1) [fl, lad, rl, self, dx] ∧
      (∀ p ∈ smLed w pp jk db self dx fl rg fvs rvs fn rn nd l1 l2 c t0 t1 t2 t3 t4 t5 t6 t7 t8 t9, p.1 ≠ L' + 1 + 1 + 1 + 1) ∧ (∀ p ∈ smLed w pp jk db self dx fl rg fvs rvs fn rn nd l1 l2 c t0 t1 t2 t3 t4 t5 t6 t7 t8 t9, p.1 ≠ L' + 1 + 1 + 1 + 1 + 1) := by
  have t : ∀ {p : Addr × Obj} {l : List (Addr × Obj)} {q : Addr × Obj}, p ∈ l → p ∈ q :: l := fun h => .tail _ h
  have hlad := N (lad, LCg.lst lvs) (t (t (t (t (t (t (t (.head _))))))))
  have hd := N (d, od) (t (t (t (t (t (t (t (t (.head _)))))))))
  have hfl := N (fl, W.listOf fvs.toArray fn) (t (t (t (t (t (.head _))))))
  have hrl := N (rl, W.listOf ys.toArray nr) (t (t (t (t (t (t (t (t (t (t (t (t (.head _)))))))))))))
  have h5 := N (L' + 1 + 1 + 1 + 1 + 1, o5) (t (t (t (t (t (t (t (t (t (t (t (t (t (.head _))))))))))))))
  have h4 := N (L' + 1 + 1 + 1 + 1, o4) (t (t (t (t (t (t (t (t (t (t (t (t (t (t (.head _)))))))))))))))
  have h3 := N (L' + 1 + 1 + 1, o3) (t (t (t (t (t (t (t (t (t (t (t (t (t (t (t (.head _))))))))))))))))
  have hself := N (self, instObj 242 dx) (t (t (t (.head _))))
  have hdx := N (dx, dictOf (smEs w.params t0 t1 t2 t3 t4 t5 t6 t7 t8 t9 (.ref fl) (.ref rg) .none .none .none (.ref db) (.ref jk) (.ref pp)) nd) (t (t (t (t (.head _)))))
  have hsm : News g L' h (smLed w pp jk db self dx fl rg fvs rvs fn rn nd l1 l2 c t0 t1 t2 t3 t4 t5 t6 t7 t8 t9) := by
    intro p hp
    rcases List.mem_append.mp hp with h | h
    · exact N p (List.mem_append.mpr (.inl h))
    · exact N p (t (t (t (t (t (t (t (List.mem_append.mpr (.inr h)))))))))
  have N2 : News g L' h ((d, od) :: (fl, W.listOf fvs.toArray fn) :: (lad, W.listOf lvs.toArray lvs.length) :: (rl, W.listOf ys.toArray nr) :: (L' + 1 + 1 + 1, o3) :: (L' + 1 + 1 + 1 + 1 + 1, o5) :: (L' + 1 + 1 + 1 + 1, o4) :: (self, instObj 242 dx) :: (dx, dictOf (smEs w.params t0 t1 t2 t3 t4 t5 t6 t7 t8 t9 (.ref fl) (.ref rg) .none .none .none (.ref db) (.ref jk) (.ref pp)) nd) ::
        smLed w pp jk db self dx fl rg fvs rvs fn rn nd l1 l2 c t0 t1 t2 t3 t4 t5 t6 t7 t8 t9) :=
    List.forall_mem_cons.mpr ⟨hd, List.forall_mem_cons.mpr ⟨hfl, List.forall_mem_cons.mpr ⟨hlad, List.forall_mem_cons.mpr ⟨hrl, List.forall_mem_cons.mpr ⟨h3, List.forall_mem_cons.mpr ⟨h5, List.forall_mem_cons.mpr ⟨h4, List.forall_mem_cons.mpr ⟨hself, List.forall_mem_cons.mpr ⟨hdx, hsm⟩⟩⟩⟩⟩⟩⟩⟩⟩
  have off : ∀ {q : Addr} {oq : Obj} {v : Option Value}, (q, oq) ∈ ((d, od) :: (fl, W.listOf fvs.toArray fn) :: (lad, W.listOf lvs.toArray lvs.length) :: (rl, W.listOf ys.toArray nr) :: (L' + 1 + 1 + 1, o3) :: (L' + 1 + 1 + 1 + 1 + 1, o5) :: (L' + 1 + 1 + 1 + 1, o4) :: (self, instObj 242 dx) :: (dx, dictOf (smEs w.params t0 t1 t2 t3 t4 t5 t6 t7 t8 t9 (.ref fl) (.ref rg) .none .none .none (.ref db) (.ref jk) (.ref pp)) nd) ::
        smLed w pp jk db self dx fl rg fvs rvs fn rn nd l1 l2 c t0 t1 t2 t3 t4 t5 t6 t7 t8 t9) → oq.data = .cell v → OffA q [fl, lad, rl, self, dx] ∧ ∀ p ∈ smLed w pp jk db self dx fl rg fvs rvs fn rn nd l1 l2 c t0 t1 t2 t3 t4 t5 t6 t7 t8 t9, p.1 ≠ q := by
    intro q oq v hq hc
    refine ⟨⟨List.forall_mem_cons.mpr ⟨?_, List.forall_mem_cons.mpr ⟨?_, List.forall_mem_cons.mpr ⟨?_, List.forall_mem_cons.mpr ⟨?_, List.forall_mem_cons.mpr ⟨?_, List.forall_mem_nil _⟩⟩⟩⟩⟩⟩, fun p hp => cell_off N2 hq hc (t (t (t (t (t (t (t (t (t hp))))))))) (smLed_nocell hinv p hp)⟩
    · exact cell_off N2 hq hc (p := (fl, W.listOf fvs.toArray fn)) (t (.head _)) (fun v e => by cases e)
    · exact cell_off N2 hq hc (p := (lad, W.listOf lvs.toArray lvs.length)) (t (t (.head _))) (fun v e => by cases e)
    · exact cell_off N2 hq hc (p := (rl, W.listOf ys.toArray nr)) (t (t (t (.head _)))) (fun v e => by cases e)
    · exact cell_off N2 hq hc (p := (self, instObj 242 dx)) (t (t (t (t (t (t (t (.head _)))))))) (fun v e => by cases e)
    · exact cell_off N2 hq hc (p := (dx, dictOf (smEs w.params t0 t1 t2 t3 t4 t5 t6 t7 t8 t9 (.ref fl) (.ref rg) .none .none .none (.ref db) (.ref jk) (.ref pp)) nd)) (t (t (t (t (t (t (t (t (.head _))))))))) (fun v e => by cases e)
  obtain ⟨a1, a2⟩ := off (t (t (t (t (t (t (.head _))))))) d4
  obtain ⟨b1, b2⟩ := off (t (t (t (t (t (.head _)))))) d5
  exact ⟨N2, a1, b1, a2, b2⟩
end
end Mine

end TLawOff
section TLawP3
open PySem PySem.W PyProof.Rows PySem.Calls PySem.Spec
set_option Elab.async false
set_option maxRecDepth 100000
set_option maxHeartbeats 16000000
namespace Mine
theorem news_pre2 {h₀ h : Heap} {L : Addr} {news : List (Addr × Obj)} {a b : Addr × Obj} (N : News h₀ L h news) (ha : a ∈ news) (hb : b ∈ news) : News h₀ L h (a :: b :: news) := List.forall_mem_cons.mpr ⟨N _ ha, List.forall_mem_cons.mpr ⟨N _ hb, N⟩⟩
theorem lawP3 {w : World} {loose : List Str} {mean : ExcName → Option Value} {mg mb : Str → Option Value} {base g : Heap} {L' fa : Addr} {cd : Value} {m : Str → Option Value} {s : Shared} {Q : Flow → Shared → Prop} {E : Value → Shared → Prop}
    {rl fl : Addr} {ys fvs : List Value} {nr fn : Nat} {row fg : List Int} {mv : Array UInt8} {mt wt ct : Tok} {wd : Nat} {o1 o2 o3 o4 o5 : Obj} {v1 v2 v3 v4 v5 : Option Value}
    (B : Below callerA base [] g) (F : Fr g L' s.heap m) (X : (Mine.K w.params).In g) (XB : (Mine.K w.params).In base) (T : Top Mine.q loose mean mg mb g) (TB : Top Mine.q loose mean mg mb base)
    (N : News g L' s.heap ((fl, W.listOf fvs.toArray fn) :: (rl, W.listOf ys.toArray nr) :: (L' + 1 + 1 + 1 + 1 + 1, o5) :: (L' + 1 + 1 + 1 + 1, o4) :: (L' + 1 + 1 + 1, o3) :: (L' + 1 + 1, o2) :: (L' + 1, o1) :: [])) (hlt : OffA rl [L' + 1 + 1 + 1 + 1 + 1, L' + 1 + 1 + 1 + 1, L' + 1 + 1 + 1, L' + 1 + 1, L' + 1]) (hlt2 : OffA fl [rl, L' + 1 + 1 + 1 + 1 + 1, L' + 1 + 1 + 1 + 1, L' + 1 + 1 + 1, L' + 1 + 1, L' + 1]) (d1 : o1.data = .cell v1) (d2 : o2.data = .cell v2) (d3 : o3.data = .cell v3) (d4 : o4.data = .cell v4) (d5 : o5.data = .cell v5)
    (hrow : IntsAre ys row) (rlen : row.length ≤ 4) (rin : ∀ k ∈ row, 0 ≤ k ∧ k < 256) (hW : wd = (8 * row.length + 13) / 6) (hmv : mv = byteArr (figsL (32 * numTo row row.length) 256 (row.length + 1))) (hfg : IntsAre fvs fg) (hfe : fg = figsL (32 * numTo row row.length * 2 ^ (6 * wd - 8 * (row.length + 1))) 8 (2 * wd)) (hfl : fg.length = 2 * wd) (hff : Figs fg)
    (f1 : m (Str.ofString "row") = some (.ref rl)) (f2 : m (Str.ofString "moved") = some (.bytes mv mt)) (f3 : m (Str.ofString "count") = some (.int (((8 * row.length + 5) / 6 : Nat) : Int) ct)) (f4 : m (Str.ofString "width") = some (.int (wd : Int) wt)) (f5 : m (Str.ofString "figures") = some (.ref fl))
    (hE : PassesOwn (model PySem.Challenge.rw_rt0114_01.row.prog w) (callerA.deeper (lawEnv L' fa cd)) (lawEnv L' fa cd) E)
    (hret : ∀ h' tk' m' news', Fr g L' h' m' → News g L' h' news' → Q (.ret (.bool true)) { s with heap := h', toks := tk' }) :
    wpAny (model PySem.Challenge.rw_rt0114_01.row.prog w) (callerA.deeper (lawEnv L' fa cd)) (execs ((bd 20).drop 7) (lawEnv L' fa cd)) Q E s := by
  k_with_none
  k_with "pyIter ref" => ((with_reducible show wpAny _ _ (pyIter _) (fun it s₂ => LoopAtV _ _ _ _ _ (Str.ofString _) _ _ _ it s₂) _ _); refine Mine.hold ?_)
  k_with "exec While" => (refine Mine.hold ?_)
  k_with "NoTurn" => (refine Mine.hold ?_)
  k_with "LPost" => (refine Mine.hold ?_)
  k_with "k_lt" => (intro ltq9; ((try (have hne9 := Mine.own_ne (by assumption) ltq9 (by (intro p hp; repeat (first | exact hp | refine Mine.mem_tail ?_))))); replace ltq9 := allLt_of ltq9; simp only [AllLt, and_true] at ltq9))
  k_with "k_mem" => (first | with_reducible assumption | exact Mine.mem_head | (refine Mine.mem_tail ?_; k_mem))
  k_with "k_all" => (with_reducible assumption)
  k_with "call type:range" => (k_here; (rename Fr _ _ _ _ => F'); (rename News _ _ _ _ => N'); first | (with_unfolding_all refine range1_rows F' N' ?_; intro _ _ _ _ _ _ _ _ _) | (with_unfolding_all refine range2_rows F' N' ?_; intro _ _ _ _ _ _ _ _ _))
  k_with "binaryOp Add ref ref" => (k_here; (with_reducible show wpAny _ _ (binaryOp _ (Value.ref _) (Value.ref _)) _ _ _); k_dflt (refine' Mine.add_L ?k1 ?k2 ?a ?b ?z ?_; (case k1 => k_asm); (case k2 => k_asm); (case a => k_mem); (case b => k_mem); (case z => (simp only [List.length_cons, List.length_nil, List.length_append]; lia)); k_whole); intro d' h' F' N' l1; (try k_lt l1); (try k_sweep))
  k_with "call builtin:list.append" => (k_here; (with_reducible show wpAny _ _ (call (Value.builtin _) [Value.ref _, _]) _ _ _); k_dflt (refine' Mine.append_L ?k1 ?k2 ?k3 ?z ?_; (case k1 => k_asm); (case k2 => k_asm); (case k3 => k_upd); (case z => first | lia | (simp only [List.length_cons, List.length_nil, List.length_append]; lia)); k_whole); intro h' F' N'; (try k_sweep))
  k_with "call builtin:list.extend" => (k_here; (with_reducible show wpAny _ _ (call (Value.builtin _) [Value.ref _, Value.ref _]) _ _ _); k_dflt (refine' Mine.extend_L ?k1 ?k2 ?b ?ne ?k3 ?z ?_; (case k1 => k_asm); (case k2 => k_asm); (case b => k_mem); (case ne => first | exact Nat.succ_ne_zero _ | lia); (case k3 => k_upd); (case z => (simp only [List.length_cons, List.length_nil, List.length_append]; lia)); k_whole); intro h' F' N'; (try k_sweep))
  k_with "execs" => ((with_reducible show wpAny _ _ (execs (List.drop _ (Mine.bd _)) _) _ _ _); refine Mine.hold ?_)
  k_with "eval Name" => (k_here; k_dflt (refine' nameX_L ?k1 ?k2 ?_ ?k3 ?k4; (case k3 => rfl); (case k4 => rfl); (case k1 => k_asm); (case k2 => first | assumption | exact rfl | (dsimp only; (repeat rw [if_neg (by decide)]); first | assumption | (rw [if_pos rfl]))); k_whole))
  k_with "exec For Name Name" => (refine Mine.hold ?_)
  k_with "call ref" => (refine Mine.hold ?_)
  k_with "binaryOp Pow int int" => (refine Mine.hold ?_)
  k_with "call type:bytes" => (refine Mine.hold ?_)
  k_with "binaryOp FloorDiv int int" => (refine Mine.hold ?_)
  k_with "subscriptTail Name Name ref int" => (k_here; (with_reducible show wpAny _ _ (subscriptTail _ _ (Value.ref _) (Value.int _ _)) _ _ _); k_dflt (refine' Mine.item_ints ?N ?m ?i ?a ?b ?c ?_; (case N => k_asm); (case m => k_mem); (case i => assumption); (case a => first | assumption | exact Int.le_add_one (by assumption) | lia); (case b => first | exact Mine.ringB0 (by assumption) | exact Mine.ringB1 (by assumption) | lia); (case c => first | exact Mine.ringC0 (by assumption) | exact Mine.ringC1 (by assumption) | lia); k_whole); intro _)
  k_with "subscriptTail Name BinOp ref int" => (k_here; (with_reducible show wpAny _ _ (subscriptTail _ _ (Value.ref _) (Value.int _ _)) _ _ _); k_dflt (refine' Mine.item_ints ?N ?m ?i ?a ?b ?c ?_; (case N => k_asm); (case m => k_mem); (case i => assumption); (case a => first | assumption | exact Int.le_add_one (by assumption) | lia); (case b => first | exact Mine.ringB0 (by assumption) | exact Mine.ringB1 (by assumption) | lia); (case c => first | exact Mine.ringC0 (by assumption) | exact Mine.ringC1 (by assumption) | lia); k_whole); intro _)
  k_with "k_ne" => (first | ((with_reducible refine Mine.OffA.n1 (by assumption) ?_); k_mem) | ((with_reducible refine Mine.OffA.n2 (by assumption) ?_); k_mem) | fail)
  k_with "call type:zip" => (refine Mine.hold ?_)
  k_with "call type:dict" => (refine Mine.hold ?_)
  k_with "subscriptTail Name Name bytes int" => (k_here; (with_reducible show wpAny _ _ (subscriptTail _ _ (Value.bytes _ _) (Value.int _ _)) _ _ _); k_dflt (refine' Mine.b64_sub ?a ?b ?c ?_; (case a => rfl); (case b => exact Mine.pairs_lo (by assumption)); (case c => exact Mine.pairs_hi (by assumption)); k_whole); intro _)
  revert X; k_fill; intro X
  refine in_execs (show (bd 20).drop 7 = nthS 7 (bd 20) :: nthS 8 (bd 20) :: nthS 9 (bd 20) :: nthS 10 (bd 20) :: nthS 11 (bd 20) :: nthS 12 (bd 20) :: (bd 20).drop 13 from rfl) ?_
  (conv in (nthS 7 _) => whnf)
  (conv in (nthS 8 _) => whnf)
  (conv in (nthS 9 _) => whnf)
  (conv in (nthS 10 _) => whnf)
  (conv in (nthS 11 _) => whnf)
  (conv in (nthS 12 _) => whnf)
  k_steps
  refine unhold ?_
  refine in_top (lawA L' fa cd) ?_
  refine' ring_call (cs := lawSc) B ?F X ?N T rfl law_dp law_un ?_
  case F => exact F
  case N => exact N
  intro rg rn rvs h5 tk5 F5 N5 off5 hi5
  have hrl : ringL.length = 65 := by decide
  replace off5 := offa_of off5
  simp only [List.map_cons, List.map_nil] at off5
  k_steps
  refine unhold ?_
  (with_reducible rename Fr _ _ _ _ => wF)
  (with_reducible rename News _ _ _ _ => wN)
  rename IsRange _ _ _ _ _ _ _ _ => wR
  (with_reducible rename IntsAre _ (List.map _ _) => hpr)
  (with_reducible rename _ ≠ _ ∧ _ ≠ _ ∧ _ => oP)
  replace oP := offa8 oP
  refine zip_L wF wN (by k_mem) wR ?_
  intro z h6 F6 N6 Z6
  clear wF wN wR
  rw [pairs_eq] at hpr
  k_steps
  refine unhold ?_
  (with_reducible rename Fr _ _ _ _ => wF)
  (with_reducible rename News _ _ _ _ => wN)
  refine dict_L Z6 hpr (by decide) rfl wF wN ?_
  intro d od fd h7 tk7 F7 N7 l7 hmap hspot
  clear wF wN Z6
  replace l7 := allLt_of l7
  simp only [AllLt, and_true] at l7
  k_steps
  refine unhold ?_
  (with_reducible rename Fr _ _ _ _ => wF)
  (with_reducible rename News _ _ _ _ => wN)
  refine in_top (lawA L' fa cd) ?_
  refine' sm_call (cs := lawSc) (la := fl) (lb := rg) (as := fg) (bs := ringL) B ?F X T rfl (news_pre2 ?N ?ma ?mb) hfg hi5 (by decide) law_dp law_un ?_
  case F => exact wF
  case N => exact wN
  case ma => k_mem
  case mb => k_mem
  intro self dx jk pp db c l1 l2 t0 t1 t2 t3 t4 t5 t6 t7 t8 t9 h8 tk8 F8 hinv hdb ha hb N8
  clear oP off5
  k_steps
  refine unhold ?_
  (with_reducible rename Fr _ _ _ _ => wF)
  (with_reducible rename News _ _ _ _ => wN)
  (with_reducible rename IntsAre _ (List.map _ pairsL) => hld)
  obtain ⟨N9, x4, x5, s4, s5⟩ := ledger_cut wN d4 d5 hinv
  exact lawP4 B wF X XB T TB N9 (smLed_smat hinv hdb ha hb hfg hi5) x4 x5 s4 s5 (by assumption) d4 d5 hrow rlen rin hW hmv hfg hfe hfl hff hld hmap hspot (by (try dsimp only); rw [if_neg (by decide), if_neg (by decide), if_neg (by decide)]; exact f1) (by (try dsimp only); rw [if_neg (by decide), if_neg (by decide), if_neg (by decide)]; exact f2) (by (try dsimp only); rw [if_neg (by decide), if_neg (by decide), if_neg (by decide)]; exact f3) (by (try dsimp only); rw [if_neg (by decide), if_neg (by decide), if_neg (by decide)]; exact f4) (by (try dsimp only); rw [if_neg (by decide), if_neg (by decide), if_neg (by decide)]; exact f5) (by (try dsimp only); rw [if_pos rfl]) (by (try dsimp only); rw [if_neg (by decide), if_pos rfl]) hE hret
  k_with_none
end Mine

end TLawP3
section TLawP2
open PySem PySem.W PyProof.Rows PySem.Calls PySem.Spec
set_option Elab.async false
set_option maxRecDepth 100000
set_option maxHeartbeats 16000000
namespace Mine
theorem lawP2 {w : World} {loose : List Str} {mean : ExcName → Option Value} {mg mb : Str → Option Value} {base g : Heap} {L' fa : Addr} {cd : Value} {m : Str → Option Value} {s : Shared} {Q : Flow → Shared → Prop} {E : Value → Shared → Prop}
    {rl : Addr} {ys : List Value} {nr : Nat} {row : List Int} {nm : Int} {nt : Tok} {o1 o2 o3 o4 o5 : Obj} {v1 v2 v3 v4 v5 : Option Value}
    (B : Below callerA base [] g) (F : Fr g L' s.heap m) (X : (Mine.K w.params).In g) (XB : (Mine.K w.params).In base) (T : Top Mine.q loose mean mg mb g) (TB : Top Mine.q loose mean mg mb base)
    (N : News g L' s.heap ((rl, W.listOf ys.toArray nr) :: (L' + 1 + 1 + 1 + 1 + 1, o5) :: (L' + 1 + 1 + 1 + 1, o4) :: (L' + 1 + 1 + 1, o3) :: (L' + 1 + 1, o2) :: (L' + 1, o1) :: [])) (hlt : OffA rl [L' + 1 + 1 + 1 + 1 + 1, L' + 1 + 1 + 1 + 1, L' + 1 + 1 + 1, L' + 1 + 1, L' + 1]) (d1 : o1.data = .cell v1) (d2 : o2.data = .cell v2) (d3 : o3.data = .cell v3) (d4 : o4.data = .cell v4) (d5 : o5.data = .cell v5)
    (hrow : IntsAre ys row) (rlen : row.length ≤ 4) (rin : ∀ k ∈ row, 0 ≤ k ∧ k < 256) (hnm : nm = numTo row row.length) (f1 : m (Str.ofString "row") = some (.ref rl)) (f2 : m (Str.ofString "number") = some (.int nm nt))
    (hE : PassesOwn (model PySem.Challenge.rw_rt0114_01.row.prog w) (callerA.deeper (lawEnv L' fa cd)) (lawEnv L' fa cd) E)
    (hret : ∀ h' tk' m' news', Fr g L' h' m' → News g L' h' news' → Q (.ret (.bool true)) { s with heap := h', toks := tk' }) :
    wpAny (model PySem.Challenge.rw_rt0114_01.row.prog w) (callerA.deeper (lawEnv L' fa cd)) (execs ((bd 20).drop 3) (lawEnv L' fa cd)) Q E s := by
  k_with_none
  k_with "pyIter ref" => ((with_reducible show wpAny _ _ (pyIter _) (fun it s₂ => LoopAtV _ _ _ _ _ (Str.ofString _) _ _ _ it s₂) _ _); refine Mine.hold ?_)
  k_with "exec While" => (refine Mine.hold ?_)
  k_with "NoTurn" => (refine Mine.hold ?_)
  k_with "LPost" => (refine Mine.hold ?_)
  k_with "k_lt" => (intro ltq9; ((try (have hne9 := Mine.own_ne (by assumption) ltq9 (by (intro p hp; repeat (first | exact hp | refine Mine.mem_tail ?_))))); replace ltq9 := allLt_of ltq9; simp only [AllLt, and_true] at ltq9))
  k_with "k_mem" => (first | with_reducible assumption | exact Mine.mem_head | (refine Mine.mem_tail ?_; k_mem))
  k_with "k_all" => (with_reducible assumption)
  k_with "call type:range" => (k_here; (rename Fr _ _ _ _ => F'); (rename News _ _ _ _ => N'); first | (with_unfolding_all refine range1_rows F' N' ?_; intro _ _ _ _ _ _ _ _ _) | (with_unfolding_all refine range2_rows F' N' ?_; intro _ _ _ _ _ _ _ _ _))
  k_with "binaryOp Add ref ref" => (k_here; (with_reducible show wpAny _ _ (binaryOp _ (Value.ref _) (Value.ref _)) _ _ _); k_dflt (refine' Mine.add_L ?k1 ?k2 ?a ?b ?z ?_; (case k1 => k_asm); (case k2 => k_asm); (case a => k_mem); (case b => k_mem); (case z => (simp only [List.length_cons, List.length_nil, List.length_append]; lia)); k_whole); intro d' h' F' N' l1; (try k_lt l1); (try k_sweep))
  k_with "call builtin:list.append" => (k_here; (with_reducible show wpAny _ _ (call (Value.builtin _) [Value.ref _, _]) _ _ _); k_dflt (refine' Mine.append_L ?k1 ?k2 ?k3 ?z ?_; (case k1 => k_asm); (case k2 => k_asm); (case k3 => k_upd); (case z => first | lia | (simp only [List.length_cons, List.length_nil, List.length_append]; lia)); k_whole); intro h' F' N'; (try k_sweep))
  k_with "call builtin:list.extend" => (k_here; (with_reducible show wpAny _ _ (call (Value.builtin _) [Value.ref _, Value.ref _]) _ _ _); k_dflt (refine' Mine.extend_L ?k1 ?k2 ?b ?ne ?k3 ?z ?_; (case k1 => k_asm); (case k2 => k_asm); (case b => k_mem); (case ne => first | exact Nat.succ_ne_zero _ | lia); (case k3 => k_upd); (case z => (simp only [List.length_cons, List.length_nil, List.length_append]; lia)); k_whole); intro h' F' N'; (try k_sweep))
  k_with "execs" => ((with_reducible show wpAny _ _ (execs (List.drop _ (Mine.bd _)) _) _ _ _); refine Mine.hold ?_)
  k_with "eval Name" => (k_here; k_dflt (refine' nameX_L ?k1 ?k2 ?_ ?k3 ?k4; (case k3 => rfl); (case k4 => rfl); (case k1 => k_asm); (case k2 => first | assumption | exact rfl | (dsimp only; (repeat rw [if_neg (by decide)]); first | assumption | (rw [if_pos rfl]))); k_whole))
  k_with "exec For Name Name" => (refine Mine.hold ?_)
  k_with "call ref" => (refine Mine.hold ?_)
  k_with "binaryOp Pow int int" => (refine Mine.hold ?_)
  k_with "call type:bytes" => (refine Mine.hold ?_)
  k_with "binaryOp FloorDiv int int" => (refine Mine.hold ?_)
  k_with "subscriptTail Name Name ref int" => (k_here; (with_reducible show wpAny _ _ (subscriptTail _ _ (Value.ref _) (Value.int _ _)) _ _ _); k_dflt (refine' Mine.item_ints ?N ?m ?i ?a ?b ?c ?_; (case N => k_asm); (case m => k_mem); (case i => assumption); (case a => first | assumption | exact Int.le_add_one (by assumption) | lia); (case b => first | exact Mine.ringB0 (by assumption) | exact Mine.ringB1 (by assumption) | lia); (case c => first | exact Mine.ringC0 (by assumption) | exact Mine.ringC1 (by assumption) | lia); k_whole); intro _)
  k_with "subscriptTail Name BinOp ref int" => (k_here; (with_reducible show wpAny _ _ (subscriptTail _ _ (Value.ref _) (Value.int _ _)) _ _ _); k_dflt (refine' Mine.item_ints ?N ?m ?i ?a ?b ?c ?_; (case N => k_asm); (case m => k_mem); (case i => assumption); (case a => first | assumption | exact Int.le_add_one (by assumption) | lia); (case b => first | exact Mine.ringB0 (by assumption) | exact Mine.ringB1 (by assumption) | lia); (case c => first | exact Mine.ringC0 (by assumption) | exact Mine.ringC1 (by assumption) | lia); k_whole); intro _)
  k_with "k_ne" => (first | ((with_reducible refine Mine.OffA.n1 (by assumption) ?_); k_mem) | ((with_reducible refine Mine.OffA.n2 (by assumption) ?_); k_mem) | fail)
  k_with "call type:zip" => (refine Mine.hold ?_)
  k_with "call type:dict" => (refine Mine.hold ?_)
  revert X; k_fill; intro X
  refine in_execs (show (bd 20).drop 3 = nthS 3 (bd 20) :: nthS 4 (bd 20) :: nthS 5 (bd 20) :: nthS 6 (bd 20) :: (bd 20).drop 7 from rfl) ?_
  (conv in (nthS 3 _) => whnf)
  (conv in (nthS 4 _) => whnf)
  (conv in (nthS 5 _) => whnf)
  (conv in (nthS 6 _) => whnf)
  have nb := numTo_lt rin row.length (Nat.le_refl _)
  have n0 := numTo_nonneg (fun k hk => (rin k hk).1) row.length
  rw [← hnm] at nb n0
  have nb2 : nm < 4294967296 := Int.lt_of_lt_of_le nb (pow_256 rlen)
  k_steps
  refine unhold ?_
  refine in_top (lawA L' fa cd) ?_
  refine' figs_call (cs := lawSc) (number := 32 * nm) (size := 256) (count := row.length + 1) B ?F X ?N T rfl (by lia) (by lia) (by lia) (by lia) (by lia) law_dp law_un ?_
  case F => exact F
  case N => exact N
  intro ml mn mvs h2 tk2 F2 N2 off2 hi2
  k_steps
  refine unhold ?_
  refine' bytes_L ?F ?N rfl ?a hi2 (figs_in _ _) (by rw [figsL_len]; lia) ?_
  case F => exact F2
  case N => exact N2
  case a => exact .head _
  intro h3 mt k3 F3 N3
  clear N2 F2 hi2
  obtain ⟨mv, hmv⟩ : ∃ mv, mv = byteArr (figsL (32 * nm) 256 (row.length + 1)) := ⟨_, rfl⟩
  have mvl : mv.size = row.length + 1 := by rw [hmv, byteArr_size, figsL_len]
  rw [← hmv]
  k_steps
  refine unhold ?_
  have e1 : (8 * (row.length : Int) + 5).fdiv 6 = (((8 * row.length + 5) / 6 : Nat) : Int) := by rw [Int.fdiv_eq_ediv_of_nonneg _ (by decide)]; lia
  refine floordiv_int (by decide) ?_ (Or.inl (PyProof.noPylong_of_log2 (by decide +kernel)))
  rw [e1]
  k_steps
  refine unhold ?_
  rw [mvl]
  obtain ⟨W, hW⟩ : ∃ W : Nat, W = (8 * row.length + 13) / 6 := ⟨_, rfl⟩
  have e2 : (8 * ((row.length + 1 : Nat) : Int) + 5).fdiv 6 = (W : Int) := by rw [Int.fdiv_eq_ediv_of_nonneg _ (by decide)]; lia
  refine floordiv_int (by decide) ?_ (Or.inl (PyProof.noPylong_of_log2 (by decide +kernel)))
  rw [e2]
  try dsimp only
  k_steps
  refine unhold ?_
  rw [mvl]
  refine pow_int_small (by lia) (by lia) (by decide) ?_
  obtain ⟨e, he⟩ : ∃ e : Nat, e = (6 * (W : Int) - 8 * ((row.length + 1 : Nat) : Int)).toNat := ⟨_, rfl⟩
  rw [← he]
  have he5 : e ≤ 5 := by lia
  have hp : (2 : Int) ^ e = 1 ∨ (2 : Int) ^ e = 2 ∨ (2 : Int) ^ e = 4 ∨ (2 : Int) ^ e = 8 ∨ (2 : Int) ^ e = 16 ∨ (2 : Int) ^ e = 32 := by
    have : e = 0 ∨ e = 1 ∨ e = 2 ∨ e = 3 ∨ e = 4 ∨ e = 5 := by lia
    rcases this with h | h | h | h | h | h <;> rw [h] <;> decide
  have hb0 : 0 ≤ 32 * nm * (2 : Int) ^ e := by rcases hp with h | h | h | h | h | h <;> rw [h] <;> lia
  have hb1 : 32 * nm * (2 : Int) ^ e < 2 ^ 62 := by rcases hp with h | h | h | h | h | h <;> rw [h] <;> lia
  try dsimp only
  k_steps
  refine unhold ?_
  (with_reducible rename Fr _ _ _ _ => wF)
  (with_reducible rename News _ _ _ _ => wN)
  refine in_top (lawA L' fa cd) ?_
  refine' figs_call (cs := lawSc) (number := 32 * nm * (2 : Int) ^ e) (size := 8) (count := 2 * W) B ?F X ?N T rfl hb0 hb1 (by lia) (by lia) (by lia) law_dp law_un ?_
  case F => exact wF
  case N => exact wN
  intro fl fn fvs h4 tk4 F4 N4 off4 hi4
  clear wF wN
  replace off4 := offa_of off4
  simp only [List.map_cons, List.map_nil] at off4
  k_steps
  refine unhold ?_
  (with_reducible rename Fr _ _ _ _ => wF)
  (with_reducible rename News _ _ _ _ => wN)
  have hfe : figsL (32 * nm * 2 ^ e) 8 (2 * W) = figsL (32 * numTo row row.length * 2 ^ (6 * W - 8 * (row.length + 1))) 8 (2 * W) := by rw [hnm, show e = 6 * W - 8 * (row.length + 1) by lia]
  have hmv' : mv = byteArr (figsL (32 * numTo row row.length) 256 (row.length + 1)) := by rw [hmv, hnm]
  have hff : Figs (figsL (32 * nm * 2 ^ e) 8 (2 * W)) := figs_of fun k hk => by
    obtain ⟨j, _, rfl⟩ := List.mem_map.mp hk
    exact ⟨Int.emod_nonneg _ (by decide), Int.emod_lt_of_pos _ (by decide)⟩
  clear nb n0 nb2 hb0 hb1 hp he5 he e1 e2
  exact lawP3 B wF X XB T TB (fun p hp => wN p (by rcases List.mem_cons.mp hp with hp | hp; exact hp ▸ .head _; exact .tail _ (.tail _ hp))) hlt ⟨(List.forall_mem_cons.mp off4.all).2⟩ d1 d2 d3 d4 d5 hrow rlen rin hW hmv' hi4 hfe (figsL_len _ _ _) hff
    (by (try dsimp only); rw [if_neg (by decide), if_neg (by decide), if_neg (by decide), if_neg (by decide)]; exact f1)
    (by (try dsimp only); rw [if_neg (by decide), if_neg (by decide), if_neg (by decide), if_pos rfl])
    (by (try dsimp only); rw [if_neg (by decide), if_neg (by decide), if_pos rfl])
    (by (try dsimp only); rw [if_neg (by decide), if_pos rfl])
    (by (try dsimp only); rw [if_pos rfl]) hE hret
  k_with_none
end Mine

end TLawP2
open PySem PySem.W PyProof.Rows PySem.Calls
set_option Elab.async false
set_option maxRecDepth 100000
namespace Mine
theorem row_len (l : List Int) : (List.map (fun k' : Int => k'.fmod 256) (List.take 4 l)).length ≤ 4 := by rw [List.length_map, List.length_take]; lia
theorem row_in (l : List Int) : ∀ k ∈ List.map (fun k' : Int => k'.fmod 256) (List.take 4 l), 0 ≤ k ∧ k < 256 := by
  intro k hk
  obtain ⟨x, _, rfl⟩ := List.mem_map.mp hk
  exact ⟨Int.fmod_nonneg_of_pos _ (by decide), Int.fmod_lt_of_pos _ (by decide)⟩
theorem row_num (row : List Int) : List.foldl (fun a' => HAdd.hAdd (256 * a')) 0 row = numTo row row.length := by
  unfold numTo
  rw [List.take_length]
end Mine
set_option maxHeartbeats 8000000 in
theorem PySem.Challenge.cw_rt0114_01_holds : PySem.Challenge.rw_rt0114_01.Holds := by
  k_with_none
  k_with "execs cons" => ((with_reducible show wpAny _ _ (execs (Stmt.Assign [Expr.Name (Str.ofString "moved") _] _ _ :: _) _) _ _ _); refine Mine.hold ?_)
  w_on
  refine holds_law (by decide +kernel) fun said => ?_
  refine holds_open (q := Mine.q) (loose := Mine.loose) (Xt := fun s => xlAt Mine.q [] s && recOk [] s) (XP := XL Mine.q []) (Yf := Hook.obs (kHook Mine.K Mine.Kas Mine.kas_ok)) (Ya := Hook.val (kHook Mine.K Mine.Kas Mine.kas_ok)) (YP := Hook.says (kHook Mine.K Mine.Kas Mine.kas_ok)) (N := 5018) Mine.left (Hook.of _) (Hook.keeps _) (fun s e => xl_of s (Bool.and_eq_true_iff.mp e).1) XL.keeps (by rfl) (by rfl) (by rfl) (fun s e => recFacts_of (Bool.and_eq_true_iff.mp e).2) (by first | rfl | fail "x") (by first | assumption | decide +kernel) (by decide +kernel) ⟨rfl, rfl, rfl, rfl, rfl, by decide +kernel⟩ ?hw ?hc
  case hw => w_witness2
  clear said
  generalize Mine.loose = ll
  k_go0
  (all_goals try k_fold)
  k_steps
  refine Mine.unhold ?_
  (with_reducible rename Fr _ _ _ _ => wF)
  (with_reducible rename News _ _ _ _ => wN)
  (with_reducible rename IntsAre _ (List.map _ _) => hrow)
  (with_reducible rename Below _ _ _ _ => wB)
  (with_reducible rename Top _ _ _ _ _ _ => wT)
  rename Frag.In _ _ => wX
  (with_reducible rename _ ≠ _ ∧ _ ≠ _ ∧ _ => off)
  refine Mine.lawP2 wB wF wX wX wT wT (fun p hp => wN p (by rcases List.mem_cons.mp hp with hp | hp; exact hp ▸ .head _; exact .tail _ (.tail _ hp))) ⟨List.forall_mem_cons.mpr ⟨off.2.1, List.forall_mem_cons.mpr ⟨off.2.2.1, List.forall_mem_cons.mpr ⟨off.2.2.2.1, List.forall_mem_cons.mpr ⟨off.2.2.2.2.1, List.forall_mem_cons.mpr ⟨off.2.2.2.2.2, List.forall_mem_nil _⟩⟩⟩⟩⟩⟩ (by with_reducible assumption) (by with_reducible assumption) (by with_reducible assumption) (by with_reducible assumption) (by with_reducible assumption) hrow (Mine.row_len _) (Mine.row_in _) (Mine.row_num _) (by (try dsimp only); rw [if_neg (by decide), if_neg (by decide), if_neg (by decide), if_pos rfl]) (by (try dsimp only); rw [if_neg (by decide), if_pos rfl]) ?hE ?hret
  case hE => first | passes_own | with_unfolding_all passes_own
  case hret =>
    intro h9 tk9 m9 news9 F9 N9
    clear wF wN
    k_steps
  k_with_none
