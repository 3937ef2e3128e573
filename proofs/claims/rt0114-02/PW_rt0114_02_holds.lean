import PyProof.Rows.All
import Wide.All
import OpenK.AllK
import Wide.FinOn
import Open.Tops
import KE.KTup
import KE.KPairComp
import PyProof.Rows.TupIter
import PyProof.WalksPairs
import Lean
import PySem.Challenge.RW_rt0114_02
set_option linter.all false
set_option Elab.async false
set_option maxRecDepth 100000
set_option maxHeartbeats 0
set_option genInjectivity false
set_option genSizeOf false
local macro_rules | `(tactic| walk_at $s:str) => `(tactic| k_extra $s)
local macro_rules | `(tactic| k_mem) => `(tactic| k_extra "k_mem")
local macro_rules | `(tactic| k_all) => `(tactic| k_extra "k_all")
local macro_rules | `(tactic| k_ne) => `(tactic| k_extra "k_ne")
local macro_rules | `(tactic| k_room) => `(tactic| k_extra "k_room")
local macro_rules | `(tactic| k_lt $h) => `(tactic| (revert $h; k_extra "k_lt"))
open PySem PySem.W PyProof.Rows PySem.Calls PySem.Spec
section
variable {prog : Program} {w : World} {A A₀ : Around} {E : Value -> Shared -> Prop} {s : Shared} {env : Env} {h₀ base hp : Heap} {L : Addr} {m mg m₀ : Str -> Option Value} {news own rest : List (Addr × Obj)} {M : Model} {dp un tk : Nat} {gd : Option (List Code)} {cn : Str} {ccd : Value} {cl : List (Str × Addr)} {outer : List Env} {mean : ExcName -> Option Value} {gs : Array GenState} {dr : Drawn} {os : List Int} {items : Array Value} {ox : Obj}
namespace Mine
noncomputable section
noncomputable def nthS : Nat -> List Stmt -> Stmt
 | _, [] => .Pass ⟨0, 0, 0, 0⟩
 | 0, s :: _ => s
 | n + 1, _ :: r => nthS n r
noncomputable def fnB : Stmt -> List Stmt
 | .FunctionDef _ _ b _ _ _ _ _ _ _ => b
 | _ => []
noncomputable def clB : Stmt -> List Stmt
 | .ClassDef _ _ _ b _ _ _ _ _ _ _ => b
 | _ => []
noncomputable def bd (i : Nat) : List Stmt := fnB (nthS i PySem.Challenge.pw_rt0114_02.main.body)
noncomputable def mb (i j : Nat) : List Stmt := fnB (nthS j (clB (nthS i PySem.Challenge.pw_rt0114_02.main.body)))
noncomputable def docS : List Stmt -> Str
 | .Expr (.Constant (.str s) _ _) _ :: _ => s
 | _ => ⟨#[]⟩
noncomputable def zoj : List Stmt -> Str
 | .ClassDef _ _ _ (.Expr (.Constant (.str s) _ _) _ :: _) _ _ _ _ _ _ _ :: _ => s
 | _ => ⟨#[]⟩
noncomputable def bE : List Stmt := behindTheImports PySem.Challenge.pw_rt0114_02
noncomputable def docP : { cs : List Char // zoj (bE.drop 5) = Str.ofString (String.ofList cs) } := ⟨_, by (conv => lhs; whnf); exact rfl⟩
noncomputable def docT : Str := ⟨⟨docP.1.map Char.toNat⟩⟩
noncomputable def zrb : Value := .str docT 401
noncomputable def dE (P : Params) (n : Str) (t : Nat) (v : Value) : DictEntry := ⟨PyData.keyHash P n, .str n t, v⟩
noncomputable def ao_1 : Params -> Obj := fun P => ⟨.type "tuple",none,.seq #[] 0,#[]⟩
noncomputable def ao_3 : Params -> Obj := fun P => ⟨.type "code",none,.fields #[.str "<module>" 182,.str "<module>" 183,.str "/claim/cut.py" 184,.int 1 0,.int 0 0,.int 0 0,.int 0 0,.int 0 0,.ref 11,.bool false,.int 181 0,.ref 12,.none,.none,.none,.none,.int 185 0,.int 1 0,.str "/claim/cut.py" 186],#[]⟩
noncomputable def ao_2 : Params -> Obj := fun P => ⟨.none,none,.fields #[],#[]⟩
noncomputable def ao_4 : Params -> Obj := fun P => ⟨.type "frame",none,.plain,#[some (.ref 13),some (.ref 3),some (.ref 3),none,some (.str "__main__" 164),none,some (.ref 0)]⟩
noncomputable def zm2 : Params -> Obj := fun P => ⟨.type "dict",none,.dict #[dE P "__name__" 165 (.str "law_rt0114_02" 638),dE P "__doc__" 166 .none,dE P "__package__" 167 .none,⟨PyData.keyHash P "__loader__",.str "__loader__" 168,.builtin "__main__.__loader__#opaque"⟩,dE P "__spec__" 169 .none,dE P "__annotations__" 170 (.ref 6),dE P "__builtins__" 171 (.ref 4),dE P "__file__" 173 (.str "/claim/cut.py" 172),dE P "__cached__" 174 .none,dE P "_wall" 193 (.ref 21),dE P "_tuplegetter" 252 (.ref 60),dE P "Match" 380 (.ref 135),dE P "_calculate_ratio" 388 (.ref 145),dE P "SequenceMatcher" 574 (.ref 242),dE P "_buffer" 584 (.ref 253),dE P "_truth" 592 (.ref 260),⟨PyData.keyHash P "_B64",.str "_B64" 594,.bytes (List.toArray (65::66::67::68::69::70::71::72::73::74::75::76::77::78::79::80::81::82::83::84::85::86::87::88::89::90::97::98::99::100::101::102::103::104::105::106::107::108::109::110::111::112::113::114::115::116::117::118::119::120::121::122::48::49::50::51::52::53::54::55::56::57::43::47::[])) 593⟩,dE P "b2a_base64" 608 (.ref 268),dE P "b64encode" 620 (.ref 276),dE P "sorted_list_difference" 637 (.ref 283),dE P "_law_number" 648 (.ref 290),dE P "_law_written" 654 (.ref 295),dE P "_law_alike" 660 (.ref 300),dE P "_law_runs" 671 (.ref 307),dE P "_law_blocks" 677 (.ref 312),dE P "law" 683 (.ref 317)] 26,#[]⟩
noncomputable def bo_7 : Params -> Obj := fun P => ⟨.type "tuple",none,.seq #[] 0,#[]⟩
noncomputable def zri : Params -> Obj := fun P => ⟨.type "tuple",none,.seq #[.str "self" 211,.str "index" 212,.str "doc" 213] 0,#[]⟩
noncomputable def bo_55 : Params -> Obj := fun P => ⟨.type "super",none,.fields #[.ref 60,.ref 60,.ref 60],#[]⟩
noncomputable def zkh : Params -> Obj := fun P => ⟨.ref 60,some 126,.plain,#[]⟩
noncomputable def zq0 : Params -> Obj := fun P => ⟨.none,none,.fields #[],#[]⟩
noncomputable def zo7 : Params -> Obj := fun P => ⟨.none,none,.fields #[],#[]⟩
noncomputable def bo_90 : Params -> Obj := fun P => ⟨.none,none,.fields #[],#[]⟩
noncomputable def zlK : Params -> Obj := fun P => ⟨.type "code",none,.fields #[.str "__init__" 406,.str "SequenceMatcher.__init__" 407,.str "/claim/cut.py" 408,.int 145 0,.int 5 0,.int 0 0,.int 0 0,.int 3 0,.ref 154,.bool true,.int 181 0,.ref 155,.none,.ref 156,.ref 157,.ref 158,.int 414 0,.int 145 0,.str "/claim/cut.py" 415],#[]⟩
noncomputable def zmp : Params -> Obj := fun P => ⟨.type "tuple",none,.seq #[] 0,#[]⟩
noncomputable def zo6 : Params -> Obj := fun P => ⟨.none,none,.func ⟨"ratio","SequenceMatcher.ratio",⟨[],[⟨"self",none,⟨389,14,389,18⟩⟩],none,[],[],none,[]⟩,FuncBody.stmts (mb 5 10),⟨.function,[("self",.local),("matches",.local),("sum",.globalImplicit),("_calculate_ratio",.globalImplicit),("len",.globalImplicit)],false,false,[]⟩,0,[],.none,.none,.none,.none,none,.none,.none,0⟩,#[]⟩
noncomputable def zrf : Params -> Obj := fun P => ⟨.type "tuple",none,.seq #[] 0,#[]⟩
noncomputable def zpe : Params -> Obj := fun P => ⟨.type "tuple",none,.seq #[] 0,#[]⟩
noncomputable def zoE : Params -> Obj := fun P => ⟨.none,none,.func ⟨"_calculate_ratio","_calculate_ratio",⟨[],[⟨"matches",none,⟨66,21,66,28⟩⟩,⟨"length",none,⟨66,30,66,36⟩⟩],none,[],[],none,[]⟩,FuncBody.stmts (bd 4),⟨.function,[("matches",.local),("length",.local)],false,false,[]⟩,0,[],.none,.none,.none,.none,none,.none,.none,0⟩,#[]⟩
noncomputable def zoN : Params -> Obj := fun P => ⟨.none,none,.fields #[],#[]⟩
noncomputable def zkd : Params -> Obj := fun P => ⟨.type "tuple",none,.seq #[] 0,#[]⟩
noncomputable def zkl : Params -> Obj := fun P => ⟨.type "tuple",none,.seq #[] 0,#[]⟩
noncomputable def zkR : Params -> Obj := fun P => ⟨.type "tuple",none,.seq #[] 0,#[]⟩
noncomputable def zlh : Params -> Obj := fun P => ⟨.type "tuple",none,.seq #[.str "alike" 664,.str "move" 665,.str "runs" 666,.str "start" 667,.str "size" 668] 0,#[]⟩
noncomputable def zke : Params -> Obj := fun P => ⟨.type "function",none,.func ⟨"real_quick_ratio","SequenceMatcher.real_quick_ratio",⟨[],[⟨"self",none,⟨416,25,416,29⟩⟩],none,[],[],none,[]⟩,FuncBody.stmts (mb 5 12),⟨.function,[("self",.local),("_wall",.globalImplicit)],false,false,[]⟩,3,[],.none,.none,.none,.str "cpy313.difflib" 194,none,.ref 238,.none,0⟩,#[]⟩
noncomputable def bo_15 : Params -> Obj := fun P => ⟨.type "builtin_function_or_method",none,.fields #[.builtin "type.__prepare__",.type "type"],#[]⟩
noncomputable def zpb : Params -> Obj := fun P => ⟨.type "tuple",none,.seq #[.str "self" 220,.str "obj" 221,.str "objtype" 222] 0,#[]⟩
noncomputable def bo_66 : Params -> Obj := fun P => ⟨.type "code",none,.fields #[.str "Match" 255,.str "Match" 256,.str "/claim/cut.py" 257,.int 23 0,.int 0 0,.int 0 0,.int 0 0,.int 0 0,.ref 69,.bool false,.int 181 0,.ref 70,.none,.none,.none,.none,.int 258 0,.int 23 0,.str "/claim/cut.py" 259],#[]⟩
noncomputable def zle : Params -> Obj := fun P => ⟨.type "type",none,.cls ⟨"Match",[.type "tuple"],[.ref 135,.type "tuple",.type "object"],134,"Match",false,[],[],false,none,false⟩,#[some (.ref 65),none,some (.str "Match" 253),some (.str "Match" 261),some .none,some (.bool false)]⟩
noncomputable def zrv : Params -> Obj := fun P => ⟨.none,none,.fields #[],#[]⟩
noncomputable def zkH : Params -> Obj := fun P => ⟨.type "tuple",none,.seq #[.str "self" 495,.str "la" 496,.str "lb" 497,.str "queue" 498,.str "matching_blocks" 499,.str "alo" 500,.str "ahi" 501,.str "blo" 502,.str "bhi" 503,.str "i" 504,.str "j" 505,.str "k" 506,.str "x" 507,.str "i1" 508,.str "j1" 509,.str "k1" 510,.str "non_adjacent" 511,.str "i2" 512,.str "j2" 513,.str "k2" 514] 0,#[]⟩
noncomputable def zp6 : Params -> Obj := fun P => ⟨.type "tuple",none,.seq #[.str "self" 322] 0,#[]⟩
noncomputable def zko : Params -> Obj := fun P => ⟨.type "function",none,.func ⟨"set_seqs","SequenceMatcher.set_seqs",⟨[],[⟨"self",none,⟨173,17,173,21⟩⟩,⟨"a",none,⟨173,23,173,24⟩⟩,⟨"b",none,⟨173,26,173,27⟩⟩],none,[],[],none,[]⟩,FuncBody.stmts (mb 5 2),⟨.function,[("self",.local),("a",.local),("b",.local)],false,false,[]⟩,3,[],.none,.none,.str (docS (mb 5 2)) 426,.str "cpy313.difflib" 194,none,.ref 166,.none,0⟩,#[]⟩
noncomputable def zll : Params -> Obj := fun P => ⟨.type "function",none,.func ⟨"_law_written","_law_written",⟨[],[⟨"row",none,⟨513,17,513,20⟩⟩],none,[],[],none,[]⟩,FuncBody.stmts (bd 17),⟨.function,[("row",.cell),("alphabet",.cell),("count",.cell),("signs",.local),("len",.globalImplicit),("range",.globalImplicit),("bytes",.globalImplicit)],false,false,[("fast",Const.str "row"),("fast",Const.str "alphabet"),("fast",Const.str "count"),("fast",Const.str "k"),("fast",Const.str "signs")]⟩,3,[],.none,.none,.none,.str "law_rt0114_02" 638,none,.ref 294,.none,0⟩,#[]⟩
noncomputable def zkV : Params -> Obj := fun P => ⟨.type "code",none,.fields #[.str "quick_ratio" 544,.str "SequenceMatcher.quick_ratio" 545,.str "/claim/cut.py" 546,.int 413 0,.int 1 0,.int 0 0,.int 0 0,.int 3 0,.ref 226,.bool true,.int 181 0,.ref 227,.none,.ref 228,.ref 229,.ref 230,.int 548 0,.int 413 0,.str "/claim/cut.py" 549],#[]⟩
noncomputable def bo_47 : Params -> Obj := fun P => ⟨.none,none,.func ⟨"__delete__","_tuplegetter.__delete__",⟨[],[⟨"self",none,⟨21,19,21,23⟩⟩,⟨"obj",none,⟨21,25,21,28⟩⟩],none,[],[],none,[]⟩,FuncBody.stmts (mb 2 3),⟨.function,[("self",.local),("obj",.local),("AttributeError",.globalImplicit)],false,false,[]⟩,0,[],.none,.none,.none,.none,none,.none,.none,0⟩,#[]⟩
noncomputable def bo_82 : Params -> Obj := fun P => ⟨.none,none,.func ⟨"_make","Match._make",⟨[],[⟨"cls",none,⟨34,14,34,17⟩⟩,⟨"iterable",none,⟨34,19,34,27⟩⟩],none,[],[],none,[]⟩,FuncBody.stmts (mb 3 5),⟨.function,[("cls",.local),("iterable",.local),("result",.local),("tuple",.globalImplicit),("len",.globalImplicit),("TypeError",.globalImplicit)],false,false,[]⟩,0,[],.none,.none,.none,.none,none,.none,.none,0⟩,#[]⟩
noncomputable def zpi : Params -> Obj := fun P => ⟨.type "code",none,.fields #[.str "SequenceMatcher" 391,.str "SequenceMatcher" 392,.str "/claim/cut.py" 393,.int 70 0,.int 0 0,.int 0 0,.int 0 0,.int 0 0,.ref 149,.bool false,.int 181 0,.ref 150,.none,.none,.none,.none,.int 394 0,.int 70 0,.str "/claim/cut.py" 395],#[]⟩
noncomputable def zk0 : Params -> Obj := fun P => ⟨.type "tuple",none,.seq #[.str "expected" 626,.str "actual" 627,.str "i" 628,.str "j" 629,.str "missing" 630,.str "unexpected" 631,.str "e" 632,.str "a" 633] 0,#[]⟩
noncomputable def znd : Params -> Obj := fun P => ⟨.type "tuple",none,.seq #[] 0,#[]⟩
noncomputable def zry : Params -> Obj := fun P => ⟨.none,none,.func ⟨"__getnewargs__","Match.__getnewargs__",⟨[],[⟨"self",none,⟨59,23,59,27⟩⟩],none,[],[],none,[]⟩,FuncBody.stmts (mb 3 10),⟨.function,[("self",.local),("tuple",.globalImplicit)],false,false,[]⟩,0,[],.none,.none,.none,.none,none,.none,.none,0⟩,#[]⟩
noncomputable def zrC : Params -> Obj := fun P => ⟨.none,none,.fields #[],#[]⟩
noncomputable def zkZ : Params -> Obj := fun P => ⟨.type "code",none,.fields #[.str "_law_blocks" 672,.str "_law_blocks" 673,.str "/claim/cut.py" 674,.int 536 0,.int 3 0,.int 0 0,.int 0 0,.int 3 0,.ref 308,.bool true,.int 181 0,.ref 309,.none,.none,.none,.ref 310,.int 675 0,.int 536 0,.str "/claim/cut.py" 676],#[]⟩
noncomputable def zlA : Params -> Obj := fun P => ⟨.type "tuple",none,.seq #[] 0,#[]⟩
noncomputable def bo_1 : Params -> Obj := fun P => ⟨.type "tuple",none,.seq #[] 0,#[]⟩
noncomputable def bo_11 : Params -> Obj := fun P => ⟨.none,none,.func ⟨"_wall","_wall",⟨[],[⟨"k",none,⟨1,10,1,11⟩⟩],none,[],[],none,[]⟩,FuncBody.stmts (bd 0),⟨.function,[("k",.local)],false,false,[]⟩,0,[],.none,.none,.none,.none,none,.none,.none,0⟩,#[]⟩
noncomputable def zpY : Params -> Obj := fun P => ⟨.type "function",none,.func ⟨"__init__","_tuplegetter.__init__",⟨[],[⟨"self",none,⟨7,17,7,21⟩⟩,⟨"index",none,⟨7,23,7,28⟩⟩,⟨"doc",none,⟨7,30,7,33⟩⟩],none,[],[],none,[]⟩,FuncBody.stmts (mb 2 0),⟨.function,[("self",.local),("index",.local),("doc",.local)],false,false,[]⟩,3,[],.none,.none,.none,.str "cpy313.difflib" 194,none,.ref 34,.none,0⟩,#[]⟩
noncomputable def bo_62 : Params -> Obj := fun P => ⟨.type "dict",none,.dict #[dE P "__module__" 260 (.str "cpy313.difflib" 194),dE P "__qualname__" 262 (.str "Match" 261),dE P "__firstlineno__" 264 (.int 23 263),⟨PyData.keyHash P "__doc__",.str "__doc__" 266,.str "Match(a, b, size)" 265⟩,dE P "__slots__" 268 (.ref 73),dE P "_fields" 272 (.ref 74),dE P "_field_defaults" 273 (.ref 75),dE P "__new__" 284 (.ref 82),dE P "_make" 306 (.ref 91),dE P "_replace" 317 (.ref 100),dE P "__replace__" 318 (.ref 100),dE P "__repr__" 326 (.ref 107),dE P "_asdict" 333 (.ref 114),dE P "__getnewargs__" 341 (.ref 121),dE P "__match_args__" 345 (.ref 122),dE P "a" 355 (.ref 124),dE P "b" 365 (.ref 127),dE P "size" 375 (.ref 130),dE P "__static_attributes__" 376 (.ref 132),dE P "__classcell__" 377 (.ref 68)] 20,#[]⟩
noncomputable def zpj : Params -> Obj := fun P => ⟨.type "frame",none,.dict #[dE P "self" 368 (.ref 130),dE P "index" 369 (.int 2 366),dE P "doc" 370 (.str "Alias for field number 2" 367)] 3,#[]⟩
noncomputable def zm5 : Params -> Obj := fun P => ⟨.type "code",none,.fields #[.str "_truth" 585,.str "_truth" 586,.str "/claim/cut.py" 587,.int 426 0,.int 1 0,.int 0 0,.int 0 0,.int 3 0,.ref 254,.bool true,.int 181 0,.ref 255,.none,.ref 256,.ref 257,.ref 258,.int 590 0,.int 426 0,.str "/claim/cut.py" 591],#[]⟩
noncomputable def zmt : Params -> Obj := fun P => ⟨.type "code",none,.fields #[.str "find_longest_match" 466,.str "SequenceMatcher.find_longest_match" 467,.str "/claim/cut.py" 468,.int 260 0,.int 5 0,.int 0 0,.int 0 0,.int 3 0,.ref 190,.bool true,.int 181 0,.ref 191,.none,.ref 192,.ref 193,.ref 194,.int 488 0,.int 260 0,.str "/claim/cut.py" 489],#[]⟩
noncomputable def zpO : Params -> Obj := fun P => ⟨.type "code",none,.fields #[.str "_replace" 307,.str "Match._replace" 308,.str "/claim/cut.py" 309,.int 41 0,.int 1 0,.int 1 0,.int 0 0,.int 11 0,.ref 94,.bool true,.int 181 0,.ref 95,.none,.ref 96,.ref 97,.ref 98,.int 314 0,.int 41 0,.str "/claim/cut.py" 315],#[]⟩
noncomputable def zmh : Params -> Obj := fun P => ⟨.type "tuple",none,.seq #[.str "self" 421,.str "a" 422,.str "b" 423] 0,#[]⟩
noncomputable def zmf : Params -> Obj := fun P => ⟨.type "tuple",none,.seq #[] 0,#[]⟩
noncomputable def zqa : Params -> Obj := fun P => ⟨.none,none,.fields #[],#[]⟩
noncomputable def zoX : Params -> Obj := fun P => ⟨.type "tuple",none,.seq #[] 0,#[]⟩
noncomputable def zru : Params -> Obj := fun P => ⟨.type "tuple",none,.seq #[] 0,#[]⟩
noncomputable def zqg : Params -> Obj := fun P => ⟨.type "builtin_function_or_method",none,.fields #[.builtin "type.__prepare__",.type "type"],#[]⟩
noncomputable def zmd : Params -> Obj := fun P => ⟨.type "code",none,.fields #[.str "b64encode" 611,.str "b64encode" 612,.str "/claim/cut.py" 613,.int 455 0,.int 2 0,.int 0 0,.int 0 0,.int 3 0,.ref 270,.bool true,.int 181 0,.ref 271,.none,.ref 272,.ref 273,.ref 274,.int 617 0,.int 455 0,.str "/claim/cut.py" 618],#[]⟩
noncomputable def zkx : Params -> Obj := fun P => ⟨.type "tuple",none,.seq #[.int 3 526] 0,#[]⟩
noncomputable def zlX : Params -> Obj := fun P => ⟨.type "tuple",none,.seq #[] 0,#[]⟩
noncomputable def zq7 : Params -> Obj := fun P => ⟨.none,none,.func ⟨"set_seq2","SequenceMatcher.set_seq2",⟨[],[⟨"self",none,⟨209,17,209,21⟩⟩,⟨"b",none,⟨209,23,209,24⟩⟩],none,[],[],none,[]⟩,FuncBody.stmts (mb 5 4),⟨.function,[("self",.local),("b",.local)],false,false,[]⟩,0,[],.none,.none,.none,.none,none,.none,.none,0⟩,#[]⟩
noncomputable def zmI : Params -> Obj := fun P => ⟨.type "function",none,.func ⟨"_law_runs","_law_runs",⟨[],[⟨"alike",none,⟨528,14,528,19⟩⟩,⟨"move",none,⟨528,21,528,25⟩⟩],none,[],[],none,[]⟩,FuncBody.stmts (bd 19),⟨.function,[("alike",.local),("move",.local),("runs",.local),("start",.local),("size",.local)],false,false,[]⟩,3,[],.none,.none,.none,.str "law_rt0114_02" 638,none,.ref 306,.none,0⟩,#[]⟩
noncomputable def zlb : Params -> Obj := fun P => ⟨.type "getset_descriptor",none,.fields #[.str "__dict__" 569,.ref 242,.builtin "function.__dict__",.builtin "function.__dict__#set"],#[]⟩
noncomputable def bo_19 : Params -> Obj := fun P => ⟨.type "code",none,.fields #[.str "_tuplegetter" 198,.str "_tuplegetter" 199,.str "/claim/cut.py" 200,.int 5 0,.int 0 0,.int 0 0,.int 0 0,.int 0 0,.ref 25,.bool false,.int 181 0,.ref 26,.none,.none,.none,.none,.int 201 0,.int 5 0,.str "/claim/cut.py" 202],#[]⟩
noncomputable def zqq : Params -> Obj := fun P => ⟨.type "function",none,.func ⟨"__get__","_tuplegetter.__get__",⟨[],[⟨"self",none,⟨11,16,11,20⟩⟩,⟨"obj",none,⟨11,22,11,25⟩⟩,⟨"objtype",none,⟨11,27,11,34⟩⟩],none,[],[],none,[Expr.Constant Const.none 0 ⟨11,35,11,39⟩]⟩,FuncBody.stmts (mb 2 1),⟨.function,[("self",.local),("obj",.local),("objtype",.local),("issubclass",.globalImplicit),("type",.globalImplicit),("tuple",.globalImplicit),("_wall",.globalImplicit)],false,false,[]⟩,3,[],.ref 36,.none,.none,.str "cpy313.difflib" 194,none,.ref 42,.none,0⟩,#[]⟩
noncomputable def zrI : Params -> Obj := fun P => ⟨.type "dict",none,.dict #[] 0,#[]⟩
noncomputable def zkk : Params -> Obj := fun P => ⟨.type "tuple",none,.seq #[] 0,#[]⟩
noncomputable def zkp : Params -> Obj := fun P => ⟨.type "code",none,.fields #[.str "b2a_base64" 596,.str "b2a_base64" 597,.str "/claim/cut.py" 598,.int 432 0,.int 1 0,.int 1 0,.int 1 0,.int 3 0,.ref 262,.bool true,.int 181 0,.ref 263,.none,.ref 264,.ref 265,.ref 266,.int 606 0,.int 432 0,.str "/claim/cut.py" 607],#[]⟩
noncomputable def zl8 : Params -> Obj := fun P => ⟨.type "function",none,.func ⟨"get_matching_blocks","SequenceMatcher.get_matching_blocks",⟨[],[⟨"self",none,⟨335,28,335,32⟩⟩],none,[],[],none,[]⟩,FuncBody.stmts (mb 5 7),⟨.function,[("self",.local),("la",.local),("lb",.local),("queue",.local),("matching_blocks",.local),("alo",.local),("ahi",.local),("blo",.local),("bhi",.local),("i",.local),("j",.local),("k",.local),("x",.local),("i1",.local),("j1",.local),("k1",.local),("non_adjacent",.local),("i2",.local),("j2",.local),("k2",.local),("len",.globalImplicit),("list",.globalImplicit),("map",.globalImplicit),("Match",.globalImplicit)],false,false,[]⟩,3,[],.none,.none,.str (docS (mb 5 7)) 517,.str "cpy313.difflib" 194,none,.ref 202,.none,0⟩,#[]⟩
noncomputable def zmk : Params -> Obj := fun P => ⟨.type "function",none,.func ⟨"__repr__","Match.__repr__",⟨[],[⟨"self",none,⟨52,17,52,21⟩⟩],none,[],[],none,[]⟩,FuncBody.stmts (mb 3 8),⟨.function,[("self",.local)],false,false,[]⟩,3,[],.none,.none,.str (docS (mb 3 8)) 325,.str "cpy313.difflib" 194,none,.ref 106,.none,0⟩,#[]⟩
noncomputable def zkS : Params -> Obj := fun P => ⟨.type "tuple",none,.seq #[] 0,#[]⟩
noncomputable def zk1 : Params -> Obj := fun P => ⟨.type "code",none,.fields #[.str "_law_alike" 655,.str "_law_alike" 656,.str "/claim/cut.py" 657,.int 518 0,.int 5 0,.int 0 0,.int 0 0,.int 3 0,.ref 296,.bool true,.int 181 0,.ref 297,.none,.none,.none,.ref 298,.int 658 0,.int 518 0,.str "/claim/cut.py" 659],#[]⟩
noncomputable def zmU : Params -> Obj := fun P => ⟨.type "tuple",none,.seq #[.str "self" 554] 0,#[]⟩
noncomputable def zoI : Params -> Obj := fun P => ⟨.type "dict",none,.dict #[dE P "__module__" 203 (.str "cpy313.difflib" 194),dE P "__firstlineno__" 207 (.int 5 206),dE P "__init__" 216 (.ref 35),dE P "__get__" 225 (.ref 43),dE P "__set__" 234 (.ref 50),dE P "__delete__" 242 (.ref 57),dE P "__static_attributes__" 245 (.ref 58),dE P "__dict__" 247 (.ref 61),dE P "__weakref__" 249 (.ref 62),dE P "__doc__" 250 .none] 4,#[]⟩
noncomputable def zo8 : Params -> Obj := fun P => ⟨.type "classmethod",some 90,.fields #[.ref 89,.bool false],#[]⟩
noncomputable def zpZ : Params -> Obj := fun P => ⟨.none,none,.fields #[],#[]⟩
noncomputable def zm9 : Params -> Obj := fun P => ⟨.type "function",none,.func ⟨"sorted_list_difference","sorted_list_difference",⟨[],[⟨"expected",none,⟨468,27,468,35⟩⟩,⟨"actual",none,⟨468,37,468,43⟩⟩],none,[],[],none,[]⟩,FuncBody.stmts (bd 14),⟨.function,[("expected",.local),("actual",.local),("i",.local),("j",.local),("missing",.local),("unexpected",.local),("e",.local),("a",.local),("IndexError",.globalImplicit)],false,false,[]⟩,3,[],.none,.none,.str (docS (bd 14)) 636,.str "cpy313.unittest.util" 621,none,.ref 282,.none,0⟩,#[]⟩
noncomputable def zlz : Params -> Obj := fun P => ⟨.type "tuple",none,.seq #[] 0,#[]⟩
noncomputable def zmy : Params -> Obj := fun P => ⟨.type "dict",none,.dict #[dE P "index" 352 (.int 0 346),dE P "__doc__" 354 (.str "Alias for field number 0" 347)] 2,#[]⟩
noncomputable def zmX : Params -> Obj := fun P => ⟨.type "code",none,.fields #[.str "__chain_b" 446,.str "SequenceMatcher.__chain_b" 447,.str "/claim/cut.py" 448,.int 236 0,.int 1 0,.int 0 0,.int 0 0,.int 3 0,.ref 182,.bool true,.int 181 0,.ref 183,.none,.ref 184,.ref 185,.ref 186,.int 461 0,.int 236 0,.str "/claim/cut.py" 462],#[]⟩
noncomputable def zqD : Params -> Obj := fun P => ⟨.none,none,.func ⟨"law","law",⟨[],[⟨"script",none,⟨543,8,543,14⟩⟩],none,[],[],none,[]⟩,FuncBody.stmts (bd 21),⟨.function,[("script",.local),("one",.local),("two",.local),("first",.cell),("second",.cell),("over",.local),("runs",.local),("move",.cell),("under",.local),("alike",.cell),("missing",.local),("unexpected",.local),("there",.local),("back",.local),("bytes",.globalImplicit),("b64encode",.globalImplicit),("_law_written",.globalImplicit),("list",.globalImplicit),("range",.globalImplicit),("len",.globalImplicit),("_law_alike",.globalImplicit),("_law_number",.globalImplicit),("sorted_list_difference",.globalImplicit),("_law_runs",.globalImplicit),("SequenceMatcher",.globalImplicit),("_law_blocks",.globalImplicit)],false,false,[("fast",Const.str "script"),("fast",Const.str "x"),("fast",Const.str "one"),("fast",Const.str "two"),("fast",Const.str "first"),("fast",Const.str "second"),("fast",Const.str "i"),("fast",Const.str "over"),("fast",Const.str "runs"),("fast",Const.str "move"),("fast",Const.str "j"),("fast",Const.str "under"),("fast",Const.str "alike"),("fast",Const.str "missing"),("fast",Const.str "unexpected"),("fast",Const.str "pair"),("fast",Const.str "there"),("fast",Const.str "back"),("fast",Const.str "block"),("fast",Const.str "less")]⟩,0,[],.none,.none,.none,.none,none,.none,.none,0⟩,#[]⟩
noncomputable def zoJ : Params -> Obj := fun P => ⟨.none,none,.func ⟨"_buffer","_buffer",⟨[],[⟨"data",none,⟨419,12,419,16⟩⟩],none,[],[],none,[]⟩,FuncBody.stmts (bd 7),⟨.function,[("data",.local),("t",.local),("type",.globalImplicit),("bytes",.globalImplicit),("bytearray",.globalImplicit),("_wall",.globalImplicit)],false,false,[]⟩,0,[],.none,.none,.none,.none,none,.none,.none,0⟩,#[]⟩
noncomputable def bo_9 : Params -> Obj := fun P => ⟨.type "tuple",none,.seq #[.str "k" 190] 0,#[]⟩
noncomputable def bo_25 : Params -> Obj := fun P => ⟨.none,none,.func ⟨"__init__","_tuplegetter.__init__",⟨[],[⟨"self",none,⟨7,17,7,21⟩⟩,⟨"index",none,⟨7,23,7,28⟩⟩,⟨"doc",none,⟨7,30,7,33⟩⟩],none,[],[],none,[]⟩,FuncBody.stmts (mb 2 0),⟨.function,[("self",.local),("index",.local),("doc",.local)],false,false,[]⟩,0,[],.none,.none,.none,.none,none,.none,.none,0⟩,#[]⟩
noncomputable def zpW : Params -> Obj := fun P => ⟨.type "tuple",none,.seq #[.type "tuple"] 0,#[]⟩
noncomputable def zla : Params -> Obj := fun P => ⟨.type "dict",none,.dict #[dE P "index" 372 (.int 2 366),dE P "__doc__" 374 (.str "Alias for field number 2" 367)] 2,#[]⟩
noncomputable def zmA : Params -> Obj := fun P => ⟨.type "tuple",none,.seq #[] 0,#[]⟩
noncomputable def zkF : Params -> Obj := fun P => ⟨.type "tuple",none,.seq #[] 0,#[]⟩
noncomputable def zqv : Params -> Obj := fun P => ⟨.type "tuple",none,.seq #[] 0,#[]⟩
noncomputable def zmS : Params -> Obj := fun P => ⟨.type "tuple",none,.seq #[] 0,#[]⟩
noncomputable def zlr : Params -> Obj := fun P => ⟨.type "code",none,.fields #[.str "_law_number" 640,.str "_law_number" 641,.str "/claim/cut.py" 642,.int 508 0,.int 1 0,.int 0 0,.int 0 0,.int 3 0,.ref 284,.bool true,.int 181 0,.ref 285,.none,.ref 286,.ref 287,.ref 288,.int 646 0,.int 508 0,.str "/claim/cut.py" 647],#[]⟩
noncomputable def znc : Params -> Obj := fun P => ⟨.type "function",none,.func ⟨"ratio","SequenceMatcher.ratio",⟨[],[⟨"self",none,⟨389,14,389,18⟩⟩],none,[],[],none,[]⟩,FuncBody.stmts (mb 5 10),⟨.function,[("self",.local),("matches",.local),("sum",.globalImplicit),("_calculate_ratio",.globalImplicit),("len",.globalImplicit)],false,false,[]⟩,3,[],.none,.none,.str (docS (mb 5 10)) 542,.str "cpy313.difflib" 194,none,.ref 224,.none,0⟩,#[]⟩
noncomputable def zqQ : Params -> Obj := fun P => ⟨.type "code",none,.fields #[.str "__set__" 226,.str "_tuplegetter.__set__" 227,.str "/claim/cut.py" 228,.int 18 0,.int 3 0,.int 0 0,.int 0 0,.int 3 0,.ref 44,.bool true,.int 181 0,.ref 45,.none,.ref 46,.ref 47,.ref 48,.int 232 0,.int 18 0,.str "/claim/cut.py" 233],#[]⟩
noncomputable def zro : Params -> Obj := fun P => ⟨.type "code",none,.fields #[.str "__new__" 274,.str "Match.__new__" 275,.str "/claim/cut.py" 276,.int 29 0,.int 4 0,.int 0 0,.int 0 0,.int 3 0,.ref 76,.bool true,.int 181 0,.ref 77,.none,.ref 78,.ref 79,.ref 80,.int 281 0,.int 29 0,.str "/claim/cut.py" 282],#[]⟩
noncomputable def zlw : Params -> Obj := fun P => ⟨.type "function",none,.func ⟨"_calculate_ratio","_calculate_ratio",⟨[],[⟨"matches",none,⟨66,21,66,28⟩⟩,⟨"length",none,⟨66,30,66,36⟩⟩],none,[],[],none,[]⟩,FuncBody.stmts (bd 4),⟨.function,[("matches",.local),("length",.local)],false,false,[]⟩,3,[],.none,.none,.none,.str "cpy313.difflib" 194,none,.ref 144,.none,0⟩,#[]⟩
noncomputable def zmm : Params -> Obj := fun P => ⟨.type "tuple",none,.seq #[] 0,#[]⟩
noncomputable def zm3 : Params -> Obj := fun P => ⟨.type "code",none,.fields #[.str "get_opcodes" 519,.str "SequenceMatcher.get_opcodes" 520,.str "/claim/cut.py" 521,.int 383 0,.int 1 0,.int 0 0,.int 0 0,.int 3 0,.ref 204,.bool true,.int 181 0,.ref 205,.none,.ref 206,.ref 207,.ref 208,.int 523 0,.int 383 0,.str "/claim/cut.py" 524],#[]⟩
noncomputable def zmP : Params -> Obj := fun P => ⟨.type "code",none,.fields #[.str "_asdict" 327,.str "Match._asdict" 328,.str "/claim/cut.py" 329,.int 56 0,.int 1 0,.int 0 0,.int 0 0,.int 3 0,.ref 108,.bool true,.int 181 0,.ref 109,.none,.ref 110,.ref 111,.ref 112,.int 331 0,.int 56 0,.str "/claim/cut.py" 332],#[]⟩
noncomputable def zl0 : Params -> Obj := fun P => ⟨.type "tuple",none,.seq #[.str "self" 440,.str "b" 441] 0,#[]⟩
noncomputable def zoL : Params -> Obj := fun P => ⟨.none,none,.func ⟨"_law_runs","_law_runs",⟨[],[⟨"alike",none,⟨528,14,528,19⟩⟩,⟨"move",none,⟨528,21,528,25⟩⟩],none,[],[],none,[]⟩,FuncBody.stmts (bd 19),⟨.function,[("alike",.local),("move",.local),("runs",.local),("start",.local),("size",.local)],false,false,[]⟩,0,[],.none,.none,.none,.none,none,.none,.none,0⟩,#[]⟩
noncomputable def zmi : Params -> Obj := fun P => ⟨.type "dict",none,.dict #[dE P "__module__" 396 (.str "cpy313.difflib" 194),dE P "__firstlineno__" 400 (.int 70 399),dE P "__doc__" 402 zrb,dE P "__init__" 417 (.ref 160),dE P "set_seqs" 427 (.ref 167),dE P "set_seq1" 436 (.ref 174),dE P "set_seq2" 445 (.ref 181),dE P "_SequenceMatcher__chain_b" 463 (.ref 188),dE P "find_longest_match" 491 (.ref 196),dE P "get_matching_blocks" 518 (.ref 203),dE P "get_opcodes" 525 (.ref 210),dE P "get_grouped_opcodes" 534 (.ref 218),dE P "ratio" 543 (.ref 225),dE P "quick_ratio" 550 (.ref 232),dE P "real_quick_ratio" 557 (.ref 239),dE P "__static_attributes__" 568 (.ref 240),dE P "__dict__" 570 (.ref 243),dE P "__weakref__" 572 (.ref 244)] 3,#[]⟩
noncomputable def bo_17 : Params -> Obj := fun P => ⟨.type "tuple",none,.seq #[] 0,#[]⟩
noncomputable def bo_33 : Params -> Obj := fun P => ⟨.none,none,.func ⟨"__get__","_tuplegetter.__get__",⟨[],[⟨"self",none,⟨11,16,11,20⟩⟩,⟨"obj",none,⟨11,22,11,25⟩⟩,⟨"objtype",none,⟨11,27,11,34⟩⟩],none,[],[],none,[Expr.Constant Const.none 0 ⟨11,35,11,39⟩]⟩,FuncBody.stmts (mb 2 1),⟨.function,[("self",.local),("obj",.local),("objtype",.local),("issubclass",.globalImplicit),("type",.globalImplicit),("tuple",.globalImplicit),("_wall",.globalImplicit)],false,false,[]⟩,0,[],.none,.none,.none,.none,none,.none,.none,0⟩,#[]⟩
noncomputable def zqP : Params -> Obj := fun P => ⟨.type "tuple",none,.seq #[] 0,#[]⟩
noncomputable def zoZ : Params -> Obj := fun P => ⟨.type "super",none,.fields #[.ref 135,.ref 135,.ref 135],#[]⟩
noncomputable def zl9 : Params -> Obj := fun P => ⟨.type "tuple",none,.seq #[] 0,#[]⟩
noncomputable def zrJ : Params -> Obj := fun P => ⟨.none,none,.func ⟨"get_matching_blocks","SequenceMatcher.get_matching_blocks",⟨[],[⟨"self",none,⟨335,28,335,32⟩⟩],none,[],[],none,[]⟩,FuncBody.stmts (mb 5 7),⟨.function,[("self",.local),("la",.local),("lb",.local),("queue",.local),("matching_blocks",.local),("alo",.local),("ahi",.local),("blo",.local),("bhi",.local),("i",.local),("j",.local),("k",.local),("x",.local),("i1",.local),("j1",.local),("k1",.local),("non_adjacent",.local),("i2",.local),("j2",.local),("k2",.local),("len",.globalImplicit),("list",.globalImplicit),("map",.globalImplicit),("Match",.globalImplicit)],false,false,[]⟩,0,[],.none,.none,.none,.none,none,.none,.none,0⟩,#[]⟩
noncomputable def zoG : Params -> Obj := fun P => ⟨.none,none,.func ⟨"__repr__","Match.__repr__",⟨[],[⟨"self",none,⟨52,17,52,21⟩⟩],none,[],[],none,[]⟩,FuncBody.stmts (mb 3 8),⟨.function,[("self",.local)],false,false,[]⟩,0,[],.none,.none,.none,.none,none,.none,.none,0⟩,#[]⟩
noncomputable def zp3 : Params -> Obj := fun P => ⟨.none,none,.fields #[],#[]⟩
noncomputable def zrr : Params -> Obj := fun P => ⟨.none,none,.fields #[],#[]⟩
noncomputable def zlF : Params -> Obj := fun P => ⟨.type "tuple",none,.seq #[] 0,#[]⟩
noncomputable def zrl : Params -> Obj := fun P => ⟨.type "function",none,.func ⟨"__delete__","_tuplegetter.__delete__",⟨[],[⟨"self",none,⟨21,19,21,23⟩⟩,⟨"obj",none,⟨21,25,21,28⟩⟩],none,[],[],none,[]⟩,FuncBody.stmts (mb 2 3),⟨.function,[("self",.local),("obj",.local),("AttributeError",.globalImplicit)],false,false,[]⟩,3,[],.none,.none,.none,.str "cpy313.difflib" 194,none,.ref 56,.none,0⟩,#[]⟩
noncomputable def zpX : Params -> Obj := fun P => ⟨.type "function",none,.func ⟨"_make","Match._make",⟨[],[⟨"cls",none,⟨34,14,34,17⟩⟩,⟨"iterable",none,⟨34,19,34,27⟩⟩],none,[],[],none,[]⟩,FuncBody.stmts (mb 3 5),⟨.function,[("cls",.local),("iterable",.local),("result",.local),("tuple",.globalImplicit),("len",.globalImplicit),("TypeError",.globalImplicit)],false,false,[]⟩,3,[],.none,.none,.str (docS (mb 3 5)) 293,.str "cpy313.difflib" 194,some 92,.ref 88,.none,0⟩,#[]⟩
noncomputable def zkC : Params -> Obj := fun P => ⟨.type "tuple",none,.seq #[.none,.str "" 404,.str "" 405,.bool true] 0,#[]⟩
noncomputable def zpw : Params -> Obj := fun P => ⟨.none,none,.func ⟨"sorted_list_difference","sorted_list_difference",⟨[],[⟨"expected",none,⟨468,27,468,35⟩⟩,⟨"actual",none,⟨468,37,468,43⟩⟩],none,[],[],none,[]⟩,FuncBody.stmts (bd 14),⟨.function,[("expected",.local),("actual",.local),("i",.local),("j",.local),("missing",.local),("unexpected",.local),("e",.local),("a",.local),("IndexError",.globalImplicit)],false,false,[]⟩,0,[],.none,.none,.none,.none,none,.none,.none,0⟩,#[]⟩
noncomputable def zl7 : Params -> Obj := fun P => ⟨.type "code",none,.fields #[.str "get_grouped_opcodes" 527,.str "SequenceMatcher.get_grouped_opcodes" 528,.str "/claim/cut.py" 529,.int 386 0,.int 2 0,.int 0 0,.int 0 0,.int 3 0,.ref 212,.bool true,.int 181 0,.ref 213,.none,.ref 214,.ref 215,.ref 216,.int 532 0,.int 386 0,.str "/claim/cut.py" 533],#[]⟩
noncomputable def zmW : Params -> Obj := fun P => ⟨.type "function",none,.func ⟨"__getnewargs__","Match.__getnewargs__",⟨[],[⟨"self",none,⟨59,23,59,27⟩⟩],none,[],[],none,[]⟩,FuncBody.stmts (mb 3 10),⟨.function,[("self",.local),("tuple",.globalImplicit)],false,false,[]⟩,3,[],.none,.none,.str (docS (mb 3 10)) 340,.str "cpy313.difflib" 194,none,.ref 120,.none,0⟩,#[]⟩
noncomputable def zlo : Params -> Obj := fun P => ⟨.type "tuple",none,.seq #[] 0,#[]⟩
noncomputable def zlU : Params -> Obj := fun P => ⟨.type "tuple",none,.seq #[] 0,#[]⟩
noncomputable def zlT : Params -> Obj := fun P => ⟨.type "tuple",none,.seq #[.str "data" 580,.str "t" 581] 0,#[]⟩
noncomputable def bo_3 : Params -> Obj := fun P => ⟨.type "code",none,.fields #[.str "<module>" 182,.str "<module>" 183,.str "/claim/cut.py" 184,.int 1 0,.int 0 0,.int 0 0,.int 0 0,.int 0 0,.ref 11,.bool false,.int 181 0,.ref 12,.none,.none,.none,.none,.int 185 0,.int 1 0,.str "/claim/cut.py" 186],#[]⟩
noncomputable def zpF : Params -> Obj := fun P => ⟨.type "function",none,.func ⟨"_wall","_wall",⟨[],[⟨"k",none,⟨1,10,1,11⟩⟩],none,[],[],none,[]⟩,FuncBody.stmts (bd 0),⟨.function,[("k",.local)],false,false,[]⟩,3,[],.none,.none,.none,.str "__main__" 164,none,.ref 20,.none,0⟩,#[]⟩
noncomputable def zpu : Params -> Obj := fun P => ⟨.type "tuple",none,.seq #[] 0,#[]⟩
noncomputable def bo_64 : Params -> Obj := fun P => ⟨.type "tuple",none,.seq #[] 0,#[]⟩
noncomputable def zqW : Params -> Obj := fun P => ⟨.type "list",none,.seq #[] 0,#[]⟩
noncomputable def zmg : Params -> Obj := fun P => ⟨.type "dict",none,.dict #[dE P "newline" 595 (.bool true)] 1,#[]⟩
noncomputable def zmM : Params -> Obj := fun P => ⟨.type "tuple",none,.seq #[] 0,#[]⟩
noncomputable def zoO : Params -> Obj := fun P => ⟨.type "tuple",none,.seq #[] 0,#[]⟩
noncomputable def zqx : Params -> Obj := fun P => ⟨.none,none,.func ⟨"set_seqs","SequenceMatcher.set_seqs",⟨[],[⟨"self",none,⟨173,17,173,21⟩⟩,⟨"a",none,⟨173,23,173,24⟩⟩,⟨"b",none,⟨173,26,173,27⟩⟩],none,[],[],none,[]⟩,FuncBody.stmts (mb 5 2),⟨.function,[("self",.local),("a",.local),("b",.local)],false,false,[]⟩,0,[],.none,.none,.none,.none,none,.none,.none,0⟩,#[]⟩
noncomputable def zpy : Params -> Obj := fun P => ⟨.none,none,.func ⟨"_law_written","_law_written",⟨[],[⟨"row",none,⟨513,17,513,20⟩⟩],none,[],[],none,[]⟩,FuncBody.stmts (bd 17),⟨.function,[("row",.cell),("alphabet",.cell),("count",.cell),("signs",.local),("len",.globalImplicit),("range",.globalImplicit),("bytes",.globalImplicit)],false,false,[("fast",Const.str "row"),("fast",Const.str "alphabet"),("fast",Const.str "count"),("fast",Const.str "k"),("fast",Const.str "signs")]⟩,0,[],.none,.none,.none,.none,none,.none,.none,0⟩,#[]⟩
noncomputable def zkj : Params -> Obj := fun P => ⟨.type "tuple",none,.seq #[] 0,#[]⟩
noncomputable def zp5 : Params -> Obj := fun P => ⟨.type "tuple",none,.seq #[.str "self" 238,.str "obj" 239] 0,#[]⟩
noncomputable def zoK : Params -> Obj := fun P => ⟨.type "tuple",none,.seq #[.str "cls" 288,.str "iterable" 289,.str "result" 290] 0,#[]⟩
noncomputable def zpd : Params -> Obj := fun P => ⟨.type "tuple",none,.seq #[] 0,#[]⟩
noncomputable def zls : Params -> Obj := fun P => ⟨.type "tuple",none,.seq #[] 0,#[]⟩
noncomputable def zrg : Params -> Obj := fun P => ⟨.none,none,.fields #[],#[]⟩
noncomputable def zl4 : Params -> Obj := fun P => ⟨.type "tuple",none,.seq #[.str "self" 337] 0,#[]⟩
noncomputable def zlk : Params -> Obj := fun P => ⟨.type "function",none,.func ⟨"set_seq2","SequenceMatcher.set_seq2",⟨[],[⟨"self",none,⟨209,17,209,21⟩⟩,⟨"b",none,⟨209,23,209,24⟩⟩],none,[],[],none,[]⟩,FuncBody.stmts (mb 5 4),⟨.function,[("self",.local),("b",.local)],false,false,[]⟩,3,[],.none,.none,.str (docS (mb 5 4)) 444,.str "cpy313.difflib" 194,none,.ref 180,.none,0⟩,#[]⟩
noncomputable def zqc : Params -> Obj := fun P => ⟨.none,none,.fields #[],#[]⟩
noncomputable def zp4 : Params -> Obj := fun P => ⟨.type "super",none,.fields #[.ref 242,.ref 242,.ref 242],#[]⟩
noncomputable def zp8 : Params -> Obj := fun P => ⟨.type "tuple",none,.seq #[] 0,#[]⟩
noncomputable def bo_37 : Params -> Obj := fun P => ⟨.none,none,.fields #[],#[]⟩
noncomputable def bo_72 : Params -> Obj := fun P => ⟨.none,none,.fields #[],#[]⟩
noncomputable def zkD : Params -> Obj := fun P => ⟨.type "tuple",none,.seq #[.str "matches" 384,.str "length" 385] 0,#[]⟩
noncomputable def zmN : Params -> Obj := fun P => ⟨.type "tuple",none,.seq #[.none] 0,#[]⟩
noncomputable def zo5 : Params -> Obj := fun P => ⟨.none,none,.fields #[],#[]⟩
noncomputable def zqN : Params -> Obj := fun P => ⟨.none,none,.fields #[],#[]⟩
noncomputable def zkY : Params -> Obj := fun P => ⟨.type "code",none,.fields #[.str "set_seq1" 428,.str "SequenceMatcher.set_seq1" 429,.str "/claim/cut.py" 430,.int 184 0,.int 2 0,.int 0 0,.int 0 0,.int 3 0,.ref 168,.bool true,.int 181 0,.ref 169,.none,.ref 170,.ref 171,.ref 172,.int 433 0,.int 184 0,.str "/claim/cut.py" 434],#[]⟩
noncomputable def zkN : Params -> Obj := fun P => ⟨.type "tuple",none,.seq #[] 0,#[]⟩
noncomputable def zrA : Params -> Obj := fun P => ⟨.none,none,.func ⟨"real_quick_ratio","SequenceMatcher.real_quick_ratio",⟨[],[⟨"self",none,⟨416,25,416,29⟩⟩],none,[],[],none,[]⟩,FuncBody.stmts (mb 5 12),⟨.function,[("self",.local),("_wall",.globalImplicit)],false,false,[]⟩,0,[],.none,.none,.none,.none,none,.none,.none,0⟩,#[]⟩
noncomputable def zpD : Params -> Obj := fun P => ⟨.type "getset_descriptor",none,.fields #[.str "__dict__" 246,.ref 60,.builtin "function.__dict__",.builtin "function.__dict__#set"],#[]⟩
noncomputable def zrw : Params -> Obj := fun P => ⟨.type "tuple",none,.seq #[.ref 68] 0,#[]⟩
noncomputable def zlc : Params -> Obj := fun P => ⟨.type "tuple",none,.seq #[] 0,#[]⟩
noncomputable def zpn : Params -> Obj := fun P => ⟨.none,none,.fields #[],#[]⟩
noncomputable def zkQ : Params -> Obj := fun P => ⟨.type "tuple",none,.seq #[.str "self" 538,.str "matches" 539] 0,#[]⟩
noncomputable def zqB : Params -> Obj := fun P => ⟨.type "frame",none,.dict #[dE P "self" 348 (.ref 124),dE P "index" 349 (.int 0 346),dE P "doc" 350 (.str "Alias for field number 0" 347)] 3,#[]⟩
noncomputable def zlp : Params -> Obj := fun P => ⟨.type "tuple",none,.seq #[.int 0 464,.none,.int 0 465,.none] 0,#[]⟩
noncomputable def zk8 : Params -> Obj := fun P => ⟨.type "function",none,.func ⟨"law","law",⟨[],[⟨"script",none,⟨543,8,543,14⟩⟩],none,[],[],none,[]⟩,FuncBody.stmts (bd 21),⟨.function,[("script",.local),("one",.local),("two",.local),("first",.cell),("second",.cell),("over",.local),("runs",.local),("move",.cell),("under",.local),("alike",.cell),("missing",.local),("unexpected",.local),("there",.local),("back",.local),("bytes",.globalImplicit),("b64encode",.globalImplicit),("_law_written",.globalImplicit),("list",.globalImplicit),("range",.globalImplicit),("len",.globalImplicit),("_law_alike",.globalImplicit),("_law_number",.globalImplicit),("sorted_list_difference",.globalImplicit),("_law_runs",.globalImplicit),("SequenceMatcher",.globalImplicit),("_law_blocks",.globalImplicit)],false,false,[("fast",Const.str "script"),("fast",Const.str "x"),("fast",Const.str "one"),("fast",Const.str "two"),("fast",Const.str "first"),("fast",Const.str "second"),("fast",Const.str "i"),("fast",Const.str "over"),("fast",Const.str "runs"),("fast",Const.str "move"),("fast",Const.str "j"),("fast",Const.str "under"),("fast",Const.str "alike"),("fast",Const.str "missing"),("fast",Const.str "unexpected"),("fast",Const.str "pair"),("fast",Const.str "there"),("fast",Const.str "back"),("fast",Const.str "block"),("fast",Const.str "less")]⟩,3,[],.none,.none,.none,.str "law_rt0114_02" 638,none,.ref 316,.none,0⟩,#[]⟩
noncomputable def zky : Params -> Obj := fun P => ⟨.type "function",none,.func ⟨"_buffer","_buffer",⟨[],[⟨"data",none,⟨419,12,419,16⟩⟩],none,[],[],none,[]⟩,FuncBody.stmts (bd 7),⟨.function,[("data",.local),("t",.local),("type",.globalImplicit),("bytes",.globalImplicit),("bytearray",.globalImplicit),("_wall",.globalImplicit)],false,false,[]⟩,3,[],.none,.none,.none,.str "binascii" 575,none,.ref 252,.none,0⟩,#[]⟩
noncomputable def bo_8 : Params -> Obj := fun P => ⟨.none,none,.fields #[],#[]⟩
noncomputable def zrH : Params -> Obj := fun P => ⟨.type "tuple",none,.seq #[] 0,#[]⟩
noncomputable def bo_56 : Params -> Obj := fun P => ⟨.type "builtin_function_or_method",none,.fields #[.builtin "object.__init_subclass__",.ref 60],#[]⟩
noncomputable def zpz : Params -> Obj := fun P => ⟨.type "frame",none,.dict #[dE P "self" 358 (.ref 127),dE P "index" 359 (.int 1 356),dE P "doc" 360 (.str "Alias for field number 1" 357)] 3,#[]⟩
noncomputable def zkA : Params -> Obj := fun P => ⟨.type "tuple",none,.seq #[.str "x" 588,.str "t" 589] 0,#[]⟩
noncomputable def zkg : Params -> Obj := fun P => ⟨.type "tuple",none,.seq #[.str "self" 469,.str "alo" 470,.str "ahi" 471,.str "blo" 472,.str "bhi" 473,.str "a" 474,.str "b" 475,.str "b2j" 476,.str "isbjunk" 477,.str "besti" 478,.str "bestj" 479,.str "bestsize" 480,.str "j2len" 481,.str "nothing" 482,.str "i" 483,.str "j2lenget" 484,.str "newj2len" 485,.str "j" 486,.str "k" 487] 0,#[]⟩
noncomputable def zq2 : Params -> Obj := fun P => ⟨.type "tuple",none,.seq #[.str "self" 311,.str "kwds" 312,.str "result" 313] 0,#[]⟩
noncomputable def zmB : Params -> Obj := fun P => ⟨.type "function",none,.func ⟨"__init__","SequenceMatcher.__init__",⟨[],[⟨"self",none,⟨145,17,145,21⟩⟩,⟨"isjunk",none,⟨145,23,145,29⟩⟩,⟨"a",none,⟨145,36,145,37⟩⟩,⟨"b",none,⟨145,42,145,43⟩⟩,⟨"autojunk",none,⟨145,48,145,56⟩⟩],none,[],[],none,[Expr.Constant Const.none 0 ⟨145,30,145,34⟩,Expr.Constant (Const.str "") 0 ⟨145,38,145,40⟩,Expr.Constant (Const.str "") 0 ⟨145,44,145,46⟩,Expr.Constant (Const.bool true) 0 ⟨145,57,145,61⟩]⟩,FuncBody.stmts (mb 5 1),⟨.function,[("self",.local),("isjunk",.local),("a",.local),("b",.local),("autojunk",.local)],false,false,[]⟩,3,[],.ref 153,.none,.str (docS (mb 5 1)) 416,.str "cpy313.difflib" 194,none,.ref 159,.none,0⟩,#[]⟩
noncomputable def zqy : Params -> Obj := fun P => ⟨.none,none,.func ⟨"_law_number","_law_number",⟨[],[⟨"row",none,⟨508,16,508,19⟩⟩],none,[],[],none,[]⟩,FuncBody.stmts (bd 16),⟨.function,[("row",.local),("number",.local),("octet",.local),("len",.globalImplicit)],false,false,[]⟩,0,[],.none,.none,.none,.none,none,.none,.none,0⟩,#[]⟩
noncomputable def zlx : Params -> Obj := fun P => ⟨.type "code",none,.fields #[.str "ratio" 535,.str "SequenceMatcher.ratio" 536,.str "/claim/cut.py" 537,.int 389 0,.int 1 0,.int 0 0,.int 0 0,.int 3 0,.ref 219,.bool true,.int 181 0,.ref 220,.none,.ref 221,.ref 222,.ref 223,.int 540 0,.int 389 0,.str "/claim/cut.py" 541],#[]⟩
noncomputable def bo_40 : Params -> Obj := fun P => ⟨.none,none,.func ⟨"__set__","_tuplegetter.__set__",⟨[],[⟨"self",none,⟨18,16,18,20⟩⟩,⟨"obj",none,⟨18,22,18,25⟩⟩,⟨"value",none,⟨18,27,18,32⟩⟩],none,[],[],none,[]⟩,FuncBody.stmts (mb 2 2),⟨.function,[("self",.local),("obj",.local),("value",.local),("AttributeError",.globalImplicit)],false,false,[]⟩,0,[],.none,.none,.none,.none,none,.none,.none,0⟩,#[]⟩
noncomputable def bo_75 : Params -> Obj := fun P => ⟨.none,none,.func ⟨"__new__","Match.__new__",⟨[],[⟨"_cls",none,⟨29,16,29,20⟩⟩,⟨"a",none,⟨29,22,29,23⟩⟩,⟨"b",none,⟨29,25,29,26⟩⟩,⟨"size",none,⟨29,28,29,32⟩⟩],none,[],[],none,[]⟩,FuncBody.stmts (mb 3 4),⟨.function,[("_cls",.local),("a",.local),("b",.local),("size",.local),("tuple",.globalImplicit)],false,false,[]⟩,0,[],.none,.none,.none,.none,none,.none,.none,0⟩,#[]⟩
noncomputable def zkW : Params -> Obj := fun P => ⟨.type "code",none,.fields #[.str "_calculate_ratio" 381,.str "_calculate_ratio" 382,.str "/claim/cut.py" 383,.int 66 0,.int 2 0,.int 0 0,.int 0 0,.int 3 0,.ref 139,.bool true,.int 181 0,.ref 140,.none,.ref 141,.ref 142,.ref 143,.int 386 0,.int 66 0,.str "/claim/cut.py" 387],#[]⟩
noncomputable def zlt : Params -> Obj := fun P => ⟨.type "tuple",none,.seq #[.str "s" 614,.str "altchars" 615,.str "encoded" 616] 0,#[]⟩
noncomputable def zrz : Params -> Obj := fun P => ⟨.none,none,.func ⟨"get_opcodes","SequenceMatcher.get_opcodes",⟨[],[⟨"self",none,⟨383,20,383,24⟩⟩],none,[],[],none,[]⟩,FuncBody.stmts (mb 5 8),⟨.function,[("self",.local),("_wall",.globalImplicit)],false,false,[]⟩,0,[],.none,.none,.none,.none,none,.none,.none,0⟩,#[]⟩
noncomputable def zqe : Params -> Obj := fun P => ⟨.none,none,.func ⟨"_asdict","Match._asdict",⟨[],[⟨"self",none,⟨56,16,56,20⟩⟩],none,[],[],none,[]⟩,FuncBody.stmts (mb 3 9),⟨.function,[("self",.local),("_wall",.globalImplicit)],false,false,[]⟩,0,[],.none,.none,.none,.none,none,.none,.none,0⟩,#[]⟩
noncomputable def zpP : Params -> Obj := fun P => ⟨.none,none,.fields #[],#[]⟩
noncomputable def zlI : Params -> Obj := fun P => ⟨.type "tuple",none,.seq #[] 0,#[]⟩
noncomputable def zme : Params -> Obj := fun P => ⟨.type "tuple",none,.seq #[.str "a" 558,.str "autojunk" 559,.str "b" 560,.str "b2j" 561,.str "bjunk" 562,.str "bpopular" 563,.str "fullbcount" 564,.str "isjunk" 565,.str "matching_blocks" 566,.str "opcodes" 567] 0,#[]⟩
noncomputable def bo_16 : Params -> Obj := fun P => ⟨.type "dict",none,.dict #[dE P "__module__" 203 (.str "cpy313.difflib" 194),dE P "__qualname__" 205 (.str "_tuplegetter" 204),dE P "__firstlineno__" 207 (.int 5 206),dE P "__init__" 216 (.ref 35),dE P "__get__" 225 (.ref 43),dE P "__set__" 234 (.ref 50),dE P "__delete__" 242 (.ref 57),dE P "__static_attributes__" 245 (.ref 58)] 8,#[]⟩
noncomputable def zqS : Params -> Obj := fun P => ⟨.type "tuple",none,.seq #[] 0,#[]⟩
noncomputable def bo_67 : Params -> Obj := fun P => ⟨.type "frame",none,.plain,#[some (.ref 71),some (.ref 3),some (.ref 67),none,some (.str "cpy313.difflib" 194),none,some (.ref 0)]⟩
noncomputable def zl5 : Params -> Obj := fun P => ⟨.type "staticmethod",none,.fields #[.ref 82],#[]⟩
noncomputable def zmv : Params -> Obj := fun P => ⟨.type "tuple",none,.seq #[.str "data" 599,.str "newline" 600,.str "bin_data" 601,.str "out" 602,.str "leftbits" 603,.str "leftchar" 604,.str "b" 605] 0,#[]⟩
noncomputable def zmG : Params -> Obj := fun P => ⟨.type "tuple",none,.seq #[] 0,#[]⟩
noncomputable def zqR : Params -> Obj := fun P => ⟨.type "tuple",none,.seq #[] 0,#[]⟩
noncomputable def zlJ : Params -> Obj := fun P => ⟨.type "tuple",none,.seq #[] 0,#[]⟩
noncomputable def zma : Params -> Obj := fun P => ⟨.type "tuple",none,.seq #[] 0,#[]⟩
noncomputable def zlv : Params -> Obj := fun P => ⟨.type "function",none,.func ⟨"quick_ratio","SequenceMatcher.quick_ratio",⟨[],[⟨"self",none,⟨413,20,413,24⟩⟩],none,[],[],none,[]⟩,FuncBody.stmts (mb 5 11),⟨.function,[("self",.local),("_wall",.globalImplicit)],false,false,[]⟩,3,[],.none,.none,.none,.str "cpy313.difflib" 194,none,.ref 231,.none,0⟩,#[]⟩
noncomputable def zrs : Params -> Obj := fun P => ⟨.type "code",none,.fields #[.str "__delete__" 235,.str "_tuplegetter.__delete__" 236,.str "/claim/cut.py" 237,.int 21 0,.int 2 0,.int 0 0,.int 0 0,.int 3 0,.ref 51,.bool true,.int 181 0,.ref 52,.none,.ref 53,.ref 54,.ref 55,.int 240 0,.int 21 0,.str "/claim/cut.py" 241],#[]⟩
noncomputable def zpo : Params -> Obj := fun P => ⟨.type "code",none,.fields #[.str "_make" 285,.str "Match._make" 286,.str "/claim/cut.py" 287,.int 33 0,.int 2 0,.int 0 0,.int 0 0,.int 3 0,.ref 83,.bool true,.int 181 0,.ref 84,.none,.ref 85,.ref 86,.ref 87,.int 291 0,.int 33 0,.str "/claim/cut.py" 292],#[]⟩
noncomputable def zrx : Params -> Obj := fun P => ⟨.type "frame",none,.plain,#[some (.ref 151),some (.ref 3),some (.ref 148),none,some (.str "cpy313.difflib" 194),none,some (.ref 0)]⟩
noncomputable def zlm : Params -> Obj := fun P => ⟨.type "tuple",none,.seq #[] 0,#[]⟩
noncomputable def zq8 : Params -> Obj := fun P => ⟨.none,none,.func ⟨"get_grouped_opcodes","SequenceMatcher.get_grouped_opcodes",⟨[],[⟨"self",none,⟨386,28,386,32⟩⟩,⟨"n",none,⟨386,34,386,35⟩⟩],none,[],[],none,[Expr.Constant (Const.int 3) 0 ⟨386,36,386,37⟩]⟩,FuncBody.stmts (mb 5 9),⟨.function,[("self",.local),("n",.local),("_wall",.globalImplicit)],false,false,[]⟩,0,[],.none,.none,.none,.none,none,.none,.none,0⟩,#[]⟩
noncomputable def zkK : Params -> Obj := fun P => ⟨.type "code",none,.fields #[.str "__getnewargs__" 334,.str "Match.__getnewargs__" 335,.str "/claim/cut.py" 336,.int 59 0,.int 1 0,.int 0 0,.int 0 0,.int 3 0,.ref 115,.bool true,.int 181 0,.ref 116,.none,.ref 117,.ref 118,.ref 119,.int 338 0,.int 59 0,.str "/claim/cut.py" 339],#[]⟩
noncomputable def zli : Params -> Obj := fun P => ⟨.type "tuple",none,.seq #[.str "self" 449,.str "b" 450,.str "b2j" 451,.str "i" 452,.str "elt" 453,.str "indices" 454,.str "junk" 455,.str "isjunk" 456,.str "popular" 457,.str "n" 458,.str "ntest" 459,.str "idxs" 460] 0,#[]⟩
noncomputable def zmJ : Params -> Obj := fun P => ⟨.type "function",none,.func ⟨"_law_blocks","_law_blocks",⟨[],[⟨"runs",none,⟨536,16,536,20⟩⟩,⟨"length",none,⟨536,22,536,28⟩⟩,⟨"width",none,⟨536,30,536,35⟩⟩],none,[],[],none,[]⟩,FuncBody.stmts (bd 20),⟨.function,[("runs",.local),("length",.local),("width",.local),("blocks",.local),("less",.cell),("i",.cell),("j",.cell),("near",.local),("sorted",.globalImplicit)],false,false,[("fast",Const.str "runs"),("fast",Const.str "length"),("fast",Const.str "width"),("fast",Const.str "blocks"),("fast",Const.str "less"),("fast",Const.str "i"),("fast",Const.str "j"),("fast",Const.str "block"),("fast",Const.str "near")]⟩,3,[],.none,.none,.none,.str "law_rt0114_02" 638,none,.ref 311,.none,0⟩,#[]⟩
noncomputable def zrd : Params -> Obj := fun P => ⟨.none,none,.fields #[],#[]⟩
noncomputable def zra : Params -> Obj := fun P => ⟨.none,none,.fields (List.toArray (.int 1 0::.int 0 0::.ref 20::.int 5 0::.int 0 0::.ref 27::.int 23 0::.int 0 0::.ref 71::.int 66 0::.int 0 0::.ref 144::.int 70 0::.int 0 0::.ref 151::.int 419 0::.int 0 0::.ref 252::.int 426 0::.int 0 0::.ref 259::.int 432 0::.int 0 0::.ref 267::.int 455 0::.int 0 0::.ref 275::.int 468 0::.int 0 0::.ref 282::.int 508 0::.int 0 0::.ref 289::.int 513 0::.int 0 0::.ref 294::.int 518 0::.int 0 0::.ref 299::.int 528 0::.int 0 0::.ref 306::.int 536 0::.int 0 0::.ref 311::.int 543 0::.int 0 0::.ref 316::[])),#[]⟩
noncomputable def zpN : Params -> Obj := fun P => ⟨.type "code",none,.fields #[.str "_wall" 187,.str "_wall" 188,.str "/claim/cut.py" 189,.int 1 0,.int 1 0,.int 0 0,.int 0 0,.int 3 0,.ref 15,.bool true,.int 181 0,.ref 16,.none,.ref 17,.ref 18,.ref 19,.int 191 0,.int 1 0,.str "/claim/cut.py" 192],#[]⟩
noncomputable def zqA : Params -> Obj := fun P => ⟨.type "tuple",none,.seq #[.none] 0,#[]⟩
noncomputable def zp0 : Params -> Obj := fun P => ⟨.type "cell",none,.cell (some (.ref 135)),#[]⟩
noncomputable def zlM : Params -> Obj := fun P => ⟨.type "tuple",none,.seq #[] 0,#[]⟩
noncomputable def zmn : Params -> Obj := fun P => ⟨.type "function",none,.func ⟨"_truth","_truth",⟨[],[⟨"x",none,⟨426,11,426,12⟩⟩],none,[],[],none,[]⟩,FuncBody.stmts (bd 8),⟨.function,[("x",.local),("t",.local),("type",.globalImplicit),("bool",.globalImplicit),("int",.globalImplicit),("float",.globalImplicit),("complex",.globalImplicit),("str",.globalImplicit),("bytes",.globalImplicit),("bytearray",.globalImplicit),("list",.globalImplicit),("tuple",.globalImplicit),("dict",.globalImplicit),("set",.globalImplicit),("frozenset",.globalImplicit),("range",.globalImplicit),("_wall",.globalImplicit)],false,false,[]⟩,3,[],.none,.none,.none,.str "binascii" 575,none,.ref 259,.none,0⟩,#[]⟩
noncomputable def zl6 : Params -> Obj := fun P => ⟨.type "function",none,.func ⟨"find_longest_match","SequenceMatcher.find_longest_match",⟨[],[⟨"self",none,⟨260,27,260,31⟩⟩,⟨"alo",none,⟨260,33,260,36⟩⟩,⟨"ahi",none,⟨260,40,260,43⟩⟩,⟨"blo",none,⟨260,50,260,53⟩⟩,⟨"bhi",none,⟨260,57,260,60⟩⟩],none,[],[],none,[Expr.Constant (Const.int 0) 0 ⟨260,37,260,38⟩,Expr.Constant Const.none 0 ⟨260,44,260,48⟩,Expr.Constant (Const.int 0) 0 ⟨260,54,260,55⟩,Expr.Constant Const.none 0 ⟨260,61,260,65⟩]⟩,FuncBody.stmts (mb 5 6),⟨.function,[("self",.local),("alo",.local),("ahi",.local),("blo",.local),("bhi",.local),("a",.local),("b",.local),("b2j",.local),("isbjunk",.local),("besti",.local),("bestj",.local),("bestsize",.local),("j2len",.local),("nothing",.local),("i",.local),("j2lenget",.local),("newj2len",.local),("j",.local),("k",.local),("len",.globalImplicit),("range",.globalImplicit),("Match",.globalImplicit)],false,false,[]⟩,3,[],.ref 189,.none,.str (docS (mb 5 6)) 490,.str "cpy313.difflib" 194,none,.ref 195,.none,0⟩,#[]⟩
noncomputable def zpL : Params -> Obj := fun P => ⟨.type "function",none,.func ⟨"_replace","Match._replace",⟨[⟨"self",none,⟨41,17,41,21⟩⟩],[],none,[],[],some ⟨"kwds",none,⟨41,28,41,32⟩⟩,[]⟩,FuncBody.stmts (mb 3 6),⟨.function,[("self",.local),("kwds",.local),("result",.local),("__class__",.free),("type",.globalImplicit),("tuple",.globalImplicit),("map",.globalImplicit),("TypeError",.globalImplicit),("list",.globalImplicit)],false,false,[]⟩,3,[("__class__",68)],.none,.none,.str (docS (mb 3 6)) 316,.str "cpy313.difflib" 194,none,.ref 99,.ref 93,0⟩,#[]⟩
noncomputable def zmD : Params -> Obj := fun P => ⟨.type "tuple",none,.seq #[] 0,#[]⟩
noncomputable def zrk : Params -> Obj := fun P => ⟨.none,none,.fields #[],#[]⟩
noncomputable def zlg : Params -> Obj := fun P => ⟨.type "tuple",none,.seq #[.str "self" 547] 0,#[]⟩
noncomputable def bo_44 : Params -> Obj := fun P => ⟨.none,none,.fields #[],#[]⟩
noncomputable def bo_79 : Params -> Obj := fun P => ⟨.none,none,.fields #[],#[]⟩
noncomputable def zrB : Params -> Obj := fun P => ⟨.type "dict",none,.dict #[dE P "__module__" 396 (.str "cpy313.difflib" 194),dE P "__qualname__" 398 (.str "SequenceMatcher" 397),dE P "__firstlineno__" 400 (.int 70 399),dE P "__doc__" 402 zrb,dE P "__init__" 417 (.ref 160),dE P "set_seqs" 427 (.ref 167),dE P "set_seq1" 436 (.ref 174),dE P "set_seq2" 445 (.ref 181),dE P "_SequenceMatcher__chain_b" 463 (.ref 188),dE P "find_longest_match" 491 (.ref 196),dE P "get_matching_blocks" 518 (.ref 203),dE P "get_opcodes" 525 (.ref 210),dE P "get_grouped_opcodes" 534 (.ref 218),dE P "ratio" 543 (.ref 225),dE P "quick_ratio" 550 (.ref 232),dE P "real_quick_ratio" 557 (.ref 239),dE P "__static_attributes__" 568 (.ref 240)] 17,#[]⟩
noncomputable def zkf : Params -> Obj := fun P => ⟨.type "function",none,.func ⟨"b64encode","b64encode",⟨[],[⟨"s",none,⟨455,14,455,15⟩⟩,⟨"altchars",none,⟨455,17,455,25⟩⟩],none,[],[],none,[Expr.Constant Const.none 0 ⟨455,26,455,30⟩]⟩,FuncBody.stmts (bd 12),⟨.function,[("s",.local),("altchars",.local),("encoded",.local),("b2a_base64",.globalImplicit),("len",.globalImplicit),("repr",.globalImplicit),("bytes",.globalImplicit)],false,false,[]⟩,3,[],.ref 269,.none,.str (docS (bd 12)) 619,.str "cpy313.base64" 609,none,.ref 275,.none,0⟩,#[]⟩
noncomputable def zmL : Params -> Obj := fun P => ⟨.type "tuple",none,.seq #[] 0,#[]⟩
noncomputable def zqJ : Params -> Obj := fun P => ⟨.none,none,.fields #[],#[]⟩
noncomputable def zk2 : Params -> Obj := fun P => ⟨.type "code",none,.fields #[.str "set_seq2" 437,.str "SequenceMatcher.set_seq2" 438,.str "/claim/cut.py" 439,.int 209 0,.int 2 0,.int 0 0,.int 0 0,.int 3 0,.ref 175,.bool true,.int 181 0,.ref 176,.none,.ref 177,.ref 178,.ref 179,.int 442 0,.int 209 0,.str "/claim/cut.py" 443],#[]⟩
noncomputable def zmj : Params -> Obj := fun P => ⟨.type "tuple",none,.seq #[] 0,#[]⟩
noncomputable def zlf : Params -> Obj := fun P => ⟨.type "getset_descriptor",none,.fields #[.str "__weakref__" 571,.ref 242,.builtin "ExceptionGroup.__weakref__",.none],#[]⟩
noncomputable def bo_20 : Params -> Obj := fun P => ⟨.type "frame",none,.plain,#[some (.ref 27),some (.ref 3),some (.ref 24),none,some (.str "cpy313.difflib" 194),none,some (.ref 0)]⟩
noncomputable def zpm : Params -> Obj := fun P => ⟨.type "tuple",none,.seq #[] 0,#[]⟩
noncomputable def zpI : Params -> Obj := fun P => ⟨.type "tuple",none,.seq #[] 0,#[]⟩
noncomputable def zo0 : Params -> Obj := fun P => ⟨.none,none,.fields #[],#[]⟩
noncomputable def zkw : Params -> Obj := fun P => ⟨.type "function",none,.func ⟨"b2a_base64","b2a_base64",⟨[⟨"data",none,⟨432,15,432,19⟩⟩],[],none,[⟨"newline",none,⟨432,27,432,34⟩⟩],[some (Expr.Constant (Const.bool true) 0 ⟨432,35,432,39⟩)],none,[]⟩,FuncBody.stmts (bd 10),⟨.function,[("data",.local),("newline",.local),("bin_data",.local),("out",.local),("leftbits",.local),("leftchar",.local),("b",.local),("_buffer",.globalImplicit),("_truth",.globalImplicit),("_B64",.globalImplicit),("bytes",.globalImplicit)],false,false,[]⟩,3,[],.none,.ref 261,.none,.str "binascii" 575,none,.ref 267,.none,0⟩,#[]⟩
noncomputable def zmK : Params -> Obj := fun P => ⟨.type "tuple",none,.seq #[] 0,#[]⟩
noncomputable def zm1 : Params -> Obj := fun P => ⟨.type "tuple",none,.seq #[] 0,#[]⟩
noncomputable def zqu : Params -> Obj := fun P => ⟨.none,none,.func ⟨"set_seq1","SequenceMatcher.set_seq1",⟨[],[⟨"self",none,⟨184,17,184,21⟩⟩,⟨"a",none,⟨184,23,184,24⟩⟩],none,[],[],none,[]⟩,FuncBody.stmts (mb 5 3),⟨.function,[("self",.local),("a",.local)],false,false,[]⟩,0,[],.none,.none,.none,.none,none,.none,.none,0⟩,#[]⟩
noncomputable def zmR : Params -> Obj := fun P => ⟨.type "function",none,.func ⟨"_law_alike","_law_alike",⟨[],[⟨"upper",none,⟨518,15,518,20⟩⟩,⟨"length",none,⟨518,22,518,28⟩⟩,⟨"lower",none,⟨518,30,518,35⟩⟩,⟨"width",none,⟨518,37,518,42⟩⟩,⟨"move",none,⟨518,44,518,48⟩⟩],none,[],[],none,[]⟩,FuncBody.stmts (bd 18),⟨.function,[("upper",.local),("length",.local),("lower",.local),("width",.local),("move",.local),("begin",.cell),("end",.local),("size",.local),("over",.local),("under",.local),("octets",.cell),("number",.cell),("told",.cell),("max",.globalImplicit),("min",.globalImplicit),("b64encode",.globalImplicit),("bytes",.globalImplicit),("range",.globalImplicit)],false,false,[("fast",Const.str "upper"),("fast",Const.str "length"),("fast",Const.str "lower"),("fast",Const.str "width"),("fast",Const.str "move"),("fast",Const.str "begin"),("fast",Const.str "end"),("fast",Const.str "size"),("fast",Const.str "over"),("fast",Const.str "under"),("fast",Const.str "octets"),("fast",Const.str "number"),("fast",Const.str "k"),("fast",Const.str "told")]⟩,3,[],.none,.none,.none,.str "law_rt0114_02" 638,none,.ref 299,.none,0⟩,#[]⟩
noncomputable def zkX : Params -> Obj := fun P => ⟨.type "tuple",none,.seq #[] 0,#[]⟩
noncomputable def zrD : Params -> Obj := fun P => ⟨.type "type",none,.cls ⟨"_tuplegetter",[.type "object"],[.ref 60,.type "object"],59,"_tuplegetter",true,[],[],false,none,false⟩,#[none,none,some (.str "_tuplegetter" 196),some (.str "_tuplegetter" 204),some (.builtin "object.__new__"),some (.bool true)]⟩
noncomputable def zpQ : Params -> Obj := fun P => ⟨.type "dict",none,.dict #[] 0,#[]⟩
noncomputable def zlS : Params -> Obj := fun P => ⟨.type "tuple",none,.seq #[.str "self" 409,.str "isjunk" 410,.str "a" 411,.str "b" 412,.str "autojunk" 413] 0,#[]⟩
noncomputable def zl3 : Params -> Obj := fun P => ⟨.type "tuple",none,.seq #[] 0,#[]⟩
noncomputable def zqw : Params -> Obj := fun P => ⟨.none,none,.fields #[],#[]⟩
noncomputable def zln : Params -> Obj := fun P => ⟨.ref 60,some 123,.plain,#[]⟩
noncomputable def zmE : Params -> Obj := fun P => ⟨.type "function",none,.func ⟨"__chain_b","SequenceMatcher.__chain_b",⟨[],[⟨"self",none,⟨236,18,236,22⟩⟩],none,[],[],none,[]⟩,FuncBody.stmts (mb 5 5),⟨.function,[("self",.local),("b",.local),("b2j",.local),("i",.local),("elt",.local),("indices",.local),("junk",.local),("isjunk",.local),("popular",.local),("n",.local),("ntest",.local),("idxs",.local),("enumerate",.globalImplicit),("set",.globalImplicit),("len",.globalImplicit)],false,false,[]⟩,3,[],.none,.none,.none,.str "cpy313.difflib" 194,none,.ref 187,.none,0⟩,#[]⟩
noncomputable def zkU : Params -> Obj := fun P => ⟨.type "code",none,.fields #[.str "law" 678,.str "law" 679,.str "/claim/cut.py" 680,.int 543 0,.int 1 0,.int 0 0,.int 0 0,.int 3 0,.ref 313,.bool true,.int 181 0,.ref 314,.none,.none,.none,.ref 315,.int 681 0,.int 543 0,.str "/claim/cut.py" 682],#[]⟩
noncomputable def zmq : Params -> Obj := fun P => ⟨.type "code",none,.fields #[.str "_buffer" 577,.str "_buffer" 578,.str "/claim/cut.py" 579,.int 419 0,.int 1 0,.int 0 0,.int 0 0,.int 3 0,.ref 247,.bool true,.int 181 0,.ref 248,.none,.ref 249,.ref 250,.ref 251,.int 582 0,.int 419 0,.str "/claim/cut.py" 583],#[]⟩
noncomputable def zqH : Params -> Obj := fun P => ⟨.type "tuple",none,.seq #[] 0,#[]⟩
noncomputable def zps : Params -> Obj := fun P => ⟨.type "code",none,.fields #[.str "__init__" 208,.str "_tuplegetter.__init__" 209,.str "/claim/cut.py" 210,.int 7 0,.int 3 0,.int 0 0,.int 0 0,.int 3 0,.ref 29,.bool true,.int 181 0,.ref 30,.none,.ref 31,.ref 32,.ref 33,.int 214 0,.int 7 0,.str "/claim/cut.py" 215],#[]⟩
noncomputable def bo_61 : Params -> Obj := fun P => ⟨.type "builtin_function_or_method",none,.fields #[.builtin "type.__prepare__",.type "type"],#[]⟩
noncomputable def zmQ : Params -> Obj := fun P => ⟨.ref 60,some 129,.plain,#[]⟩
noncomputable def zqO : Params -> Obj := fun P => ⟨.none,none,.func ⟨"_truth","_truth",⟨[],[⟨"x",none,⟨426,11,426,12⟩⟩],none,[],[],none,[]⟩,FuncBody.stmts (bd 8),⟨.function,[("x",.local),("t",.local),("type",.globalImplicit),("bool",.globalImplicit),("int",.globalImplicit),("float",.globalImplicit),("complex",.globalImplicit),("str",.globalImplicit),("bytes",.globalImplicit),("bytearray",.globalImplicit),("list",.globalImplicit),("tuple",.globalImplicit),("dict",.globalImplicit),("set",.globalImplicit),("frozenset",.globalImplicit),("range",.globalImplicit),("_wall",.globalImplicit)],false,false,[]⟩,0,[],.none,.none,.none,.none,none,.none,.none,0⟩,#[]⟩
noncomputable def zqo : Params -> Obj := fun P => ⟨.none,none,.func ⟨"find_longest_match","SequenceMatcher.find_longest_match",⟨[],[⟨"self",none,⟨260,27,260,31⟩⟩,⟨"alo",none,⟨260,33,260,36⟩⟩,⟨"ahi",none,⟨260,40,260,43⟩⟩,⟨"blo",none,⟨260,50,260,53⟩⟩,⟨"bhi",none,⟨260,57,260,60⟩⟩],none,[],[],none,[Expr.Constant (Const.int 0) 0 ⟨260,37,260,38⟩,Expr.Constant Const.none 0 ⟨260,44,260,48⟩,Expr.Constant (Const.int 0) 0 ⟨260,54,260,55⟩,Expr.Constant Const.none 0 ⟨260,61,260,65⟩]⟩,FuncBody.stmts (mb 5 6),⟨.function,[("self",.local),("alo",.local),("ahi",.local),("blo",.local),("bhi",.local),("a",.local),("b",.local),("b2j",.local),("isbjunk",.local),("besti",.local),("bestj",.local),("bestsize",.local),("j2len",.local),("nothing",.local),("i",.local),("j2lenget",.local),("newj2len",.local),("j",.local),("k",.local),("len",.globalImplicit),("range",.globalImplicit),("Match",.globalImplicit)],false,false,[]⟩,0,[],.none,.none,.none,.none,none,.none,.none,0⟩,#[]⟩
noncomputable def bo_93 : Params -> Obj := fun P => ⟨.none,none,.func ⟨"_replace","Match._replace",⟨[⟨"self",none,⟨41,17,41,21⟩⟩],[],none,[],[],some ⟨"kwds",none,⟨41,28,41,32⟩⟩,[]⟩,FuncBody.stmts (mb 3 6),⟨.function,[("self",.local),("kwds",.local),("result",.local),("__class__",.free),("type",.globalImplicit),("tuple",.globalImplicit),("map",.globalImplicit),("TypeError",.globalImplicit),("list",.globalImplicit)],false,false,[]⟩,0,[],.none,.none,.none,.none,none,.none,.none,0⟩,#[]⟩
noncomputable def zrm : Params -> Obj := fun P => ⟨.none,none,.fields #[],#[]⟩
noncomputable def zkI : Params -> Obj := fun P => ⟨.type "function",none,.func ⟨"_law_number","_law_number",⟨[],[⟨"row",none,⟨508,16,508,19⟩⟩],none,[],[],none,[]⟩,FuncBody.stmts (bd 16),⟨.function,[("row",.local),("number",.local),("octet",.local),("len",.globalImplicit)],false,false,[]⟩,3,[],.none,.none,.none,.str "law_rt0114_02" 638,none,.ref 289,.none,0⟩,#[]⟩
noncomputable def zms : Params -> Obj := fun P => ⟨.type "tuple",none,.seq #[] 0,#[]⟩
noncomputable def zpp : Params -> Obj := fun P => ⟨.type "function",none,.func ⟨"__set__","_tuplegetter.__set__",⟨[],[⟨"self",none,⟨18,16,18,20⟩⟩,⟨"obj",none,⟨18,22,18,25⟩⟩,⟨"value",none,⟨18,27,18,32⟩⟩],none,[],[],none,[]⟩,FuncBody.stmts (mb 2 2),⟨.function,[("self",.local),("obj",.local),("value",.local),("AttributeError",.globalImplicit)],false,false,[]⟩,3,[],.none,.none,.none,.str "cpy313.difflib" 194,none,.ref 49,.none,0⟩,#[]⟩
noncomputable def zqV : Params -> Obj := fun P => ⟨.type "function",none,.func ⟨"__new__","Match.__new__",⟨[],[⟨"_cls",none,⟨29,16,29,20⟩⟩,⟨"a",none,⟨29,22,29,23⟩⟩,⟨"b",none,⟨29,25,29,26⟩⟩,⟨"size",none,⟨29,28,29,32⟩⟩],none,[],[],none,[]⟩,FuncBody.stmts (mb 3 4),⟨.function,[("_cls",.local),("a",.local),("b",.local),("size",.local),("tuple",.globalImplicit)],false,false,[]⟩,3,[],.none,.none,.str (docS (mb 3 4)) 283,.str "cpy313.difflib" 194,none,.ref 81,.none,0⟩,#[]⟩
noncomputable def zpH : Params -> Obj := fun P => ⟨.type "tuple",none,.seq #[] 0,#[]⟩
noncomputable def zqX : Params -> Obj := fun P => ⟨.none,none,.func ⟨"b64encode","b64encode",⟨[],[⟨"s",none,⟨455,14,455,15⟩⟩,⟨"altchars",none,⟨455,17,455,25⟩⟩],none,[],[],none,[Expr.Constant Const.none 0 ⟨455,26,455,30⟩]⟩,FuncBody.stmts (bd 12),⟨.function,[("s",.local),("altchars",.local),("encoded",.local),("b2a_base64",.globalImplicit),("len",.globalImplicit),("repr",.globalImplicit),("bytes",.globalImplicit)],false,false,[]⟩,0,[],.none,.none,.none,.none,none,.none,.none,0⟩,#[]⟩
noncomputable def zmr : Params -> Obj := fun P => ⟨.type "function",none,.func ⟨"get_opcodes","SequenceMatcher.get_opcodes",⟨[],[⟨"self",none,⟨383,20,383,24⟩⟩],none,[],[],none,[]⟩,FuncBody.stmts (mb 5 8),⟨.function,[("self",.local),("_wall",.globalImplicit)],false,false,[]⟩,3,[],.none,.none,.none,.str "cpy313.difflib" 194,none,.ref 209,.none,0⟩,#[]⟩
noncomputable def zmY : Params -> Obj := fun P => ⟨.type "function",none,.func ⟨"_asdict","Match._asdict",⟨[],[⟨"self",none,⟨56,16,56,20⟩⟩],none,[],[],none,[]⟩,FuncBody.stmts (mb 3 9),⟨.function,[("self",.local),("_wall",.globalImplicit)],false,false,[]⟩,3,[],.none,.none,.none,.str "cpy313.difflib" 194,none,.ref 113,.none,0⟩,#[]⟩
noncomputable def zna : Params -> Obj := fun P => ⟨.type "tuple",none,.seq #[] 0,#[]⟩
noncomputable def zmF : Params -> Obj := fun P => ⟨.type "code",none,.fields #[.str "_law_runs" 661,.str "_law_runs" 662,.str "/claim/cut.py" 663,.int 528 0,.int 2 0,.int 0 0,.int 0 0,.int 3 0,.ref 301,.bool true,.int 181 0,.ref 302,.none,.ref 303,.ref 304,.ref 305,.int 669 0,.int 528 0,.str "/claim/cut.py" 670],#[]⟩
noncomputable def zkG : Params -> Obj := fun P => ⟨.type "type",none,.cls ⟨"SequenceMatcher",[.type "object"],[.ref 242,.type "object"],241,"SequenceMatcher",true,[],[],false,none,false⟩,#[none,none,some (.str "SequenceMatcher" 389),some (.str "SequenceMatcher" 397),some (.builtin "object.__new__"),some (.bool true)]⟩
noncomputable def bo_18 : Params -> Obj := fun P => ⟨.none,none,.fields #[.int 7 0,.int 4 0,.ref 34,.int 11 0,.int 4 0,.ref 42,.int 18 0,.int 4 0,.ref 49,.int 21 0,.int 4 0,.ref 56],#[]⟩
noncomputable def zqz : Params -> Obj := fun P => ⟨.type "code",none,.fields #[.str "__get__" 217,.str "_tuplegetter.__get__" 218,.str "/claim/cut.py" 219,.int 11 0,.int 3 0,.int 0 0,.int 0 0,.int 3 0,.ref 37,.bool true,.int 181 0,.ref 38,.none,.ref 39,.ref 40,.ref 41,.int 223 0,.int 11 0,.str "/claim/cut.py" 224],#[]⟩
noncomputable def zqM : Params -> Obj := fun P => ⟨.type "tuple",none,.seq #[.str "a" 269,.str "b" 270,.str "size" 271] 0,#[]⟩
noncomputable def zqU : Params -> Obj := fun P => ⟨.type "builtin_function_or_method",none,.fields #[.builtin "object.__init_subclass__",.ref 135],#[]⟩
noncomputable def zqd : Params -> Obj := fun P => ⟨.none,none,.func ⟨"b2a_base64","b2a_base64",⟨[⟨"data",none,⟨432,15,432,19⟩⟩],[],none,[⟨"newline",none,⟨432,27,432,34⟩⟩],[some (Expr.Constant (Const.bool true) 0 ⟨432,35,432,39⟩)],none,[]⟩,FuncBody.stmts (bd 10),⟨.function,[("data",.local),("newline",.local),("bin_data",.local),("out",.local),("leftbits",.local),("leftchar",.local),("b",.local),("_buffer",.globalImplicit),("_truth",.globalImplicit),("_B64",.globalImplicit),("bytes",.globalImplicit)],false,false,[]⟩,0,[],.none,.none,.none,.none,none,.none,.none,0⟩,#[]⟩
noncomputable def zlj : Params -> Obj := fun P => ⟨.type "code",none,.fields #[.str "get_matching_blocks" 492,.str "SequenceMatcher.get_matching_blocks" 493,.str "/claim/cut.py" 494,.int 335 0,.int 1 0,.int 0 0,.int 0 0,.int 3 0,.ref 197,.bool true,.int 181 0,.ref 198,.none,.ref 199,.ref 200,.ref 201,.int 515 0,.int 335 0,.str "/claim/cut.py" 516],#[]⟩
noncomputable def zmH : Params -> Obj := fun P => ⟨.type "code",none,.fields #[.str "__repr__" 319,.str "Match.__repr__" 320,.str "/claim/cut.py" 321,.int 52 0,.int 1 0,.int 0 0,.int 0 0,.int 3 0,.ref 101,.bool true,.int 181 0,.ref 102,.none,.ref 103,.ref 104,.ref 105,.int 323 0,.int 52 0,.str "/claim/cut.py" 324],#[]⟩
noncomputable def zk3 : Params -> Obj := fun P => ⟨.type "tuple",none,.seq #[.str "self" 431,.str "a" 432] 0,#[]⟩
noncomputable def zql : Params -> Obj := fun P => ⟨.none,none,.func ⟨"_law_alike","_law_alike",⟨[],[⟨"upper",none,⟨518,15,518,20⟩⟩,⟨"length",none,⟨518,22,518,28⟩⟩,⟨"lower",none,⟨518,30,518,35⟩⟩,⟨"width",none,⟨518,37,518,42⟩⟩,⟨"move",none,⟨518,44,518,48⟩⟩],none,[],[],none,[]⟩,FuncBody.stmts (bd 18),⟨.function,[("upper",.local),("length",.local),("lower",.local),("width",.local),("move",.local),("begin",.cell),("end",.local),("size",.local),("over",.local),("under",.local),("octets",.cell),("number",.cell),("told",.cell),("max",.globalImplicit),("min",.globalImplicit),("b64encode",.globalImplicit),("bytes",.globalImplicit),("range",.globalImplicit)],false,false,[("fast",Const.str "upper"),("fast",Const.str "length"),("fast",Const.str "lower"),("fast",Const.str "width"),("fast",Const.str "move"),("fast",Const.str "begin"),("fast",Const.str "end"),("fast",Const.str "size"),("fast",Const.str "over"),("fast",Const.str "under"),("fast",Const.str "octets"),("fast",Const.str "number"),("fast",Const.str "k"),("fast",Const.str "told")]⟩,0,[],.none,.none,.none,.none,none,.none,.none,0⟩,#[]⟩
noncomputable def zrE : Params -> Obj := fun P => ⟨.none,none,.fields #[],#[]⟩
noncomputable def zqC : Params -> Obj := fun P => ⟨.type "tuple",none,.seq #[.str "__doc__" 243,.str "index" 244] 0,#[]⟩
noncomputable def zqm : Params -> Obj := fun P => ⟨.type "dict",none,.dict #[dE P "__module__" 295 (.str "cpy313.difflib" 194),dE P "__name__" 298 (.str "_make" 297),dE P "__qualname__" 301 (.str "Match._make" 300),dE P "__doc__" 303 (.str "Make a new Match object from a sequence or iterable" 293),dE P "__annotations__" 305 (.ref 92)] 5,#[]⟩
noncomputable def zkO : Params -> Obj := fun P => ⟨.type "tuple",none,.seq #[] 0,#[]⟩
noncomputable def zlH : Params -> Obj := fun P => ⟨.type "code",none,.fields #[.str "sorted_list_difference" 623,.str "sorted_list_difference" 624,.str "/claim/cut.py" 625,.int 468 0,.int 2 0,.int 0 0,.int 0 0,.int 3 0,.ref 277,.bool true,.int 181 0,.ref 278,.none,.ref 279,.ref 280,.ref 281,.int 634 0,.int 468 0,.str "/claim/cut.py" 635],#[]⟩
noncomputable def zlR : Params -> Obj := fun P => ⟨.type "function",none,.func ⟨"get_grouped_opcodes","SequenceMatcher.get_grouped_opcodes",⟨[],[⟨"self",none,⟨386,28,386,32⟩⟩,⟨"n",none,⟨386,34,386,35⟩⟩],none,[],[],none,[Expr.Constant (Const.int 3) 0 ⟨386,36,386,37⟩]⟩,FuncBody.stmts (mb 5 9),⟨.function,[("self",.local),("n",.local),("_wall",.globalImplicit)],false,false,[]⟩,3,[],.ref 211,.none,.none,.str "cpy313.difflib" 194,none,.ref 217,.none,0⟩,#[]⟩
noncomputable def zmT : Params -> Obj := fun P => ⟨.type "tuple",none,.seq #[.str "a" 342,.str "b" 343,.str "size" 344] 0,#[]⟩
noncomputable def zrG : Params -> Obj := fun P => ⟨.none,none,.func ⟨"__chain_b","SequenceMatcher.__chain_b",⟨[],[⟨"self",none,⟨236,18,236,22⟩⟩],none,[],[],none,[]⟩,FuncBody.stmts (mb 5 5),⟨.function,[("self",.local),("b",.local),("b2j",.local),("i",.local),("elt",.local),("indices",.local),("junk",.local),("isjunk",.local),("popular",.local),("n",.local),("ntest",.local),("idxs",.local),("enumerate",.globalImplicit),("set",.globalImplicit),("len",.globalImplicit)],false,false,[]⟩,0,[],.none,.none,.none,.none,none,.none,.none,0⟩,#[]⟩
noncomputable def zrn : Params -> Obj := fun P => ⟨.none,none,.fields #[],#[]⟩
noncomputable def zk5 : Params -> Obj := fun P => ⟨.type "tuple",none,.seq #[] 0,#[]⟩
noncomputable def bo_4 : Params -> Obj := fun P => ⟨.type "frame",none,.plain,#[some (.ref 13),some (.ref 3),some (.ref 3),none,some (.str "__main__" 164),none,some (.ref 0)]⟩
noncomputable def bo_14 : Params -> Obj := fun P => ⟨.type "tuple",none,.seq #[] 0,#[]⟩
noncomputable def bo_30 : Params -> Obj := fun P => ⟨.none,none,.fields #[],#[]⟩
noncomputable def bo_65 : Params -> Obj := fun P => ⟨.none,none,.fields #[.int 29 0,.int 4 0,.ref 81,.int 34 0,.int 4 0,.ref 88,.int 41 0,.int 4 0,.ref 99,.int 52 0,.int 4 0,.ref 106,.int 56 0,.int 4 0,.ref 113,.int 59 0,.int 4 0,.ref 120],#[]⟩
noncomputable def zmx : Params -> Obj := fun P => ⟨.type "dict",none,.dict #[dE P "__module__" 260 (.str "cpy313.difflib" 194),dE P "__firstlineno__" 264 (.int 23 263),⟨PyData.keyHash P "__doc__",.str "__doc__" 266,.str "Match(a, b, size)" 265⟩,dE P "__slots__" 268 (.ref 73),dE P "_fields" 272 (.ref 74),dE P "_field_defaults" 273 (.ref 75),dE P "__new__" 284 (.ref 136),dE P "_make" 306 (.ref 91),dE P "_replace" 317 (.ref 100),dE P "__replace__" 318 (.ref 100),dE P "__repr__" 326 (.ref 107),dE P "_asdict" 333 (.ref 114),dE P "__getnewargs__" 341 (.ref 121),dE P "__match_args__" 345 (.ref 122),dE P "a" 355 (.ref 124),dE P "b" 365 (.ref 127),dE P "size" 375 (.ref 130),dE P "__static_attributes__" 376 (.ref 132)] 2,#[]⟩
noncomputable def zkv : Params -> Obj := fun P => ⟨.type "tuple",none,.seq #[] 0,#[]⟩
noncomputable def zoY : Params -> Obj := fun P => ⟨.none,none,.fields #[],#[]⟩
noncomputable def bo_97 : Params -> Obj := fun P => ⟨.none,none,.fields #[],#[]⟩
noncomputable def zku : Params -> Obj := fun P => ⟨.type "code",none,.fields #[.str "set_seqs" 418,.str "SequenceMatcher.set_seqs" 419,.str "/claim/cut.py" 420,.int 173 0,.int 3 0,.int 0 0,.int 0 0,.int 3 0,.ref 161,.bool true,.int 181 0,.ref 162,.none,.ref 163,.ref 164,.ref 165,.int 424 0,.int 173 0,.str "/claim/cut.py" 425],#[]⟩
noncomputable def zkM : Params -> Obj := fun P => ⟨.type "code",none,.fields #[.str "_law_written" 649,.str "_law_written" 650,.str "/claim/cut.py" 651,.int 513 0,.int 1 0,.int 0 0,.int 0 0,.int 3 0,.ref 291,.bool true,.int 181 0,.ref 292,.none,.none,.none,.ref 293,.int 652 0,.int 513 0,.str "/claim/cut.py" 653],#[]⟩
noncomputable def zqn : Params -> Obj := fun P => ⟨.none,none,.func ⟨"quick_ratio","SequenceMatcher.quick_ratio",⟨[],[⟨"self",none,⟨413,20,413,24⟩⟩],none,[],[],none,[]⟩,FuncBody.stmts (mb 5 11),⟨.function,[("self",.local),("_wall",.globalImplicit)],false,false,[]⟩,0,[],.none,.none,.none,.none,none,.none,.none,0⟩,#[]⟩
noncomputable def zq1 : Params -> Obj := fun P => ⟨.type "tuple",none,.seq #[] 0,#[]⟩
noncomputable def zrh : Params -> Obj := fun P => ⟨.type "tuple",none,.seq #[] 0,#[]⟩
noncomputable def zpJ : Params -> Obj := fun P => ⟨.none,none,.fields #[.int 145 0,.int 4 0,.ref 159,.int 173 0,.int 4 0,.ref 166,.int 184 0,.int 4 0,.ref 173,.int 209 0,.int 4 0,.ref 180,.int 236 0,.int 4 0,.ref 187,.int 260 0,.int 4 0,.ref 195,.int 335 0,.int 4 0,.ref 202,.int 383 0,.int 4 0,.ref 209,.int 386 0,.int 4 0,.ref 217,.int 389 0,.int 4 0,.ref 224,.int 413 0,.int 4 0,.ref 231,.int 416 0,.int 4 0,.ref 238],#[]⟩
noncomputable def zoV : Params -> Obj := fun P => ⟨.none,none,.fields #[],#[]⟩
noncomputable def zks : Params -> Obj := fun P => ⟨.type "tuple",none,.seq #[.str "self" 530,.str "n" 531] 0,#[]⟩
noncomputable def zlZ : Params -> Obj := fun P => ⟨.type "tuple",none,.seq #[] 0,#[]⟩
noncomputable def zmw : Params -> Obj := fun P => ⟨.type "tuple",none,.seq #[] 0,#[]⟩
noncomputable def zo4 : Params -> Obj := fun P => ⟨.none,none,.func ⟨"_law_blocks","_law_blocks",⟨[],[⟨"runs",none,⟨536,16,536,20⟩⟩,⟨"length",none,⟨536,22,536,28⟩⟩,⟨"width",none,⟨536,30,536,35⟩⟩],none,[],[],none,[]⟩,FuncBody.stmts (bd 20),⟨.function,[("runs",.local),("length",.local),("width",.local),("blocks",.local),("less",.cell),("i",.cell),("j",.cell),("near",.local),("sorted",.globalImplicit)],false,false,[("fast",Const.str "runs"),("fast",Const.str "length"),("fast",Const.str "width"),("fast",Const.str "blocks"),("fast",Const.str "less"),("fast",Const.str "i"),("fast",Const.str "j"),("fast",Const.str "block"),("fast",Const.str "near")]⟩,0,[],.none,.none,.none,.none,none,.none,.none,0⟩,#[]⟩
noncomputable def zoM : Params -> Obj := fun P => ⟨.type "builtin_function_or_method",none,.fields #[.builtin "object.__init_subclass__",.ref 242],#[]⟩
noncomputable def bo_22 : Params -> Obj := fun P => ⟨.none,none,.fields #[],#[]⟩
noncomputable def zqI : Params -> Obj := fun P => ⟨.type "tuple",none,.seq #[.str "self" 229,.str "obj" 230,.str "value" 231] 0,#[]⟩
noncomputable def zpx : Params -> Obj := fun P => ⟨.type "tuple",none,.seq #[.str "_cls" 277,.str "a" 278,.str "b" 279,.str "size" 280] 0,#[]⟩
noncomputable def zlu : Params -> Obj := fun P => ⟨.type "tuple",none,.seq #[] 0,#[]⟩
noncomputable def zlq : Params -> Obj := fun P => ⟨.type "tuple",none,.seq #[] 0,#[]⟩
noncomputable def zkm : Params -> Obj := fun P => ⟨.type "tuple",none,.seq #[.str "self" 522] 0,#[]⟩
noncomputable def zkq : Params -> Obj := fun P => ⟨.type "tuple",none,.seq #[.str "self" 330] 0,#[]⟩
noncomputable def zmC : Params -> Obj := fun P => ⟨.type "function",none,.func ⟨"set_seq1","SequenceMatcher.set_seq1",⟨[],[⟨"self",none,⟨184,17,184,21⟩⟩,⟨"a",none,⟨184,23,184,24⟩⟩],none,[],[],none,[]⟩,FuncBody.stmts (mb 5 3),⟨.function,[("self",.local),("a",.local)],false,false,[]⟩,3,[],.none,.none,.str (docS (mb 5 3)) 435,.str "cpy313.difflib" 194,none,.ref 173,.none,0⟩,#[]⟩
noncomputable def zoU : Params -> Obj := fun P => ⟨.none,none,.fields #[],#[]⟩
noncomputable def zlW : Params -> Obj := fun P => ⟨.type "code",none,.fields #[.str "real_quick_ratio" 551,.str "SequenceMatcher.real_quick_ratio" 552,.str "/claim/cut.py" 553,.int 416 0,.int 1 0,.int 0 0,.int 0 0,.int 3 0,.ref 233,.bool true,.int 181 0,.ref 234,.none,.ref 235,.ref 236,.ref 237,.int 555 0,.int 416 0,.str "/claim/cut.py" 556],#[]⟩
noncomputable def zre : Params -> Obj := fun P => ⟨.type "getset_descriptor",none,.fields #[.str "__weakref__" 248,.ref 60,.builtin "ExceptionGroup.__weakref__",.none],#[]⟩
noncomputable def zpE : Params -> Obj := fun P => ⟨.type "tuple",none,.seq #[.str "__class__" 310] 0,#[]⟩
noncomputable def zp2 : Params -> Obj := fun P => ⟨.none,none,.func ⟨"__init__","SequenceMatcher.__init__",⟨[],[⟨"self",none,⟨145,17,145,21⟩⟩,⟨"isjunk",none,⟨145,23,145,29⟩⟩,⟨"a",none,⟨145,36,145,37⟩⟩,⟨"b",none,⟨145,42,145,43⟩⟩,⟨"autojunk",none,⟨145,48,145,56⟩⟩],none,[],[],none,[Expr.Constant Const.none 0 ⟨145,30,145,34⟩,Expr.Constant (Const.str "") 0 ⟨145,38,145,40⟩,Expr.Constant (Const.str "") 0 ⟨145,44,145,46⟩,Expr.Constant (Const.bool true) 0 ⟨145,57,145,61⟩]⟩,FuncBody.stmts (mb 5 1),⟨.function,[("self",.local),("isjunk",.local),("a",.local),("b",.local),("autojunk",.local)],false,false,[]⟩,0,[],.none,.none,.none,.none,none,.none,.none,0⟩,#[]⟩
noncomputable def zm0 : Params -> Obj := fun P => ⟨.type "tuple",none,.seq #[.str "row" 643,.str "number" 644,.str "octet" 645] 0,#[]⟩
noncomputable def zkT : Params -> Obj := fun P => ⟨.type "tuple",none,.seq #[] 0,#[]⟩
noncomputable def zkB : Params -> Obj := fun P => ⟨.type "dict",none,.dict #[dE P "index" 362 (.int 1 356),dE P "__doc__" 364 (.str "Alias for field number 1" 357)] 2,#[]⟩
noncomputable def zkr : Params -> Obj := fun P => ⟨.type "tuple",none,.seq #[] 0,#[]⟩
noncomputable def zki : Params -> Obj := fun P => ⟨.type "tuple",none,.seq #[] 0,#[]⟩
noncomputable def zfq : Params -> BT := (fun P => (BT.node (boot_o_0 P) (BT.node (boot_o_1 P) (BT.node (boot_o_3 P) (BT.node (boot_o_7 P) BT.nil BT.nil) (BT.node (ao_1 P) BT.nil BT.nil)) (BT.node (boot_o_5 P) (BT.node (boot_o_9 P) BT.nil BT.nil) (BT.node (ao_3 P) BT.nil BT.nil))) (BT.node (boot_o_2 P) (BT.node (boot_o_4 P) (BT.node (boot_o_8 P) BT.nil BT.nil) (BT.node (ao_2 P) BT.nil BT.nil)) (BT.node (boot_o_6 P) (BT.node (boot_o_10 P) BT.nil BT.nil) (BT.node (ao_4 P) BT.nil BT.nil)))))
noncomputable def zcW : Params -> BT := (fun P => (.node (boot_o_0 P) (.node (boot_o_1 P) (.node (zm2 P) (.node (boot_o_7 P) (.node (bo_7 P) (.node (zri P) (.node (bo_55 P) (.node (zkh P) (.node (zq0 P) .nil .nil) .nil) (.node (zo7 P) .nil .nil)) (.node (bo_90 P) (.node (zlK P) (.node (zmp P) .nil .nil) .nil) (.node (zo6 P) .nil .nil))) (.node (zrf P) (.node (zpe P) (.node (zoE P) (.node (zoN P) .nil .nil) .nil) (.node (zkd P) .nil .nil)) (.node (zkl P) (.node (zkR P) (.node (zlh P) .nil .nil) .nil) (.node (zke P) .nil .nil)))) (.node (bo_15 P) (.node (zpb P) (.node (bo_66 P) (.node (zle P) (.node (zrv P) .nil .nil) .nil) (.node (zkH P) .nil .nil)) (.node (zp6 P) (.node (zko P) (.node (zll P) .nil .nil) .nil) (.node (zkV P) .nil .nil))) (.node (bo_47 P) (.node (bo_82 P) (.node (zpi P) (.node (zk0 P) .nil .nil) .nil) (.node (znd P) .nil .nil)) (.node (zry P) (.node (zrC P) (.node (zkZ P) .nil .nil) .nil) (.node (zlA P) .nil .nil))))) (.node (bo_1 P) (.node (bo_11 P) (.node (zpY P) (.node (bo_62 P) (.node (zpj P) (.node (zm5 P) .nil .nil) .nil) (.node (zmt P) .nil .nil)) (.node (zpO P) (.node (zmh P) (.node (zmf P) .nil .nil) .nil) (.node (zqa P) .nil .nil))) (.node (zoX P) (.node (zru P) (.node (zqg P) (.node (zmd P) .nil .nil) .nil) (.node (zkx P) .nil .nil)) (.node (zlX P) (.node (zq7 P) (.node (zmI P) .nil .nil) .nil) (.node (zlb P) .nil .nil)))) (.node (bo_19 P) (.node (zqq P) (.node (zrI P) (.node (zkk P) (.node (zkp P) .nil .nil) .nil) (.node (zl8 P) .nil .nil)) (.node (zmk P) (.node (zkS P) (.node (zk1 P) .nil .nil) .nil) (.node (zmU P) .nil .nil))) (.node (zoI P) (.node (zo8 P) (.node (zpZ P) (.node (zm9 P) .nil .nil) .nil) (.node (zlz P) .nil .nil)) (.node (zmy P) (.node (zmX P) (.node (zqD P) .nil .nil) .nil) (.node (zoJ P) .nil .nil)))))) (.node (boot_o_5 P) (.node (boot_o_9 P) (.node (bo_9 P) (.node (bo_25 P) (.node (zpW P) (.node (zla P) (.node (zmA P) .nil .nil) .nil) (.node (zkF P) .nil .nil)) (.node (zqv P) (.node (zmS P) (.node (zlr P) .nil .nil) .nil) (.node (znc P) .nil .nil))) (.node (zqQ P) (.node (zro P) (.node (zlw P) (.node (zmm P) .nil .nil) .nil) (.node (zm3 P) .nil .nil)) (.node (zmP P) (.node (zl0 P) (.node (zoL P) .nil .nil) .nil) (.node (zmi P) .nil .nil)))) (.node (bo_17 P) (.node (bo_33 P) (.node (zqP P) (.node (zoZ P) (.node (zl9 P) .nil .nil) .nil) (.node (zrJ P) .nil .nil)) (.node (zoG P) (.node (zp3 P) (.node (zrr P) .nil .nil) .nil) (.node (zlF P) .nil .nil))) (.node (zrl P) (.node (zpX P) (.node (zkC P) (.node (zpw P) .nil .nil) .nil) (.node (zl7 P) .nil .nil)) (.node (zmW P) (.node (zlo P) (.node (zlU P) .nil .nil) .nil) (.node (zlT P) .nil .nil))))) (.node (bo_3 P) (.node (zpF P) (.node (zpu P) (.node (bo_64 P) (.node (zqW P) (.node (zmg P) .nil .nil) .nil) (.node (zmM P) .nil .nil)) (.node (zoO P) (.node (zqx P) (.node (zpy P) .nil .nil) .nil) (.node (zkj P) .nil .nil))) (.node (zp5 P) (.node (zoK P) (.node (zpd P) (.node (zls P) .nil .nil) .nil) (.node (zrg P) .nil .nil)) (.node (zl4 P) (.node (zlk P) (.node (zqc P) .nil .nil) .nil) (.node (zp4 P) .nil .nil)))) (.node (zp8 P) (.node (bo_37 P) (.node (bo_72 P) (.node (zkD P) (.node (zmN P) .nil .nil) .nil) (.node (zo5 P) .nil .nil)) (.node (zqN P) (.node (zkY P) (.node (zkN P) .nil .nil) .nil) (.node (zrA P) .nil .nil))) (.node (zpD P) (.node (zrw P) (.node (zlc P) (.node (zpn P) .nil .nil) .nil) (.node (zkQ P) .nil .nil)) (.node (zqB P) (.node (zlp P) (.node (zk8 P) .nil .nil) .nil) (.node (zky P) .nil .nil))))))) (.node (boot_o_2 P) (.node (boot_o_4 P) (.node (boot_o_8 P) (.node (bo_8 P) (.node (zrH P) (.node (bo_56 P) (.node (zpz P) (.node (zkA P) .nil .nil) .nil) (.node (zkg P) .nil .nil)) (.node (zq2 P) (.node (zmB P) (.node (zqy P) .nil .nil) .nil) (.node (zlx P) .nil .nil))) (.node (bo_40 P) (.node (bo_75 P) (.node (zkW P) (.node (zlt P) .nil .nil) .nil) (.node (zrz P) .nil .nil)) (.node (zqe P) (.node (zpP P) (.node (zlI P) .nil .nil) .nil) (.node (zme P) .nil .nil)))) (.node (bo_16 P) (.node (zqS P) (.node (bo_67 P) (.node (zl5 P) (.node (zmv P) .nil .nil) .nil) (.node (zmG P) .nil .nil)) (.node (zqR P) (.node (zlJ P) (.node (zma P) .nil .nil) .nil) (.node (zlv P) .nil .nil))) (.node (zrs P) (.node (zpo P) (.node (zrx P) (.node (zlm P) .nil .nil) .nil) (.node (zq8 P) .nil .nil)) (.node (zkK P) (.node (zli P) (.node (zmJ P) .nil .nil) .nil) (.node (zrd P) .nil .nil))))) (.node (zra P) (.node (zpN P) (.node (zqA P) (.node (zp0 P) (.node (zlM P) (.node (zmn P) .nil .nil) .nil) (.node (zl6 P) .nil .nil)) (.node (zpL P) (.node (zmD P) (.node (zrk P) .nil .nil) .nil) (.node (zlg P) .nil .nil))) (.node (bo_44 P) (.node (bo_79 P) (.node (zrB P) (.node (zkf P) .nil .nil) .nil) (.node (zmL P) .nil .nil)) (.node (zqJ P) (.node (zk2 P) (.node (zmj P) .nil .nil) .nil) (.node (zlf P) .nil .nil)))) (.node (bo_20 P) (.node (zpm P) (.node (zpI P) (.node (zo0 P) (.node (zkw P) .nil .nil) .nil) (.node (zmK P) .nil .nil)) (.node (zm1 P) (.node (zqu P) (.node (zmR P) .nil .nil) .nil) (.node (zkX P) .nil .nil))) (.node (zrD P) (.node (zpQ P) (.node (zlS P) (.node (zl3 P) .nil .nil) .nil) (.node (zqw P) .nil .nil)) (.node (zln P) (.node (zmE P) (.node (zkU P) .nil .nil) .nil) (.node (zmq P) .nil .nil)))))) (.node (boot_o_6 P) (.node (boot_o_10 P) (.node (zqH P) (.node (zps P) (.node (bo_61 P) (.node (zmQ P) (.node (zqO P) .nil .nil) .nil) (.node (zqo P) .nil .nil)) (.node (bo_93 P) (.node (zrm P) (.node (zkI P) .nil .nil) .nil) (.node (zms P) .nil .nil))) (.node (zpp P) (.node (zqV P) (.node (zpH P) (.node (zqX P) .nil .nil) .nil) (.node (zmr P) .nil .nil)) (.node (zmY P) (.node (zna P) (.node (zmF P) .nil .nil) .nil) (.node (zkG P) .nil .nil)))) (.node (bo_18 P) (.node (zqz P) (.node (zqM P) (.node (zqU P) (.node (zqd P) .nil .nil) .nil) (.node (zlj P) .nil .nil)) (.node (zmH P) (.node (zk3 P) (.node (zql P) .nil .nil) .nil) (.node (zrE P) .nil .nil))) (.node (zqC P) (.node (zqm P) (.node (zkO P) (.node (zlH P) .nil .nil) .nil) (.node (zlR P) .nil .nil)) (.node (zmT P) (.node (zrG P) (.node (zrn P) .nil .nil) .nil) (.node (zk5 P) .nil .nil))))) (.node (bo_4 P) (.node (bo_14 P) (.node (bo_30 P) (.node (bo_65 P) (.node (zmx P) (.node (zkv P) .nil .nil) .nil) (.node (zoY P) .nil .nil)) (.node (bo_97 P) (.node (zku P) (.node (zkM P) .nil .nil) .nil) (.node (zqn P) .nil .nil))) (.node (zq1 P) (.node (zrh P) (.node (zpJ P) (.node (zoV P) .nil .nil) .nil) (.node (zks P) .nil .nil)) (.node (zlZ P) (.node (zmw P) (.node (zo4 P) .nil .nil) .nil) (.node (zoM P) .nil .nil)))) (.node (bo_22 P) (.node (zqI P) (.node (zpx P) (.node (zlu P) (.node (zlq P) .nil .nil) .nil) (.node (zkm P) .nil .nil)) (.node (zkq P) (.node (zmC P) (.node (zoU P) .nil .nil) .nil) (.node (zlW P) .nil .nil))) (.node (zre P) (.node (zpE P) (.node (zp2 P) (.node (zm0 P) .nil .nil) .nil) (.node (zkT P) .nil .nil)) (.node (zkB P) (.node (zkr P) .nil .nil) (.node (zki P) .nil .nil)))))))))
noncomputable def zdn : Env := (Env.mk (Module.scope (Program.main Challenge.pw_rt0114_02)) mainNs mainNs [] Str.empty Option.none (Value.ref 13) (Option.some (14 : PySem.Addr)) (0 : PySem.Addr))
noncomputable def K : Params -> Frag := fun P => (nat_lit 2, boot_o_2 P) :: (nat_lit 3, zm2 P) :: (nat_lit 15, bo_7 P) :: (nat_lit 17, bo_9 P) :: (nat_lit 18, zqH P) :: (nat_lit 20, zpN P) :: (nat_lit 21, zpF P) :: (nat_lit 29, zp8 P) :: (nat_lit 31, zri P) :: (nat_lit 32, zrH P) :: (nat_lit 34, zps P) :: (nat_lit 35, zpY P) :: (nat_lit 36, zqA P) :: (nat_lit 37, zpu P) :: (nat_lit 39, zpb P) :: (nat_lit 40, zqS P) :: (nat_lit 42, zqz P) :: (nat_lit 43, zqq P) :: (nat_lit 44, zpm P) :: (nat_lit 46, zqI P) :: (nat_lit 47, zrf P) :: (nat_lit 49, zqQ P) :: (nat_lit 50, zpp P) :: (nat_lit 51, zoX P) :: (nat_lit 53, zp5 P) :: (nat_lit 54, zq1 P) :: (nat_lit 56, zrs P) :: (nat_lit 57, zrl P) :: (nat_lit 58, zqC P) :: (nat_lit 59, zoI P) :: (nat_lit 60, zrD P) :: (nat_lit 61, zpD P) :: (nat_lit 62, zre P) :: (nat_lit 65, zpW P) :: (nat_lit 68, zp0 P) :: (nat_lit 73, zqP P) :: (nat_lit 74, zqM P) :: (nat_lit 75, zrI P) :: (nat_lit 76, zpI P) :: (nat_lit 78, zpx P) :: (nat_lit 79, zpe P) :: (nat_lit 81, zro P) :: (nat_lit 82, zqV P) :: (nat_lit 83, zru P) :: (nat_lit 85, zoK P) :: (nat_lit 86, zrh P) :: (nat_lit 88, zpo P) :: (nat_lit 89, zpX P) :: (nat_lit 90, zqm P) :: (nat_lit 91, zo8 P) :: (nat_lit 92, zpQ P) :: (nat_lit 93, zrw P) :: (nat_lit 94, zpE P) :: (nat_lit 96, zq2 P) :: (nat_lit 97, zqv P) :: (nat_lit 99, zpO P) :: (nat_lit 100, zpL P) :: (nat_lit 101, zoO P) :: (nat_lit 103, zp6 P) :: (nat_lit 104, zqR P) :: (nat_lit 106, zmH P) :: (nat_lit 107, zmk P) :: (nat_lit 108, zm1 P) :: (nat_lit 110, zkq P) :: (nat_lit 111, zkl P) :: (nat_lit 113, zmP P) :: (nat_lit 114, zmY P) :: (nat_lit 115, zlX P) :: (nat_lit 117, zl4 P) :: (nat_lit 118, zlZ P) :: (nat_lit 120, zkK P) :: (nat_lit 121, zmW P) :: (nat_lit 122, zmT P) :: (nat_lit 123, zmy P) :: (nat_lit 124, zln P) :: (nat_lit 126, zkB P) :: (nat_lit 127, zkh P) :: (nat_lit 129, zla P) :: (nat_lit 130, zmQ P) :: (nat_lit 132, zlM P) :: (nat_lit 134, zmx P) :: (nat_lit 135, zle P) :: (nat_lit 136, zl5 P) :: (nat_lit 139, zkk P) :: (nat_lit 141, zkD P) :: (nat_lit 142, zlu P) :: (nat_lit 144, zkW P) :: (nat_lit 145, zlw P) :: (nat_lit 153, zkC P) :: (nat_lit 154, zkO P) :: (nat_lit 156, zlS P) :: (nat_lit 157, zlc P) :: (nat_lit 159, zlK P) :: (nat_lit 160, zmB P) :: (nat_lit 161, zmS P) :: (nat_lit 163, zmh P) :: (nat_lit 164, zmD P) :: (nat_lit 166, zku P) :: (nat_lit 167, zko P) :: (nat_lit 168, zlJ P) :: (nat_lit 170, zk3 P) :: (nat_lit 171, zkS P) :: (nat_lit 173, zkY P) :: (nat_lit 174, zmC P) :: (nat_lit 175, zkR P) :: (nat_lit 177, zl0 P) :: (nat_lit 178, zna P) :: (nat_lit 180, zk2 P) :: (nat_lit 181, zlk P) :: (nat_lit 182, zmw P) :: (nat_lit 184, zli P) :: (nat_lit 185, zlo P) :: (nat_lit 187, zmX P) :: (nat_lit 188, zmE P) :: (nat_lit 189, zlp P) :: (nat_lit 190, zkr P) :: (nat_lit 192, zkg P) :: (nat_lit 193, zkF P) :: (nat_lit 195, zmt P) :: (nat_lit 196, zl6 P) :: (nat_lit 197, zmM P) :: (nat_lit 199, zkH P) :: (nat_lit 200, zmG P) :: (nat_lit 202, zlj P) :: (nat_lit 203, zl8 P) :: (nat_lit 204, zmK P) :: (nat_lit 206, zkm P) :: (nat_lit 207, zkd P) :: (nat_lit 209, zm3 P) :: (nat_lit 210, zmr P) :: (nat_lit 211, zkx P) :: (nat_lit 212, zmL P) :: (nat_lit 214, zks P) :: (nat_lit 215, znd P) :: (nat_lit 217, zl7 P) :: (nat_lit 218, zlR P) :: (nat_lit 219, zlz P) :: (nat_lit 221, zkQ P) :: (nat_lit 222, zkT P) :: (nat_lit 224, zlx P) :: (nat_lit 225, znc P) :: (nat_lit 226, zms P) :: (nat_lit 228, zlg P) :: (nat_lit 229, zkj P) :: (nat_lit 231, zkV P) :: (nat_lit 232, zlv P) :: (nat_lit 233, zlF P) :: (nat_lit 235, zmU P) :: (nat_lit 236, zkX P) :: (nat_lit 238, zlW P) :: (nat_lit 239, zke P) :: (nat_lit 240, zme P) :: (nat_lit 241, zmi P) :: (nat_lit 242, zkG P) :: (nat_lit 243, zlb P) :: (nat_lit 244, zlf P) :: (nat_lit 247, zlA P) :: (nat_lit 249, zlT P) :: (nat_lit 250, zk5 P) :: (nat_lit 252, zmq P) :: (nat_lit 253, zky P) :: (nat_lit 254, zki P) :: (nat_lit 256, zkA P) :: (nat_lit 257, zmA P) :: (nat_lit 259, zm5 P) :: (nat_lit 260, zmn P) :: (nat_lit 261, zmg P) :: (nat_lit 262, zkv P) :: (nat_lit 264, zmv P) :: (nat_lit 265, zl9 P) :: (nat_lit 267, zkp P) :: (nat_lit 268, zkw P) :: (nat_lit 269, zmN P) :: (nat_lit 270, zlq P) :: (nat_lit 272, zlt P) :: (nat_lit 273, zmm P) :: (nat_lit 275, zmd P) :: (nat_lit 276, zkf P) :: (nat_lit 277, zls P) :: (nat_lit 279, zk0 P) :: (nat_lit 280, zlm P) :: (nat_lit 282, zlH P) :: (nat_lit 283, zm9 P) :: (nat_lit 284, zl3 P) :: (nat_lit 286, zm0 P) :: (nat_lit 287, zmp P) :: (nat_lit 289, zlr P) :: (nat_lit 290, zkI P) :: (nat_lit 291, zmf P) :: (nat_lit 294, zkM P) :: (nat_lit 295, zll P) :: (nat_lit 296, zma P) :: (nat_lit 299, zk1 P) :: (nat_lit 300, zmR P) :: (nat_lit 301, zkN P) :: (nat_lit 303, zlh P) :: (nat_lit 304, zlI P) :: (nat_lit 306, zmF P) :: (nat_lit 307, zmI P) :: (nat_lit 308, zmj P) :: (nat_lit 311, zkZ P) :: (nat_lit 312, zmJ P) :: (nat_lit 313, zlU P) :: (nat_lit 316, zkU P) :: (nat_lit 317, zk8 P) :: []
noncomputable def Kas : List Addr := nat_lit 2 :: nat_lit 3 :: nat_lit 15 :: nat_lit 17 :: nat_lit 18 :: nat_lit 20 :: nat_lit 21 :: nat_lit 29 :: nat_lit 31 :: nat_lit 32 :: nat_lit 34 :: nat_lit 35 :: nat_lit 36 :: nat_lit 37 :: nat_lit 39 :: nat_lit 40 :: nat_lit 42 :: nat_lit 43 :: nat_lit 44 :: nat_lit 46 :: nat_lit 47 :: nat_lit 49 :: nat_lit 50 :: nat_lit 51 :: nat_lit 53 :: nat_lit 54 :: nat_lit 56 :: nat_lit 57 :: nat_lit 58 :: nat_lit 59 :: nat_lit 60 :: nat_lit 61 :: nat_lit 62 :: nat_lit 65 :: nat_lit 68 :: nat_lit 73 :: nat_lit 74 :: nat_lit 75 :: nat_lit 76 :: nat_lit 78 :: nat_lit 79 :: nat_lit 81 :: nat_lit 82 :: nat_lit 83 :: nat_lit 85 :: nat_lit 86 :: nat_lit 88 :: nat_lit 89 :: nat_lit 90 :: nat_lit 91 :: nat_lit 92 :: nat_lit 93 :: nat_lit 94 :: nat_lit 96 :: nat_lit 97 :: nat_lit 99 :: nat_lit 100 :: nat_lit 101 :: nat_lit 103 :: nat_lit 104 :: nat_lit 106 :: nat_lit 107 :: nat_lit 108 :: nat_lit 110 :: nat_lit 111 :: nat_lit 113 :: nat_lit 114 :: nat_lit 115 :: nat_lit 117 :: nat_lit 118 :: nat_lit 120 :: nat_lit 121 :: nat_lit 122 :: nat_lit 123 :: nat_lit 124 :: nat_lit 126 :: nat_lit 127 :: nat_lit 129 :: nat_lit 130 :: nat_lit 132 :: nat_lit 134 :: nat_lit 135 :: nat_lit 136 :: nat_lit 139 :: nat_lit 141 :: nat_lit 142 :: nat_lit 144 :: nat_lit 145 :: nat_lit 153 :: nat_lit 154 :: nat_lit 156 :: nat_lit 157 :: nat_lit 159 :: nat_lit 160 :: nat_lit 161 :: nat_lit 163 :: nat_lit 164 :: nat_lit 166 :: nat_lit 167 :: nat_lit 168 :: nat_lit 170 :: nat_lit 171 :: nat_lit 173 :: nat_lit 174 :: nat_lit 175 :: nat_lit 177 :: nat_lit 178 :: nat_lit 180 :: nat_lit 181 :: nat_lit 182 :: nat_lit 184 :: nat_lit 185 :: nat_lit 187 :: nat_lit 188 :: nat_lit 189 :: nat_lit 190 :: nat_lit 192 :: nat_lit 193 :: nat_lit 195 :: nat_lit 196 :: nat_lit 197 :: nat_lit 199 :: nat_lit 200 :: nat_lit 202 :: nat_lit 203 :: nat_lit 204 :: nat_lit 206 :: nat_lit 207 :: nat_lit 209 :: nat_lit 210 :: nat_lit 211 :: nat_lit 212 :: nat_lit 214 :: nat_lit 215 :: nat_lit 217 :: nat_lit 218 :: nat_lit 219 :: nat_lit 221 :: nat_lit 222 :: nat_lit 224 :: nat_lit 225 :: nat_lit 226 :: nat_lit 228 :: nat_lit 229 :: nat_lit 231 :: nat_lit 232 :: nat_lit 233 :: nat_lit 235 :: nat_lit 236 :: nat_lit 238 :: nat_lit 239 :: nat_lit 240 :: nat_lit 241 :: nat_lit 242 :: nat_lit 243 :: nat_lit 244 :: nat_lit 247 :: nat_lit 249 :: nat_lit 250 :: nat_lit 252 :: nat_lit 253 :: nat_lit 254 :: nat_lit 256 :: nat_lit 257 :: nat_lit 259 :: nat_lit 260 :: nat_lit 261 :: nat_lit 262 :: nat_lit 264 :: nat_lit 265 :: nat_lit 267 :: nat_lit 268 :: nat_lit 269 :: nat_lit 270 :: nat_lit 272 :: nat_lit 273 :: nat_lit 275 :: nat_lit 276 :: nat_lit 277 :: nat_lit 279 :: nat_lit 280 :: nat_lit 282 :: nat_lit 283 :: nat_lit 284 :: nat_lit 286 :: nat_lit 287 :: nat_lit 289 :: nat_lit 290 :: nat_lit 291 :: nat_lit 294 :: nat_lit 295 :: nat_lit 296 :: nat_lit 299 :: nat_lit 300 :: nat_lit 301 :: nat_lit 303 :: nat_lit 304 :: nat_lit 306 :: nat_lit 307 :: nat_lit 308 :: nat_lit 311 :: nat_lit 312 :: nat_lit 313 :: nat_lit 316 :: nat_lit 317 :: []
noncomputable def anyL (p : Nat -> Bool) (l : List Nat) : Bool := @List.rec Nat (fun _ => Bool) false (fun a _ ih => @Bool.rec (fun _ => Bool) ih true (p a)) l
theorem zhn (p : Nat -> Bool) : ∀ l : List Nat, l.any p = anyL p l
 | [] => rfl
 | a :: l => by
  rw [List.any_cons, zhn p l]
  show _ = @Bool.rec (fun _ => Bool) (anyL p l) true (p a)
  cases p a <;> rfl
noncomputable def anyA (xs : Array Nat) (p : Nat -> Bool) (i j : Nat) : Bool := @Bool.rec (fun _ => Bool) (xs.any p i j) (anyL p xs.toList) (Nat.beq i 0 && Nat.beq j xs.toList.length)
theorem zn8 : @Array.any Nat = anyA := by
 funext xs p i j
 unfold anyA
 cases h : (Nat.beq i 0 && Nat.beq j xs.toList.length) with
 | false => rfl
 | true =>
  obtain ⟨h1, h2⟩ := Bool.and_eq_true_iff.mp h
  obtain rfl := Nat.eq_of_beq_eq_true h1
  obtain rfl := Nat.eq_of_beq_eq_true h2
  show _ = anyL p xs.toList
  rw [<- zhn, Array.any_toList]
  rfl
theorem zqj : treeTable "type.__new__" = some Builtin.«type.__new__» := by kernel_rfl
noncomputable def tbOf (b : Builtin) (T : String -> Option Builtin) : String -> Option Builtin := fun n => @Bool.rec (fun _ => Option Builtin) (T n) (some b) (Nat.beq (PySem.code n) (PySem.code "type.__new__"))
theorem znQ : treeTable = tbOf Builtin.«type.__new__» treeTable := by
 funext n
 unfold tbOf
 cases h : Nat.beq (PySem.code n) (PySem.code "type.__new__") with
 | false => rfl
 | true => rw [code_inj _ _ (Nat.eq_of_beq_eq_true h), zqj]
noncomputable def zqf (d : Str) : List Stmt -> List Stmt
 | .ClassDef a b c (.Expr (.Constant (.str _) k e) f :: bd) g h i j k' l m :: r => .ClassDef a b c (.Expr (.Constant (.str d) k e) f :: bd) g h i j k' l m :: r
 | s => s
noncomputable def allS (d : Str) : List Stmt := bE.take 5 ++ zqf d (bE.drop 5)
theorem zn9 : zoj (bE.drop 5) = docT := docP.2.trans (Fast.ofString_ofList docP.1)
theorem parts : bE = allS docT ++ [] := by
 rw [<- zn9]
 show bE = allS (zoj (bE.drop 5)) ++ []
 kernel_rfl
noncomputable def H1 (P : Params) : Heap := absHeap (zcW P) 318 {}
noncomputable def q : Program := view PySem.Challenge.pw_rt0114_02 [0, 2, 3, 4, 5, 7, 8, 9, 14, 16, 17, 18, 19, 20, 21]
noncomputable def loose : List Str := [Str.ofString "_tuplegetter", Str.ofString "Match", Str.ofString "SequenceMatcher", Str.ofString "b2a_base64", Str.ofString "b64encode"]
noncomputable def eqR (tb : String -> Option Builtin) (w : World) (N : Nat) (t t' : BT) (n n' k k' : Nat) (sts : List Stmt) (env : Env) (ps ps' : Pos) : Prop :=
 (fun (_p : Program) (b : List Stmt) (os : OsState) => segRunT tb _p w 11 (some (Value.ref 6)) 1 N (SharedT.mk t n {} ⟨[]⟩ {} k os)
  (piecesOf sts env (Code.body b env) ps [topFrame ⟨0, 0, 0, 0⟩])) =
 fun _ b os => some (.next, SharedT.mk t' n' {} ⟨[]⟩ {} k' os, Code.body b env, ps')
noncomputable def eq0R (tb : String -> Option Builtin) (w : World) (p : Program) (t : BT) (b : List Stmt) (env : Env) : Prop :=
 (fun (os : OsState) => topGo tb p w 11 (some (Value.ref 6)) 12 ⟨boot_heap w.params, ⟨[]⟩, boot_drawn, boot_toks, os⟩ (topStub p)) =
 fun os => some ((SharedT.mk t 15 {} ⟨[]⟩ {} 187 os).abs, ⟨denote tb (Code.body b env), Code.body b env, ⟨0, 0, 0, 0⟩, [topFrame ⟨0, 0, 0, 0⟩]⟩)
noncomputable def eqBR (tb : String -> Option Builtin) (w : World) (p : Program) (t : BT) (b : List Stmt) (env : Env) : Prop :=
 (fun (os : OsState) => segRun tb p w 11 (some (Value.ref 6)) 1 1 (SharedT.mk t 15 {} ⟨[]⟩ {} 187 os).abs (blockOf b env (Code.body b env) ⟨0, 0, 0, 0⟩ [topFrame ⟨0, 0, 0, 0⟩])) =
 fun os => some (.next, (SharedT.mk t 15 {} ⟨[]⟩ {} 187 os).abs, Code.body b env, ⟨0, 0, 0, 0⟩)
noncomputable def eqFR (tb : String -> Option Builtin) (w : World) (p : Program) (t : BT) (h : Heap) (b : List Stmt) (env : Env) : Prop :=
 (fun (os : OsState) => topRun tb p w 11 (some (Value.ref 6)) 2 (SharedT.mk t 318 {} ⟨[]⟩ {} 684 os).abs ⟨doneF .next, Code.body b env, { line := 543, col := 0, endLine := 565, endCol := 122 }, [topFrame ⟨0, 0, 0, 0⟩]⟩) =
 fun os => some ⟨h, ⟨[]⟩, {}, 684, os⟩
noncomputable def lk0R (w : World) : Prop := ((boot_heap w.params).isNs mainGlobals && (⟨[]⟩ : Array GenState).size == 0, (boot_heap w.params).objs.size, (boot_heap w.params).nsMap mainGlobals "__annotations__") = (true, 11, some (Value.ref 6))
noncomputable def lk1R (w : World) (p : Program) (h : Heap) : Prop := (fun (os : OsState) => (staticsOk (importedModules p.main.body) (boot_heap w.params) h && namesBound p h && gensDone ⟨h, ⟨[]⟩, {}, 684, os⟩ && laidKept (boot_heap w.params) h)) = fun _ => true
noncomputable def lk2R (w : World) (p q : Program) (loose : List Str) (h : Heap) : Prop := (fun (os : OsState) => openSeen q loose (importedModules p.main.body) (fun s => xlAt q [] s && recOk [] s) true ⟨h, ⟨[]⟩, {}, 684, os⟩) = fun _ => openGood q loose
theorem zn3 : eqR = eqR := rfl
theorem zji : eq0R = eq0R := rfl
theorem zjB : eqBR = eqBR := rfl
theorem zjO : eqFR = eqFR := rfl
theorem zjZ : lk0R = lk0R := rfl
theorem zjn : lk1R = lk1R := rfl
theorem zjL : lk2R = lk2R := rfl
name_quick mineEqR for eqR by zn3
name_quick mineEq0R for eq0R by zji
name_quick mineEqBR for eqBR by zjB
name_quick mineEqFR for eqFR by zjO
name_quick mineLk0R for lk0R by zjZ
name_quick mineLk1R for lk1R by zjn
name_quick mineLk2R for lk2R by zjL
theorem zg3 : treeTable = treeTable := rfl
name_quick mineTb for treeTable by zg3
theorem znf : Builtin.«type.__new__» = Builtin.«type.__new__» := rfl
name_quick mineNew for Builtin.«type.__new__» by znf
theorem zhc (w : World) : eq0R treeTable w PySem.Challenge.pw_rt0114_02 (zfq w.params) bE zdn := by
 rw [Fast.mineEq0R_eq, Fast.mineTb_eq]
 delta Fast.mineEq0R
 show _ = _
 kernel_rfl
theorem ziZ (w : World) : eqBR treeTable w PySem.Challenge.pw_rt0114_02 (zfq w.params) bE zdn := by
 rw [Fast.mineEqBR_eq, Fast.mineTb_eq]
 delta Fast.mineEqBR
 show _ = _
 kernel_rfl
theorem zhd (w : World) : eqFR treeTable w PySem.Challenge.pw_rt0114_02 (zcW w.params) (H1 w.params) bE zdn := by
 rw [Fast.mineEqFR_eq, Fast.mineTb_eq]
 delta Fast.mineEqFR
 show _ = _
 kernel_rfl
theorem ziM (w : World) : lk0R w := by
 rw [Fast.mineLk0R_eq]
 delta Fast.mineLk0R
 show _ = _
 kernel_rfl
theorem ziI (w : World) : lk1R w PySem.Challenge.pw_rt0114_02 (H1 w.params) := by
 rw [Fast.mineLk1R_eq]
 delta Fast.mineLk1R
 show _ = _
 kernel_rfl
theorem ziH (w : World) : lk2R w PySem.Challenge.pw_rt0114_02 q loose (H1 w.params) := by
 rw [Fast.mineLk2R_eq]
 delta Fast.mineLk2R
 show _ = _
 kernel_rfl
theorem zi3 (w : World) : eqR treeTable w 2473 (zfq w.params) (zcW w.params) 15 318 187 684 (allS docT) zdn { line := 0, col := 0, endLine := 0, endCol := 0 } { line := 543, col := 0, endLine := 565, endCol := 122 } := by
 rw [Fast.mineEqR_eq, znQ, Fast.mineTb_eq, Fast.mineNew_eq]
 delta Fast.mineNew
 delta Fast.tw4202317264376624991
 rw [zn8]
 delta Fast.mineEqR
 show _ = _
 kernel_rfl
theorem zeL : ∀ P, Kas = (K P).map (·.1) := fun _ => by kernel_rfl
theorem znP (P : Params) : Kas.map (H1 P).get? = (K P).map fun p => some p.2 := by kernel_rfl
theorem run (w : World) (os : OsState) : topRun treeTable PySem.Challenge.pw_rt0114_02 w 11 (some (Value.ref 6)) (12 + (1 + (2473 + 2))) ⟨boot_heap w.params, ⟨[]⟩, boot_drawn, boot_toks, os⟩ (topStub PySem.Challenge.pw_rt0114_02) =
  some ⟨H1 w.params, ⟨[]⟩, {}, 684, os⟩ := by
 refine go_top (congrFun (zhc w) os) ?_
 refine piece_block (congrFun (ziZ w) os) ?_
 refine (congrArg (fun l => topRun treeTable PySem.Challenge.pw_rt0114_02 w 11 (some (Value.ref 6)) _ _ (restOf l zdn (Code.body bE zdn) ⟨0, 0, 0, 0⟩ [topFrame ⟨0, 0, 0, 0⟩])) parts).trans ?_
 refine piece_app (segRun_of (congrFun (congrFun (congrFun (zi3 w) PySem.Challenge.pw_rt0114_02) bE) os)) ?_
 exact piece_nil (congrFun (zhd w) os)
theorem zgJ : opening PySem.Challenge.pw_rt0114_02 = plainProg PySem.Challenge.pw_rt0114_02.main.scope.names := by kernel_rfl
theorem zjv (s : Shared) : fenceModules? PySem.Challenge.pw_rt0114_02 s = some s := by kernel_rfl
theorem left : LeftO PySem.Challenge.pw_rt0114_02 q loose (fun s => xlAt q [] s && recOk [] s) (Hook.obs (kHook K Kas zeL)) (Hook.val (kHook K Kas zeL)) 5018 :=
 LeftO.of_pieces (H₀ := boot_heap) (H₁ := H1) (gs₀ := ⟨[]⟩) (gs₁ := ⟨[]⟩) (d₀ := boot_drawn) (d₁ := {}) (k₀ := boot_toks) (k₁ := 684) (m₀ := 11) (ann := some (Value.ref 6)) (M := 12 + (1 + (2473 + 2)))
  (boot_open zgJ (by decide) zjv) (fun w => ziM w) run (by decide)
  (fun w => funext fun os => Prod.ext (congrFun (ziI w) os) (Prod.ext (congrFun (ziH w) os) (znP w.params)))
end
theorem bc {G : Prop} (h : ¬ G -> False) : G := Classical.byContradiction h
theorem mins (a b : Nat) : min a b <= a /\ min a b <= b /\ (min a b = a \/ min a b = b) := ⟨Nat.min_le_left _ _, Nat.min_le_right _ _, (Nat.le_total a b).elim (fun h => .inl (Nat.min_eq_left h)) (fun h => .inr (Nat.min_eq_right h))⟩
theorem tons (mv : Int) : ((mv.toNat : Nat) : Int) - ((-mv).toNat : Nat) = mv /\ (mv.toNat = 0 \/ (-mv).toNat = 0) := by
 cases mv with
 | ofNat n => exact ⟨by simp, .inr (by simp)⟩
 | negSucc n => exact ⟨rfl, .inl rfl⟩
theorem znF {a b x y k : Nat} (h : k < min (x - a) (y - b)) : a + k < x /\ b + k < y := ⟨Nat.add_lt_of_lt_sub' (Nat.lt_of_lt_of_le h (Nat.min_le_left _ _)), Nat.add_lt_of_lt_sub' (Nat.lt_of_lt_of_le h (Nat.min_le_right _ _))⟩
theorem fc {α : Type} {a : α} {l : List α} {p : α -> Prop} (h : p a) (k : ∀ x, x ∈ l -> p x) : ∀ x, x ∈ a :: l -> p x := List.forall_mem_cons.mpr ⟨h, k⟩
theorem fn {α : Type} {p : α -> Prop} : ∀ x, x ∈ ([] : List α) -> p x := fun _ h => nomatch h
theorem zif {α β : Type} [DecidableEq β] {z x : β} {t e r : α} (h : z ≠ x) (k : e = r) : (if z = x then t else e) = r := (if_neg h).trans k
theorem znH {α β : Type} [BEq β] {z : β} {l : List β} {t e r : α} (h : l.contains z = false) (k : e = r) : (if l.contains z = true then t else e) = r := (if_neg (by rw [h]; decide)).trans k
theorem cj2 {a1 a2 P : Prop} (h : a1 /\ a2) (k : a1 -> a2 -> P) : P := k h.1 h.2
theorem cj3 {a1 a2 a3 P : Prop} (h : a1 /\ a2 /\ a3) (k : a1 -> a2 -> a3 -> P) : P := k h.1 h.2.1 h.2.2
theorem cj4 {a1 a2 a3 a4 P : Prop} (h : a1 /\ a2 /\ a3 /\ a4) (k : a1 -> a2 -> a3 -> a4 -> P) : P := k h.1 h.2.1 h.2.2.1 h.2.2.2
theorem cj5 {a1 a2 a3 a4 a5 P : Prop} (h : a1 /\ a2 /\ a3 /\ a4 /\ a5) (k : a1 -> a2 -> a3 -> a4 -> a5 -> P) : P := k h.1 h.2.1 h.2.2.1 h.2.2.2.1 h.2.2.2.2
theorem cj6 {a1 a2 a3 a4 a5 a6 P : Prop} (h : a1 /\ a2 /\ a3 /\ a4 /\ a5 /\ a6) (k : a1 -> a2 -> a3 -> a4 -> a5 -> a6 -> P) : P := k h.1 h.2.1 h.2.2.1 h.2.2.2.1 h.2.2.2.2.1 h.2.2.2.2.2
theorem cj7 {a1 a2 a3 a4 a5 a6 a7 P : Prop} (h : a1 /\ a2 /\ a3 /\ a4 /\ a5 /\ a6 /\ a7) (k : a1 -> a2 -> a3 -> a4 -> a5 -> a6 -> a7 -> P) : P := k h.1 h.2.1 h.2.2.1 h.2.2.2.1 h.2.2.2.2.1 h.2.2.2.2.2.1 h.2.2.2.2.2.2
theorem cj8 {a1 a2 a3 a4 a5 a6 a7 a8 P : Prop} (h : a1 /\ a2 /\ a3 /\ a4 /\ a5 /\ a6 /\ a7 /\ a8) (k : a1 -> a2 -> a3 -> a4 -> a5 -> a6 -> a7 -> a8 -> P) : P := k h.1 h.2.1 h.2.2.1 h.2.2.2.1 h.2.2.2.2.1 h.2.2.2.2.2.1 h.2.2.2.2.2.2.1 h.2.2.2.2.2.2.2
theorem cj11 {a1 a2 a3 a4 a5 a6 a7 a8 a9 a10 a11 P : Prop} (h : a1 /\ a2 /\ a3 /\ a4 /\ a5 /\ a6 /\ a7 /\ a8 /\ a9 /\ a10 /\ a11) (k : a1 -> a2 -> a3 -> a4 -> a5 -> a6 -> a7 -> a8 -> a9 -> a10 -> a11 -> P) : P := k h.1 h.2.1 h.2.2.1 h.2.2.2.1 h.2.2.2.2.1 h.2.2.2.2.2.1 h.2.2.2.2.2.2.1 h.2.2.2.2.2.2.2.1 h.2.2.2.2.2.2.2.2.1 h.2.2.2.2.2.2.2.2.2.1 h.2.2.2.2.2.2.2.2.2.2
theorem x_AE {α1 : Type} {P1 : Prop} {P2 : α1 -> Prop} {G : Prop} (h : P1 /\ ∃ a1, P2 a1) (k : P1 -> ∀ a1, P2 a1 -> G) : G := Exists.elim (h.2) fun a1 g0 => k h.1 a1 g0
theorem zpr {α1 : Type} {P1 : Prop} {P2 : α1 -> Prop} {P3 : α1 -> Prop} {G : Prop} (h : P1 /\ ∃ a1, P2 a1 /\ P3 a1) (k : P1 -> ∀ a1, P2 a1 -> P3 a1 -> G) : G := Exists.elim (h.2) fun a1 g0 => k h.1 a1 g0.1 g0.2
theorem znp {α1 α2 : Type} {P1 : Prop} {P2 : α1 -> α2 -> Prop} {P3 : α1 -> α2 -> Prop} {P4 : α1 -> α2 -> Prop} {G : Prop} (h : P1 /\ ∃ a1, ∃ a2, P2 a1 a2 /\ P3 a1 a2 /\ P4 a1 a2) (k : P1 -> ∀ a1, ∀ a2, P2 a1 a2 -> P3 a1 a2 -> P4 a1 a2 -> G) : G := Exists.elim (h.2) fun a1 g0 => Exists.elim g0 fun a2 g1 => k h.1 a1 a2 g1.1 g1.2.1 g1.2.2
theorem zbb {α1 α2 α3 α4 α5 : Type} {P1 : Prop} {P2 : α1 -> α2 -> α3 -> α4 -> α5 -> Prop} {P3 : α1 -> α2 -> α3 -> α4 -> α5 -> Prop} {P4 : α1 -> α2 -> α3 -> α4 -> α5 -> Prop} {P5 : α1 -> α2 -> α3 -> α4 -> α5 -> Prop} {P6 : α1 -> α2 -> α3 -> α4 -> α5 -> Prop} {P7 : α1 -> α2 -> α3 -> α4 -> α5 -> Prop} {P8 : α1 -> α2 -> α3 -> α4 -> α5 -> Prop} {P9 : α1 -> α2 -> α3 -> α4 -> α5 -> Prop} {P10 : α1 -> α2 -> α3 -> α4 -> α5 -> Prop} {G : Prop} (h : P1 /\ ∃ a1, ∃ a2, ∃ a3, ∃ a4, ∃ a5, P2 a1 a2 a3 a4 a5 /\ P3 a1 a2 a3 a4 a5 /\ P4 a1 a2 a3 a4 a5 /\ P5 a1 a2 a3 a4 a5 /\ P6 a1 a2 a3 a4 a5 /\ P7 a1 a2 a3 a4 a5 /\ P8 a1 a2 a3 a4 a5 /\ P9 a1 a2 a3 a4 a5 /\ P10 a1 a2 a3 a4 a5) (k : P1 -> ∀ a1, ∀ a2, ∀ a3, ∀ a4, ∀ a5, P2 a1 a2 a3 a4 a5 -> P3 a1 a2 a3 a4 a5 -> P4 a1 a2 a3 a4 a5 -> P5 a1 a2 a3 a4 a5 -> P6 a1 a2 a3 a4 a5 -> P7 a1 a2 a3 a4 a5 -> P8 a1 a2 a3 a4 a5 -> P9 a1 a2 a3 a4 a5 -> P10 a1 a2 a3 a4 a5 -> G) : G := Exists.elim (h.2) fun a1 g0 => Exists.elim g0 fun a2 g1 => Exists.elim g1 fun a3 g2 => Exists.elim g2 fun a4 g3 => Exists.elim g3 fun a5 g4 => k h.1 a1 a2 a3 a4 a5 g4.1 g4.2.1 g4.2.2.1 g4.2.2.2.1 g4.2.2.2.2.1 g4.2.2.2.2.2.1 g4.2.2.2.2.2.2.1 g4.2.2.2.2.2.2.2.1 g4.2.2.2.2.2.2.2.2
theorem x_E {α1 : Type} {P1 : α1 -> Prop} {G : Prop} (h : ∃ a1, P1 a1) (k : ∀ a1, P1 a1 -> G) : G := Exists.elim h fun a1 g0 => k a1 g0
theorem x_EA {α1 : Type} {P1 : α1 -> Prop} {P2 : α1 -> Prop} {G : Prop} (h : ∃ a1, P1 a1 /\ P2 a1) (k : ∀ a1, P1 a1 -> P2 a1 -> G) : G := Exists.elim h fun a1 g0 => k a1 g0.1 g0.2
theorem zaW {α1 : Type} {P1 : α1 -> Prop} {P2 : α1 -> Prop} {P3 : α1 -> Prop} {G : Prop} (h : ∃ a1, P1 a1 /\ P2 a1 /\ P3 a1) (k : ∀ a1, P1 a1 -> P2 a1 -> P3 a1 -> G) : G := Exists.elim h fun a1 g0 => k a1 g0.1 g0.2.1 g0.2.2
theorem zcF {α1 : Type} {P1 : α1 -> Prop} {P2 : α1 -> Prop} {P3 : α1 -> Prop} {P4 : α1 -> Prop} {P5 : α1 -> Prop} {G : Prop} (h : ∃ a1, P1 a1 /\ P2 a1 /\ P3 a1 /\ P4 a1 /\ P5 a1) (k : ∀ a1, P1 a1 -> P2 a1 -> P3 a1 -> P4 a1 -> P5 a1 -> G) : G := Exists.elim h fun a1 g0 => k a1 g0.1 g0.2.1 g0.2.2.1 g0.2.2.2.1 g0.2.2.2.2
theorem ziD {α1 α2 : Type} {P1 : α1 -> Prop} {P2 : α1 -> Prop} {P3 : α1 -> α2 -> Prop} {G : Prop} (h : ∃ a1, P1 a1 /\ P2 a1 /\ ∃ a2, P3 a1 a2) (k : ∀ a1, P1 a1 -> P2 a1 -> ∀ a2, P3 a1 a2 -> G) : G := Exists.elim h fun a1 g0 => Exists.elim (g0.2.2) fun a2 g1 => k a1 g0.1 g0.2.1 a2 g1
theorem zp7 {α1 α2 : Type} {P1 : α1 -> Prop} {P2 : α1 -> α2 -> Prop} {P3 : α1 -> α2 -> Prop} {G : Prop} (h : ∃ a1, P1 a1 /\ ∃ a2, P2 a1 a2 /\ P3 a1 a2) (k : ∀ a1, P1 a1 -> ∀ a2, P2 a1 a2 -> P3 a1 a2 -> G) : G := Exists.elim h fun a1 g0 => Exists.elim (g0.2) fun a2 g1 => k a1 g0.1 a2 g1.1 g1.2
theorem x_EE {α1 α2 : Type} {P1 : α1 -> α2 -> Prop} {G : Prop} (h : ∃ a1, ∃ a2, P1 a1 a2) (k : ∀ a1, ∀ a2, P1 a1 a2 -> G) : G := Exists.elim h fun a1 g0 => Exists.elim g0 fun a2 g1 => k a1 a2 g1
theorem zgn {α1 α2 : Type} {P1 : α1 -> α2 -> Prop} {P2 : α1 -> α2 -> Prop} {G : Prop} (h : ∃ a1, ∃ a2, P1 a1 a2 /\ P2 a1 a2) (k : ∀ a1, ∀ a2, P1 a1 a2 -> P2 a1 a2 -> G) : G := Exists.elim h fun a1 g0 => Exists.elim g0 fun a2 g1 => k a1 a2 g1.1 g1.2
theorem zeK {α1 α2 : Type} {P1 : α1 -> α2 -> Prop} {P2 : α1 -> α2 -> Prop} {P3 : α1 -> α2 -> Prop} {G : Prop} (h : ∃ a1, ∃ a2, P1 a1 a2 /\ P2 a1 a2 /\ P3 a1 a2) (k : ∀ a1, ∀ a2, P1 a1 a2 -> P2 a1 a2 -> P3 a1 a2 -> G) : G := Exists.elim h fun a1 g0 => Exists.elim g0 fun a2 g1 => k a1 a2 g1.1 g1.2.1 g1.2.2
theorem zdC {α1 α2 : Type} {P1 : α1 -> α2 -> Prop} {P2 : α1 -> α2 -> Prop} {P3 : α1 -> α2 -> Prop} {P4 : α1 -> α2 -> Prop} {G : Prop} (h : ∃ a1, ∃ a2, P1 a1 a2 /\ P2 a1 a2 /\ P3 a1 a2 /\ P4 a1 a2) (k : ∀ a1, ∀ a2, P1 a1 a2 -> P2 a1 a2 -> P3 a1 a2 -> P4 a1 a2 -> G) : G := Exists.elim h fun a1 g0 => Exists.elim g0 fun a2 g1 => k a1 a2 g1.1 g1.2.1 g1.2.2.1 g1.2.2.2
theorem zbp {α1 α2 : Type} {P1 : α1 -> α2 -> Prop} {P2 : α1 -> α2 -> Prop} {P3 : α1 -> α2 -> Prop} {P4 : α1 -> α2 -> Prop} {P5 : α1 -> α2 -> Prop} {G : Prop} (h : ∃ a1, ∃ a2, P1 a1 a2 /\ P2 a1 a2 /\ P3 a1 a2 /\ P4 a1 a2 /\ P5 a1 a2) (k : ∀ a1, ∀ a2, P1 a1 a2 -> P2 a1 a2 -> P3 a1 a2 -> P4 a1 a2 -> P5 a1 a2 -> G) : G := Exists.elim h fun a1 g0 => Exists.elim g0 fun a2 g1 => k a1 a2 g1.1 g1.2.1 g1.2.2.1 g1.2.2.2.1 g1.2.2.2.2
theorem zck {α1 α2 α3 : Type} {P1 : α1 -> α2 -> α3 -> Prop} {P2 : α1 -> α2 -> α3 -> Prop} {G : Prop} (h : ∃ a1, ∃ a2, ∃ a3, P1 a1 a2 a3 /\ P2 a1 a2 a3) (k : ∀ a1, ∀ a2, ∀ a3, P1 a1 a2 a3 -> P2 a1 a2 a3 -> G) : G := Exists.elim h fun a1 g0 => Exists.elim g0 fun a2 g1 => Exists.elim g1 fun a3 g2 => k a1 a2 a3 g2.1 g2.2
theorem zbk {α1 α2 α3 : Type} {P1 : α1 -> α2 -> α3 -> Prop} {P2 : α1 -> α2 -> α3 -> Prop} {P3 : α1 -> α2 -> α3 -> Prop} {G : Prop} (h : ∃ a1, ∃ a2, ∃ a3, P1 a1 a2 a3 /\ P2 a1 a2 a3 /\ P3 a1 a2 a3) (k : ∀ a1, ∀ a2, ∀ a3, P1 a1 a2 a3 -> P2 a1 a2 a3 -> P3 a1 a2 a3 -> G) : G := Exists.elim h fun a1 g0 => Exists.elim g0 fun a2 g1 => Exists.elim g1 fun a3 g2 => k a1 a2 a3 g2.1 g2.2.1 g2.2.2
theorem zj6 {α1 α2 α3 : Type} {P1 : α1 -> α2 -> α3 -> Prop} {P2 : α1 -> α2 -> α3 -> Prop} {P3 : α1 -> α2 -> α3 -> Prop} {P4 : α1 -> α2 -> α3 -> Prop} {G : Prop} (h : ∃ a1, ∃ a2, ∃ a3, P1 a1 a2 a3 /\ P2 a1 a2 a3 /\ P3 a1 a2 a3 /\ P4 a1 a2 a3) (k : ∀ a1, ∀ a2, ∀ a3, P1 a1 a2 a3 -> P2 a1 a2 a3 -> P3 a1 a2 a3 -> P4 a1 a2 a3 -> G) : G := Exists.elim h fun a1 g0 => Exists.elim g0 fun a2 g1 => Exists.elim g1 fun a3 g2 => k a1 a2 a3 g2.1 g2.2.1 g2.2.2.1 g2.2.2.2
theorem ziR {α1 α2 α3 : Type} {P1 : α1 -> α2 -> α3 -> Prop} {P2 : α1 -> α2 -> α3 -> Prop} {P3 : α1 -> α2 -> α3 -> Prop} {P4 : α1 -> α2 -> α3 -> Prop} {P5 : α1 -> α2 -> α3 -> Prop} {G : Prop} (h : ∃ a1, ∃ a2, ∃ a3, P1 a1 a2 a3 /\ P2 a1 a2 a3 /\ P3 a1 a2 a3 /\ P4 a1 a2 a3 /\ P5 a1 a2 a3) (k : ∀ a1, ∀ a2, ∀ a3, P1 a1 a2 a3 -> P2 a1 a2 a3 -> P3 a1 a2 a3 -> P4 a1 a2 a3 -> P5 a1 a2 a3 -> G) : G := Exists.elim h fun a1 g0 => Exists.elim g0 fun a2 g1 => Exists.elim g1 fun a3 g2 => k a1 a2 a3 g2.1 g2.2.1 g2.2.2.1 g2.2.2.2.1 g2.2.2.2.2
theorem zb6 {α1 α2 α3 : Type} {P1 : α1 -> α2 -> α3 -> Prop} {P2 : α1 -> α2 -> α3 -> Prop} {P3 : α1 -> α2 -> α3 -> Prop} {P4 : α1 -> α2 -> α3 -> Prop} {P5 : α1 -> α2 -> α3 -> Prop} {P6 : α1 -> α2 -> α3 -> Prop} {G : Prop} (h : ∃ a1, ∃ a2, ∃ a3, P1 a1 a2 a3 /\ P2 a1 a2 a3 /\ P3 a1 a2 a3 /\ P4 a1 a2 a3 /\ P5 a1 a2 a3 /\ P6 a1 a2 a3) (k : ∀ a1, ∀ a2, ∀ a3, P1 a1 a2 a3 -> P2 a1 a2 a3 -> P3 a1 a2 a3 -> P4 a1 a2 a3 -> P5 a1 a2 a3 -> P6 a1 a2 a3 -> G) : G := Exists.elim h fun a1 g0 => Exists.elim g0 fun a2 g1 => Exists.elim g1 fun a3 g2 => k a1 a2 a3 g2.1 g2.2.1 g2.2.2.1 g2.2.2.2.1 g2.2.2.2.2.1 g2.2.2.2.2.2
theorem ze8 {α1 α2 α3 : Type} {P1 : α1 -> α2 -> α3 -> Prop} {P2 : α1 -> α2 -> α3 -> Prop} {P3 : α1 -> α2 -> α3 -> Prop} {P4 : α1 -> α2 -> α3 -> Prop} {P5 : α1 -> α2 -> α3 -> Prop} {P6 : α1 -> α2 -> α3 -> Prop} {P7 : α1 -> α2 -> α3 -> Prop} {G : Prop} (h : ∃ a1, ∃ a2, ∃ a3, P1 a1 a2 a3 /\ P2 a1 a2 a3 /\ P3 a1 a2 a3 /\ P4 a1 a2 a3 /\ P5 a1 a2 a3 /\ P6 a1 a2 a3 /\ P7 a1 a2 a3) (k : ∀ a1, ∀ a2, ∀ a3, P1 a1 a2 a3 -> P2 a1 a2 a3 -> P3 a1 a2 a3 -> P4 a1 a2 a3 -> P5 a1 a2 a3 -> P6 a1 a2 a3 -> P7 a1 a2 a3 -> G) : G := Exists.elim h fun a1 g0 => Exists.elim g0 fun a2 g1 => Exists.elim g1 fun a3 g2 => k a1 a2 a3 g2.1 g2.2.1 g2.2.2.1 g2.2.2.2.1 g2.2.2.2.2.1 g2.2.2.2.2.2.1 g2.2.2.2.2.2.2
theorem zbZ {α1 α2 α3 α4 α5 α6 : Type} {P1 : α1 -> α2 -> α3 -> Prop} {P2 : α1 -> α2 -> α3 -> Prop} {P3 : α1 -> α2 -> α3 -> α4 -> α5 -> α6 -> Prop} {P4 : α1 -> α2 -> α3 -> α4 -> α5 -> α6 -> Prop} {P5 : α1 -> α2 -> α3 -> α4 -> α5 -> α6 -> Prop} {P6 : α1 -> α2 -> α3 -> α4 -> α5 -> α6 -> Prop} {P7 : α1 -> α2 -> α3 -> α4 -> α5 -> α6 -> Prop} {P8 : α1 -> α2 -> α3 -> α4 -> α5 -> α6 -> Prop} {P9 : α1 -> α2 -> α3 -> α4 -> α5 -> α6 -> Prop} {P10 : α1 -> α2 -> α3 -> α4 -> α5 -> α6 -> Prop} {P11 : α1 -> α2 -> α3 -> α4 -> α5 -> α6 -> Prop} {G : Prop} (h : ∃ a1, ∃ a2, ∃ a3, P1 a1 a2 a3 /\ P2 a1 a2 a3 /\ ∃ a4, ∃ a5, ∃ a6, P3 a1 a2 a3 a4 a5 a6 /\ P4 a1 a2 a3 a4 a5 a6 /\ P5 a1 a2 a3 a4 a5 a6 /\ P6 a1 a2 a3 a4 a5 a6 /\ P7 a1 a2 a3 a4 a5 a6 /\ P8 a1 a2 a3 a4 a5 a6 /\ P9 a1 a2 a3 a4 a5 a6 /\ P10 a1 a2 a3 a4 a5 a6 /\ P11 a1 a2 a3 a4 a5 a6) (k : ∀ a1, ∀ a2, ∀ a3, P1 a1 a2 a3 -> P2 a1 a2 a3 -> ∀ a4, ∀ a5, ∀ a6, P3 a1 a2 a3 a4 a5 a6 -> P4 a1 a2 a3 a4 a5 a6 -> P5 a1 a2 a3 a4 a5 a6 -> P6 a1 a2 a3 a4 a5 a6 -> P7 a1 a2 a3 a4 a5 a6 -> P8 a1 a2 a3 a4 a5 a6 -> P9 a1 a2 a3 a4 a5 a6 -> P10 a1 a2 a3 a4 a5 a6 -> P11 a1 a2 a3 a4 a5 a6 -> G) : G := Exists.elim h fun a1 g0 => Exists.elim g0 fun a2 g1 => Exists.elim g1 fun a3 g2 => Exists.elim (g2.2.2) fun a4 g3 => Exists.elim g3 fun a5 g4 => Exists.elim g4 fun a6 g5 => k a1 a2 a3 g2.1 g2.2.1 a4 a5 a6 g5.1 g5.2.1 g5.2.2.1 g5.2.2.2.1 g5.2.2.2.2.1 g5.2.2.2.2.2.1 g5.2.2.2.2.2.2.1 g5.2.2.2.2.2.2.2.1 g5.2.2.2.2.2.2.2.2
theorem ziY {α1 α2 α3 α4 : Type} {P1 : α1 -> α2 -> α3 -> α4 -> Prop} {P2 : α1 -> α2 -> α3 -> α4 -> Prop} {G : Prop} (h : ∃ a1, ∃ a2, ∃ a3, ∃ a4, P1 a1 a2 a3 a4 /\ P2 a1 a2 a3 a4) (k : ∀ a1, ∀ a2, ∀ a3, ∀ a4, P1 a1 a2 a3 a4 -> P2 a1 a2 a3 a4 -> G) : G := Exists.elim h fun a1 g0 => Exists.elim g0 fun a2 g1 => Exists.elim g1 fun a3 g2 => Exists.elim g2 fun a4 g3 => k a1 a2 a3 a4 g3.1 g3.2
theorem ziG {α1 α2 α3 α4 : Type} {P1 : α1 -> α2 -> α3 -> α4 -> Prop} {P2 : α1 -> α2 -> α3 -> α4 -> Prop} {P3 : α1 -> α2 -> α3 -> α4 -> Prop} {P4 : α1 -> α2 -> α3 -> α4 -> Prop} {G : Prop} (h : ∃ a1, ∃ a2, ∃ a3, ∃ a4, P1 a1 a2 a3 a4 /\ P2 a1 a2 a3 a4 /\ P3 a1 a2 a3 a4 /\ P4 a1 a2 a3 a4) (k : ∀ a1, ∀ a2, ∀ a3, ∀ a4, P1 a1 a2 a3 a4 -> P2 a1 a2 a3 a4 -> P3 a1 a2 a3 a4 -> P4 a1 a2 a3 a4 -> G) : G := Exists.elim h fun a1 g0 => Exists.elim g0 fun a2 g1 => Exists.elim g1 fun a3 g2 => Exists.elim g2 fun a4 g3 => k a1 a2 a3 a4 g3.1 g3.2.1 g3.2.2.1 g3.2.2.2
theorem zav {α1 α2 α3 α4 α5 : Type} {P1 : α1 -> α2 -> α3 -> α4 -> α5 -> Prop} {P2 : α1 -> α2 -> α3 -> α4 -> α5 -> Prop} {G : Prop} (h : ∃ a1, ∃ a2, ∃ a3, ∃ a4, ∃ a5, P1 a1 a2 a3 a4 a5 /\ P2 a1 a2 a3 a4 a5) (k : ∀ a1, ∀ a2, ∀ a3, ∀ a4, ∀ a5, P1 a1 a2 a3 a4 a5 -> P2 a1 a2 a3 a4 a5 -> G) : G := Exists.elim h fun a1 g0 => Exists.elim g0 fun a2 g1 => Exists.elim g1 fun a3 g2 => Exists.elim g2 fun a4 g3 => Exists.elim g3 fun a5 g4 => k a1 a2 a3 a4 a5 g4.1 g4.2
theorem zcG {α1 α2 α3 α4 α5 : Type} {P1 : α1 -> α2 -> α3 -> α4 -> α5 -> Prop} {P2 : α1 -> α2 -> α3 -> α4 -> α5 -> Prop} {P3 : α1 -> α2 -> α3 -> α4 -> α5 -> Prop} {G : Prop} (h : ∃ a1, ∃ a2, ∃ a3, ∃ a4, ∃ a5, P1 a1 a2 a3 a4 a5 /\ P2 a1 a2 a3 a4 a5 /\ P3 a1 a2 a3 a4 a5) (k : ∀ a1, ∀ a2, ∀ a3, ∀ a4, ∀ a5, P1 a1 a2 a3 a4 a5 -> P2 a1 a2 a3 a4 a5 -> P3 a1 a2 a3 a4 a5 -> G) : G := Exists.elim h fun a1 g0 => Exists.elim g0 fun a2 g1 => Exists.elim g1 fun a3 g2 => Exists.elim g2 fun a4 g3 => Exists.elim g3 fun a5 g4 => k a1 a2 a3 a4 a5 g4.1 g4.2.1 g4.2.2
theorem zcw {α1 α2 α3 α4 α5 : Type} {P1 : α1 -> α2 -> α3 -> α4 -> α5 -> Prop} {P2 : α1 -> α2 -> α3 -> α4 -> α5 -> Prop} {P3 : α1 -> α2 -> α3 -> α4 -> α5 -> Prop} {P4 : α1 -> α2 -> α3 -> α4 -> α5 -> Prop} {P5 : α1 -> α2 -> α3 -> α4 -> α5 -> Prop} {P6 : α1 -> α2 -> α3 -> α4 -> α5 -> Prop} {P7 : α1 -> α2 -> α3 -> α4 -> α5 -> Prop} {P8 : α1 -> α2 -> α3 -> α4 -> α5 -> Prop} {P9 : α1 -> α2 -> α3 -> α4 -> α5 -> Prop} {G : Prop} (h : ∃ a1, ∃ a2, ∃ a3, ∃ a4, ∃ a5, P1 a1 a2 a3 a4 a5 /\ P2 a1 a2 a3 a4 a5 /\ P3 a1 a2 a3 a4 a5 /\ P4 a1 a2 a3 a4 a5 /\ P5 a1 a2 a3 a4 a5 /\ P6 a1 a2 a3 a4 a5 /\ P7 a1 a2 a3 a4 a5 /\ P8 a1 a2 a3 a4 a5 /\ P9 a1 a2 a3 a4 a5) (k : ∀ a1, ∀ a2, ∀ a3, ∀ a4, ∀ a5, P1 a1 a2 a3 a4 a5 -> P2 a1 a2 a3 a4 a5 -> P3 a1 a2 a3 a4 a5 -> P4 a1 a2 a3 a4 a5 -> P5 a1 a2 a3 a4 a5 -> P6 a1 a2 a3 a4 a5 -> P7 a1 a2 a3 a4 a5 -> P8 a1 a2 a3 a4 a5 -> P9 a1 a2 a3 a4 a5 -> G) : G := Exists.elim h fun a1 g0 => Exists.elim g0 fun a2 g1 => Exists.elim g1 fun a3 g2 => Exists.elim g2 fun a4 g3 => Exists.elim g3 fun a5 g4 => k a1 a2 a3 a4 a5 g4.1 g4.2.1 g4.2.2.1 g4.2.2.2.1 g4.2.2.2.2.1 g4.2.2.2.2.2.1 g4.2.2.2.2.2.2.1 g4.2.2.2.2.2.2.2.1 g4.2.2.2.2.2.2.2.2
theorem zil {α1 α2 α3 α4 α5 α6 : Type} {P1 : α1 -> α2 -> α3 -> α4 -> α5 -> α6 -> Prop} {P2 : α1 -> α2 -> α3 -> α4 -> α5 -> α6 -> Prop} {G : Prop} (h : ∃ a1, ∃ a2, ∃ a3, ∃ a4, ∃ a5, ∃ a6, P1 a1 a2 a3 a4 a5 a6 /\ P2 a1 a2 a3 a4 a5 a6) (k : ∀ a1, ∀ a2, ∀ a3, ∀ a4, ∀ a5, ∀ a6, P1 a1 a2 a3 a4 a5 a6 -> P2 a1 a2 a3 a4 a5 a6 -> G) : G := Exists.elim h fun a1 g0 => Exists.elim g0 fun a2 g1 => Exists.elim g1 fun a3 g2 => Exists.elim g2 fun a4 g3 => Exists.elim g3 fun a5 g4 => Exists.elim g4 fun a6 g5 => k a1 a2 a3 a4 a5 a6 g5.1 g5.2
theorem ze1 {α1 α2 α3 α4 α5 α6 : Type} {P1 : α1 -> α2 -> α3 -> α4 -> α5 -> α6 -> Prop} {P2 : α1 -> α2 -> α3 -> α4 -> α5 -> α6 -> Prop} {P3 : α1 -> α2 -> α3 -> α4 -> α5 -> α6 -> Prop} {P4 : α1 -> α2 -> α3 -> α4 -> α5 -> α6 -> Prop} {P5 : α1 -> α2 -> α3 -> α4 -> α5 -> α6 -> Prop} {G : Prop} (h : ∃ a1, ∃ a2, ∃ a3, ∃ a4, ∃ a5, ∃ a6, P1 a1 a2 a3 a4 a5 a6 /\ P2 a1 a2 a3 a4 a5 a6 /\ P3 a1 a2 a3 a4 a5 a6 /\ P4 a1 a2 a3 a4 a5 a6 /\ P5 a1 a2 a3 a4 a5 a6) (k : ∀ a1, ∀ a2, ∀ a3, ∀ a4, ∀ a5, ∀ a6, P1 a1 a2 a3 a4 a5 a6 -> P2 a1 a2 a3 a4 a5 a6 -> P3 a1 a2 a3 a4 a5 a6 -> P4 a1 a2 a3 a4 a5 a6 -> P5 a1 a2 a3 a4 a5 a6 -> G) : G := Exists.elim h fun a1 g0 => Exists.elim g0 fun a2 g1 => Exists.elim g1 fun a3 g2 => Exists.elim g2 fun a4 g3 => Exists.elim g3 fun a5 g4 => Exists.elim g4 fun a6 g5 => k a1 a2 a3 a4 a5 a6 g5.1 g5.2.1 g5.2.2.1 g5.2.2.2.1 g5.2.2.2.2
theorem zay {α1 α2 α3 α4 α5 α6 α7 α8 α9 : Type} {P1 : α1 -> α2 -> α3 -> α4 -> α5 -> α6 -> α7 -> α8 -> α9 -> Prop} {P2 : α1 -> α2 -> α3 -> α4 -> α5 -> α6 -> α7 -> α8 -> α9 -> Prop} {P3 : α1 -> α2 -> α3 -> α4 -> α5 -> α6 -> α7 -> α8 -> α9 -> Prop} {P4 : α1 -> α2 -> α3 -> α4 -> α5 -> α6 -> α7 -> α8 -> α9 -> Prop} {P5 : α1 -> α2 -> α3 -> α4 -> α5 -> α6 -> α7 -> α8 -> α9 -> Prop} {P6 : α1 -> α2 -> α3 -> α4 -> α5 -> α6 -> α7 -> α8 -> α9 -> Prop} {P7 : α1 -> α2 -> α3 -> α4 -> α5 -> α6 -> α7 -> α8 -> α9 -> Prop} {P8 : α1 -> α2 -> α3 -> α4 -> α5 -> α6 -> α7 -> α8 -> α9 -> Prop} {P9 : α1 -> α2 -> α3 -> α4 -> α5 -> α6 -> α7 -> α8 -> α9 -> Prop} {P10 : α1 -> α2 -> α3 -> α4 -> α5 -> α6 -> α7 -> α8 -> α9 -> Prop} {P11 : α1 -> α2 -> α3 -> α4 -> α5 -> α6 -> α7 -> α8 -> α9 -> Prop} {P12 : α1 -> α2 -> α3 -> α4 -> α5 -> α6 -> α7 -> α8 -> α9 -> Prop}  (a1 : α1) (a2 : α2) (a3 : α3) (a4 : α4) (a5 : α5) (a6 : α6) (a7 : α7) (a8 : α8) (a9 : α9) (h1 : P1 a1 a2 a3 a4 a5 a6 a7 a8 a9) (h2 : P2 a1 a2 a3 a4 a5 a6 a7 a8 a9) (h3 : P3 a1 a2 a3 a4 a5 a6 a7 a8 a9) (h4 : P4 a1 a2 a3 a4 a5 a6 a7 a8 a9) (h5 : P5 a1 a2 a3 a4 a5 a6 a7 a8 a9) (h6 : P6 a1 a2 a3 a4 a5 a6 a7 a8 a9) (h7 : P7 a1 a2 a3 a4 a5 a6 a7 a8 a9) (h8 : P8 a1 a2 a3 a4 a5 a6 a7 a8 a9) (h9 : P9 a1 a2 a3 a4 a5 a6 a7 a8 a9) (h10 : P10 a1 a2 a3 a4 a5 a6 a7 a8 a9) (h11 : P11 a1 a2 a3 a4 a5 a6 a7 a8 a9) (h12 : P12 a1 a2 a3 a4 a5 a6 a7 a8 a9) : ∃ a1, ∃ a2, ∃ a3, ∃ a4, ∃ a5, ∃ a6, ∃ a7, ∃ a8, ∃ a9, P1 a1 a2 a3 a4 a5 a6 a7 a8 a9 /\ P2 a1 a2 a3 a4 a5 a6 a7 a8 a9 /\ P3 a1 a2 a3 a4 a5 a6 a7 a8 a9 /\ P4 a1 a2 a3 a4 a5 a6 a7 a8 a9 /\ P5 a1 a2 a3 a4 a5 a6 a7 a8 a9 /\ P6 a1 a2 a3 a4 a5 a6 a7 a8 a9 /\ P7 a1 a2 a3 a4 a5 a6 a7 a8 a9 /\ P8 a1 a2 a3 a4 a5 a6 a7 a8 a9 /\ P9 a1 a2 a3 a4 a5 a6 a7 a8 a9 /\ P10 a1 a2 a3 a4 a5 a6 a7 a8 a9 /\ P11 a1 a2 a3 a4 a5 a6 a7 a8 a9 /\ P12 a1 a2 a3 a4 a5 a6 a7 a8 a9 := ⟨a1, a2, a3, a4, a5, a6, a7, a8, a9, h1, h2, h3, h4, h5, h6, h7, h8, h9, h10, h11, h12⟩
theorem zaF 
  {R : Result -> Shared -> Prop} {name qual : Str} {params : Arguments} {body : List Stmt} {scope : Scope} {dV kV doc pm cdv ct oc : Value} {an od : Option Addr} {osl : Array (Option Value)} {f : Addr} {args : Args} {binds : List (Str × Value)} {K : Frag}
  {p : Program} {loose : List Str} {mb : Str -> Option Value}
  (B : Below A₀ base outer h₀) (F : Fr h₀ L s.heap m) (X₀ : K.In h₀) (N : News h₀ L s.heap news) (T : Top p loose mean mg mb h₀) (hA : A.frames = some (env :: outer)) (hf : env.frame = some L) (hke : env.scope.kind = .function)
  (ho : K.lookup f = some ⟨oc, od, .func (fnOf name qual params body scope dV kV doc pm an cdv ct), osl⟩) (hcd : codeIn K cdv qual = true) (hroom : A.depth < recursionLimit)
  (hbind : BindsTo s (fnOf name qual params body scope dV kV doc pm an cdv ct) args binds) (hloc : ∀ y ∈ binds, scope.names.lookup y.1 = some .local)
  (h : ∀ g L' h₁, Fr h₀ L g m -> Fr g L' h₁ (fun y => binds.reverse.lookup y) -> News g L' h₁ news -> Below A base (env :: outer) g -> K.In g -> Top p loose mean mg mb g ->
   (∀ b o, b ∉ news.map (·.1) -> s.heap.get? b = some o -> g.get? b = some o) -> L' = s.heap.objs.size ->
   wpAny (model prog w) (A.deeper (envOf qual scope L' f cdv)) (execs body (envOf qual scope L' f cdv))
    (fun fl s' => LeaveK h₀ L m g R (match fl with | .ret v => v | _ => .none) s')
    (fun e s' => wpAny (model prog w) (A.deeper (envOf qual scope L' f cdv)) («leaving» (envOf qual scope L' f cdv) e) (fun _ s'' => R (.error e) s'') (fun e' s'' => R (.error e') s'') s')
    { s with heap := h₁, toks := s.toks + binds.length })
  (hco : scope.isCoroutine = false) (hgen : scope.isGenerator = false) (hk : scope.kind = .function)
  (hcell : ∀ x ∈ scope.names, x.2 ≠ .cell) : codeAny (model prog w) A (.call (.ref f) args) R s := by
 (refine cj4 (groundX (R := R) B F N hA hf hke) ?_; intro FG BG st lv)
 refine codeAny_call_def (fd := fnX name qual params body scope [] dV kV doc pm an cdv ct) (body := body) (binds := binds) hroom ((X₀.keeps F.keep) _ _ ho) rfl (T.nolimit.keeps F.keep) (codeRec_of (X₀.keeps F.keep) hcd) rfl hbind hcell hloc (fun h₁ hns hk₁ => ?_) hco hgen hk
 exact wpAny_mono (h _ s.heap.objs.size h₁ FG ⟨hns, fun b o e => hk₁ b o (of_hideAll _ e), Nat.le_of_eq (hideAll_size _ _)⟩
  (fun p hp => ⟨hk₁ _ _ (N p hp).1, Nat.ne_of_lt (Heap.lt_size (N p hp).1), hideAll_none _ (List.mem_map_of_mem hp)⟩) BG (X₀.keeps st) (T.keeps st)
  (fun b o hb e => hideAll_get _ e hb) rfl) (fun fl s' hl => lv _ _ hl) fun _ _ y => y
section
variable {st : Stmt} {rest : List Stmt} {Q : Flow -> Shared -> Prop}
noncomputable def Kont (K : Flow -> Shared -> Prop) : Flow -> Shared -> Prop := K
end
theorem noE {α : Type} {m : Sem α} {Q : α -> Shared -> Prop} (h : wpAny M A m Q (fun _ _ => False) s) : wpAny M A m Q E s := wpAny_mono h (fun _ _ q => q) fun _ _ x => x.elim
theorem letA {α : Type} {m : Sem α} {Q : α -> Shared -> Prop} (h : let A9 := A; wpAny M A9 m Q E s) : wpAny M A m Q E s := h
theorem zqi {m : Sem Flow} {Q : Flow -> Shared -> Prop} {h : Heap} {os : OsState}
  (H : ∀ (K : Flow -> Shared -> Prop) gs' dr' tk' os', (∀ f h t, Q f ⟨h, gs, dr, t, os⟩ -> Kont K f ⟨h, gs', dr', t, os'⟩) -> wpAny M A m (Kont K) (fun _ _ => False) ⟨h, gs', dr', tk', os'⟩) : wpAny M A m Q E ⟨h, gs, dr, tk, os⟩ :=
 noE (H Q gs dr tk os fun _ _ _ h => h)
theorem frM {h : Heap} (F : Fr h₀ L h m) : ∃ m', Fr h₀ L h m' /\ m' = m := ⟨m, F, rfl⟩
section
variable {os : OsState} {a b c d : Int} {ta tb tc td : Tok} {Q : Value -> Shared -> Prop} 
theorem tup3G (F : Fr h₀ L hp m) (N : News h₀ L hp news)
  (h : ∀ ta tb tc tk D h', Fr h₀ L h' m -> News h₀ L h' ((D, ({ cls := .type "tuple", data := .seq #[.int a ta, .int b tb, .int c tc] } : Obj)) :: news) -> (∀ p ∈ news, p.1 < D) -> Q (.ref D) ⟨h', gs, dr, tk, os⟩) :
  wpAny M A (newTuple [.int a ta, .int b tb, .int c tc]) Q E ⟨hp, gs, dr, tk, os⟩ := kup_newTuple (s := ⟨hp, gs, dr, tk, os⟩) F N (fun D h' => h ta tb tc tk D h') (by rw [sizeLine_eq]; exact Nat.le_of_ble_eq_true rfl)
theorem tup4G (F : Fr h₀ L hp m) (N : News h₀ L hp news)
  (h : ∀ ta tb tc td tk D h', Fr h₀ L h' m -> News h₀ L h' ((D, ({ cls := .type "tuple", data := .seq #[.int a ta, .int b tb, .int c tc, .int d td] } : Obj)) :: news) -> (∀ p ∈ news, p.1 < D) -> Q (.ref D) ⟨h', gs, dr, tk, os⟩) :
  wpAny M A (newTuple [.int a ta, .int b tb, .int c tc, .int d td]) Q E ⟨hp, gs, dr, tk, os⟩ := kup_newTuple (s := ⟨hp, gs, dr, tk, os⟩) F N (fun D h' => h ta tb tc td tk D h') (by rw [sizeLine_eq]; exact Nat.le_of_ble_eq_true rfl)
end
section
variable {os : OsState} {e1 e2 : Expr} {pos : Pos} {whole : Sem Value} {b1 b2 : Bool} {Q : Bool -> Shared -> Prop}
noncomputable def BPost (hp : Heap) (gs : Array GenState) (dr : Drawn) (os : OsState) (b : Bool) : Bool -> Shared -> Prop := fun c s' => c = b /\ ∃ tk, s' = ⟨hp, gs, dr, tk, os⟩
theorem bpost {c b : Bool} (e : c = b) : BPost hp gs dr os b c ⟨hp, gs, dr, tk, os⟩ := ⟨e, tk, rfl⟩
theorem and2 (h1 : wpAny M A (isTrue e1 env (eval e1 env)) (BPost hp gs dr os b1) E ⟨hp, gs, dr, tk, os⟩) (h2 : b1 = true -> ∀ tk, wpAny M A (isTrue e2 env (eval e2 env)) (BPost hp gs dr os b2) E ⟨hp, gs, dr, tk, os⟩)
  (hT : (b1 && b2) = true -> ∀ tk, Q true ⟨hp, gs, dr, tk, os⟩) (hF : (b1 && b2) = false -> ∀ tk, Q false ⟨hp, gs, dr, tk, os⟩) : wpAny M A (isTrue (.BoolOp .And [e1, e2] pos) env whole) Q E ⟨hp, gs, dr, tk, os⟩ := by
 refine isTrue_and (wpAny_mono h1 (fun c s' hc => ?_) fun _ _ e => e)
 (refine x_AE (hc) ?_; clear hc; intro q90 tk1 q92; subst q90; subst q92)
 cases c with
 | false => exact hF rfl tk1
 | true =>
  refine isTrue_and (wpAny_mono (h2 rfl tk1) (fun c s' hc => ?_) fun _ _ e => e)
  (refine x_AE (hc) ?_; clear hc; intro q90 tk2 q92; subst q90; subst q92)
  cases c with
  | false => exact hF rfl tk2
  | true => exact isTrue_and_nil (hT rfl tk2)
end
theorem letO (v : Obj) {G : Prop} (h : let _o9 := v; G) : G := h
noncomputable def JPost (P : Shared -> Prop) (f : Flow) (s : Shared) : Prop := f = .next /\ P s
theorem zeu {st : Stmt} {rest : List Stmt} {Q : Flow -> Shared -> Prop} (P : Shared -> Prop) (h1 : wpAny M A (exec st env) (JPost P) E s) (h2 : ∀ s', P s' -> wpAny M A (execs rest env) Q E s') : wpAny M A (execs (st :: rest) env) Q E s :=
 wpAny_execs_cons (wpAny_mono h1 (fun f s' hq => by obtain ⟨rfl, hp⟩ := hq; exact h2 s' hp) fun _ _ e => e)
theorem zou {st : Stmt} {rest : List Stmt} {Q : Flow -> Shared -> Prop} {g h : Heap} {l : Addr} {o : Obj} {os : OsState}
  (_F : Fr g L h m) (_N : News g L h ((l, o) :: own)) (R : List Value -> Prop)
  (h1 : wpAny M A (exec st env) (JPost fun s' => ∃ h' tk' vs' n', s' = ⟨h', gs, dr, tk', os⟩ /\ Fr g L h' m /\ News g L h' ((l, W.listOf (List.toArray vs') n') :: own) /\ R vs') E ⟨h, gs, dr, tk, os⟩)
  (h2 : ∀ h' tk' vs' n', Fr g L h' m -> News g L h' ((l, W.listOf (List.toArray vs') n') :: own) -> R vs' -> wpAny M A (execs rest env) Q E ⟨h', gs, dr, tk', os⟩) : wpAny M A (execs (st :: rest) env) Q E ⟨h, gs, dr, tk, os⟩ :=
 zeu _ h1 fun s' q => by
  obtain ⟨h', tk', vs', n', rfl, F, N, r⟩ := q
  exact h2 h' tk' vs' n' F N r
section
variable {s1 s2 s3 : Shared} {st : Stmt} {rest : List Stmt} {Q : Flow -> Shared -> Prop} {f : Flow} {x : Str} {v a b c : Value} {e l r : Expr} {pos : Pos} {os : OsState} {i : Int} {k : Nat}
noncomputable def Seq (M : Model) (A : Around) (rest : List Stmt) (env : Env) (Q : Flow -> Shared -> Prop) (E : Value -> Shared -> Prop) (f : Flow) (s : Shared) : Prop := match f with | .next => wpAny M A (execs rest env) Q E s | f => Q f s
theorem zf9 (h : wpAny M A (exec st env) (Seq M A rest env Q E) E s) : wpAny M A (execs (st :: rest) env) Q E s := wpAny_execs_cons (wpAny_mono h (fun f _ q => by cases f <;> exact q) fun _ _ e => e)
theorem zgd (h : wpAny M A (execs rest env) Q E s) : Seq M A rest env Q E .next s := h
theorem zh2 {v : Value} (h : Q (.ret v) s) : Seq M A rest env Q E (.ret v) s := h
theorem zhF (h : Q .brk s) : Seq M A rest env Q E .brk s := h
theorem zfE (h : Q .cont s) : Seq M A rest env Q E .cont s := h
noncomputable def Opd (M : Model) (A : Around) (env : Env) (e : Expr) (v : Value) (s s' : Shared) : Prop := ∀ (Q : Value -> Shared -> Prop) (E : Value -> Shared -> Prop), Q v s' -> wpAny M A (eval e env) Q E s
theorem o_n (F : Fr h₀ env.locals s.heap m) (hv : m x = some v) (hk : env.scope.kind = .function) (hx : env.kindOf x = some .local) (hd : (x == ("__debug__" : Str)) = false) : Opd M A env (.Name x pos) v s s :=
 fun _ _ h => wpAny_Name (wpAny_loadName_local hk hx F.ns hv h) hd
theorem o_i : Opd M A env (.Constant (.int i) k pos) (.int i tk) ⟨hp, gs, dr, tk, os⟩ ⟨hp, gs, dr, tk + 1, os⟩ := fun _ _ h => wpAny_Constant_int (s := ⟨hp, gs, dr, tk, os⟩) h
theorem zmZ {op : Operator} {Q : Value -> Shared -> Prop} (h1 : Opd M A env l a s s1) (h2 : Opd M A env r b s1 s2) (h : wpAny M A (binaryOp op a b) Q E s2) : wpAny M A (eval (.BinOp l op r pos) env) Q E s := wpAny_BinOp (h1 _ _ (h2 _ _ h))
theorem zkn {op : CmpOp} {whole : Sem Value} {Q : Bool -> Shared -> Prop} (h1 : Opd M A env l a s s1) (h2 : Opd M A env r b s1 s2) (hm : behindInMarks op r = false) (h : wpAny M A (compareOp op a b) (fun c s3 => wpAny M A (truthy c) Q E s3) E s2) : wpAny M A (isTrue (.Compare l [op] [r] pos) env whole) Q E s :=
 wpAny_isTrue_Compare1 (h1 _ _ (h2 _ _ h)) hm
theorem zpU {α : Type} {c : Sem α} {Q : α -> Shared -> Prop} (h : ∀ tk, wpAny M A c Q E ⟨hp, gs, dr, tk, os⟩) : wpAny M A c Q E ⟨hp, gs, dr, tk, os⟩ := h tk
end
section
variable {os : OsState} {a : Addr} {cs : Scope} {x : Str} {n : Int} {t : Tok} {v : Value} {Q : Unit -> Shared -> Prop} 
theorem zit (F : Fr h₀ L hp m) (N : News h₀ L hp news) (h : ∀ t' tk' h', let m' : Str -> Option Value := fun y => if y = x then some (.int n t') else m y; Fr h₀ L h' m' -> News h₀ L h' news -> Q () ⟨h', gs, dr, tk', os⟩)
  (hk : cs.kind = .function) (hx : (envX cn cs L a ccd cl).kindOf x = some .local) : wpAny M A (storeName (envX cn cs L a ccd cl) x (.int n t)) Q E ⟨hp, gs, dr, tk, os⟩ :=
 storeX_L (s := ⟨hp, gs, dr, tk, os⟩) F N (fun h' F' N' => h t (tk + 1) h' F' N') hk hx
theorem zhb (F : Fr h₀ L hp m) (N : News h₀ L hp news) (h : ∀ tk' h', let m' : Str -> Option Value := fun y => if y = x then some v else m y; Fr h₀ L h' m' -> News h₀ L h' news -> Q () ⟨h', gs, dr, tk', os⟩)
  (hk : cs.kind = .function) (hx : (envX cn cs L a ccd cl).kindOf x = some .local) : wpAny M A (storeName (envX cn cs L a ccd cl) x v) Q E ⟨hp, gs, dr, tk, os⟩ :=
 storeX_L (s := ⟨hp, gs, dr, tk, os⟩) F N (fun h' F' N' => h (tk + 1) h' F' N') hk hx
end
theorem letF {h : Heap} {P : Prop} (F : Fr h₀ L h m) (H : let m' := m; Fr h₀ L h m' -> P) : P := H F
example : True := by
 k_with "T" => refine KFB.if_not rfl ?_
 k_with "5" => refine wpAny_bind ?_
 k_with "W" => refine wpAny_pure ?_
 k_with "l" => refine bc fun hG9 => ?_
 k_with "e" => (refine hG9 ?_; clear hG9)
 k_with "aJ" => refine wpAny_bind (wpAny_pure ?_)
 k_with "D" => repeat (any_goals (first | assumption | wp_step))
 trivial
abbrev boundObj (id : String) (self : Value) : Obj := { cls := .type "builtin_function_or_method", data := .fields #[.builtin id, self] }
theorem zhH : builtinKind "dict.get" = some .method := by decide +kernel
theorem zfa : Manifest.varargsMethods.contains "dict.get" = false := by decide +kernel
theorem zgZ : builtinKind "set.__contains__" = some .method := by decide +kernel
noncomputable def zg1 (id : String) : Manifest.Signature := (Manifest.signature? id).getD ⟨.hand, "", "", .none, []⟩
theorem zj9 : Manifest.signature? "dict.get" = some (zg1 "dict.get") := by unfold zg1; first | kernel_rfl | rfl
theorem zjC {d : Addr} {key dflt : Value} : Bind.checkArgs "dict.get" { zg1 "dict.get" with full := s!"{Bind.lastOf "dict"}.{"get"}" } ⟨[.ref d, key, dflt], []⟩ = pure () := by kernel_rfl
theorem zc7 : isSubtype (.type "dict") (.type "module") = pure false := by rw [isSubtype_type]; kernel_rfl
noncomputable def zaj (o : Obj) : Bool := match o.data with | .cls _ => true | _ => false
theorem zim : Manifest.signature? "set.__contains__" = some (zg1 "set.__contains__") := by unfold zg1; first | kernel_rfl | rfl
theorem zeD : Manifest.varargsMethods.contains "set.__contains__" = false := by decide +kernel
theorem zis {d : Addr} {key : Value} : Bind.checkArgs "set.__contains__" { zg1 "set.__contains__" with full := s!"{Bind.lastOf "set"}.{Bind.lastOf "set.__contains__"}" } ⟨[.ref d, key], []⟩ = pure () := by kernel_rfl
theorem zdg : isSubtype (.type "set") (.type "module") = pure false := by rw [isSubtype_type]; kernel_rfl
theorem za8 : Slot "method_descriptor" "__get__" "method_descriptor.__get__" :=
 .of (owner := "method_descriptor") (n := "__get__") (by rw [typeLookup_type, builtinLookup_eq_fast]; kernel_rfl) (by decide +kernel) (by decide +kernel) (by decide +kernel)
  (by first | exact .inl (by decide +kernel) | exact .inr (by decide +kernel)) (by rw [isSubtype_type]; kernel_rfl)
theorem zcf : entryFor table "method_descriptor.__get__" = some Builtin.«method_descriptor.__get__» := entryFor_of_tree (by kernel_rfl)
theorem zcR (a b c : Value) : argsOk "method_descriptor.__get__" ⟨[a, b, c], []⟩ := by unfold argsOk; kernel_rfl
theorem zd7 : entryFor table "dict.__getattribute__" = some Builtin.«object.__getattribute__» :=
 entryFor_alias (id' := "object.__getattribute__") (by rw [fastTable_eq_tree]; kernel_rfl) (by first | rfl | decide +kernel) (by decide +kernel) (by rw [fastTable_eq_tree]; kernel_rfl)
theorem zec : entryFor table "set.__getattribute__" = some Builtin.«object.__getattribute__» :=
 entryFor_alias (id' := "object.__getattribute__") (by rw [fastTable_eq_tree]; kernel_rfl) (by first | rfl | decide +kernel) (by decide +kernel) (by rw [fastTable_eq_tree]; kernel_rfl)
theorem zh6 : typeLookup (.type "method_descriptor") "__get__" = pure (some (.builtin "method_descriptor.__get__")) := by rw [typeLookup_type, builtinLookup_eq_fast]; kernel_rfl
theorem zie : typeLookup (.type "method_descriptor") "__set__" = pure none := by rw [typeLookup_type, builtinLookup_eq_fast]; kernel_rfl
theorem zh8 : typeLookup (.type "method_descriptor") "__delete__" = pure none := by rw [typeLookup_type, builtinLookup_eq_fast]; kernel_rfl
theorem zgB : Manifest.toldItsClass.contains "set.__contains__" = false := by decide +kernel
theorem zh0 : Manifest.toldItsClass.contains "dict.get" = false := by decide +kernel
theorem chkb {id T : String} {sig : Manifest.Signature} {d : Addr} {o : Obj} {args : List Value} {Q : Unit -> Shared -> Prop}
  (hs : Manifest.signature? id = some sig) (hk : builtinKind id = some .method) (hv : Manifest.varargsMethods.contains id = false) (hm : isSubtype (.type T) (.type "module") = pure false)
  (hchk : Bind.checkArgs id { sig with full := s!"{Bind.lastOf T}.{Bind.lastOf id}" } ⟨.ref d :: args, []⟩ = pure ())
  (ho : s.heap.get? d = some o) (hc : o.cls = .type T) (hn : zaj o = false) (h : Q () s) :
  wpAny M A (checkBoundCall id ⟨.ref d :: args, []⟩) Q E s := by
 have hT : s.TypeIs (.ref d) T := ⟨o, ho, hc⟩
 unfold checkBoundCall
 rw [hs, hk]
 dsimp only
 rw [hv]
 refine KFB.if_not (by decide) ?_
 refine wpAny_bind (wpAny_isInstance hT hm ?_)
 k_extra "T"
 k_extra "5"
 unfold isType loadHead
 refine wpAny_bind (wpAny_loadPart ho ?_)
 k_extra "W"
 refine KFB.if_not hn ?_
 refine wpAny_bind (wpAny_typeOf hT ?_)
 dsimp only
 exact wpAny_of_eq hchk h
theorem bo_a : (Value.type "builtin_function_or_method" == Value.type "method" || Value.type "builtin_function_or_method" == Value.type "builtin_function_or_method" || Value.type "builtin_function_or_method" == Value.type "method-wrapper") = true := by decide
theorem bo_b : (Value.type "builtin_function_or_method" != Value.type "method") = true := by decide
theorem bo_c : (Value.type "builtin_function_or_method" == Value.type "builtin_function_or_method" || Value.type "builtin_function_or_method" == Value.type "method-wrapper") = true := by decide
theorem zgp {id : String} {self : Value} {q : Addr} {args : List Value} {B : Builtin} {S : PySem.Spec} {Q : Value -> Shared -> Prop} (ho : s.heap.get? q = some (boundObj id self))
  (hq : ∀ as, (Code.builtin id as).quiet = true) (entry : entryFor table id = some B) (hp : plainId id = true)
  (hc : ∀ {Q' : Unit -> Shared -> Prop} {E' : Value -> Shared -> Prop}, Q' () s -> wpAny (model prog w) A.in1 (checkBoundCall id ⟨self :: args, []⟩) Q' E' s)
  (g : MeetsIn prog w (B ⟨self :: args, []⟩) S) (h : S A (wants Q E) s) :
  wpAny (model prog w) A (call (.ref q) args) Q E s := by
 refine wpAny_call (codeAny_of_tree ?_)
 show wpAny _ A.in1 (callAny (.ref q) ⟨args, []⟩) _ _ s
 refine wpAny_bind (wpAny_load ho ?_)
 refine KFB.if_so bo_a ?_
 refine KFB.if_so bo_b ?_
 refine wpAny_bind (hc ?_)
 refine wpAny_bind (wpAny_pure (wpAny_pure ?_))
 refine ⟨hq _, ?_⟩
 have hfin := g A (wants Q E) s h
 refine codeAny_builtin entry ?_
 rw [Around.under_plainId hp]
 exact wpAny_mono hfin (fun f s' z => z) (fun _ _ z => z)
theorem zcB {id T : String} {sig : Manifest.Signature} {d q : Addr} {o : Obj} {args : List Value} {B : Builtin} {S : PySem.Spec} {Q : Value -> Shared -> Prop} (ho : s.heap.get? q = some (boundObj id (.ref d)))
  (hq : ∀ as, (Code.builtin id as).quiet = true) (entry : entryFor table id = some B) (hp : plainId id = true)
  (hs : Manifest.signature? id = some sig) (hk : builtinKind id = some .method) (hv : Manifest.varargsMethods.contains id = false) (hm : isSubtype (.type T) (.type "module") = pure false)
  (hchk : Bind.checkArgs id { sig with full := s!"{Bind.lastOf T}.{Bind.lastOf id}" } ⟨.ref d :: args, []⟩ = pure ())
  (h1 : s.heap.get? d = some o) (hc : o.cls = .type T) (hn : zaj o = false)
  (g : MeetsIn prog w (B ⟨.ref d :: args, []⟩) S) (h : S A (wants Q E) s) :
  wpAny (model prog w) A (call (.ref q) args) Q E s :=
 zgp ho hq entry hp (fun hq' => chkb hs hk hv hm hchk h1 hc hn hq') g h
theorem zgD {K : Type} [DecidableEq K] {knd : KeyKind prog w K} {q d : Addr} {key dflt : Value} {k : K} {f : K -> Option Value} {Q : Value -> Shared -> Prop}
  (ho : s.heap.get? q = some (boundObj "dict.get" (.ref d))) (hm : s.heap.MapOf knd d f) (hkey : knd.is k key = true) (hd : (d == sysModules) = false)
  (h : Q ((f k).getD dflt) { s with toks := s.toks + 1 }) : wpAny (model prog w) A (call (.ref q) [key, dflt]) Q E s := by
 k_extra "l"
 obtain ⟨o, es, n, h1, ⟨h2, h3, h4⟩, h5⟩ := id hm
 k_extra "e"
 refine zcB (T := "dict") ho (fun as => Code.quiet_builtin _ (by decide +kernel)) F.entry_dict_get (by decide +kernel) zj9 zhH zfa zc7 ?_ h1 ?_ ?_ (meets_dict_get_default knd d hkey hd dflt) ⟨f, hm, h⟩
 ·exact zjC
 ·exact h2
 ·unfold zaj; rw [h5.1]
theorem zfw {K : Type} [DecidableEq K] {knd : KeyKind prog w K} {q a : Addr} {key : Value} {k : K} {S : K -> Bool} {n : Nat} {Q : Value -> Shared -> Prop}
  (ho : s.heap.get? q = some (boundObj "set.__contains__" (.ref a))) (hS : s.heap.SetOf knd a S n) (hkey : knd.is k key = true) (hsc : key.scannable = true)
  (h : Q (.bool (S k)) { s with toks := s.toks + 1 }) : wpAny (model prog w) A (call (.ref q) [key]) Q E s := by
 k_extra "l"
 obtain ⟨o, es, ep, st, h1, ⟨h2, h3, h4⟩, h5, hrest⟩ := id hS
 k_extra "e"
 have body : MeetsIn prog w (Builtin.«frozenset.__contains__» ⟨[.ref a, key], []⟩) (fun _ R s' => s' = s /\ R (.ok (.ret (.bool (S k)))) { s' with toks := s'.toks + 1 }) := by
  intro A' R s' q93
  k_extra "l"
  (refine cj2 (q93) ?_; clear q93; intro q90 hR; subst q90)
  k_extra "e"
  unfold Builtin.«frozenset.__contains__» Builtin.Frozenset.oneOther
  simp only [List.isEmpty_nil, bind_assoc]
  unfold Builtin.Frozenset.addrOf Builtin.Frozenset.withSetAsKey setContains
  k_extra "aJ"
  try dsimp only
  k_extra "aJ"
  try dsimp only
  refine wpAny_bind (wpAny_tryCatch ?_)
  refine wpAny_holding ?_
  refine wpAny_bind (knd.pyHash hkey ?_)
  refine wpAny_bind (wpAny_setFind_of (s := { s' with toks := s'.toks + 1 }) hkey hsc hS fun r hr => ?_)
  k_extra "W"
  show wpAny _ _ (ret (Value.bool r.isSome)) _ _ _
  rw [hr]
  exact wpAny_pure hR
 refine zcB (T := "set") ho (fun as => Code.quiet_builtin _ (by decide +kernel)) entry_set_contains (by decide +kernel) zim zgZ zeD zdg ?_ h1 ?_ ?_ body ⟨rfl, h⟩
 ·exact zis
 ·exact h2
 ·unfold zaj; rw [h5]
theorem zfl : typeLookup (.type "dict") "get" = pure (some (.builtin "dict.get")) := by rw [typeLookup_type, builtinLookup_eq_fast]; kernel_rfl
theorem zcx : typeOf (.builtin "dict.get") = pure (.type "method_descriptor") := by show builtinType _ = _; rw [builtinType_eq_fast]; kernel_rfl
theorem zd6 : isSubtype (.type "dict") (.type "dict") = pure true := by rw [isSubtype_type]; kernel_rfl
noncomputable def zdX (d obj : Value) : Sem Unit := (kfb_private% "checkInstance") d obj
theorem zbz (T : String) (d obj : Value) : (kfb_private% "bindBuiltin") T d (some obj) = (do zdX d obj; ret (<- newFields T [d, obj])) := rfl
theorem zba (d obj : Value) : (kfb_private% "checkInstance") d obj = (do
 let (name, cls) <- (kfb_private% "nameAndClass") d
 if !(<- isInstance obj cls) then
  rule "descr.get.wrong-instance"
  raiseError "TypeError" s!"descriptor '{name.toString}' for '{← typeName cls}' objects doesn't apply to a '{← typeNameOf obj}' object") := rfl
theorem zeV {h : Heap} {g : Array GenState} {t : Nat} {os : OsState} {a : Addr} {o : Obj} {R : Result -> Shared -> Prop} (hx : h.get? a = some o) (hc : o.cls = .type "dict")
  (hq : R (.ok (.ret (.ref h.objs.size))) ⟨h.push (boundObj "dict.get" (.ref a)), g, dr, t, os⟩) :
  codeAny (model prog w) A (.call (.builtin "method_descriptor.__get__") ⟨[.builtin "dict.get", .ref a, .type "dict"], []⟩) R ⟨h, g, dr, t, os⟩ := by
 have hT : (⟨h, g, dr, t, os⟩ : Shared).TypeIs (.ref a) "dict" := ⟨_, hx, hc⟩
 have hT5 : (⟨h, g, dr, t, os⟩ : Shared).TypeIs (.builtin "dict.get") "method_descriptor" := zcx
 refine codeAny_call_builtin za8.plain zcf (za8.check _ _ _ _ _ _ _ _ hT5 (zcR _ _ _) ?_)
 unfold Builtin.«method_descriptor.__get__»
 refine wpAny_bind (wpAny_of_eq (a := (.builtin "dict.get", some (.ref a), some (.type "dict"))) (by kernel_rfl) ?_)
 dsimp only
 rw [zh0]
 k_extra "T"
 rw [zbz]
 k_extra "5"
 unfold zdX
 rw [zba]
 refine wpAny_bind (wpAny_of_eq (a := (Str.ofString "get", Value.type "dict")) (by kernel_rfl) ?_)
 refine wpAny_bind (wpAny_isInstance hT zd6 ?_)
 k_extra "T"
 k_extra "W"
 refine wpAny_bind (wpAny_newObj_type (wpAny_pure hq))
section
variable {h : Heap} {g : Array GenState} {t : Nat} {os : OsState} {a : Addr} {o : Obj}
theorem zdy {T id : String} {nm : Str} {tk : Tok} {Q : Fin -> Shared -> Prop} (f4 : typeLookup (.type T) nm = pure (some (.builtin id))) (f5 : typeOf (.builtin id) = pure (.type "method_descriptor"))
  (get : ∀ {A : Around} {R : Result -> Shared -> Prop}, R (.ok (.ret (.ref h.objs.size))) ⟨h.push (boundObj id (.ref a)), g, dr, t, os⟩ -> codeAny (model prog w) A (.call (.builtin "method_descriptor.__get__") ⟨[.builtin id, .ref a, .type T], []⟩) R ⟨h, g, dr, t, os⟩)
  (hnm : [Str.ofString "__module__", Str.ofString "__name__", Str.ofString "__qualname__", Str.ofString "__doc__", Str.ofString "__annotations__"].contains nm = false) (hx : h.get? a = some o) (hc : o.cls = .type T) (hd : o.dict = none) (hcl : zaj o = false)
  (hq : Q (.done (.ret (.ref h.objs.size))) ⟨h.push (boundObj id (.ref a)), g, dr, t, os⟩) :
  wpAny (model prog w) A (Builtin.«object.__getattribute__» ⟨[.ref a, .str nm tk], []⟩) Q E ⟨h, g, dr, t, os⟩ := by
 have hT : (⟨h, g, dr, t, os⟩ : Shared).TypeIs (.ref a) T := ⟨_, hx, hc⟩
 have hT5 : (⟨h, g, dr, t, os⟩ : Shared).TypeIs (.builtin id) "method_descriptor" := f5
 have f6 := zh6
 have f7 := zie
 have f8 := zh8
 have hn : ∀ c, o.data ≠ .cls c := by intro c e; unfold zaj at hcl; rw [e] at hcl; cases hcl
 k_extra "D"
 split
 ·rename_i c hc'; exact absurd hc' (hn _)
 k_extra "D"
 rw [hc]
 dsimp only
 rw [hd]
 dsimp only
 refine KFB.if_so rfl ?_
 k_extra "D"
 refine KFB.if_not hnm ?_
 k_extra "D"
 refine get ?_
 k_extra "D"
theorem zbI {tk : Tok} {Q : Fin -> Shared -> Prop} (hx : h.get? a = some o) (hc : o.cls = .type "dict") (hd : o.dict = none) (hcl : zaj o = false)
  (hq : Q (.done (.ret (.ref h.objs.size))) ⟨h.push (boundObj "dict.get" (.ref a)), g, dr, t, os⟩) :
  wpAny (model prog w) A (Builtin.«object.__getattribute__» ⟨[.ref a, .str "get" tk], []⟩) Q E ⟨h, g, dr, t, os⟩ :=
 zdy zfl zcx (fun hq => zeV hx hc hq) (by decide +kernel) hx hc hd hcl hq
theorem zbY {tk : Tok} {R : Result -> Shared -> Prop} (hx : h.get? a = some o) (hc : o.cls = .type "dict") (hd : o.dict = none) (hcl : zaj o = false)
  (hq : R (.ok (.ret (.ref h.objs.size))) ⟨h.push (boundObj "dict.get" (.ref a)), g, dr, t, os⟩) :
  codeAny (model prog w) A (.call (.builtin "dict.__getattribute__") ⟨[.ref a, .str "get" tk], []⟩) R ⟨h, g, dr, t, os⟩ :=
 codeAny_call_builtin F.slot_dict_getattribute.plain zd7 (F.slot_dict_getattribute.check _ _ _ _ _ _ _ _ (show (⟨h, g, dr, t, os⟩ : Shared).TypeIs (.ref a) "dict" from ⟨_, hx, hc⟩) (F.args_dict_getattribute_2 _ _) (zbI hx hc hd hcl hq))
theorem zdI {expr : Bool} {Q : Value -> Shared -> Prop} (hx : h.get? a = some o) (hc : o.cls = .type "dict") (hd : o.dict = none) (hcl : zaj o = false)
  (hq : Q (.ref h.objs.size) ⟨h.push (boundObj "dict.get" (.ref a)), g, dr, t + 1, os⟩) : wpAny (model prog w) A (getAttr (.ref a) (Str.ofString "get") expr) Q E ⟨h, g, dr, t, os⟩ := by
 have hT : (⟨h, g, dr, t + 1, os⟩ : Shared).TypeIs (.ref a) "dict" := ⟨_, hx, hc⟩
 have f2 := F.slot_dict_getattribute.lookup
 have f3 := F.slot_dict_getattribute.bind (.ref a)
 have hx0 : (expr && onTheHeap (Value.builtin "dict.__getattribute__")) = false := by cases expr <;> rfl
 k_extra "D"
 refine zbY hx hc hd hcl ?_
 k_extra "D"
end
theorem zfA : typeLookup (.type "set") "__contains__" = pure (some (.builtin "set.__contains__")) := by rw [typeLookup_type, builtinLookup_eq_fast]; kernel_rfl
theorem zcT : typeOf (.builtin "set.__contains__") = pure (.type "method_descriptor") := by show builtinType _ = _; rw [builtinType_eq_fast]; kernel_rfl
theorem ze4 : isSubtype (.type "set") (.type "set") = pure true := by rw [isSubtype_type]; kernel_rfl
theorem zeM {h : Heap} {g : Array GenState} {t : Nat} {os : OsState} {a : Addr} {o : Obj} {R : Result -> Shared -> Prop} (hx : h.get? a = some o) (hc : o.cls = .type "set")
  (hq : R (.ok (.ret (.ref h.objs.size))) ⟨h.push (boundObj "set.__contains__" (.ref a)), g, dr, t, os⟩) :
  codeAny (model prog w) A (.call (.builtin "method_descriptor.__get__") ⟨[.builtin "set.__contains__", .ref a, .type "set"], []⟩) R ⟨h, g, dr, t, os⟩ := by
 have hT : (⟨h, g, dr, t, os⟩ : Shared).TypeIs (.ref a) "set" := ⟨_, hx, hc⟩
 have hT5 : (⟨h, g, dr, t, os⟩ : Shared).TypeIs (.builtin "set.__contains__") "method_descriptor" := zcT
 refine codeAny_call_builtin za8.plain zcf (za8.check _ _ _ _ _ _ _ _ hT5 (zcR _ _ _) ?_)
 unfold Builtin.«method_descriptor.__get__»
 refine wpAny_bind (wpAny_of_eq (a := (.builtin "set.__contains__", some (.ref a), some (.type "set"))) (by kernel_rfl) ?_)
 dsimp only
 rw [zgB]
 k_extra "T"
 rw [zbz]
 k_extra "5"
 unfold zdX
 rw [zba]
 refine wpAny_bind (wpAny_of_eq (a := (Str.ofString "__contains__", Value.type "set")) (by kernel_rfl) ?_)
 refine wpAny_bind (wpAny_isInstance hT ze4 ?_)
 k_extra "T"
 k_extra "W"
 refine wpAny_bind (wpAny_newObj_type (wpAny_pure hq))
section
variable {h : Heap} {g : Array GenState} {t : Nat} {os : OsState} {a : Addr} {o : Obj}
theorem zbG {tk : Tok} {Q : Fin -> Shared -> Prop} (hx : h.get? a = some o) (hc : o.cls = .type "set") (hd : o.dict = none) (hcl : zaj o = false)
  (hq : Q (.done (.ret (.ref h.objs.size))) ⟨h.push (boundObj "set.__contains__" (.ref a)), g, dr, t, os⟩) :
  wpAny (model prog w) A (Builtin.«object.__getattribute__» ⟨[.ref a, .str "__contains__" tk], []⟩) Q E ⟨h, g, dr, t, os⟩ :=
 zdy zfA zcT (fun hq => zeM hx hc hq) (by decide +kernel) hx hc hd hcl hq
theorem zbQ {tk : Tok} {R : Result -> Shared -> Prop} (hx : h.get? a = some o) (hc : o.cls = .type "set") (hd : o.dict = none) (hcl : zaj o = false)
  (hq : R (.ok (.ret (.ref h.objs.size))) ⟨h.push (boundObj "set.__contains__" (.ref a)), g, dr, t, os⟩) :
  codeAny (model prog w) A (.call (.builtin "set.__getattribute__") ⟨[.ref a, .str "__contains__" tk], []⟩) R ⟨h, g, dr, t, os⟩ :=
 codeAny_call_builtin F.slot_set_getattribute.plain zec (F.slot_set_getattribute.check _ _ _ _ _ _ _ _ (show (⟨h, g, dr, t, os⟩ : Shared).TypeIs (.ref a) "set" from ⟨_, hx, hc⟩) (F.args_set_getattribute_2 _ _) (zbG hx hc hd hcl hq))
theorem zdV {expr : Bool} {Q : Value -> Shared -> Prop} (hx : h.get? a = some o) (hc : o.cls = .type "set") (hd : o.dict = none) (hcl : zaj o = false)
  (hq : Q (.ref h.objs.size) ⟨h.push (boundObj "set.__contains__" (.ref a)), g, dr, t + 1, os⟩) : wpAny (model prog w) A (getAttr (.ref a) (Str.ofString "__contains__") expr) Q E ⟨h, g, dr, t, os⟩ := by
 have hT : (⟨h, g, dr, t + 1, os⟩ : Shared).TypeIs (.ref a) "set" := ⟨_, hx, hc⟩
 have f2 := F.slot_set_getattribute.lookup
 have f3 := F.slot_set_getattribute.bind (.ref a)
 have hx0 : (expr && onTheHeap (Value.builtin "set.__getattribute__")) = false := by cases expr <;> rfl
 k_extra "D"
 refine zbQ hx hc hd hcl ?_
 k_extra "D"
end
theorem ze7 {d : Addr} {o : Obj} {expr : Bool} {Q : Value -> Shared -> Prop} (F : Fr h₀ L s.heap m) (N : News h₀ L s.heap news) (hm : (d, o) ∈ news) (hc : o.cls = .type "dict") (hd : o.dict = none) (hcl : zaj o = false)
  (h : ∀ q h', Fr h₀ L h' m -> News h₀ L h' ((q, boundObj "dict.get" (.ref d)) :: news) -> (∀ p ∈ news, p.1 < q) -> Q (.ref q) { s with heap := h', toks := s.toks + 1 }) :
  wpAny (model prog w) A (getAttr (.ref d) (Str.ofString "get") expr) Q E s :=
 zdI (N.get hm) hc hd hcl (h _ _ (F.push _) (N.push F _) fun p hp => Heap.lt_size (N p hp).1)
theorem zeY {d : Addr} {o : Obj} {expr : Bool} {Q : Value -> Shared -> Prop} (F : Fr h₀ L s.heap m) (N : News h₀ L s.heap news) (hm : (d, o) ∈ news) (hc : o.cls = .type "set") (hd : o.dict = none) (hcl : zaj o = false)
  (h : ∀ q h', Fr h₀ L h' m -> News h₀ L h' ((q, boundObj "set.__contains__" (.ref d)) :: news) -> (∀ p ∈ news, p.1 < q) -> Q (.ref q) { s with heap := h', toks := s.toks + 1 }) :
  wpAny (model prog w) A (getAttr (.ref d) (Str.ofString "__contains__") expr) Q E s :=
 zdV (N.get hm) hc hd hcl (h _ _ (F.push _) (N.push F _) fun p hp => Heap.lt_size (N p hp).1)
noncomputable def zdZ (x : Addr) (id : String) (self : Value) (h : Heap) : Prop := h.get? x = some (boundObj id self)
theorem zgu {x : Addr} {id : String} {self : Value} {h : Heap} (N : News h₀ L h news) (hm : (x, boundObj id self) ∈ news) : zdZ x id self h := N.get hm
theorem zeO {pos : Pos} {u : Addr} {id : String} {self : Value} {first : List Value} {args : List (Bool × Sem Value)} {Q : Value -> Shared -> Prop} (hplain : args.any (·.1) = false)
  (h : wpAny M A (evalArgs (.ref u) true args []) (fun x s₁ => zdZ u id self s₁.heap /\ wpAny M A (call (.ref u) (first ++ x.pos) x.kw) Q E s₁) E s) : wpAny M A (callWith pos (.ref u) first args []) Q E s := by
 unfold callWith
 refine wpAny_bind (wpAny_holding (wpAny_mono h (fun x s₁ h₁ => wpAny_bind (wpAny_standAt ?_)) fun _ _ x => x))
 (refine cj2 (h₁) ?_; clear h₁; intro ho hcall)
 dsimp only
 rw [hplain]
 refine wpAny_bind (m := keeperOf (.ref u)) ?_
 unfold keeperOf
 refine wpAny_bind (wpAny_load ho ?_)
 refine KFB.if_so bo_b ?_
 refine wpAny_of_eq (a := Keeper.machine) (congrArg pure (if_pos bo_c)) ?_
 exact wpAny_bind (wpAny_mono hcall (fun r s₂ hr => wpAny_bind (wpAny_holding (wpAny_point (wpAny_pure hr)))) fun _ _ x => x)
theorem zfp {pos : Pos} {u : Addr} {id : String} {self : Value} {first : List Value} {e : Expr} {rest : List Expr} {Q : Value -> Shared -> Prop} (_N : News h₀ L s.heap news) (_hm : (u, boundObj id self) ∈ news)
  (h : wpAny M A (spliced (backTo pos (starEach (e :: rest) env))) (fun vs s₁ => zdZ u id self s₁.heap /\ wpAny M A (call (.ref u) (first ++ vs)) Q E s₁) E s)
  (he : starEach (e :: rest) env = (false, eval e env) :: starEach rest env) (hplain : (backTo pos (starEach rest env)).any (·.1) = false) :
  wpAny M A (callWith pos (.ref u) first (backTo pos (starEach (e :: rest) env)) []) Q E s := by
 rw [he] at h ⊢
 refine zeO (id := id) (self := self) (by show (false || (backTo pos (starEach rest env)).any (·.1)) = false; rw [hplain]; rfl) ?_
 exact evalArgs_plain h
noncomputable def LEnd {σ : Type} (h₀ : Heap) (L : Addr) (ps : σ -> List (Str × Value)) (Led : σ -> List (Addr × Obj)) (x : Str) (stored : List Str) (m₀ : Str -> Option Value) (Inv : σ -> Prop) (own : List (Addr × Obj)) (s₁ s₂ : Shared) : Prop :=
 ∃ c : σ, ∃ h' tk m' news', s₂ = { s₁ with heap := h', toks := tk } /\ Fr h₀ L h' m' /\ News h₀ L h' news' /\ (∀ p ∈ Led c, p ∈ news') /\ (∀ p ∈ own, p ∈ news') /\ (∀ p ∈ own, ∀ q ∈ Led c, p.1 ≠ q.1) /\
  (∀ p ∈ ps c, m' p.1 = some p.2) /\ (∀ z, z ≠ x -> (∀ p ∈ ps c, z ≠ p.1) -> stored.contains z = false -> m' z = m₀ z) /\ Inv c
noncomputable def LPost {σ : Type} (h₀ : Heap) (L : Addr) (ps : σ -> List (Str × Value)) (Led : σ -> List (Addr × Obj)) (x : Str) (stored : List Str) (m₀ : Str -> Option Value) (Inv : σ -> Prop) (own : List (Addr × Obj)) (s₁ : Shared) (B : σ -> Prop) (R : Value -> Shared -> Prop) (f : Flow) (s₂ : Shared) : Prop :=
 match f with
 | .ret v => R v s₂
 | .brk => LEnd h₀ L ps Led x stored m₀ B own s₁ s₂
 | _ => LEnd h₀ L ps Led x stored m₀ Inv own s₁ s₂
section
variable {x : Str} {body : List Stmt} {Q : Flow -> Shared -> Prop}
noncomputable def LJ {σ : Type} (ps : σ -> List (Str × Value)) (Led : σ -> List (Addr × Obj)) (rest : List (Addr × Obj)) (x : Str) (stored : List Str) (m₀ : Str -> Option Value) (Inv : σ -> Prop) (m : Str -> Option Value) (nx : List (Addr × Obj)) : Prop :=
 ∃ c, nx = Led c ++ rest /\ (∀ p ∈ rest, ∀ q ∈ Led c, p.1 ≠ q.1) /\ (∀ p ∈ ps c, m p.1 = some p.2) /\ (∀ z, z ≠ x -> (∀ p ∈ ps c, z ≠ p.1) -> stored.contains z = false -> m z = m₀ z) /\ Inv c
section
variable {σ : Type} {h : Heap} {ps : σ -> List (Str × Value)} {Led : σ -> List (Addr × Obj)} {nx : List (Addr × Obj)} {stored : List Str} {m₁ : Str -> Option Value} {Inv Inv' Brk : σ -> Prop} {v : Value}
theorem ziK {code : Sem Flow} {s₁ : Shared} {R : Value -> Shared -> Prop} {c : σ} (T : Flow -> Shared -> Prop) (hof : ∀ p ∈ rest, ∀ q ∈ Led c, p.1 ≠ q.1) (ho : ∀ p ∈ own, ∀ q ∈ Led c ++ rest, p.1 ≠ q.1)
  (turn : (∀ p ∈ rest ++ own, ∀ q ∈ Led c, p.1 ≠ q.1) -> wpAny M A code (LPost h₀ L ps Led x stored m₀ Inv' (rest ++ own) s₁ Brk R) E s₁)
  (hr : ∀ v s', R v s' -> T (.ret v) s')
  (hb : ∀ (c : σ) (u : Str -> Option Value) h tk, Brk c -> (∀ p ∈ rest, ∀ q ∈ Led c, p.1 ≠ q.1) -> Fr h₀ L h (fun y => if y = x then u y else kstB (fun z => if stored.contains z then u z else m₀ z) (ps c) y) -> News h₀ L h (Led c ++ rest) -> T .brk { s₁ with heap := h, toks := tk })
  (hn : ∀ h tk m' news' nx, LJ ps Led rest x stored m₀ Inv' m' nx -> Fr h₀ L h m' -> News h₀ L h news' -> (∀ p ∈ nx, p ∈ news') -> (∀ p ∈ own, p ∈ news') -> (∀ p ∈ own, ∀ q ∈ nx, p.1 ≠ q.1) -> T .next { s₁ with heap := h, toks := tk } /\ T .cont { s₁ with heap := h, toks := tk }) :
  wpAny M A code T E s₁ := by
 refine wpAny_mono (turn fun p hp r hr => (List.mem_append.mp hp).elim (fun hp => hof p hp r hr) fun hp => ho p hp r (List.mem_append_left _ hr)) (fun f s₂ e => ?_) fun _ _ e => e
 have fin : LEnd h₀ L ps Led x stored m₀ Inv' (rest ++ own) s₁ s₂ -> T .next s₂ /\ T .cont s₂ := fun e => e.elim fun c e => e.elim fun h' e => e.elim fun tk e => e.elim fun m' e => e.elim fun news' e => (by
  rw [e.1]
  exact hn h' tk m' news' (Led c ++ rest) ⟨c, rfl, fun p hp => e.2.2.2.2.2.1 p (List.mem_append_left _ hp), e.2.2.2.2.2.2⟩ e.2.1 e.2.2.1 (fun p hp => (List.mem_append.mp hp).elim (e.2.2.2.1 p) fun hp => e.2.2.2.2.1 p (List.mem_append_left _ hp)) (fun p hp => e.2.2.2.2.1 p (List.mem_append_right _ hp)) fun p hp r hr => (List.mem_append.mp hr).elim (e.2.2.2.2.2.1 p (List.mem_append_right _ hp) r) fun hr => ho p hp r (List.mem_append_right _ hr))
 cases f with
 | ret v => exact hr _ _ e
 | brk =>
  refine e.elim fun c e => e.elim fun h' e => e.elim fun tk e => e.elim fun m' e => e.elim fun news' e => ?_
  rw [e.1]
  exact hb c m' h' tk e.2.2.2.2.2.2.2.2 (fun p hp => e.2.2.2.2.2.1 p (List.mem_append_left _ hp)) (kst_frOut e.2.2.2.2.2.2.1 e.2.2.2.2.2.2.2.1 e.2.1) fun p hp => e.2.2.1 p ((List.mem_append.mp hp).elim (e.2.2.2.1 p) fun hp => e.2.2.2.2.1 p (List.mem_append_left _ hp))
 | next => exact (fin e).1
 | cont => exact (fin e).2
theorem zdS {code : Sem Flow} {s₁ : Shared} {R : Value -> Shared -> Prop} (T : Flow -> Shared -> Prop) (hJ : LJ ps Led rest x stored m₀ Inv m₁ nx) (ho : ∀ p ∈ own, ∀ q ∈ nx, p.1 ≠ q.1) (F₁ : Fr h₀ L h (fun y => if y = x then some v else m₁ y)) (N₁ : News h₀ L h (nx ++ own))
  (turn : ∀ (c : σ) (u : Str -> Option Value) own', Inv c -> (∀ p ∈ own', ∀ q ∈ Led c, p.1 ≠ q.1) -> (∀ p ∈ rest, p ∈ own') -> Fr h₀ L h (fun y => if y = x then some v else kstB (fun z => if stored.contains z then u z else m₀ z) (ps c) y) -> News h₀ L h (Led c ++ own') -> wpAny M A code (LPost h₀ L ps Led x stored m₀ Inv' own' s₁ Brk R) E s₁)
  (hr : ∀ v s', R v s' -> T (.ret v) s')
  (hb : ∀ (c : σ) (u : Str -> Option Value) h tk, Brk c -> (∀ p ∈ rest, ∀ q ∈ Led c, p.1 ≠ q.1) -> Fr h₀ L h (fun y => if y = x then u y else kstB (fun z => if stored.contains z then u z else m₀ z) (ps c) y) -> News h₀ L h (Led c ++ rest) -> T .brk { s₁ with heap := h, toks := tk })
  (hn : ∀ h tk m' news' nx, LJ ps Led rest x stored m₀ Inv' m' nx -> Fr h₀ L h m' -> News h₀ L h news' -> (∀ p ∈ nx, p ∈ news') -> (∀ p ∈ own, p ∈ news') -> (∀ p ∈ own, ∀ q ∈ nx, p.1 ≠ q.1) -> T .next { s₁ with heap := h, toks := tk } /\ T .cont { s₁ with heap := h, toks := tk }) :
  wpAny M A code T E s₁ := by
 refine hJ.elim fun c q => ?_
 rw [q.1] at ho N₁
 rw [List.append_assoc] at N₁
 exact ziK T q.2.1 ho (fun off => turn c m₁ (rest ++ own) q.2.2.2.2 off (fun p hp => List.mem_append_left _ hp) (kst_fr q.2.2.1 q.2.2.2.1 F₁) N₁) hr hb hn
theorem zc1 {T : Prop} (hJ : LJ ps Led rest x stored m₀ Inv m₁ nx) (F₁ : Fr h₀ L h m₁) (N₁ : News h₀ L h nx)
  (done : ∀ (c : σ) (u : Str -> Option Value), Inv c -> (∀ p ∈ rest, ∀ q ∈ Led c, p.1 ≠ q.1) -> Fr h₀ L h (fun y => if y = x then u y else kstB (fun z => if stored.contains z then u z else m₀ z) (ps c) y) -> News h₀ L h (Led c ++ rest) -> T) : T :=
 hJ.elim fun c q => done c m₁ q.2.2.2.2 q.2.1 (kst_frOut q.2.2.1 q.2.2.2.1 F₁) (q.1 ▸ N₁)
theorem zhR (ho : OwnOff own (nx.map (·.1))) : ∀ p ∈ own, ∀ q ∈ nx, p.1 ≠ q.1 := fun p hp q hq => ho p hp q.1 (List.mem_map.mpr ⟨q, hq, rfl⟩)
theorem zca (ho : ∀ p ∈ own, ∀ q ∈ nx, p.1 ≠ q.1) : OwnOff own (nx.map (·.1)) := fun p hp b hb => (List.mem_map.mp hb).elim fun q hq => hq.2 ▸ ho p hp q hq.1
end
theorem zjQ {σ : Type} {r : Addr} {a₀ b₀ : Int} {t₀ u₀ v₀ : Tok} {n : Nat} (ps : σ -> List (Str × Value)) (Led : σ -> List (Addr × Obj)) (stored : List Str) (Inv : Nat -> σ -> Prop) (Brk : σ -> Prop) (c₀ : σ)
  (hh : A.handled = none) (hr : IsRange s.heap r a₀ b₀ 1 t₀ u₀ v₀) (hsmall : Builtin.Range.small a₀ b₀ 1 = true) (hn : Builtin.Range.rangeSize a₀ b₀ 1 = (n : Int)) (F : Fr h₀ env.locals s.heap m₀) (N : News h₀ env.locals s.heap (Led c₀ ++ rest))
  (hoff : ∀ p ∈ rest, ∀ q ∈ Led c₀, p.1 ≠ q.1) (hk : ∀ p ∈ ps c₀, m₀ p.1 = some p.2) (hi : Inv 0 c₀)
  (turn : ∀ (i : Nat) (k : Int) t (c : σ) (u : Str -> Option Value) h tk own, i < n -> k = a₀ + (i : Int) -> Inv i c -> (∀ p ∈ own, ∀ q ∈ Led c, p.1 ≠ q.1) -> (∀ p ∈ rest, p ∈ own) ->
   Fr h₀ env.locals h (fun y => if y = x then some (.int k t) else kstB (fun z => if stored.contains z then u z else m₀ z) (ps c) y) -> News h₀ env.locals h (Led c ++ own) ->
   wpAny (model prog w) A (execs body env) (LPost h₀ env.locals ps Led x stored m₀ (Inv (i + 1)) own { s with heap := h, toks := tk } Brk (fun v s' => Q (.ret v) s')) E { s with heap := h, toks := tk })
  (done : ∀ (c : σ) (u : Str -> Option Value) h tk, (Inv n c \/ Brk c) -> (∀ p ∈ rest, ∀ q ∈ Led c, p.1 ≠ q.1) -> Fr h₀ env.locals h (fun y => if y = x then u y else kstB (fun z => if stored.contains z then u z else m₀ z) (ps c) y) -> News h₀ env.locals h (Led c ++ rest) -> Q .next { s with heap := h, toks := tk }) :
  wpAny (model prog w) A (pyIter (.ref r)) (fun it s₂ => LoopAtV prog w A h₀ env x body Q E it s₂) E s := by
 refine tbr_invG (fun i => LJ ps Led rest x stored m₀ (Inv i)) hh hr hsmall hn F N ⟨c₀, rfl, hoff, hk, fun _ _ _ _ => rfl, hi⟩ ?_ fun m₁ nx h tk hJ F N => zc1 hJ F N fun c u hI ho F N => done c u h tk (.inl hI) ho F N
 intro i k t m₁ nx h tk own hik ho hJ F₁ N₁
 have hlen : i < n := by
  have := (List.getElem?_eq_some_iff.mp hik).1
  simpa [rangeKs] using this
 have hkk : k = a₀ + (i : Int) := by
  simp [rangeKs, hlen] at hik
  exact hik.symm
 exact zdS (TbPost h₀ env.locals (LJ ps Led rest x stored m₀ (Inv (i + 1))) own { s with heap := h, toks := tk } Q) hJ ho F₁ N₁ (fun c u own' hI => turn i k t c u h tk own' hlen hkk hI) (fun _ _ h => h) (fun c u h tk hB => done c u h tk (.inr hB)) fun h tk m' news' nx hJ F N hn ho hf => ⟨⟨h, tk, m', news', nx, rfl, F, N, hn, ho, hf, hJ⟩, ⟨h, tk, m', news', nx, rfl, F, N, hn, ho, hf, hJ⟩⟩
theorem zno {σ : Type} {l : Addr} {vs : List Value} {ns : List Int} (ps : σ -> List (Str × Value)) (Led : σ -> List (Addr × Obj)) (stored : List Str) (Inv : Nat -> σ -> Prop) (Brk : σ -> Prop) (c₀ : σ)
  (hh : A.handled = none) (hl : h₀.IsList l vs.toArray) (hints : IntsAre vs ns) (F : Fr h₀ env.locals s.heap m₀) (N : News h₀ env.locals s.heap (Led c₀ ++ rest))
  (hoff : ∀ p ∈ rest, ∀ q ∈ Led c₀, p.1 ≠ q.1) (hk : ∀ p ∈ ps c₀, m₀ p.1 = some p.2) (hi : Inv 0 c₀)
  (turn : ∀ (i : Nat) (k : Int) t (c : σ) (u : Str -> Option Value) h tk own, ns[i]? = some k -> Inv i c -> (∀ p ∈ own, ∀ q ∈ Led c, p.1 ≠ q.1) -> (∀ p ∈ rest, p ∈ own) ->
   Fr h₀ env.locals h (fun y => if y = x then some (.int k t) else kstB (fun z => if stored.contains z then u z else m₀ z) (ps c) y) -> News h₀ env.locals h (Led c ++ own) ->
   wpAny (model prog w) A (execs body env) (LPost h₀ env.locals ps Led x stored m₀ (Inv (i + 1)) own { s with heap := h, toks := tk } Brk (fun v s' => Q (.ret v) s')) E { s with heap := h, toks := tk })
  (done : ∀ (c : σ) (u : Str -> Option Value) h tk, (Inv ns.length c \/ Brk c) -> (∀ p ∈ rest, ∀ q ∈ Led c, p.1 ≠ q.1) -> Fr h₀ env.locals h (fun y => if y = x then u y else kstB (fun z => if stored.contains z then u z else m₀ z) (ps c) y) -> News h₀ env.locals h (Led c ++ rest) -> Q .next { s with heap := h, toks := tk }) :
  wpAny (model prog w) A (pyIter (.ref l)) (fun it s₂ => LoopAtV prog w A h₀ env x body Q E it s₂) E s := by
 refine iter_invG (fun i => LJ ps Led rest x stored m₀ (Inv i)) hh hl hints F N ⟨c₀, rfl, hoff, hk, fun _ _ _ _ => rfl, hi⟩ ?_ fun m₁ nx h tk hJ F N => zc1 hJ F N fun c u hI ho F N => done c u h tk (.inl hI) ho F N
 intro i k t m₁ nx h tk own hik _ ho hJ F₁ N₁
 exact zdS (InvPostG h₀ env.locals (LJ ps Led rest x stored m₀ (Inv (i + 1))) own { s with heap := h, toks := tk } Q) hJ (zhR ho) F₁ N₁ (fun c u own' hI => turn i k t c u h tk own' hik hI) (fun _ _ h => h) (fun c u h tk hB => done c u h tk (.inr hB)) fun h tk m' news' nx hJ F N hn ho hf => ⟨InvEndG.intro F N hJ (zca hf) hn ho, InvEndG.intro F N hJ (zca hf) hn ho⟩
end
section
variable {h : Heap} 
theorem zir {pre post : List (Addr × Obj)} {x : Addr × Obj} (N : News h₀ L h (pre ++ x :: post)) : News h₀ L h ([x] ++ (pre ++ post)) := by
 intro p hp
 refine N p ?_
 simp only [List.mem_append, List.mem_cons, List.not_mem_nil, or_false, List.cons_append, List.nil_append] at hp ⊢
 rcases hp with h | h | h
 ·exact .inr (.inl h)
 ·exact .inl h
 ·exact .inr (.inr h)
theorem zaz {d : Addr} {o : Obj} (h : ∀ p ∈ rest, p.1 ≠ d) : ∀ p ∈ rest, ∀ q ∈ [(d, o)], p.1 ≠ q.1 := by
 intro p hp q hq
 rw [List.mem_singleton.mp hq]
 exact h p hp
theorem zb2 {d : Addr} {o : Obj} (h : ∀ p ∈ own, ∀ q ∈ [(d, o)], p.1 ≠ q.1) : ∀ p ∈ own, p.1 ≠ d := fun p hp => h p hp _ (List.mem_singleton.mpr rfl)
theorem zd2 {a b : Nat} (h : a <= b) : Builtin.Range.rangeSize (a : Int) (b : Int) 1 = ((b - a : Nat) : Int) := by
 unfold Builtin.Range.rangeSize
 rw [if_pos (by decide)]
 split
 ·lia
 ·(clear h; lia)
end
section
variable {x : Str} {body : List Stmt} {Q : Flow -> Shared -> Prop}
theorem zjy {l : Addr} {nn : Nat} (hh : A.handled = none) (F : Fr h₀ env.locals s.heap m₀) (N : News h₀ env.locals s.heap news) (hl : (l, W.listOf #[] nn) ∈ news)
  (done : ∀ h tk, Fr h₀ env.locals h m₀ -> News h₀ env.locals h news -> Q .next { s with heap := h, toks := tk }) :
  wpAny (model prog w) A (pyIter (.ref l)) (fun it s₂ => LoopAtV prog w A h₀ env x body Q E it s₂) E s := by
 refine iter_invNL (vs := []) (ns := []) (fun _ m nx => m = m₀ /\ nx = news) hh hl .nil F N ⟨rfl, rfl⟩ ?_ ?_
 ·intro i n t m₁ news₁ h tk own hn
  cases hn
 ·intro m₁ news₁ h tk _ q95 F₁ N₁
  k_extra "l"
  (refine cj2 (q95) ?_; clear q95; intro q90 q91; subst q90; subst q91)
  k_extra "e"
  exact done h tk F₁ N₁
end
section
variable {Q : Flow -> Shared -> Prop} 
noncomputable def NoTurn (h₀ : Heap) (L : Addr) (m : Str -> Option Value) (news : List (Addr × Obj)) (s : Shared) (b : Bool) (s₂ : Shared) : Prop :=
 b = false /\ ∃ h tk, s₂ = { s with heap := h, toks := tk } /\ Fr h₀ L h m /\ News h₀ L h news
theorem zaQ {news' : List (Addr × Obj)} {b : Bool} {h : Heap} (F : Fr h₀ L h m) (N : News h₀ L h news') (hs : ∀ p ∈ news, p ∈ news') (hb : b = false) : NoTurn h₀ L m news s b { s with heap := h, toks := tk } :=
 ⟨hb, h, tk, rfl, F, fun p hp => N p (hs p hp)⟩
theorem zal {test : Expr} {body : List Stmt} {pos : Pos} (_F : Fr h₀ L s.heap m) (_N : News h₀ L s.heap news)
  (ht : wpAny (model prog w) A (isTrue test env (eval test env)) (NoTurn h₀ L m news s) E s)
  (done : ∀ h tk, Fr h₀ L h m -> News h₀ L h news -> Q .next { s with heap := h, toks := tk })
  (hE : PassesOwn (model prog w) A env E) :
  wpAny (model prog w) A (exec (.While test body [] pos) env) Q E s := by
 refine wpAny_While (codeAny_whileLoop (fun _ s' => s' = s) ?_ 0 rfl)
 rintro n s' rfl
 refine wpAny_mono ht (fun b s₂ h₂ => ?_) hE
 k_extra "l"
 (refine znp (h₂) ?_; clear h₂; intro q90 h tk q93 F N; subst q90; subst q93)
 k_extra "e"
 simp only [Bool.false_eq_true, if_false]
 exact wpAny_execs_nil (done h tk F N)
end
structure OwnMark (own : List (Addr × Obj)) : Prop where
theorem zkz {d : Addr} (_ : OwnMark own) (h : ∀ p ∈ news, p.1 < d) (hs : ∀ p ∈ own, p ∈ news) : ∀ p ∈ own, p.1 ≠ d := fun p hp => Nat.ne_of_lt (h p (hs p hp))
noncomputable def Hold (P : Prop) : Prop := P
theorem hold {P : Prop} (h : Hold P) : P := h
theorem zai {P : Prop} (h : P) : Hold P := h
theorem zf8 {α : Type} {a : α} {l : List α} : a ∈ a :: l := List.mem_cons_self
theorem zbN {α : Type} {a b : α} {l : List α} (h : a ∈ l) : a ∈ b :: l := List.mem_cons_of_mem _ h
noncomputable def cs (as bs : List Int) (alo blo : Nat) : Nat -> Nat -> Nat
 | 0, j => if alo = 0 /\ blo <= j /\ 0 < as.length /\ j < bs.length /\ as[0]? = bs[j]? then 1 else 0
 | i + 1, j => if alo <= i + 1 /\ blo <= j /\ i + 1 < as.length /\ j < bs.length /\ as[i + 1]? = bs[j]? then (match j with | 0 => 0 | j' + 1 => cs as bs alo blo i j') + 1 else 0
noncomputable def zgI (kvs : List (Int × Value)) (f : Int -> Int) : Prop := ∀ k, (∃ t, valueAt kvs k = some (.int (f k) t)) \/ (valueAt kvs k = none /\ f k = 0)
noncomputable def zaU (as bs : List Int) (alo blo : Nat) (P : Nat -> Nat -> Prop) (bi bj bk : Int) : Prop :=
 (bk = 0 /\ bi = alo /\ bj = blo /\ ∀ i j, P i j -> cs as bs alo blo i j = 0) \/
 ∃ i j : Nat, P i j /\ 0 < cs as bs alo blo i j /\ bk = cs as bs alo blo i j /\ bi = (i : Int) - bk + 1 /\ bj = (j : Int) - bk + 1 /\
  ∀ i' j', P i' j' -> cs as bs alo blo i' j' < cs as bs alo blo i j \/ (cs as bs alo blo i' j' = cs as bs alo blo i j /\ (i < i' \/ i = i' /\ j <= j'))
noncomputable def zap (bs : List Int) (x : Int) : List Int := ((List.range bs.length).filter fun j => bs[j]? = some x).map fun j : Nat => (j : Int)
noncomputable def B2J (g : Heap) (bs : List Int) (kvs : List (Int × Value)) : Prop :=
 ∀ x, (valueAt kvs x = none /\ zap bs x = []) \/ ∃ li vs, valueAt kvs x = some (.ref li) /\ g.IsList li vs.toArray /\ IntsAre vs (zap bs x)
theorem ziJ {d : Addr} {o : Obj} {kvs : List (Int × Value)} (N : News h₀ L s.heap news) (hm : (d, o) ∈ news) (ho : o.IsDictOf (PySem.intKind prog w) kvs) : s.heap.MapOf (PySem.intKind prog w) d (valueAt kvs) :=
 (Heap.dictOf_iff.mpr ⟨o, N.get hm, ho⟩).mapOf
theorem znG {q d : Addr} {o : Obj} {kvs : List (Int × Value)} {f : Int -> Int} {k : Int} {t u : Tok} {Q : Value -> Shared -> Prop} (N : News h₀ L s.heap news) (hq : (q, boundObj "dict.get" (.ref d)) ∈ news) (hm : (d, o) ∈ news)
  (ho : o.IsDictOf (PySem.intKind prog w) kvs) (hf : zgI kvs f) (hd : (d == sysModules) = false) (h : ∀ t', Q (.int (f k) t') { s with toks := s.toks + 1 }) :
  wpAny (model prog w) A (call (.ref q) [.int k t, .int 0 u]) Q E s := by
 refine zgD (knd := PySem.intKind prog w) (k := k) (N.get hq) (ziJ N hm ho) (intKind_is _ _ _ _) hd ?_
 rcases hf k with ⟨t', e⟩ | ⟨e, e0⟩
 ·rw [e]; exact h t'
 ·rw [e]; rw [e0] at h; exact h u
theorem zib {d : Addr} {o : Obj} {kvs : List (Int × Value)} {pl : Sem Bool} {Q : Value × List Value -> Shared -> Prop} (N : News h₀ L s.heap news) (hm : (d, o) ∈ news) (ho : o.IsDictOf (PySem.intKind prog w) kvs)
  (h : Q (.builtin "dict.get", [.ref d]) s) : wpAny (model prog w) A (getMethod (.ref d) (Str.ofString "get") pl) Q E s :=
 have hd : s.heap.DictOf (PySem.intKind prog w) d kvs := Heap.dictOf_iff.mpr ⟨o, N.get hm, ho⟩
 getMethod_builtin hd.typeIs PySem.F.plainAttrs_dict PySem.F.slot_dict_get PySem.F.type_dict_get hd.mapOf.noDict h
theorem zn4 {d l0 : Addr} {o : Obj} {kvs : List (Int × Value)} {bs : List Int} {g : Heap} {x : Int} {t : Tok} {Q : Value -> Shared -> Prop} (N : News h₀ L s.heap news) (hm : (d, o) ∈ news) (ho : o.IsDictOf (PySem.intKind prog w) kvs) (hb : B2J g bs kvs) (hd : (d == sysModules) = false)
  (h1 : ∀ li vs, g.IsList li vs.toArray -> IntsAre vs (zap bs x) -> Q (.ref li) { s with toks := s.toks + 1 }) (h2 : zap bs x = [] -> Q (.ref l0) { s with toks := s.toks + 1 }) :
  wpAny (model prog w) A (call (.builtin "dict.get") [.ref d, .int x t, .ref l0]) Q E s := by
 have hM := ziJ N hm ho
 refine call_meetsIn PySem.F.slot_dict_get hM.typeIs PySem.F.entry_dict_get (PySem.F.args_dict_get_3 _ _ _) (meets_dict_get_default (PySem.intKind prog w) d (k := x) (intKind_is _ _ _ _) hd _) ⟨_, hM, ?_⟩
 rcases hb x with ⟨e, e0⟩ | ⟨li, vs, e, hl, hi⟩
 ·rw [e]; exact h2 e0
 ·rw [e]; exact h1 li vs hl hi
abbrev setObj (led : Bool) : Obj := { cls := .type "set", dict := none, data := .set #[] 0 (.fresh 0 0 led) }
theorem zhN {q a : Addr} {led : Bool} {k : Int} {t : Tok} {Q : Value -> Shared -> Prop} (N : News h₀ L s.heap news) (hq : (q, boundObj "set.__contains__" (.ref a)) ∈ news) (hm : (a, setObj led) ∈ news)
  (h : Q (.bool false) { s with toks := s.toks + 1 }) : wpAny (model prog w) A (call (.ref q) [.int k t]) Q E s := by
 have hso : Obj.SetObjOf (PySem.intKind prog w) (setObj led) (fun _ => false) 0 := setObjOf_fresh (knd := PySem.intKind prog w) led
 exact zfw (knd := PySem.intKind prog w) (k := k) (N.get hq) (hso.setOf (N.get hm) (by unfold scanBound; decide)) (intKind_is _ _ _ _) rfl h
example : True := by
 k_with "aO" => rw [List.pairwise_map]
 trivial
theorem zaa {σ : Type} {ps : σ -> List (Str × Value)} {Led : σ -> List (Addr × Obj)} {x : Str} {stored : List Str} {m' : Str -> Option Value} {Inv B : σ -> Prop} {news' : List (Addr × Obj)} {s₁ : Shared} {R : Value -> Shared -> Prop} {h' : Heap} (c : σ)
  (F : Fr h₀ L h' m') (N : News h₀ L h' news') (hl : ∀ p ∈ Led c, p ∈ news') (ho : ∀ p ∈ own, p ∈ news') (hof : ∀ p ∈ own, ∀ q ∈ Led c, p.1 ≠ q.1)
  (hk : ∀ p ∈ ps c, m' p.1 = some p.2) (hz : ∀ z, z ≠ x -> (∀ p ∈ ps c, z ≠ p.1) -> stored.contains z = false -> m' z = m₀ z) (hi : Inv c) :
  LPost h₀ L ps Led x stored m₀ Inv own s₁ B R .next { s₁ with heap := h', toks := tk } := ⟨c, h', tk, m', news', rfl, F, N, hl, ho, hof, hk, hz, hi⟩
theorem zgW {σ : Type} {ps : σ -> List (Str × Value)} {Led : σ -> List (Addr × Obj)} {x : Str} {stored : List Str} {m' : Str -> Option Value} {Inv B : σ -> Prop} {news' : List (Addr × Obj)} {s₁ : Shared} {R : Value -> Shared -> Prop} {h' : Heap} (c : σ)
  (F : Fr h₀ L h' m') (N : News h₀ L h' news') (hl : ∀ p ∈ Led c, p ∈ news') (ho : ∀ p ∈ own, p ∈ news') (hof : ∀ p ∈ own, ∀ q ∈ Led c, p.1 ≠ q.1)
  (hk : ∀ p ∈ ps c, m' p.1 = some p.2) (hz : ∀ z, z ≠ x -> (∀ p ∈ ps c, z ≠ p.1) -> stored.contains z = false -> m' z = m₀ z) (hi : Inv c) :
  LPost h₀ L ps Led x stored m₀ Inv own s₁ B R .cont { s₁ with heap := h', toks := tk } := ⟨c, h', tk, m', news', rfl, F, N, hl, ho, hof, hk, hz, hi⟩
theorem ziW {σ : Type} {ps : σ -> List (Str × Value)} {Led : σ -> List (Addr × Obj)} {x : Str} {stored : List Str} {m' : Str -> Option Value} {Inv B : σ -> Prop} {news' : List (Addr × Obj)} {s₁ : Shared} {R : Value -> Shared -> Prop} {h' : Heap} (c : σ)
  (F : Fr h₀ L h' m') (N : News h₀ L h' news') (hl : ∀ p ∈ Led c, p ∈ news') (ho : ∀ p ∈ own, p ∈ news') (hof : ∀ p ∈ own, ∀ q ∈ Led c, p.1 ≠ q.1)
  (hk : ∀ p ∈ ps c, m' p.1 = some p.2) (hz : ∀ z, z ≠ x -> (∀ p ∈ ps c, z ≠ p.1) -> stored.contains z = false -> m' z = m₀ z) (hi : B c) :
  LPost h₀ L ps Led x stored m₀ Inv own s₁ B R .brk { s₁ with heap := h', toks := tk } := ⟨c, h', tk, m', news', rfl, F, N, hl, ho, hof, hk, hz, hi⟩
theorem zby {K : Type} [DecidableEq K] (kvs : List (K × Value)) (j : K) (v : Value) (k : K) : valueAt (stored kvs j v) k = if k = j then some v else valueAt kvs k := by
 unfold stored valueAt
 by_cases hany : (kvs.any fun kv => decide (kv.1 = j)) = true
 ·rw [if_pos hany]
  induction kvs with
  | nil => simp at hany
  | cons a r ih =>
   simp only [List.map_cons, List.find?_cons]
   by_cases ha : a.1 = j
   ·simp only [ha, if_true]
    by_cases hk : k = j
    ·subst hk; simp
    ·have : ¬ (j = k) := fun e => hk e.symm
     simp only [this, decide_false, if_neg hk]
     by_cases hr : (r.any fun kv => decide (kv.1 = j)) = true
     ·have := ih hr
      rw [if_neg hk] at this
      exact this
     ·congr 2
      have : r.map (fun kv => if kv.1 = j then (kv.1, v) else kv) = r := by
       conv => rhs; rw [<- List.map_id r]
       apply List.map_congr_left
       intro x hx
       have : ¬ x.1 = j := fun e => hr (List.any_eq_true.mpr ⟨x, hx, by simpa using e⟩)
       simp [this]
      rw [this]
   ·simp only [ha, if_false]
    have hr : (r.any fun kv => decide (kv.1 = j)) = true := by
     simp only [List.any_cons, ha, decide_false, Bool.false_or] at hany
     exact hany
    by_cases hk : a.1 = k
    ·have : ¬ k = j := fun e => ha (hk.trans e)
     simp [hk, this]
    ·simp only [hk, decide_false]
     exact ih hr
 ·rw [if_neg hany, List.find?_append]
  have hno : ∀ x ∈ kvs, ¬ x.1 = j := fun x hx e => hany (List.any_eq_true.mpr ⟨x, hx, by simpa using e⟩)
  by_cases hk : k = j
  ·subst hk
   have : kvs.find? (fun kv => decide (kv.1 = k)) = none := by
    rw [List.find?_eq_none]
    intro x hx
    simpa using hno x hx
   rw [this]; simp
  ·have : ¬ j = k := fun e => hk e.symm
   rw [if_neg hk]
   simp [this]
theorem zeJ {kvs : List (Int × Value)} {f g : Int -> Int} {j v : Int} {t : Tok} (h : zgI kvs f) (hg : ∀ k, g k = if k = j then v else f k) : zgI (stored kvs j (.int v t)) g := by
 intro k
 rw [zby, hg k]
 by_cases hk : k = j
 ·rw [if_pos hk, if_pos hk]; exact .inl ⟨t, rfl⟩
 ·rw [if_neg hk, if_neg hk]; exact h k
noncomputable def rowI (as bs : List Int) (alo blo bhi n : Nat) (k : Int) : Int := if 0 < n /\ 0 <= k /\ k < bhi then (cs as bs alo blo (alo + n - 1) k.toNat : Int) else 0
theorem zbH {as bs : List Int} {alo blo : Nat} : ∀ {i j : Nat}, ¬ (alo <= i /\ blo <= j /\ i < as.length /\ j < bs.length /\ as[i]? = bs[j]?) -> cs as bs alo blo i j = 0
 | 0, j, h => by
  unfold cs
  rw [if_neg]
  intro ⟨a, b, c, d, e⟩
  exact h ⟨by exact Nat.le_zero.mpr a, b, c, d, e⟩
 | i + 1, j, h => by
  unfold cs
  rw [if_neg h]
theorem zbo {as bs : List Int} {alo blo i j : Nat} (h1 : alo <= i) (h2 : blo <= j) (h3 : i < as.length) (h4 : j < bs.length) (h5 : as[i]? = bs[j]?) :
  cs as bs alo blo i j = (if 0 < i /\ 0 < j then cs as bs alo blo (i - 1) (j - 1) else 0) + 1 := by
 cases i with
 | zero =>
  unfold cs
  rw [if_pos ⟨by exact Nat.eq_zero_of_le_zero h1, h2, h3, h4, h5⟩]
  simp
 | succ i =>
  simp only [Nat.add_sub_cancel]
  cases j with
  | zero => rw [cs, if_pos ⟨h1, h2, h3, h4, h5⟩]; simp
  | succ j => rw [cs, if_pos ⟨h1, h2, h3, h4, h5⟩]; simp
theorem zi9 {as bs : List Int} {alo blo bhi n j : Nat} (h2 : blo <= j) (h3 : alo + n < as.length) (h4 : j < bs.length) (hb : j < bhi) (h5 : as[alo + n]? = bs[j]?) :
  rowI as bs alo blo bhi n ((j : Int) - 1) + 1 = (cs as bs alo blo (alo + n) j : Int) := by
 rw [zbo (by exact Nat.le_add_right alo n) h2 h3 h4 h5]
 unfold rowI
 by_cases hn : 0 < n
 ·by_cases hj : 0 < j
  ·rw [if_pos ⟨hn, by lia, by lia⟩, if_pos ⟨by exact Nat.add_pos_right alo hn, hj⟩]
   have : ((j : Int) - 1).toNat = j - 1 := by lia
   rw [this]
   rfl
  ·rw [if_neg (by (clear h2 h3 h4 hb h5 hn; omega)), if_neg (by exact (not_and.mpr fun a => hj))]; rfl
 ·rw [if_neg (by exact (not_and.mpr fun a a_1 => hn a))]
  by_cases hz : 0 < alo + n /\ 0 < j
  ·rw [if_pos hz, zbH (by (clear h2 h3 h4 hb h5; omega))]; rfl
  ·rw [if_neg hz]; rfl
theorem zfT {as bs : List Int} {alo blo i j : Nat} (h1 : alo <= i) (h2 : blo <= j) (h3 : i < as.length) (h4 : j < bs.length) (h5 : as[i]? = bs[j]?) : 0 < cs as bs alo blo i j := by
 rw [zbo h1 h2 h3 h4 h5]; exact Nat.zero_lt_succ (if 0 < i /\ 0 < j then cs as bs alo blo (i - 1) (j - 1) else 0)
theorem zc3 {as bs : List Int} {alo blo : Nat} {P P' : Nat -> Nat -> Prop} {bi bj bk : Int} (h : zaU as bs alo blo P bi bj bk) (hs : ∀ i j, P i j -> P' i j) (hz : ∀ i j, P' i j -> P i j \/ cs as bs alo blo i j = 0) : zaU as bs alo blo P' bi bj bk :=
 h.elim (fun h => .inl ⟨h.1, h.2.1, h.2.2.1, fun i j q => (hz i j q).elim (h.2.2.2 i j) id⟩) fun h => h.elim fun i h => h.elim fun j h =>
  .inr ⟨i, j, hs _ _ h.1, h.2.1, h.2.2.1, h.2.2.2.1, h.2.2.2.2.1, fun i' j' q => (hz i' j' q).elim (h.2.2.2.2.2 i' j') fun q => .inl (lt_of_eq_of_lt q h.2.1)⟩
theorem zea {as bs : List Int} {alo blo : Nat} {P P' : Nat -> Nat -> Prop} {I J : Nat} (hlt : ∀ i j, P i j -> cs as bs alo blo i j < cs as bs alo blo I J) (hP : ∀ i j, P' i j ↔ P i j \/ (i = I /\ j = J)) (h0 : 0 < cs as bs alo blo I J) :
  zaU as bs alo blo P' ((I : Int) - cs as bs alo blo I J + 1) ((J : Int) - cs as bs alo blo I J + 1) (cs as bs alo blo I J) :=
 .inr ⟨I, J, (hP _ _).mpr (.inr ⟨rfl, rfl⟩), h0, rfl, rfl, rfl, fun i j h => ((hP _ _).mp h).elim (fun h => .inl (hlt _ _ h)) fun q => q.1 ▸ q.2 ▸ .inr ⟨rfl, .inr ⟨rfl, Nat.le_refl _⟩⟩⟩
theorem ziC {as bs : List Int} {alo blo : Nat} {P P' : Nat -> Nat -> Prop} {bi bj bk : Int} {I J : Nat} (h : zaU as bs alo blo P bi bj bk) (hlt : ∀ i j, P i j -> i < I \/ (i = I /\ j < J)) (hP : ∀ i j, P' i j ↔ P i j \/ (i = I /\ j = J)) (h0 : 0 < cs as bs alo blo I J) :
  (bk < cs as bs alo blo I J -> zaU as bs alo blo P' ((I : Int) - cs as bs alo blo I J + 1) ((J : Int) - cs as bs alo blo I J + 1) (cs as bs alo blo I J)) /\
  (¬ bk < cs as bs alo blo I J -> zaU as bs alo blo P' bi bj bk) := by
 refine h.elim (fun h => ⟨fun _ => zea (fun i j q => by rw [h.2.2.2 i j q]; exact h0) hP h0, fun hn => absurd (by rw [h.1]; exact Int.natCast_pos.mpr h0) hn⟩) fun h => h.elim fun i h => h.elim fun j h => ⟨fun hk => zea (fun i' j' q => ?_) hP h0, fun hk => .inr ⟨i, j, (hP _ _).mpr (.inl h.1), h.2.1, h.2.2.1, h.2.2.2.1, h.2.2.2.2.1, fun i' j' q => ((hP _ _).mp q).elim (h.2.2.2.2.2 i' j') fun q => ?_⟩⟩
 ·have h1 : cs as bs alo blo i j < cs as bs alo blo I J := Int.ofNat_lt.mp (h.2.2.1 ▸ hk)
  exact (h.2.2.2.2.2 i' j' q).elim (fun q => Nat.lt_trans q h1) fun q => q.1 ▸ h1
 ·have h1 : ¬ cs as bs alo blo i j < cs as bs alo blo I J := fun q => hk (h.2.2.1.symm ▸ Int.ofNat_lt.mpr q)
  rw [q.1, q.2]
  exact (Nat.lt_or_eq_of_le (Nat.le_of_not_lt h1)).elim .inl fun he => .inr ⟨he, (hlt _ _ h.1).imp id fun q => ⟨q.1, Nat.le_of_lt q.2⟩⟩
theorem ziq {bs : List Int} {x : Int} {q : Nat} {k : Int} (h : (zap bs x)[q]? = some k) : ∃ j : Nat, k = (j : Int) /\ j < bs.length /\ bs[j]? = some x := by
 unfold zap at h
 rw [List.getElem?_map] at h
 k_extra "l"
 (refine x_EA (Option.map_eq_some_iff.mp h) ?_; intro j hj q92; subst q92)
 k_extra "e"
 have hm := List.mem_of_getElem? hj
 simp only [List.mem_filter, List.mem_range, decide_eq_true_eq] at hm
 exact ⟨j, rfl, hm.1, hm.2⟩
theorem zhv {bs : List Int} {x : Int} {j : Nat} (h : bs[j]? = some x) : (j : Int) ∈ zap bs x := by
 unfold zap
 refine List.mem_map.mpr ⟨j, ?_, rfl⟩
 simp only [List.mem_filter, List.mem_range, decide_eq_true_eq]
 exact ⟨(List.getElem?_eq_some_iff.mp h).1, h⟩
theorem zeG (bs : List Int) (x : Int) : (zap bs x).Pairwise (· < ·) := by
 unfold zap
 k_extra "aO"
 refine List.Pairwise.imp (R := (· < ·)) (fun h => by exact Int.ofNat_lt.mpr h) ?_
 exact List.Pairwise.filter _ List.pairwise_lt_range
theorem zf7 {bs : List Int} {x : Int} {q r : Nat} {k l : Int} (hq : (zap bs x)[q]? = some k) (hr : (zap bs x)[r]? = some l) (h : q < r) : k < l := by
 refine bc fun hG9 => ?_; obtain ⟨h1, e1⟩ := List.getElem?_eq_some_iff.mp hq; refine hG9 ?_; clear hG9
 refine bc fun hG9 => ?_; obtain ⟨h2, e2⟩ := List.getElem?_eq_some_iff.mp hr; refine hG9 ?_; clear hG9
 have := List.pairwise_iff_getElem.mp (zeG bs x) q r h1 h2 h
 lia
theorem zb9 (bs : List Int) (x : Int) : (zap bs x).length <= bs.length := by
 unfold zap
 rw [List.length_map]
 exact Nat.le_trans (List.length_filter_le _ _) (by simp)
structure FI where
 bi : Int
 bj : Int
 bk : Int
 t1 : Tok
 t2 : Tok
 t3 : Tok
 o : Obj
 kvs : List (Int × Value)
 D : List (PyData × PyData)
structure FO where
 bi : Int
 bj : Int
 bk : Int
 t1 : Tok
 t2 : Tok
 t3 : Tok
 d : Addr
 o : Obj
 kvs : List (Int × Value)
 D : List (PyData × PyData)
noncomputable def InvO (prog : Program) (w : World) (as bs : List Int) (alo blo bhi : Nat) (n : Nat) (c : FO) : Prop :=
 c.o.IsDictOf (PySem.intKind prog w) c.kvs /\ PyProof.V.FlatPairs PyData.int c.kvs c.D /\ (c.d == sysModules) = false /\ zgI c.kvs (rowI as bs alo blo bhi n) /\ c.D.length <= bs.length /\
  zaU as bs alo blo (fun i j => alo <= i /\ i < alo + n /\ blo <= j /\ j < bhi) c.bi c.bj c.bk
noncomputable def SI (idx : List Int) (q : Nat) (k : Int) : Prop := ∃ r, r < q /\ idx[r]? = some k
noncomputable def InvI (prog : Program) (w : World) (as bs : List Int) (alo blo bhi n : Nat) (x : Int) (q : Nat) (c : FI) : Prop :=
 c.o.IsDictOf (PySem.intKind prog w) c.kvs /\ PyProof.V.FlatPairs PyData.int c.kvs c.D /\
  (∃ f, zgI c.kvs f /\ ∀ k, (SI (zap bs x) q k /\ (blo : Int) <= k /\ k < bhi -> f k = cs as bs alo blo (alo + n) k.toNat) /\ (¬ (SI (zap bs x) q k /\ (blo : Int) <= k /\ k < bhi) -> f k = 0)) /\ c.D.length <= q /\
  zaU as bs alo blo (fun i j => (alo <= i /\ i < alo + n /\ blo <= j /\ j < bhi) \/ (i = alo + n /\ blo <= j /\ j < bhi /\ SI (zap bs x) q (j : Int))) c.bi c.bj c.bk
noncomputable def BrkI (prog : Program) (w : World) (as bs : List Int) (alo blo bhi n : Nat) (x : Int) (c : FI) : Prop :=
 ∃ q, q <= (zap bs x).length /\ InvI prog w as bs alo blo bhi n x q c /\ ∀ r k, q <= r -> (zap bs x)[r]? = some k -> (bhi : Int) <= k
section
variable {as bs : List Int} {alo blo bhi n q : Nat} {x j : Int} {c : FI}
theorem zaS {idx : List Int} {q : Nat} {j k : Int} (h : idx[q]? = some j) : SI idx (q + 1) k ↔ SI idx q k \/ k = j := by
 constructor
 ·intro q90
  (refine x_EA (q90) ?_; clear q90; intro r hr e)
  by_cases hq : r = q
  ·subst hq; rw [h] at e; exact .inr (Option.some.inj e).symm
  ·exact .inl ⟨r, by lia, e⟩
 ·rintro (⟨r, hr, e⟩ | rfl)
  ·exact ⟨r, by exact Nat.lt_add_right 1 hr, e⟩
  ·exact ⟨q, by exact Nat.lt_add_one q, h⟩
theorem zjq (h : InvI prog w as bs alo blo bhi n x q c) (hj : (zap bs x)[q]? = some j) (hb : j < blo) : InvI prog w as bs alo blo bhi n x (q + 1) c := by
 refine h.2.2.1.elim fun f hf => ⟨h.1, h.2.1, ⟨f, hf.1, fun k => ?_⟩, Nat.le_add_right_of_le h.2.2.2.1, zc3 h.2.2.2.2 ?_ ?_⟩
 ·constructor
  ·intro q90
   (refine cj3 (q90) ?_; clear q90; intro h1 h2 h3)
   rcases (zaS hj).mp h1 with h1 | rfl
   ·exact (hf.2 k).1 ⟨h1, h2, h3⟩
   ·lia
  ·intro hn
   exact (hf.2 k).2 fun ⟨h1, h2⟩ => hn ⟨(zaS hj).mpr (.inl h1), h2⟩
 ·rintro i j' (h | ⟨h1, h2, h3, h4⟩)
  ·exact .inl h
  ·exact .inr ⟨h1, h2, h3, (zaS hj).mpr (.inl h4)⟩
 ·rintro i j' (h | ⟨h1, h2, h3, h4⟩)
  ·exact .inl (.inl h)
  ·rcases (zaS hj).mp h4 with h4 | e4
   ·exact .inl (.inr ⟨h1, h2, h3, h4⟩)
   ·(clear hj h1 h3 hf; lia)
theorem znO (h : InvI prog w as bs alo blo bhi n x q c) (hj : (zap bs x)[q]? = some j) (hb : (bhi : Int) <= j) : BrkI prog w as bs alo blo bhi n x c := by
 refine ⟨q, Nat.le_of_lt (List.getElem?_eq_some_iff.mp hj).1, h, fun r k hr hk => ?_⟩
 by_cases e : r = q
 ·subst e; rw [hj] at hk; have := Option.some.inj hk; lia
 ·have := zf7 hj hk (by exact (Nat.lt_of_le_of_ne hr fun a => e (id (Eq.symm a)))); exact Int.le_trans hb (Int.le_of_lt this)
theorem zkP (h : InvI prog w as bs alo blo bhi n x q c) (hx : as[alo + n]? = some x) (hj : (zap bs x)[q]? = some j) (h1 : (blo : Int) <= j) (h2 : j < bhi) {o' : Obj} {v : Int} {t : Tok}
  (hv : v = rowI as bs alo blo bhi n (j - 1) + 1)
  (ho : o'.IsDictOf (PySem.intKind prog w) (stored c.kvs j (.int v t))) (hf : PyProof.V.FlatPairs PyData.int (stored c.kvs j (.int v t)) (PyProof.V.putD (PyData.int j) (PyData.int v) c.D)) {t1 t2 t3 : Tok} :
  (c.bk < v -> InvI prog w as bs alo blo bhi n x (q + 1) ⟨(alo : Int) + (n : Int) - v + 1, j - v + 1, v, t1, t2, t3, o', stored c.kvs j (.int v t), PyProof.V.putD (PyData.int j) (PyData.int v) c.D⟩) /\
  (¬ c.bk < v -> InvI prog w as bs alo blo bhi n x (q + 1) ⟨c.bi, c.bj, c.bk, t1, t2, t3, o', stored c.kvs j (.int v t), PyProof.V.putD (PyData.int j) (PyData.int v) c.D⟩) := by
 k_extra "l"
 (refine zaW (ziq hj) ?_; intro J q91 hJ hJx; subst q91)
 k_extra "e"
 refine h.2.2.1.elim fun f hf0 => ?_
 have hI : alo + n < as.length := (List.getElem?_eq_some_iff.mp hx).1
 have hv' : v = (cs as bs alo blo (alo + n) J : Int) := by
  rw [hv]; exact zi9 (by exact Int.ofNat_le.mp h1) hI hJ (by exact Int.ofNat_lt.mp h2) (hx.trans hJx.symm)
 have hpos : 0 < cs as bs alo blo (alo + n) J := zfT (by exact Nat.le_add_right alo n) (by exact Int.ofNat_le.mp h1) hI hJ (hx.trans hJx.symm)
 have hd : (PyProof.V.putD (PyData.int (J : Int)) (PyData.int v) c.D).length <= q + 1 := Nat.le_trans (PyProof.V.putD_length_le _ _ _) (by exact Nat.add_le_add_right h.2.2.2.1 1)
 have htab : ∃ f', zgI (stored c.kvs (J : Int) (.int v t)) f' /\ ∀ k, (SI (zap bs x) (q + 1) k /\ (blo : Int) <= k /\ k < bhi -> f' k = cs as bs alo blo (alo + n) k.toNat) /\ (¬ (SI (zap bs x) (q + 1) k /\ (blo : Int) <= k /\ k < bhi) -> f' k = 0) := by
  refine ⟨fun k => if k = (J : Int) then v else f k, zeJ hf0.1 (fun _ => rfl), fun k => ⟨?_, ?_⟩⟩
  ·intro q90
   (refine cj3 (q90) ?_; clear q90; intro h3 h4 h5)
   dsimp only
   by_cases e : k = (J : Int)
   ·rw [if_pos e, e, hv']; simp
   ·rw [if_neg e]
    exact (hf0.2 k).1 ⟨((zaS hj).mp h3).resolve_right e, h4, h5⟩
  ·intro hn
   dsimp only
   by_cases e : k = (J : Int)
   ·subst e
    exact absurd ⟨(zaS hj).mpr (.inr rfl), h1, h2⟩ hn
   ·rw [if_neg e]
    exact (hf0.2 k).2 fun ⟨h3, h4⟩ => hn ⟨(zaS hj).mpr (.inl h3), h4⟩
 have hb := ziC (P' := fun i j => (alo <= i /\ i < alo + n /\ blo <= j /\ j < bhi) \/ (i = alo + n /\ blo <= j /\ j < bhi /\ SI (zap bs x) (q + 1) (j : Int))) (I := alo + n) (J := J) h.2.2.2.2 (by
   rintro i j' (h | ⟨h3, h4, h5, r, hr, hrk⟩)
   ·exact .inl h.2.1
   ·exact .inr ⟨h3, by have := zf7 hrk hj hr; exact Int.ofNat_lt.mp this⟩) (by
   intro i j'
   constructor
   ·rintro (h | ⟨h3, h4, h5, h6⟩)
    ·exact .inl (.inl h)
    ·rcases (zaS hj).mp h6 with h6 | h6
     ·exact .inl (.inr ⟨h3, h4, h5, h6⟩)
     ·exact .inr ⟨h3, by exact Int.ofNat_inj.mp h6⟩
   ·rintro ((h | ⟨h3, h4, h5, h6⟩) | ⟨rfl, rfl⟩)
    ·exact .inl h
    ·exact .inr ⟨h3, h4, h5, (zaS hj).mpr (.inl h6)⟩
    ·exact .inr ⟨rfl, by exact Int.ofNat_le.mp h1, by exact Int.ofNat_lt.mp h2, (zaS hj).mpr (.inr rfl)⟩) hpos
 constructor
 ·intro hlt
  refine ⟨ho, hf, htab, hd, ?_⟩
  have := hb.1 (by exact lt_of_lt_of_eq hlt hv')
  rw [<- hv', Int.natCast_add] at this
  exact this
 ·intro hlt
  exact ⟨ho, hf, htab, hd, hb.2 (by exact Eq.mpr_not (congrArg (LT.lt c.bk) (id (Eq.symm hv'))) hlt)⟩
theorem zex {o : Obj} {bi bj bk : Int} {t1 t2 t3 : Tok} (ho : o.IsDictOf (PySem.intKind prog w) []) (hb : zaU as bs alo blo (fun i j => alo <= i /\ i < alo + n /\ blo <= j /\ j < bhi) bi bj bk) :
  InvI prog w as bs alo blo bhi n x 0 ⟨bi, bj, bk, t1, t2, t3, o, [], []⟩ := by
 refine ⟨ho, .nil, ⟨fun _ => 0, fun k => .inr ⟨rfl, rfl⟩, fun k => ⟨fun ⟨⟨r, hr, _⟩, _⟩ => absurd hr (Nat.not_lt_zero _), fun _ => rfl⟩⟩, Nat.le_refl _, zc3 hb (fun i j h => .inl h) ?_⟩
 rintro i j (h | ⟨_, _, _, r, hr, _⟩)
 ·exact .inl h
 ·exact absurd hr (Nat.not_lt_zero _)
theorem zgh (hx : as[alo + n]? = some x) (h4 : bhi <= bs.length) (h : InvI prog w as bs alo blo bhi n x (zap bs x).length c \/ BrkI prog w as bs alo blo bhi n x c) {d : Addr} (hd : (d == sysModules) = false) {t1 t2 t3 : Tok} :
  InvO prog w as bs alo blo bhi (n + 1) ⟨c.bi, c.bj, c.bk, t1, t2, t3, d, c.o, c.kvs, c.D⟩ := by
 have hI : alo + n < as.length := (List.getElem?_eq_some_iff.mp hx).1
 have : ∃ q, q <= (zap bs x).length /\ InvI prog w as bs alo blo bhi n x q c /\ ∀ r k, q <= r -> (zap bs x)[r]? = some k -> (bhi : Int) <= k := by
  rcases h with h | h
  ·refine ⟨_, Nat.le_refl _, h, fun r k hr hk => ?_⟩
   have := (List.getElem?_eq_some_iff.mp hk).1
   lia
  ·exact h
 refine this.elim fun q h9 => h9.2.1.2.2.1.elim fun f hf => ?_
 have key : ∀ j : Nat, j < bhi -> bs[j]? = some x -> SI (zap bs x) q (j : Int) := by
  intro j hj hjx
  (refine x_E (List.getElem?_of_mem (zhv hjx)) ?_; intro r hr)
  refine ⟨r, ?_, hr⟩
  by_cases hrq : q <= r
  ·have := h9.2.2 r _ hrq hr; lia
  ·exact Nat.lt_of_not_le hrq
 refine ⟨h9.2.1.1, h9.2.1.2.1, hd, fun k => ?_, Nat.le_trans h9.2.1.2.2.2.1 (Nat.le_trans h9.1 (zb9 _ _)), zc3 h9.2.1.2.2.2.2 ?_ ?_⟩
 ·have e : rowI as bs alo blo bhi (n + 1) k = f k := by
   unfold rowI
   by_cases hs : SI (zap bs x) q k /\ (blo : Int) <= k /\ k < bhi
   ·rw [if_pos ⟨by exact Nat.zero_lt_succ n, by lia, hs.2.2⟩, (hf.2 k).1 hs]
    rfl
   ·rw [(hf.2 k).2 hs]
    split
    ·rename_i hc
     (refine cj3 (hc) ?_; clear hc; intro _ hk0 hkb)
     have hk1 := Int.eq_natCast_toNat.mpr hk0
     refine congrArg Int.ofNat (zbH fun q => hs ⟨?_, ?_, hkb⟩)
     ·rw [hk1]
      exact key k.toNat (by lia) (q.2.2.2.2.symm.trans hx)
     ·have := q.2.1
      lia
    ·rfl
  rw [e]; exact hf.1 k
 ·rintro i j (h | ⟨h1, h2, h3, _⟩)
  ·exact ⟨h.1, by exact Nat.lt_succ_of_lt h.2.1, h.2.2⟩
  ·exact ⟨by exact Nat.le.intro (id (Eq.symm h1)), by lia, h2, h3⟩
 ·intro i j q92
  (refine cj4 (q92) ?_; clear q92; intro h1 h2 h3 h4')
  by_cases hi : i = alo + n
  ·subst hi
   by_cases hjx : bs[j]? = some x
   ·exact .inl (.inr ⟨rfl, h3, h4', key j h4' hjx⟩)
   ·exact .inr (zbH fun ⟨_, _, _, _, h5⟩ => hjx (by rw [<- h5]; exact hx))
  ·exact .inl (.inl ⟨h1, by lia, h3, h4'⟩)
end
theorem za3 {d : Addr} {o : Obj} (h : (d, o) ∈ news) : ∀ p ∈ [(d, o)], p ∈ news := by
 intro p hp
 rw [List.mem_singleton.mp hp]
 exact h
theorem zbc {l : List Str} {z a : Str} (h : l.contains z = false) (ha : a ∈ l) : z ≠ a := by
 rintro rfl
 rw [List.contains_iff_mem.mpr ha] at h
 cases h
theorem ziv {z a : Str} (h : z ≠ a) : [a].contains z = false := by
 cases e : [a].contains z with
 | false => rfl
 | true => exact absurd (List.mem_singleton.mp (List.contains_iff_mem.mp e)) h
theorem zqh {as bs : List Int} {alo blo : Nat} : ∀ {i j : Nat}, (alo <= i -> blo <= j -> cs as bs alo blo i j + alo <= i + 1 /\ cs as bs alo blo i j + blo <= j + 1)
 | 0, j => by
  intro h1 h2
  by_cases h : alo <= 0 /\ blo <= j /\ 0 < as.length /\ j < bs.length /\ as[0]? = bs[j]?
  ·rw [zbo h1 h2 h.2.2.1 h.2.2.2.1 h.2.2.2.2]; simp; lia
  ·rw [zbH h]; lia
 | i + 1, j => by
  intro h1 h2
  by_cases h : alo <= i + 1 /\ blo <= j /\ i + 1 < as.length /\ j < bs.length /\ as[i + 1]? = bs[j]?
  ·rw [zbo h1 h2 h.2.2.1 h.2.2.2.1 h.2.2.2.2]
   simp only [Nat.add_sub_cancel]
   by_cases hj : 0 < i + 1 /\ 0 < j
   ·rw [if_pos hj]
    by_cases ha : alo <= i /\ blo <= j - 1
    ·have := zqh (as := as) (bs := bs) (i := i) (j := j - 1) ha.1 ha.2
     lia
    ·rw [zbH fun q => ha ⟨q.1, q.2.1⟩]; lia
   ·rw [if_neg hj]; (clear h hj; lia)
  ·rw [zbH h]; lia
theorem zrq {as bs : List Int} {alo blo i j : Nat} (h : 0 < cs as bs alo blo i j) : alo <= i /\ blo <= j /\ i < as.length /\ j < bs.length /\ as[i]? = bs[j]? :=
 Classical.byContradiction fun hc => by rw [zbH hc] at h; exact absurd h (Nat.lt_irrefl 0)
theorem zhK {as bs : List Int} {alo blo : Nat} : ∀ (d : Nat) {i j : Nat}, d < cs as bs alo blo i j -> ∃ i' j', i = i' + d /\ j = j' + d /\ (alo <= i' /\ blo <= j' /\ i' < as.length /\ j' < bs.length /\ as[i']? = bs[j']?) /\ cs as bs alo blo i' j' + d = cs as bs alo blo i j
 | 0, i, j => fun h => ⟨i, j, rfl, rfl, zrq h, rfl⟩
 | d + 1, i, j => fun h => by
  have hc := zrq (Nat.lt_of_le_of_lt (Nat.zero_le _) h)
  have hs := zbo hc.1 hc.2.1 hc.2.2.1 hc.2.2.2.1 hc.2.2.2.2
  rw [hs] at h ⊢
  have h := Nat.lt_of_succ_lt_succ h
  by_cases hz : 0 < i /\ 0 < j
  ·rw [if_pos hz] at h ⊢
   (refine zdC (zhK d h) ?_; intro i' j' e1 e2 hc' e3)
   exact ⟨i', j', (Nat.succ_pred_eq_of_pos hz.1).symm.trans (congrArg Nat.succ e1), (Nat.succ_pred_eq_of_pos hz.2).symm.trans (congrArg Nat.succ e2), hc', congrArg Nat.succ e3⟩
  ·rw [if_neg hz] at h; exact absurd h (Nat.not_lt_zero _)
theorem tn1 (a : Nat) : (((a + 1 : Nat) : Int) - 1).toNat = a := by lia
theorem tn2 {i d : Nat} : ((i + d : Nat) : Int) - ((d + 1 : Nat) : Int) + 1 = (i : Int) := by lia
def BF (as bs : List Int) (alo ahi blo bhi : Nat) (bi bj bk : Int) : Prop :=
  (alo : Int) <= bi /\ (blo : Int) <= bj /\ 0 <= bk /\ bi + bk <= ahi /\ bj + bk <= bhi /\ ((alo : Int) < bi -> (blo : Int) < bj -> as.getD (bi - 1).toNat 0 ≠ bs.getD (bj - 1).toNat 0) /\
   (bi + bk < ahi -> bj + bk < bhi -> as.getD (bi + bk).toNat 0 ≠ bs.getD (bj + bk).toNat 0)
theorem BF.of {as bs : List Int} {alo ahi blo bhi : Nat} {bi bj bk x y z : Int} (h : BF as bs alo ahi blo bhi x y z) (e1 : bi = x) (e2 : bj = y) (e3 : bk = z) : BF as bs alo ahi blo bhi bi bj bk := by rw [e1, e2, e3]; exact h
theorem zc5 {as bs : List Int} {i j : Nat} (hi : i < as.length) (hj : j < bs.length) (e : as.getD i 0 = bs.getD j 0) : as[i]? = bs[j]? := by
 have g : ∀ {l : List Int} {k : Nat}, k < l.length -> l[k]? = some (l.getD k 0) := fun {l k} hk => by rw [List.getD_eq_getElem?_getD, List.getElem?_eq_getElem hk]; rfl
 rw [g hi, g hj, e]
theorem zoP {as bs : List Int} {alo ahi blo bhi : Nat} (h1 : alo <= ahi) (h2 : ahi <= as.length) (h3 : blo <= bhi) (h4 : bhi <= bs.length) (hz : ∀ i j, alo <= i /\ i < ahi /\ blo <= j /\ j < bhi -> cs as bs alo blo i j = 0) : BF as bs alo ahi blo bhi alo blo 0 := by
 unfold BF
 rw [Int.add_zero, Int.add_zero]
 refine ⟨Int.le_refl _, Int.le_refl _, Int.le_refl _, Int.ofNat_le.mpr h1, Int.ofNat_le.mpr h3, fun q => absurd q (Int.lt_irrefl _), fun q1 q2 e => ?_⟩
 have q1 := Int.ofNat_lt.mp q1
 have q2 := Int.ofNat_lt.mp q2
 exact Nat.ne_of_gt (zfT (Nat.le_refl alo) (Nat.le_refl blo) (Nat.lt_of_lt_of_le q1 h2) (Nat.lt_of_lt_of_le q2 h4) (zc5 (Nat.lt_of_lt_of_le q1 h2) (Nat.lt_of_lt_of_le q2 h4) e)) (hz alo blo ⟨Nat.le_refl _, q1, Nat.le_refl _, q2⟩)
theorem zqb {as bs : List Int} {alo ahi blo bhi i d j : Nat} (h2 : ahi <= as.length) (h4 : bhi <= bs.length) (p : alo <= i + d /\ i + d < ahi /\ blo <= j + d /\ j + d < bhi) (ci : alo <= i) (cj : blo <= j) (li : i < as.length) (lj : j < bs.length) (he : as[i]? = bs[j]?)
  (e3 : cs as bs alo blo i j = 1) (hd : cs as bs alo blo (i + d) (j + d) = d + 1) (hall : ∀ x y, alo <= x /\ x < ahi /\ blo <= y /\ y < bhi -> cs as bs alo blo x y <= d + 1) : BF as bs alo ahi blo bhi (i : Int) (j : Int) ((d + 1 : Nat) : Int) := by
 refine ⟨Int.ofNat_le.mpr ci, Int.ofNat_le.mpr cj, Int.natCast_nonneg _, Int.ofNat_le.mpr p.2.1, Int.ofNat_le.mpr p.2.2.2, fun q1 q2 e => ?_, fun q1 q2 e => ?_⟩
 ·rw [zbo ci cj li lj he] at e3
  generalize hi : i = i' at *
  generalize hj : j = j' at *
  cases i' with
  | zero => exact absurd (Int.ofNat_lt.mp q1) (Nat.not_lt_zero _)
  | succ a =>
   cases j' with
   | zero => exact absurd (Int.ofNat_lt.mp q2) (Nat.not_lt_zero _)
   | succ b =>
    have g1 := Nat.lt_of_succ_lt li
    have g2 := Nat.lt_of_succ_lt lj
    rw [if_pos ⟨Nat.succ_pos _, Nat.succ_pos _⟩] at e3
    rw [tn1, tn1] at e
    exact Nat.ne_of_gt (zfT (Nat.le_of_lt_succ (Int.ofNat_lt.mp q1)) (Nat.le_of_lt_succ (Int.ofNat_lt.mp q2)) g1 g2 (zc5 g1 g2 e)) (Nat.succ.inj e3)
 ·have q1 : i + d + 1 < ahi := Int.ofNat_lt.mp q1
  have q2 : j + d + 1 < bhi := Int.ofNat_lt.mp q2
  have x1 := Nat.lt_of_lt_of_le q1 h2
  have x2 := Nat.lt_of_lt_of_le q2 h4
  have a9 := zbo (Nat.le_succ_of_le p.1) (Nat.le_succ_of_le p.2.2.1) x1 x2 (zc5 x1 x2 e)
  have a8 := hall (i + d + 1) (j + d + 1) ⟨Nat.le_succ_of_le p.1, q1, Nat.le_succ_of_le p.2.2.1, q2⟩
  rw [a9, if_pos ⟨Nat.succ_pos _, Nat.succ_pos _⟩] at a8
  exact Nat.not_succ_le_self _ (Nat.le_trans (Nat.succ_le_succ (Nat.le_of_eq hd.symm)) a8)
theorem zgz {as bs : List Int} {alo ahi blo bhi : Nat} (h1 : alo <= ahi) (h2 : ahi <= as.length) (h3 : blo <= bhi) (h4 : bhi <= bs.length) {bi bj bk : Int}
  (h : zaU as bs alo blo (fun i j => alo <= i /\ i < alo + (ahi - alo) /\ blo <= j /\ j < bhi) bi bj bk) : BF as bs alo ahi blo bhi bi bj bk := by
 rw [Nat.add_sub_cancel' h1] at h
 refine h.elim (fun h => (zoP h1 h2 h3 h4 h.2.2.2).of h.2.1 h.2.2.1 h.1) fun h => h.elim fun i h => h.elim fun j h => ?_
 generalize hc : cs as bs alo blo i j = c at h
 cases c with
 | zero => exact absurd h.2.1 (Nat.lt_irrefl 0)
 | succ d =>
  refine zdC (zhK d (i := i) (j := j) (by rw [hc]; exact Nat.lt_succ_self _)) ?_
  intro i' j' q1 q2 q3 e3
  rw [hc] at e3
  subst q1
  subst q2
  exact (zqb h2 h4 h.1 q3.1 q3.2.1 q3.2.2.1 q3.2.2.2.1 q3.2.2.2.2 (Nat.add_left_cancel (n := d) (by rw [Nat.add_comm, e3])) hc fun x y hp => (h.2.2.2.2.2 x y hp).elim Nat.le_of_lt fun q => Nat.le_of_eq q.1).of (h.2.2.2.1.trans ((congrArg (fun z => ((i' + d : Nat) : Int) - z + 1) h.2.2.1).trans tn2)) (h.2.2.2.2.1.trans ((congrArg (fun z => ((j' + d : Nat) : Int) - z + 1) h.2.2.1).trans tn2)) h.2.2.1
theorem zdp {n : Nat} (h : n <= 100000) : Builtin.List.listTooLong n = false := by
 unfold Builtin.List.listTooLong
 simp only [decide_eq_false_iff_not, sizeLine_eq]
 lia
section
variable {D b : Addr} {news' : List (Addr × Obj)} {Q : Value -> Shared -> Prop}
theorem zj1 {vs : List Value} {n : Nat} {x : Value} (F : Fr h₀ L s.heap m) (N : News h₀ L s.heap news) (U : Upd D (listOf vs.toArray n) (listOf (vs ++ [x]).toArray (n + 1)) news news') (hz : vs.length <= 100000)
  (h : ∀ h', Fr h₀ L h' m -> News h₀ L h' news' -> Q .none { s with heap := h' }) : wpAny (model prog w) A (call (.builtin "list.append") [.ref D, x]) Q E s := by
 refine append_K F N (by rw [List.push_toArray]; exact U) h ?_
 rw [List.size_toArray, sizeLine_eq]
 exact Nat.le_trans hz (Nat.le_of_lt (Nat.lt_succ_of_le (Nat.le_add_left 100000 16677215)))
theorem zjz {vs ws : List Value} {n n2 : Nat} (F : Fr h₀ L s.heap m) (N : News h₀ L s.heap news) (hb : (b, listOf ws.toArray n2) ∈ news) (hne : ws.length ≠ 0)
  (U : Upd D (listOf vs.toArray n) (listOf (vs ++ ws).toArray (n + 1)) news news') (hz : vs.length + ws.length <= 100000)
  (h : ∀ h', Fr h₀ L h' m -> News h₀ L h' news' -> Q .none { s with heap := h' }) : wpAny (model prog w) A (call (.builtin "list.extend") [.ref D, .ref b]) Q E s := by
 refine kl_extend F N hb rfl hne U ?_ ?_ ?_ h
 ·rw [List.size_toArray, List.size_toArray, zdp (by exact Nat.le_of_lt_succ (Nat.lt_succ_of_le hz))]
  simp
 ·rw [sizeLine_eq]
  show vs.length <= _
  (clear hne; lia)
 ·rw [List.size_toArray, List.size_toArray, sizeLine_eq]
  exact Nat.le_trans hz (Nat.le_of_lt (Nat.lt_succ_of_le (Nat.le_add_left 100000 16677216)))
theorem zaf {l : Addr} {vs : List Value} {n : Nat} (N : News h₀ L s.heap news) (h : (l, listOf vs.toArray n) ∈ news) : s.heap.IsList l vs.toArray := ⟨_, (N _ h).1, rfl, _, rfl⟩
theorem add_L {l c : Addr} {vs ws : List Value} {n1 n2 : Nat} (F : Fr h₀ L s.heap m) (N : News h₀ L s.heap news) (ha : (l, listOf vs.toArray n1) ∈ news) (hb : (c, listOf ws.toArray n2) ∈ news) (hz : vs.length + ws.length <= 100000)
  (h : ∀ d h', Fr h₀ L h' m -> News h₀ L h' ((d, listOf (vs ++ ws).toArray 0) :: news) -> (∀ p ∈ news, p.1 < d) -> Q (.ref d) { s with heap := h' }) : wpAny (model prog w) A (binaryOp .Add (.ref l) (.ref c)) Q E s := by
 refine add_arrays F N (zaf N ha) (zaf N hb) (fun h' F' N' => h _ h' F' N' fun p hp => Heap.lt_size (N p hp).1) ?_
 rw [List.size_toArray, List.size_toArray, sizeLine_eq]
 exact Nat.le_trans hz (Nat.le_of_lt (Nat.lt_succ_of_le (Nat.le_add_left 100000 16677215)))
end
example : True := by
 k_with "q" => rcases List.mem_cons.mp hp with rfl | hp
 trivial
noncomputable def smEs (P : Params) (t0 t1 t2 t3 t4 t5 t6 t7 t8 t9 : Tok) (va vb vm vo vf v2 vj vp : Value) : List DictEntry :=
 [⟨PyData.keyHash P (Str.ofString "isjunk"), .str (Str.ofString "isjunk") t0, .none⟩,
 ⟨PyData.keyHash P (Str.ofString "a"), .str (Str.ofString "a") t1, va⟩,
 ⟨PyData.keyHash P (Str.ofString "b"), .str (Str.ofString "b") t2, vb⟩,
 ⟨PyData.keyHash P (Str.ofString "autojunk"), .str (Str.ofString "autojunk") t3, .bool true⟩,
 ⟨PyData.keyHash P (Str.ofString "matching_blocks"), .str (Str.ofString "matching_blocks") t4, vm⟩,
 ⟨PyData.keyHash P (Str.ofString "opcodes"), .str (Str.ofString "opcodes") t5, vo⟩,
 ⟨PyData.keyHash P (Str.ofString "fullbcount"), .str (Str.ofString "fullbcount") t6, vf⟩,
 ⟨PyData.keyHash P (Str.ofString "b2j"), .str (Str.ofString "b2j") t7, v2⟩,
 ⟨PyData.keyHash P (Str.ofString "bjunk"), .str (Str.ofString "bjunk") t8, vj⟩,
 ⟨PyData.keyHash P (Str.ofString "bpopular"), .str (Str.ofString "bpopular") t9, vp⟩]
abbrev matchObj (d : Addr) (i : Int) (t : Tok) (j : Int) (u : Tok) (k : Int) (v : Tok) : Obj := { cls := .ref 135, dict := some d, data := .seq #[.int i t, .int j u, .int k v] }
section
variable {h h' g : Heap} {x d : Addr} {led : List (Addr × Obj)} 
theorem zjI (N : News h₀ L h led) (hg : ∀ b o, b ∉ led.map (·.1) -> h.get? b = some o -> g.get? b = some o) (hF : ∀ b o, g.get? b = some o -> h'.get? b = some o) (hN : ∀ p ∈ led, h'.get? p.1 = some p.2) :
  ∀ b o, h.get? b = some o -> h'.get? b = some o := by
 intro b o e
 by_cases hb : b ∈ led.map (·.1)
 ·refine bc fun hG9 => ?_
  (refine x_EA (List.mem_map.mp hb) ?_; intro p hp q92; subst q92)
  k_extra "e"
  rw [(N p hp).1] at e
  rw [hN p hp, e]
 ·exact hF b o (hg b o hb e)
theorem zhC (hg : ∀ b o, b ∉ led.map (·.1) -> h.get? b = some o -> g.get? b = some o) (hx : g.get? x = none) (hl : ∀ p ∈ led, p.1 < x) : ∀ b o, h.get? b = some o -> b ≠ x := by
 intro b o e
 by_cases hb : b ∈ led.map (·.1)
 ·refine bc fun hG9 => ?_
  (refine x_EA (List.mem_map.mp hb) ?_; intro p hp q92; subst q92)
  k_extra "e"
  exact Nat.ne_of_lt (hl p hp)
 ·rintro rfl
  rw [hg b o hb e] at hx
  cases hx
theorem zei (F : Fr h₀ L h m) (k : ∀ b o, h.get? b = some o -> h'.get? b = some o) : Fr h₀ L h' m := by
 (refine zck (F.ns) ?_; intro oL a1 a2 hL a3)
 exact ⟨⟨oL, a1, a2, k _ _ hL, a3⟩, fun b o e => k b o (F.keep b o e), F.above⟩
theorem zbK (N : News h₀ L h news) (k : ∀ b o, h.get? b = some o -> h'.get? b = some o) : News h₀ L h' news := fun p hp => ⟨k _ _ (N p hp).1, (N p hp).2⟩
theorem zfJ {o : Obj} (F : Fr h₀ L h m) (N : News h₀ L h' news) (n : ∀ b o, h.get? b = some o -> b ≠ x) (hx : h'.get? x = some o) : News h₀ L h' ((x, o) :: news) := by
 intro p hp
 k_extra "q"
 ·refine bc fun hG9 => ?_; obtain ⟨oL, a1, a2, hL, a3⟩ := F.ns; refine hG9 ?_; clear hG9
  refine ⟨hx, fun e => n L oL hL e.symm, ?_⟩
  cases q : h₀.get? x with
  | none => rfl
  | some o' => exact absurd rfl (n x o' (F.keep x o' q))
 ·exact N p hp
theorem zh1 (N : News h₀ L h news) (n : ∀ b o, h.get? b = some o -> b ≠ x) : ∀ p ∈ news, p.1 ≠ x := fun p hp => n _ _ (N p hp).1
end
noncomputable def b64A : List Int := [65, 66, 67, 68, 69, 70, 71, 72, 73, 74, 75, 76, 77, 78, 79, 80, 81, 82, 83, 84, 85, 86, 87, 88, 89, 90, 97, 98, 99, 100, 101, 102, 103, 104, 105, 106, 107, 108, 109, 110, 111, 112, 113, 114, 115, 116, 117, 118, 119, 120, 121, 122, 48, 49, 50, 51, 52, 53, 54, 55, 56, 57, 43, 47]
noncomputable def b64B : List UInt8 := [65, 66, 67, 68, 69, 70, 71, 72, 73, 74, 75, 76, 77, 78, 79, 80, 81, 82, 83, 84, 85, 86, 87, 88, 89, 90, 97, 98, 99, 100, 101, 102, 103, 104, 105, 106, 107, 108, 109, 110, 111, 112, 113, 114, 115, 116, 117, 118, 119, 120, 121, 122, 48, 49, 50, 51, 52, 53, 54, 55, 56, 57, 43, 47]
noncomputable def zac (v : Int) : Int := b64A.getD v.toNat 0
theorem zot : ∀ n < 64, ((b64B.getD n 0).toNat : Int) = b64A.getD n 0 := by decide +kernel
theorem zhE (x : Int) : ∀ (k : Nat) (y : Int), 0 <= y -> y < 2 ^ k -> Builtin.bitAnd (x * 2 ^ k) y = 0
 | 0, y, h0, h1 => by
  have : y = 0 := by simp at h1; lia
  subst this
  have h := kbt_mask (x * 2 ^ 0) 0
  simpa using h
 | k + 1, y, h0, h1 => by
  rw [kbt_halves]
  have e : x * 2 ^ (k + 1) / 2 = x * 2 ^ k := by
   rw [Int.pow_succ, <- Int.mul_assoc]
   exact Int.mul_ediv_cancel _ (by decide)
  have e2 : x * 2 ^ (k + 1) % 2 = 0 := by
   rw [Int.pow_succ, <- Int.mul_assoc]
   exact Int.mul_emod_left _ _
  rw [e, e2, zhE x k (y / 2) (by exact (Int.ediv_nonneg_iff_of_pos (by decide)).mpr h0) (by rw [Int.pow_succ] at h1; exact (Int.ediv_lt_iff_lt_mul (by decide)).mpr h1)]
  simp
theorem zrt (x : Int) (k : Nat) (y : Int) (h0 : 0 <= y) (h1 : y < 2 ^ k) : Builtin.bitOr (x * 2 ^ k) y = x * 2 ^ k + y := by
 have h := bitXor_and (x * 2 ^ k) y
 unfold Builtin.bitXor at h
 rw [zhE x k y h0 h1] at h
 lia
section
variable {a b m : Int} {t u : Tok} {Q : Value -> Shared -> Prop}
theorem zct (k : Nat) (hm : m = 2 ^ k - 1) (h : ∀ t', Q (.int (a % 2 ^ k) t') { s with toks := s.toks + 1 }) : wpAny (model prog w) A (binaryOp .BitAnd (.int a t) (.int m u)) Q E s := by
 refine and_int ?_
 rw [hm, kbt_mask]
 exact h _
theorem zfB (k : Nat) {n : Int} (hn : n = k) (hk : k <= 1000) (ha : a.natAbs < 2 ^ 64) (h : ∀ t', Q (.int (a * 2 ^ k) t') { s with toks := s.toks + 1 }) : wpAny (model prog w) A (binaryOp .LShift (.int a t) (.int n u)) Q E s := by
 subst hn
 refine lshift_int_small (Int.natCast_nonneg _) (by lia) ha ?_
 rw [Int.toNat_natCast]
 exact h _
theorem zn6 (h0 : 0 <= b) (h1 : b < 256) (h : ∀ t', Q (.int (a * 256 + b) t') { s with toks := s.toks + 1 }) : wpAny (model prog w) A (binaryOp .BitOr (.int (a * 2 ^ 8) t) (.int b u)) Q E s := by
 refine or_int ?_
 rw [zrt a 8 b h0 (by simpa using h1)]
 exact h _
theorem zdH (k : Nat) {n : Int} (hn : n = k) (h : ∀ t', Q (.int (a / 2 ^ k) t') { s with toks := s.toks + 1 }) : wpAny (model prog w) A (binaryOp .RShift (.int a t) (.int n u)) Q E s := by
 subst hn
 refine rshift_int (Int.natCast_nonneg _) ?_
 rw [Int.toNat_natCast, Int.fdiv_eq_ediv_of_nonneg _ (Int.pow_nonneg (by decide))]
 exact h _
theorem zhx {value slice : Expr} {v : Int} {arr : Array UInt8} (ha : arr = b64B.toArray) (h0 : 0 <= v) (h1 : v < 64) (h : ∀ t', Q (.int (zac v) t') { s with toks := s.toks + 1 })
  (hs : subscripted slice false (.bytes arr t) (.int v u) = operate [.bytes arr t, .int v u] (getItem (.bytes arr t) (.int v u))) (ht : ∀ r, letTemporaryGo value (.bytes arr t) r = pure ()) :
  wpAny (model prog w) A (subscriptTail value slice (.bytes arr t) (.int v u)) Q E s := by
 subst ha
 refine subscriptTail_builtin (typeIs_bytes _ _ _) FB.slot_bytes_getitem.lookup (getItem_bytes (by decide) h0 (by simpa [b64B] using h1) ?_) hs ht
 rw [zot v.toNat (by lia)]
 exact h _
theorem zcz {D : Addr} {m' : Str -> Option Value} {vs : List Value} {n : Nat} {ns : List Int} (F : Fr h₀ L s.heap m') (N : News h₀ L s.heap news) (hh : A.handled = none) (ha : (D, W.listOf vs.toArray n) ∈ news) (hi : IntsAre vs ns) (hr : KBa.In ns) (hn : ns.length <= 100000)
  (h : ∀ h' t' k, Fr h₀ L h' m' -> News h₀ L h' news -> Q (.bytes (byteArr ns) t') { s with heap := h', toks := k }) : wpAny (model prog w) A (call (.type "bytes") [.ref D]) Q E s :=
 KBa.make_K F N hh (zaf N ha) hi hr (by exact Nat.le_trans hn (Nat.le_of_lt (Nat.lt_succ_of_le (Nat.le_add_left 100000 16677215)))) fun h' t' k F' N' _ => h h' t' k F' N'
end
theorem zgo {b : Array UInt8} {n : Int} {t u : Tok} (hf : Builtin.Bytes.fitsIndex n = true) (h63 : ¬ b.size * n.toNat >= 2 ^ 63) (he : (b.size * n.toNat == b.size) = true) :
  Gives (Builtin.«bytes.__mul__» ⟨[.bytes b t, .int n u], []⟩) (.val (.bytes b t)) := by
 refine .of_wp fun M A E s Q hq => ?_
 show wpAny M A (Builtin.Bytes.repeatArgs .bytes "__mul__" ⟨[.bytes b t, .int n u], []⟩ >>= fun r => _) _ E s
 refine wpAny_bind (wpAny_of_eq (BMul.args_eq hf) ?_)
 refine wpAny_bind (wpAny_of_eq (a := b) rfl ?_)
 show wpAny M A (if b.size * n.toNat >= 2 ^ 63 then _ else _) _ E s
 rw [if_neg h63]
 show wpAny M A (if (b.size * n.toNat == b.size) = true then _ else _) _ E s
 rw [if_pos he]
 refine wpAny_bind (wpAny_typeOf (typeIs_bytes s b t) ?_)
 rw [if_pos (by decide)]
 exact wpAny_bind (wpAny_rule (wpAny_bind (wpAny_pure (wpAny_pure ⟨_, rfl, hq⟩))))
section
variable {Q : Value -> Shared -> Prop}
theorem zpG {n : Int} {t u : Tok} (h0 : 0 <= n) (h3 : n <= 3) (h : ∀ t' k, Q (.bytes (List.replicate n.toNat (61 : UInt8)).toArray t') { s with toks := k }) : wpAny (model prog w) A (binaryOp .Mult (.bytes #[61] t) (.int n u)) Q E s := by
 have hf : Builtin.Bytes.fitsIndex n = true := by
  simp only [Builtin.Bytes.fitsIndex, Bool.and_eq_true, decide_eq_true_eq]
  lia
 have hsz : (#[61] : Array UInt8).size * n.toNat = n.toNat := by simp
 have h63 : ¬ (#[61] : Array UInt8).size * n.toNat >= 2 ^ 63 := by rw [hsz]; lia
 refine wpAny_binaryOp_repeat (T := "bytes") (U := "int") (by decide) (fun s' => typeIs_bytes s' _ t) (fun s' => typeIs_int s' n u) BMul.noFill PySem.F.fills_int_mul PySem.F.slot_int_rmul BMul.repeats PySem.F.slot_int_index.lookup
  (call_gives PySem.F.slot_int_rmul (typeIs_int s n u) PySem.F.entry_int_rmul (PySem.F.args_int_rmul_2 _ _) (BMul.int_declines n u _ t) ⟨rfl, ?_⟩)
 by_cases h1 : n = 1
 ·subst h1
  exact call_gives BMul.slot_mul (typeIs_bytes s _ t) BMul.entry_mul (BMul.args_mul _ _) (zgo hf h63 (by decide)) (h t s.toks)
 ·have hne : ((#[61] : Array UInt8).size * n.toNat == (#[61] : Array UInt8).size) = false := beq_false_of_ne (by rw [hsz]; simp; lia)
  have hl : Builtin.Bytes.tooLong ((#[61] : Array UInt8).size * n.toNat) = false := by rw [hsz]; exact KBy.tooLong_not (by lia)
  refine call_gives BMul.slot_mul (typeIs_bytes s _ t) BMul.entry_mul (BMul.args_mul _ _) (BMul.gives_mul hf h63 hne hl) ?_
  rw [show (#[61] : Array UInt8) = [61].toArray from rfl, BMul.repeated_list (by decide)]
  have e : (List.replicate n.toNat [(61 : UInt8)]).flatten = List.replicate n.toNat 61 := by
   generalize n.toNat = k
   induction k with
   | zero => rfl
   | succ k ih => rw [List.replicate_succ, List.flatten_cons, ih]; rfl
  rw [e]
  refine ⟨?_, h _ _⟩
  rw [List.size_toArray, List.length_replicate, sizeLine_eq]
  lia
end
theorem zfs (ks ls : List Int) : byteArr (ks ++ ls) = byteArr ks ++ byteArr ls := by simp [byteArr]
theorem zfu (k : Nat) : byteArr (List.replicate k 61) = (List.replicate k (61 : UInt8)).toArray := by
 simp [byteArr]
theorem zfQ {D : Addr} : ∀ {news : List (Addr × Obj)}, LCg.Off1 D news -> ∀ p ∈ news, p.1 ≠ D
 | [], _ => fun _ h => nomatch h
 | _ :: _, h => fc h.1 (zfQ h.2)
theorem zjo {h' : Heap} {l : Addr} {Q : Value -> Shared -> Prop} {ys : List Value} {ns : List Int}
  (hret : ∀ l n vs h' tk', Fr h₀ L h' m -> News h₀ L h' ((l, W.listOf vs.toArray n) :: news) -> (∀ p ∈ news, p.1 ≠ l) -> IntsAre vs ns -> Q (.ref l) { s with heap := h', toks := tk' })
  (F : Fr h₀ L h' m) (N : News h₀ L h' ((l, LCg.lst ys) :: rest)) (off : ∀ p ∈ news, p.1 ≠ l) (hi : IntsAre ys ns) (hs : ∀ p ∈ news, p ∈ rest) : Q (.ref l) { s with heap := h', toks := tk } :=
 hret l ys.length ys h' tk F (fun p hp => N p (by rcases List.mem_cons.mp hp with h | h; exact List.mem_cons.mpr (.inl h); exact .tail _ (hs p h))) off hi
theorem rsz {a b : Int} {n : Nat} (h : b = a + (n : Int)) : Builtin.Range.rangeSize a b 1 = (n : Int) := by
 unfold Builtin.Range.rangeSize
 rw [if_pos (by decide)]
 split
 ·rw [Int.ediv_one]; lia
 ·lia
section
variable {ct elt : Expr} {x : Str} {scope : Scope} {S : List (Addr × Obj) -> Prop} {P : Nat -> Value -> Prop} {Fin : List Value -> List (Addr × Obj) -> Prop} 
theorem zc4 {I C D : Addr} {oI oC oD : Obj} {r r' : Value -> List (Addr × Obj) -> Prop} {y : Value} {s₁ s₂ : Shared} (h : LCg.CompEnd h₀ L m s₁ I oI C oC D oD S r y s₂) (hr : ∀ y nw, r y nw -> r' y nw) : LCg.CompEnd h₀ L m s₁ I oI C oC D oD S r' y s₂ := by
 (refine zb6 (h) ?_; clear h; intro h' tk news' e F N off hS q)
 exact ⟨h', tk, news', e, F, N, off, hS, hr _ _ q⟩
theorem zbP {n : Nat} (Inv : Nat -> List Value -> List (Addr × Obj) -> Prop)
  (turn : ∀ i v ys nw I oI C oC D m₂ h tk (E' : Value -> Shared -> Prop), i < n -> P i v -> Inv i ys nw -> LCg.NsObj oC m₂ -> m₂ x = some v -> Fr h₀ L h m -> News h₀ L h ((I, oI) :: (C, oC) :: (D, LCg.lst ys) :: nw) -> LCg.Off3 I C D nw -> ((@Ne Nat I C) /\ (@Ne Nat I D) /\ (@Ne Nat C D)) ->
   wpAny (model prog w) A (eval elt (compEnvC scope cl C env)) (LCg.CompEnd h₀ L m { s with heap := h, toks := tk } I oI C oC D (LCg.lst ys) S (fun y nw' => Inv (i + 1) (ys ++ [y]) nw')) E' { s with heap := h, toks := tk })
  (h0 : Inv 0 [] news) (fin : ∀ ys nw, Inv n ys nw -> Fin ys nw) : LCg.CompRest prog w A h₀ L m env elt x scope cl s S P Fin n 0 [] news := by
 have key : ∀ (j i : Nat) (ys : List Value) (nw : List (Addr × Obj)), i + j = n -> Inv i ys nw -> LCg.CompRest prog w A h₀ L m env elt x scope cl s S P Fin j i ys nw := by
  intro j
  induction j with
  | zero =>
   intro i ys nw hi hI
   obtain rfl : i = n := by exact Nat.add_right_cancel hi
   exact LCg.CompRest.zero (fin ys nw hI)
  | succ j ih =>
   intro i ys nw hi hI
   refine LCg.CompRest.succ ?_
   intro v I oI C oC D m₂ h tk E' hv hC hx F N off ne
   exact wpAny_mono (turn i v ys nw I oI C oC D m₂ h tk E' (by lia) hv hI hC hx F N off ne) (fun y s₂ hq => zc4 hq fun y nw' q => ih (i + 1) _ _ (by lia) q) fun _ _ e => e
 exact key n 0 [] news (by exact Nat.zero_add n) h0
theorem zia {n : Nat} (Inv : Nat -> List Value -> List (Addr × Obj) -> Prop)
  (turn : ∀ i v ys nw I oI C oC D m₂ h tk (E' : Value -> Shared -> Prop), i < n -> P i v -> Inv i ys nw -> LCg.NsObj oC m₂ -> m₂ x = some v -> Fr h₀ L h m -> News h₀ L h ((I, oI) :: (C, oC) :: (D, LCg.lst ys) :: nw) -> LCg.Off3 I C D nw -> ((@Ne Nat I C) /\ (@Ne Nat I D) /\ (@Ne Nat C D)) ->
   wpAny (model prog w) A (isTrue ct (compEnvC scope cl C env) (eval ct (compEnvC scope cl C env))) (fun ok s' => if ok = true then
    wpAny (model prog w) A (eval elt (compEnvC scope cl C env)) (LCg.CompEnd h₀ L m { s with heap := h, toks := tk } I oI C oC D (LCg.lst ys) S (fun y nw' => Inv (i + 1) (ys ++ [y]) nw')) E' s'
    else LCg.CompEnd h₀ L m { s with heap := h, toks := tk } I oI C oC D (LCg.lst ys) S (fun _ nw' => Inv (i + 1) ys nw') Value.none s') E' { s with heap := h, toks := tk })
  (h0 : Inv 0 [] news) (fin : ∀ ys nw, Inv n ys nw -> Fin ys nw) : LCt.CompRestT prog w A h₀ L m env ct elt x scope cl s S P Fin n 0 [] news := by
 have key : ∀ (j i : Nat) (ys : List Value) (nw : List (Addr × Obj)), i + j = n -> Inv i ys nw -> LCt.CompRestT prog w A h₀ L m env ct elt x scope cl s S P Fin j i ys nw := by
  intro j
  induction j with
  | zero =>
   intro i ys nw hi hI
   obtain rfl : i = n := by exact Nat.add_right_cancel hi
   exact LCt.CompRestT.zero (fin ys nw hI)
  | succ j ih =>
   intro i ys nw hi hI
   refine LCt.CompRestT.succ ?_
   intro v I oI C oC D m₂ h tk E' hv hC hx F N off ne
   refine wpAny_mono (turn i v ys nw I oI C oC D m₂ h tk E' (by lia) hv hI hC hx F N off ne) (fun ok s₂ hq => ?_) fun _ _ e => e
   cases ok with
   | true =>
    rw [if_pos rfl] at hq ⊢
    exact wpAny_mono hq (fun y s₂ hq => zc4 hq fun y nw' q => ih (i + 1) _ _ (by lia) q) fun _ _ e => e
   | false =>
    rw [if_neg (by simp)] at hq ⊢
    exact zc4 hq fun _ nw' q => ih (i + 1) _ _ (by lia) q
 exact key n 0 [] news (by exact Nat.zero_add n) h0
theorem zbU {n : Nat} (Inv : Nat -> List Value -> Prop)
  (turn : ∀ i v ys I oI C oC D m₂ h tk (E' : Value -> Shared -> Prop), i < n -> P i v -> Inv i ys -> LCg.NsObj oC m₂ -> m₂ x = some v -> Fr h₀ L h m -> News h₀ L h ((I, oI) :: (C, oC) :: (D, LCg.lst ys) :: news) -> LCg.Off3 I C D news -> ((@Ne Nat I C) /\ (@Ne Nat I D) /\ (@Ne Nat C D)) ->
   wpAny (model prog w) A (eval elt (compEnvC scope cl C env)) (LCg.CompEnd h₀ L m { s with heap := h, toks := tk } I oI C oC D (LCg.lst ys) S (fun y nw' => Inv (i + 1) (ys ++ [y]) /\ nw' = news)) E' { s with heap := h, toks := tk })
  (h0 : Inv 0 []) (fin : ∀ ys, Inv n ys -> Fin ys news) : LCg.CompRest prog w A h₀ L m env elt x scope cl s S P Fin n 0 [] news :=
 zbP (fun i ys nw => Inv i ys /\ nw = news) (fun i v ys nw I oI C oC D m₂ h tk E' hi hv q hC hx F N off ne => by
  obtain ⟨q, rfl⟩ := q
  exact turn i v ys I oI C oC D m₂ h tk E' hi hv q hC hx F N off ne) ⟨h0, rfl⟩ fun ys nw q => q.2 ▸ fin ys q.1
theorem zaV {n : Nat} (Inv : Nat -> List Value -> Prop)
  (turn : ∀ i v ys I oI C oC D m₂ h tk (E' : Value -> Shared -> Prop), i < n -> P i v -> Inv i ys -> LCg.NsObj oC m₂ -> m₂ x = some v -> Fr h₀ L h m -> News h₀ L h ((I, oI) :: (C, oC) :: (D, LCg.lst ys) :: news) -> LCg.Off3 I C D news -> ((@Ne Nat I C) /\ (@Ne Nat I D) /\ (@Ne Nat C D)) ->
   wpAny (model prog w) A (isTrue ct (compEnvC scope cl C env) (eval ct (compEnvC scope cl C env))) (fun ok s' => if ok = true then
    wpAny (model prog w) A (eval elt (compEnvC scope cl C env)) (LCg.CompEnd h₀ L m { s with heap := h, toks := tk } I oI C oC D (LCg.lst ys) S (fun y nw' => Inv (i + 1) (ys ++ [y]) /\ nw' = news)) E' s'
    else LCg.CompEnd h₀ L m { s with heap := h, toks := tk } I oI C oC D (LCg.lst ys) S (fun _ nw' => Inv (i + 1) ys /\ nw' = news) Value.none s') E' { s with heap := h, toks := tk })
  (h0 : Inv 0 []) (fin : ∀ ys, Inv n ys -> Fin ys news) : LCt.CompRestT prog w A h₀ L m env ct elt x scope cl s S P Fin n 0 [] news :=
 zia (fun i ys nw => Inv i ys /\ nw = news) (fun i v ys nw I oI C oC D m₂ h tk E' hi hv q hC hx F N off ne => by
  obtain ⟨q, rfl⟩ := q
  exact turn i v ys I oI C oC D m₂ h tk E' hi hv q hC hx F N off ne) ⟨h0, rfl⟩ fun ys nw q => q.2 ▸ fin ys q.1
end
section
variable {xi xv : Str} {pk pv pt : Pos} {x1 : Nat} {body : List Stmt} {R : Result -> Shared -> Prop}
noncomputable def zkL (h₀ : Heap) (L l e it : Addr) (vs : List Value) (n : Nat) (J : Nat -> (Str -> Option Value) -> List (Addr × Obj) -> Prop) (s : Shared) (k : Nat) (s' : Shared) : Prop :=
 ∃ h tk m nx i, s' = { s with heap := h, toks := tk } /\ ((∃ old, IsEnum h e it ((i : Nat) : Int) old) /\ h.IsListIter it l i /\ h.IsList l vs.toArray) /\ Fr h₀ L h m /\ News h₀ L h nx /\ (∀ p ∈ nx, p.1 ≠ e /\ p.1 ≠ it) /\ J i m nx /\ i <= n /\ k = n + 1 - i
theorem in2 {b e it : Addr} (h : b ∈ [e, it]) : b = e \/ b = it := (List.mem_cons.mp h).imp id List.mem_singleton.mp
theorem zi4 {l : Addr} {vs : List Value} {nl : Nat} {ns : List Int} {nx₀ : List (Addr × Obj)} (J : Nat -> (Str -> Option Value) -> List (Addr × Obj) -> Prop)
  (hh : A.handled = none) (hxi : env.kindOf xi = some .local) (hxv : env.kindOf xv = some .local)
  (hp : (env.scope.kind == .class || (env.scope.kind == .module && env.locals != env.globals)) = false)
  (hl : ∀ i m nx, J i m nx -> (l, W.listOf vs.toArray nl) ∈ nx) (hints : IntsAre vs ns)
  (F : Fr h₀ env.locals s.heap m₀) (N : News h₀ env.locals s.heap nx₀) (hj : J 0 m₀ nx₀)
  (turn : ∀ i k t ti m nx h tk own, ns[i]? = some k -> (∀ p ∈ own, ∀ q ∈ nx, p.1 ≠ q.1) -> J i m nx -> Fr h₀ env.locals h (fun y => if y = xv then some (.int k t) else if y = xi then some (.int (i : Int) ti) else m y) -> News h₀ env.locals h (nx ++ own) ->
   wpAny (model prog w) A (execs body env) (InvPostG h₀ env.locals (J (i + 1)) own { s with heap := h, toks := tk } fun f s' => R (.ok f) s') (notedBy (model prog w) A env fun e s' => R (.error e) s') { s with heap := h, toks := tk })
  (done : ∀ m nx h tk, J ns.length m nx -> Fr h₀ env.locals h m -> News h₀ env.locals h nx -> R (.ok .next) { s with heap := h, toks := tk }) :
  wpAny (model prog w) A (call (.type "enumerate") [.ref l]) (fun x s₁ => wpAny (model prog w) A (pyIter x) (fun it s₂ => codeAny (model prog w) A (.forLoop (.Tuple [.Name xi pk, .Name xv pv] x1 pt) it body [] env) R s₂) E s₁) E s := by
 have hls : s.heap.IsList l vs.toArray := zaf N (hl _ _ _ hj)
 refine call_enumerate_list hls fun h' he hit hsz hkp => ?_
 have hLlt : env.locals < s.heap.objs.size := F.ns.lt
 have hllt : l < s.heap.objs.size := Heap.lt_size (N _ (hl _ _ _ hj)).1
 have hlL : l ≠ env.locals := (N _ (hl _ _ _ hj)).2.1
 refine (⟨_, _, rfl, rfl⟩ : ∃ e it, e = s.heap.objs.size + 1 /\ it = s.heap.objs.size).elim fun e q => q.elim fun it q => ?_
 rw [<- q.1, <- q.2] at he
 rw [<- q.2] at hit
 rw [<- q.1]
 have hei : e ≠ it := by rw [q.1, q.2]; exact Nat.succ_ne_self _
 have hle : l ≠ e := by rw [q.1]; exact Nat.ne_of_lt (Nat.lt_succ_of_lt hllt)
 have hli : l ≠ it := by rw [q.2]; exact Nat.ne_of_lt hllt
 have Wk := WalksT.enumerate (prog := prog) (w := w) hh e it l hei hle hli vs.toArray
 have hLe : env.locals ≠ e := by rw [q.1]; exact Nat.ne_of_lt (Nat.lt_succ_of_lt hLlt)
 have hLi : env.locals ≠ it := by rw [q.2]; exact Nat.ne_of_lt hLlt
 have h0e : h₀.get? e = none := by rw [q.1]; exact Heap.get?_none_of_le (Nat.le_trans F.above (Nat.le_of_lt (Nat.lt_succ_of_lt hLlt)))
 have h0i : h₀.get? it = none := by rw [q.2]; exact Heap.get?_none_of_le (Nat.le_trans F.above (Nat.le_of_lt hLlt))
 have hnw0 : ∀ p ∈ nx₀, p.1 ≠ e /\ p.1 ≠ it := fun p hp => by
  have := Heap.lt_size (N p hp).1
  rw [q.1, q.2]
  exact ⟨Nat.ne_of_lt (Nat.lt_succ_of_lt this), Nat.ne_of_lt this⟩
 have hl' : h'.IsList l vs.toArray := hls.at fun o x => hkp l o x
 refine Wk.self 0 _ _ _ ⟨⟨_, he⟩, hit, hl'⟩ ?_
 have hlen : vs.toArray.size = ns.length := by rw [List.size_toArray, hints.length]
 have hLw : env.locals ∉ [e, it] := fun hb => (in2 hb).elim hLe hLi
 have hLf : env.locals ∉ [e, it, l] := fun hb => (List.mem_cons.mp hb).elim hLe fun hb => (in2 hb).elim hLi fun e => hlL e.symm
 refine codeAny_forLoop_any (zkL h₀ env.locals l e it vs ns.length J s) ?_ (ns.length + 1) ⟨h', s.toks, m₀, nx₀, 0, rfl, ⟨⟨_, he⟩, hit, hl'⟩, zei F hkp, zbK N hkp, hnw0, hj, Nat.zero_le _, rfl⟩
 clear he hit hl' hnw0 hls hkp hj F N
 intro k s' q92
 refine q92.elim fun H q => q.elim fun tk q => q.elim fun m q => q.elim fun nx q => q.elim fun i q => ?_
 rw [q.1, q.2.2.2.2.2.2.2]
 replace q := q.2
 have next : ∀ h₁ : Heap, (∀ b o, b ∉ [e, it] -> H.get? b = some o -> h₁.get? b = some o) -> Fr h₀ env.locals h₁ m /\ News h₀ env.locals h₁ nx := fun h₁ hk₁ =>
  ⟨⟨q.2.1.ns.at' fun o x => hk₁ _ o hLw x, fun b o x => hk₁ b o (fun hb => (in2 hb).elim (fun r => by rw [r, h0e] at x; cases x) fun r => by rw [r, h0i] at x; cases x) (q.2.1.keep b o x), q.2.1.above⟩,
   fun p hp => ⟨hk₁ _ _ (fun hb => (in2 hb).elim (q.2.2.2.1 p hp).1 (q.2.2.2.1 p hp).2) (q.2.2.1 p hp).1, (q.2.2.1 p hp).2⟩⟩
 by_cases hlt : i < ns.length
 ·refine Wk.item i _ _ _ (by rw [hlen]; exact hlt) q.1 fun T vals h₁ tk₁ hPt _ hT hMid hk₁ => ?_
  refine hPt.elim fun ti hx => hx.elim fun x hx => ?_
  rw [hx.2] at hT
  refine (⟨_, List.getElem?_eq_getElem hlt⟩ : ∃ kk, ns[i]? = some kk).elim fun kk hkk => (hints.get i kk hkk).elim fun t ht => ?_
  rw [List.getElem?_toArray, ht] at hx
  rw [<- Option.some.inj hx.1] at hT
  refine Wk.go _ x1 pt i T _ _ _ hMid fun h₂ hst₂ hk₂ => ?_
  have ht₂ : h₂.IsTuple T #[.int (i : Int) ti, .int kk t] := hT.at fun o x => hk₂ T o (Wk.apart i T h₁ hMid) x
  refine wpAny_assign_Tuple hh ht₂ rfl rfl fun h₃ hx₃ => ?_
  have up₃ : ∀ b o, h₂.get? b = some o -> h₃.get? b = some o := fun b o x => hx₃ b o (Nat.ne_of_lt (Heap.lt_size x)) x
  have G := next h₃ fun b o hb x => up₃ b o (hk₂ b o hb (hk₁ b o hb x))
  show wpAny _ A (do holding [Value.int kk t] (assign (.Name xi pk) env (.int (i : Int) ti)); do holding [] (assign (.Name xv pv) env (.int kk t)); pure ()) _ _ _
  refine wpAny_bind (wpAny_holding (wpAny_assign_Name (wpAny_storeName_local hxi G.1.ns (fun h₄ hn₄ hs₄ => ?_) hp)))
  replace hs₄ : Heap.SameBut env.locals h₃ h₄ := hs₄
  refine wpAny_bind (wpAny_holding (wpAny_assign_Name (wpAny_storeName_local hxv (G.1.set hn₄ hs₄).ns (fun h₅ hn₅ hs₅ => wpAny_pure ?_) hp)))
  replace hs₅ : Heap.SameBut env.locals h₄ h₅ := hs₅
  have N₅ : News h₀ env.locals h₅ nx := (G.2.set hs₄).set hs₅
  have hst₅ := Wk.frame _ _ h₅ hst₂ fun b hb o x => hs₅.extBut b o (fun q => hLf (q ▸ hb)) (hs₄.extBut b o (fun q => hLf (q ▸ hb)) (up₃ b o x))
  refine hst₅.1.elim fun oldv hen => hst₅.2.1.elim fun oit hoit => ?_
  have hme : (e, _) ∈ ownOf h₀ [e, it] h₅ := mem_ownOf (.head _) h0e hen
  have hmi : (it, oit) ∈ ownOf h₀ [e, it] h₅ := mem_ownOf (.tail _ (.head _)) h0i hoit.1
  refine wpAny_mono (turn i kk t ti m nx h₅ _ (ownOf h₀ [e, it] h₅) hkk (fun p hp r hr x => (in2 (ownOf_sub p hp)).elim (fun z => (q.2.2.2.1 r hr).1 (x ▸ z)) fun z => (q.2.2.2.1 r hr).2 (x ▸ z)) q.2.2.2.2.1 ((G.1.set hn₄ hs₄).set hn₅ hs₅) fun p hp => (List.mem_append.mp hp).elim (N₅ p) (news_ownOf hLw p)) (fun f s₃ h₆ => ?_) fun _ _ x => x
  have fin : InvEndG h₀ env.locals (J (i + 1)) (ownOf h₀ [e, it] h₅) { s with heap := h₅, toks := tk₁ } s₃ -> ∃ mm, mm < ns.length + 1 - i /\ zkL h₀ env.locals l e it vs ns.length J s mm s₃ := fun r => r.elim fun h7 r => r.elim fun tk7 r => r.elim fun m7 r => r.elim fun news7 r => r.elim fun nx7 r =>
   ⟨ns.length + 1 - (i + 1), Nat.sub_succ_lt_self (ns.length + 1) i (Nat.lt_succ_of_le (Nat.le_of_lt hlt)), h7, tk7, m7, nx7, i + 1, r.1, ⟨⟨oldv, (r.2.2.1 _ (r.2.2.2.2.1 _ hme)).1⟩, ⟨oit, (r.2.2.1 _ (r.2.2.2.2.1 _ hmi)).1, hoit.2⟩, ⟨_, (r.2.2.1 _ (r.2.2.2.1 _ (hl _ _ _ r.2.2.2.2.2.2))).1, rfl, _, rfl⟩⟩,
    r.2.1, fun p hp => r.2.2.1 p (r.2.2.2.1 p hp), fun p hp => ⟨fun x => r.2.2.2.2.2.1 _ hme p.1 (List.mem_map.mpr ⟨p, hp, rfl⟩) x.symm, fun x => r.2.2.2.2.2.1 _ hmi p.1 (List.mem_map.mpr ⟨p, hp, rfl⟩) x.symm⟩, r.2.2.2.2.2.2, hlt, rfl⟩
  cases f with
  | ret v => exact h₆
  | brk => exact h₆
  | next => exact fin h₆
  | cont => exact fin h₆
 ·have hin : i = ns.length := Nat.eq_of_lt_succ_of_not_lt (Nat.lt_succ_of_le q.2.2.2.2.2.1) hlt
  refine Wk.done _ _ _ (by rw [hlen, <- hin]; exact q.1) fun h₁ tk₁ hk₁ => wpAny_execs_nil (done m nx h₁ tk₁ (hin ▸ q.2.2.2.2.1) (next h₁ hk₁).1 (next h₁ hk₁).2)
theorem zny {σ : Type} {l : Addr} {vs : List Value} {nl : Nat} {ns : List Int} (ps : σ -> List (Str × Value)) (Led : σ -> List (Addr × Obj)) (stored : List Str) (Inv : Nat -> σ -> Prop) (c₀ : σ)
  (hh : A.handled = none) (hxi : env.kindOf xi = some .local) (hxv : env.kindOf xv = some .local)
  (hp : (env.scope.kind == .class || (env.scope.kind == .module && env.locals != env.globals)) = false) (hne : xi ≠ xv)
  (hps : ∀ c, ∀ p ∈ ps c, p.1 ≠ xi) (hl : (l, W.listOf vs.toArray nl) ∈ rest) (hints : IntsAre vs ns)
  (F : Fr h₀ env.locals s.heap m₀) (N : News h₀ env.locals s.heap (Led c₀ ++ rest))
  (hoff : ∀ p ∈ rest, ∀ q ∈ Led c₀, p.1 ≠ q.1) (hk : ∀ p ∈ ps c₀, m₀ p.1 = some p.2) (hi : Inv 0 c₀)
  (turn : ∀ (i : Nat) (k : Int) t ti (c : σ) (u : Str -> Option Value) h tk own, ns[i]? = some k -> Inv i c -> (∀ p ∈ own, ∀ q ∈ Led c, p.1 ≠ q.1) -> (∀ p ∈ rest, p ∈ own) ->
   Fr h₀ env.locals h (fun y => if y = xv then some (.int k t) else kstB (fun z => if (xi :: stored).contains z then u z else m₀ z) ((xi, .int (i : Int) ti) :: ps c) y) -> News h₀ env.locals h (Led c ++ own) ->
   wpAny (model prog w) A (execs body env) (LPost h₀ env.locals ps Led xv (xi :: stored) m₀ (Inv (i + 1)) own { s with heap := h, toks := tk } (fun _ => False) (fun v s' => R (.ok (.ret v)) s')) (notedBy (model prog w) A env fun e s' => R (.error e) s') { s with heap := h, toks := tk })
  (done : ∀ (c : σ) (u : Str -> Option Value) h tk, Inv ns.length c -> (∀ p ∈ rest, ∀ q ∈ Led c, p.1 ≠ q.1) -> Fr h₀ env.locals h (fun y => if y = xv then u y else kstB (fun z => if (xi :: stored).contains z then u z else m₀ z) (ps c) y) -> News h₀ env.locals h (Led c ++ rest) -> R (.ok .next) { s with heap := h, toks := tk }) :
  wpAny (model prog w) A (call (.type "enumerate") [.ref l]) (fun x s₁ => wpAny (model prog w) A (pyIter x) (fun it s₂ => codeAny (model prog w) A (.forLoop (.Tuple [.Name xi pk, .Name xv pv] x1 pt) it body [] env) R s₂) E s₁) E s := by
 refine zi4 (fun i => LJ ps Led rest xv (xi :: stored) m₀ (Inv i)) hh hxi hxv hp (fun i m nx hJ => hJ.elim fun c q => q.1 ▸ List.mem_append_right _ hl) hints F N ⟨c₀, rfl, hoff, hk, fun _ _ _ _ => rfl, hi⟩ ?_ fun m nx h tk hJ F N => zc1 hJ F N fun c u hI ho F N => done c u h tk hI ho F N
 intro i k t ti m nx h tk own hik ho hJ F₁ N₁
 refine hJ.elim fun c q => ?_
 rw [q.1] at ho N₁
 rw [List.append_assoc] at N₁
 refine ziK (InvPostG h₀ env.locals (LJ ps Led rest xv (xi :: stored) m₀ (Inv (i + 1))) own { s with heap := h, toks := tk } fun f s' => R (.ok f) s') q.2.1 ho (fun off => turn i k t ti c _ h tk (rest ++ own) hik q.2.2.2.2 off (fun p hp => List.mem_append_left _ hp) (kst_fr (stored := xi :: stored) (ps := (xi, Value.int (i : Int) ti) :: ps c) ?_ ?_ F₁) N₁) (fun _ _ h => h) (fun _ _ _ _ hB => hB.elim) fun h tk m' news' nx hJ F N hn ho hf => ⟨InvEndG.intro F N hJ (zca hf) hn ho, InvEndG.intro F N hJ (zca hf) hn ho⟩
 ·refine fc (if_pos rfl) (fun p hp => ?_)
  rw [if_neg (hps c p hp)]
  exact q.2.2.1 p hp
 ·intro z h1 h2 h3
  rw [if_neg (h2 _ (.head _))]
  exact q.2.2.2.1 z h1 (fun p hp => h2 p (.tail _ hp)) h3
end
example : True := by
 k_with "ap" => rw [List.range_succ, List.filter_append, List.map_append]
 k_with "n" => rcases List.mem_append.mp hp with hp | hp
 k_with "Z" => rcases List.mem_append.mp hx with hx | hx
 k_with "R" => rw [zbs, if_neg (by rw [hk]; exact fun q => hne (Option.some.inj q).symm), List.append_nil]
 k_with "S" => rcases List.mem_cons.mp hq with rfl | hq
 k_with "aQ" => rcases List.mem_append.mp hq with hq | hq
 trivial
structure CB where
 o : Obj
 kvs : List (Int × Value)
 ls : List (Int × Addr × List Value × Nat)
noncomputable def CB.row (e : Int × Addr × List Value × Nat) : Addr × Obj := (e.2.1, W.listOf e.2.2.1.toArray e.2.2.2)
noncomputable def CB.led (db : Addr) (c : CB) : List (Addr × Obj) := (db, c.o) :: c.ls.map CB.row
noncomputable def zer (bs : List Int) (i : Nat) (x : Int) : List Int := ((List.range i).filter fun j => bs[j]? = some x).map fun j : Nat => (j : Int)
theorem zbs (bs : List Int) (i : Nat) (x : Int) : zer bs (i + 1) x = zer bs i x ++ if bs[i]? = some x then [(i : Int)] else [] := by
 unfold zer
 k_extra "ap"
 congr 1
 by_cases h : bs[i]? = some x
 ·simp [h]
 ·simp [h]
theorem ziP (bs : List Int) (i : Nat) (x : Int) : (zer bs i x).length <= i := by
 unfold zer
 rw [List.length_map]
 exact Nat.le_trans (List.length_filter_le _ _) (by rw [List.length_range]; exact Nat.le_refl _)
structure CBInv (db : Addr) (prog : Program) (w : World) (bs : List Int) (i : Nat) (c : CB) : Prop where
 dict : c.o.IsDictOf (PySem.intKind prog w) c.kvs
 len : c.kvs.length <= i
 vals : ∀ x, valueAt c.kvs x = (c.ls.lookup x).map fun e => Value.ref e.1
 nums : ∀ e ∈ c.ls, IntsAre e.2.2.1 (zer bs i e.1)
 miss : ∀ x, c.ls.lookup x = none -> zer bs i x = []
 once : (c.ls.map (·.1)).Nodup
 apart : (c.ls.map (·.2.1)).Nodup
 off : ∀ e ∈ c.ls, e.2.1 ≠ db
theorem CBInv.zero {db : Addr} {bs : List Int} {o : Obj} (h : o.IsDictOf (PySem.intKind prog w) []) : CBInv db prog w bs 0 ⟨o, [], []⟩ :=
 ⟨h, Nat.le_refl _, fun _ => rfl, fun _ h => (nomatch h), fun _ _ => rfl, .nil, .nil, fun _ h => (nomatch h)⟩
theorem zbl {a b : List Value} {x y : List Int} (h : IntsAre a x) (h' : IntsAre b y) : IntsAre (a ++ b) (x ++ y) := by
 induction h with
 | nil => exact h'
 | cons _ _ _ ih => exact .cons _ _ ih
section
variable {db : Addr} {h h' : Heap} {c : CB} {R : List (Addr × Obj)} {bs : List Int} {i : Nat} {k : Int}
theorem zaB {α β : Type} [DecidableEq α] : ∀ {l : List (α × β)} {x : α}, l.lookup x = none -> ∀ e ∈ l, e.1 ≠ x
 | (y, b) :: l, x, h, e, he => by
  rw [List.lookup_cons] at h
  cases hb : x == y with
  | true => rw [hb] at h; cases h
  | false =>
   rw [hb] at h
   have hne : x ≠ y := by simpa using hb
   rcases List.mem_cons.mp he with rfl | he
   ·exact fun q => hne q.symm
   ·exact zaB h e he
theorem zcb {α β : Type} [DecidableEq α] : ∀ {l : List (α × β)} {x : α} {b : β}, l.lookup x = some b -> ∃ pre post, l = pre ++ (x, b) :: post /\ ∀ e ∈ pre, e.1 ≠ x
 | (y, b') :: l, x, b, h => by
  rw [List.lookup_cons] at h
  cases hb : x == y with
  | true =>
   rw [hb] at h
   have : x = y := by simpa using hb
   subst this
   cases h
   exact ⟨[], l, rfl, fun _ h => (nomatch h)⟩
  | false =>
   rw [hb] at h
   have hne : x ≠ y := by simpa using hb
   k_extra "l"
   (refine zgn (zcb h) ?_; intro pre post q92 hp; subst q92)
   k_extra "e"
   exact ⟨(y, b') :: pre, post, rfl, List.forall_mem_cons.mpr ⟨fun q => hne q.symm, hp⟩⟩
theorem zhp (hI : CBInv db prog w bs i c) (hoff : ∀ p ∈ own, ∀ q ∈ CB.led db c, p.1 ≠ q.1) (N : News h₀ L h (CB.led db c ++ own)) :
  ∃ R, R = c.ls.map CB.row ++ own /\ News h₀ L h ((db, c.o) :: R) /\ ∀ p ∈ R, p.1 ≠ db := by
 refine ⟨_, rfl, N, fun p hp => ?_⟩
 k_extra "n"
 ·refine bc fun hG9 => ?_
  (refine x_EA (List.mem_map.mp hp) ?_; intro e he q92; subst q92)
  k_extra "e"
  exact hI.off e he
 ·exact hoff p hp _ (.head _)
theorem zhJ {li : Addr} {vs : List Value} {n : Nat} (hI : CBInv db prog w bs i c) (hc : c.ls.lookup k = some (li, vs, n)) (hoff : ∀ p ∈ own, ∀ q ∈ CB.led db c, p.1 ≠ q.1) (N : News h₀ L h (CB.led db c ++ own)) :
  ∃ pre post R, c.ls = pre ++ (k, li, vs, n) :: post /\ R = (pre ++ post).map CB.row ++ own /\ News h₀ L h ((db, c.o) :: (li, W.listOf vs.toArray n) :: R) /\ (∀ p ∈ R, p.1 ≠ db) /\ (∀ p ∈ R, p.1 ≠ li) /\ db ≠ li /\ vs.length <= i := by
 (refine zgn (zcb hc) ?_; intro pre post e _)
 have hmem : (k, li, vs, n) ∈ c.ls := by rw [e]; exact List.mem_append_right _ (.head _)
 have hap := hI.apart
 rw [e, List.map_append, List.map_cons] at hap
 have hap2 := List.nodup_append.mp hap
 refine ⟨pre, post, _, e, rfl, fun p hp => N p ?_, fun p hp => ?_, fun p hp => ?_, fun q => hI.off _ hmem q.symm, ?_⟩
 ·show p ∈ (db, c.o) :: (c.ls.map CB.row ++ own)
  rw [e, List.map_append, List.map_cons]
  rw [List.map_append] at hp
  simp only [List.mem_cons, List.mem_append] at hp ⊢
  rcases hp with h | h | (h | h) | h
  ·exact .inl h
  ·exact .inr (.inl (.inr (.inl h)))
  ·exact .inr (.inl (.inl h))
  ·exact .inr (.inl (.inr (.inr h)))
  ·exact .inr (.inr h)
 ·rcases List.mem_append.mp hp with hp | hp
  ·refine bc fun hG9 => ?_
   (refine x_EA (List.mem_map.mp hp) ?_; intro x hx q92; subst q92)
   k_extra "e"
   refine hI.off x ?_
   rw [e]
   k_extra "Z"
   ·exact List.mem_append_left _ hx
   ·exact List.mem_append_right _ (.tail _ hx)
  ·exact hoff p hp _ (.head _)
 ·rcases List.mem_append.mp hp with hp | hp
  ·refine bc fun hG9 => ?_
   (refine x_EA (List.mem_map.mp hp) ?_; intro x hx q92; subst q92)
   k_extra "e"
   k_extra "Z"
   ·exact hap2.2.2 _ (List.mem_map_of_mem hx) _ (.head _)
   ·exact fun q => (List.nodup_cons.mp hap2.2.1).1 (q ▸ List.mem_map_of_mem (f := (·.2.1)) hx)
  ·exact hoff p hp _ (.tail _ (List.mem_map_of_mem (f := CB.row) hmem))
 ·have := (hI.nums _ hmem).length
  rw [this]
  exact ziP _ _ _
theorem zbC {α β : Type} [DecidableEq α] {l : List (α × β)} {x y : α} {b : β} (h : x ≠ y) : ((y, b) :: l).lookup x = l.lookup x := by
 rw [List.lookup_cons, show (x == y) = false by simpa using h]
theorem zpk {o' : Obj} {l0 : Addr} {ti : Tok} {n0 : Nat} (hI : CBInv db prog w bs i c) (hc : c.ls.lookup k = none) (hk : bs[i]? = some k) (hd : o'.IsDictOf (PySem.intKind prog w) (stored c.kvs k (.ref l0)))
  (hl : ∀ e ∈ c.ls, e.2.1 ≠ l0) (hdl : l0 ≠ db) : CBInv db prog w bs (i + 1) ⟨o', stored c.kvs k (.ref l0), (k, l0, [.int (i : Int) ti], n0) :: c.ls⟩ where
 dict := hd
 len := by
  have h1 := stored_length_le c.kvs k (.ref l0)
  have h2 := hI.len
  show (stored c.kvs k (.ref l0)).length <= i + 1
  lia
 vals := fun x => by
  rw [zby]
  by_cases hx : x = k
  ·subst hx
   rw [if_pos rfl, List.lookup_cons, show (x == x) = true by simp]
   rfl
  ·rw [if_neg hx, zbC hx, hI.vals]
 nums := by
  refine fc ?_ (fun e he => ?_)
  ·show IntsAre [Value.int (i : Int) ti] (zer bs (i + 1) k)
   rw [zbs, if_pos hk, hI.miss k hc]
   exact .cons _ _ .nil
  ·have hne := zaB hc e he
   k_extra "R"
   exact hI.nums e he
 miss := fun x hx => by
  by_cases hxk : x = k
  ·subst hxk
   rw [List.lookup_cons, show (x == x) = true by simp] at hx
   cases hx
  ·rw [zbC hxk] at hx
   rw [zbs, hI.miss x hx, if_neg (by rw [hk]; exact fun q => hxk (Option.some.inj q).symm)]
   rfl
 once := by
  rw [List.map_cons]
  refine List.nodup_cons.mpr ⟨fun hm => ?_, hI.once⟩
  (refine x_EA (List.mem_map.mp hm) ?_; intro e he q)
  exact zaB hc e he q
 apart := by
  rw [List.map_cons]
  refine List.nodup_cons.mpr ⟨fun hm => ?_, hI.apart⟩
  (refine x_EA (List.mem_map.mp hm) ?_; intro e he q)
  exact hl e he q
 off := fc hdl hI.off
theorem zdo {pre post : List (Int × Addr × List Value × Nat)} {x : Int} {b b' : Addr × List Value × Nat} (hb : b.1 = b'.1) :
  ((pre ++ (k, b) :: post).lookup x).map (fun e => Value.ref e.1) = ((pre ++ (k, b') :: post).lookup x).map (fun e => Value.ref e.1) /\ ((pre ++ (k, b) :: post).lookup x = none -> (pre ++ (k, b') :: post).lookup x = none) := by
 induction pre with
 | nil =>
  rw [List.nil_append, List.nil_append, List.lookup_cons, List.lookup_cons]
  cases x == k with
  | true => exact ⟨by simp [hb], fun h => by cases h⟩
  | false => exact ⟨rfl, id⟩
 | cons p r ih =>
  refine bc fun hG9 => ?_; obtain ⟨y, by'⟩ := p; refine hG9 ?_; clear hG9
  rw [List.cons_append, List.cons_append, List.lookup_cons, List.lookup_cons]
  cases x == y with
  | true => exact ⟨rfl, fun h => by cases h⟩
  | false => exact ih
theorem zqL {li : Addr} {vs : List Value} {n n' : Nat} {ti : Tok} {pre post : List (Int × Addr × List Value × Nat)} (hI : CBInv db prog w bs i c) (e : c.ls = pre ++ (k, li, vs, n) :: post) (hk : bs[i]? = some k) :
  CBInv db prog w bs (i + 1) ⟨c.o, c.kvs, pre ++ (k, li, vs ++ [.int (i : Int) ti], n') :: post⟩ where
 dict := hI.dict
 len := Nat.le_succ_of_le hI.len
 vals := fun x => by
  rw [hI.vals, e]
  exact (zdo (b := (li, vs, n)) (b' := (li, vs ++ [.int (i : Int) ti], n')) rfl).1
 nums := fun x hx => by
  have hn := hI.once
  rw [e, List.map_append, List.map_cons] at hn
  have hn2 := List.nodup_append.mp hn
  k_extra "Z"
  ·have hne : x.1 ≠ k := hn2.2.2 _ (List.mem_map_of_mem hx) _ (.head _)
   k_extra "R"
   exact hI.nums x (e ▸ List.mem_append_left _ hx)
  ·rcases List.mem_cons.mp hx with rfl | hx
   ·rw [zbs, if_pos hk]
    exact zbl (hI.nums _ (e ▸ List.mem_append_right _ (.head _))) (.cons _ _ .nil)
   ·have hne : x.1 ≠ k := fun q => (List.nodup_cons.mp hn2.2.1).1 (q ▸ List.mem_map_of_mem (f := (·.1)) hx)
    k_extra "R"
    exact hI.nums x (e ▸ List.mem_append_right _ (.tail _ hx))
 miss := fun x hx => by
  have hx2 : c.ls.lookup x = none := by rw [e]; exact (zdo (b := (li, vs ++ [.int (i : Int) ti], n')) (b' := (li, vs, n)) rfl).2 hx
  have hxk : x ≠ k := fun q => zaB hx2 (k, li, vs, n) (e ▸ List.mem_append_right _ (.head _)) q.symm
  rw [zbs, hI.miss x hx2, if_neg (by rw [hk]; exact fun q => hxk (Option.some.inj q).symm)]
  rfl
 once := by
  have := hI.once
  rw [e, List.map_append, List.map_cons] at this
  rw [List.map_append, List.map_cons]
  exact this
 apart := by
  have := hI.apart
  rw [e, List.map_append, List.map_cons] at this
  rw [List.map_append, List.map_cons]
  exact this
 off := fun x hx => by
  k_extra "Z"
  ·exact hI.off x (e ▸ List.mem_append_left _ hx)
  ·rcases List.mem_cons.mp hx with rfl | hx
   ·exact hI.off (k, li, vs, n) (e ▸ List.mem_append_right _ (.head _))
   ·exact hI.off x (e ▸ List.mem_append_right _ (.tail _ hx))
variable {x : Str} {st : List Str} {m' : Str -> Option Value} {s₁ : Shared} {Bk : CB -> Prop} {R' : Value -> Shared -> Prop} 
theorem zdN {o' : Obj} {l0 : Addr} {ti : Tok} {n0 : Nat} (hI : CBInv db prog w bs i c) (hc : c.ls.lookup k = none) (hk : bs[i]? = some k) (hR : R = c.ls.map CB.row ++ own) (hoff : ∀ p ∈ own, ∀ q ∈ CB.led db c, p.1 ≠ q.1)
  (F : Fr h₀ L h' m') (N : News h₀ L h' ((l0, W.listOf [Value.int (i : Int) ti].toArray n0) :: (db, o') :: R)) (hd : o'.IsDictOf (PySem.intKind prog w) (stored c.kvs k (.ref l0))) (hl : ∀ p ∈ R, p.1 ≠ l0) (hdl : l0 ≠ db)
  (hz : ∀ z, z ≠ x -> st.contains z = false -> m' z = m₀ z) : LPost h₀ L (fun _ : CB => []) (CB.led db) x st m₀ (CBInv db prog w bs (i + 1)) own s₁ Bk R' .next { s₁ with heap := h', toks := tk } := by
 subst hR
 refine zaa ⟨o', stored c.kvs k (.ref l0), (k, l0, [.int (i : Int) ti], n0) :: c.ls⟩ F N ?_ (fun p hp => .tail _ (.tail _ (List.mem_append_right _ hp))) ?_ (fun _ h => nomatch h) (fun z h1 _ h3 => hz z h1 h3)
  (zpk hI hc hk hd (fun e he => hl _ (List.mem_append_left _ (List.mem_map_of_mem (f := CB.row) he))) hdl)
 ·intro p hp
  k_extra "q"
  ·exact .tail _ (.head _)
  k_extra "q"
  ·exact .head _
  ·exact .tail _ (.tail _ (List.mem_append_left _ hp))
 ·intro p hp q hq
  k_extra "S"
  ·exact hoff p hp (db, c.o) (.head _)
  k_extra "S"
  ·exact hl p (List.mem_append_right _ hp)
  ·exact hoff p hp q (.tail _ hq)
theorem zdO {li : Addr} {vs : List Value} {n n' : Nat} {ti : Tok} {pre post : List (Int × Addr × List Value × Nat)} {extra : List (Addr × Obj)} (hI : CBInv db prog w bs i c) (e : c.ls = pre ++ (k, li, vs, n) :: post) (hk : bs[i]? = some k) (hR : R = (pre ++ post).map CB.row ++ own) (hoff : ∀ p ∈ own, ∀ q ∈ CB.led db c, p.1 ≠ q.1)
  (F : Fr h₀ L h' m') (N : News h₀ L h' (extra ++ (db, c.o) :: (li, W.listOf (vs ++ [Value.int (i : Int) ti]).toArray n') :: R))
  (hz : ∀ z, z ≠ x -> st.contains z = false -> m' z = m₀ z) : LPost h₀ L (fun _ : CB => []) (CB.led db) x st m₀ (CBInv db prog w bs (i + 1)) own s₁ Bk R' .next { s₁ with heap := h', toks := tk } := by
 subst hR
 refine zaa ⟨c.o, c.kvs, pre ++ (k, li, vs ++ [.int (i : Int) ti], n') :: post⟩ F N ?_ (fun p hp => List.mem_append_right _ (.tail _ (.tail _ (List.mem_append_right _ hp)))) ?_ (fun _ h => nomatch h) (fun z h1 _ h3 => hz z h1 h3) (zqL hI e hk)
 ·intro p hp
  refine List.mem_append_right _ ?_
  k_extra "q"
  ·exact .head _
  rw [List.map_append, List.map_cons] at hp
  rw [List.map_append]
  k_extra "n"
  ·exact .tail _ (.tail _ (List.mem_append_left _ (List.mem_append_left _ hp)))
  k_extra "q"
  ·exact .tail _ (.head _)
  ·exact .tail _ (.tail _ (List.mem_append_left _ (List.mem_append_right _ hp)))
 ·intro p hp q hq
  k_extra "S"
  ·exact hoff p hp _ (.head _)
  rw [List.map_append, List.map_cons] at hq
  k_extra "aQ"
  ·exact hoff p hp q (.tail _ (e ▸ (by rw [List.map_append]; exact List.mem_append_left _ hq)))
  k_extra "S"
  ·exact hoff p hp (CB.row (k, li, vs, n)) (.tail _ (e ▸ (by rw [List.map_append]; exact List.mem_append_right _ (.head _))))
  ·exact hoff p hp q (.tail _ (e ▸ (by rw [List.map_append]; exact List.mem_append_right _ (.tail _ hq))))
end
section
variable {xi xv : Str} {pk pv pt : Pos} {x1 : Nat} {body : List Stmt} {R : Result -> Shared -> Prop}
theorem zom {db : Addr} {o : Obj} {l : Addr} {vs : List Value} {nl : Nat} {bs : List Int} (stored : List Str)
  (hh : A.handled = none) (hxi : env.kindOf xi = some .local) (hxv : env.kindOf xv = some .local)
  (hp : (env.scope.kind == .class || (env.scope.kind == .module && env.locals != env.globals)) = false) (hne : xi ≠ xv)
  (hl : (l, W.listOf vs.toArray nl) ∈ rest) (hints : IntsAre vs bs)
  (F : Fr h₀ env.locals s.heap m₀) (N : News h₀ env.locals s.heap ((db, o) :: rest)) (hoff : ∀ p ∈ rest, p.1 ≠ db) (hd : o.IsDictOf (PySem.intKind prog w) [])
  (turn : ∀ (i : Nat) (k : Int) t ti (c : CB) (u : Str -> Option Value) h tk own, bs[i]? = some k -> CBInv db prog w bs i c -> (∀ p ∈ own, ∀ q ∈ CB.led db c, p.1 ≠ q.1) -> (∀ p ∈ rest, p ∈ own) ->
   Fr h₀ env.locals h (fun y => if y = xv then some (.int k t) else kstB (fun z => if (xi :: stored).contains z then u z else m₀ z) [(xi, .int (i : Int) ti)] y) -> News h₀ env.locals h (CB.led db c ++ own) ->
   wpAny (model prog w) A (execs body env) (LPost h₀ env.locals (fun _ : CB => []) (CB.led db) xv (xi :: stored) m₀ (CBInv db prog w bs (i + 1)) own { s with heap := h, toks := tk } (fun _ => False) (fun v s' => R (.ok (.ret v)) s')) (notedBy (model prog w) A env fun e s' => R (.error e) s') { s with heap := h, toks := tk })
  (done : ∀ (c : CB) (u : Str -> Option Value) h tk, CBInv db prog w bs bs.length c -> (∀ p ∈ rest, ∀ q ∈ CB.led db c, p.1 ≠ q.1) -> Fr h₀ env.locals h (fun y => if y = xv then u y else kstB (fun z => if (xi :: stored).contains z then u z else m₀ z) [] y) -> News h₀ env.locals h (CB.led db c ++ rest) -> R (.ok .next) { s with heap := h, toks := tk }) :
  wpAny (model prog w) A (call (.type "enumerate") [.ref l]) (fun x s₁ => wpAny (model prog w) A (pyIter x) (fun it s₂ => codeAny (model prog w) A (.forLoop (.Tuple [.Name xi pk, .Name xv pv] x1 pt) it body [] env) R s₂) E s₁) E s :=
 zny (σ := CB) (fun _ => []) (CB.led db) stored (fun i c => CBInv db prog w bs i c) ⟨o, [], []⟩ hh hxi hxv hp hne (fun _ _ h => nomatch h) hl hints F N (zaz hoff) (fun _ h => nomatch h) (CBInv.zero hd) turn done
theorem zg5 {db : Addr} {h : Heap} {c : CB} (N : News h₀ L h (CB.led db c ++ rest)) (hoff : ∀ p ∈ rest, ∀ q ∈ CB.led db c, p.1 ≠ q.1) (off : ∀ e ∈ c.ls, e.2.1 ≠ db) :
  ∃ R, R = c.ls.map CB.row /\ News h₀ L h ((db, c.o) :: (rest ++ R)) /\ (∀ p ∈ R, p.1 ≠ db) /\ (∀ p ∈ rest, ∀ q ∈ R, q.1 ≠ p.1) /\ ∀ p ∈ rest, p.1 ≠ db := by
 refine ⟨_, rfl, fun p hp => N p ?_, fun p hp => ?_, fun p hp q hq x => hoff p hp q (.tail _ hq) x.symm, fun p hp => hoff p hp _ (.head _)⟩
 ·rcases List.mem_cons.mp hp with rfl | hp
  ·exact .head _
  k_extra "n"
  ·exact List.mem_append_right _ hp
  ·exact List.mem_append_left _ (.tail _ hp)
 ·refine bc fun hG9 => ?_
  (refine x_EA (List.mem_map.mp hp) ?_; intro e he q92; subst q92)
  k_extra "e"
  exact off e he
end
structure B4 where
 vs : List Value
 n : Nat
 lc : Int
 tl : Tok
 lb : Int
 tb : Tok
noncomputable def zak (os : List Int) (i : Nat) : Int := (os.take i).foldl (fun n o => 256 * n + o) 0
noncomputable def zbx (os : List Int) (i : Nat) : List Int := (List.range (8 * i / 6)).map fun k => zac (zak os i / 2 ^ (8 * i - 6 * (k + 1)) % 64)
structure B4Inv (os : List Int) (i : Nat) (c : B4) : Prop where
 out : IntsAre c.vs (zbx os i)
 lc : c.lc = zak os i % 65536
 lb : c.lb = ((8 * i % 6 : Nat) : Int)
theorem zaA {i : Nat} {k : Int} (h : os[i]? = some k) : zak os (i + 1) = 256 * zak os i + k := by
 unfold zak
 rw [List.take_add_one, h, List.foldl_append]
 rfl
theorem zbe (h : ∀ o ∈ os, 0 <= o) : ∀ i, 0 <= zak os i
 | 0 => by simp [zak]
 | i + 1 => by
  cases e : os[i]? with
  | none =>
   have : zak os (i + 1) = zak os i := by unfold zak; rw [List.take_add_one, e]; simp
   rw [this]; exact zbe h i
  | some k =>
   rw [zaA e]
   have := zbe h i
   have := h k (List.mem_of_getElem? e)
   lia
theorem zfi (n k : Int) (j : Nat) (h0 : 0 <= k) (h1 : k < 256) : (256 * n + k) / 2 ^ (j + 8) = n / 2 ^ j := by
 rw [Int.pow_add, Int.mul_comm (2 ^ j), <- Int.ediv_ediv_of_nonneg (by decide)]
 congr 1
 have : (2 : Int) ^ 8 = 256 := by decide
 rw [this]
 lia
theorem ziV {c k : Nat} (h : k < 8 * c / 6) : 6 * (k + 1) <= 8 * c := by lia
theorem zoq {i : Nat} {k : Int} (h : os[i]? = some k) (h0 : 0 <= k) (h1 : k < 256) (q : Nat) (hq : q < 8 * i / 6) :
  zac (zak os (i + 1) / 2 ^ (8 * (i + 1) - 6 * (q + 1)) % 64) = zac (zak os i / 2 ^ (8 * i - 6 * (q + 1)) % 64) := by
 rw [zaA h, show 8 * (i + 1) - 6 * (q + 1) = (8 * i - 6 * (q + 1)) + 8 from Nat.sub_add_comm (ziV hq), zfi _ _ _ h0 h1]
theorem zdt {i : Nat} {k : Int} (h : os[i]? = some k) (h0 : 0 <= k) (h1 : k < 256) :
  zbx os (i + 1) = zbx os i ++ (List.range (8 * (i + 1) / 6 - 8 * i / 6)).map fun q => zac (zak os (i + 1) / 2 ^ (8 * (i + 1) - 6 * (8 * i / 6 + q + 1)) % 64) := by
 unfold zbx
 conv => lhs; rw [<- Nat.add_sub_cancel' (Nat.div_le_div_right (c := 6) (Nat.mul_le_mul_left 8 (Nat.le_succ i)))]
 rw [List.range_add, List.map_append, List.map_map]
 congr 1
 exact List.map_congr_left fun q hq => zoq h h0 h1 q (List.mem_range.mp hq)
theorem zn1 (x : Int) (j : Nat) (hj : j <= 10) : x % 65536 / 2 ^ j % 64 = x / 2 ^ j % 64 := by
 obtain ⟨k, hk⟩ : ∃ k, j + k = 10 := ⟨10 - j, by exact Nat.add_sub_of_le hj⟩
 have e : (65536 : Int) = 2 ^ j * (64 * 2 ^ k) := by
  have h : (2 : Int) ^ 10 = 2 ^ j * 2 ^ k := by rw [<- hk, Int.pow_add]
  rw [Int.mul_left_comm, <- h]; decide
 have h := Int.mul_ediv_add_emod x 65536
 have hp : (2 : Int) ^ j ≠ 0 := Int.pow_ne_zero (by decide)
 generalize x % 65536 = r at h ⊢
 generalize x / 65536 = q at h
 rw [<- h, e, Int.mul_assoc, Int.add_comm, Int.add_mul_ediv_left _ _ hp, Int.mul_assoc, Int.add_mul_emod_self_left]
theorem zjr {i : Nat} {k lc : Int} (h : os[i]? = some k) (hl : lc = zak os i % 65536) : (lc * 256 + k) % 2 ^ 16 = zak os (i + 1) % 65536 := by
 rw [zaA h, hl]
 have : (2 : Int) ^ 16 = 65536 := by decide
 rw [this]
 lia
theorem zfd {i : Nat} {k lc : Int} {j : Nat} (h : os[i]? = some k) (hl : lc = zak os i % 65536) (hj : j <= 10) : zac ((lc * 256 + k) % 2 ^ 16 / 2 ^ j % 2 ^ 6) = zac (zak os (i + 1) / 2 ^ j % 64) := by
 rw [zjr h hl]
 have : (2 : Int) ^ 6 = 64 := by decide
 rw [this, zn1 _ _ hj]
theorem m8 (i : Nat) : 8 * i % 6 = 2 * (i % 3) := by lia
theorem d8 (i : Nat) : 8 * i / 6 = i + i / 3 := by lia
theorem zn7 {i : Nat} (hm : i % 3 ≠ 2) : 8 * (i + 1) / 6 - 8 * i / 6 = 1 /\ 8 * (i + 1) - 6 * (8 * i / 6 + 0 + 1) = 8 * (i + 1) % 6 /\ 8 * (i + 1) % 6 <= 4 := by
 have e1 : (i + 1) / 3 = i / 3 := by lia
 have e2 : (i + 1) % 3 = i % 3 + 1 := by lia
 have e := Nat.div_add_mod i 3
 have hr : i % 3 <= 1 := by lia
 rw [m8, d8, d8, e1, e2]
 generalize i / 3 = g at e
 generalize i % 3 = r at e hr
 subst e
 clear e1 e2 hm
 exact ⟨by lia, by lia, Nat.mul_le_mul_left 2 (Nat.succ_le_succ hr)⟩
theorem zns {i : Nat} (hm : i % 3 = 2) : 8 * (i + 1) / 6 - 8 * i / 6 = 2 /\ 8 * (i + 1) - 6 * (8 * i / 6 + 0 + 1) = 6 /\ 8 * (i + 1) - 6 * (8 * i / 6 + 1 + 1) = 0 := by
 have e1 : (i + 1) / 3 = i / 3 + 1 := by lia
 have e := Nat.div_add_mod i 3
 rw [hm] at e
 rw [d8, d8, e1]
 generalize i / 3 = g at e
 subst e
 clear e1 hm
 exact ⟨by lia, by lia, by lia⟩
theorem zlY {i : Nat} {k lc : Int} {vs : List Value} {t : Tok} {j : Nat} (h : os[i]? = some k) (h0 : 0 <= k) (h1 : k < 256) (hl : lc = zak os i % 65536) (ho : IntsAre vs (zbx os i)) (hm : i % 3 ≠ 2) (hj : j = 8 * (i + 1) % 6) :
  IntsAre (vs ++ [.int (zac ((lc * 256 + k) % 2 ^ 16 / 2 ^ j % 2 ^ 6)) t]) (zbx os (i + 1)) := by
 (refine cj3 (zn7 hm) ?_; intro c1 c2 c3)
 rw [zdt h h0 h1, zfd h hl (by lia), c1]
 refine zbl ho ?_
 show IntsAre _ [zac (zak os (i + 1) / 2 ^ (8 * (i + 1) - 6 * (8 * i / 6 + 0 + 1)) % 64)]
 rw [c2, <- hj]
 exact .cons _ _ .nil
theorem zqG {i : Nat} {k lc : Int} {vs : List Value} {t u : Tok} (h : os[i]? = some k) (h0 : 0 <= k) (h1 : k < 256) (hl : lc = zak os i % 65536) (ho : IntsAre vs (zbx os i)) (hm : i % 3 = 2) :
  IntsAre (vs ++ [.int (zac ((lc * 256 + k) % 2 ^ 16 / 2 ^ 6 % 2 ^ 6)) t] ++ [.int (zac ((lc * 256 + k) % 2 ^ 16 / 2 ^ 0 % 2 ^ 6)) u]) (zbx os (i + 1)) := by
 (refine cj3 (zns hm) ?_; intro c1 c2 c3)
 rw [zdt h h0 h1, zfd h hl (by exact Nat.le_of_ble_eq_true rfl), zfd h hl (by exact Nat.zero_le 10), c1, List.append_assoc]
 refine zbl ho ?_
 show IntsAre _ [zac (zak os (i + 1) / 2 ^ (8 * (i + 1) - 6 * (8 * i / 6 + 0 + 1)) % 64), zac (zak os (i + 1) / 2 ^ (8 * (i + 1) - 6 * (8 * i / 6 + 1 + 1)) % 64)]
 rw [c2, c3]
 exact .cons _ _ (.cons _ _ .nil)
theorem mod3 (i : Nat) : i % 3 = 0 \/ i % 3 = 1 \/ i % 3 = 2 := by lia
theorem zf3 (i : Nat) : (i % 3 = 0 /\ 8 * i % 6 = 0 /\ 8 * (i + 1) % 6 = 2) \/ (i % 3 = 1 /\ 8 * i % 6 = 2 /\ 8 * (i + 1) % 6 = 4) \/ (i % 3 = 2 /\ 8 * i % 6 = 4 /\ 8 * (i + 1) % 6 = 0) := by
 rw [m8, m8, Nat.add_mod]
 rcases mod3 i with h | h | h <;> rw [h]
 ·exact .inl ⟨rfl, rfl, rfl⟩
 ·exact .inr (.inl ⟨rfl, rfl, rfl⟩)
 ·exact .inr (.inr ⟨rfl, rfl, rfl⟩)
theorem zcL (os : List Int) (i : Nat) : (zbx os i).length = 8 * i / 6 := by
 unfold zbx
 rw [List.length_map, List.length_range]
noncomputable def zcZ (os : List Int) : List Int := if os.length % 3 = 0 then [] else if os.length % 3 = 1 then [zac (zak os os.length % 2 ^ 2 * 2 ^ 4), 61, 61] else [zac (zak os os.length % 2 ^ 4 * 2 ^ 2), 61]
noncomputable def b64L (os : List Int) : List Int := zbx os os.length ++ zcZ os
theorem zcX (v : Int) : 0 <= zac v /\ zac v < 256 := by
 unfold zac
 have h : ∀ n, 0 <= b64A.getD n 0 /\ b64A.getD n 0 < 256 := by
  intro n
  by_cases hn : n < 64
  ·exact (show ∀ n < 64, 0 <= b64A.getD n 0 /\ b64A.getD n 0 < 256 by decide +kernel) n hn
  ·rw [List.getD_eq_getElem?_getD, List.getElem?_eq_none (by simpa [b64A] using hn)]
   decide
 exact h _
theorem ziF (os : List Int) : KBa.In (b64L os) := by
 intro n hn
 rcases List.mem_append.mp hn with hn | hn
 ·unfold zbx at hn
  k_extra "l"
  (refine x_EA (List.mem_map.mp hn) ?_; intro q _ q92; subst q92)
  k_extra "e"
  exact zcX _
 ·unfold zcZ at hn
  split at hn
  ·cases hn
  split at hn
  ·simp only [List.mem_cons, List.not_mem_nil, or_false] at hn
   rcases hn with rfl | rfl | rfl
   ·exact zcX _
   ·decide
   ·decide
  ·simp only [List.mem_cons, List.not_mem_nil, or_false] at hn
   rcases hn with rfl | rfl
   ·exact zcX _
   ·decide
theorem zco (os : List Int) (h : os.length <= 1000) : (b64L os).length <= 100000 := by
 unfold b64L
 rw [List.length_append, zcL]
 unfold zcZ
 split
 ·simp; lia
 split
 ·simp; lia
 ·simp; omega
theorem fin0 {vs : List Value} (ho : IntsAre vs (zbx os os.length)) (h : os.length % 3 = 0) : IntsAre vs (b64L os) := by
 unfold b64L zcZ
 rw [if_pos h, List.append_nil]
 exact ho
theorem fin1 {vs : List Value} {lc : Int} {t1 t2 t3 : Tok} (ho : IntsAre vs (zbx os os.length)) (hl : lc = zak os os.length % 65536) (h : os.length % 3 = 1) :
  IntsAre (vs ++ [.int (zac (lc % 2 ^ 2 * 2 ^ 4)) t1] ++ [.int 61 t2] ++ [.int 61 t3]) (b64L os) := by
 unfold b64L zcZ
 rw [if_neg (by lia), if_pos h, List.append_assoc, List.append_assoc]
 refine zbl ho ?_
 rw [show zak os os.length % 2 ^ 2 = lc % 2 ^ 2 by lia]
 exact .cons _ _ (.cons _ _ (.cons _ _ .nil))
theorem fin2 {vs : List Value} {lc : Int} {t1 t2 : Tok} (ho : IntsAre vs (zbx os os.length)) (hl : lc = zak os os.length % 65536) (h : os.length % 3 = 2) :
  IntsAre (vs ++ [.int (zac (lc % 2 ^ 4 * 2 ^ 2)) t1] ++ [.int 61 t2]) (b64L os) := by
 unfold b64L zcZ
 rw [if_neg (by lia), if_neg (by lia), List.append_assoc]
 refine zbl ho ?_
 rw [show zak os os.length % 2 ^ 4 = lc % 2 ^ 4 by lia]
 exact .cons _ _ (.cons _ _ .nil)
noncomputable def zbw (number : Int) (size count : Nat) : List Int := (List.range count).map fun k => number / (size : Int) ^ (count - 1 - k) % (size : Int)
theorem zaq : ∀ {l : List Int}, KBa.In l -> KBw.bInts (byteArr l) = l
 | [], _ => rfl
 | x :: l, h => by
  have h1 := h x (.head _)
  have ih := zaq (l := l) fun v hv => h v (.tail _ hv)
  show (((x.toNat.toUInt8).toNat : Nat) : Int) :: _ = _
  rw [show ((x.toNat.toUInt8).toNat : Int) = x by
   rw [Nat.toUInt8, UInt8.toNat_ofNat']; lia]
  exact congrArg _ ih
theorem zeC {N : Int} {a b c d : Nat} (h : a + d = c + b) : N * 2 ^ a / 2 ^ b = N * 2 ^ c / 2 ^ d := by
 have key : ∀ (a b j : Nat), N * 2 ^ a / 2 ^ b = N * 2 ^ (a + j) / 2 ^ (b + j) := by
  intro a b j
  rw [Int.pow_add, Int.pow_add, <- Int.mul_assoc, Int.mul_ediv_mul_of_pos_left _ _ (Int.pow_pos (by decide))]
 by_cases hac : a <= c
 ·refine bc fun hG9 => ?_
  (refine x_E (Nat.exists_eq_add_of_le hac) ?_; intro j q91; subst q91)
  k_extra "e"
  obtain rfl : d = b + j := by lia
  exact key a b j
 ·refine bc fun hG9 => ?_
  (refine x_E (Nat.exists_eq_add_of_le (Nat.le_of_not_le hac)) ?_; intro j q91; subst q91)
  k_extra "e"
  obtain rfl : b = d + j := by lia
  exact (key c d j).symm
theorem zdj {M : Int} {c : Nat} (h0 : 0 <= M) (h1 : M < 256 ^ c) : ∀ i, i <= c -> zak (zbw M 256 c) i = M / 256 ^ (c - i)
 | 0, _ => by
  simp only [zak, List.take_zero, List.foldl_nil, Nat.sub_zero]
  exact (Int.ediv_eq_zero_of_lt h0 h1).symm
 | i + 1, hi => by
  have hx : (zbw M 256 c)[i]? = some (M / 256 ^ (c - 1 - i) % 256) := by
   simp only [zbw, List.getElem?_map, List.getElem?_range (show i < c by exact Nat.lt_of_succ_le hi)]; rfl
  rw [zaA hx, zdj h0 h1 i (Nat.le_of_succ_le hi)]
  have e : c - i = (c - (i + 1)) + 1 := (Nat.sub_add_cancel (Nat.sub_pos_of_lt hi)).symm.trans (by rw [Nat.sub_sub])
  have e2 : c - 1 - i = c - (i + 1) := by rw [Nat.sub_sub, Nat.add_comm]
  rw [e, e2, Int.pow_succ, <- Int.ediv_ediv_of_nonneg (Int.pow_nonneg (by decide))]
  have := Int.mul_ediv_add_emod (M / 256 ^ (c - (i + 1))) 256
  exact Int.mul_ediv_add_emod (M / 256 ^ (c - (i + 1))) 256
noncomputable def sixL (X : Int) (w : Nat) : List Int := (List.range w).map fun k => zac (X / 2 ^ (6 * (w - 1 - k)) % 64)
theorem zlB (c : Nat) : 8 * c <= 6 * ((8 * c + 5) / 6) := by lia
theorem zm8 {M : Int} {c w k : Nat} (h1 : 6 * (k + 1) <= 8 * c) (h2 : 8 * c <= 6 * w) : M / 2 ^ (8 * c - 6 * (k + 1)) % 64 = M * 2 ^ (6 * w - 8 * c) / 2 ^ (6 * (w - 1 - k)) % 64 := by
 have := zeC (N := M) (a := 0) (b := 8 * c - 6 * (k + 1)) (c := 6 * w - 8 * c) (d := 6 * (w - 1 - k)) (by
  (refine x_E (Nat.exists_eq_add_of_le h1) ?_; intro a ha)
  (refine x_E (Nat.exists_eq_add_of_le h2) ?_; intro b hb)
  rw [hb, Nat.add_sub_cancel_left, ha, Nat.add_sub_cancel_left, Nat.sub_sub, Nat.mul_sub, hb, ha]
  (clear h1 h2 ha hb; lia))
 rw [<- this, Int.pow_zero, Int.mul_one]
theorem w8a {c : Nat} (h : c % 3 = 0) : (8 * c + 5) / 6 = 8 * c / 6 := by lia
theorem w8b {c : Nat} (h : ¬ c % 3 = 0) : (8 * c + 5) / 6 = 8 * c / 6 + 1 := by lia
theorem pad0 {c : Nat} (h : c % 3 = 0) : ((-((8 * c / 6 : Nat) : Int)) % 4).toNat = 0 := by
 rw [d8]; lia
theorem pad1 {c : Nat} (h : c % 3 = 1) : ((-((8 * c / 6 + 1 : Nat) : Int)) % 4).toNat = 2 /\ 6 * (8 * c / 6 + 1) - 8 * c = 4 := by
 rw [d8]; exact ⟨by omega, by omega⟩
theorem pad2 {c : Nat} (h : c % 3 = 2) : ((-((8 * c / 6 + 1 : Nat) : Int)) % 4).toNat = 1 /\ 6 * (8 * c / 6 + 1) - 8 * c = 2 := by
 rw [d8]; exact ⟨by omega, by omega⟩
theorem zlO (M : Int) {a c : Int} (h : 0 < a) : M % c * a = M * a % (a * c) := (Int.mul_comm _ _).trans ((Int.mul_emod_mul_of_pos M c h).symm.trans (congrArg (· % (a * c)) (Int.mul_comm a M)))
theorem zdB : b64L os = sixL (zak os os.length * 2 ^ (6 * ((8 * os.length + 5) / 6) - 8 * os.length)) ((8 * os.length + 5) / 6) ++ List.replicate ((-(((8 * os.length + 5) / 6 : Nat) : Int)) % 4).toNat 61 := by
 unfold b64L zcZ zbx sixL
 generalize zak os os.length = M
 generalize os.length = c
 have hle := zlB c
 by_cases h0 : c % 3 = 0
 ·rw [w8a h0] at hle ⊢
  rw [if_pos h0, pad0 h0, List.replicate_zero, List.append_nil, List.append_nil]
  exact List.map_congr_left fun k hk => congrArg zac (zm8 (ziV (List.mem_range.mp hk)) hle)
 ·rw [w8b h0] at hle ⊢
  rw [if_neg h0, List.range_succ, List.map_append, List.append_assoc]
  congr 1
  ·exact List.map_congr_left fun k hk => congrArg zac (zm8 (ziV (List.mem_range.mp hk)) hle)
  ·rw [List.map_singleton, Nat.add_sub_cancel, Nat.sub_self, Nat.mul_zero, Int.pow_zero, Int.ediv_one]
   by_cases h1 : c % 3 = 1
   ·rw [if_pos h1, (pad1 h1).1, (pad1 h1).2]
    exact congrArg (fun x => [zac x, 61, 61]) (zlO M (by decide))
   ·have h2 : c % 3 = 2 := ((mod3 c).resolve_left h0).resolve_left h1
    rw [if_neg h1, (pad2 h2).1, (pad2 h2).2]
    exact congrArg (fun x => [zac x, 61]) (zlO M (by decide))
example : True := by
 k_with "Y" => exact absurd (Heap.lt_size (N p hp).1) ((List.mem_singleton.mp hI) ▸ Nat.lt_irrefl _)
 trivial
section
variable {x : Str} {body : List Stmt} {Q : Flow -> Shared -> Prop}
theorem zjD {σ : Type} {I : Addr} {fp wr : List Addr} {n : Nat} {P : Nat -> Value -> Prop} {St : Nat -> Heap -> Prop} (ps : σ -> List (Str × Value)) (Led : σ -> List (Addr × Obj)) (stored : List Str) (Inv : Nat -> σ -> Prop) (Brk : σ -> Prop) (c₀ : σ)
  (W : Walks prog w A I fp wr n P St) (hfw : ∀ a ∈ fp, a ∈ wr) (hwf : ∀ b ∈ wr, b ∈ fp) (hob : ∀ i h, St i h -> ∀ b ∈ wr, ∃ o, h.get? b = some o) (hLf : env.locals ∉ fp) (hwr : ∀ b ∈ wr, h₀.get? b = none) (hnw : ∀ p ∈ Led c₀ ++ rest, p.1 ∉ wr) (hst : St 0 s.heap)
  (F : Fr h₀ env.locals s.heap m₀) (N : News h₀ env.locals s.heap (Led c₀ ++ rest))
  (hoff : ∀ p ∈ rest, ∀ q ∈ Led c₀, p.1 ≠ q.1) (hk : ∀ p ∈ ps c₀, m₀ p.1 = some p.2) (hi : Inv 0 c₀)
  (turn : ∀ (i : Nat) (v : Value) (c : σ) (u : Str -> Option Value) h tk own, i < n -> P i v -> Inv i c -> (∀ p ∈ own, ∀ q ∈ Led c, p.1 ≠ q.1) -> (∀ p ∈ rest, p ∈ own) ->
   Fr h₀ env.locals h (fun y => if y = x then some v else kstB (fun z => if stored.contains z then u z else m₀ z) (ps c) y) -> News h₀ env.locals h (Led c ++ own) ->
   wpAny (model prog w) A (execs body env) (LPost h₀ env.locals ps Led x stored m₀ (Inv (i + 1)) own { s with heap := h, toks := tk } Brk (fun v s' => Q (.ret v) s')) E { s with heap := h, toks := tk })
  (done : ∀ (c : σ) (u : Str -> Option Value) h tk, (Inv n c \/ Brk c) -> (∀ p ∈ rest, ∀ q ∈ Led c, p.1 ≠ q.1) -> Fr h₀ env.locals h (fun y => if y = x then u y else kstB (fun z => if stored.contains z then u z else m₀ z) (ps c) y) -> News h₀ env.locals h (Led c ++ rest) -> Q .next { s with heap := h, toks := tk }) :
  LoopAtV prog w A h₀ env x body Q E (.ref I) s := by
 refine kdr_loop (fun i => LJ ps Led rest x stored m₀ (Inv i)) W hfw hwf hob hLf hwr hnw hst F N ⟨c₀, rfl, hoff, hk, fun _ _ _ _ => rfl, hi⟩ ?_ fun m₁ nx h tk hJ F N => zc1 hJ F N fun c u hI ho F N => done c u h tk (.inl hI) ho F N
 intro i v m₁ nx h tk own hin hP ho hJ F₁ N₁
 exact zdS (InvPostG h₀ env.locals (LJ ps Led rest x stored m₀ (Inv (i + 1))) own { s with heap := h, toks := tk } Q) hJ (zhR ho) F₁ N₁ (fun c u own' hI => turn i v c u h tk own' hin hP hI) (fun _ _ h => h) (fun c u h tk hB => done c u h tk (.inr hB)) fun h tk m' news' nx hJ F N hn ho hf => ⟨InvEndG.intro F N hJ (zca hf) hn ho, InvEndG.intro F N hJ (zca hf) hn ho⟩
theorem zfH {σ : Type} {b : Array UInt8} {tb : Tok} (ps : σ -> List (Str × Value)) (Led : σ -> List (Addr × Obj)) (stored : List Str) (Inv : Nat -> σ -> Prop) (c₀ : σ)
  (hh : A.handled = none) (F : Fr h₀ env.locals s.heap m₀) (N : News h₀ env.locals s.heap (Led c₀ ++ rest))
  (hoff : ∀ p ∈ rest, ∀ q ∈ Led c₀, p.1 ≠ q.1) (hk : ∀ p ∈ ps c₀, m₀ p.1 = some p.2) (hi : Inv 0 c₀)
  (turn : ∀ (i : Nat) (k : Int) t (c : σ) (u : Str -> Option Value) h tk own, (KBw.bInts b)[i]? = some k -> 0 <= k -> k < 256 -> Inv i c -> (∀ p ∈ own, ∀ q ∈ Led c, p.1 ≠ q.1) -> (∀ p ∈ rest, p ∈ own) ->
   Fr h₀ env.locals h (fun y => if y = x then some (.int k t) else kstB (fun z => if stored.contains z then u z else m₀ z) (ps c) y) -> News h₀ env.locals h (Led c ++ own) ->
   wpAny (model prog w) A (execs body env) (LPost h₀ env.locals ps Led x stored m₀ (Inv (i + 1)) own { s with heap := h, toks := tk } (fun _ => False) (fun v s' => Q (.ret v) s')) E { s with heap := h, toks := tk })
  (done : ∀ (c : σ) (u : Str -> Option Value) h tk, Inv b.size c -> (∀ p ∈ rest, ∀ q ∈ Led c, p.1 ≠ q.1) -> Fr h₀ env.locals h (fun y => if y = x then u y else kstB (fun z => if stored.contains z then u z else m₀ z) (ps c) y) -> News h₀ env.locals h (Led c ++ rest) -> Q .next { s with heap := h, toks := tk }) :
  wpAny (model prog w) A (pyIter (.bytes b tb)) (fun it s₂ => LoopAtV prog w A h₀ env x body Q E it s₂) E s := by
 refine KBw.pyIter_bytes ?_
 have W := KBw.walks (prog := prog) (w := w) hh s.heap.objs.size b tb
 refine zjD ps Led stored Inv (fun _ => False) c₀ W (fun _ h => h) (fun _ h => h) ?_ ?_ ?_ ?_ ⟨_, Heap.get?_push_size _ rfl, rfl, rfl⟩ (F.push _) (fun p hp => ⟨Heap.get?_push_of_some _ (N p hp).1, (N p hp).2⟩) hoff hk hi ?_ (fun c u h tk hI => done c u h tk (hI.resolve_right id))
 ·intro i h q92 b' hb
  (refine x_EA (q92) ?_; clear q92; intro o ho _)
  exact ⟨o, (List.mem_singleton.mp hb) ▸ ho⟩
 ·intro hm
  exact absurd F.ns.lt ((List.mem_singleton.mp hm) ▸ Nat.lt_irrefl _)
 ·intro b' hb
  rw [List.mem_singleton.mp hb]
  exact next_is_new F
 ·intro p hp hI
  k_extra "Y"
 ·intro i v c u h tk own hin q98 hI hoff' hrest F₁ N₁
  k_extra "l"
  (refine zgn (q98) ?_; clear q98; intro cc t hc q93; subst q93)
  k_extra "e"
  have hb := KBw.ints_in (List.mem_of_getElem? (KBw.ints_get hc))
  exact turn i _ t c u h tk own (KBw.ints_get hc) hb.1 hb.2 hI hoff' hrest F₁ N₁
end
example : True := by
 k_with "C" => ((refine x_E (Int.eq_ofNat_of_zero_le hO) ?_; intro x q91; subst q91); k_extra "e"; k_extra "l"; (refine x_E (Int.eq_ofNat_of_zero_le hP) ?_; intro y q91; subst q91); k_extra "e"; rw [xor_nat])
 trivial
theorem zqE {X A a b r s u v x y z w : Nat} (ih : X + 2 * A = a + b) (h : r + 2 * s = u + v) (hx : 2 * a + u = x) (hy : 2 * b + v = y) (hz : 2 * X + r = z) (hw : 2 * A + s = w) : z + 2 * w = x + y := by lia
theorem zho : ∀ (k x y : Nat), x < 2 ^ k -> y < 2 ^ k -> (x ^^^ y) + 2 * (x &&& y) = x + y
 | 0, x, y, hx, hy => by
  obtain rfl : x = 0 := Nat.lt_one_iff.mp hx
  obtain rfl : y = 0 := Nat.lt_one_iff.mp hy
  rfl
 | k + 1, x, y, hx, hy => by
  have ih := zho k (x / 2) (y / 2) (Nat.div_lt_of_lt_mul (by rw [Nat.mul_comm]; exact hx)) (Nat.div_lt_of_lt_mul (by rw [Nat.mul_comm]; exact hy))
  rw [<- Nat.xor_div_two, <- Nat.and_div_two] at ih
  have h1 : (x ^^^ y) % 2 = (x % 2) ^^^ (y % 2) := Nat.xor_mod_two_pow (n := 1)
  have h2 : (x &&& y) % 2 = (x % 2) &&& (y % 2) := Nat.and_mod_two_pow (n := 1)
  refine zqE ih ?_ (Nat.div_add_mod x 2) (Nat.div_add_mod y 2) (Nat.div_add_mod _ 2) (Nat.div_add_mod _ 2)
  rw [h1, h2]
  rcases Nat.mod_two_eq_zero_or_one x with e1 | e1 <;> rcases Nat.mod_two_eq_zero_or_one y with e2 | e2 <;> rw [e1, e2] <;> rfl
theorem xor_nat (x y : Nat) : Builtin.bitXor (x : Int) (y : Int) = ((x ^^^ y : Nat) : Int) := by
 have h := zho (x + y) x y (Nat.lt_of_le_of_lt (Nat.le_add_right x y) Nat.lt_two_pow_self) (Nat.lt_of_le_of_lt (Nat.le_add_left y x) Nat.lt_two_pow_self)
 rw [bitXor_and]
 have e : Builtin.bitAnd (x : Int) (y : Int) = ((x &&& y : Nat) : Int) := by simp [Builtin.bitAnd]
 rw [e]
 lia
theorem zh3 {O P : Int} (hO : 0 <= O) (hP : 0 <= P) (e : Nat) : Builtin.bitXor O P / 64 ^ e % 64 = 0 ↔ O / 64 ^ e % 64 = P / 64 ^ e % 64 := by
 k_extra "l"
 k_extra "C"
 have p : (64 : Int) ^ e = ((2 ^ (6 * e) : Nat) : Int) := by
  rw [Nat.pow_mul]
  simp
 rw [p]
 have k : ∀ z : Nat, (z : Int) / ((2 ^ (6 * e) : Nat) : Int) % 64 = ((z / 2 ^ (6 * e) % 2 ^ 6 : Nat) : Int) := fun z => by
  rw [Int.natCast_emod, Int.natCast_ediv]; rfl
 rw [k, k, k, Nat.xor_div_two_pow, Nat.xor_mod_two_pow]
 generalize x / 2 ^ (6 * e) % 2 ^ 6 = a
 generalize y / 2 ^ (6 * e) % 2 ^ 6 = b
 constructor
 ·intro h
  have h' : a ^^^ b = 0 := by exact Int.ofNat_eq_zero.mp h
  have : a = b := by
   have e2 : (a ^^^ b) ^^^ b = 0 ^^^ b := by rw [h']
   rw [Nat.xor_assoc, Nat.xor_self, Nat.xor_zero, Nat.zero_xor] at e2
   exact e2
  rw [this]
 ·intro h
  have : a = b := by exact Int.ofNat_inj.mp h
  rw [this, Nat.xor_self]
  rfl
theorem zpt {O P : Int} (hO : 0 <= O) (hP : 0 <= P) : 0 <= Builtin.bitXor O P := by
 k_extra "l"
 k_extra "C"
 exact Int.natCast_nonneg (x ^^^ y)
theorem zoT {O P : Int} {n : Nat} (hO : 0 <= O) (hP : 0 <= P) (hO1 : O < 64 ^ n) (hP1 : P < 64 ^ n) : Builtin.bitXor O P < 64 ^ n := by
 k_extra "l"
 k_extra "C"
 have p : (64 : Int) ^ n = ((2 ^ (6 * n) : Nat) : Int) := by
  rw [Nat.pow_mul]
  simp
 rw [p] at hO1 hP1 ⊢
 exact Int.ofNat_lt.mpr (Nat.xor_lt_two_pow (Int.ofNat_lt.mp hO1) (Int.ofNat_lt.mp hP1))
theorem zld {U y z : Int} {e n : Nat} (hy : y = (e : Int)) (hz : z = (n : Int)) : (U.fdiv (64 ^ y.toNat)).fmod (64 ^ z.toNat) = U / 64 ^ e % 64 ^ n := by
 rw [Int.fdiv_eq_ediv_of_nonneg _ (Int.pow_nonneg (by decide)), Int.fmod_eq_emod_of_nonneg _ (Int.pow_nonneg (by decide)), hy, hz]
 rfl
theorem zlE {U : Int} {e n : Nat} : 0 <= U / 64 ^ e % 64 ^ n := Int.emod_nonneg _ (Int.pow_ne_zero (by decide))
theorem zly {U : Int} {e n : Nat} : U / 64 ^ e % 64 ^ n < 64 ^ n := Int.emod_lt_of_pos _ (Int.pow_pos (by decide))
theorem znL (M : Int) {p q : Int} (hp : 0 < p) (hq : 0 < q) : M % (p * q) / p = M / p % q := by
 have h0 := Int.emod_nonneg M (b := p * q) (Int.ne_of_gt (Int.mul_pos hp hq))
 have h1 := Int.emod_lt_of_pos M (Int.mul_pos hp hq)
 have e := Int.mul_ediv_add_emod M (p * q)
 generalize hr : M % (p * q) = r at *
 generalize M / (p * q) = t at *
 have e2 : M / p = q * t + r / p := by
  rw [<- e, Int.mul_assoc, Int.add_comm, Int.add_mul_ediv_left _ _ (Int.ne_of_gt hp), Int.add_comm]
 have b0 : 0 <= r / p := Int.ediv_nonneg h0 (Int.le_of_lt hp)
 have b1 : r / p < q := Int.ediv_lt_of_lt_mul hp (by rw [Int.mul_comm]; exact h1)
 rw [e2, Int.add_comm, Int.add_mul_emod_self_left, Int.emod_eq_of_lt b0 b1]
theorem zen {U : Int} {e n k : Nat} (hk : k < n) : U / 64 ^ e % 64 ^ n / 64 ^ (n - 1 - k) % 64 = U / 64 ^ (e + (n - 1 - k)) % 64 := by
 have e1 : (64 : Int) ^ n = 64 ^ (n - 1 - k) * (64 * 64 ^ k) := by
  rw [<- Int.pow_succ', <- Int.pow_add]; congr 1; omega
 rw [Int.pow_add, <- Int.ediv_ediv_of_nonneg (Int.pow_nonneg (by decide))]
 generalize U / 64 ^ e = M
 have hp : (0 : Int) < 64 ^ (n - 1 - k) := Int.pow_pos (by decide)
 have h1 : M % 64 ^ n / 64 ^ (n - 1 - k) = M / 64 ^ (n - 1 - k) % (64 * 64 ^ k) := by
  rw [e1]
  exact znL _ hp (Int.mul_pos (by decide) (Int.pow_pos (by decide)))
 rw [h1]
 exact Int.emod_emod_of_dvd _ ⟨_, rfl⟩
theorem zoa {n o w k : Nat} (h1 : 6 * n <= 8 * o) (h2 : 8 * o <= 6 * w) (hk : k < n) : 8 * o - 6 * n + (6 * w - 8 * o) + 6 * (n - 1 - k) = 0 + 6 * (w - 1 - k) := by
 (refine x_E (Nat.exists_eq_add_of_le h1) ?_; intro a ha)
 (refine x_E (Nat.exists_eq_add_of_le h2) ?_; intro b hb)
 k_extra "l"
 (refine x_E (Nat.exists_eq_add_of_lt hk) ?_; intro s q91; subst q91)
 k_extra "e"
 rw [hb, Nat.add_sub_cancel_left, ha, Nat.add_sub_cancel_left, show k + s + 1 - 1 - k = s by exact Eq.symm (Nat.eq_sub_of_add_eq' rfl)]
 lia
theorem zgR {X : Int} {n k : Nat} (hX : 0 <= X) (hX1 : X < 64 ^ n) (hk : k < n) :
  (b64L (zbw (X * 2 ^ (8 * ((6 * n + 7) / 8) - 6 * n)) 256 ((6 * n + 7) / 8))).getD k 0 = zac (X / 64 ^ (n - 1 - k) % 64) := by
 obtain ⟨o, ho⟩ : ∃ o, o = (6 * n + 7) / 8 := ⟨_, rfl⟩
 rw [<- ho]
 have o1 : 6 * n <= 8 * o := by lia
 have o2 : 8 * o <= 6 * ((8 * o + 5) / 6) := by exact zlB o
 have hl : (zbw (X * 2 ^ (8 * o - 6 * n)) 256 o).length = o := by simp [zbw]
 have h256 : (256 : Int) ^ o = 2 ^ (8 * o) := by rw [Int.pow_mul]; rfl
 have h64 : (64 : Int) ^ n = 2 ^ (6 * n) := by rw [Int.pow_mul]; rfl
 have hlt : X * 2 ^ (8 * o - 6 * n) < 256 ^ o := by
  rw [h256, show (2 : Int) ^ (8 * o) = 64 ^ n * 2 ^ (8 * o - 6 * n) by rw [h64, <- Int.pow_add, Nat.add_sub_cancel' o1]]
  exact Int.mul_lt_mul_of_pos_right hX1 (Int.pow_pos (by decide))
 have hnum := zdj (M := X * 2 ^ (8 * o - 6 * n)) (c := o) (Int.mul_nonneg hX (Int.pow_nonneg (by decide))) hlt o (Nat.le_refl _)
 rw [Nat.sub_self, Int.pow_zero, Int.ediv_one] at hnum
 rw [zdB, hl, hnum]
 have hw : k < (8 * o + 5) / 6 := by clear hnum hlt hl h64 h256 ho; lia
 rw [List.getD_eq_getElem?_getD, List.getElem?_append_left (by simp [sixL]; exact hw)]
 unfold sixL
 rw [List.getElem?_map, List.getElem?_range hw]
 simp only [Option.map_some, Option.getD_some]
 congr 2
 rw [Int.mul_assoc, <- Int.pow_add, show (64 : Int) ^ (n - 1 - k) = 2 ^ (6 * (n - 1 - k)) by rw [Int.pow_mul]; rfl]
 have := zeC (N := X) (a := 8 * o - 6 * n + (6 * ((8 * o + 5) / 6) - 8 * o)) (b := 6 * ((8 * o + 5) / 6 - 1 - k)) (c := 0) (d := 6 * (n - 1 - k)) (zoa o1 o2 hk)
 rw [this, Int.pow_zero, Int.mul_one]
theorem zjl {Z : Int} {n k : Nat} (hk : k < n) : k < (b64L (zbw Z 256 ((6 * n + 7) / 8))).length := by
 have hl : (zbw Z 256 ((6 * n + 7) / 8)).length = (6 * n + 7) / 8 := by simp [zbw]
 rw [zdB, hl, List.length_append]
 simp only [sixL, List.length_map, List.length_range]
 exact Nat.lt_of_lt_of_le (by clear hl; lia) (Nat.le_add_right _ _)
theorem zos {d : Int} (h0 : 0 <= d) (h1 : d < 64) : zac d = 65 ↔ d = 0 := by
 k_extra "l"
 (refine x_E (Int.eq_ofNat_of_zero_le h0) ?_; intro n q91; subst q91)
 k_extra "e"
 have : ∀ n < 64, (zac ((n : Nat) : Int) = 65 ↔ ((n : Nat) : Int) = 0) := by decide +kernel
 exact this n (by exact Int.ofNat_lt.mp h1)
example : True := by
 k_with "aH" => have hl : l.length <= n := by simpa using h
 k_with "ah" => (rw [List.filter_filter]; refine List.filter_congr fun x _ => ?_)
 trivial
abbrev Run := Nat × Nat × Nat
noncomputable def zad (r b : Run) : Bool := (decide (r.2.1 + r.1 <= b.2.1) && decide (r.2.2 + r.1 <= b.2.2)) || (decide (b.2.1 + b.1 <= r.2.1) && decide (b.2.2 + b.1 <= r.2.2))
theorem zag {r b : Run} : zad r b = true ↔ (r.2.1 + r.1 <= b.2.1 /\ r.2.2 + r.1 <= b.2.2) \/ (b.2.1 + b.1 <= r.2.1 /\ b.2.2 + b.1 <= r.2.2) := by
 simp [zad]
theorem zdc (r b : Run) : zad r b = zad b r := by
 unfold zad
 rw [Bool.or_comm]
noncomputable def rlt (r s : Run) : Prop := s.1 < r.1 \/ (r.1 = s.1 /\ (r.2.1 < s.2.1 \/ (r.2.1 = s.2.1 /\ r.2.2 < s.2.2)))
noncomputable def LX (a b : Nat) (T : Prop) : Prop := a < b \/ (a = b /\ T)
theorem zfK {a b c : Nat} {T U V : Prop} (h : LX a b T) (k : LX b c U) (f : T -> U -> V) : LX a c V :=
 h.elim (fun x => .inl (k.elim (Nat.lt_trans x) fun y => y.1 ▸ x)) fun x => k.elim (fun y => .inl (x.1 ▸ y)) fun y => .inr ⟨x.1.trans y.1, f x.2 y.2⟩
theorem zge {a b : Nat} {T U : Prop} (h : LX a b T) (k : LX b a U) (f : T -> U -> False) : False :=
 h.elim (fun x => k.elim (Nat.lt_asymm x) fun y => Nat.ne_of_lt x y.1.symm) fun x => k.elim (fun y => Nat.ne_of_lt y x.1.symm) fun y => f x.2 y.2
theorem zlL {a b : Nat} {T U W : Prop} (h : T \/ W \/ U) : LX a b T \/ (a = b /\ W) \/ LX b a U :=
 (Nat.lt_trichotomy a b).elim (fun x => .inl (.inl x)) fun x => x.elim (fun x => h.elim (fun y => .inl (.inr ⟨x, y⟩)) fun y => y.elim (fun y => .inr (.inl ⟨x, y⟩)) fun y => .inr (.inr (.inr ⟨x.symm, y⟩))) fun x => .inr (.inr (.inl x))
theorem zda {r s : Run} : rlt r s ↔ LX s.1 r.1 (LX r.2.1 s.2.1 (r.2.2 < s.2.2)) := ⟨fun h => h.imp id fun q => ⟨q.1.symm, q.2⟩, fun h => h.imp id fun q => ⟨q.1.symm, q.2⟩⟩
theorem zaK {r s : Run} (h : rlt r s) (h' : rlt s r) : False := zge (zda.mp h) (zda.mp h') fun x y => zge x y Nat.lt_asymm
theorem zhL {r s t : Run} (h : rlt r s) (k : rlt s t) : rlt r t := zda.mpr (zfK (zda.mp k) (zda.mp h) fun x y => zfK y x Nat.lt_trans)
theorem zh9 (r s : Run) : rlt r s \/ r = s \/ rlt s r :=
 (zlL (a := s.1) (b := r.1) (zlL (Nat.lt_trichotomy r.2.2 s.2.2))).imp zda.mpr fun q => q.imp (fun q => Prod.ext q.1.symm (Prod.ext q.2.1 q.2.2)) fun q => zda.mpr q
noncomputable def zaY (bs : List Run) (r : Run) : List Run := if bs.all (zad r) then bs ++ [r] else bs
noncomputable def zab (l : List Run) : List Run := l.foldl zaY []
theorem zcp : ∀ (n : Nat) (l : List Run) (acc : List Run), l.length <= n -> l.foldl zaY acc = acc ++ zab (l.filter fun x => acc.all (zad x))
 | _, [], acc, _ => by simp [zab]
 | 0, _ :: _, _, h => by simp at h
 | n + 1, x :: l, acc, h => by
  k_extra "aH"
  rw [List.foldl_cons]
  by_cases hx : acc.all (zad x) = true
  ·rw [show zaY acc x = acc ++ [x] from if_pos hx, List.filter_cons_of_pos (p := fun y => acc.all (zad y)) hx, zcp n l (acc ++ [x]) hl]
   show _ = acc ++ (x :: l.filter fun y => acc.all (zad y)).foldl zaY []
   rw [List.foldl_cons]
   have e1 : zaY [] x = [x] := by simp [zaY]
   rw [e1, zcp n (l.filter fun y => acc.all (zad y)) [x] (Nat.le_trans (List.length_filter_le _ _) hl), List.filter_filter, List.append_assoc]
   congr 2
   congr 1
   refine List.filter_congr fun y _ => ?_
   simp [Bool.and_comm]
  ·rw [show zaY acc x = acc from if_neg hx, List.filter_cons_of_neg (p := fun y => acc.all (zad y)) hx, zcp n l acc hl]
theorem zaI (r : Run) (l : List Run) : zab (r :: l) = r :: zab (l.filter fun x => zad x r) := by
 show (r :: l).foldl zaY [] = _
 rw [List.foldl_cons]
 have e1 : zaY [] r = [r] := by simp [zaY]
 rw [e1, zcp _ l [r] (Nat.le_refl _)]
 simp only [List.all_cons, List.all_nil, Bool.and_true, List.cons_append, List.nil_append]
theorem zdl (P Q : Run -> Bool) (hpq : ∀ x y, P x = true -> Q y = true -> zad x y = true) : ∀ (n : Nat) (l : List Run), l.length <= n -> (∀ x ∈ l, 1 <= x.1) -> (∀ x ∈ l, P x = true \/ Q x = true) ->
  (zab l).Perm (zab (l.filter P) ++ zab (l.filter Q))
 | _, [], _, _, _ => by simp [zab]
 | 0, _ :: _, h, _, _ => by simp at h
 | n + 1, r :: l, h, h1, h2 => by
  k_extra "aH"
  have hr := h1 r (.head _)
  have hself : ∀ x : Run, 1 <= x.1 -> zad x x = false := fun x hx => by
   rw [Bool.eq_false_iff]
   intro q
   have := zag.mp q
   lia
  have hnot : ∀ x : Run, 1 <= x.1 -> P x = true -> Q x = false := fun x hx hp => by
   rw [Bool.eq_false_iff]
   intro q
   have := hpq x x hp q
   rw [hself x hx] at this
   cases this
  have ih := zdl P Q hpq n (l.filter fun x => zad x r) (Nat.le_trans (List.length_filter_le _ _) hl) (fun x hx => h1 x (.tail _ (List.mem_filter.mp hx).1)) (fun x hx => h2 x (.tail _ (List.mem_filter.mp hx).1))
  rw [zaI]
  by_cases hp : P r = true
  ·have hq := hnot r hr hp
   rw [List.filter_cons_of_pos hp, List.filter_cons_of_neg (by rw [hq]; simp), zaI, List.cons_append]
   refine List.Perm.cons _ (ih.trans ?_)
   have e1 : (l.filter fun x => zad x r).filter P = (l.filter P).filter fun x => zad x r := by
    rw [List.filter_filter, List.filter_filter]
    exact List.filter_congr fun x _ => Bool.and_comm _ _
   have e2 : (l.filter fun x => zad x r).filter Q = l.filter Q := by
    k_extra "ah"
    cases hx : Q x with
    | false => rfl
    | true => rw [zdc, hpq r x hp hx]; rfl
   rw [e1, e2]
  ·have hq : Q r = true := (h2 r (.head _)).resolve_left hp
   rw [List.filter_cons_of_neg hp, List.filter_cons_of_pos hq, zaI (l := l.filter Q)]
   refine (List.Perm.cons _ (ih.trans ?_)).trans List.perm_middle.symm
   have e1 : (l.filter fun x => zad x r).filter P = l.filter P := by
    k_extra "ah"
    cases hx : P x with
    | false => rfl
    | true => rw [hpq x r hx hq]; rfl
   have e2 : (l.filter fun x => zad x r).filter Q = (l.filter Q).filter fun x => zad x r := by
    rw [List.filter_filter, List.filter_filter]
    exact List.filter_congr fun x _ => Bool.and_comm _ _
   rw [e1, e2]
structure IsRun (as bs : List Int) (r : Run) : Prop where
 pos : 1 <= r.1
 ia : r.2.1 + r.1 <= as.length
 jb : r.2.2 + r.1 <= bs.length
 eq : ∀ q, q < r.1 -> as[r.2.1 + q]? = bs[r.2.2 + q]?
noncomputable def zau (alo ahi blo bhi : Nat) (r : Run) : Bool := decide (alo <= r.2.1 /\ r.2.1 + r.1 <= ahi /\ blo <= r.2.2 /\ r.2.2 + r.1 <= bhi)
structure Runs (as bs : List Int) (S : List Run) : Prop where
 sorted : S.Pairwise rlt
 mem : ∀ r, r ∈ S ↔ IsRun as bs r
noncomputable def gr (S : List Run) (alo ahi blo bhi : Nat) : List Run := zab (S.filter (zau alo ahi blo bhi))
section
variable {as bs : List Int} {S : List Run} {alo ahi blo bhi : Nat}
theorem zfO (h : Runs as bs S) (hd : ahi <= alo \/ bhi <= blo) : gr S alo ahi blo bhi = [] := by
 unfold gr
 rw [List.filter_eq_nil_iff.mpr]
 ·rfl
 ·intro r hr
  have := ((h.mem r).mp hr).pos
  simp only [zau, decide_eq_true_eq]
  lia
theorem zmo : ∀ (k i j : Nat), alo <= i -> blo <= j -> i + k < as.length -> j + k < bs.length -> (∀ q, q <= k -> as[i + q]? = bs[j + q]?) -> k + 1 <= cs as bs alo blo (i + k) (j + k)
 | 0, i, j, h1, h2, h3, h4, h5 => zfT (as := as) (bs := bs) (alo := alo) (blo := blo) (i := i) (j := j) h1 h2 h3 h4 (h5 0 (Nat.le_refl _))
 | k + 1, i, j, h1, h2, h3, h4, h5 => by
  have ih := zmo k i j h1 h2 (by exact Nat.lt_of_succ_lt h3) (by exact Nat.lt_of_succ_lt h4) fun q hq => h5 q (by exact Nat.le_add_right_of_le hq)
  have hs := zbo (as := as) (bs := bs) (alo := alo) (blo := blo) (i := i + (k + 1)) (j := j + (k + 1)) (by exact Nat.le_add_right_of_le h1) (by exact Nat.le_add_right_of_le h2) h3 h4 (h5 _ (Nat.le_refl _))
  rw [if_pos ⟨by exact Nat.zero_lt_succ (i.add k), by exact Nat.zero_lt_succ (j.add k)⟩] at hs
  rw [hs]
  have e1 : i + (k + 1) - 1 = i + k := by exact Nat.add_succ_sub_one i k
  have e2 : j + (k + 1) - 1 = j + k := by exact Nat.add_succ_sub_one j k
  rw [e1, e2]
  exact Nat.add_le_add_right ih 1
theorem zj4 {l : List Run} (hs : l.Pairwise rlt) {r : Run} (hr : r ∈ l) (hm : ∀ x ∈ l, x = r \/ rlt r x) : ∃ t, l = r :: t := by
 cases l with
 | nil => cases hr
 | cons h t =>
  rcases List.mem_cons.mp hr with rfl | hr
  ·exact ⟨t, rfl⟩
  ·have h1 := (List.pairwise_cons.mp hs).1 r hr
   rcases hm h (.head _) with rfl | h2
   ·exact ⟨t, rfl⟩
   ·exact (zaK h1 h2).elim
theorem zpV {I i K : Nat} (h : i + K = I + 1) : (I : Int) - (K : Int) + 1 = (i : Int) := by lia
theorem znb {I i q d i' : Nat} (h : i + (q + d + 1) = I + 1) (e : I = i' + d) : i + q = i' := Nat.add_right_cancel (m := d) ((Nat.add_assoc i q d).trans ((Nat.succ.inj h).trans e))
theorem zlN {alo I i K : Nat} (h : i + K = I + 1) (hle : K + alo <= I + 1) : alo <= i := Nat.le_of_add_le_add_left (a := K) (by rw [Nat.add_comm K i, h]; exact hle)
theorem zfg {i K : Nat} (h0 : 0 < K) (h : i + K <= i) : False := Nat.not_le_of_lt (Nat.lt_add_of_pos_right h0) h
theorem zch {i K x : Nat} (h : i + K <= x) : i <= x := Nat.le_trans (Nat.le_add_right _ _) h
theorem ziO {t C K I J i j i' j' : Nat} (hC : t + 1 <= C) (hq : C < K \/ C = K /\ (I < i' + t \/ I = i' + t /\ J <= j' + t)) (hi : i + K = I + 1) (hj : j + K = J + 1) (e : ¬ (t + 1 = K /\ i' = i /\ j' = j)) :
  t + 1 < K \/ K = t + 1 /\ (i < i' \/ i = i' /\ j < j') := by
 rcases hq with h | ⟨h, h'⟩
 ·exact .inl (Nat.lt_of_le_of_lt hC h)
 ·subst h
  rcases Nat.lt_or_eq_of_le hC with h | h
  ·exact .inl h
  ·subst h
   have hi := Nat.succ.inj hi
   have hj := Nat.succ.inj hj
   subst hi hj
   refine .inr ⟨rfl, h'.imp Nat.lt_of_add_lt_add_right fun h => ?_⟩
   have e1 := Nat.add_right_cancel h.1
   exact ⟨e1, Nat.lt_of_le_of_ne (Nat.le_of_add_le_add_right h.2) fun e2 => e ⟨rfl, e1.symm, e2.symm⟩⟩
theorem zlV (h : Runs as bs S) {x : Run} (hx : x ∈ S) (hi : zau alo ahi blo bhi x = true) : ∃ t, x.1 = t + 1 /\ t + 1 <= cs as bs alo blo (x.2.1 + t) (x.2.2 + t) /\ alo <= x.2.1 + t /\ x.2.1 + t < ahi /\ blo <= x.2.2 + t /\ x.2.2 + t < bhi := by
 have p := (h.mem x).mp hx
 have q := of_decide_eq_true hi
 have e := Nat.sub_add_cancel p.1
 refine ⟨x.1 - 1, e.symm, ?_, Nat.le_trans q.1 (Nat.le_add_right _ _), Nat.lt_of_lt_of_le (Nat.add_lt_add_left (Nat.sub_lt p.1 Nat.one_pos) _) q.2.1, Nat.le_trans q.2.2.1 (Nat.le_add_right _ _), Nat.lt_of_lt_of_le (Nat.add_lt_add_left (Nat.sub_lt p.1 Nat.one_pos) _) q.2.2.2⟩
 exact zmo (as := as) (bs := bs) (alo := alo) (blo := blo) (x.1 - 1) x.2.1 x.2.2 q.1 q.2.2.1 (Nat.lt_of_lt_of_le (Nat.add_lt_add_left (Nat.sub_lt p.1 Nat.one_pos) _) p.ia) (Nat.lt_of_lt_of_le (Nat.add_lt_add_left (Nat.sub_lt p.1 Nat.one_pos) _) p.jb) fun r hr => p.eq r (by rw [<- e]; exact Nat.lt_succ_of_le hr)
theorem zjM (h : Runs as bs S) {i j K : Nat} {t : List Run} (h0 : 1 <= K) (q1 : alo <= i) (q2 : i + K <= ahi) (q3 : blo <= j) (q4 : j + K <= bhi) (ht : S.filter (zau alo ahi blo bhi) = (K, i, j) :: t) :
  (gr S alo ahi blo bhi).Perm ((K, i, j) :: (gr S alo i blo j ++ gr S (i + K) ahi (j + K) bhi)) := by
 unfold gr
 rw [ht, zaI]
 refine List.Perm.cons _ ?_
 have htmem : ∀ x ∈ t, x ∈ S /\ zau alo ahi blo bhi x = true := fun x hx => List.mem_filter.mp (by rw [ht]; exact .tail _ hx)
 refine (zdl (zau alo i blo j) (zau (i + K) ahi (j + K) bhi) (fun x y hx hy => ?_) _ _ (Nat.le_refl _) (fun x hx => ?_) (fun x hx => ?_)).trans ?_
 ·simp only [zau, decide_eq_true_eq] at hx hy
  exact zag.mpr (.inl ⟨Nat.le_trans hx.2.1 (zch hy.1), Nat.le_trans hx.2.2.2 (zch hy.2.2.1)⟩)
 ·exact ((h.mem x).mp (htmem x (List.mem_filter.mp hx).1).1).pos
 ·refine cj2 (List.mem_filter.mp hx) ?_; intro b1 b2
  have b3 := (htmem x b1).2
  simp only [zau, decide_eq_true_eq] at b3 ⊢
  exact (zag.mp b2).imp (fun h => ⟨b3.1, h.1, b3.2.2.1, h.2⟩) fun h => ⟨h.1, b3.2.1, h.2, b3.2.2.2⟩
 ·have key : ∀ P : Run -> Bool, (∀ x, P x = true -> zau alo ahi blo bhi x = true) -> (∀ x, P x = true -> zad x (K, i, j) = true) -> (t.filter fun x => zad x (K, i, j)).filter P = S.filter P := by
   intro P q1 q2
   have e1 : S.filter P = (S.filter (zau alo ahi blo bhi)).filter P := by
    k_extra "ah"
    cases hx : P x with
    | false => rfl
    | true => rw [q1 x hx]; rfl
   have hnP : P (K, i, j) = false := by
    rw [Bool.eq_false_iff]
    intro q
    exact (zag.mp (q2 _ q)).elim (fun h => zfg h0 h.1) fun h => zfg h0 h.1
   rw [e1, ht, List.filter_cons_of_neg (by rw [hnP]; simp), List.filter_filter]
   refine List.filter_congr fun x hx => ?_
   cases hP : P x with
   | false => rfl
   | true => rw [q2 x hP]; rfl
  rw [key (zau alo i blo j) (fun x hx => by
    simp only [zau, decide_eq_true_eq] at hx ⊢
    exact ⟨hx.1, Nat.le_trans hx.2.1 (zch q2), hx.2.2.1, Nat.le_trans hx.2.2.2 (zch q4)⟩) (fun x hx => by
    simp only [zau, decide_eq_true_eq] at hx
    exact zag.mpr (.inl ⟨hx.2.1, hx.2.2.2⟩)),
   key (zau (i + K) ahi (j + K) bhi) (fun x hx => by
    simp only [zau, decide_eq_true_eq] at hx ⊢
    exact ⟨Nat.le_trans q1 (zch hx.1), hx.2.1, Nat.le_trans q3 (zch hx.2.2.1), hx.2.2.2⟩) (fun x hx => by
    simp only [zau, decide_eq_true_eq] at hx
    exact zag.mpr (.inr ⟨hx.1, hx.2.2.1⟩))]
theorem zne (h : Runs as bs S) (h2 : ahi <= as.length) (h4 : bhi <= bs.length) {i j I J K : Nat} (hK : cs as bs alo blo I J = K) (h0 : 1 <= K) (hi' : i + K = I + 1) (hj' : j + K = J + 1) (q1 : alo <= i) (q2 : i + K <= ahi) (q3 : blo <= j) (q4 : j + K <= bhi)
  (hall : ∀ x y, alo <= x /\ x < ahi /\ blo <= y /\ y < bhi -> cs as bs alo blo x y < K \/ cs as bs alo blo x y = K /\ (I < x \/ I = x /\ J <= y)) : ∃ t, S.filter (zau alo ahi blo bhi) = (K, i, j) :: t := by
 have hat : ∀ q, q < K -> as[i + q]? = bs[j + q]? := fun q hq => (Nat.exists_eq_add_of_lt hq).elim fun d e =>
  (zhK (as := as) (bs := bs) (alo := alo) (blo := blo) d (i := I) (j := J) (by rw [hK, e]; exact Nat.lt_succ_of_le (Nat.le_add_left _ _))).elim fun i2 z => z.elim fun j2 z => by
   rw [znb (e ▸ hi') z.1, znb (e ▸ hj') z.2.1]
   exact z.2.2.1.2.2.2.2
 refine zj4 (h.sorted.filter _) (List.mem_filter.mpr ⟨(h.mem _).mpr ⟨h0, Nat.le_trans q2 h2, Nat.le_trans q4 h4, hat⟩, decide_eq_true ⟨q1, q2, q3, q4⟩⟩) fun x hx => ?_
 refine (zlV h (List.mem_filter.mp hx).1 (List.mem_filter.mp hx).2).elim fun t a => ?_
 by_cases e : x = (K, i, j)
 ·exact .inl e
 ·refine .inr (cast (congrArg (fun z => rlt (K, i, j) (z, x.2)) a.1.symm) (ziO a.2.1 (hall _ _ a.2.2) hi' hj' fun r => e (Prod.ext (a.1.trans r.1) (Prod.ext r.2.1 r.2.2))))
theorem zoo (h : Runs as bs S) (_h1 : alo <= ahi) (h2 : ahi <= as.length) (_h3 : blo <= bhi) (h4 : bhi <= bs.length) {bi bj bk : Int} (hB : zaU as bs alo blo (fun i j => alo <= i /\ i < ahi /\ blo <= j /\ j < bhi) bi bj bk) :
  (bk = 0 /\ gr S alo ahi blo bhi = []) \/ ∃ i j k : Nat, bi = (i : Int) /\ bj = (j : Int) /\ bk = (k : Int) /\ 1 <= k /\ alo <= i /\ i + k <= ahi /\ blo <= j /\ j + k <= bhi /\
   (gr S alo ahi blo bhi).Perm ((k, i, j) :: (gr S alo i blo j ++ gr S (i + k) ahi (j + k) bhi)) := by
 refine hB.elim (fun q => .inl ⟨q.1, ?_⟩) fun q => .inr ?_
 ·unfold gr
  rw [List.filter_eq_nil_iff.mpr]
  ·rfl
  ·intro x hx hin
   refine (zlV h hx hin).elim fun t a => ?_
   have := a.2.1
   rw [q.2.2.2 _ _ a.2.2] at this
   exact absurd this (Nat.not_succ_le_zero _)
 ·refine q.elim fun I q => q.elim fun J q => ?_
  generalize hK : cs as bs alo blo I J = K at q
  have hle := hK ▸ (zqh (as := as) (bs := bs) (alo := alo) (blo := blo)) q.1.1 q.1.2.2.1
  refine (⟨I + 1 - K, Nat.sub_add_cancel (zch hle.1)⟩ : ∃ i, i + K = I + 1).elim fun i hi' => (⟨J + 1 - K, Nat.sub_add_cancel (zch hle.2)⟩ : ∃ j, j + K = J + 1).elim fun j hj' => ?_
  have q1 := zlN hi' hle.1
  have q2 : i + K <= ahi := hi'.symm ▸ q.1.2.1
  have q3 := zlN hj' hle.2
  have q4 : j + K <= bhi := hj'.symm ▸ q.1.2.2.2
  refine ⟨i, j, K, ?_, ?_, q.2.2.1, q.2.1, q1, q2, q3, q4, (zne h h2 h4 hK q.2.1 hi' hj' q1 q2 q3 q4 q.2.2.2.2.2).elim fun t ht => zjM h q.2.1 q1 q2 q3 q4 ht⟩
  ·rw [q.2.2.2.1, q.2.2.1]
   exact zpV hi'
  ·rw [q.2.2.2.2.1, q.2.2.1]
   exact zpV hj'
end
example : True := by
 k_with "u" => (refine bc fun hG9 => ?_; obtain ⟨k, i, j⟩ := r; refine hG9 ?_; clear hG9; refine bc fun hG9 => ?_; obtain ⟨k', i', j'⟩ := s; refine hG9 ?_; clear hG9)
 trivial
theorem zaN : ∀ (n : Nat) (l : List Run), l.length <= n -> l.Pairwise rlt -> (∀ x ∈ zab l, x ∈ l) /\ (zab l).Pairwise (fun x y => zad y x = true) /\ ∀ r ∈ l, r ∈ zab l \/ ∃ b ∈ zab l, rlt b r /\ zad r b = false
 | _, [], _, _ => ⟨fun x hx => (by simp [zab] at hx), by simp [zab], fun r hr => (nomatch hr)⟩
 | 0, _ :: _, h, _ => by simp at h
 | n + 1, r :: l, h, hp => by
  k_extra "aH"
  (refine cj2 (List.pairwise_cons.mp hp) ?_; intro hp1 hp2)
  (refine cj3 (zaN n (l.filter fun x => zad x r) (Nat.le_trans (List.length_filter_le _ _) hl) (hp2.filter _)) ?_; intro i1 i2 i3)
  rw [zaI]
  refine ⟨fun x hx => ?_, List.pairwise_cons.mpr ⟨fun x hx => (List.mem_filter.mp (i1 x hx)).2, i2⟩, fun x hx => ?_⟩
  ·rcases List.mem_cons.mp hx with rfl | hx
   ·exact .head _
   ·exact .tail _ (List.mem_filter.mp (i1 x hx)).1
  ·rcases List.mem_cons.mp hx with rfl | hx
   ·exact .inl (.head _)
   ·by_cases ha : zad x r = true
    ·rcases i3 x (List.mem_filter.mpr ⟨hx, ha⟩) with h1 | ⟨b, h1, h2⟩
     ·exact .inl (.tail _ h1)
     ·exact .inr ⟨b, .tail _ h1, h2⟩
    ·exact .inr ⟨r, .head _, hp1 x hx, by simpa using ha⟩
theorem zpg {l : List Run} (h : l.Pairwise fun x y => zad y x = true) : ∀ x ∈ l, ∀ y ∈ l, x = y \/ zad x y = true := by
 induction l with
 | nil => exact fun x hx => nomatch hx
 | cons r l ih =>
  (refine cj2 (List.pairwise_cons.mp h) ?_; intro h1 h2)
  intro x hx y hy
  rcases List.mem_cons.mp hx with e | hx'
  ·rcases List.mem_cons.mp hy with e' | hy'
   ·exact .inl (e.trans e'.symm)
   ·exact .inr (by rw [zdc, e]; exact h1 y hy')
  ·rcases List.mem_cons.mp hy with e' | hy'
   ·exact .inr (by rw [e']; exact h1 x hx')
   ·exact ih h2 x hx' y hy'
section
variable {as bs : List Int} {S : List Run}
theorem zfR (h : Runs as bs S) : gr S 0 as.length 0 bs.length = zab S := by
 unfold gr
 congr 1
 refine List.filter_eq_self.mpr fun x hx => ?_
 have h1 := (h.mem x).mp hx
 simp only [zau, decide_eq_true_eq]
 exact ⟨Nat.zero_le _, h1.ia, Nat.zero_le _, h1.jb⟩
theorem zjh (h : Runs as bs S) {x y : Run} (hx : x ∈ zab S) (hy : y ∈ zab S) (h1 : x.2.1 + x.1 = y.2.1) (h2 : x.2.2 + x.1 = y.2.2) : False := by
 (refine cj3 (zaN _ S (Nat.le_refl _) h.sorted) ?_; intro g1 g2 g3)
 have rx := (h.mem x).mp (g1 x hx)
 have ry := (h.mem y).mp (g1 y hy)
 have px := rx.pos
 have py := ry.pos
 have hz : ((x.1 + y.1, x.2.1, x.2.2) : Run) ∈ S := (h.mem _).mpr ⟨by dsimp only; exact Nat.le_add_right_of_le px, by have := ry.ia; dsimp only; lia, by have := ry.jb; dsimp only; lia, fun q hq => by
  dsimp only at hq ⊢
  by_cases hq' : q < x.1
  ·exact rx.eq q hq'
  ·have e := ry.eq (q - x.1) (by (clear h1 h2 px hq'; omega))
   rw [show x.2.1 + q = y.2.1 + (q - x.1) by lia, show x.2.2 + q = y.2.2 + (q - x.1) by (clear h1 px py hq e; omega)]
   exact e⟩
 have pw := zpg g2
 rcases g3 _ hz with h3 | ⟨b, hb, hlt, hap⟩
 ·rcases pw x hx _ h3 with e | e
  ·have := congrArg (·.1) e
   dsimp only at this
   lia
  ·have := zag.mp e
   dsimp only at this
   lia
 ·have hbk := ((h.mem b).mp (g1 b hb)).pos
  have hlt' : x.1 + y.1 <= b.1 := by
   unfold rlt at hlt
   dsimp only at hlt
   lia
  have e1 : zad x b = true := (pw x hx b hb).resolve_left (by rintro rfl; exact zfg py hlt')
  have e2 : zad y b = true := (pw y hy b hb).resolve_left (by rintro rfl; lia)
  rw [Bool.eq_false_iff] at hap
  refine hap (zag.mpr ?_)
  have a1 := zag.mp e1
  have a2 := zag.mp e2
  dsimp only
  lia
end
noncomputable def ble (r s : Run) : Prop := r.2.1 < s.2.1 \/ (r.2.1 = s.2.1 /\ (r.2.2 < s.2.2 \/ (r.2.2 = s.2.2 /\ r.1 <= s.1)))
theorem zeg {r s : Run} (h : ble r s) (h' : ble s r) : r = s := by
 k_extra "u"
 unfold ble at h h'
 dsimp only at h h'
 have e1 : k = k' := by lia
 have e2 : i = i' := by lia
 have e3 : j = j' := by lia
 rw [e1, e2, e3]
theorem zem {l₁ l₂ : List Run} (p : l₁.Perm l₂) (h1 : l₁.Pairwise ble) (h2 : l₂.Pairwise ble) : l₁ = l₂ :=
 List.Perm.eq_of_pairwise (fun _ _ _ _ h h' => zeg h h') h1 h2 p
noncomputable def zbW (st : Run × List Run) (b : Run) : Run × List Run :=
 if st.1.2.1 + st.1.1 = b.2.1 /\ st.1.2.2 + st.1.1 = b.2.2 then ((st.1.1 + b.1, st.1.2.1, st.1.2.2), st.2) else if st.1.1 ≠ 0 then (b, st.2 ++ [st.1]) else (b, st.2)
noncomputable def mend (st : Run × List Run) : List Run := if st.1.1 ≠ 0 then st.2 ++ [st.1] else st.2
theorem zgl : ∀ (l : List Run) (b : Run) (p : List Run), b.1 ≠ 0 -> (∀ x ∈ l, x.1 ≠ 0) -> (∀ x ∈ b :: l, ∀ y ∈ b :: l, ¬ (x.2.1 + x.1 = y.2.1 /\ x.2.2 + x.1 = y.2.2)) -> mend (l.foldl zbW (b, p)) = p ++ b :: l
 | [], b, p, hb, _, _ => if_pos hb
 | y :: l, b, p, hb, h, ht => by
  rw [List.foldl_cons]
  have e : zbW (b, p) y = (y, p ++ [b]) := by
   unfold zbW
   rw [if_neg (ht b (.head _) y (.tail _ (.head _))), if_pos hb]
  rw [e, zgl l y (p ++ [b]) (h y (.head _)) (fun x hx => h x (.tail _ hx)) (fun x hx z hz => ht x (.tail _ hx) z (.tail _ hz))]
  simp
theorem zi1 {l : List Run} (h : ∀ x ∈ l, x.1 ≠ 0) (ht : ∀ x ∈ l, ∀ y ∈ l, ¬ (x.2.1 + x.1 = y.2.1 /\ x.2.2 + x.1 = y.2.2)) : mend (l.foldl zbW ((0, 0, 0), [])) = l := by
 cases l with
 | nil => rfl
 | cons b l =>
  rw [List.foldl_cons]
  have e : zbW ((0, 0, 0), []) b = (b, []) := by
   refine bc fun hG9 => ?_; obtain ⟨k, i, j⟩ := b; refine hG9 ?_; clear hG9
   unfold zbW
   dsimp only
   by_cases hq : 0 + 0 = i /\ 0 + 0 = j
   ·rw [if_pos hq]
    have e1 : (0 : Nat) + k = k := by exact Nat.zero_add k
    have e2 : i = 0 := by exact Int.ofNat_eq_zero.mp (congrArg Nat.cast (id (Eq.symm hq.1)))
    have e3 : j = 0 := by exact Int.ofNat_eq_zero.mp (congrArg Nat.cast (id (Eq.symm hq.2)))
    rw [e1, e2, e3]
   ·rw [if_neg hq, if_neg (by simp)]
  rw [e, zgl l b [] (h b (.head _)) (fun x hx => h x (.tail _ hx)) ht]
  rfl
theorem zpq {as bs : List Int} {S ms : List Run} (h : Runs as bs S) (p : ms.Perm (gr S 0 as.length 0 bs.length)) : mend (ms.foldl zbW ((0, 0, 0), [])) = ms := by
 rw [zfR h] at p
 have g1 := (zaN _ S (Nat.le_refl _) h.sorted).1
 refine zi1 (fun x hx => ?_) fun x hx y hy => ?_
 ·have := ((h.mem x).mp (g1 x (p.mem_iff.mp hx))).pos
  exact Ne.symm (Nat.ne_of_lt this)
 ·intro q90
  (refine cj2 (q90) ?_; clear q90; intro h1 h2)
  exact zjh h (p.mem_iff.mp hx) (p.mem_iff.mp hy) h1 h2
noncomputable def zfW (as bs : List Int) (mv : Int) : Nat := min (as.length - mv.toNat) (bs.length - (-mv).toNat)
noncomputable def zah (as bs : List Int) (mv : Int) : List Int := ((List.range (zfW as bs mv)).filter fun k => as[mv.toNat + k]? = bs[(-mv).toNat + k]?).map fun k => ((mv.toNat + k : Nat) : Int)
theorem zhA {as bs : List Int} {mv x : Int} : x ∈ zah as bs mv ↔ ∃ k : Nat, k < zfW as bs mv /\ as[mv.toNat + k]? = bs[(-mv).toNat + k]? /\ x = ((mv.toNat + k : Nat) : Int) := by
 unfold zah
 simp only [List.mem_map, List.mem_filter, List.mem_range, decide_eq_true_eq]
 constructor
 ·rintro ⟨k, ⟨h1, h2⟩, rfl⟩; exact ⟨k, h1, h2, rfl⟩
 ·rintro ⟨k, h1, h2, rfl⟩; exact ⟨k, ⟨h1, h2⟩, rfl⟩
noncomputable def extF (al : List Int) (n : Nat) : Int -> Nat := Nat.rec (fun _ => 0) (fun _ ih st => if st ∈ al then ih (st + 1) + 1 else 0) n
theorem ziN (al : List Int) (n : Nat) : ∀ (st : Int) (q : Nat), q < extF al n st -> st + (q : Int) ∈ al := by
 induction n with
 | zero => exact fun _ _ h => absurd h (Nat.not_lt_zero _)
 | succ n ih =>
  intro st q h
  replace h : q < if st ∈ al then extF al n (st + 1) + 1 else 0 := h
  by_cases hm : st ∈ al
  ·rw [if_pos hm] at h
   cases q with
   | zero => exact (Int.add_zero st).symm ▸ hm
   | succ q =>
    rw [show st + ((q + 1 : Nat) : Int) = st + 1 + (q : Int) by lia]
    exact ih (st + 1) q (Nat.lt_of_succ_lt_succ h)
  ·rw [if_neg hm] at h
   exact absurd h (Nat.not_lt_zero _)
theorem zmz (al : List Int) (n : Nat) : ∀ (st : Int) (k : Nat), k <= n -> (∀ q : Nat, q < k -> st + (q : Int) ∈ al) -> k <= extF al n st := by
 induction n with
 | zero => exact fun _ _ h _ => h
 | succ n ih =>
  intro st k h ha
  cases k with
  | zero => exact Nat.zero_le _
  | succ k =>
   show k + 1 <= if st ∈ al then extF al n (st + 1) + 1 else 0
   rw [if_pos (Int.add_zero st ▸ ha 0 (Nat.zero_lt_succ k))]
   refine Nat.succ_le_succ (ih (st + 1) k (Nat.le_of_succ_le_succ h) fun q hq => ?_)
   have := ha (q + 1) (Nat.succ_lt_succ hq)
   rw [show st + 1 + (q : Int) = st + ((q + 1 : Nat) : Int) by lia]
   exact this
theorem zf6 (al : List Int) (n : Nat) : ∀ st : Int, extF al n st <= n := by
 induction n with
 | zero => exact fun _ => Nat.le_refl _
 | succ n ih =>
  intro st
  show (if st ∈ al then extF al n (st + 1) + 1 else 0) <= n + 1
  by_cases h : st ∈ al
  ·rw [if_pos h]
   exact Nat.succ_le_succ (ih _)
  ·rw [if_neg h]
   exact Nat.zero_le _
noncomputable def zbh (al : List Int) (mv : Int) : List Run := al.flatMap fun st => (List.range (extF al 64 st)).map fun q => (q + 1, st.toNat, (st - mv).toNat)
theorem znJ {i j b c : Nat} {mv : Int} (h : (b : Int) - c = mv) (h1 : (i : Int) - j = mv) : i + c = j + b := by lia
theorem zrp {i j b c : Nat} (e : i + c = j + b) (h : b = 0 \/ c = 0) : b <= i /\ c <= j :=
 h.elim (fun q => ⟨q ▸ Nat.zero_le _, by rw [q] at e; exact Nat.le.intro ((Nat.add_comm c i).trans e)⟩) fun q => ⟨by rw [q] at e; exact Nat.le.intro ((Nat.add_comm b j).trans e.symm), q ▸ Nat.zero_le _⟩
theorem zar {as bs : List Int} {mv x : Int} : x ∈ zah as bs mv ↔ ∃ i j : Nat, x = (i : Int) /\ (i : Int) - (j : Int) = mv /\ i < as.length /\ j < bs.length /\ as[i]? = bs[j]? := by
 have h := tons mv
 have hm := mins (as.length - mv.toNat) (bs.length - (-mv).toNat)
 rw [zhA]
 unfold zfW
 revert h hm
 generalize min (as.length - mv.toNat) (bs.length - (-mv).toNat) = n
 generalize mv.toNat = b
 generalize (-mv).toNat = c
 intro h hm
 constructor
 ·intro q90
  k_extra "l"
  (refine zaW (q90) ?_; clear q90; intro k h1 h2 q93; subst q93)
  k_extra "e"
  exact ⟨b + k, c + k, rfl, by (clear hm h1 h2; lia), Nat.add_lt_of_lt_sub' (Nat.lt_of_lt_of_le h1 hm.1), Nat.add_lt_of_lt_sub' (Nat.lt_of_lt_of_le h1 hm.2.1), h2⟩
 ·intro q90
  k_extra "l"
  (refine zbp (q90) ?_; clear q90; intro i j q92 h1 h2 h3 h4; subst q92)
  k_extra "e"
  have e := znJ h.1 h1
  refine (Nat.exists_eq_add_of_le (zrp e h.2).1).elim fun d hd => ?_
  subst hd
  have e2 : j = c + d := Nat.add_left_cancel (n := b) (by rw [Nat.add_comm b j, <- e, Nat.add_assoc, Nat.add_comm d])
  subst e2
  exact ⟨d, hm.2.2.elim (fun q => q ▸ Nat.lt_sub_of_add_lt (by rw [Nat.add_comm]; exact h2)) (fun q => q ▸ Nat.lt_sub_of_add_lt (by rw [Nat.add_comm]; exact h3)), h4, rfl⟩
theorem zcm {as bs : List Int} {mv : Int} {r : Run} (h64 : as.length <= 64) : r ∈ zbh (zah as bs mv) mv ↔ IsRun as bs r /\ (r.2.1 : Int) - r.2.2 = mv := by
 unfold zbh
 simp only [List.mem_flatMap, List.mem_map, List.mem_range]
 constructor
 ·intro q90
  k_extra "l"
  (refine zp7 (q90) ?_; clear q90; intro st hst q hq q94; subst q94)
  k_extra "e"
  k_extra "l"
  (refine zbp (zar.mp hst) ?_; intro i j q92 hm _ _ _; subst q92)
  k_extra "e"
  have ej : (i : Int) - mv = (j : Int) := by lia
  rw [ej, Int.toNat_natCast, Int.toNat_natCast]
  have hall : ∀ q', q' < q + 1 -> i + q' < as.length /\ j + q' < bs.length /\ as[i + q']? = bs[j + q']? := fun q' hq' => by
   (refine zbp (zar.mp (ziN _ 64 _ q' (Nat.lt_of_lt_of_le hq' hq))) ?_; intro i' j' e1 e2 h1 h2 h3)
   have : i' = i + q' := by clear ej h1 h2 h3 hq' hq hst hm e2; exact Int.ofNat_inj.mp (id (Eq.symm e1))
   have : j' = j + q' := by clear ej h1 h2 h3 hq' hq hst; lia
   subst i' j'
   exact ⟨h1, h2, h3⟩
  exact ⟨⟨Nat.succ_pos _, (hall q (Nat.lt_succ_self _)).1, (hall q (Nat.lt_succ_self _)).2.1, fun q' hq' => (hall q' hq').2.2⟩, hm⟩
 ·refine bc fun hG9 => ?_; obtain ⟨k, i, j⟩ := r; refine hG9 ?_; clear hG9
  intro q90
  k_extra "l"
  obtain ⟨⟨h1, h2, h3, h4⟩, h5⟩ := q90
  k_extra "e"
  dsimp only at h1 h2 h3 h4 h5
  have hal : ∀ q : Nat, q < k -> (i : Int) + (q : Int) ∈ zah as bs mv := fun q hq =>
   zar.mpr ⟨i + q, j + q, rfl, by clear h1 h2 h3 h4 hq; lia, Nat.lt_of_lt_of_le (Nat.add_lt_add_left hq _) h2, Nat.lt_of_lt_of_le (Nat.add_lt_add_left hq _) h3, h4 q hq⟩
  refine ⟨(i : Int), by simpa using hal 0 h1, k - 1, Nat.lt_of_lt_of_le (Nat.sub_lt h1 Nat.one_pos) (zmz (zah as bs mv) 64 (i : Int) k (Nat.le_trans (Nat.le_trans (Nat.le_add_left _ _) h2) h64) hal), ?_⟩
  rw [Nat.sub_add_cancel h1, Int.toNat_natCast, show (i : Int) - mv = (j : Int) by clear h1 h2 h3 h4 hal; lia, Int.toNat_natCast]
theorem zfm (as bs : List Int) (mv : Int) : (zah as bs mv).Pairwise (· < ·) := by
 unfold zah
 k_extra "aO"
 refine (List.Pairwise.filter _ List.pairwise_lt_range).imp fun {a b} h => ?_
 lia
theorem zgY {as bs : List Int} {mv : Int} : (zbh (zah as bs mv) mv).Nodup := by
 unfold zbh List.Nodup
 rw [List.pairwise_flatMap]
 refine ⟨fun st _ => ?_, ?_⟩
 ·rw [List.pairwise_map]
  refine List.Pairwise.imp (R := (· < ·)) (fun {a b} h e => ?_) List.pairwise_lt_range
  have := congrArg (·.1) e
  dsimp only at this
  lia
 ·refine List.Pairwise.imp_of_mem (fun {a b} ha hb h x hx y hy e => ?_) (zfm as bs mv)
  k_extra "l"
  (refine x_EA (List.mem_map.mp hx) ?_; intro q _ q92; subst q92)
  k_extra "e"
  k_extra "l"
  (refine x_EA (List.mem_map.mp hy) ?_; intro q' _ q92; subst q92)
  k_extra "e"
  have e2 := congrArg (·.2.1) e
  dsimp only at e2
  k_extra "l"
  (refine zgn (zar.mp ha) ?_; intro k _ q92 _; subst q92)
  k_extra "e"
  k_extra "l"
  (refine zgn (zar.mp hb) ?_; intro k' _ q92 _; subst q92)
  k_extra "e"
  exact absurd h (by rw [show k = k' from e2]; exact Int.lt_irrefl _)
noncomputable def zbD (as bs : List Int) (n : Nat) : List Run := (List.range n).flatMap fun (k : Nat) => zbh (zah as bs (1 - (bs.length : Int) + (k : Int))) (1 - (bs.length : Int) + (k : Int))
theorem ze9 (as bs : List Int) (n : Nat) : zbD as bs (n + 1) = zbD as bs n ++ zbh (zah as bs (1 - (bs.length : Int) + (n : Int))) (1 - (bs.length : Int) + (n : Int)) := by
 unfold zbD
 rw [List.range_succ, List.flatMap_append]
 simp
noncomputable def zae (as bs : List Int) : List Run := zbD as bs (as.length + bs.length - 1)
theorem zoH {k i j la lb : Nat} (h1 : 1 <= k) (h2 : i + k <= la) (h3 : j + k <= lb) : i + (lb - 1 - j) < la + lb - 1 := by
 rw [Nat.add_sub_assoc (Nat.le_trans h1 (Nat.le_trans (Nat.le_add_left _ _) h3))]
 exact Nat.add_lt_add_of_lt_of_le (Nat.lt_of_lt_of_le (Nat.lt_add_of_pos_right h1) h2) (Nat.sub_le _ _)
theorem zq9 {k i j lb : Nat} (h1 : 1 <= k) (h3 : j + k <= lb) : (i : Int) - (j : Int) = 1 - (lb : Int) + ((i + (lb - 1 - j) : Nat) : Int) := by lia
theorem za0 {as bs : List Int} {r : Run} (h64 : as.length <= 64) : r ∈ zae as bs ↔ IsRun as bs r := by
 unfold zae zbD
 simp only [List.mem_flatMap, List.mem_range]
 constructor
 ·intro q90
  (refine x_EA (q90) ?_; clear q90; intro k _ hk)
  exact ((zcm h64).mp hk).1
 ·intro h
  have h1 := h.pos
  have h2 := h.ia
  have h3 := h.jb
  exact ⟨_, zoH h1 h2 h3, (zcm h64).mpr ⟨h, zq9 h1 h3⟩⟩
theorem zao {as bs : List Int} (h64 : as.length <= 64) : (zae as bs).Nodup := by
 unfold zae zbD List.Nodup
 rw [List.pairwise_flatMap]
 refine ⟨fun _ _ => zgY, ?_⟩
 refine List.Pairwise.imp (R := (· < ·)) (fun {a b} h x hx y hy e => ?_) List.pairwise_lt_range
 have h1 := ((zcm h64).mp hx).2
 have h2 := ((zcm h64).mp hy).2
 rw [e] at h1
 (clear h64 e; lia)
noncomputable def zb4 (r : Run) : Run := (r.1, r.2.2, r.2.1)
theorem zds {as bs : List Int} {r : Run} : IsRun as bs (zb4 r) ↔ IsRun bs as r :=
 ⟨fun ⟨h1, h2, h3, h4⟩ => ⟨h1, h3, h2, fun q hq => (h4 q hq).symm⟩, fun ⟨h1, h2, h3, h4⟩ => ⟨h1, h3, h2, fun q hq => (h4 q hq).symm⟩⟩
theorem zc8 {S : List Run} (hn : S.Nodup) (h : S.Pairwise fun x y => ¬ rlt y x) : S.Pairwise rlt :=
 List.Pairwise.imp₂ (fun a b h1 h2 => (zh9 a b).elim id fun q => (q.elim h1 h2).elim) hn h
theorem zhS {as bs : List Int} {S : List Run} (h64 : as.length <= 64) (p : S.Perm (zae as bs)) (h : S.Pairwise fun x y => ¬ rlt y x) : Runs as bs S :=
 ⟨zc8 (p.symm.nodup (zao h64)) h, fun _ => p.mem_iff.trans (za0 h64)⟩
theorem zcg {as bs : List Int} {S : List Run} (h64 : as.length <= 64) (p : S.Perm ((zae as bs).map zb4)) (h : S.Pairwise fun x y => ¬ rlt y x) : Runs bs as S := by
 refine ⟨zc8 (p.symm.nodup ?_) h, fun r => p.mem_iff.trans ?_⟩
 ·unfold List.Nodup
  k_extra "aO"
  refine (zao h64).imp fun {a b} h1 e => h1 ?_
  have e1 := congrArg (·.1) e
  have e2 := congrArg (·.2.1) e
  have e3 := congrArg (·.2.2) e
  refine bc fun hG9 => ?_; obtain ⟨k, i, j⟩ := a; refine hG9 ?_; clear hG9
  refine bc fun hG9 => ?_; obtain ⟨k', i', j'⟩ := b; refine hG9 ?_; clear hG9
  simp only [zb4] at e1 e2 e3
  rw [e1, e2, e3]
 ·rw [List.mem_map]
  constructor
  ·intro q90
   k_extra "l"
   (refine x_EA (q90) ?_; clear q90; intro x hx q92; subst q92)
   k_extra "e"
   exact zds.mp ((za0 h64).mp hx)
  ·intro hr
   exact ⟨zb4 r, (za0 h64).mpr (zds.mpr hr), rfl⟩
structure Exc (G h' : Heap) (e : Addr) (c : Value) : Prop where
 keeps : ∀ b o, G.get? b = some o -> h'.get? b = some o
 new : G.get? e = none
 there : ∃ ob t, h'.get? e = some ob /\ ob.cls = .type "IndexError" /\ ob.data = .fields #[t, .none, c, .none, .bool false, .none]
theorem Exc.of {G h' : Heap} {e : Addr} (x : Heap.NewExc G h' e "IndexError") : Exc G h' e .none := ⟨x.keeps, x.new, x.there⟩
structure Seen (B h' : Heap) (l : List Env) (e T : Addr) (oe : Obj) (t c fl : Value) : Prop where
 stays : B.StaysIn h'
 fresh : B.get? e = none
 frames : h'.FunFrames B l
 exc : h'.get? e = some oe
 cls : oe.cls = .type "IndexError"
 data : oe.data = .fields #[t, .ref T, c, .none, .bool false, .none]
 freshT : B.get? T = none
 ne : T ≠ e
 trace : ∃ oT ts, h'.get? T = some oT /\ oT.data = .fields ts /\ ts[3]? = some fl
theorem Seen.traced {B h' : Heap} {l : List Env} {e T : Addr} {oe : Obj} {t c fl : Value} (x : Seen B h' l e T oe t c fl) : h'.TracedAtW B e (.type "IndexError") t fl := by
 (refine zeK (x.trace) ?_; intro oT ts hT hd h3)
 exact ⟨oe, _, T, oT, ts, x.exc, ⟨x.cls, rfl⟩, x.data, rfl, x.freshT, x.ne, hT, hd, h3⟩
theorem zjs {B : Heap} {e : Addr} {oe : Obj} {t c : Value} {Q : Unit -> Shared -> Prop}
  (hfr : A.frames = some (env :: outer)) (hl : s.heap.FunFrames B (env :: outer)) (hf : env.frame = some L)
  (he : s.heap.get? e = some oe) (hc : oe.cls = .type "IndexError") (hkb : B.StaysIn s.heap) (hen : B.get? e = none) (hd : oe.data = .fields #[t, .none, c, .none, .bool false, .none])
  (h : ∀ h' T oe', Seen B h' (env :: outer) e T oe' t c (rawInt L) -> s.heap.UpToSlots h' -> Q () { s with heap := h' }) :
  wpAny M A (noteFrame (.ref e) env) Q E s := by
 unfold noteFrame
 simp only [hf]
 refine wpAny_bind (wpAny_field he hd (x := .none) rfl ?_)
 rw [if_neg (by decide)]
 have hene : e ∉ (env :: outer).filterMap (·.frame) := fun hm => by
  (refine zpr (hl.mem hm) ?_; intro _ o ho hnf)
  rw [he] at ho; cases ho
  exact hnf _ hd
 refine wpAny_bind (wpAny_frameOf_fun hfr hl hf fun h₁ hs₁ => ?_)
 refine wpAny_bind (wpAny_entryPlaceOf fun pl hpl => ?_)
 unfold EntryCells.newEntry newFields
 refine wpAny_bind (wpAny_newObj_type ?_ (hpl.sizeOk5 _ _ _ _ _))
 have he₁ : h₁.get? e = some oe := (hs₁.2.1 e hene).trans he
 have kb₁ : B.StaysIn h₁ := fun b o hbo => (hs₁.2.1 b fun hm => by rw [(hl.mem hm).1] at hbo; cases hbo).trans (hkb b o hbo)
 generalize hpo : ({ cls := Value.type "traceback", dict := none, data := Data.fields ([Value.none, .ref L, .none, rawInt L, .none] ++ (if pl.isEmpty then List.replicate 6 Value.none else pl)).toArray } : Obj) = po
 have he₂ := Heap.get?_push_of_some (h := h₁) po he₁
 have hpd : po.data = Data.fields ([Value.none, .ref L, .none, rawInt L, .none] ++ (if pl.isEmpty then List.replicate 6 Value.none else pl)).toArray := by rw [<- hpo]
 have hpf : po.isFreed = false := Obj.isFreed_of_fields hpd
 refine wpAny_setField he₂ hd (show 1 < 6 by decide) (h _ h₁.objs.size (Obj.mapFields (·.setIfInBounds 1 (Value.ref h₁.objs.size)) oe) ?_ ?_)
 ·have hTe : h₁.objs.size ≠ e := Nat.ne_of_gt (Heap.lt_size he₁)
  have hd₃ := Obj.data_mapFields hd (·.setIfInBounds 1 (Value.ref h₁.objs.size))
  have he₃ := Heap.get?_update_self (Obj.mapFields (·.setIfInBounds 1 (Value.ref h₁.objs.size))) he₂ (Obj.isFreed_of_fields hd₃)
  have hT₃ := (Heap.get?_update_other (h₁.push po) (Obj.mapFields (·.setIfInBounds 1 (Value.ref h₁.objs.size))) (Ne.symm hTe)).trans (Heap.get?_push_size h₁ hpf)
  have keep : ∀ b o, b ≠ e -> h₁.get? b = some o -> ((h₁.push po).update e (Obj.mapFields (·.setIfInBounds 1 (Value.ref h₁.objs.size)))).get? b = some o := fun b o hbe hb => by
   rw [Heap.get?_update_other _ _ (Ne.symm hbe)]
   exact Heap.get?_push_of_some _ hb
  refine ⟨fun b o hbo => keep b o (fun q => by rw [q, hen] at hbo; cases hbo) (kb₁ b o hbo), hen, hl.of_keeps fun b o hb hnf => ?_, he₃, (Obj.cls_mapFields _ _).trans hc, ?_, kb₁.fresh, hTe, po, _, hT₃, hpd, ?_⟩
  ·refine bc fun hG9 => ?_; obtain ⟨sl, hs⟩ := hs₁.2.2 b o hb; refine hG9 ?_; clear hG9
   exact ⟨_, keep b _ (fun q => by rw [q, he] at hb; cases hb; exact hnf _ hd) hs, rfl⟩
  ·rw [hd₃]; rfl
  ·rcases hpl with rfl | ⟨_, _, _, _, _, _, _, rfl⟩ <;> simp
 ·intro b o hb hnf
  have hbe : b ≠ e := fun q => by rw [q, he] at hb; cases hb; exact hnf _ hd
  (refine x_E (hs₁.2.2 b o hb) ?_; intro sl hs)
  refine ⟨sl, ?_⟩
  rw [Heap.get?_update_other _ _ (Ne.symm hbe)]
  exact Heap.get?_push_of_some _ hs
theorem zcH {B : Heap} {l : List Env} {e T : Addr} {oe : Obj} {t c fl : Value} {Q : Unit -> Shared -> Prop} (x : Seen B s.heap l e T oe t c fl)
  (h : ∀ h', Seen B h' l e T oe t c .none -> s.heap.UpToSlots h' -> Q () { s with heap := h' }) : wpAny M A (setFlight (.ref e) none) Q E s := by
 k_extra "l"
 obtain ⟨x1, x2, x3, x4, x5, x6, x7, x8, oT, ts, hT, hdT, h3⟩ := x
 k_extra "e"
 have hsz3 : 3 < ts.size := (Array.getElem?_eq_some_iff.mp h3).1
 have other : ∀ b, b ≠ T -> (s.heap.update T (Obj.mapFields (·.setIfInBounds 3 Value.none))).get? b = s.heap.get? b := fun b hb => Heap.get?_update_other _ _ (Ne.symm hb)
 have noRecord : ∀ b o, s.heap.get? b = some o -> (∀ vs, o.data ≠ .fields vs) -> b ≠ T := fun b o hb hnf q => by
  rw [q, hT] at hb; cases hb; exact hnf ts hdT
 unfold setFlight
 refine wpAny_bind (wpAny_field x4 x6 (x := .ref T) rfl ?_)
 rw [if_pos (show (Value.ref T != Value.none) = true from by simp)]
 refine wpAny_setField hT hdT hsz3 (h _ ⟨fun b o hbo => (other b fun q => by rw [q, x7] at hbo; cases hbo).trans (x1 b o hbo), x2,
  x3.of_keeps fun b o hb hnf => ⟨o, (other b (noRecord b o hb hnf)).trans hb, rfl⟩, (other e (Ne.symm x8)).trans x4, x5, x6, x7, x8,
  _, _, Heap.get?_update_self _ hT (Obj.isFreed_of_fields (Obj.data_mapFields hdT _)), Obj.data_mapFields hdT _, by simp [hsz3]⟩ fun b o hb hnf => ⟨o.slots, (other b (noRecord b o hb hnf)).trans hb⟩)
section
variable {s' : Shared} {g g₀ G : Heap} {a e : Addr} {name : Str} {scope : Scope} {cd : Value}
 {b₀ : Stmt} {suite : List Stmt} {pos np : Pos} {rest : List ExceptHandler} {KF : Frag} {p : Program} {loose : List Str} {mb : Str -> Option Value} {c : Value}
theorem zbu (K : Below A₀ base outer g) (F : Fr g L G m) (hk : scope.kind = .function) :
  (∀ b o, G.get? b = some o -> b ∉ (envOf name scope L a cd :: outer).filterMap (·.frame) -> (hideAll G ((envOf name scope L a cd :: outer).filterMap (·.frame))).get? b = some o) /\
   ∀ h' : Heap, (∀ b o, G.get? b = some o -> h'.get? b = some o) -> h'.FunFrames (hideAll G ((envOf name scope L a cd :: outer).filterMap (·.frame))) (envOf name scope L a cd :: outer) := by
 refine ⟨fun b o q nm => hideAll_get _ q nm, fun h' hh => ?_⟩
 exact (funFrames_hide (K.push (name := name) (a := a) (cd := cd) F hk).frames fun env he b hb => List.mem_filterMap.mpr ⟨env, he, hb⟩).of_keeps fun b o hb _ => ⟨o, hh b o hb, rfl⟩
theorem zhM {h : Heap} {l : List Addr} {b : Addr} (hb : h.get? b = none) : (hideAll h l).get? b = none := by
 cases q : (hideAll h l).get? b with
 | none => rfl
 | some o => have := of_hideAll _ q; rw [hb] at this; cases this
theorem zgk {Q : Unit -> Shared -> Prop} (K : Below A₀ base outer g) (F : Fr g L G m) (hx : Exc G s'.heap e c) (hk : scope.kind = .function)
  (h : ∀ (h' : Heap) T oe t, Seen (hideAll G ((envOf name scope L a cd :: outer).filterMap (·.frame))) h' (envOf name scope L a cd :: outer) e T oe t c (rawInt L) -> G.UpToSlots h' -> Q () { s' with heap := h' }) :
  wpAny (model prog w) (A₀.deeper (envOf name scope L a cd)) (noteFrame (.ref e) (envOf name scope L a cd)) Q E s' := by
 (refine zeK (hx.there) ?_; intro ob t he hcl hd)
 (refine cj2 (zbu (name := name) (scope := scope) (a := a) (cd := cd) K F hk) ?_; intro sg ff)
 refine zjs (Around.frames_deeper K.stack) (ff _ hx.keeps) rfl he hcl (fun b o q => hx.keeps b o (of_hideAll _ q)) (zhM hx.new) hd fun h' T oe' S U => ?_
 exact h h' T oe' t S ((Heap.UpToSlots.of_keeps hx.keeps).trans U)
open PySem in
end
theorem zdP : entryFor table "proto.unchain" = some Builtin.«proto.unchain» := by first | exact entryFor_of_fast (by kernel_rfl) | exact entryFor_of_tree (by kernel_rfl)
theorem zde {α : Type} {Q : α -> Shared -> Prop} {e e1 : Addr} {o1 oe : Obj} {t1 T1 : Value} {vs : Array Value} (hh : A.handled = some (.ref e1)) (h1 : s.heap.get? e1 = some o1) (hd1 : o1.data = .fields #[t1, T1, .none, .none, .bool false, .none])
  (he : s.heap.get? e = some oe) (hd : oe.data = .fields vs) (hsz : 2 < vs.size) (hne : e1 ≠ e)
  (h : E (.ref e) { s with heap := s.heap.update e (Obj.mapFields (·.setIfInBounds 2 (.ref e1))) }) : wpAny (model prog w) A (raiseNew (.ref e) : Sem α) Q E s := by
 unfold raiseNew
 refine wpAny_bind (wpAny_handled ?_)
 rw [hh]
 dsimp only
 have hb : (Value.ref e1 != Value.ref e) = true := by
  simp only [bne_iff_ne, ne_eq, Value.ref.injEq]
  exact hne
 rw [if_pos hb]
 refine wpAny_bind (wpAny_holding (wpAny_runValue (codeAny_builtin zdP ?_)))
 show wpAny _ _ (field (.ref e1) 2 >>= _) _ _ s
 refine wpAny_bind (wpAny_field h1 hd1 (x := .none) rfl ?_)
 rw [if_pos (by decide)]
 refine wpAny_bind (wpAny_pure (wpAny_pure ?_))
 show wpAny _ _ (setField (.ref e) 2 (.ref e1) >>= fun _ => throw (Value.ref e)) _ _ s
 exact wpAny_bind (wpAny_setField he hd hsz (wpAny_throw h))
theorem za5 {α : Type} {msg : String} {Q : α -> Shared -> Prop} {e1 : Addr} {o1 : Obj} {t1 T1 : Value} (hh : A.handled = some (.ref e1)) (h1 : s.heap.get? e1 = some o1) (hd1 : o1.data = .fields #[t1, T1, .none, .none, .bool false, .none])
  (h : ∀ h' tk e, Exc s.heap h' e (.ref e1) -> E (.ref e) { s with heap := h', toks := tk }) :
  wpAny (model prog w) A (raiseErrorWords "IndexError" msg : Sem α) Q E s := by
 unfold raiseErrorWords
 refine wpAny_bind (wpAny_mkText (wpAny_bind ?_))
 unfold newExc newTuple
 refine wpAny_bind (wpAny_newObj_type ?_)
 refine wpAny_bind (m := firstArgMember _ _) (wpAny_of_eq (a := Value.none) (by simp only [firstArgMember, plainExc_IndexError.first]; rfl) ?_)
 rw [plainExc_IndexError.own]
 refine wpAny_newObj_type ?_
 have k1 := Heap.get?_push_of_some { cls := Value.type "tuple", data := Data.seq #[Value.str (Str.ofString msg) s.toks] } h1
 have k2 := Heap.get?_push_of_some { cls := Value.type "IndexError", data := .fields (#[Value.ref s.heap.objs.size, .none, .none, .none, .bool false, .none] ++ #[]) } k1
 refine zde hh k2 hd1 (Heap.get?_push_size _ rfl) rfl (show 2 < 6 by decide) (Nat.ne_of_lt (Heap.lt_size k1)) ?_
 have ne2 : ∀ b o, s.heap.get? b = some o -> b ≠ (s.heap.push { cls := Value.type "tuple", data := Data.seq #[Value.str (Str.ofString msg) s.toks] }).objs.size := fun b o hb =>
  Nat.ne_of_lt (Heap.lt_size (Heap.get?_push_of_some _ hb))
 have he2 := Heap.get?_push_size (s.heap.push { cls := Value.type "tuple", data := Data.seq #[Value.str (Str.ofString msg) s.toks] }) (o := { cls := Value.type "IndexError", data := .fields (#[Value.ref s.heap.objs.size, .none, .none, .none, .bool false, .none] ++ #[]) }) rfl
 refine h _ _ _ ⟨fun b o hb => ?_, Heap.get?_none_of_le (by simp), _, .ref s.heap.objs.size, Heap.get?_update_self _ he2 rfl, rfl, rfl⟩
 exact (Heap.get?_update_other _ _ (Ne.symm (ne2 b o hb))).trans (Heap.get?_push_of_some _ (Heap.get?_push_of_some _ hb))
theorem zdM {l : Addr} {z : Int} {t : Tok} {Q : Value -> Shared -> Prop} {e1 : Addr} {o1 : Obj} {t1 T1 : Value} (hh : A.handled = some (.ref e1)) (h1 : s.heap.get? e1 = some o1) (hd1 : o1.data = .fields #[t1, T1, .none, .none, .bool false, .none])
  (hl : s.heap.IsList l items) (hk : (items.size : Int) <= z) (hfit : Builtin.List.listFitsIndex z = true)
  (h : ∀ h' tk e, Exc s.heap h' e (.ref e1) -> E (.ref e) { s with heap := h', toks := tk }) : wpAny (model prog w) A (getItem (.ref l) (.int z t)) Q E s := by
 (refine ziD (id hl) ?_; intro o ho hc ne hd)
 unfold getItem
 try with_reducible refine wpAny_holding ?_
 first | refine wpAny_bind (wpAny_pure ?_) | skip
 refine wpAny_bind (wpAny_sequenceKey hl.typeIs (by decide) ?_)
 refine wpAny_bind (wpAny_callSpecial?_slot (name := Str.ofString "__getitem__") hl.typeIs slot_list_getitem
  (wpAny_call_entry slot_list_getitem hl.typeIs entry_list_getitem ?_ (args_list_getitem _ _)))
 show wpAny _ _ (Builtin.List.listSubscript? (.int z t) >>= _) _ _ s
 refine wpAny_bind (wpAny_listSubscript_int hfit ?_)
 clear hfit
 cases z with
 | negSucc j => exact absurd hk (by have := Int.negSucc_lt_zero j; exact Std.LawfulOrderOrd.isLE_compare_eq_false.mp rfl)
 | ofNat j =>
  have hx : items[j]? = none := Array.getElem?_eq_none (by have : (items.size : Int) <= (j : Int) := hk; exact Int.ofNat_le.mp hk)
  show wpAny _ _ ((seqItemAt l j >>= fun r => pure (r.map (j, ·))) >>= _) _ _ s
  refine wpAny_bind (wpAny_bind (wpAny_seqItemAt ho hd (wpAny_pure ?_)))
  rw [hx]
  first
   | exact wpAny_bind (wpAny_rule (za5 hh h1 hd1 h))
   | exact wpAny_bind (wpAny_rule (wpAny_bind (za5 hh h1 hd1 h)))
   | exact wpAny_bind (wpAny_bind (wpAny_rule (za5 hh h1 hd1 h)))
   | exact wpAny_rule (za5 hh h1 hd1 h)
theorem zgM {value slice : PySem.Expr} {l : Addr} {z : Int} {u : Tok} {Q : Value -> Shared -> Prop} {e1 : Addr} {o1 : Obj} {t1 T1 : Value} (hh : A.handled = some (.ref e1)) (h1 : s.heap.get? e1 = some o1) (hd1 : o1.data = .fields #[t1, T1, .none, .none, .bool false, .none])
  (hl : s.heap.IsList l items) (hk : (items.size : Int) <= z) (hhi : z < 1000000)
  (hE : ∀ h' tk e, Exc s.heap h' e (.ref e1) -> E (.ref e) { s with heap := h', toks := tk })
  (hs : subscripted slice false (.ref l) (.int z u) = operate [.ref l, .int z u] (getItem (.ref l) (.int z u))) :
  wpAny (model prog w) A (subscriptTail value slice (.ref l) (.int z u)) Q E s :=
 tail_any hl.typeIs slot_list_getitem.lookup (zdM hh h1 hd1 hl hk (fitsIndex_both (by lia) (by exact Int.lt_of_le_of_lt (Int.le_of_lt hhi) (by decide))) hE) hs
theorem zbr {value slice : PySem.Expr} {l : Addr} {z : Int} {u : Tok} {Q : Value -> Shared -> Prop} (hh : A.handled = none)
  (hl : s.heap.IsList l items) (hk : (items.size : Int) <= z) (hhi : z < 1000000)
  (hE : ∀ h' tk e, Exc s.heap h' e .none -> E (.ref e) { s with heap := h', toks := tk })
  (hs : subscripted slice false (.ref l) (.int z u) = operate [.ref l, .int z u] (getItem (.ref l) (.int z u))) :
  wpAny (model prog w) A (subscriptTail value slice (.ref l) (.int z u)) Q E s :=
 item_outK hh hl (.inr hk) (by lia) (by exact Int.lt_of_le_of_lt (Int.le_of_lt hhi) (by decide)) (fun h' tk e x => hE h' tk e (Exc.of x)) hs
section
variable {s' : Shared} {g g₀ G : Heap} {a e : Addr} {name : Str} {scope : Scope} {cd : Value}
 {b₀ : Stmt} {suite : List Stmt} {pos np : Pos} {rest : List ExceptHandler} {KF : Frag} {p : Program} {loose : List Str} {mb : Str -> Option Value} {c : Value}
noncomputable def zha (prog : Program) (w : World) (A : Around) (env : Env) (outer : List Env) (L : Addr) (G : Heap) (e : Addr) (s' : Shared) : Prop :=
 ∀ (Q : Unit -> Shared -> Prop) (E : Value -> Shared -> Prop), (∀ h' T oe t c, Seen (hideAll G ((env :: outer).filterMap (·.frame))) h' (env :: outer) e T oe t c (rawInt L) -> G.UpToSlots h' -> Q () { s' with heap := h' }) -> wpAny (model prog w) A (noteFrame (.ref e) env) Q E s'
theorem zaT (K : Below A₀ base outer g) (F : Fr g L G m) (hx : Exc G s'.heap e c) (hk : scope.kind = .function) : zha prog w (A₀.deeper (envOf name scope L a cd)) (envOf name scope L a cd) outer L G e s' :=
 fun _ _ h => zgk K F hx hk fun h' T oe t S U => h h' T oe t c S U
theorem zez {Q : Flow -> Shared -> Prop} (K : Below A₀ base outer g) (F : Fr g L G m) (N : News g L G news) (hx : zha prog w (A₀.deeper (envOf name scope L a cd)) (envOf name scope L a cd) outer L G e s') (XB : KF.In base) (TB : Top p loose mean mg mb base)
  (T0 : KtsTurn (outer.filterMap (·.frame)) g₀ g) (ex : nsIn KF mainGlobals ("IndexError" : Str) = some none)
  (k : ∀ h' g', KtsTurn (outer.filterMap (·.frame)) g₀ g' -> Fr g' L h' m -> News g' L h' news -> Below A₀ base outer g' -> KF.In g' -> Top p loose mean mg mb g' ->
   wpAny (model prog w) ((A₀.deeper (envOf name scope L a cd)).mark (some (.ref e))) (execs (b₀ :: suite) (envOf name scope L a cd)) Q E { s' with heap := h' })
  (hk : scope.kind = .function) (hx' : (envOf name scope L a cd).kindOf ("IndexError" : Str) = some .globalImplicit)
  (hE : PassesOwnAt (model prog w) ((A₀.deeper (envOf name scope L a cd)).mark (some (.ref e))) (A₀.deeper (envOf name scope L a cd)) (envOf name scope L a cd) E) :
  wpAny (model prog w) (A₀.deeper (envOf name scope L a cd)) (noteFrame (.ref e) (envOf name scope L a cd))
   (fun _ s₂ => wpAny (model prog w) (A₀.deeper (envOf name scope L a cd)) (setFlight (.ref e) none) (fun _ s₃ =>
    wpAny (model prog w) (A₀.deeper (envOf name scope L a cd)) (handleBy (.ref e) (envOf name scope L a cd) (.ExceptHandler (some (.Name ("IndexError" : Str) np)) none (b₀ :: suite) pos :: rest)) Q E s₃) E s₂) E s' := by
 have hBG := (zbu (name := name) (scope := scope) (a := a) (cd := cd) K F hk).1
 refine hx _ _ fun h₄ T oe t c S₄ U₄ => ?_
 refine zcH S₄ fun h₅ S₅ U₅ => ?_
 (refine zaW (kts_ground K F hBG S₅.stays (U₄.trans U₅)) ?_; intro g₅ T₅ F₅ K₅)
 have X₅ : KF.In g₅ := XB.keeps K₅.stays
 have P₅ : TopRead p loose mg mb g₅ := topRead_of (TB.keeps K₅.stays)
 refine wpAny_handleBy_builtin (X := "IndexError") (T := "IndexError") (b := true) PySem.F.isExc_IndexError PySem.F.notTuple_IndexError (by rw [isSubtype_type]; kernel_rfl)
  (name_B F₅ X₅ P₅ ex PyProof.Rows.Boot.«IndexError» (by decide) ⟨rfl, ⟨oe, S₅.exc, S₅.cls⟩, ?_⟩ hk hx' (by decide))
 refine zcH S₅ fun h₆ S₆ U₆ => ?_
 (refine zaW (kts_ground K F hBG S₆.stays ((U₄.trans U₅).trans U₆)) ?_; intro g₆ T₆ F₆ K₆)
 refine wpAny_passesOwnAt hE (k h₆ g₆ (T0.trans T₆) F₆ (fun q hq => ?_) K₆ (XB.keeps K₆.stays) (TB.keeps K₆.stays))
 have hq1 := N q hq
 have hnm : q.1 ∉ (envOf name scope L a cd :: outer).filterMap (·.frame) := fun hm => by
  rcases kts_mem hm with z | z
  ·exact hq1.2.1 z
  ·refine bc fun hG9 => ?_; obtain ⟨_, o', ho', _⟩ := K.frames.mem z; refine hG9 ?_; clear hG9
   rw [hq1.2.2] at ho'; cases ho'
 exact ⟨S₆.stays _ _ (hBG _ _ hq1.1 hnm), hq1.2.1, T₆.none_ _ hq1.2.2⟩
open PySem in
theorem zfn {Q : Flow -> Shared -> Prop} {f₀ : Stmt} {fs : List Stmt} (K : Below A₀ base outer g) (F : Fr g L G m) (N : News g L G news) (hx : Exc G s'.heap e c) (XB : KF.In base) (TB : Top p loose mean mg mb base)
  (hk : scope.kind = .function)
  (k : ∀ h' g' oe t T oT ts x, KtsTurn (outer.filterMap (·.frame)) g g' -> Fr g' L h' m -> oe.cls = .type "IndexError" -> oe.data = .fields #[t, .ref T, c, .none, .bool false, .none] -> oT.data = .fields ts -> ts[3]? = some x -> T ≠ e -> (∀ q ∈ news, q.1 ≠ e /\ q.1 ≠ T) -> News g' L h' ((e, oe) :: (T, oT) :: news) -> Below A₀ base outer g' -> KF.In g' -> Top p loose mean mg mb g' ->
   wpAny (model prog w) ((A₀.deeper (envOf name scope L a cd)).mark (some (.ref e))) (execs (f₀ :: fs) (envOf name scope L a cd))
    (fun g s₂ => match g with | .next => wpAny (model prog w) (A₀.deeper (envOf name scope L a cd)) (passOn "try.finally" (.ref e) (envOf name scope L a cd)) Q E s₂ | g => wpAny (model prog w) (A₀.deeper (envOf name scope L a cd)) (setFlight (.ref e) none) (fun _ s₃ => Q g s₃) E s₂)
    E { s' with heap := h' })
  (hE : PassesOwnAt (model prog w) ((A₀.deeper (envOf name scope L a cd)).mark (some (.ref e))) (A₀.deeper (envOf name scope L a cd)) (envOf name scope L a cd) E) :
  wpAny (model prog w) (A₀.deeper (envOf name scope L a cd)) (noteFrame (.ref e) (envOf name scope L a cd))
   (fun _ s₂ => FinallyRaised prog w (A₀.deeper (envOf name scope L a cd)) E (envOf name scope L a cd) (f₀ :: fs) Q (.ref e) s₂)
   (FinallyRaised prog w (A₀.deeper (envOf name scope L a cd)) E (envOf name scope L a cd) (f₀ :: fs) Q) s' := by
 have hBG := (zbu (name := name) (scope := scope) (a := a) (cd := cd) K F hk).1
 refine zgk K F hx hk fun h₄ T oe t S₄ U₄ => ⟨ref_ne_byPass _, ?_⟩
 refine wpAny_noteFrame_againW (L := L) rfl S₄.traced ?_
 refine zcH S₄ fun h₅ S₅ U₅ => ?_
 (refine zaW (kts_ground K F hBG S₅.stays (U₄.trans U₅)) ?_; intro g₅ T₅ F₅ K₅)
 have hnm : ∀ b, b ≠ L -> g.get? b = none -> b ∉ (envOf name scope L a cd :: outer).filterMap (·.frame) := fun b h1 h2 hm => by
  rcases kts_mem hm with z | z
  ·exact h1 z
  ·refine bc fun hG9 => ?_; obtain ⟨_, o', ho', _⟩ := K.frames.mem z; refine hG9 ?_; clear hG9
   rw [h2] at ho'; cases ho'
 have hge : g.get? e = none := kts_none F.keep hx.new
 have heL : e ≠ L := fun q => by
  (refine zck (F.ns) ?_; intro oL _ _ hL _)
  have := hx.new
  rw [q, hL] at this; cases this
 (refine zeK (S₅.trace) ?_; intro oT ts hT hdT h3)
 have hTm : T ∉ (envOf name scope L a cd :: outer).filterMap (·.frame) := fun hm => by
  (refine zpr (S₅.frames.mem hm) ?_; intro _ o' ho' hnf)
  rw [hT] at ho'
  cases ho'
  exact hnf _ hdT
 have hTL : T ≠ L := fun q => hTm (by rw [q]; exact List.mem_filterMap.mpr ⟨_, .head _, rfl⟩)
 have hgT : g.get? T = none := by
  cases q : g.get? T with
  | none => rfl
  | some o =>
   have h1 := hBG _ _ (F.keep _ _ q) hTm
   rw [S₅.freshT] at h1
   cases h1
 refine wpAny_passesOwnAt hE (k h₅ g₅ oe t T oT ts _ T₅ F₅ S₅.cls S₅.data hdT h3 S₅.ne (fun q hq => ⟨fun z => ?_, fun z => ?_⟩) (fun q hq => ?_) K₅ (XB.keeps K₅.stays) (TB.keeps K₅.stays))
 ·have h1 := (N q hq).1
  rw [z, hx.new] at h1
  cases h1
 ·have hq1 := N q hq
  have h1 := hBG _ _ hq1.1 (hnm _ hq1.2.1 hq1.2.2)
  rw [z, S₅.freshT] at h1
  cases h1
 k_extra "S"
 ·exact ⟨S₅.exc, heL, T₅.none_ _ hge⟩
 ·rcases List.mem_cons.mp hq with rfl | hq
  ·exact ⟨hT, hTL, T₅.none_ _ hgT⟩
  ·have hq1 := N q hq
   exact ⟨S₅.stays _ _ (hBG _ _ hq1.1 (hnm _ hq1.2.1 hq1.2.2)), hq1.2.1, T₅.none_ _ hq1.2.2⟩
theorem zol {α : Type} {Q : α -> Shared -> Prop} {what : String} {oe oT : Obj} {t : Value} {T : Addr} {ts : Array Value} {x : Value} (K : Below A₀ base outer g) (F : Fr g L s.heap m) (N : News g L s.heap ((e, oe) :: (T, oT) :: news)) (hk : scope.kind = .function)
  (hc : oe.cls = .type "IndexError") (hd : oe.data = .fields #[t, .ref T, c, .none, .bool false, .none]) (hdT : oT.data = .fields ts) (h3 : ts[3]? = some x) (hne : T ≠ e) (hoff : ∀ q ∈ news, q.1 ≠ e /\ q.1 ≠ T)
  (h : ∀ G h', Fr g L G m -> News g L G news -> zha prog w (A₀.deeper (envOf name scope L a cd)) (envOf name scope L a cd) outer L G e { s with heap := h' } -> E (.ref e) { s with heap := h' }) :
  wpAny (model prog w) (A₀.deeper (envOf name scope L a cd)) (PySem.passOn what (.ref e) (envOf name scope L a cd)) Q E s := by
 have ne := N _ (.head _)
 have nT := N _ (.tail _ (.head _))
 dsimp only at ne nT
 have hsz3 : 3 < ts.size := (Array.getElem?_eq_some_iff.mp h3).1
 obtain ⟨G, hG⟩ : ∃ G, G = hideAll s.heap [e, T] := ⟨_, rfl⟩
 have hin : ∀ b o, s.heap.get? b = some o -> b ≠ e -> b ≠ T -> G.get? b = some o := fun b o q h1 h2 => by
  rw [hG]
  exact hideAll_get _ q fun hm => by
   rcases List.mem_cons.mp hm with z | z
   ·exact h1 z
   ·exact h2 (List.mem_singleton.mp z)
 have hof : ∀ b o, G.get? b = some o -> s.heap.get? b = some o /\ b ≠ e /\ b ≠ T := fun b o q => by
  rw [hG] at q
  refine ⟨of_hideAll _ q, fun z => ?_, fun z => ?_⟩
  ·rw [z, hideAll_none _ (.head _)] at q; cases q
  ·rw [z, hideAll_none _ (.tail _ (.head _))] at q; cases q
 have FG : Fr g L G m := by
  (refine zck (F.ns) ?_; intro oL es ep hLg hLr)
  refine ⟨⟨oL, es, ep, hin _ _ hLg (Ne.symm ne.2.1) (Ne.symm nT.2.1), hLr⟩, fun b o q => hin b o (F.keep b o q) (fun z => ?_) (fun z => ?_), F.above⟩
  ·rw [z, ne.2.2] at q; cases q
  ·rw [z, nT.2.2] at q; cases q
 have NG : News g L G news := fun q hq => ⟨hin _ _ (N q (.tail _ (.tail _ hq))).1 (hoff q hq).1 (hoff q hq).2, (N q (.tail _ (.tail _ hq))).2⟩
 have ff := (zbu (name := name) (scope := scope) (a := a) (cd := cd) K FG hk).2
 unfold PySem.passOn
 refine wpAny_bind (wpAny_field ne.1 hd (x := .ref T) rfl ?_)
 rw [if_neg (show ¬ ((Value.ref T == Value.none) = true) from by simp)]
 have hfin : ∀ h', h' = s.heap.update T (Obj.mapFields (·.setIfInBounds 3 (rawInt L))) -> E (.ref e) { s with heap := h' } := by
  intro h' eh
  have other : ∀ b, b ≠ T -> h'.get? b = s.heap.get? b := fun b hb => by rw [eh]; exact Heap.get?_update_other _ _ (Ne.symm hb)
  have hkeep : ∀ b o, G.get? b = some o -> h'.get? b = some o := fun b o q => by
   (refine cj3 (hof b o q) ?_; intro q1 q2 q3)
   rw [other b q3]; exact q1
  have hGe : ∀ l, (hideAll G l).get? e = none := fun l => by
   cases q : (hideAll G l).get? e with
   | none => rfl
   | some o => exact absurd rfl (hof _ _ (of_hideAll _ q)).2.1
  have hGT : ∀ l, (hideAll G l).get? T = none := fun l => by
   cases q : (hideAll G l).get? T with
   | none => rfl
   | some o => exact absurd rfl (hof _ _ (of_hideAll _ q)).2.2
  refine h G h' FG NG fun Q' E' k => ?_
  have S : Seen (hideAll G ((envOf name scope L a cd :: outer).filterMap (·.frame))) h' (envOf name scope L a cd :: outer) e T oe t c (rawInt L) :=
   ⟨fun b o q => hkeep b o (of_hideAll _ q), hGe _, ff h' hkeep, (other e (Ne.symm hne)).trans ne.1, hc, hd, hGT _, hne, by
    rw [eh]
    exact ⟨_, _, Heap.get?_update_self _ nT.1 (Obj.isFreed_of_fields (Obj.data_mapFields hdT _)), Obj.data_mapFields hdT _, by simp [hsz3]⟩⟩
  refine wpAny_noteFrame_againW (L := L) rfl S.traced ?_
  exact k h' T oe t c S (Heap.UpToSlots.of_keeps hkeep)
 have hset : wpAny (model prog w) (A₀.deeper (envOf name scope L a cd)) (setFlight (.ref e) (envOf name scope L a cd).frame) (fun _ s₂ => E (.ref e) s₂) E s := by
  unfold setFlight
  refine wpAny_bind (wpAny_field ne.1 hd (x := .ref T) rfl ?_)
  rw [if_pos (show (Value.ref T != Value.none) = true from by simp)]
  exact wpAny_setField nT.1 hdT hsz3 (hfin _ rfl)
 first
  | exact wpAny_bind (wpAny_pure (wpAny_bind (wpAny_mono hset (fun _ _ q => wpAny_throw q) fun _ _ q => q)))
  | exact wpAny_bind (wpAny_mono hset (fun _ _ q => wpAny_throw q) fun _ _ q => q)
end
example : True := by
 k_with "t" => (k_extra "l"; (refine x_EA (List.mem_map.mp hd) ?_; intro x _ q92; subst q92); k_extra "e")
 trivial
noncomputable def tdat (l : List Int) : Dat := .tuple (l.map .int)
theorem zgb {vs : List Value} {ns : List Int} (h : IntsAre vs ns) : DatAll news vs (ns.map .int) := by
 induction h with
 | nil => exact .nil
 | cons n t _ ih => exact .cons (.int n t) ih
theorem zb7 {d : Dat} {ds : List Dat} {vs : List Value} (h : DatAll news vs (d :: ds)) : ∃ v r, vs = v :: r /\ DatIn news v d /\ DatAll news r ds := by cases h with | cons a b => exact ⟨_, _, rfl, a, b⟩
theorem zf0 {vs : List Value} (h : DatAll news vs []) : vs = [] := by cases h; rfl
theorem zof {v : Value} {n : Int} (h : DatIn news v (.int n)) : ∃ t, v = .int n t := by cases h; exact ⟨_, rfl⟩
theorem zjx {vs : List Value} {ns : List Int} (h : DatAll news vs (ns.map .int)) : IntsAre vs ns := by
 induction ns generalizing vs with
 | nil => exact zf0 h ▸ .nil
 | cons n ns ih => exact (zb7 h).elim fun v q => q.elim fun r q => (zof q.2.1).elim fun t e => by rw [q.1, e]; exact .cons _ _ (ih q.2.2)
theorem zcn {vs : List Value} {n : Int} {ns : List Int} (h : IntsAre vs (n :: ns)) : ∃ t r, vs = .int n t :: r /\ IntsAre r ns := by
 cases h with | cons n t r => exact ⟨t, _, rfl, r⟩
theorem zjc {vs : List Value} (h : IntsAre vs []) : vs = [] := by cases h; rfl
theorem zqF {vs : List Value} {i j : Int} (h : IntsAre vs [i, j]) : ∃ t u, vs = [.int i t, .int j u] :=
 (zcn h).elim fun t q => q.elim fun r q => (zcn q.2).elim fun u z => z.elim fun r' z => ⟨t, u, by rw [q.1, z.1, zjc z.2]⟩
theorem zrF {vs : List Value} {i j k : Int} (h : IntsAre vs [i, j, k]) : ∃ t u w, vs = [.int i t, .int j u, .int k w] :=
 (zcn h).elim fun t q => q.elim fun r q => (zqF q.2).elim fun u z => z.elim fun w z => ⟨t, u, w, by rw [q.1, z]⟩
theorem ints4 {vs : List Value} {i j k l : Int} (h : IntsAre vs [i, j, k, l]) : ∃ t u w z, vs = [.int i t, .int j u, .int k w, .int l z] :=
 (zcn h).elim fun t q => q.elim fun r q => (zrF q.2).elim fun u z => z.elim fun w z => z.elim fun x z => ⟨t, u, w, x, by rw [q.1, z]⟩
theorem zaw {v : Value} {l : List Int} (h : DatIn news v (tdat l)) : ∃ a vs n, v = .ref a /\ (a, ({ cls := .type "tuple", data := .seq vs.toArray n } : Obj)) ∈ news /\ IntsAre vs l := by
 unfold tdat at h
 cases h with
 | tuple hm r => exact ⟨_, _, _, rfl, hm, zjx r⟩
theorem zbm {v : Value} {i j k : Int} (h : DatIn news v (tdat [i, j, k])) : ∃ a n t u w, v = .ref a /\ (a, ({ cls := .type "tuple", data := .seq #[.int i t, .int j u, .int k w] n } : Obj)) ∈ news :=
 (zaw h).elim fun a q => q.elim fun vs q => q.elim fun n q => (zrF q.2.2).elim fun t e => e.elim fun u e => e.elim fun w e => ⟨a, n, t, u, w, q.1, e ▸ q.2.1⟩
theorem zeZ {v : Value} {i j : Int} (h : DatIn news v (tdat [i, j])) : ∃ a n t u, v = .ref a /\ (a, ({ cls := .type "tuple", data := .seq #[.int i t, .int j u] n } : Obj)) ∈ news :=
 (zaw h).elim fun a q => q.elim fun vs q => q.elim fun n q => (zqF q.2.2).elim fun t e => e.elim fun u e => ⟨a, n, t, u, q.1, e ▸ q.2.1⟩
theorem zdi {α : Type} {f : α -> Dat} {vs : List Value} {l : List α} (h : DatAll news vs (l.map f)) {i : Nat} {x : α} {v : Value} (hx : l[i]? = some x) (hv : vs[i]? = some v) : DatIn news v (f x) := by
 have hi : i < l.length := (List.getElem?_eq_some_iff.mp hx).1
 k_extra "l"
 obtain ⟨v', h1, h2⟩ := h.get (k := i) (by rw [List.length_map]; exact hi)
 k_extra "e"
 rw [h1] at hv
 rw [List.getElem_map] at h2
 rw [List.getElem?_eq_getElem hi] at hx
 rw [<- Option.some.inj hv, <- Option.some.inj hx]
 exact h2
theorem zbi (l : List Int) : kqdOk 8 (tdat l) = true := by
 show (l.map Dat.int).all (kqdOk 7) = true
 rw [List.all_map, List.all_eq_true]
 intro _ _
 rfl
theorem zju {l l' : List Int} : tdat l = tdat l' ↔ l = l' := by
 unfold tdat
 rw [Dat.tuple.injEq]
 constructor
 ·intro h
  induction l generalizing l' with
  | nil => cases l' with
   | nil => rfl
   | cons _ _ => cases h
  | cons a l ih => cases l' with
   | nil => cases h
   | cons b l' =>
    rw [List.map_cons, List.map_cons, List.cons.injEq, Dat.int.injEq] at h
    rw [h.1, ih h.2]
 ·rintro rfl; rfl
theorem ziw {a : Addr} {vs : List Value} {ns : List Int} {k : Nat} {x : Int} {t : Tok} {b : Bool} {Q : Value -> Shared -> Prop}
  (N : News h₀ L s.heap news) (ma : (a, W.listOf vs.toArray k) ∈ news) (hi : IntsAre vs ns) (hb : b = true ↔ x ∈ ns) (hu : A.units + 64 < cLine) (h : Q (.bool b) s) : wpAny (model prog w) A (compareOp .In (.int x t) (.ref a)) Q E s := by
 classical
 refine kqd_isIn N ma rfl rfl (zgb (news := []) hi) (fun p h => nomatch h) (DatIn.int (news := []) x t) (fun p h => nomatch h) ?_ rfl hu ?_
 ·intro d hd
  k_extra "t"
  rfl
 ·have e : decide (Dat.int x ∈ ns.map Dat.int) = b := by
   have h1 : Dat.int x ∈ ns.map Dat.int ↔ x ∈ ns := ⟨fun h => (by obtain ⟨y, hy, e⟩ := List.mem_map.mp h; cases e; exact hy), fun h => List.mem_map.mpr ⟨x, h, rfl⟩⟩
   cases b with
   | true => exact decide_eq_true (h1.mpr (hb.mp rfl))
   | false => exact decide_eq_false fun q => absurd (hb.mpr (h1.mp q)) (by simp)
  rw [e]
  exact h
theorem zhq {a c : Addr} {n₁ n₂ : List (Addr × Obj)} {vs ws : List Value} {ds es : List Dat} {k k' : Nat} {b : Bool} {Q : Value -> Shared -> Prop}
  (N : News h₀ L s.heap news) (ma : (a, W.listOf vs.toArray k) ∈ news) (da : DatAll n₁ vs ds) (s1 : ∀ p ∈ n₁, p ∈ news) (mc : (c, W.listOf ws.toArray k') ∈ news) (dc : DatAll n₂ ws es) (s2 : ∀ p ∈ n₂, p ∈ news)
  (ha : ∀ d ∈ ds, kqdOk 8 d = true) (hc : ∀ d ∈ es, kqdOk 8 d = true) (hb : b = true ↔ ds = es) (hu : A.units + 64 < cLine) (h : Q (.bool b) s) : wpAny (model prog w) A (compareOp .Eq (.ref a) (.ref c)) Q E s := by
 classical
 refine kqd_eq N ma rfl rfl da s1 mc rfl rfl dc s2 ha hc hu ?_
 have e : decide (ds = es) = b := by
  cases b with
  | true => exact decide_eq_true (hb.mp rfl)
  | false => exact decide_eq_false fun q => absurd (hb.mpr q) (by simp)
 rw [e]
 exact h
theorem zfh {a c : Addr} {n₁ n₂ : List (Addr × Obj)} {vs ws : List Value} {ds es : List Dat} {k k' : Nat} {b : Bool} {Q : Value -> Shared -> Prop}
  (N : News h₀ L s.heap news) (ma : (a, W.listOf vs.toArray k) ∈ news) (da : DatAll n₁ vs ds) (s1 : ∀ p ∈ n₁, p ∈ news) (mc : (c, W.listOf ws.toArray k') ∈ news) (dc : DatAll n₂ ws es) (s2 : ∀ p ∈ n₂, p ∈ news)
  (ha : ∀ d ∈ ds, kqdOk 8 d = true) (hc : ∀ d ∈ es, kqdOk 8 d = true) (hb : b = true ↔ ds ≠ es) (hu : A.units + 64 < cLine) (h : Q (.bool b) s) : wpAny (model prog w) A (compareOp .NotEq (.ref a) (.ref c)) Q E s := by
 classical
 refine kqd_ne N ma rfl rfl da s1 mc rfl rfl dc s2 ha hc hu ?_
 have e : (!decide (ds = es)) = b := by
  cases b with
  | true => rw [decide_eq_false (hb.mp rfl)]; rfl
  | false =>
   by_cases q : ds = es
   ·rw [decide_eq_true q]; rfl
   ·exact absurd (hb.mpr q) (by simp)
 rw [e]
 exact h
section
variable {x : Str} {body : List Stmt} {Q : Flow -> Shared -> Prop}
theorem znm {σ : Type} {l : Addr} {vs : List Value} {nn : Nat} (ps : σ -> List (Str × Value)) (Led : σ -> List (Addr × Obj)) (stored : List Str) (Inv : Nat -> σ -> Prop) (Brk : σ -> Prop) (c₀ : σ)
  (hh : A.handled = none) (hl : (l, W.listOf vs.toArray nn) ∈ rest) (F : Fr h₀ env.locals s.heap m₀) (N : News h₀ env.locals s.heap (Led c₀ ++ rest))
  (hoff : ∀ p ∈ rest, ∀ q ∈ Led c₀, p.1 ≠ q.1) (hk : ∀ p ∈ ps c₀, m₀ p.1 = some p.2) (hi : Inv 0 c₀)
  (turn : ∀ (i : Nat) (v : Value) (c : σ) (u : Str -> Option Value) h tk own, vs[i]? = some v -> Inv i c -> (∀ p ∈ own, ∀ q ∈ Led c, p.1 ≠ q.1) -> (∀ p ∈ rest, p ∈ own) ->
   Fr h₀ env.locals h (fun y => if y = x then some v else kstB (fun z => if stored.contains z then u z else m₀ z) (ps c) y) -> News h₀ env.locals h (Led c ++ own) ->
   wpAny (model prog w) A (execs body env) (LPost h₀ env.locals ps Led x stored m₀ (Inv (i + 1)) own { s with heap := h, toks := tk } Brk (fun v s' => Q (.ret v) s')) E { s with heap := h, toks := tk })
  (done : ∀ (c : σ) (u : Str -> Option Value) h tk, (Inv vs.length c \/ Brk c) -> (∀ p ∈ rest, ∀ q ∈ Led c, p.1 ≠ q.1) -> Fr h₀ env.locals h (fun y => if y = x then u y else kstB (fun z => if stored.contains z then u z else m₀ z) (ps c) y) -> News h₀ env.locals h (Led c ++ rest) -> Q .next { s with heap := h, toks := tk }) :
  wpAny (model prog w) A (pyIter (.ref l)) (fun it s₂ => LoopAtV prog w A h₀ env x body Q E it s₂) E s := by
 refine kdl_iter (fun i => LJ ps Led rest x stored m₀ (Inv i)) hh (List.mem_append_right (Led c₀) hl) F N ⟨c₀, rfl, hoff, hk, fun _ _ _ _ => rfl, hi⟩ ?_ fun m₁ nx h tk hJ F N => zc1 hJ F N fun c u hI ho F N => done c u h tk (.inl hI) ho F N
 intro i v m₁ nx h tk own hik ho _ hJ F₁ N₁
 refine zdS (InvPostG h₀ env.locals (fun m' nx => (l, W.listOf vs.toArray nn) ∈ nx /\ LJ ps Led rest x stored m₀ (Inv (i + 1)) m' nx) own { s with heap := h, toks := tk } Q) hJ (zhR ho) F₁ N₁ (fun c u own' hI => turn i v c u h tk own' hik hI) (fun _ _ h => h) (fun c u h tk hB => done c u h tk (.inr hB)) fun h tk m' news' nx hJ F N hn ho hf => ?_
 have hl' : (l, W.listOf vs.toArray nn) ∈ nx := hJ.elim fun c q => q.1 ▸ List.mem_append_right _ hl
 exact ⟨InvEndG.intro F N ⟨hl', hJ⟩ (zca hf) hn ho, InvEndG.intro F N ⟨hl', hJ⟩ (zca hf) hn ho⟩
theorem zc2 {h : Heap} {ps : List (Str × Value)} {stored : List Str} {m₁ : Str -> Option Value} (h1 : ∀ p ∈ ps, m₁ p.1 = some p.2) (h2 : ∀ z, (∀ p ∈ ps, z ≠ p.1) -> stored.contains z = false -> m₁ z = m₀ z)
  (F : Fr h₀ L h m₁) : Fr h₀ L h (kstB (fun z => if stored.contains z then m₁ z else m₀ z) ps) := by
 have em : kstB (fun z => if stored.contains z then m₁ z else m₀ z) ps = m₁ := by
  funext y
  refine kstB_eq h1 fun hn => ?_
  by_cases hc : stored.contains y
  ·rw [if_pos hc]
  ·rw [if_neg hc]
   exact (h2 y hn (by simpa using hc)).symm
 rw [em]
 exact F
noncomputable def WhI {σ : Type} (h₀ : Heap) (L : Addr) (ps : σ -> List (Str × Value)) (Led : σ -> List (Addr × Obj)) (rest : List (Addr × Obj)) (stored : List Str) (m₀ : Str -> Option Value) (Inv : σ -> Prop) (ms : σ -> Nat) (s : Shared) (n : Nat) (s' : Shared) : Prop :=
 ∃ c h tk m, (n = ms c /\ s' = { s with heap := h, toks := tk }) /\ Inv c /\ (∀ p ∈ rest, ∀ q ∈ Led c, p.1 ≠ q.1) /\ (∀ p ∈ ps c, m p.1 = some p.2) /\ (∀ z, (∀ p ∈ ps c, z ≠ p.1) -> stored.contains z = false -> m z = m₀ z) /\ Fr h₀ L h m /\ News h₀ L h (Led c ++ rest)
theorem zfS {σ : Type} {test : Expr} {pos : Pos} (ps : σ -> List (Str × Value)) (Led : σ -> List (Addr × Obj)) (stored : List Str) (Inv : σ -> Prop) (ms : σ -> Nat) (c₀ : σ) (hx : stored.contains x = true)
  (F : Fr h₀ env.locals s.heap m₀) (N : News h₀ env.locals s.heap (Led c₀ ++ rest))
  (hoff : ∀ p ∈ rest, ∀ q ∈ Led c₀, p.1 ≠ q.1) (hk : ∀ p ∈ ps c₀, m₀ p.1 = some p.2) (hi : Inv c₀)
  (turn : ∀ (c : σ) (u : Str -> Option Value) h tk, Inv c -> (∀ p ∈ rest, ∀ q ∈ Led c, p.1 ≠ q.1) ->
   Fr h₀ env.locals h (kstB (fun z => if stored.contains z then u z else m₀ z) (ps c)) -> News h₀ env.locals h (Led c ++ rest) ->
   wpAny (model prog w) A (isTrue test env (eval test env)) (fun b s₂ => if b then wpAny (model prog w) A (execs body env) (LPost h₀ env.locals ps Led x stored m₀ (fun c' => Inv c' /\ ms c' < ms c) rest { s with heap := h, toks := tk } (fun _ => False) (fun v s' => Q (.ret v) s')) E s₂ else Q .next s₂) E { s with heap := h, toks := tk })
  (hE : PassesOwn (model prog w) A env E) :
  wpAny (model prog w) A (exec (.While test body [] pos) env) Q E s := by
 refine wpAny_While (codeAny_whileLoop (WhI h₀ env.locals ps Led rest stored m₀ Inv ms s) ?_ (ms c₀) ⟨c₀, s.heap, s.toks, m₀, ⟨rfl, rfl⟩, hi, hoff, hk, fun _ _ _ => rfl, F, N⟩)
 intro N' s' q92
 refine q92.elim fun c q => q.elim fun h q => q.elim fun tk q => q.elim fun m q => ?_
 rw [q.1.1, q.1.2]
 replace q := q.2
 refine wpAny_mono (turn c m h tk q.1 q.2.1 (zc2 q.2.2.1 q.2.2.2.1 q.2.2.2.2.1) q.2.2.2.2.2) (fun b s₂ hb => ?_) hE
 cases b with
 | false => exact wpAny_execs_nil hb
 | true =>
  refine wpAny_mono hb (fun f s₃ hf => ?_) hE
  have fin : LEnd h₀ env.locals ps Led x stored m₀ (fun c' => Inv c' /\ ms c' < ms c) rest { s with heap := h, toks := tk } s₃ -> ∃ n', n' < ms c /\ WhI h₀ env.locals ps Led rest stored m₀ Inv ms s n' s₃ :=
   fun e => e.elim fun c' e => e.elim fun h' e => e.elim fun tk' e => e.elim fun m' e => e.elim fun news' e => ⟨ms c', e.2.2.2.2.2.2.2.2.2, c', h', tk', m', ⟨rfl, e.1⟩, e.2.2.2.2.2.2.2.2.1, e.2.2.2.2.2.1, e.2.2.2.2.2.2.1,
    fun z hz hs => e.2.2.2.2.2.2.2.1 z (fun q => by rw [q, hx] at hs; cases hs) hz hs, e.2.1, fun p hp => e.2.2.1 p ((List.mem_append.mp hp).elim (e.2.2.2.1 p) (e.2.2.2.2.1 p))⟩
  cases f with
  | ret v => exact hf
  | brk => exact hf.elim fun _ e => e.elim fun _ e => e.elim fun _ e => e.elim fun _ e => e.elim fun _ e => e.2.2.2.2.2.2.2.2.elim
  | next => exact fin hf
  | cont => exact fin hf
end
noncomputable def ksat {α : Type} (c : Nat -> Nat -> Bool) (n : Nat) : KasT α -> (α -> Prop) -> Prop
 | .ret a, Q => Q a
 | .ask i j k, Q => i < n /\ j < n /\ ksat c n (k (c i j)) Q
section
variable {α β : Type} {c : Nat -> Nat -> Bool} {n : Nat}
theorem zaX {f : α -> KasT β} {Q : β -> Prop} : ∀ {t : KasT α}, ksat c n t (fun a => ksat c n (f a) Q) -> ksat c n (t.bind f) Q
 | .ret _, h => h
 | .ask _ _ _, ⟨h1, h2, h3⟩ => ⟨h1, h2, zaX h3⟩
theorem zaC {Q Q' : α -> Prop} : ∀ {t : KasT α}, ksat c n t Q -> (∀ a, Q a -> Q' a) -> ksat c n t Q'
 | .ret _, h, q => q _ h
 | .ask _ _ _, ⟨h1, h2, h3⟩, q => ⟨h1, h2, zaC h3 q⟩
theorem zfb {cmp : Nat -> Nat -> (Bool -> Shared -> Prop) -> Shared -> Prop} (hc : ∀ i j C, i < n -> j < n -> C (c i j) s -> cmp i j C s) {P : α -> Prop} {Q : α -> Shared -> Prop} : ∀ {t : KasT α}, ksat c n t P -> (∀ a, P a -> Q a s) -> t.kasWp cmp Q s
 | .ret _, h, q => q _ h
 | .ask _ _ _, ⟨h1, h2, h3⟩, q => hc _ _ _ h1 h2 (zfb hc h3 q)
end
structure KOrd (c : Nat -> Nat -> Bool) (n : Nat) : Prop where
 tr : ∀ i j k, i < n -> j < n -> k < n -> c i j = true -> c j k = true -> c i k = true
 tot : ∀ i j, i < n -> j < n -> i ≠ j -> c i j = false -> c j i = true
abbrev at0 (p : Array Nat) (i : Nat) : Nat := p.getD i 0
abbrev PermN (p : Array Nat) (n : Nat) : Prop := p.toList.Perm (List.range n)
section
variable {c : Nat -> Nat -> Bool} {n : Nat} {p : Array Nat}
theorem zcd (i : Nat) : at0 p i = (p[i]?).getD 0 := by
 unfold at0
 rw [Array.getD_eq_getD_getElem?]
theorem PermN.size (h : PermN p n) : p.size = n := by
 have := h.length_eq
 simpa using this
theorem zcJ (h : PermN p n) {i : Nat} (hi : i < n) : ∃ hp : i < p.toList.length, at0 p i = p.toList[i] := by
 have hs := h.size
 have hp : i < p.size := by exact Nat.lt_of_lt_of_eq hi (id (Eq.symm hs))
 refine ⟨by simpa using hp, ?_⟩
 rw [zcd, Array.getElem?_eq_getElem hp]
 simp
theorem PermN.lt (h : PermN p n) {i : Nat} (hi : i < n) : at0 p i < n := by
 refine bc fun hG9 => ?_; obtain ⟨hp, e⟩ := zcJ h hi; refine hG9 ?_; clear hG9
 rw [e]
 exact List.mem_range.mp (h.mem_iff.mp (List.getElem_mem hp))
theorem PermN.ne (h : PermN p n) {i j : Nat} (hi : i < n) (hj : j < n) (hij : i ≠ j) : at0 p i ≠ at0 p j := by
 refine bc fun hG9 => ?_; obtain ⟨hp, e⟩ := zcJ h hi; refine hG9 ?_; clear hG9
 refine bc fun hG9 => ?_; obtain ⟨hq, f⟩ := zcJ h hj; refine hG9 ?_; clear hG9
 rw [e, f]
 have nd : p.toList.Nodup := h.symm.nodup List.nodup_range
 rcases Nat.lt_or_ge i j with hl | hl
 ·exact List.pairwise_iff_getElem.mp nd i j hp hq hl
 ·exact (List.pairwise_iff_getElem.mp nd j i hq hp (by exact Nat.lt_of_le_of_ne hl (id (Ne.symm hij)))).symm
theorem PermN.tr (h : PermN p n) (o : KOrd c n) {i j k : Nat} (hi : i < n) (hj : j < n) (hk : k < n) (h1 : c (at0 p i) (at0 p j) = true) (h2 : c (at0 p j) (at0 p k) = true) : c (at0 p i) (at0 p k) = true :=
 o.tr _ _ _ (h.lt hi) (h.lt hj) (h.lt hk) h1 h2
theorem PermN.tot (h : PermN p n) (o : KOrd c n) {i j : Nat} (hi : i < n) (hj : j < n) (hij : i ≠ j) (h1 : c (at0 p i) (at0 p j) = false) : c (at0 p j) (at0 p i) = true :=
 o.tot _ _ (h.lt hi) (h.lt hj) (h.ne hi hj hij) h1
noncomputable def Rise (c : Nat -> Nat -> Bool) (p : Array Nat) (k : Nat) : Prop := ∀ i j, i < j -> j < k -> c (at0 p i) (at0 p j) = true
theorem Rise.step (h : PermN p n) (o : KOrd c n) {k : Nat} (hr : Rise c p k) (h0 : 0 < k) (hk : k < n) (h1 : c (at0 p (k - 1)) (at0 p k) = true) : Rise c p (k + 1) := by
 intro i j hij hj
 by_cases hjk : j = k
 ·subst hjk
  by_cases hi : i = j - 1
  ·subst hi; exact h1
  ·exact h.tr o (by exact Nat.lt_trans hij hk) (by exact Nat.sub_lt_of_lt hk) hk (hr i (j - 1) (by lia) (by exact Nat.sub_one_lt_of_lt h0)) h1
 ·exact hr i j hij (by lia)
theorem zft (h : PermN p n) (o : KOrd c n) : ∀ (f m : Nat), 0 < m -> m + f = n -> Rise c p m -> ksat c n (kas_asc p f m) (fun m' => m <= m' /\ m' <= n /\ Rise c p m' /\ (m' < n -> c (at0 p m') (at0 p (m' - 1)) = true))
 | 0, m, _, he, hr => ⟨Nat.le_refl _, by exact Nat.le_of_eq he, hr, fun q => by lia⟩
 | f + 1, m, h0, he, hr => by
  refine ⟨h.lt (i := m) (by lia), h.lt (i := m - 1) (by lia), ?_⟩
  show ksat c n (if c (at0 p m) (at0 p (m - 1)) = true then KasT.ret m else kas_asc p f (m + 1)) _
  by_cases hc : c (at0 p m) (at0 p (m - 1)) = true
  ·rw [if_pos hc]
   exact ⟨Nat.le_refl _, by exact Nat.le.intro he, hr, fun _ => hc⟩
  ·rw [if_neg hc]
   have h1 := h.tot o (by lia) (by lia) (by exact Ne.symm (Nat.sub_one_ne_self (Nat.ne_of_gt h0))) (Bool.eq_false_iff.mpr hc)
   exact zaC (zft h o f (m + 1) (by exact Nat.zero_lt_succ m) (by lia) (hr.step h o h0 (by lia) h1)) fun m' q => ⟨by exact Nat.le_of_succ_le q.1, q.2⟩
noncomputable def Fall (c : Nat -> Nat -> Bool) (p : Array Nat) (k : Nat) : Prop := ∀ i j, i < j -> j < k -> c (at0 p j) (at0 p i) = true
theorem Fall.step (h : PermN p n) (o : KOrd c n) {k : Nat} (hr : Fall c p k) (h0 : 0 < k) (hk : k < n) (h1 : c (at0 p k) (at0 p (k - 1)) = true) : Fall c p (k + 1) := by
 intro i j hij hj
 by_cases hjk : j = k
 ·subst hjk
  by_cases hi : i = j - 1
  ·subst hi; exact h1
  ·exact h.tr o hk (by exact Nat.sub_lt_of_lt hk) (by exact Nat.lt_trans hij hk) h1 (hr i (j - 1) (by lia) (by exact Nat.sub_one_lt_of_lt h0))
 ·exact hr i j hij (by lia)
theorem zfG (h : PermN p n) (o : KOrd c n) : ∀ (f m : Nat), 0 < m -> m + f = n -> Fall c p m -> ksat c n (kas_desc f p m 0) (fun r => r.1 = p /\ m <= r.2.1 /\ r.2.1 <= n /\ r.2.2 = 0 /\ Fall c p r.2.1)
 | 0, m, _, he, hr => ⟨rfl, Nat.le_refl _, by show m <= n; exact Nat.le_of_eq he, rfl, hr⟩
 | f + 1, m, h0, he, hr => by
  refine ⟨h.lt (i := m) (by lia), h.lt (i := m - 1) (by lia), ?_⟩
  show ksat c n (if c (at0 p m) (at0 p (m - 1)) = true then (if 0 > 0 then kas_desc f (kas_rev p (m - (0 + 1)) m) (m + 1) 0 else kas_desc f p (m + 1) 0)
   else .ask (p.getD (m - 1) 0) (p.getD m 0) fun d => if d = true then .ret (p, m, 0) else kas_desc f p (m + 1) (0 + 1)) _
  by_cases hc : c (at0 p m) (at0 p (m - 1)) = true
  ·rw [if_pos hc, if_neg (Nat.lt_irrefl 0)]
   exact zaC (zfG h o f (m + 1) (by exact Nat.zero_lt_succ m) (by lia) (hr.step h o h0 (by lia) hc)) fun r q => ⟨q.1, by exact Nat.le_of_succ_le q.2.1, q.2.2⟩
  ·rw [if_neg hc]
   refine ⟨h.lt (i := m - 1) (by lia), h.lt (i := m) (by lia), ?_⟩
   have h1 := h.tot o (by lia) (by lia) (by exact Ne.symm (Nat.sub_one_ne_self (Nat.ne_of_gt h0))) (Bool.eq_false_iff.mpr hc)
   show ksat c n (if c (at0 p (m - 1)) (at0 p m) = true then .ret (p, m, 0) else kas_desc f p (m + 1) (0 + 1)) _
   rw [if_pos h1]
   exact ⟨rfl, Nat.le_refl _, by show m <= n; exact Nat.le.intro he, rfl, hr⟩
theorem zfN {q : Array Nat} (h : PermN p n) (e : q.Perm p) : PermN q n := (Array.perm_iff_toList_perm.mp e).trans h
theorem zfX (h : PermN p n) (i j : Nat) : PermN (kas_rev p i j) n := zfN h (mirror_perm _ _ _ _)
theorem zm7 (h : PermN p n) {m : Nat} (hm : m <= n) (k : Nat) : at0 (kas_rev p 0 m) k = if k < m then at0 p (m - 1 - k) else at0 p k := by
 have hs := h.size
 rw [zcd, zcd, zcd]
 unfold kas_rev
 rw [getElem?_mirror_all (by exact le_of_le_of_eq hm (id (Eq.symm hs)))]
 by_cases hk : k < m
 ·rw [if_pos ⟨Nat.zero_le _, hk⟩, if_pos hk]
  congr 2
  lia
 ·rw [if_neg (by exact (not_and.mpr fun a => hk)), if_neg hk]
theorem zjk (h : PermN p n) {m : Nat} (hm : m <= n) (hf : Fall c p m) : Rise c (kas_rev p 0 m) m := by
 intro i j hij hj
 rw [zm7 h hm, zm7 h hm, if_pos (by exact Nat.lt_trans hij hj), if_pos hj]
 exact hf _ _ (by (clear hm; omega)) (by (clear hm hij; omega))
theorem zhX (h : PermN p n) (o : KOrd c n) {m : Nat} (h0 : 0 < m) (hm : m <= n) (hf : Fall c p m) : ksat c n (kas_tail3 m n p) (fun r => 1 <= r.1 /\ r.1 <= n /\ PermN r.2 n /\ Rise c r.2 r.1) := by
 unfold kas_tail3
 refine zaX (zaC (zft (zfX h 0 m) o (n - m) m h0 (by exact Nat.add_sub_of_le hm) (zjk h hm hf)) fun m' q => ?_)
 exact ⟨by show 1 <= m'; exact Nat.le_trans h0 q.1, q.2.1, zfX h 0 m, q.2.2.1⟩
theorem zjd : Rise c p 1 := fun i j h1 h2 => by omega
theorem ziB (h : PermN p n) (o : KOrd c n) (h2 : 2 <= n) : ksat c n (kas_count n p) (fun r => 1 <= r.1 /\ r.1 <= n /\ PermN r.2 n /\ Rise c r.2 r.1) := by
 unfold kas_count
 refine zaX (zaC (zft h o (n - 1) 1 (by exact Nat.one_pos) (by lia) zjd) fun m q => ?_)
 (refine cj4 (q) ?_; clear q; intro q1 q2 q3 q4)
 by_cases he : m = n
 ·subst he
  rw [if_pos (by simp)]
  exact ⟨q1, q2, h, q3⟩
 ·rw [if_neg (by simpa using he)]
  by_cases h1 : m > 1
  ·rw [if_pos h1]
   refine ⟨h.lt (i := 0) (by exact Nat.zero_lt_of_lt h2), h.lt (i := m - 1) (by omega), ?_⟩
   have hc : c (at0 p 0) (at0 p (m - 1)) = true := q3 0 (m - 1) (by exact Nat.zero_lt_sub_of_lt h1) (by exact Nat.sub_one_lt_of_lt q1)
   show ksat c n (if c (at0 p 0) (at0 p (m - 1)) = true then _ else _) _
   rw [if_pos hc]
   exact ⟨q1, q2, h, q3⟩
  ·rw [if_neg h1]
   have hm : m = 1 := by exact Eq.symm (Nat.eq_of_lt_succ_of_not_lt (Nat.lt_succ_of_le q1) h1)
   subst hm
   have hd := q4 (by exact Nat.lt_of_succ_le h2)
   have hf : Fall c p 2 := Fall.step h o (fun i j h3 h4 => by omega) (by exact Nat.one_pos) (by exact Nat.lt_of_succ_le h2) hd
   unfold kas_descPart
   refine zaX (zaC (zfG h o (n - (1 + 1)) (1 + 1) (by exact Nat.zero_lt_succ 1) (by exact Nat.add_sub_of_le h2) hf) fun r q => ?_)
   refine bc fun hG9 => ?_; obtain ⟨r1, r2, r3⟩ := r; refine hG9 ?_; clear hG9
   (refine cj5 (q) ?_; clear q; intro e1 q5 q6 e2 q7)
   dsimp only at e1 e2 q5 q6 q7 ⊢
   subst e1
   subst e2
   rw [if_neg (Nat.lt_irrefl 0)]
   exact zhX h o (by exact Nat.zero_lt_of_lt q5) q6 q7
theorem zcY (h : PermN p n) (o : KOrd c n) {k : Nat} (hk : k < n) (hr : Rise c p k) : ∀ (f l r : Nat), l <= r -> r <= k -> r - l <= f -> (∀ i, i < l -> c (at0 p i) (at0 p k) = true) -> (∀ i, r <= i -> i < k -> c (at0 p k) (at0 p i) = true) ->
  ksat c n (kas_place p k f l r) (fun l' => l' <= k /\ (∀ i, i < l' -> c (at0 p i) (at0 p k) = true) /\ ∀ i, l' <= i -> i < k -> c (at0 p k) (at0 p i) = true)
 | 0, l, r, h1, h2, h3, h4, h5 => ⟨by exact Nat.le_trans h1 h2, h4, fun i hi => h5 i (by lia)⟩
 | f + 1, l, r, h1, h2, h3, h4, h5 => by
  unfold kas_place
  by_cases hlr : l >= r
  ·rw [if_pos hlr]
   exact ⟨by exact Nat.le_trans h1 h2, h4, fun i hi => h5 i (by exact Nat.le_trans hlr hi)⟩
  ·rw [if_neg hlr]
   refine ⟨h.lt hk, h.lt (i := (l + r) / 2) (by lia), ?_⟩
   show ksat c n (if c (at0 p k) (at0 p ((l + r) / 2)) = true then _ else _) _
   by_cases hc : c (at0 p k) (at0 p ((l + r) / 2)) = true
   ·rw [if_pos hc]
    refine zcY h o hk hr f l ((l + r) / 2) (by lia) (by lia) (by (clear hk h1 h2 hlr hc; omega)) h4 fun i hi hik => ?_
    by_cases he : i = (l + r) / 2
    ·rw [he]; exact hc
    ·exact h.tr o hk (by lia) (by exact Nat.lt_trans hik hk) hc (hr _ _ (by exact (Nat.lt_of_le_of_ne hi fun a => he (id (Eq.symm a)))) hik)
   ·rw [if_neg hc]
    have hc' := h.tot o hk (by lia) (by lia) (Bool.eq_false_iff.mpr hc)
    refine zcY h o hk hr f ((l + r) / 2 + 1) r (by (clear hk h1 h2 h3 hc hc'; lia)) h2 (by (clear hk h1 h2 hlr hc hc'; omega)) (fun i hi => ?_) h5
    by_cases he : i = (l + r) / 2
    ·rw [he]; exact hc'
    ·exact h.tr o (by (clear h1 h3 hc hc' he; lia)) (by lia) hk (hr _ _ (by lia) (by lia)) hc'
theorem zeh (h : PermN p n) {k l : Nat} (hk : k < n) (hl : l <= k) (i : Nat) : at0 (bubble p k (k - l)) i = if i = l then at0 p k else if l < i /\ i <= k then at0 p (i - 1) else at0 p i := by
 have hs := h.size
 rw [zcd, zcd, zcd, zcd, getElem?_bubble (by exact Nat.lt_of_lt_of_eq hk (id (Eq.symm hs))) (k - l) (by exact Nat.sub_le k l), show k - (k - l) = l by exact Nat.sub_sub_self hl]
 by_cases h1 : i = l
 ·rw [if_pos h1, if_pos h1]
 ·rw [if_neg h1, if_neg h1]
  by_cases h2 : l < i /\ i <= k
  ·rw [if_pos h2, if_pos h2]
  ·rw [if_neg h2, if_neg h2]
theorem zfv (h : PermN p n) {k l : Nat} (hk : k < n) (hl : l <= k) (hr : Rise c p k) (h1 : ∀ i, i < l -> c (at0 p i) (at0 p k) = true) (h2 : ∀ i, l <= i -> i < k -> c (at0 p k) (at0 p i) = true) : Rise c (bubble p k (k - l)) (k + 1) := by
 intro i j hij hj
 rw [zeh h hk hl, zeh h hk hl]
 by_cases a1 : i = l
 ·rw [if_pos a1, if_neg (by (clear hk hl hj; lia)), if_pos (by lia)]
  exact h2 _ (by lia) (by (clear hk hl a1; lia))
 ·rw [if_neg a1]
  by_cases a2 : l < i /\ i <= k
  ·rw [if_pos a2, if_neg (by lia), if_pos (by lia)]
   exact hr _ _ (by (clear hk hl hj a1; omega)) (by omega)
  ·rw [if_neg a2]
   by_cases a3 : j = l
   ·rw [if_pos a3]
    exact h1 _ (by exact Nat.lt_of_lt_of_eq hij a3)
   ·rw [if_neg a3]
    by_cases a4 : l < j /\ j <= k
    ·rw [if_pos a4]
     exact hr _ _ (by lia) (by (clear hk hl a1 a2 a3 a4; lia))
    ·rw [if_neg a4]
     exact hr _ _ hij (by (clear hk hij a1 a2; lia))
theorem zid (o : KOrd c n) : ∀ (f : Nat) (p : Array Nat) (k : Nat), PermN p n -> k + f = n -> Rise c p k -> ksat c n (kas_bin f p k) (fun q => PermN q n /\ Rise c q n)
 | 0, p, k, h, he, hr => ⟨h, by rw [<- he]; exact hr⟩
 | f + 1, p, k, h, he, hr => by
  unfold kas_bin
  refine zaX (zaC (zcY h o (by lia) hr k 0 k (Nat.zero_le _) (Nat.le_refl _) (by exact Nat.sub_le k 0) (fun i hi => by lia) fun i h1 h2 => by (clear he; omega)) fun l q => ?_)
  exact zid o f _ (k + 1) (zfN h (bubble_perm _ _ _)) (by lia) (zfv h (by lia) q.1 hr q.2.1 q.2.2)
theorem zga (o : KOrd c n) (h2 : 2 <= n) : ksat c n (kas_sort n) (fun q => PermN q n /\ Rise c q n) := by
 unfold kas_sort
 have h0 : PermN (List.toArray (List.range n)) n := by
  show (List.toArray (List.range n)).toList.Perm _
  exact List.Perm.refl _
 refine zaX (zaC (ziB h0 o h2) fun r q => ?_)
 (refine cj4 (q) ?_; clear q; intro q1 q2 q3 q4)
 by_cases hr : r.1 < n
 ·rw [if_pos hr, show max r.1 1 = r.1 by exact Nat.max_eq_left q1]
  exact zid o _ _ _ q3 (by exact Nat.add_sub_of_le (Nat.le_of_lt hr)) q4
 ·rw [if_neg hr]
  have : r.1 = n := by exact Nat.eq_of_lt_succ_of_not_lt (Nat.lt_succ_of_le q2) hr
  exact ⟨q3, by rw [<- this]; exact q4⟩
end
theorem zeS {β : Type} {lt : β -> β -> Bool} {xs : List β} {d : β} {p : Array Nat} (hp : PermN p xs.length) (hr : Rise (fun i j => lt (xs.getD i d) (xs.getD j d)) p xs.length) :
  (p.toList.map fun i => xs.getD i d).Perm xs /\ (p.toList.map fun i => xs.getD i d).Pairwise fun a b => lt a b = true := by
 constructor
 ·have h1 := hp.map fun i => xs.getD i d
  have h2 : (List.range xs.length).map (fun i => xs.getD i d) = xs := by
   refine List.ext_getElem (by simp) fun i h3 h4 => ?_
   simp [List.getElem?_eq_getElem h4]
  rw [h2] at h1
  exact h1
 ·rw [List.pairwise_map, List.pairwise_iff_getElem]
  intro i j hi hj hij
  have hl := hp.length_eq
  rw [List.length_range] at hl
  have h1 := hr i j hij (by exact Nat.lt_of_lt_of_eq hj hl)
  refine bc fun hG9 => ?_; obtain ⟨_, e1⟩ := zcJ hp (i := i) (by exact Nat.lt_of_lt_of_eq hi hl); refine hG9 ?_; clear hG9
  refine bc fun hG9 => ?_; obtain ⟨_, e2⟩ := zcJ hp (i := j) (by exact Nat.lt_of_lt_of_eq hj hl); refine hG9 ?_; clear hG9
  rw [<- e1, <- e2]
  exact h1
theorem zmc {β : Type} {lt : β -> β -> Bool} {xs : List β} {d : β} (tr : ∀ a b c, a ∈ xs -> b ∈ xs -> c ∈ xs -> lt a b = true -> lt b c = true -> lt a c = true) (tot : ∀ a b, a ∈ xs -> b ∈ xs -> a ≠ b -> lt a b = false -> lt b a = true) (nd : xs.Nodup) : KOrd (fun i j => lt (xs.getD i d) (xs.getD j d)) xs.length := by
 have hm : ∀ i, i < xs.length -> xs.getD i d ∈ xs := fun i hi => by
  have e : xs.getD i d = xs[i] := by simp [hi]
  rw [e]
  exact List.getElem_mem hi
 refine ⟨fun i j k hi hj hk => tr _ _ _ (hm i hi) (hm j hj) (hm k hk), fun i j hi hj hij => tot _ _ (hm i hi) (hm j hj) fun e => hij ?_⟩
 have e1 : xs.getD i d = xs[i] := by simp [hi]
 have e2 : xs.getD j d = xs[j] := by simp [hj]
 rw [e1, e2] at e
 rcases Nat.lt_trichotomy i j with h | h | h
 ·exact absurd e (List.pairwise_iff_getElem.mp nd i j hi hj h)
 ·exact h
 ·exact absurd e.symm (List.pairwise_iff_getElem.mp nd j i hj hi h)
example : True := by
 k_with "ai" => have hz : ¬ vs.toArray.size < 2 := by rw [List.size_toArray]; lia
 trivial
noncomputable def llt (a : List Int) : List Int -> Bool := List.rec (fun l => List.rec false (fun _ _ _ => true) l) (fun x _ ih l => List.rec false (fun y q _ => if x = y then ih q else decide (x < y)) l) a
theorem zhl : llt [] [] = false := rfl
theorem zmu {x : Int} {r : List Int} : llt [] (x :: r) = true := rfl
theorem zkt {x : Int} {r : List Int} : llt (x :: r) [] = false := rfl
theorem zbJ {x y : Int} {r q : List Int} : llt (x :: r) (y :: q) = if x = y then llt r q else decide (x < y) := rfl
theorem zbt (a : List Int) : llt a a = false := by
 induction a with
 | nil => rfl
 | cons x r ih => exact (if_pos rfl).trans ih
theorem zbT (a : List Int) : ∀ b c : List Int, llt a b = true -> llt b c = true -> llt a c = true := by
 induction a with
 | nil =>
  intro b c h1 h2
  cases c with
  | nil => cases b with
   | nil => exact h1
   | cons => cases h2
  | cons => rfl
 | cons x r ih =>
  intro b c h1 h2
  cases b with
  | nil => cases h1
  | cons y q => cases c with
   | nil => cases h2
   | cons z p =>
    replace h1 : (if x = y then llt r q else decide (x < y)) = true := h1
    replace h2 : (if y = z then llt q p else decide (y < z)) = true := h2
    show (if x = z then llt r p else decide (x < z)) = true
    by_cases e1 : x = y
    ·rw [if_pos e1] at h1
     by_cases e2 : y = z
     ·rw [if_pos e2] at h2
      rw [if_pos (e1.trans e2)]
      exact ih q p h1 h2
     ·rw [if_neg e2] at h2
      rw [if_neg (by rw [e1]; exact e2), e1]
      exact h2
    ·rw [if_neg e1] at h1
     by_cases e2 : y = z
     ·rw [<- e2, if_neg e1]
      exact h1
     ·rw [if_neg e2] at h2
      have h3 := Int.lt_trans (of_decide_eq_true h1) (of_decide_eq_true h2)
      rw [if_neg (Int.ne_of_lt h3)]
      exact decide_eq_true h3
theorem zcv (a : List Int) : ∀ b : List Int, a ≠ b -> llt a b = false -> llt b a = true := by
 induction a with
 | nil =>
  intro b h h1
  cases b with
  | nil => exact absurd rfl h
  | cons => cases h1
 | cons x r ih =>
  intro b h h1
  cases b with
  | nil => rfl
  | cons y q =>
   replace h1 : (if x = y then llt r q else decide (x < y)) = false := h1
   show (if y = x then llt q r else decide (y < x)) = true
   by_cases e : x = y
   ·rw [if_pos e] at h1
    rw [if_pos e.symm]
    exact ih q (fun e2 => h (by rw [e, e2])) h1
   ·rw [if_neg e] at h1
    rw [if_neg (Ne.symm e)]
    exact decide_eq_true (Int.lt_iff_le_and_ne.mpr ⟨Int.not_lt.mp (of_decide_eq_false h1), Ne.symm e⟩)
section
variable {b : Bool} 
theorem zp1 {Q : Bool -> Shared -> Prop} : ∀ {xs ys : List Value} {as bs : List Int} {i : Nat}, IntsAre xs as -> IntsAre ys bs -> Q (llt as bs) s -> KatLex prog w A b (decide (xs.length < ys.length)) Q (xs.zip ys) i s := by
 intro xs ys as bs i hx
 induction hx generalizing ys bs i with
 | nil =>
  intro hy h
  cases hy with
  | nil => exact kat_nil h
  | cons => exact kat_nil ((congrArg (fun z => Q z s) (decide_eq_true (Nat.succ_pos _))).mpr h)
 | @cons x t xs as hx ih =>
  intro hy h
  cases hy with
  | nil => exact kat_nil ((congrArg (fun z => Q z s) (decide_eq_false (Nat.not_lt_zero _))).mpr h)
  | @cons y u ys bs hy =>
   rw [List.zip_cons_cons]
   refine kat_cons (wpAny_eqBool_int ?_)
   replace h : Q (if x = y then llt as bs else decide (x < y)) s := h
   have hl : decide ((Value.int x t :: xs).length < (Value.int y u :: ys).length) = decide (xs.length < ys.length) := by simp
   rw [hl]
   by_cases e : x = y
   ·rw [show (x == y) = true from beq_iff_eq.mpr e]
    rw [if_pos e] at h
    exact kat_yes (ih hy h)
   ·rw [show (x == y) = false from beq_eq_false_iff_ne.mpr e]
    rw [if_neg e] at h
    refine kat_no ?_
    cases (b && i == 0) with
    | true => exact oneLt_int h
    | false => exact kat_one _ _ (wpAny_lt_int h)
theorem zdW {h : Heap} (N : News h₀ L h news) : ∀ {vs : List Value} {ds : List (List Int)}, DatAll news vs (ds.map tdat) -> (∀ d ∈ ds, d ≠ []) -> ∃ fs, KatTups h vs fs /\ fs.length = ds.length /\ ∀ f ∈ fs, ∃ i t, f = Value.int i t
 | _, [], h, _ => by cases h; exact ⟨[], .nil, rfl, fun _ h => nomatch h⟩
 | _, d :: ds, h, hd => by
  cases h with
  | cons h r =>
   (refine zaW (zdW N r fun d hm => hd d (.tail _ hm)) ?_; intro fs h1 h2 h3)
   k_extra "l"
   (refine zbk (zaw h) ?_; intro a vs n q93 hm hi; subst q93)
   k_extra "e"
   have := hd d (.head _)
   cases hi with
   | nil => exact absurd rfl this
   | cons x t hi => exact ⟨.int x t :: fs, .cons (N _ hm).1 rfl rfl rfl h1, by simp [h2], fc ⟨x, t, rfl⟩ h3⟩
theorem zcr : ∀ {vs : List Value} {ds : List (List Int)}, DatAll news vs (ds.map tdat) -> ∀ i, i < ds.length -> DatIn news (vs.getD i Value.none) (tdat (ds.getD i []))
 | _, [], _, i, h => absurd h (Nat.not_lt_zero _)
 | _, d :: ds, h, i, hi => by
  cases h with
  | cons h r =>
   cases i with
   | zero => exact h
   | succ i => exact zcr r i (Nat.lt_of_succ_lt_succ hi)
theorem zdD {vs : List Value} {ds : List (List Int)} (h : DatAll news vs (ds.map tdat)) : ∀ (l : List Nat), (∀ i ∈ l, i < ds.length) -> DatAll news (l.map fun i => vs.getD i Value.none) ((l.map fun i => ds.getD i []).map tdat)
 | [], _ => .nil
 | i :: l, hl => .cons (zcr h i (hl i (.head _))) (zdD h l fun j hj => hl j (.tail _ hj))
theorem zfP {vs : List Value} {ds : List (List Int)} {b : Bool} (N : News h₀ L s.heap news) (D : DatAll news vs (ds.map tdat)) {i j : Nat} {C : Bool -> Shared -> Prop} (hi : i < ds.length) (hj : j < ds.length) (h : C (llt (ds.getD i []) (ds.getD j [])) s) : kas_ask prog w A (tuples' b) vs i j C s := by
 unfold kas_ask
 (refine zbk (zaw (zcr D i hi)) ?_; intro a xs n e1 h1 i1)
 (refine zbk (zaw (zcr D j hj)) ?_; intro a' ys n' e2 h2 i2)
 rw [e1, e2]
 refine kat_lt (N _ h1).1 rfl (N _ h2).1 rfl ?_
 have := zp1 (prog := prog) (w := w) (A := A) (b := b) (i := 0) (Q := C) i1 i2 h
 simpa using this
noncomputable def zcl (prog : Program) (w : World) (A : Around) (vs : List Value) (P : List Value -> Prop) (s : Shared) : Prop :=
 wpAny (model prog w) A (if vs.toArray.size < 2 then pure general' else keyKind' vs.toArray) (fun κ s₁ => wpAny (model prog w) A ((if vs.toArray.size < 2 then pure () else sortRuns').run (SortSt.mk' κ (vs.toArray.zip vs.toArray) #[] 7 none))
  (fun r s₂ => s₂ = s /\ (∃ out, P out /\ (arrOf r.2).map (·.2) = out.toArray) /\ failedOf r.2 = none) (fun _ _ => False) s₁) (fun _ _ => False) s
theorem zdb {vs : List Value} {P : List Value -> Prop} (h : vs.length < 2) (hP : P vs) : zcl prog w A vs P s := by
 unfold zcl
 rw [if_pos (by simpa using h), if_pos (by simpa using h)]
 k_extra "W"
 rw [StateT.run_pure]
 refine wpAny_pure ⟨rfl, ⟨vs, hP, ?_⟩, rfl⟩
 show (vs.toArray.zip vs.toArray).map (·.2) = vs.toArray
 cases vs with
 | nil => simp
 | cons a l =>
  cases l with
  | nil => simp
  | cons b l => exact absurd h (Nat.not_lt.mpr (Nat.le_add_left 2 _))
theorem zgQ {vs : List Value} {ds : List (List Int)} {P : List Value -> Prop} (N : News h₀ L s.heap news) (D : DatAll news vs (ds.map tdat)) (hne : ∀ d ∈ ds, d ≠ []) (nd : ds.Nodup) (h2 : 2 <= ds.length) (h64 : ds.length < 64)
  (hP : ∀ (ws : List Value) (es : List (List Int)), es.Perm ds -> (es.Pairwise fun a b => llt a b = true) -> DatAll news ws (es.map tdat) -> P ws) : zcl prog w A vs P s := by
 unfold zcl
 have hlen : vs.length = ds.length := by rw [D.length, List.length_map]
 k_extra "ai"
 rw [if_neg hz, if_neg hz]
 (refine zaW (zdW N D hne) ?_; intro fs t1 t2 t3)
 refine kat_kind (T := Value.type "int") (vs := vs) t1 (by lia) (fun v hv => ?_) rfl ?_
 ·refine bc fun hG9 => ?_
  (refine x_EE (t3 v hv) ?_; intro i t q92; subst q92)
  k_extra "e"
  exact Looks.of_pure rfl
 ·refine wpAny_mono (kat_run (ks := vs) (vs := vs) (Q := fun st' s' => s' = s /\ (∃ out, P out /\ (arrOf st').map (·.2) = out.toArray) /\ failedOf st' = none) (G := fun p s' => s' = s /\ PermN p vs.length /\ Rise (fun i j => llt (ds.getD i []) (ds.getD j [])) p vs.length) rfl (by exact le_of_le_of_eq h2 (id (Eq.symm hlen))) (by exact lt_of_eq_of_lt hlen h64) (fun p st' s' hp har hf hG => ?_) ?_) (fun _ _ q => q) fun _ _ q => q
  ·refine bc fun hG9 => ?_
   (refine cj3 (hG) ?_; clear hG; intro q90 g1 g2; subst q90)
   k_extra "e"
   rw [hlen] at g1 g2
   (refine cj2 (zeS (lt := llt) (d := []) g1 g2) ?_; intro s1 s2)
   exact ⟨rfl, ⟨_, hP _ _ s1 s2 (zdD D _ fun i hi => List.mem_range.mp (g1.mem_iff.mp hi)), kat_snds rfl har⟩, hf⟩
  ·rw [hlen]
   exact zfb (c := fun i j => llt (ds.getD i []) (ds.getD j [])) (n := ds.length) (fun i j C hi hj hC => zfP N D hi hj hC) (zga (zmc (lt := llt) (fun a b c _ _ _ => zbT a b c) (fun a b _ _ => zcv a b) nd) h2) fun p q => ⟨rfl, q.1, q.2⟩
noncomputable def zbL (ds : List (List Int)) : Prop := ∀ (prog : Program) (w : World) (A : Around) (s : Shared) (h₀ : Heap) (L : Addr) (news : List (Addr × Obj)) (vs : List Value) (P : List Value -> Prop), News h₀ L s.heap news -> DatAll news vs (ds.map tdat) ->
 (∀ (ws : List Value) (es : List (List Int)), es.Perm ds -> (es.Pairwise fun a b => llt a b = true) -> DatAll news ws (es.map tdat) -> P ws) -> zcl prog w A vs P s
theorem zbf {ds : List (List Int)} (hne : ∀ d ∈ ds, d ≠ []) (nd : ds.Nodup) (h64 : ds.length < 64) : zbL ds := by
 intro prog w A s h₀ L news vs P N D hP
 by_cases h2 : 2 <= ds.length
 ·exact zgQ N D hne nd h2 h64 hP
 ·refine zdb (by have := D.length; rw [List.length_map] at this; lia) (hP vs ds (List.Perm.refl _) ?_ D)
  match ds, h2 with
  | [], _ => exact .nil
  | [_], _ => exact List.pairwise_singleton _ _
  | _ :: _ :: _, h => exact absurd (by simp) h
theorem zjR {α β : Type} {c : Prop} [Decidable c] {a b : Sem α} {f : α -> Sem β} {Q : β -> Shared -> Prop} (h : wpAny M A (if c then a else b) (fun x s' => wpAny M A (f x) Q E s') E s) : wpAny M A (if c then a >>= f else b >>= f) Q E s := by
 by_cases q : c
 ·rw [if_pos q] at h ⊢
  exact wpAny_bind h
 ·rw [if_neg q] at h ⊢
  exact wpAny_bind h
theorem zcj {vs : List Value} {P : List Value -> Prop} {a : Addr} {n : Nat} {R : PySem.Fin -> Shared -> Prop} (F : Fr h₀ L s.heap m) (N : News h₀ L s.heap news) (ho : s.heap.get? a = some (seqObj "list" vs.toArray n)) (haL : a ≠ L) (ha0 : h₀.get? a = none) (hna : ∀ p ∈ news, p.1 ≠ a)
  (hz : vs.length <= 1000) (hP : ∀ out, P out -> out.length <= 1000) (hs : ∀ h', Fr h₀ L h' m -> News h₀ L h' news -> zcl prog w A vs P { s with heap := h' })
  (h : ∀ out c h', P out -> Fr h₀ L h' m -> News h₀ L h' ((a, W.listOf out.toArray c) :: news) -> R (.done (.ret .none)) { s with heap := h' }) :
  wpAny (model prog w) A (Builtin.«list.sort» ⟨[.ref a], []⟩) R E s := by
 have s1 := Heap.SameBut.update s.heap a (Obj.mapSeq fun _ => (#[] : Array Value))
 obtain ⟨e1, ho1⟩ : ∃ e1, (s.heap.update a (Obj.mapSeq fun _ => (#[] : Array Value))).get? a = some (seqObj "list" #[] e1) := ⟨_, get?_update_seq ho fun _ => #[]⟩
 obtain ⟨h3, e3⟩ : ∃ h3, h3 = ((s.heap.update a (Obj.mapSeq fun _ => (#[] : Array Value))).push (seqObj "tuple" vs.toArray 0)).push (seqObj "list" #[] 0) := ⟨_, rfl⟩
 have F3 : Fr h₀ L h3 m := by rw [e3]; exact ((kas_fr F s1 haL ha0).push _).push _
 have N3 : News h₀ L h3 news := by
  rw [e3]
  exact (kas_news N s1 hna).grown fun b x e => Heap.get?_push_of_some _ (Heap.get?_push_of_some _ e)
 have o3 : h3.get? a = some (seqObj "list" #[] e1) := by
  rw [e3]
  exact Heap.get?_push_of_some _ (Heap.get?_push_of_some _ ho1)
 have hsorts := hs h3 F3 N3
 unfold zcl at hsorts
 rw [list_sort_plain]
 refine wpAny_bind (listItems_at ho rfl ?_)
 refine wpAny_bind (listUpdate_at ho rfl ?_ (by rw [List.size_toArray, sizeLine_eq]; exact Nat.le_trans hz (Nat.le_of_lt (Nat.lt_succ_of_le (Nat.le_add_left 1000 16776215)))) (Nat.zero_le _))
 refine wpAny_bind (seqEpoch_at ho1 rfl ?_)
 refine wpAny_bind (wpAny_newTuple ?_ (by show vs.length <= _; rw [sizeLine_eq]; exact Nat.le_trans hz (Nat.le_of_lt (Nat.lt_succ_of_le (Nat.le_add_left 1000 16776215)))))
 refine wpAny_bind (wpAny_newList ?_ (Nat.zero_le _))
 refine wpAny_holding ?_
 show wpAny (model prog w) A _ R E { s with heap := ((s.heap.update a (Obj.mapSeq fun _ => (#[] : Array Value))).push (seqObj "tuple" vs.toArray 0)).push (seqObj "list" #[] 0) }
 rw [<- e3]
 refine zjR (wpAny_mono hsorts (fun κ s0 hk => ?_) fun _ _ x => x.elim)
 dsimp only at hk ⊢
 refine wpAny_bind (wpAny_mono hk ?_ fun _ _ x => x.elim)
 intro q90 s' q92
 k_extra "l"
 obtain ⟨⟨⟩, st'⟩ := q90
 obtain ⟨rfl, ⟨out, hout, har⟩, hf⟩ := q92
 k_extra "e"
 dsimp only at har hf ⊢
 have hsz : out.toArray.size <= sizeLine + 1 := by rw [List.size_toArray, sizeLine_eq]; have := hP out hout; exact Nat.le_trans this (Nat.le_of_lt (Nat.lt_succ_of_le (Nat.le_add_left 1000 16776216)))
 rw [har]
 obtain ⟨c2, hc2⟩ : ∃ c2, (h3.update a (Obj.mapSeq fun _ => out.toArray)).get? a = some (seqObj "list" out.toArray c2) := ⟨_, get?_update_seq o3 fun _ => out.toArray⟩
 have s2 := Heap.SameBut.update h3 a (Obj.mapSeq fun _ => out.toArray)
 refine wpAny_bind (seqEpoch_at o3 rfl ?_)
 refine wpAny_bind (listUpdate_at o3 rfl ?_ (Nat.zero_le _) hsz)
 rw [hf]
 refine KFB.if_not (bne_self_eq_false _) ?_
 refine wpAny_pure (h out c2 _ hout (kas_fr F3 s2 haL ha0) fun p hp => ?_)
 k_extra "q"
 ·exact ⟨hc2, haL, ha0⟩
 ·exact kas_news N3 s2 hna p hp
theorem zeR {vs : List Value} {P : List Value -> Prop} {l : Addr} {n : Nat} {Q : Value -> Shared -> Prop} (F : Fr h₀ L s.heap m) (N : News h₀ L s.heap news) (hl : (l, W.listOf vs.toArray n) ∈ news)
  (hz : vs.length <= 1000) (hP : ∀ out, P out -> out.length <= 1000) (hs : ∀ h', Fr h₀ L h' m -> News h₀ L h' news -> zcl prog w A.in1.in1 vs P { s with heap := h' })
  (h : ∀ D out c h', P out -> Fr h₀ L h' m -> News h₀ L h' ((D, W.listOf out.toArray c) :: news) -> (∀ q ∈ news, q.1 < D) -> Q (.ref D) { s with heap := h' }) :
  wpAny (model prog w) A (call (.builtin "sorted") [.ref l]) Q E s := by
 have hll : s.heap.IsList l vs.toArray := ⟨_, (N _ hl).1, rfl, _, rfl⟩
 refine Calls.call_function_entry kind_sorted plain_sorted entry_sorted (args_sorted1 _) ?_
 unfold Builtin.«sorted»
 refine wpAny_bind (m := checkCount "sorted" 1 1 _) (wpAny_pure ?_)
 refine wpAny_bind (collect_list hll ?_ (by rw [sizeLine_eq]; exact Nat.le_trans hz (Nat.le_of_lt (Nat.lt_succ_of_le (Nat.le_add_left 1000 16776215)))))
 refine wpAny_bind (wpAny_newList ?_ (by rw [sizeLine_eq]; exact Nat.le_trans hz (Nat.le_of_lt (Nat.lt_succ_of_le (Nat.le_add_left 1000 16776215)))))
 obtain ⟨hp, ehp⟩ : ∃ hp, hp = ((s.heap.push (seqObj "list" #[] 0)).update s.heap.objs.size (Obj.mapSeq (· ++ vs.toArray))).push (seqObj "list" vs.toArray 0) := ⟨_, rfl⟩
 have hsz : ((s.heap.push (seqObj "list" #[] 0)).update s.heap.objs.size (Obj.mapSeq (· ++ vs.toArray))).objs.size = s.heap.objs.size + 1 := by
  rw [Heap.size_update, size_push']
 have hoL : hp.get? (s.heap.objs.size + 1) = some (seqObj "list" vs.toArray 0) := by
  rw [ehp, <- hsz]; exact Heap.get?_push_size _ rfl
 have keep : ∀ b o, s.heap.get? b = some o -> hp.get? b = some o := fun b o q => by
  have hlt : b < s.heap.objs.size := Heap.lt_size q
  rw [ehp, Heap.get?_push_ne _ _ _ (by rw [hsz]; exact Nat.ne_of_lt (Nat.lt_succ_of_lt hlt)), Heap.get?_update_ne _ _ _ _ (Nat.ne_of_lt hlt), Heap.get?_push_ne _ _ _ (Nat.ne_of_lt hlt)]
  exact q
 have hL : L < s.heap.objs.size := F.ns.lt
 show wpAny _ _ _ _ _ { s with heap := ((s.heap.push (seqObj "list" #[] 0)).update s.heap.objs.size (Obj.mapSeq (· ++ vs.toArray))).push (seqObj "list" vs.toArray 0) }
 rw [hsz, <- ehp]
 refine wpAny_bind (wpAny_holding (wpAny_call_entry slot_list_sort ⟨_, hoL, rfl⟩ entry_list_sort ?body (args_list_sort _)))
 case body =>
  refine zcj (s := { s with heap := hp }) (F.kept keep) (N.grown keep) hoL (Nat.ne_of_gt (Nat.lt_succ_of_lt hL)) (Heap.get?_none_of_le (Nat.le_trans F.above (Nat.le_succ_of_le (Nat.le_of_lt hL))))
   (fun p hp => Nat.ne_of_lt (Nat.lt_succ_of_lt (Heap.lt_size (N p hp).1))) hz hP (fun h' F' N' => hs h' F' N') fun out c h' hout F' N' => ?_
  exact ⟨_, rfl, wpAny_pure ⟨_, rfl, h _ out c h' hout F' N' fun q hq => Nat.lt_succ_of_lt (Heap.lt_size (N q hq).1)⟩⟩
theorem zjH {vs : List Value} {P : List Value -> Prop} {D : Addr} {n : Nat} {Q : Value -> Shared -> Prop} (F : Fr h₀ L s.heap m) (N : News h₀ L s.heap ((D, W.listOf vs.toArray n) :: news)) (hna : ∀ p ∈ news, p.1 ≠ D)
  (hz : vs.length <= 1000) (hP : ∀ out, P out -> out.length <= 1000) (hs : ∀ h', Fr h₀ L h' m -> News h₀ L h' news -> zcl prog w A.in1 vs P { s with heap := h' })
  (h : ∀ out c h', P out -> Fr h₀ L h' m -> News h₀ L h' ((D, W.listOf out.toArray c) :: news) -> Q .none { s with heap := h' }) :
  wpAny (model prog w) A (call (.builtin "list.sort") [.ref D]) Q E s := by
 have nz := N _ (.head _)
 refine wpAny_call_entry slot_list_sort ⟨_, nz.1, rfl⟩ entry_list_sort (zcj (news := news) F (fun p hp => N p (.tail _ hp)) nz.1 nz.2.1 nz.2.2 hna hz hP hs fun out c h' hout F' N' => ⟨_, rfl, h out c h' hout F' N'⟩) (args_list_sort _)
end
example : True := by
 k_with "ax" => refine wpAny_bind (wpAny_rule ?_)
 k_with "ac" => (rw [hf] at he h; dsimp only at he h; subst he)
 trivial
theorem zcq {x : Addr} {o : Obj} {xs : Array Value} {n : Nat} {Q : Array Value -> Shared -> Prop} (hx : s.heap.get? x = some o) (dx : o.data = .seq xs n) (h : Q xs s) : wpAny (model prog w) A (Builtin.Tuple.tupleItemsOf (.ref x)) Q E s := by
 unfold Builtin.Tuple.tupleItemsOf
 exact wpAny_bind (wpAny_seqItems hx dx (wpAny_pure h))
theorem zgg {op : Int -> Int -> Bool} {R : Option PySem.Fin × Unit -> Shared -> Prop} {body : (Value × Value) -> Option PySem.Fin × Unit -> Sem (ForInStep (Option PySem.Fin × Unit))}
  (hb : ∀ (a b : Int) (t u : Tok) (R' : ForInStep (Option PySem.Fin × Unit) -> Shared -> Prop), (if a = b then R' (.yield (none, ())) s else R' (.done (some (.done (.ret (.bool (op a b)))), ())) s) -> wpAny (model prog w) A (body (.int a t, .int b u) (none, ())) R' E s) :
  ∀ {xs ys : List Value} {as bs : List Int}, IntsAre xs as -> IntsAre ys bs ->
   (∀ (e : Option PySem.Fin), (match (as.zip bs).find? fun p => p.1 ≠ p.2 with | none => e = none | some p => e = some (.done (.ret (.bool (op p.1 p.2))))) -> R (e, ()) s) -> wpAny (model prog w) A (forIn (xs.zip ys) (none, ()) body) R E s := by
 intro xs ys as bs hx
 induction hx generalizing ys bs with
 | nil =>
  intro _ h
  rw [List.zip_nil_left, List.forIn_nil]
  exact wpAny_pure (h none rfl)
 | @cons x t xs as hx ih =>
  intro hy h
  cases hy with
  | nil =>
   rw [List.zip_nil_right, List.forIn_nil]
   exact wpAny_pure (h none rfl)
  | @cons y u ys bs hy =>
   rw [List.zip_cons_cons, List.forIn_cons]
   refine wpAny_bind (hb x y t u _ ?_)
   by_cases e : x = y
   ·subst e
    rw [if_pos rfl]
    refine ih hy fun e he => h e ?_
    rw [List.zip_cons_cons, List.find?_cons_of_neg (by simp)]
    exact he
   ·rw [if_neg e]
    refine wpAny_pure (h _ ?_)
    rw [List.zip_cons_cons, List.find?_cons_of_pos (by simpa using e)]
theorem zgc : ∀ (as bs : List Int), llt as bs = match (as.zip bs).find? fun p => p.1 ≠ p.2 with | none => decide (as.length < bs.length) | some p => decide (p.1 < p.2)
 | [], [] => rfl
 | [], _ :: _ => by simp [zmu]
 | _ :: _, [] => by simp [zkt]
 | a :: r, b :: q => by
  rw [zbJ]
  rw [List.zip_cons_cons]
  by_cases e : a = b
  ·subst e
   rw [if_pos rfl, List.find?_cons_of_neg (by simp), zgc r q]
   cases (r.zip q).find? fun p => decide (p.1 ≠ p.2) with
   | none => simp
   | some p => rfl
  ·rw [if_neg e, List.find?_cons_of_pos (by simpa using e)]
theorem zj2 (as bs : List Int) : llt bs as = match (as.zip bs).find? fun p => p.1 ≠ p.2 with | none => decide (bs.length < as.length) | some p => decide (p.2 < p.1) := by
 induction as generalizing bs with
 | nil => cases bs <;> simp [zhl, zkt]
 | cons a r ih =>
  cases bs with
  | nil => simp [zmu]
  | cons b q =>
   rw [zbJ]
   rw [List.zip_cons_cons]
   by_cases e : a = b
   ·subst e
    rw [if_pos rfl, List.find?_cons_of_neg (by simp), ih q]
    cases (r.zip q).find? fun p => decide (p.1 ≠ p.2) with
    | none => simp
    | some p => rfl
   ·rw [if_neg (Ne.symm e), List.find?_cons_of_pos (by simpa using e)]
theorem zc6 {x y : Addr} {oy : Obj} {xs ys : List Value} {n k : Nat} {as bs : List Int} {P : PySem.Fin -> Shared -> Prop} (hx : s.heap.get? x = some ox) (dx : ox.data = .seq xs.toArray n) (hy : s.heap.get? y = some oy) (dy : oy.data = .seq ys.toArray k)
  (hin : ∀ R : Bool -> Shared -> Prop, R true s -> wpAny (model prog w) A (isInstance (.ref y) (.type "tuple")) R E s) (hi : IntsAre xs as) (hj : IntsAre ys bs) (h : P (.done (.ret (.bool (llt as bs)))) s) : wpAny (model prog w) A (Builtin.«tuple.__lt__» ⟨[.ref x, .ref y], []⟩) P E s := by
 refine wpAny_bind (wpAny_of_eq (a := (.ref x, [.ref y])) (by rfl) ?_)
 dsimp only
 refine wpAny_bind (hin _ ?_)
 k_extra "T"
 refine wpAny_bind (zcq hx dx ?_)
 refine wpAny_bind (zcq hy dy ?_)
 refine wpAny_bind (zgg (op := fun a b => decide (a < b)) ?_ hi hj fun e he => ?_)
 ·intro a b t u R' hR
  refine wpAny_bind (wpAny_eqBool_int ?_)
  by_cases e : a = b
  ·rw [if_pos e] at hR
   rw [show (a == b) = true from beq_iff_eq.mpr e, if_neg (by simp)]
   exact wpAny_pure hR
  ·rw [if_neg e] at hR
   rw [show (a == b) = false from beq_eq_false_iff_ne.mpr e, if_pos (by simp)]
   k_extra "ax"
   refine wpAny_bind (wpAny_lt_int (Q := fun v s' => wpAny (model prog w) A (do let __do_lift <- ret v; pure (ForInStep.done (some __do_lift, ()))) R' E s') ?_)
   exact wpAny_bind (wpAny_pure (wpAny_pure hR))
 ·rw [zgc] at h
  cases hf : (as.zip bs).find? fun p => decide (p.1 ≠ p.2) with
  | none =>
   k_extra "ac"
   k_extra "W"
   rw [<- hi.length, <- hj.length] at h
   simpa [Builtin.Tuple.tupleCompareSizes] using h
  | some p =>
   k_extra "ac"
   exact wpAny_pure h
theorem ze3 {x y : Addr} {oy : Obj} {xs ys : List Value} {n k : Nat} {as bs : List Int} {P : PySem.Fin -> Shared -> Prop} (hx : s.heap.get? x = some ox) (dx : ox.data = .seq xs.toArray n) (hy : s.heap.get? y = some oy) (dy : oy.data = .seq ys.toArray k)
  (hin : ∀ R : Bool -> Shared -> Prop, R true s -> wpAny (model prog w) A (isInstance (.ref y) (.type "tuple")) R E s) (hi : IntsAre xs as) (hj : IntsAre ys bs) (h : P (.done (.ret (.bool (llt bs as)))) s) : wpAny (model prog w) A (Builtin.«tuple.__gt__» ⟨[.ref x, .ref y], []⟩) P E s := by
 refine wpAny_bind (wpAny_of_eq (a := (.ref x, [.ref y])) (by rfl) ?_)
 dsimp only
 refine wpAny_bind (hin _ ?_)
 k_extra "T"
 refine wpAny_bind (zcq hx dx ?_)
 refine wpAny_bind (zcq hy dy ?_)
 refine wpAny_bind (zgg (op := fun a b => decide (b < a)) ?_ hi hj fun e he => ?_)
 ·intro a b t u R' hR
  refine wpAny_bind (wpAny_eqBool_int ?_)
  by_cases e : a = b
  ·rw [if_pos e] at hR
   rw [show (a == b) = true from beq_iff_eq.mpr e, if_neg (by simp)]
   exact wpAny_pure hR
  ·rw [if_neg e] at hR
   rw [show (a == b) = false from beq_eq_false_iff_ne.mpr e, if_pos (by simp)]
   k_extra "ax"
   refine wpAny_bind (PySem.P.gt_int (Q := fun v s' => wpAny (model prog w) A (do let __do_lift <- ret v; pure (ForInStep.done (some __do_lift, ()))) R' E s') ?_)
   exact wpAny_bind (wpAny_pure (wpAny_pure hR))
 ·rw [zj2] at h
  cases hf : (as.zip bs).find? fun p => decide (p.1 ≠ p.2) with
  | none =>
   k_extra "ac"
   k_extra "W"
   rw [<- hi.length, <- hj.length] at h
   simpa [Builtin.Tuple.tupleCompareSizes] using h
  | some p =>
   k_extra "ac"
   exact wpAny_pure h
theorem zaP {x : Addr} {vs : List Value} {n : Nat} (N : News h₀ L s.heap news) (hm : (x, ({ cls := .type "tuple", data := .seq vs.toArray n } : Obj)) ∈ news) : s.TypeIs (.ref x) "tuple" := ⟨_, N.get hm, rfl⟩
theorem zoW {x y : Addr} {as bs : List Int} {Q : Value -> Shared -> Prop} (N : News h₀ L s.heap news) (hx : DatIn news (.ref x) (tdat as)) (hy : DatIn news (.ref y) (tdat bs)) (hu : A.units < cLine) (h : Q (.bool (llt as bs)) s) : wpAny (model prog w) A (compareOp .Lt (.ref x) (.ref y)) Q E s := by
 (refine zbk (zaw hx) ?_; intro x' xs n e1 h1 i1)
 (refine zbk (zaw hy) ?_; intro y' ys k e2 h2 i2)
 cases e1
 cases e2
 refine wpAny_richCompare_same_room (op := .Lt) (zaP N h1) (zaP N h2) F.slot_tuple_lt ?_ hu
 refine wpAny_call_entry F.slot_tuple_lt (zaP N h1) F.entry_tuple_lt (zc6 (N.get h1) rfl (N.get h2) rfl (fun R hR => wpAny_isInstance (zaP N h2) isSubtype_tuple_tuple hR) i1 i2 ⟨_, rfl, by simp, h⟩) (F.args_tuple_lt_2 _ _)
theorem zrj {x y : Addr} {as bs : List Int} {Q : Value -> Shared -> Prop} (N : News h₀ L s.heap news) (hx : DatIn news (.ref x) (tdat as)) (hy : DatIn news (.ref y) (tdat bs)) (hu : A.units < cLine) (h : Q (.bool (llt bs as)) s) : wpAny (model prog w) A (compareOp .Gt (.ref x) (.ref y)) Q E s := by
 (refine zbk (zaw hx) ?_; intro x' xs n e1 h1 i1)
 (refine zbk (zaw hy) ?_; intro y' ys k e2 h2 i2)
 cases e1
 cases e2
 refine wpAny_richCompare_same_room (op := .Gt) (zaP N h1) (zaP N h2) F.slot_tuple_gt ?_ hu
 refine wpAny_call_entry F.slot_tuple_gt (zaP N h1) F.entry_tuple_gt (ze3 (N.get h1) rfl (N.get h2) rfl (fun R hR => wpAny_isInstance (zaP N h2) isSubtype_tuple_tuple hR) i1 i2 ⟨_, rfl, by simp, h⟩) (F.args_tuple_gt_2 _ _)
theorem zeT {x y : Addr} {as bs : List Int} {b : Bool} {Q : Value -> Shared -> Prop} (N : News h₀ L s.heap news) (hx : DatIn news (.ref x) (tdat as)) (hy : DatIn news (.ref y) (tdat bs)) (hb : b = true ↔ as = bs) (hu : A.units + 64 < cLine) (h : Q (.bool b) s) : wpAny (model prog w) A (compareOp .Eq (.ref x) (.ref y)) Q E s := by
 (refine x_E (kqd_in N 8 hx (zbi as)) ?_; intro _ rx)
 (refine x_E (kqd_in N 8 hy (zbi bs)) ?_; intro _ ry)
 have lx := kqd_lay 8 (tdat as) (zbi as)
 have ly := kqd_lay 8 (tdat bs) (zbi bs)
 refine eq_dataH rx ry ?_ ?_ hu ?_
 ·unfold SeqAt.shaped; rw [lx.1, Bool.true_and]; exact decide_eq_true (Nat.le_trans lx.2 (by decide))
 ·unfold SeqAt.shaped; rw [ly.1, Bool.true_and]; exact decide_eq_true (Nat.le_trans ly.2 (by decide))
 ·have e := kqd_eqv 8 (tdat as) (tdat bs) 8 (zbi as) (zbi bs)
  rw [zju] at e
  have e2 : PyData.eqv (kqdP (tdat as)) (kqdP (tdat bs)) = b := by
   cases b with
   | true => exact e.mpr (hb.mp rfl)
   | false => exact Bool.eq_false_iff.mpr fun q => absurd (hb.mpr (e.mp q)) (by simp)
  rw [e2]
  exact h
theorem zo2 {vs : List Value} {ns : List Int} (h : IntsAre vs ns) : ∀ {k : Nat}, k < ns.length -> ∃ t, vs[k]? = some (.int (ns.getD k 0) t) := by
 induction h with
 | nil => intro k hk; exact absurd hk (Nat.not_lt_zero _)
 | cons n t _ ih =>
  intro k hk
  cases k with
  | zero => exact ⟨t, rfl⟩
  | succ k => exact ih (Nat.lt_of_succ_lt_succ hk)
section
variable {D b : Addr} {news' : List (Addr × Obj)} {Q : Value -> Shared -> Prop}
theorem zgO {vs ws : List Value} {n n2 : Nat} (F : Fr h₀ L s.heap m) (N : News h₀ L s.heap news) (hb : (b, W.listOf ws.toArray n2) ∈ news) (hw : ws.length = 0)
  (U : Upd D (W.listOf vs.toArray n) (W.listOf vs.toArray n) news news') (hz : vs.length <= 100000)
  (h : ∀ h', Fr h₀ L h' m -> News h₀ L h' news' -> Q .none { s with heap := h' }) : wpAny (model prog w) A (call (.builtin "list.extend") [.ref D, .ref b]) Q E s := by
 obtain rfl := List.eq_nil_of_length_eq_zero hw
 (refine zdC (U.split) ?_; intro pre post e1 e2 a c)
 subst e1
 have z := N (D, W.listOf vs.toArray n) (List.mem_append.mpr (.inr (.head _)))
 have hd : ¬(!vs.toArray.isEmpty && Builtin.List.listTooLong (vs.toArray.size + (#[] : Array Value).size)) = true := by
  rw [List.size_toArray, zdp (by simp; exact Nat.le_of_lt_succ (Nat.lt_succ_of_le hz))]
  simp
 have hs1 : vs.toArray.size <= sizeLine := by rw [List.size_toArray, sizeLine_eq]; exact Nat.le_trans hz (Nat.le_of_lt (Nat.lt_succ_of_le (Nat.le_add_left 100000 16677215)))
 have hs2 : vs.toArray.size + (#[] : Array Value).size <= sizeLine + 1 := by rw [List.size_toArray, sizeLine_eq]; simp; exact Nat.le_trans hz (Nat.le_of_lt (Nat.lt_succ_of_le (Nat.le_add_left 100000 16677216)))
 have h' := h (s.heap.update D (Obj.mapSeq fun x => x ++ #[])) (F.change (Heap.SameBut.update ..) z.2.1 z.2.2)
 rw [e2] at h'
 refine call_meets PySem.F.slot_list_extend ⟨_, z.1, rfl⟩ PySem.F.entry_list_extend (PySem.F.args_list_extend_2 _ _) (PySem.AutoSeq1.list_extend_list_list_0 D vs.toArray n b #[] n2 hd hs1 hs2) ⟨z.1, (N _ hb).1, h' (kl_turn0 _ N a c ?_ ?_)⟩
 ·simp
 ·simp
theorem zc0 {o o' : Obj} {post : List (Addr × Obj)} : ∀ {pre : List (Addr × Obj)}, (∀ p ∈ pre, p.1 ≠ D) -> (∀ p ∈ post, p.1 ≠ D) -> Upd D o o' (pre ++ (D, o) :: post) (pre ++ (D, o') :: post)
 | [], _, h2 => .head h2
 | p :: _, h1, h2 => .tail (h1 p (.head _)) (zc0 (fun q hq => h1 q (.tail _ hq)) h2)
theorem zcU {vs ws : List Value} {n n2 : Nat} {pre post : List (Addr × Obj)} (F : Fr h₀ L s.heap m) (N : News h₀ L s.heap (pre ++ (D, W.listOf vs.toArray n) :: post)) (hb : (b, W.listOf ws.toArray n2) ∈ pre ++ (D, W.listOf vs.toArray n) :: post)
  (h1 : ∀ p ∈ pre, p.1 ≠ D) (h2 : ∀ p ∈ post, p.1 ≠ D) (hz : vs.length + ws.length <= 100000)
  (h : ∀ h' n', Fr h₀ L h' m -> News h₀ L h' (pre ++ (D, W.listOf (vs ++ ws).toArray n') :: post) -> Q .none { s with heap := h' }) : wpAny (model prog w) A (call (.builtin "list.extend") [.ref D, .ref b]) Q E s := by
 by_cases hw : ws.length = 0
 ·refine zgO F N hb hw (zc0 h1 h2) (by exact Nat.le_of_add_right_le hz) fun h' F' N' => h h' n F' ?_
  rw [List.eq_nil_of_length_eq_zero hw, List.append_nil]
  exact N'
 ·exact zjz F N hb hw (zc0 h1 h2) hz fun h' F' N' => h h' (n + 1) F' N'
end
theorem ziz 
  {R : Result -> Shared -> Prop} {name qual : Str} {params : Arguments} {body : List Stmt} {scope : Scope} {dV kV doc pm cdv ct oc : Value} {an od : Option Addr} {osl : Array (Option Value)} {f : Addr} {args : Args} {binds : List (Str × Value)} {K : Frag}
  {p : Program} {loose : List Str} {mb : Str -> Option Value}
  (B : Below A₀ base [] h₀) (F : Fr h₀ L s.heap m) (X₀ : K.In h₀) (N : News h₀ L s.heap news) (T : Top p loose mean mg mb h₀) (hA : A.frames = some [env]) (hf : env.frame = some L) (hke : env.scope.kind = .function)
  (ho : K.lookup f = some ⟨oc, od, .func (fnOf name qual params body scope dV kV doc pm an cdv ct), osl⟩) (hcd : codeIn K cdv qual = true) (hroom : A.depth < recursionLimit)
  (hbind : BindsTo s (fnOf name qual params body scope dV kV doc pm an cdv ct) args binds) (hloc : ∀ y ∈ binds, scope.names.lookup y.1 = some .local)
  (h : ∀ g L' h₁, Fr h₀ L g m -> Fr g L' h₁ (fun y => binds.reverse.lookup y) -> News g L' h₁ news -> Below A base [env] g -> K.In g -> Top p loose mean mg mb g ->
   wpAny (model prog w) (A.deeper (envOf qual scope L' f cdv)) (execs body (envOf qual scope L' f cdv))
    (fun fl s' => LeaveS0 ([env].filterMap (·.frame)) h₀ L m g R (match fl with | .ret v => v | _ => .none) s')
    (fun e s' => wpAny (model prog w) (A.deeper (envOf qual scope L' f cdv)) («leaving» (envOf qual scope L' f cdv) e) (fun _ s'' => R (.error e) s'') (fun e' s'' => R (.error e') s'') s')
    { s with heap := h₁, toks := s.toks + binds.length })
  (hco : scope.isCoroutine = false) (hgen : scope.isGenerator = false) (hk : scope.kind = .function)
  (hcell : ∀ x ∈ scope.names, x.2 ≠ .cell) : codeAny (model prog w) A (.call (.ref f) args) R s := by
 (refine cj4 (groundX (R := R) B F N hA hf hke) ?_; intro FG BG st _)
 (refine zj6 (FG.ns) ?_; intro oL es ep hLg hLd hLk hLf)
 have hNs : ∀ (sl : Array (Option Value)) h', Heap.get? h' L = some { oL with slots := sl } -> Heap.Ns h' L m := fun sl h' e => ⟨_, es, ep, e, hLd, hLk, hLf⟩
 have hL1 : [env].filterMap (·.frame) = [L] := by
  simp only [List.filterMap_cons, hf, List.filterMap_nil]
 refine codeAny_call_def (fd := fnX name qual params body scope [] dV kV doc pm an cdv ct) (body := body) (binds := binds) hroom ((X₀.keeps F.keep) _ _ ho) rfl (T.nolimit.keeps F.keep) (codeRec_of (X₀.keeps F.keep) hcd) rfl hbind hcell hloc (fun h₁ hns hk₁ => ?_) hco hgen hk
 refine wpAny_mono (h _ s.heap.objs.size h₁ FG ⟨hns, fun b o e => hk₁ b o (of_hideAll _ e), Nat.le_of_eq (hideAll_size _ _)⟩
  (fun p hp => ⟨hk₁ _ _ (N p hp).1, Nat.ne_of_lt (Heap.lt_size (N p hp).1), hideAll_none _ (List.mem_map_of_mem hp)⟩) BG (X₀.keeps st) (T.keeps st)) (fun fl s' hl => ?_) fun _ _ y => y
 (refine ziG (hl) ?_; clear hl; intro g' L' m' news' T' F' N' k)
 have nL₀ : h₀.get? L = none := kts_self F
 (refine x_E (T'.up hLg) ?_; intro sl hs)
 refine k ⟨hNs sl _ (F'.keep _ _ hs), fun b o e => F'.keep b o (T'.other b o (st b o e) (fun q => ?_)), F.above⟩ fun p hp => ⟨(N' p hp).1, fun q => ?_, ?_⟩
 ·rw [hL1] at q
  rw [List.mem_singleton.mp q, nL₀] at e
  cases e
 ·have := (N' p hp).2.2; rw [q, hs] at this; cases this
 ·cases q : h₀.get? p.1 with
  | none => rfl
  | some o =>
   (refine x_E (T'.up (st _ _ q)) ?_; intro sl' hs')
   have := (N' p hp).2.2
   rw [hs'] at this
   cases this
section
variable {Q : Flow -> Shared -> Prop}
theorem zaJ {test : Expr} {body : List Stmt} {pos : Pos} (ht : wpAny (model prog w) A (isTrue test env (eval test env)) (fun _ _ => False) E s)
  (hE : PassesOwn (model prog w) A env E) : wpAny (model prog w) A (exec (.While test body [] pos) env) Q E s := by
 refine wpAny_While (codeAny_whileLoop (fun _ s' => s' = s) ?_ 0 rfl)
 rintro n s' rfl
 exact wpAny_mono ht (fun _ _ hf => hf.elim) hE
end
theorem zog {h : Heap} {p1 p2 p3 pb pa : Addr × Obj} (N : News h₀ L h (p1 :: p2 :: p3 :: pb :: pa :: rest)) : News h₀ L h (p1 :: pa :: pb :: rest) := fun p hp => N p (by
 k_extra "q"
 ·exact .head _
 k_extra "q"
 ·exact .tail _ (.tail _ (.tail _ (.tail _ (.head _))))
 k_extra "q"
 ·exact .tail _ (.tail _ (.tail _ (.head _)))
 exact .tail _ (.tail _ (.tail _ (.tail _ (.tail _ hp)))))
noncomputable def za6 (es : List (List Int)) : Prop := es.Pairwise fun a b => llt a b = true
structure SInv (es bs : List (List Int)) (i j : Nat) : Prop where
 il : i <= es.length
 jl : j <= bs.length
 lo : ∀ x ∈ es.take i, ∀ y ∈ bs.drop j, llt x y = true
 hi : ∀ y ∈ bs.take j, ∀ x ∈ es.drop i, llt y x = true
theorem SInv.symm {es bs : List (List Int)} {i j : Nat} (h : SInv es bs i j) : SInv bs es j i := ⟨h.jl, h.il, h.hi, h.lo⟩
noncomputable def zaD (es bs : List (List Int)) (i : Nat) : List (List Int) := (es.take i).filter fun x => !bs.contains x
theorem zci {x y : List Int} (h : llt x y = true) : x ≠ y := by
 rintro rfl
 rw [zbt] at h
 cases h
theorem zhB {es bs : List (List Int)} {i : Nat} {e : List Int} (hi : es[i]? = some e) (h : e ∈ bs) : zaD es bs (i + 1) = zaD es bs i := by
 unfold zaD
 rw [List.take_add_one, hi, List.filter_append, Option.toList_some, List.filter_cons_of_neg (by simpa using h), List.filter_nil, List.append_nil]
theorem zjG {es bs : List (List Int)} {i : Nat} {e : List Int} (hi : es[i]? = some e) (h : e ∉ bs) : zaD es bs (i + 1) = zaD es bs i ++ [e] := by
 unfold zaD
 rw [List.take_add_one, hi, List.filter_append, Option.toList_some, List.filter_cons_of_pos (by simpa using h), List.filter_nil]
theorem zaL {es : List (List Int)} {i : Nat} {e : List Int} (hi : es[i]? = some e) : es.drop i = e :: es.drop (i + 1) := by
 refine bc fun hG9 => ?_; obtain ⟨h1, h2⟩ := List.getElem?_eq_some_iff.mp hi; refine hG9 ?_; clear hG9
 rw [List.drop_eq_getElem_cons h1, h2]
theorem zbd {es : List (List Int)} (hs : za6 es) {i : Nat} {e : List Int} (hi : es[i]? = some e) : ∀ x ∈ es.drop (i + 1), llt e x = true := by
 have h : za6 (es.drop i) := List.Pairwise.sublist (List.drop_sublist i es) hs
 rw [zaL hi] at h
 exact (List.pairwise_cons.mp h).1
theorem zev {es : List (List Int)} (i : Nat) {x : List Int} (h : x ∈ es) : x ∈ es.take i \/ x ∈ es.drop i := by
 rw [<- List.take_append_drop i es] at h
 exact List.mem_append.mp h
theorem zhQ {es bs : List (List Int)} {i j : Nat} {e b : List Int} (hb : za6 bs) (h : SInv es bs i j) (hi : es[i]? = some e) (hj : bs[j]? = some b) (hl : llt e b = true) : SInv es bs (i + 1) j /\ zaD es bs (i + 1) = zaD es bs i ++ [e] := by
 have hil := (List.getElem?_eq_some_iff.mp hi).1
 have hall : ∀ y ∈ bs.drop j, llt e y = true := by
  rw [zaL hj]
  exact fc hl (fun y hy => zbT _ _ _ hl (zbd hb hj y hy))
 refine ⟨⟨hil, h.jl, fun x hx y hy => ?_, fun y hy x hx => h.hi y hy x ?_⟩, zjG hi fun hm => ?_⟩
 ·rw [List.take_add_one, hi, Option.toList_some] at hx
  k_extra "Z"
  ·exact h.lo x hx y hy
  ·rw [List.mem_singleton.mp hx]; exact hall y hy
 ·rw [zaL hi]; exact .tail _ hx
 ·rcases zev j hm with hm | hm
  ·exact zci (h.hi e hm e (by rw [zaL hi]; exact .head _)) rfl
  ·exact zci (hall e hm) rfl
theorem znq {es bs : List (List Int)} {i j : Nat} {e : List Int} (he : za6 es) (hb : za6 bs) (h : SInv es bs i j) (hi : es[i]? = some e) (hj : bs[j]? = some e) : SInv es bs (i + 1) (j + 1) /\ zaD es bs (i + 1) = zaD es bs i /\ zaD bs es (j + 1) = zaD bs es j := by
 have hil := (List.getElem?_eq_some_iff.mp hi).1
 have hjl := (List.getElem?_eq_some_iff.mp hj).1
 refine ⟨⟨hil, hjl, fun x hx y hy => ?_, fun y hy x hx => ?_⟩, zhB hi (List.mem_of_getElem? hj), zhB hj (List.mem_of_getElem? hi)⟩
 ·rw [List.take_add_one, hi, Option.toList_some] at hx
  k_extra "Z"
  ·exact h.lo x hx y (by rw [zaL hj]; exact .tail _ hy)
  ·rw [List.mem_singleton.mp hx]; exact zbd hb hj y hy
 ·rw [List.take_add_one, hj, Option.toList_some] at hy
  rcases List.mem_append.mp hy with hy | hy
  ·exact h.hi y hy x (by rw [zaL hi]; exact .tail _ hx)
  ·rw [List.mem_singleton.mp hy]; exact zbd he hi x hx
theorem zpM {es bs : List (List Int)} {i j : Nat} (h : SInv es bs i j) (hd : i = es.length \/ j = bs.length) : es.filter (fun x => !bs.contains x) = zaD es bs i ++ es.drop i := by
 have e : es.filter (fun x => !bs.contains x) = zaD es bs i ++ (es.drop i).filter fun x => !bs.contains x := by
  unfold zaD
  rw [<- List.filter_append, List.take_append_drop]
 rw [e]
 congr 1
 refine List.filter_eq_self.mpr fun x hx => ?_
 simp only [Bool.not_eq_true', List.contains_eq_mem, decide_eq_false_iff_not]
 intro hm
 rcases hd with hd | hd
 ·rw [hd, List.drop_length] at hx; cases hx
 ·rcases zev j hm with hm | hm
  ·exact zci (h.hi x hm x hx) rfl
  ·rw [hd, List.drop_length] at hm; cases hm
theorem zo1 (es bs : List (List Int)) : SInv es bs 0 0 := ⟨Nat.zero_le _, Nat.zero_le _, fun x hx => (nomatch hx), fun x hx => (nomatch hx)⟩
theorem zcs (es bs : List (List Int)) (i : Nat) : (zaD es bs i).length <= es.length := Nat.le_trans (List.length_filter_le _ _) (List.length_take_le' _ _)
section
variable {D b : Addr} {news' : List (Addr × Obj)} {Q : Value -> Shared -> Prop}
theorem za7 {value slice : PySem.Expr} {vs : List Value} {v : Value} {n : Nat} {z : Int} {u : Tok} (N : News h₀ L s.heap news) (hm : (D, W.listOf vs.toArray n) ∈ news) (h0 : 0 <= z) (hz : z < 1000000) (ht : vs[z.toNat]? = some v) (h : Q v s)
  (hs : subscripted slice false (.ref D) (.int z u) = operate [.ref D, .int z u] (getItem (.ref D) (.int z u))) :
  wpAny (model prog w) A (subscriptTail value slice (.ref D) (.int z u)) Q E s := by
 have hl := zaf N hm
 exact tail_any hl.typeIs slot_list_getitem.lookup (wpAny_getItem_list hl h0 (by exact Int.lt_of_le_of_lt (Int.le_of_lt hz) (by decide)) (by rw [List.getElem?_toArray]; exact ht) h) hs
theorem zhh (vs : List Value) {x : Int} (h : 0 <= x) : (slicePick vs.toArray (some x) none none).toList = vs.drop x.toNat := by
 have e : sliceBounds (some x) none none vs.toArray.size = (((min x.toNat vs.toArray.size : Nat) : Int), ((vs.toArray.size : Nat) : Int), 1) := by
  simp only [sliceBounds, Option.getD_none, show (1 : Int) > 0 by decide, if_true, if_neg (show ¬ (x < 0) by exact Int.not_lt_of_ge h)]
  refine Prod.ext ?_ rfl
  have hk := Int.toNat_of_nonneg h
  generalize x.toNat = k at hk ⊢
  subst hk
  show max 0 (min (k : Int) (vs.toArray.size : Int)) = ((min k vs.toArray.size : Nat) : Int)
  by_cases q : k <= vs.toArray.size
  ·rw [Int.min_eq_left (Int.ofNat_le.mpr q), Nat.min_eq_left q, Int.max_eq_right (Int.natCast_nonneg _)]
  ·have q := Nat.le_of_not_le q
   rw [Int.min_eq_right (Int.ofNat_le.mpr q), Nat.min_eq_right q, Int.max_eq_right (Int.natCast_nonneg _)]
 rw [kmk_pick_nat _ e]
 show ((vs.drop (min x.toNat vs.toArray.size)).take (vs.toArray.size - min x.toNat vs.toArray.size)) = _
 rw [List.size_toArray, kmk_drop_min, List.take_of_length_le (by rw [List.length_drop]; exact Nat.sub_le_sub_left (Nat.min_le_left _ _) _)]
theorem zel {value slice : PySem.Expr} {vs : List Value} {n : Nat} {x : Int} {u : Tok} (F : Fr h₀ L s.heap m) (N : News h₀ L s.heap news) (hm : (D, W.listOf vs.toArray n) ∈ news) (h0 : 0 <= x) (hlen : vs.length <= 100000)
  (h : ∀ D h', Fr h₀ L h' m -> News h₀ L h' ((D, W.listOf (vs.drop x.toNat).toArray 0) :: news) -> (∀ p ∈ news, p.1 < D) -> Q (.ref D) { s with heap := h' })
  (hs : subscripted slice false (.ref D) (.ref s.heap.objs.size) = operate [.ref s.heap.objs.size, .ref D] (getItem (.ref D) (.ref s.heap.objs.size))) (ht : ∀ r, letTemporaryGo value (.ref D) r = pure ()) :
  wpAny (model prog w) A (subscriptTail value slice (.ref D) (.ref s.heap.objs.size)) Q E { s with heap := s.heap.push { cls := .type "slice", data := .fields #[.int x u, .none, .none] } } :=
 kmk_slice_lit F N (zaf N hm) (.int _ _) .none (zhh vs h0) h hs ht (by rw [List.size_toArray, sizeLine_eq]; exact Nat.le_trans hlen (Nat.le_of_lt (Nat.lt_succ_of_le (Nat.le_add_left 100000 16677215))))
end
theorem zn2 {v : Value} {l : List Int} (h : DatIn news v (tdat l)) : ∃ a, v = .ref a := by
 (refine zck (zaw h) ?_; intro a _ _ e _)
 exact ⟨a, e⟩
theorem zcS {vs : List Value} {es : List (List Int)} (h : DatAll news vs (es.map tdat)) {i : Nat} (hi : i < es.length) : ∃ a e, es[i]? = some e /\ vs[i]? = some (.ref a) /\ DatIn news (.ref a) (tdat e) := by
 k_extra "l"
 obtain ⟨v, h1, h2⟩ := h.get (k := i) (by rw [List.length_map]; exact hi)
 k_extra "e"
 rw [List.getElem_map] at h2
 k_extra "l"
 (refine x_E (zn2 h2) ?_; intro a q91; subst q91)
 k_extra "e"
 exact ⟨a, _, List.getElem?_eq_getElem hi, h1, h2⟩
theorem DatAll.drop : ∀ {vs : List Value} {ds : List Dat} (k : Nat), DatAll news vs ds -> DatAll news (vs.drop k) (ds.drop k)
 | _, _, 0, h => h
 | _, _, _ + 1, .nil => .nil
 | _, _, k + 1, .cons _ r => DatAll.drop k r
structure SldD where
 eA : Addr
 aA : Addr
 md : Addr
 ud : Addr
 es : List (List Int)
 bs : List (List Int)
 news : List (Addr × Obj)
structure SFr2 (d : SldD) (m : Str -> Option Value) (i j : Int) : Prop where
 e1 : m ("expected" : Str) = some (.ref d.eA)
 e2 : m ("actual" : Str) = some (.ref d.aA)
 e3 : m ("missing" : Str) = some (.ref d.md)
 e4 : m ("unexpected" : Str) = some (.ref d.ud)
 e5 : ∃ t, m ("i" : Str) = some (.int i t)
 e6 : ∃ t, m ("j" : Str) = some (.int j t)
structure SSt (d : SldD) (g : Heap) (L : Addr) (i j : Nat) (h : Heap) (m : Str -> Option Value) : Prop where
 inv : SInv d.es d.bs i j
 fr : SFr2 d m (i : Int) (j : Int)
 F : Fr g L h m
 led : ∃ ms us nm nu, DatAll d.news ms ((zaD d.es d.bs i).map tdat) /\ DatAll d.news us ((zaD d.bs d.es j).map tdat) /\ News g L h ((d.ud, W.listOf us.toArray nu) :: (d.md, W.listOf ms.toArray nm) :: d.news)
section
variable {g : Heap} {Q : Flow -> Shared -> Prop} {d : SldD}
noncomputable def SPost2 (d : SldD) (g : Heap) (L : Addr) (Q : Flow -> Shared -> Prop) (i j : Nat) (s : Shared) (f : Flow) (s₃ : Shared) : Prop :=
 match f with
 | .next | .cont => ∃ i' j' h tk m', i + j < i' + j' /\ SSt d g L i' j' h m' /\ s₃ = { s with heap := h, toks := tk }
 | .brk => Q .next s₃
 | .ret v => Q (.ret v) s₃
theorem zgA {test : Expr} {body : List Stmt} {pos : Pos} (_F : Fr g L s.heap m) (h0 : SSt d g L 0 0 s.heap m)
  (turn : ∀ i j h tk m', SSt d g L i j h m' ->
   wpAny (model prog w) A (isTrue test env (eval test env)) (fun b s₂ => if b then wpAny (model prog w) A (execs body env) (fun f s₃ => SPost2 d g L Q i j s f s₃) E s₂ else Q .next s₂) E { s with heap := h, toks := tk })
  (hE : PassesOwn (model prog w) A env E) :
  wpAny (model prog w) A (exec (.While test body [] pos) env) Q E s := by
 refine wpAny_While (codeAny_whileLoop (fun N' s' => ∃ i j h tk m', N' = d.es.length + d.bs.length - (i + j) /\ SSt d g L i j h m' /\ s' = { s with heap := h, toks := tk }) ?_ (d.es.length + d.bs.length - (0 + 0))
  ⟨0, 0, s.heap, s.toks, m, rfl, h0, rfl⟩)
 intro N' s' q92
 k_extra "l"
 (refine zcG (q92) ?_; clear q92; intro i j h tk m' q95 h1 q97; subst q95; subst q97)
 k_extra "e"
 refine wpAny_mono (turn i j h tk m' h1) (fun b s₂ hb => ?_) hE
 cases b with
 | false =>
  simp only [Bool.false_eq_true, if_false] at hb ⊢
  exact wpAny_execs_nil hb
 | true =>
  simp only [if_true] at hb ⊢
  refine wpAny_mono hb (fun f s₃ hf => ?_) hE
  cases f with
  | next =>
   k_extra "l"
   (refine zcG (hf) ?_; clear hf; intro i' j' h' tk' m'' q1 q2 q97; subst q97)
   k_extra "e"
   exact ⟨d.es.length + d.bs.length - (i' + j'), Nat.sub_lt_sub_left (Nat.lt_of_lt_of_le q1 (Nat.add_le_add q2.inv.il q2.inv.jl)) q1, i', j', h', tk', m'', rfl, q2, rfl⟩
  | cont =>
   k_extra "l"
   (refine zcG (hf) ?_; clear hf; intro i' j' h' tk' m'' q1 q2 q97; subst q97)
   k_extra "e"
   exact ⟨d.es.length + d.bs.length - (i' + j'), Nat.sub_lt_sub_left (Nat.lt_of_lt_of_le q1 (Nat.add_le_add q2.inv.il q2.inv.jl)) q1, i', j', h', tk', m'', rfl, q2, rfl⟩
  | brk => exact hf
  | ret v => exact hf
end
noncomputable def SldE (prog : Program) (w : World) (d : SldD) (A₁ : Around) (base : Heap) (outer : List Env) (env : Env) (g : Heap) (L : Addr) (K : Frag) (p : Program) (loose : List Str) (mean : ExcName -> Option Value) (mg mb : Str -> Option Value) (s : Shared) (e : Value) (s' : Shared) : Prop :=
 ∃ a g' G i j m' h' tk', e = .ref a /\ (i = d.es.length \/ j = d.bs.length) /\ SSt d g' L i j G m' /\ KtsTurn (outer.filterMap (·.frame)) g g' /\ Below A₁ base outer g' /\ K.In g' /\ Top p loose mean mg mb g' /\ zha prog w (A₁.deeper env) env outer L G a s' /\ s' = { s with heap := h', toks := tk' }
theorem slde {d : SldD} {A₁ : Around} {g : Heap} {K : Frag} {p : Program} {loose : List Str} {mb : Str -> Option Value} 
  {a : Addr} {g' G : Heap} {i j : Nat} {m' : Str -> Option Value} {h' : Heap} {tk' : Nat} {ms us : List Value} {nm nu : Nat} (h1 : i = d.es.length \/ j = d.bs.length) (hI : SInv d.es d.bs i j) (hf : SFr2 d m' (i : Int) (j : Int)) (F : Fr g' L G m')
  (hm : DatAll d.news ms ((zaD d.es d.bs i).map tdat)) (hu : DatAll d.news us ((zaD d.bs d.es j).map tdat)) (N : News g' L G ((d.ud, W.listOf us.toArray nu) :: (d.md, W.listOf ms.toArray nm) :: d.news))
  (h2 : KtsTurn (outer.filterMap (·.frame)) g g') (h3 : Below A₁ base outer g') (h4 : K.In g') (h5 : Top p loose mean mg mb g') (h6 : zha prog w (A₁.deeper env) env outer L G a { s with heap := h', toks := tk' }) :
  SldE prog w d A₁ base outer env g L K p loose mean mg mb s (.ref a) { s with heap := h', toks := tk' } := ⟨a, g', G, i, j, m', h', tk', rfl, h1, ⟨hI, hf, F, ms, us, nm, nu, hm, hu, N⟩, h2, h3, h4, h5, h6, rfl⟩
theorem zbE {d : SldD} {g : Heap} {Q : Flow -> Shared -> Prop} {i j i' j' : Nat} {h : Heap} {m' : Str -> Option Value} {ms us : List Value} {nm nu : Nat} (h1 : i + j < i' + j') (hI : SInv d.es d.bs i' j') (hf : SFr2 d m' (i' : Int) (j' : Int)) (F : Fr g L h m')
  (hm : DatAll d.news ms ((zaD d.es d.bs i').map tdat)) (hu : DatAll d.news us ((zaD d.bs d.es j').map tdat)) (N : News g L h ((d.ud, W.listOf us.toArray nu) :: (d.md, W.listOf ms.toArray nm) :: d.news)) :
  SPost2 d g L Q i j s .next { s with heap := h, toks := tk } := ⟨i', j', h, tk, m', h1, ⟨hI, hf, F, ms, us, nm, nu, hm, hu, N⟩, rfl⟩
theorem zhT {α : Type} {t : Sem α} {Q : α -> Shared -> Prop} (d : SldD) (A₁ : Around) (base : Heap) (outer : List Env) (g : Heap) (L : Addr) (K : Frag) (p : Program) (loose : List Str) (mean : ExcName -> Option Value) (mg mb : Str -> Option Value)
  (hand : ∀ e s', SldE prog w d A₁ base outer env g L K p loose mean mg mb s e s' -> E e s')
  (body : (∀ e s', SldE prog w d A₁ base outer env g L K p loose mean mg mb s e s' -> E e s') -> wpAny (model prog w) (A₁.deeper env) t Q E s) : wpAny (model prog w) (A₁.deeper env) t Q E s := body hand
example : True := by
 k_with "aI" => (refine zaW (id hit) ?_; intro o ho hc hd)
 trivial
noncomputable def LTurn {σ : Type} (h₀ : Heap) (L : Addr) (ps : σ -> List (Str × Value)) (Led : σ -> List (Addr × Obj)) (stored : List Str) (m₀ : Str -> Option Value) (Inv : σ -> Prop) (own : List (Addr × Obj)) (s₁ : Shared) (f : Flow) (s₂ : Shared) : Prop :=
 f = .next /\ ∃ c : σ, ∃ h' tk m' news', s₂ = { s₁ with heap := h', toks := tk } /\ Fr h₀ L h' m' /\ News h₀ L h' news' /\ (∀ p ∈ Led c, p ∈ news') /\ (∀ p ∈ own, p ∈ news') /\ (∀ p ∈ own, ∀ q ∈ Led c, p.1 ≠ q.1) /\
  (∀ p ∈ ps c, m' p.1 = some p.2) /\ (∀ z, (∀ p ∈ ps c, z ≠ p.1) -> stored.contains z = false -> m' z = m₀ z) /\ Inv c
theorem zaH {σ : Type} {ps : σ -> List (Str × Value)} {Led : σ -> List (Addr × Obj)} {stored : List Str} {m' : Str -> Option Value} {Inv : σ -> Prop} {news' : List (Addr × Obj)} {s₁ : Shared} {h' : Heap} (c : σ)
  (F : Fr h₀ L h' m') (N : News h₀ L h' news') (hl : ∀ p ∈ Led c, p ∈ news') (ho : ∀ p ∈ own, p ∈ news') (hof : ∀ p ∈ own, ∀ q ∈ Led c, p.1 ≠ q.1)
  (hk : ∀ p ∈ ps c, m' p.1 = some p.2) (hz : ∀ z, (∀ p ∈ ps c, z ≠ p.1) -> stored.contains z = false -> m' z = m₀ z) (hi : Inv c) :
  LTurn h₀ L ps Led stored m₀ Inv own s₁ .next { s₁ with heap := h', toks := tk } := ⟨rfl, c, h', tk, m', news', rfl, F, N, hl, ho, hof, hk, hz, hi⟩
theorem zgP {target : Expr} {I t : Addr} {i : Nat} {v : Value} {Q : Unit -> Shared -> Prop} (hit : s.heap.IsListIter I t i) (h : Q () s) :
  wpAny (model prog w) A (letOwnedTupleGo target (.ref I) v) Q E s := by
 k_extra "aI"
 unfold letOwnedTupleGo
 cases target <;> first
  | exact wpAny_pure h
  | (cases v <;> first
    | exact wpAny_pure h
    | (refine wpAny_bind (wpAny_load ho ?_); rw [hc, hd]; exact wpAny_pure h))
section
variable {body : List Stmt} {Q : Flow -> Shared -> Prop}
theorem zfV {σ : Type} {target : Expr} {l : Addr} {vs : List Value} {nn : Nat} (ps : σ -> List (Str × Value)) (Led : σ -> List (Addr × Obj)) (stored : List Str) (Inv : Nat -> σ -> Prop) (c₀ : σ)
  (hh : A.handled = none) (hl : (l, W.listOf vs.toArray nn) ∈ rest) (F : Fr h₀ env.locals s.heap m₀) (N : News h₀ env.locals s.heap (Led c₀ ++ rest))
  (hoff : ∀ p ∈ rest, ∀ q ∈ Led c₀, p.1 ≠ q.1) (hk : ∀ p ∈ ps c₀, m₀ p.1 = some p.2) (hi : Inv 0 c₀)
  (turn : ∀ (i : Nat) (v : Value) (c : σ) (u : Str -> Option Value) (s₁ : Shared) own, vs[i]? = some v -> Inv i c -> (∀ p ∈ own, ∀ q ∈ Led c, p.1 ≠ q.1) -> (∀ p ∈ rest, p ∈ own) ->
   Fr h₀ env.locals s₁.heap (kstB (fun z => if stored.contains z then u z else m₀ z) (ps c)) -> News h₀ env.locals s₁.heap (Led c ++ own) ->
   wpAny (model prog w) A (assign target env v) (fun _ s₂ => wpAny (model prog w) A (execs body env) (LTurn h₀ env.locals ps Led stored m₀ (Inv (i + 1)) own s₁) E s₂) E s₁)
  (done : ∀ (c : σ) (u : Str -> Option Value) h tk, Inv vs.length c -> (∀ p ∈ rest, ∀ q ∈ Led c, p.1 ≠ q.1) -> Fr h₀ env.locals h (kstB (fun z => if stored.contains z then u z else m₀ z) (ps c)) -> News h₀ env.locals h (Led c ++ rest) -> Q .next { s with heap := h, toks := tk }) :
  wpAny (model prog w) A (pyIter (.ref l)) (fun it s₂ => LoopAtT prog w A h₀ env target body Q E it s₂) E s := by
 have hln : (l, W.listOf vs.toArray nn) ∈ Led c₀ ++ rest := List.mem_append_right _ hl
 have hol : s.heap.get? l = some (W.listOf vs.toArray nn) := (N _ hln).1
 have hls : s.heap.IsList l vs.toArray := ⟨_, hol, rfl, nn, rfl⟩
 have hne : l ≠ s.heap.objs.size := Nat.ne_of_lt (Heap.lt_size hol)
 refine wpAny_pyIter_list hls ?_
 have Wk := Walks.list (prog := prog) (w := w) hh s.heap.objs.size l hne vs.toArray
 have hlen : vs.toArray.size = vs.length := by simp
 rw [hlen] at Wk
 have hI0 : h₀.get? s.heap.objs.size = none := next_is_new F
 refine zay _ _ _ vs.length _ _ m₀ (Led c₀ ++ rest) (fun i m nx => ∃ c, nx = Led c ++ rest /\ (∀ p ∈ rest, ∀ q ∈ Led c, p.1 ≠ q.1) /\ (∀ p ∈ ps c, m p.1 = some p.2) /\ (∀ z, (∀ p ∈ ps c, z ≠ p.1) -> stored.contains z = false -> m z = m₀ z) /\ Inv i c) rfl Wk ?_ ?_ ?_ ⟨⟨_, Heap.get?_push_size _ rfl, rfl, rfl⟩, hls.at fun o e => Heap.get?_push_of_some _ e⟩ (F.push _) (fun p hp => ⟨Heap.get?_push_of_some _ (N p hp).1, (N p hp).2⟩) ?_ ⟨c₀, rfl, hoff, hk, fun _ _ _ => rfl, hi⟩ ?_ ?_
 ·intro hm
  rcases List.mem_cons.mp hm with e | hm
  ·exact absurd F.ns.lt (e ▸ Nat.lt_irrefl _)
  ·exact (N _ hln).2.1 ((List.mem_singleton.mp hm).symm)
 ·intro b hb
  rw [List.mem_singleton.mp hb]
  exact hI0
 ·intro p hp hI
  k_extra "Y"
 ·exact fun i s' v Q' hst hq => zgP hst.1 hq
 ·intro i v m₁ news₁ s₁ own hin hP q98 hoffI hown hget hfp hst F₁ N₁
  k_extra "l"
  (refine zcF (q98) ?_; clear q98; intro c q91 hof h1 h2 hI; subst q91)
  k_extra "e"
  have hP' : vs[i]? = some v := by simpa using hP
  k_extra "l"
  obtain ⟨⟨oI, hoI, _⟩, _⟩ := id hst
  k_extra "e"
  have hIown : (s.heap.objs.size, oI) ∈ own.filter fun p => decide (p.1 = s.heap.objs.size) := List.mem_filter.mpr ⟨hfp _ (List.mem_cons.mpr (.inl rfl)) hI0 _ hoI, by simp⟩
  have hlo : s₁.heap.get? l = some (W.listOf vs.toArray nn) := (N₁ _ (List.mem_append_right _ (List.mem_append_right _ hl))).1
  have hofw : ∀ p ∈ rest ++ own.filter (fun p => decide (p.1 = s.heap.objs.size)), ∀ q ∈ Led c, p.1 ≠ q.1 := by
   intro p hp q hq e
   k_extra "n"
   ·exact hof p hp q hq e
   ·have h3 : p.1 = s.heap.objs.size := by simpa using (List.mem_filter.mp hp).2
    exact hoffI q (List.mem_append_left _ hq) (List.mem_singleton.mpr (e ▸ h3))
  have N₂ : News h₀ env.locals s₁.heap (Led c ++ (rest ++ own.filter fun p => decide (p.1 = s.heap.objs.size))) := fun p hp => N₁ p (by
   k_extra "n"
   ·exact List.mem_append_right _ (List.mem_append_left _ hp)
   ·rcases List.mem_append.mp hp with hp | hp
    ·exact List.mem_append_right _ (List.mem_append_right _ hp)
    ·exact List.mem_append_left _ (List.mem_filter.mp hp).1)
  refine wpAny_mono (turn i v c m₁ s₁ _ hP' hI hofw (fun p hp => List.mem_append_left _ hp) (zc2 h1 h2 F₁) N₂) (fun _ s₂ p => wpAny_mono p (fun f s₃ p => ?_) fun _ _ e => e) fun _ _ e => e
  k_extra "l"
  (refine zbb (p) ?_; clear p; intro q90 c' h' tk' m' news' q96 F' N' ha hb hc hd he hJ; subst q90; subst q96)
  k_extra "e"
  refine ⟨rfl, h', tk', m', Led c' ++ rest, rfl, F', fun p hp => ?_, fun p hp hq => ?_, c', rfl, fun p hp => hc p (List.mem_append_left _ hp), hd, he, hJ⟩
  ·rcases List.mem_append.mp hp with h | h
   ·by_cases hI : p.1 = s.heap.objs.size
    ·exact N' p (hb p (List.mem_append_right _ (List.mem_filter.mpr ⟨h, by simpa using hI⟩)))
    ·have h1 : p.1 = l := by
      rcases List.mem_cons.mp (hown p h) with h2 | h2
      ·exact absurd h2 hI
      ·exact List.mem_singleton.mp h2
     have h2 : s₁.heap.get? p.1 = some p.2 := hget p h
     rw [h1, hlo] at h2
     have h3 : p = (l, W.listOf vs.toArray nn) := Prod.ext h1 (Option.some.inj h2).symm
     rw [h3]
     exact N' _ (hb _ (List.mem_append_left _ hl))
   ·rcases List.mem_append.mp h with h | h
    ·exact N' p (ha p h)
    ·exact N' p (hb p (List.mem_append_left _ h))
  ·rcases List.mem_append.mp hp with hp | hp
   ·exact hc _ (List.mem_append_right _ hIown) p hp (List.mem_singleton.mp hq).symm
   ·exact hoffI p (List.mem_append_right _ hp) hq
 ·intro h' tk m' news' F' N' _ q97
  k_extra "l"
  (refine zcF (q97) ?_; clear q97; intro c q91 hof h1 h2 hI; subst q91)
  k_extra "e"
  exact done c m' h' tk hI hof (zc2 h1 h2 F') N'
theorem zoc {a b c : Str} {pa pb pc tp : Pos} {x1 : Nat} {t : Addr} {v1 v2 v3 : Value} {n : Nat} {R : Unit -> Shared -> Prop} (hh : A.handled = none) (F : Fr h₀ L s.heap m) (N : News h₀ L s.heap news)
  (hm : (t, ({ cls := .type "tuple", data := .seq #[v1, v2, v3] n } : Obj)) ∈ news)
  (h : ∀ h', Fr h₀ L h' m -> News h₀ L h' news -> wpAny (model prog w) A (assign (.Name a pa) env v1) (fun _ s₁ => wpAny (model prog w) A (assign (.Name b pb) env v2) (fun _ s₂ => wpAny (model prog w) A (assign (.Name c pc) env v3) R E s₂) E s₁) E { s with heap := h' }) :
  wpAny (model prog w) A (assign (.Tuple [.Name a pa, .Name b pb, .Name c pc] x1 tp) env (.ref t)) R E s := by
 refine wpAny_assign_Tuple hh (N.isTup hm) rfl rfl fun h₃ hx => ?_
 have keep : ∀ b o, s.heap.get? b = some o -> h₃.get? b = some o := fun b o e => hx b o (Nat.ne_of_lt (Heap.lt_size e)) e
 have hw := h h₃ (zei F keep) (zbK N keep)
 show wpAny _ A (do holding [v2, v3] (assign (.Name a pa) env v1); do holding [v3] (assign (.Name b pb) env v2); do holding [] (assign (.Name c pc) env v3); pure ()) _ _ _
 refine wpAny_bind (wpAny_holding (wpAny_mono hw (fun _ _ h1 => wpAny_bind (wpAny_holding (wpAny_mono h1 (fun _ _ h2 => wpAny_bind (wpAny_holding (wpAny_mono h2 (fun _ _ h3 => wpAny_pure h3) fun _ _ e => e))) fun _ _ e => e))) fun _ _ e => e))
theorem zov {value slice : Expr} {t : Addr} {l : List Value} {n : Nat} {k : Int} {u : Tok} {j : Nat} {x : Value} {R : Value -> Shared -> Prop} (N : News h₀ L s.heap news) (hm : (t, ({ cls := .type "tuple", data := .seq l.toArray n } : Obj)) ∈ news)
  (hlo : -(2 ^ 63) <= k) (hhi : k < 2 ^ 63) (hj : seqIndex? k l.length = some j) (hx : l[j]? = some x) (h : R x s)
  (hs : subscripted slice false (.ref t) (.int k u) = operate [.ref t, .int k u] (getItem (.ref t) (.int k u))) :
  wpAny (model prog w) A (subscriptTail value slice (.ref t) (.int k u)) R E s := item_tupleT (N.isTup hm) hlo hhi hj hx h hs
end
example : True := by
 k_with "ae" => (refine zb6 (zhW X) ?_; intro od cd sl hC hm hb hd hdi h4)
 k_with "aq" => refine KFB.if_not (by simp) ?_
 trivial
theorem zb0 {R : Result -> Shared -> Prop} {i owner n : String} {self : Value} {rest : List Value} {kw : List (Str × Value)} {b : Builtin} (hq : plainId i = true) (hb : entryFor table i = some b)
  (hk : builtinKind i = some .slot) (hs : splitId i = some (owner, n)) (hi : Looks (model prog w) s.heap (isInstance self (.type owner)) true) (ha : argsOk i ⟨self :: rest, kw⟩)
  (h : wpAny (model prog w) A.in1 (b ⟨self :: rest, kw⟩) (fun fin s' => match fin with | .done f => R (.ok f) s' | .again c' => c'.quiet = true /\ codeAny (model prog w) A c' R s') (fun e s' => R (.error e) s') s) :
  codeAny (model prog w) A (.call (.builtin i) ⟨self :: rest, kw⟩) R s := codeAny_call_builtin hq hb (check_slot hk hs hi ha h)
theorem zef {R : Result -> Shared -> Prop} {i owner n : String} {self : Value} {rest : List Value} {kw : List (Str × Value)} {b : Builtin} (hq : (Code.builtin i ⟨self :: rest, kw⟩).quiet = true) (hb : entryFor table i = some b)
  (hk : builtinKind i = some .slot) (hs : splitId i = some (owner, n)) (hi : Looks (model prog w) s.heap (isInstance self (.type owner)) true) (ha : argsOk i ⟨self :: rest, kw⟩)
  (h : wpAny (model prog w) (A.under (.builtin i ⟨self :: rest, kw⟩)) (b ⟨self :: rest, kw⟩) (fun fin s' => match fin with | .done f => R (.ok f) s' | .again c' => c'.quiet = true /\ codeAny (model prog w) A c' R s') (fun e s' => R (.error e) s') s) :
  codeAny (model prog w) A (.call (.builtin i) ⟨self :: rest, kw⟩) R s := codeAny_call_builtin_at hq hb (check_slot hk hs hi ha h)
theorem zgK : plainId "tuple.__new__" = true := by decide +kernel
theorem zgN : entryFor table "tuple.__new__" = some Builtin.«tuple.__new__» := entryFor_of_tree (by kernel_rfl)
theorem zbg : Bind.madeBy (.type "tuple") = pure (some "tuple.__new__") := by
 unfold Bind.madeBy
 rw [show mroOf (.type "tuple") = pure [.type "tuple", .type "object"] from by kernel_rfl]
 kernel_rfl
theorem zhW {P : Params} {h : Heap} (X : (K P).In h) : ∃ od cd sl, h.get? 135 = some ⟨.type "type", od, .cls cd, sl⟩ /\ cd.mro = [.ref 135, .type "tuple", .type "object"] /\ cd.bases = [.type "tuple"] /\ cd.hasDel = false /\ cd.hasDict = false /\ sl[4]? = some (some .none) :=
 ⟨_, _, _, X _ _ rfl, rfl, rfl, rfl, rfl, rfl⟩
section
variable {h : Heap}
theorem ziU {P : Params} (X : (K P).In h) : Looks M h (mroOf (.ref 135)) [.ref 135, .type "tuple", .type "object"] := by
 (refine zbk (zhW X) ?_; intro od cd sl hC hm _)
 have this : Looks M h (mroOf (.ref 135)) cd.mro := ((Looks.ld (part := none) hC).andThen .now).andThen .now
 rw [hm] at this
 exact this
theorem zfz {P : Params} (X : (K P).In h) : Looks M h (Bind.madeBy (.ref 135)) none := by
 have hM := ziU (M := M) X
 k_extra "ae"
 intro A Q E s k q
 unfold Bind.madeBy
 refine wpAny_bind (hM A _ E s k ?_)
 rw [List.forIn_cons]
 refine wpAny_bind (wpAny_bind (wpAny_bind (wpAny_bind (wpAny_loadPart (k _ _ hC) (wpAny_pure ?_)))))
 dsimp only
 rw [h4]
 exact wpAny_pure (wpAny_pure (wpAny_pure q))
theorem znA {P : Params} (X : (K P).In h) : Looks M h (Bind.staticBase (.ref 135)) (.type "tuple") := by
 have hM := ziU (M := M) X
 have hm1 := zfz (M := M) X
 k_extra "ae"
 intro A Q E s k q
 unfold Bind.staticBase
 refine wpAny_bind (hM A _ E s k ?_)
 rw [List.forIn_cons]
 refine wpAny_bind (wpAny_bind (wpAny_bind (hm1 A _ E s k ?_)))
 k_extra "T"
 dsimp only
 k_extra "5"
 unfold classData
 refine wpAny_bind (wpAny_load (k _ _ hC) ?_)
 k_extra "W"
 rw [hb]
 refine wpAny_bind (wpAny_of_eq (a := Value.type "tuple") (by kernel_rfl) ?_)
 k_extra "W"
 dsimp only
 rw [List.forIn_cons]
 refine wpAny_bind (wpAny_bind ?_)
 dsimp only
 refine wpAny_of_eq zbg ?_
 refine KFB.if_so rfl ?_
 exact wpAny_pure (wpAny_pure (wpAny_pure q))
theorem zg9 {P : Params} (X : (K P).In h) : Looks M h (isType (.ref 135)) true := by
 (refine zck (zhW X) ?_; intro od cd sl hC _)
 exact (Looks.ld hC).andThen .now
theorem zk9 {P : Params} (X : (K P).In h) : Looks M h (isSubtype (.ref 135) (.type "tuple")) true := looks_mroIn X (by kernel_rfl)
theorem ziT {P : Params} (X : (K P).In h) : Looks M h (typeLookup (.ref 135) "__init__") (some (.builtin "object.__init__")) := looks_findIn X (by kernel_rfl)
theorem zgt : (Manifest.canonical "tuple.__new__" != Manifest.canonical "tuple.__new__") = false := by simp
theorem zic : builtinKind "tuple.__new__" = some .builtinFn := by decide +kernel
theorem zgC : splitId "tuple.__new__" = some ("tuple", "__new__") := by decide +kernel
noncomputable def ze6 : Manifest.Signature := (Manifest.signature? "tuple.__new__").getD ⟨.hand, "", "", .none, []⟩
theorem zja : Manifest.signature? "tuple.__new__" = some ze6 := by unfold ze6; first | kernel_rfl | rfl
theorem zjt {a b : Value} : Bind.checkArgs "tuple.__new__" ze6 ⟨[a, b], []⟩ = pure () := by kernel_rfl
end
section
variable {P : Params}
theorem zoz {tp : Addr} {o : Obj} {n : Nat} {Q : Value -> Shared -> Prop} (X : (K P).In s.heap) (ho : s.heap.get? tp = some o) (hc : o.cls = .type "tuple") (hd : o.data = .seq items n) (hsz : items.size <= sizeLine)
  (hq : ∀ x d h', (∀ b o', s.heap.get? b = some o' -> h'.get? b = some o') -> h'.get? x = some { cls := .ref 135, dict := some d, data := .seq items } -> h'.get? d = some { cls := .type "dict", data := .dict #[] } -> (∀ b o', s.heap.get? b = some o' -> b < d) -> d < x -> Q (.ref x) { s with heap := h' }) :
  wpAny (model prog w) A (call (.builtin "tuple.__new__") [.ref 135, .ref tp]) Q E s := by
 have i1 := zg9 (M := model prog w) X
 have i2 := zk9 (M := model prog w) X
 have i3 := znA (M := model prog w) X
 have i4 := ziT (M := model prog w) X
 refine wpAny_call (codeAny_call_builtin zgK zgN ?_)
 delta checkBuiltinCall
 dsimp only
 rw [zic, zgC, zja]
 dsimp only
 rw [zjt]
 refine KFB.if_so (by decide) ?_
 refine wpAny_bind (i1.here ?_)
 k_extra "T"
 refine wpAny_bind (i2.here ?_)
 k_extra "T"
 refine wpAny_bind (i3.here ?_)
 refine wpAny_bind (wpAny_of_eq zbg ?_)
 try dsimp only
 refine KFB.if_not zgt ?_
 k_extra "W"
 unfold Builtin.«tuple.__new__»
 refine wpAny_bind (i1.here ?_)
 k_extra "T"
 refine wpAny_bind (i2.here ?_)
 k_extra "T"
 try dsimp only
 unfold Bind.madeHere
 refine wpAny_bind (wpAny_bind (i3.here (wpAny_bind (wpAny_of_eq zbg ?_))))
 k_extra "aq"
 k_extra "W"
 refine wpAny_bind (i4.here ?_)
 refine KFB.if_so (by decide) ?_
 refine wpAny_bind (wpAny_of_eq (a := ()) (by kernel_rfl) ?_)
 refine wpAny_bind (wpAny_of_eq (a := ()) (by kernel_rfl) ?_)
 try dsimp only
 refine wpAny_bind (wpAny_collect_seq tp (T := "tuple") (.inr rfl) ho hc hd (fun h' hk => ?_) hsz)
 k_extra "aJ"
 refine wpAny_bind (wpAny_alloc ?_)
 (refine ziR (zhW X) ?_; intro od cd sl hC hm hb hdel _)
 unfold newObj
 rw [Array.toArray_toList]
 dsimp only
 rw [if_neg (by exact Nat.not_lt.mpr hsz)]
 unfold newObjAsIs classHasDel
 refine wpAny_bind (wpAny_bind (wpAny_alloc (wpAny_bind (wpAny_bind (wpAny_load (Heap.get?_push_of_some _ (Heap.get?_push_of_some _ (hk _ _ hC))) (wpAny_pure ?_))))))
 rw [hdel]
 refine wpAny_pure (wpAny_pure ?_)
 refine hq _ h'.objs.size _ (fun b o' hb => Heap.get?_push_of_some _ (Heap.get?_push_of_some _ (hk b o' hb))) (Heap.get?_push_size _ rfl) (Heap.get?_push_of_some _ (Heap.get?_push_size _ rfl)) (fun b o' hb => Heap.lt_size (hk b o' hb)) ?_
 show h'.objs.size < (h'.push _).objs.size
 rw [Heap.size_push]
 exact Nat.lt_succ_self _
end
noncomputable def zpC (P : Params) (R : Result -> Shared -> Prop) (r : Result) (s' : Shared) : Prop := match r with
 | .ok (.ret v) => ∃ x ox, v = .ref x /\ s'.heap.get? x = some ox /\ ox.cls = .ref 135 /\ (K P).In s'.heap /\ R (.ok (.ret v)) s'
 | .ok _ => False
 | .error e => R (.error e) s'
theorem zjF (a : Value) (rest : List Value) : argsOk "object.__init__" ⟨a :: rest, []⟩ := by unfold argsOk; kernel_rfl
section
variable {R : Result -> Shared -> Prop} 
theorem znK {rest : List Value} (F : Fr h₀ L s.heap m) (X₀ : (K w.params).In h₀)
  (hq : codeAny (model prog w) (A.under (.builtin "type.__call__" ⟨.ref 135 :: rest, []⟩)) (.call (.ref 82) ⟨.ref 135 :: rest, []⟩) (zpC w.params R) { s with toks := s.toks + 1 }) :
  codeAny (model prog w) A (.call (.ref 135) ⟨rest, []⟩) R s := by
 have X := X₀.keeps F.keep
 k_extra "ae"
 have call : Looks (model prog w) s.heap (specialOf (.ref 135) "__call__") (some (.builtin "type.__call__")) := looks_specialIn X (by kernel_rfl)
 have typ : Looks (model prog w) s.heap (isInstance (.ref 135) (.type "type")) true := looks_instIn X (by kernel_rfl)
 refine codeAny_of_tree ?_
 show wpAny _ _ (callAny (.ref 135) _) _ _ _
 refine nd_load hC ?_
 show wpAny _ _ (callAny.viaDunder (.ref 135) _) _ _ _
 unfold callAny.viaDunder
 refine wpAny_bind (call.here ?_)
 dsimp only
 rw [tc_bind]
 refine wpAny_bind (wpAny_pure (wpAny_bind (wpAny_pure ?_)))
 refine wpAny_pure (a := Fin.again (.call (.builtin "type.__call__") ⟨.ref 135 :: rest, []⟩)) (And.intro rfl ?_)
 refine zef (Code.quiet_builtin _ (by decide +kernel)) entry_typeCall tc_kind tc_split typ (tc_args _ _ _) ?_
 unfold Builtin.«type.__call__»
 have hM := ziU (M := model prog w) X
 have hMade := zfz (M := model prog w) X
 k_extra "aq"
 dsimp only
 refine wpAny_bind (hM.here ?_)
 k_extra "T"
 refine wpAny_bind (hMade.here ?_)
 dsimp only
 k_extra "5"
 have hcls : findCls (K w.params) (.ref 135) (.type "type") "__new__" = some (.get (.builtin "staticmethod.__get__") (.ref 136) .none (.ref 135)) := by kernel_rfl
 refine cls_sm F X₀ (mc := .type "type") (by kernel_rfl) (by kernel_rfl) hcls (f := .ref 82) (rest := []) (by kernel_rfl) rfl ?_
 refine wpAny_bind (wpAny_holding (wpAny_call ?_))
 refine codeAny_mono hq fun r s' z => ?_
 rcases r with e | (v | _ | _ | _) <;> first | exact z | exact z.elim | skip
 k_extra "l"
 (refine zbp (z) ?_; intro x ox q92 hx hcx X' z; subst q92)
 k_extra "e"
 have t1 : Looks (model prog w) s'.heap (typeOf (.ref x)) (.ref 135) := by rw [<- hcx]; exact (Looks.ld hx).andThen .now
 dsimp only
 have s1 : Looks (model prog w) s'.heap (isSubtype (.ref 135) (.ref 135)) true := looks_mroIn X' (by kernel_rfl)
 have i1 := ziT (M := model prog w) X'
 have b1 : Looks (model prog w) s'.heap (bindSpecial (.builtin "object.__init__") (.ref x)) (.builtin "object.__init__", [.ref x]) := Looks.of_pure (oi_bind (.ref x))
 have m1 := zfz (M := model prog w) X'
 have o1 : Looks (model prog w) s'.heap (isInstance (.ref x) (.type "object")) true := t1.andThen (looks_mroIn X' (by kernel_rfl))
 have n1 : Looks (model prog w) s'.heap (isInstance (.ref x) (.ref 135)) true := t1.andThen s1
 refine wpAny_bind (n1.here ?_)
 k_extra "T"
 refine wpAny_bind (wpAny_holding ?_)
 unfold callSpecial? specialOf
 refine wpAny_bind (wpAny_bind (t1.here (i1.here ?_)))
 dsimp only
 refine wpAny_holding (wpAny_bind (b1.here ?_))
 dsimp only
 refine wpAny_bind (wpAny_call ?_)
 show codeAny _ _ (.call (.builtin "object.__init__") ⟨.ref x :: rest, []⟩) _ _
 refine zb0 oi_plain entry_oi oi_kind oi_split o1 (zjF _ _) ?_
 have fin : wpAny (model prog w) (A.under (.builtin "type.__call__" ⟨.ref 135 :: rest, []⟩)).in1 (Builtin.«object.__init__» ⟨.ref x :: rest, []⟩) (fun f s₂ => f = .done (.ret .none) /\ s₂ = s') (fun _ _ => False) s' := by
  unfold Builtin.«object.__init__»
  dsimp only
  split
  ·refine wpAny_bind (t1.here ?_)
   refine wpAny_bind (i1.here ?_)
   refine wpAny_bind (m1.here ?_)
   refine KFB.if_not (by decide) ?_
   k_extra "aq"
   exact wpAny_pure ⟨rfl, rfl⟩
  ·exact wpAny_pure ⟨rfl, rfl⟩
 refine wpAny_mono fin (fun f s₂ hf => ?_) fun _ _ hf => hf.elim
 k_extra "l"
 (refine cj2 (hf) ?_; clear hf; intro q90 q91; subst q90; subst q91)
 k_extra "e"
 dsimp only
 exact wpAny_pure (wpAny_pure z)
end
example : True := by
 k_with "aE" => have i1 := zhZ (M := model prog w) X hx hc
 k_with "aF" => refine KFB.if_not (by rw [h1, h2, h3]; rfl) ?_
 k_with "4" => (refine wpAny_bind (wpAny_holding ?_); unfold Builtin.List.listLengthHint)
 trivial
theorem zdm {it t : Addr} {i nn : Nat} {ol : Obj} {x : Value} {Q : Option Value -> Shared -> Prop} (hit : s.heap.IsTupleIter it t i)
  (hol : s.heap.get? t = some ol) (hdl : ol.data = .seq items nn) (hx : items[i]? = some x)
  (hQ : ∀ h', h'.IsTupleIter it t (i + 1) -> Heap.SameBut it s.heap h' -> Q (some x) { s with heap := h' }) :
  wpAny (model prog w) A (pyNext (.ref it)) Q E s := by
 k_extra "aI"
 unfold pyNext
 refine wpAny_bind (wpAny_attempt (wpAny_callSpecial?_slot (name := Str.ofString "__next__") hit.typeIs F.slot_tuple_iterator_next
  (wpAny_call_entry F.slot_tuple_iterator_next hit.typeIs F.entry_tuple_iterator_next ?_ (F.args_tuple_iterator_next_1 _))))
 refine wpAny_bind (m := field (.ref it) 0) (wpAny_field ho hd (x := .ref t) rfl ?_)
 k_extra "aq"
 refine wpAny_bind (m := field (.ref it) 1) (wpAny_field ho hd (x := .int i 0) rfl ?_)
 refine wpAny_bind (m := seqItems? (.ref t)) (wpAny_seqItems hol hdl ?_)
 dsimp only
 rw [Int.toNat_natCast, hx]
 dsimp only
 refine wpAny_bind (wpAny_setField ho hd (by simp) (wpAny_pure ⟨x, rfl, wpAny_pure (hQ _ ?_ (Heap.SameBut.update ..))⟩))
 exact ⟨_, Heap.get?_update_self _ ho (Obj.isFreed_of_fields (Obj.data_mapFields hd _)), (Obj.cls_mapFields ..).trans hc, by
  rw [Obj.data_mapFields hd]; simp [rawInt]⟩
theorem zey {it t : Addr} {i nn : Nat} {ol : Obj} {Q : Option Value -> Shared -> Prop} (hh : A.handled = none)
  (hit : s.heap.IsTupleIter it t i) (hol : s.heap.get? t = some ol) (hdl : ol.data = .seq items nn) (hx : items[i]? = none)
  (hQ : ∀ h', Heap.ExtBut it s.heap h' -> Q none { s with heap := h' }) : wpAny (model prog w) A (pyNext (.ref it)) Q E s := by
 k_extra "aI"
 unfold pyNext
 refine wpAny_bind (wpAny_attempt (wpAny_callSpecial?_slot (name := Str.ofString "__next__") hit.typeIs F.slot_tuple_iterator_next
  (wpAny_call_entry F.slot_tuple_iterator_next hit.typeIs F.entry_tuple_iterator_next ?_ (F.args_tuple_iterator_next_1 _))))
 refine wpAny_bind (m := field (.ref it) 0) (wpAny_field ho hd (x := .ref t) rfl ?_)
 k_extra "aq"
 refine wpAny_bind (m := field (.ref it) 1) (wpAny_field ho hd (x := .int i 0) rfl ?_)
 refine wpAny_bind (m := seqItems? (.ref t)) (wpAny_seqItems hol hdl ?_)
 dsimp only
 rw [Int.toNat_natCast, hx]
 dsimp only
 refine wpAny_bind (wpAny_rule (wpAny_bind (wpAny_setField ho hd (by simp) ?_)))
 refine wpAny_bind (m := newExc (.type "StopIteration") []) ?_
 refine wpAny_bind (wpAny_newObj_type ?_ (by size_fits))
 refine wpAny_bind (m := firstArgMember _ _) (wpAny_of_eq (a := Value.none) (by first | rfl | (simp only [firstArgMember]; rfl)) ?_)
 refine wpAny_newObj_type ?_ (by size_fits)
 refine wpAny_bind (wpAny_handled ?_)
 first | rw [show A.in1.handled = none from hh] | rw [hh]
 refine wpAny_bind (wpAny_pure (wpAny_throw ?_))
 refine wpAny_bind (wpAny_isInstance (T := "StopIteration") (b := true) ⟨_, Heap.get?_push_size _ rfl, rfl⟩ isSubtype_stop ?_)
 exact wpAny_pure (hQ _ (((Heap.SameBut.update ..).extBut.push _).push _))
theorem zg7 {R : Result -> Shared -> Prop} (hh : A.in1.handled = none) {S I x : Addr} {nn : Nat} {res : Value} (hdx : ox.data = .seq items nn) (h1 : S ≠ I) (h2 : S ≠ x) (h3 : I ≠ x) (hsz : items.size <= 1000) :
  ∀ (k i : Nat) (s : Shared) (acc : Array Value) (c : Nat), items.size - i = k -> i <= items.size -> acc = (items.toList.take i).toArray -> s.heap.IsTupleIter I x i -> s.heap.get? x = some ox -> s.heap.get? S = some { cls := .type "list", data := .seq acc c } ->
   (∀ h' c', (∀ b o, b ≠ S -> b ≠ I -> s.heap.get? b = some o -> h'.get? b = some o) -> h'.get? S = some { cls := .type "list", data := .seq items c' } -> R (.ok (.ret res)) { s with heap := h' }) ->
   codeAny (model prog w) A (.builtin "list.extend.loop" ⟨[.ref S, .ref I, res], []⟩) R s := by
 intro k
 induction k with
 | zero =>
  intro i s acc c hk hi hacc hit hx hS hR
  obtain rfl : i = items.size := by lia
  refine codeAny_builtin F.entry_extend_loop ?_
  rw [Around.under_plainId F.plain_extend_loop _]
  refine wpAny_bind (m := pyNext (.ref I)) (zey hh hit hx hdx (by simp) fun h' he => ?_)
  have e : acc = items := by rw [hacc]; rw [List.take_of_length_le (by simp)]
  exact wpAny_pure (hR h' c (fun b o _ hb e => he b o hb e) (by rw [<- e]; exact he S _ h1 hS))
 | succ k ih =>
  intro i s acc c hk hi hacc hit hx hS hR
  have hlt : i < items.size := by exact Nat.lt_of_sub_eq_succ hk
  refine codeAny_builtin F.entry_extend_loop ?_
  rw [Around.under_plainId F.plain_extend_loop _]
  refine wpAny_bind (m := pyNext (.ref I)) (zdm hit hx hdx (x := items[i]) (by simp [hlt]) fun h' hit' hs' => ?_)
  have hS' := hs'.extBut S _ h1 hS
  have hx' := hs'.extBut x _ (Ne.symm h3) hx
  have hac : acc.size = i := by rw [hacc]; simp; exact Nat.min_eq_left hi
  refine wpAny_bind (m := updateSeq S (·.push items[i])) (wpAny_updateSeq hS' rfl (wpAny_pure ⟨plainId_quiet F.plain_extend_loop _, ih (i + 1) _ (acc.push items[i]) _ (by lia) hlt ?_ ?_ ?_ (Heap.get?_update_self _ hS' rfl) fun h'' c' hk' hS'' => ?_⟩) (by rw [hac]; have : sizeLine = 2 ^ 24 := (by decide); lia) (by show (acc.push items[i]).size <= sizeLine + 1; rw [Array.size_push, hac]; have : sizeLine = 2 ^ 24 := (by decide); lia))
  ·rw [hacc, List.take_add_one]
   simp [hlt]
  ·exact hit'.extBut (fun b o hb e => (Heap.get?_update_other _ _ (Ne.symm hb)).trans e) (Ne.symm h1)
  ·exact (Heap.get?_update_other _ _ h2).trans hx'
  ·exact hR h'' c' (fun b o hb hb2 e => hk' b o hb hb2 ((Heap.get?_update_other _ _ (Ne.symm hb)).trans (hs'.extBut b o hb2 e))) hS''
theorem zgv : builtinKind "tuple.__iter__" = some .slot := by decide +kernel
theorem ziE : builtinKind "tuple.__len__" = some .slot := by decide +kernel
theorem ze5 : splitId "tuple.__iter__" = some ("tuple", "__iter__") := by decide +kernel
theorem zdv : splitId "tuple.__len__" = some ("tuple", "__len__") := by decide +kernel
section
variable {h : Heap} {x : Addr} {P : Params}
theorem zcc (hx : h.get? x = some ox) (hc : ox.cls = .ref 135) : Looks M h (typeOf (.ref x)) (.ref 135) := by rw [<- hc]; exact (Looks.ld hx).andThen .now
theorem zhw (X : (K P).In h) (hx : h.get? x = some ox) (hc : ox.cls = .ref 135) : Looks M h (specialOf (.ref x) "__iter__") (some (.builtin "tuple.__iter__")) := (zcc hx hc).andThen (looks_findIn X (by kernel_rfl))
theorem zm6 (X : (K P).In h) (hx : h.get? x = some ox) (hc : ox.cls = .ref 135) : Looks M h (specialOf (.ref x) "__len__") (some (.builtin "tuple.__len__")) := (zcc hx hc).andThen (looks_findIn X (by kernel_rfl))
theorem zhZ (X : (K P).In h) (hx : h.get? x = some ox) (hc : ox.cls = .ref 135) : Looks M h (isInstance (.ref x) (.type "tuple")) true := (zcc hx hc).andThen (zk9 X)
end
section
variable {P : Params} {x : Addr} {nn : Nat}
theorem zdx {Q : Value -> Shared -> Prop} (X : (K P).In s.heap) (hx : s.heap.get? x = some ox) (hc : ox.cls = .ref 135)
  (hQ : Q (.ref s.heap.objs.size) { s with heap := s.heap.push { cls := .type "tuple_iterator", data := .fields #[.ref x, .int 0 0] } }) : wpAny (model prog w) A (pyIter (.ref x)) Q E s := by
 have l1 := zhw (M := model prog w) X hx hc
 k_extra "aE"
 unfold pyIter
 refine wpAny_bind (l1.here ?_)
 dsimp only
 k_extra "5"
 unfold callSpecialIfBoundUnlessNone? bindSpecialIfBound?
 refine wpAny_holding (wpAny_bind (wpAny_bind (l1.here ?_)))
 dsimp only
 rw [F.slot_tuple_iter.bind]
 refine wpAny_bind (wpAny_askSetting (wpAny_ite ?_))
 have fin : wpAny (model prog w) A (if (Value.builtin "tuple.__iter__" == Value.none) = true then ((do rule "iter.none"; raiseError "TypeError" s!"'{← typeNameOf (.ref x)}' object is not iterable") >>= fun v => pure (some v)) else (call (.builtin "tuple.__iter__") [.ref x] >>= fun v => pure (some v)))
   (fun a s' => wpAny (model prog w) A (match a with
   | some it =>
    specialOf it "__next__" >>= fun y => match y with
    | none => do rule "iter.non-iterator"; raiseError "TypeError" s!"iter() returned non-iterator of type '{← typeNameOf it}'"
    | some _ => pure it
   | none =>
    bindSpecialIfBound? (.ref x) "__getitem__" >>= fun y => match y with
    | none => do rule "iter.not-iterable"; raiseError "TypeError" s!"'{← typeNameOf (.ref x)}' object is not iterable"
    | some _ => do rule "iter.getitem-fallback"; newFields "iterator" [.ref x, <- mkInt 0]) Q E s') E s := by
  refine KFB.if_not (by decide) ?_
  refine wpAny_bind (wpAny_call (zb0 F.slot_tuple_iter.plain F.entry_tuple_iter zgv ze5 i1 (F.args_tuple_iter_1 _) ?_))
  refine wpAny_bind (m := newFields "tuple_iterator" [.ref x, rawInt 0]) (wpAny_newObj_type (wpAny_pure ?_))
  k_extra "W"
  dsimp only
  refine wpAny_bind (wpAny_specialOf (T := "tuple_iterator") ⟨_, Heap.get?_push_size _ rfl, rfl⟩ F.slot_tuple_iterator_next.lookup (wpAny_pure hQ))
 split
 ·exact wpAny_bind (wpAny_pure (wpAny_pure fin))
 ·exact wpAny_tryCatch (wpAny_bind (wpAny_pure (wpAny_pure fin)))
theorem zeQ {Q : Value -> Shared -> Prop} (X : (K P).In s.heap) (hx : s.heap.get? x = some ox) (hc : ox.cls = .ref 135) (hd : ox.data = .seq items nn) (hsz : items.size <= 1000)
  (h : Q (.int items.size (s.toks + 1)) { s with toks := s.toks + 1 + 1 }) : wpAny (model prog w) A (call (.builtin "len") [.ref x]) Q E s := by
 have l1 := zm6 (M := model prog w) X hx hc
 k_extra "aE"
 refine call_function_entry kind_len plain_len entry_len (args_len1 _) ?_
 unfold Builtin.«len»
 refine wpAny_bind (m := oneArg "len" _) (wpAny_pure ?_)
 refine wpAny_bind (m := callSpecial? (.ref x) (Str.ofString "__len__")) ?_
 unfold callSpecial?
 refine wpAny_bind (l1.here ?_)
 dsimp only
 rw [F.slot_tuple_len.bind]
 refine wpAny_holding (wpAny_bind (wpAny_pure ?_))
 refine wpAny_bind (wpAny_call (zb0 F.slot_tuple_len.plain F.entry_tuple_len ziE zdv i1 (F.args_tuple_len_1 _) ?_))
 show wpAny _ _ (Builtin.Tuple.tupleItemsOf (.ref x) >>= fun xs => retInt xs.size) _ _ _
 k_extra "5"
 unfold Builtin.Tuple.tupleItemsOf
 refine wpAny_bind (wpAny_seqItems hx hd (wpAny_pure ?_))
 refine wpAny_bind (wpAny_mkInt (wpAny_pure ?_))
 dsimp only
 k_extra "W"
 dsimp only
 refine wpAny_bind (wpAny_holding (wpAny_pure ?_))
 refine wpAny_bind (wpAny_letGo ?_)
 show wpAny _ _ (if ((items.size : Nat) : Int) < 0 then _ else _) _ _ _
 rw [if_neg (by exact Int.not_ofNat_neg items.size)]
 show wpAny _ _ (if ((items.size : Nat) : Int) >= 2 ^ 63 then _ else _) _ _ _
 rw [if_neg (by lia)]
 exact wpAny_bind (wpAny_mkInt (wpAny_pure ⟨_, rfl, h⟩))
theorem zdJ {Q : List Value -> Shared -> Prop} (hh : A.handled = none) (X : (K P).In s.heap) (hx : s.heap.get? x = some ox) (hc : ox.cls = .ref 135) (hd : ox.data = .seq items nn) (h0 : items.size ≠ 0) (hsz : items.size <= 1000)
  (hQ : ∀ h' tk', (∀ b o', s.heap.get? b = some o' -> h'.get? b = some o') -> Q items.toList { s with heap := h', toks := tk' }) : wpAny (model prog w) A (collect (.ref x)) Q E s := by
 unfold collect
 refine wpAny_bind (wpAny_runValue (codeAny_builtin F.entry_proto_collect ?_))
 rw [Around.under_plainId F.plain_proto_collect _]
 show wpAny _ A.in1 (newList [] >>= fun l => again (.builtin "list.__iadd__" ⟨[l, .ref x], []⟩)) _ _ s
 refine wpAny_bind (wpAny_newObj_type ?_)
 refine wpAny_pure ⟨plainId_quiet F.plain_list_iadd _, codeAny_builtin F.entry_list_iadd ?_⟩
 rw [Around.under_plainId F.plain_list_iadd _]
 show wpAny _ A.in1 (Builtin.List.listExtendWith (.ref s.heap.objs.size) (.ref x) (.ref s.heap.objs.size)) _ _ _
 have hSx : s.heap.objs.size ≠ x := Ne.symm (Nat.ne_of_lt (Heap.lt_size hx))
 have X1 : (K P).In (s.heap.push { cls := .type "list", data := .seq ([] : List Value).toArray }) := fun a o e => Heap.get?_push_of_some _ (X a o e)
 have hx1 := Heap.get?_push_of_some { cls := .type "list", data := .seq ([] : List Value).toArray } hx
 have hS1 : (s.heap.push { cls := .type "list", data := .seq ([] : List Value).toArray }).get? s.heap.objs.size = some { cls := .type "list", data := .seq ([] : List Value).toArray } := Heap.get?_push_size _ rfl
 have t1 : Looks (model prog w) (s.heap.push { cls := .type "list", data := .seq ([] : List Value).toArray }) (typeOf (.ref x)) (.ref 135) := zcc hx1 hc
 unfold Builtin.List.listExtendWith
 refine wpAny_bind (t1.here ?_)
 have h1 : Builtin.List.listSameRef (.ref s.heap.objs.size) (.ref x) = false := by simp [Builtin.List.listSameRef, hSx]
 have h2 : (Value.ref 135 == Value.type "list") = false := by decide
 have h3 : (Value.ref 135 == Value.type "tuple") = false := by decide
 k_extra "aF"
 refine wpAny_bind (zdx X1 hx1 hc ?_)
 have X2 : (K P).In ((s.heap.push { cls := .type "list", data := .seq ([] : List Value).toArray }).push { cls := .type "tuple_iterator", data := .fields #[.ref x, .int 0 0] }) := fun a o e => Heap.get?_push_of_some _ (X1 a o e)
 have hx2 := Heap.get?_push_of_some { cls := .type "tuple_iterator", data := .fields #[.ref x, .int 0 0] } hx1
 have hS2 := Heap.get?_push_of_some { cls := .type "tuple_iterator", data := .fields #[.ref x, .int 0 0] } hS1
 have l2 := zm6 (M := model prog w) X2 hx2 hc
 have i2 := zhZ (M := model prog w) X2 hx2 hc
 have t2 : Looks (model prog w) _ (typeOf (.ref x)) (.ref 135) := zcc hx2 hc
 k_extra "4"
 refine wpAny_bind (l2.here ?_)
 dsimp only
 rw [zdv]
 dsimp only
 refine wpAny_bind (i2.here ?_)
 k_extra "aq"
 refine wpAny_bind (t2.here ?_)
 dsimp only
 refine wpAny_bind (zeQ X2 hx2 hc hd hsz ?_)
 refine wpAny_bind (m := asInt? _) (wpAny_pure ?_)
 dsimp only
 k_extra "W"
 refine KFB.if_so (by rw [Bool.or_eq_true]; left; simpa using h0) ?_
 k_extra "ax"
 k_extra "5"
 show wpAny _ A.in1 (updateSeq s.heap.objs.size (·.push .none) >>= fun _ => updateSeq s.heap.objs.size (·.pop)) _ _ _
 refine wpAny_bind (wpAny_updateSeq hS2 rfl ?_)
 have hS3 := Heap.get?_update_self (Obj.mapSeq (·.push Value.none)) hS2 rfl
 refine wpAny_updateSeq hS3 rfl ?_
 have hS4 := Heap.get?_update_self (Obj.mapSeq (·.pop)) hS3 rfl
 have oth : ∀ b o, b ≠ s.heap.objs.size -> ((s.heap.push { cls := .type "list", data := .seq ([] : List Value).toArray }).push { cls := .type "tuple_iterator", data := .fields #[.ref x, .int 0 0] }).get? b = some o ->
   ((((s.heap.push { cls := .type "list", data := .seq ([] : List Value).toArray }).push { cls := .type "tuple_iterator", data := .fields #[.ref x, .int 0 0] }).update s.heap.objs.size (Obj.mapSeq (·.push Value.none))).update s.heap.objs.size (Obj.mapSeq (·.pop))).get? b = some o :=
  fun b o hb e => (Heap.get?_update_other _ _ (Ne.symm hb)).trans ((Heap.get?_update_other _ _ (Ne.symm hb)).trans e)
 have hSI : s.heap.objs.size ≠ (s.heap.push { cls := .type "list", data := .seq ([] : List Value).toArray }).objs.size := by rw [Heap.size_push]; exact Nat.ne_of_lt (Nat.lt_succ_self _)
 have hIx : (s.heap.push { cls := .type "list", data := .seq ([] : List Value).toArray }).objs.size ≠ x := Ne.symm (Nat.ne_of_lt (Heap.lt_size hx1))
 refine wpAny_pure ⟨plainId_quiet F.plain_extend_loop _, zg7 (A := A) hh hd hSI hSx hIx hsz _ 0 _ _ _ rfl (Nat.zero_le _) rfl ⟨_, oth _ _ (Ne.symm hSI) (Heap.get?_push_size _ rfl), rfl, rfl⟩ (oth x _ (Ne.symm hSx) hx2) hS4 fun h' c' hk' hS' => ?_⟩
 refine wpAny_bind (wpAny_load hS' ?_)
 refine wpAny_pure (hQ h' _ fun b o e => ?_)
 have hbS : b ≠ s.heap.objs.size := Nat.ne_of_lt (Heap.lt_size e)
 have e1 := Heap.get?_push_of_some { cls := .type "list", data := .seq ([] : List Value).toArray } e
 exact hk' b o hbS (Nat.ne_of_lt (Heap.lt_size e1)) (oth b o hbS (Heap.get?_push_of_some _ e1))
end
theorem zcA {P : Params} {x : Addr} {nn : Nat} (hc : ox.cls = .ref 135) (hd : ox.data = .seq items nn) (h0 : items.size ≠ 0) (hsz : items.size <= 1000) :
  Meets (Builtin.«tuple.__new__» ⟨[.type "tuple", .ref x], []⟩) (fun A R s => (K P).In s.heap /\ s.heap.get? x = some ox /\ A.handled = none /\ ∀ (h' : Heap) (tk' : Nat), (∀ b o', s.heap.get? b = some o' -> h'.get? b = some o') -> R (.ok (.ret (.ref h'.objs.size))) { s with heap := h'.push { cls := .type "tuple", data := .seq items }, toks := tk' }) :=
 .of_wp fun prog w A R s h => by
  (refine cj4 (h) ?_; clear h; intro X hx hh hq)
  refine bc fun hG9 => ?_; obtain ⟨hp, g, d, tk, os⟩ := s; refine hG9 ?_; clear hG9
  have hsub := sub_tuple_self
  have hinit := init_tuple_lookup
  have hmh := madeHere_tuple
  have t1 : Looks (model prog w) hp (typeOf (.ref x)) (.ref 135) := zcc hx hc
  have hcol := fun (Q : List Value -> Shared -> Prop) E hQ => zdJ (prog := prog) (w := w) (A := A.in1) (E := E) (Q := Q) hh X hx hc hd h0 hsz hQ
  wp_walk using t1.here, hcol
  intro h' tk' hk
  show wpAny _ _ (Builtin.Tuple.tupleExact items.toList.toArray >>= fun v => ret v) _ _ _
  unfold Builtin.Tuple.tupleExact
  refine wpAny_bind (wpAny_newObj_type ?_ (by show items.toList.toArray.size <= sizeLine; have : sizeLine = 2 ^ 24 := (by decide); simp; lia))
  refine wpAny_pure ⟨_, rfl, ?_⟩
  have e : items.toList.toArray = items := by simp
  rw [e]
  exact hq h' tk' hk
theorem zcI {P : Params} {x d : Addr} {i j k : Int} {t u v : Tok} {Q : Value -> Shared -> Prop} 
  (F₀ : Fr h₀ L s.heap m) (X : (K P).In h₀) (N : News h₀ L s.heap news) (hx : (x, matchObj d i t j u k v) ∈ news) (hh : A.handled = none)
  (hq : ∀ T h' tk', Fr h₀ L h' m -> News h₀ L h' ((T, { cls := .type "tuple", data := .seq #[.int i t, .int j u, .int k v] }) :: news) -> (∀ p ∈ news, p.1 < T) -> Q (.ref T) { s with heap := h', toks := tk' }) :
  wpAny (model prog w) A (call (.type "tuple") [.ref x]) Q E s := by
 have hx' : s.heap.get? x = some (matchObj d i t j u k v) := (N _ hx).1
 refine callType_new F.called_tuple (by decide) (F.typeCall_tuple_1 _) (F.newCall_tuple_1 _) (fun obj => F.args_object_init_2 obj _) F.entry_tuple_new
  (zcA (P := P) (x := x) (ox := matchObj d i t j u k v) rfl rfl (by simp) (by simp)) ⟨X.keeps F₀.keep, hx', hh, fun h' tk' hk => ⟨⟨_, Heap.get?_push_size _ rfl, rfl⟩, ?_⟩⟩
 have F' : Fr h₀ L h' m := F₀.keeps hk
 have N' : News h₀ L h' news := fun p hp => ⟨hk _ _ (N p hp).1, (N p hp).2⟩
 exact hq _ _ _ (F'.push _) (N'.push F' _) fun p hp => Heap.lt_size (N' p hp).1
section
open LCg
abbrev lstN (its : Array Value) (k : Nat) : Obj := { cls := .type "list", data := .seq its k }
noncomputable def Src3 (prog : Program) (w : World) (A : Around) (h₀ : Heap) (L : Addr) (m : Str -> Option Value) (env : Env) (elt : Expr) (x y z : Str) (scope : Scope) (cl : List (Str × Addr)) (Q : Value -> Shared -> Prop) (xv : Value) (s : Shared) : Prop :=
 ∃ (ax : Addr) (its : Array Value) (k : Nat) (news : List (Addr × Obj)) (Inv : Nat -> List Value -> List (Addr × Obj) -> Prop), xv = .ref ax /\ A.handled = none /\ Fr h₀ L s.heap m /\ News h₀ L s.heap news /\ (ax, lstN its k) ∈ news /\ its.size <= sizeLine /\ Inv 0 [] news /\
  (∀ i v ys nw, i < its.size -> its[i]? = some v -> Inv i ys nw -> ∃ (t : Addr) (ot : Obj) (v₁ v₂ v₃ : Value) (nt : Nat), v = .ref t /\ (t, ot) ∈ nw /\ ot.cls = .type "tuple" /\ ot.data = .seq #[v₁, v₂, v₃] nt /\
   ∀ I oI C oC D m₂ h tk (E' : Value -> Shared -> Prop), NsObj oC m₂ -> m₂ x = some v₁ -> m₂ y = some v₂ -> m₂ z = some v₃ -> Fr h₀ L h m -> News h₀ L h ((I, oI) :: (C, oC) :: (D, lst ys) :: nw) -> Off3 I C D nw -> ((@Ne Nat I C) /\ (@Ne Nat I D) /\ (@Ne Nat C D)) ->
   wpAny (model prog w) A (eval elt (compEnvC scope cl C env)) (CompEnd h₀ L m { s with heap := h, toks := tk } I oI C oC D (lst ys) (fun nw => (ax, lstN its k) ∈ nw) (fun y nw' => Inv (i + 1) (ys ++ [y]) nw')) E' { s with heap := h, toks := tk }) /\
  (∀ D h tk ys nw, Inv its.size ys nw -> Fr h₀ L h m -> News h₀ L h ((D, lst ys) :: nw) -> Off1 D nw -> Q (.ref D) { s with heap := h, toks := tk })
noncomputable def Mid3 (h₀ : Heap) (L : Addr) (m : Str -> Option Value) (I D C ax : Addr) (its : Array Value) (k : Nat) (Inv : Nat -> List Value -> List (Addr × Obj) -> Prop) (i : Nat) (h : Heap) : Prop :=
 ∃ ys nw m', i <= its.size /\ ys.length = i /\ h.IsListIter I ax i /\ Fr h₀ L h m /\ h.Ns C m' /\ News h₀ L h ((D, lst ys) :: nw) /\ Off3 I C D nw /\ (ax, lstN its k) ∈ nw /\ Inv i ys nw
theorem comp3 {elt iter : Expr} {x y z : Str} {px py pz tp : Pos} {kk} {scope : Scope} {pos : Pos} {Q : Value -> Shared -> Prop}
  (_ : Fr h₀ L s.heap m) (hclos : closureFor scope env = pure cl) (hcell : ∀ u ∈ scope.names, u.2 ≠ .cell) (hkind : scope.kind = .function) (hnames : ∀ u ∈ scope.names, u.2 = .local -> scope.names.lookup u.1 = some .local)
  (hx : scope.names.lookup x = some .local) (hy : scope.names.lookup y = some .local) (hz : scope.names.lookup z = some .local) (hxy : x ≠ y) (hxz : x ≠ z) (hyz : y ≠ z)
  (h : wpAny (model prog w) A (eval iter env) (Src3 prog w A h₀ L m env elt x y z scope cl Q) E s) (hs : ∀ x, foldedSetIterable iter env x = pure x) :
  wpAny (model prog w) A (eval (.ListComp elt [⟨.Tuple [.Name x px, .Name y py, .Name z pz] kk tp, iter, [], 0⟩] scope pos) env) Q E s := by
 rw [eval_ListComp]
 refine wpAny_comprehension_free (use := none) rfl hs hclos hkind hnames (wpAny_mono h (fun xv s₁ h₁ => ?_) fun _ _ e => e)
 k_extra "l"
 (refine zcw (h₁) ?_; clear h₁; intro ax its k news Inv q95 hh F N hm hsz h0 turn fin; subst q95)
 k_extra "e"
 have hlt : ∀ b o, s₁.heap.get? b = some o -> @LT.lt Nat _ b s₁.heap.objs.size := fun _ _ e => Heap.lt_size e
 have hLs : @LT.lt Nat _ L s₁.heap.objs.size := F.ns.lt
 have habove : ∀ b, s₁.heap.objs.size <= b -> h₀.get? b = none := fun b hb => by
  cases e : h₀.get? b with
  | none => rfl
  | some o => exact absurd (hlt b o (F.keep b o e)) (Nat.not_lt.mpr hb)
 refine wpAny_pyIter_list ⟨_, (N _ hm).1, rfl, _, rfl⟩ (wpAny_newObj_type (wpAny_newFunctionEnv hcell (fun _ h => nomatch h) (fun h₁ n₁ b₁ => ?_) hkind))
 dsimp only at n₁ b₁ ⊢
 obtain ⟨I, hI⟩ : ∃ I : Nat, I = s₁.heap.objs.size := ⟨_, rfl⟩
 simp only [Heap.size_push] at n₁ b₁ ⊢
 rw [<- hI] at n₁ b₁ hlt hLs habove ⊢
 have zI : s₁.heap.objs.size = I := hI.symm
 have hax := hlt ax _ (N _ hm).1
 have keep : ∀ b o, s₁.heap.get? b = some o -> h₁.get? b = some o := fun b o e => b₁.extBut b o (by have := hlt b o e; exact Nat.ne_of_lt (by exact Nat.lt_add_right 1 (Nat.lt_succ_of_le (Nat.le_of_lt this)))) (Heap.get?_push_of_some _ (Heap.get?_push_of_some _ (Heap.get?_push_of_some _ e)))
 have eI : h₁.IsListIter I ax 0 := ⟨_, b₁.extBut I _ (Nat.ne_of_lt (by lia)) (Heap.get?_push_of_some _ (Heap.get?_push_of_some _ (hI ▸ Heap.get?_push_size _ rfl))), rfl, rfl⟩
 have eD : h₁.get? (I + 1) = some (lst []) := b₁.extBut _ _ (Nat.ne_of_lt (by exact Nat.lt_add_one (I + 1))) (Heap.get?_push_of_some _ (by rw [hI, <- Heap.size_push]; exact Heap.get?_push_size _ rfl))
 have W := Walks.list (prog := prog) (w := w) hh I ax (Nat.ne_of_lt hax) its
 have loop : ∀ tk, codeAny (model prog w) A (.compLoop (.ListComp elt [⟨.Tuple [.Name x px, .Name y py, .Name z pz] kk tp, iter, [], 0⟩] scope pos) 0 (.ref I) (.ref (I + 1)) (compEnvC scope cl (I + 1 + 1) env)) (compPost (model prog w) A E none Q (.ref (I + 1)) (I + 1 + 1)) { s₁ with heap := h₁, toks := tk } := by
  intro tk₁
  refine kcp_loop (fun n s' => ∃ h' tk i, s' = { s₁ with heap := h', toks := tk } /\ n + i = its.size + 1 /\ Mid3 h₀ L m I (I + 1) (I + 1 + 1) ax its k Inv i h') ?_ (its.size + 1) ⟨h₁, _, 0, rfl, rfl, [], news, _, Nat.zero_le _, rfl, eI, F.keeps keep, n₁, ?_, ?_, hm, h0⟩
  ·intro n s' q92
   k_extra "l"
   (refine zbZ (q92) ?_; clear q92; intro h' tk i q93 hn ys nw m' hi hyl it F' n' N' off hax' hinv; subst q93)
   k_extra "e"
   have hl' : h'.IsList ax its := ⟨_, (N' _ (.tail _ hax')).1, rfl, _, rfl⟩
   have o3 := off.mem
   have nI : ∀ p ∈ (I + 1, lst ys) :: nw, p.1 ≠ I := fc (Nat.succ_ne_self I) (fun p hp => (o3 p hp).1)
   have nC : ∀ p ∈ (I + 1, lst ys) :: nw, p.1 ≠ I + 1 + 1 := fc (Nat.ne_of_lt (Nat.lt_succ_self _)) (fun p hp => (o3 p hp).2.1)
   have i0 := habove I (Nat.le_refl _)
   have c0 := habove (I + 1 + 1) (by (clear hclos hkind hx hy hz hxy hxz hyz hh hsz hLs hI zI hax eD hn hi hyl i0; lia))
   have d0 := habove (I + 1) (by exact Nat.le_add_right I 1)
   have cL : I + 1 + 1 ≠ L := Nat.ne_of_gt (by exact Nat.lt_add_right 1 (Nat.lt_succ_of_le (Nat.le_of_lt hLs)))
   have dL : I + 1 ≠ L := Nat.ne_of_gt (by exact Nat.lt_add_right 1 hLs)
   have iL : I ≠ L := Nat.ne_of_gt hLs
   have ic : @Ne Nat I (I + 1 + 1) := by (clear hclos hkind hx hy hz hxy hxz hyz hh hsz hLs hI zI hax eD hn hi hyl i0 c0 d0 cL dL iL; lia)
   have id : @Ne Nat I (I + 1) := by exact Nat.ne_add_one I
   have cd : @Ne Nat (I + 1 + 1) (I + 1) := by exact Ne.symm (Nat.ne_add_one (I + 1))
   by_cases hlt' : i < its.size
   ·refine W.item i _ _ _ hlt' ⟨it, hl'⟩ fun v h₂ tk₂ hv st₂ k₂ => ?_
    have N₂ := news_but N' k₂ nI
    k_extra "l"
    (refine ze1 (turn i v ys nw hlt' hv hinv) ?_; intro t ot v₁ v₂ v₃ nt q96 hmt hct hdt go; subst q96)
    k_extra "e"
    refine wpAny_letOwnedTupleGo_listiter st₂.1 (assign_Tuple_tuple hh ⟨ot, (N₂ _ (.tail _ hmt)).1, hct, nt, hdt⟩ rfl rfl fun h₃ e₃ => ?_)
    have k₃ : ∀ b o, h₂.get? b = some o -> h₃.get? b = some o := fun b o e => e₃ b o (Nat.ne_of_lt (Heap.lt_size e)) e
    have kC : ∀ o, h'.get? (I + 1 + 1) = some o -> h₃.get? (I + 1 + 1) = some o := fun o e => k₃ _ _ (k₂ _ o (fun hq => ic (List.mem_singleton.mp hq).symm) e)
    have nk : ((compEnvC scope cl (I + 1 + 1) env).scope.kind == .class || ((compEnvC scope cl (I + 1 + 1) env).scope.kind == .module && (compEnvC scope cl (I + 1 + 1) env).locals != (compEnvC scope cl (I + 1 + 1) env).globals)) = false := by simp [compEnvC, relabel, hkind]
    refine assignInOrder_cons (wpAny_assign_Name (wpAny_storeName_local (lookup_relabel_local hx) (n'.at' kC) (fun h₄ n₄ b₄ => ?_) nk))
    refine assignInOrder_cons (wpAny_assign_Name (wpAny_storeName_local (lookup_relabel_local hy) n₄ (fun h₅ n₅ b₅ => ?_) nk))
    refine assignInOrder_cons (wpAny_assign_Name (wpAny_storeName_local (lookup_relabel_local hz) n₅ (fun h₆ n₆ b₆ => assignInOrder_nil ?_) nk))
    have k₆ : ∀ b o, b ≠ I + 1 + 1 -> h₂.get? b = some o -> h₆.get? b = some o := fun b o hb e => b₆.extBut b o hb (b₅.extBut b o hb (b₄.extBut b o hb (k₃ b o e)))
    (refine x_EA (st₂.1) ?_; intro oI gI rI)
    (refine x_EA (ns_obj n₆) ?_; intro oC gC hoC)
    have F₆ : Fr h₀ L h₆ m := ((((fr_but F' k₂ iL.symm i0).keeps k₃).change b₄ cL c0).change b₅ cL c0).change b₆ cL c0
    refine wpAny_mono (go I oI (I + 1 + 1) oC (I + 1) _ h₆ _ _ hoC (by simp [hxy, hxz]) (by simp [hyz]) (by simp) F₆ ?_ off ⟨ic, id, cd⟩) (fun y' s₇ h₇ => ?_) fun _ _ e => e
    ·refine fc ⟨k₆ I oI ic gI, iL, i0⟩ (fc ⟨gC, cL, c0⟩ (fun p hp => ⟨k₆ _ _ (nC p hp) (N₂ p hp).1, (N₂ p hp).2⟩))
    k_extra "l"
    (refine zb6 (h₇) ?_; intro h₇ tk₇ nw₇ q93 F₇ N₇ off₇ hS₇ hinv₇; subst q93)
    k_extra "e"
    have o7 := off₇.mem
    refine append_at (hsz := by show ys.toArray.size <= sizeLine; rw [List.size_toArray, hyl]; exact Nat.le_trans hi hsz) (N₇ _ (.tail _ (.tail _ (.head _)))).1 fun h₈ b₈ g₈ => ?_
    refine ⟨its.size + 1 - (i + 1), by lia, h₈, tk₇, i + 1, rfl, by lia, ys ++ [y'], nw₇, _, hlt', by simp [hyl], ⟨oI, b₈.extBut I _ id (N₇ _ (.head _)).1, rI⟩, F₇.change b₈ dL d0, (hoC.ns (N₇ _ (.tail _ (.head _))).1).sameBut b₈ cd, ?_, off₇, hS₇, hinv₇⟩
    refine fc ⟨g₈.trans (congrArg some (lst_snoc ys y')), dL, d0⟩ (fun p hp => ?_)
    have z := N₇ p (.tail _ (.tail _ (.tail _ hp)))
    exact ⟨b₈.extBut _ _ (o7 p hp).2.2 z.1, z.2⟩
   ·obtain rfl : i = its.size := by exact Nat.eq_of_lt_succ_of_not_lt (Nat.lt_succ_of_le hi) hlt'
    refine W.done _ _ _ ⟨it, hl'⟩ fun h₂ tk₂ k₂ => ?_
    have N₂ := news_but N' k₂ nI
    refine ⟨m', n'.at' fun o e => k₂ _ o (fun hq => ic (List.mem_singleton.mp hq).symm) e, fun h₃ b₃ => fin _ _ _ _ nw hinv ((fr_but F' k₂ iL.symm i0).change b₃ cL c0) (fun p hp => ⟨b₃.extBut _ _ (nC p hp) (N₂ p hp).1, (N₂ p hp).2⟩) off.one⟩
  ·exact fc ⟨eD, Nat.ne_of_gt (by exact Nat.lt_add_right 1 hLs), habove _ (by exact Nat.le_add_right I 1)⟩ (fun p hp => ⟨keep _ _ (N p hp).1, (N p hp).2⟩)
  ·exact Off3.of fun p hp => by have := hlt _ _ (N p hp).1; exact ⟨Nat.ne_of_lt (by exact Nat.lt_of_succ_le this), Nat.ne_of_lt (by exact Nat.lt_add_right 1 (Nat.lt_succ_of_le (Nat.le_of_lt this))), Nat.ne_of_lt (by exact Nat.lt_add_right 1 this)⟩
 refine codeAny_compStart_list (loop _) (W.self 0 _ _ _ ⟨eI, ⟨_, keep _ _ (N _ hm).1, rfl, _, rfl⟩⟩ (loop _))
end
example : True := by
 k_with "ay" => refine wpAny_call ?_
 k_with "A" => (intro g' L' h' FG' F' N' B' X' T' hg' hL'; (try dsimp only); (try k_fold); (conv in (execs _ _) => arg 1; whnf))
 k_with "k_ne" => ((refine neN ?_; (try dsimp only); first | (with_reducible assumption) | (refine Ne.symm ?_; with_reducible assumption) | lia))
 k_with "getMethod type:tuple" => (k_here; refine' method_type (by k_asm) (by k_asm) zi6 (by decide +kernel) (by k_dflt k_is) (by k_handed) ?_)
 k_with "call builtin:tuple.__new__" => (k_here; k_dflt (refine' zpB (by k_asm) (by k_asm) (by k_asm) (by k_mem) (by (rw [sizeLine_eq]; exact Nat.le_of_ble_eq_true rfl)) ?_; k_whole); intro x' d' h' F' N' l1 l2; (try k_lt l1))
 trivial
theorem zi6 : typeOf (.type "tuple") = pure (.type "type") := by first | rfl | kernel_rfl
theorem frExt {h h' : Heap} (F : Fr h₀ L h m) (k : ∀ b o, h.get? b = some o -> h'.get? b = some o) : Fr h₀ L h' m := by
 (refine zck (F.ns) ?_; intro oL a1 a2 hL a3)
 exact ⟨⟨oL, a1, a2, k _ _ hL, a3⟩, fun b o e => k b o (F.keep b o e), F.above⟩
theorem zpB {tp : Addr} {items : List Value} {n : Nat} {Q : Value -> Shared -> Prop}
  (F : Fr h₀ L s.heap m) (X₀ : (K w.params).In h₀) (N : News h₀ L s.heap news) (hm : (tp, ({ cls := .type "tuple", data := .seq items.toArray n } : Obj)) ∈ news) (hsz : items.length <= sizeLine)
  (hq : ∀ x d h', Fr h₀ L h' m -> News h₀ L h' ((x, { cls := .ref 135, dict := some d, data := .seq items.toArray }) :: (d, dictOf [] 0) :: news) -> (∀ p ∈ news, p.1 < d) -> d < x -> Q (.ref x) { s with heap := h' }) :
  wpAny (model prog w) A (call (.builtin "tuple.__new__") [.ref 135, .ref tp]) Q E s := by
 refine zoz (X₀.keeps F.keep) (N.get hm) rfl rfl (by simpa using hsz) fun x d h' hk hx hd hlt hdx => ?_
 have hL := (F.ns.lt)
 (refine zck (F.ns) ?_; intro oL a1 a2 hLo a3)
 refine hq x d h' (frExt F hk) (fun p hp => ?_) (fun p hp => hlt _ _ (N.get hp)) hdx
 have nw : ∀ y, d <= y -> y ≠ L /\ h₀.get? y = none := by
  intro y hy
  refine ⟨fun e => absurd (hlt L oL hLo) (by subst e; exact Nat.not_lt.mpr hy), ?_⟩
  cases q : h₀.get? y with
  | none => rfl
  | some o => exact absurd (hlt y o (F.keep y o q)) (Nat.not_lt.mpr hy)
 k_extra "q"
 ·exact ⟨hx, nw _ (Nat.le_of_lt hdx)⟩
 k_extra "q"
 ·exact ⟨hd, nw _ (Nat.le_refl _)⟩
 ·exact ⟨hk _ _ (N p hp).1, (N p hp).2⟩
theorem zgr {loose : List Str} {mb : Str -> Option Value}
  {cs : Scope} {a : Addr} {Q : Value -> Shared -> Prop} 
  (B : Below A₀ base outer h₀) (F : Fr h₀ L s.heap m) (X : (K w.params).In h₀) (N : News h₀ L s.heap news) (T : Top q loose mean mg mb h₀) (hk : cs.kind = .function)
  {i j k : Int} {t u v : Tok} (hdp : dp + 10 < recursionLimit) (hun : un + 50 < cLine)
  (hret : ∀ x d h' tk', Fr h₀ L h' m -> News h₀ L h' ((x, { cls := .ref 135, dict := some d, data := .seq #[.int i t, .int j u, .int k v] }) :: (d, dictOf [] 0) :: news) -> (∀ p ∈ news, p.1 < d) -> d < x -> Q (.ref x) { s with heap := h', toks := tk' }) :
  wpAny (model PySem.Challenge.rw_rt0114_02.row.prog w) (ktrTop dp un gd cn cs L a ccd cl outer) (call (.ref 135) [.int i t, .int j u, .int k v]) Q E s := by
 revert X; k_fill; intro X
 k_extra "ay"
 refine znK F X ?_
 k_dflt (refine' zaF B F X N T ?kA ?kF ?kK ?k6 ?k7 ?k8 ?k9 ?kB ?_ ?c2 ?c3 ?c4 ?c5; (case kA => exact rfl); (case kF => exact rfl); (case kK => assumption); (case k6 => k_is); (case k7 => k_is); (case k8 => ktr_room); (case k9 => exact BindsTo.of_eq rfl); (case c5 => decide); (case kB => exact locs rfl); (case c2 => exact rfl); (case c3 => exact rfl); (case c4 => exact rfl); k_whole)
 k_extra "A"
 k_steps
 rename Fr h₀ L _ m => kF
 rename News h₀ L _ _ => kN
 refine ⟨_, _, rfl, (kN _ (List.mem_cons_self)).1, rfl, X.keeps kF.keep, ?_⟩
 show Q _ _
 refine' hret _ _ _ _ kF ?hs ?hl (by with_reducible assumption)
 case hl =>
  rename _ /\ AllLt _ news => l9
  exact kst_ltOf l9.2
 case hs =>
  intro p hp
  refine kN p ?_
  simp only [List.mem_cons] at hp ⊢
  rcases hp with h | h | h
  ·exact .inl h
  ·exact .inr (.inl h)
  ·exact .inr (.inr (.inr h))
example : True := by
 k_with "aR" => intro g' L' h' FG' F' N' B' X' T' hg' hL'
 k_with "7" => have p90 : m0 (Str.ofString "self") = some _ := (congrFun e0 _).trans rfl
 k_with "E" => (refine zai ?_; (try dsimp only))
 k_with "a" => ((try ((show wpAny _ _ _ _ _ _); k_fold)); k_steps; refine zai ?_; (try dsimp only))
 k_with "I" => (rename Fr _ _ _ _ => lF; rename News _ _ _ _ => lN)
 k_with "c" => ((with_reducible rename Fr _ _ _ _ => eF); (with_reducible rename News _ _ _ _ => eN))
 k_with "x" => (k_extra "a"; k_extra "c")
 k_with "k" => (repeat (first | exact rfl | (refine zif (by assumption) ?_) | (refine znH (by assumption) ?_)))
 k_with "aA" => simp only [List.cons_append, List.nil_append] at N8
 k_with "m" => (try ((show wpAny _ _ _ _ _ _); k_fold))
 k_with "r" => (k_steps; (with_reducible rename Fr h₀ L _ m => kF); (with_reducible rename News h₀ L _ _ => kN))
 k_with "as" => (k_extra "m"; k_extra "r")
 k_with "execs cons" => (k_here; (with_reducible show wpAny _ _ _ _ _ (Shared.mk _ _ _ (_ + 1) _)); refine zpU ?_; intro tk9)
 k_with "k_room" => (ktr_room)
 k_with "LPost" => (refine hold ?_)
 k_with "k_lt" => (intro ltq9; ((try (have hne9 := zkz (by assumption) ltq9 (by (intro p hp; repeat (first | exact hp | refine zbN ?_))))); replace ltq9 := allLt_of ltq9; simp only [AllLt, and_true] at ltq9))
 k_with "k_mem" => (first | with_reducible assumption | exact zf8 | (refine zbN ?_; k_mem))
 k_with "k_all" => (with_reducible assumption)
 k_with "call builtin:list.append" => (k_here; (with_reducible show wpAny _ _ (call (Value.builtin _) [Value.ref _, _]) _ _ _); k_dflt (refine' zj1 (by k_asm) (by k_asm) (by k_upd) (by first | lia | (simp only [List.length_cons, List.length_nil, List.length_append]; lia)) ?_; k_whole); intro h' F' N'; (try k_sweep))
 k_with "exec For Tuple Call" => ((with_reducible show wpAny _ _ (exec (.For _ (.Call (.Name (Str.ofString "enumerate") _) _ _ _) _ _ _) _) _ _ _); refine hold ?_)
 k_with "call type:enumerate" => (refine hold ?_)
 k_with "getMethod ref" => (k_here; (with_reducible show wpAny _ _ (getMethod (Value.ref _) (Str.ofString "setdefault") _) _ _ _); k_dflt (refine' kob_method (knd := PySem.intKind _ _) PySem.F.slot_dict_setdefault PySem.F.type_dict_setdefault (by k_asm) (by k_mem) (by with_reducible assumption) ?_))
 k_with "call builtin:dict.setdefault" => (k_here; (with_reducible show wpAny _ _ (call (Value.builtin "dict.setdefault") [Value.ref _, Value.int _ _, Value.ref _]) _ _ _); k_dflt (first
 | (refine kob_setdef_there (knd := PySem.intKind _ _) (by k_asm) (by k_mem) (by with_reducible assumption) (by with_reducible assumption) (intKind_is _ _ _ _) (PySem.F.args_dict_setdefault_3 _ _ _) (by with_reducible assumption) (by rw [sizeLine_eq]; lia) ?_)
 | (refine kob_setdef_new (knd := PySem.intKind _ _) (by k_asm) (by k_asm) (by k_updF) (by with_reducible assumption) (by with_reducible assumption) (intKind_is _ _ _ _) (PySem.F.args_dict_setdefault_3 _ _ _) (by with_reducible assumption) (by rw [sizeLine_eq]; lia) ?_; intro h' o' F' N' hd'; (try dsimp only at N'); (try k_sweep))))
 k_with "Kont" => (k_here; (with_reducible rename ∀ f h t, _ -> Kont _ f _ => hq9); refine hq9 _ _ _ ?_; (try dsimp only))
 k_with "storeName" => (k_here; (with_reducible show wpAny _ _ (storeName _ _ _) _ _ _); (try dsimp only); k_dflt (refine' zhb (by k_asm) (by k_asm) ?_ rfl rfl; k_whole); intro tk' h' m' F' N'; (try k_sweep))
 k_with "storeName" => (k_here; (with_reducible show wpAny _ _ (storeName _ _ (Value.int _ _)) _ _ _); (try dsimp only); k_dflt (refine' zit (by k_asm) (by k_asm) ?_ rfl rfl; k_whole); intro t' tk' h' m' F' N'; (try k_sweep))
 k_with "eval Name" => (k_here; k_dflt (refine' nameX_L (by k_asm) (by first | with_reducible assumption | exact rfl | assumption | (dsimp only; (repeat rw [if_neg (by decide)]); first | assumption | (rw [if_pos rfl]))) ?_ rfl rfl; k_whole))
 trivial
theorem znT {loose : List Str} {mb : Str -> Option Value}
  {cs : Scope} {a : Addr} {Q : Value -> Shared -> Prop}
  (B : Below A₀ base outer h₀) (F : Fr h₀ L s.heap m) (X : (K w.params).In h₀) (T : Top q loose mean mg mb h₀) (hk : cs.kind = .function)
  {la lb : Addr} {avs bvs : List Value} {as bs : List Int} {na nb : Nat} (N : News h₀ L s.heap ((la, W.listOf avs.toArray na) :: (lb, W.listOf bvs.toArray nb) :: rest)) (ha : IntsAre avs as) (hb : IntsAre bvs bs) (hlb : bs.length < 200)
  (hdp : dp + 20 < recursionLimit) (hun : un + 100 < cLine)
  (hret : ∀ self dx jk pp db c l1 l2 t0 t1 t2 t3 t4 t5 t6 t7 t8 t9 h' tk', Fr h₀ L h' m -> CBInv db PySem.Challenge.rw_rt0114_02.row.prog w bs bs.length c -> (db == sysModules) = false -> (∀ q ∈ c.ls.map CB.row, q.1 ≠ la) -> (∀ q ∈ c.ls.map CB.row, q.1 ≠ lb) -> ((∀ p ∈ (pp, setObj l1) :: (jk, setObj l2) :: (db, c.o) :: (la, W.listOf avs.toArray na) :: (lb, W.listOf bvs.toArray nb) :: (rest ++ c.ls.map CB.row), p.1 ≠ dx) /\ self ≠ dx) ->
   News h₀ L h' ((pp, setObj l1) :: (jk, setObj l2) :: (db, c.o) :: (self, instObj 242 dx) :: (dx, dictOf (smEs w.params t0 t1 t2 t3 t4 t5 t6 t7 t8 t9 (.ref la) (.ref lb) .none .none .none (.ref db) (.ref jk) (.ref pp)) 10) :: (la, W.listOf avs.toArray na) :: (lb, W.listOf bvs.toArray nb) :: (rest ++ c.ls.map CB.row)) -> Q (.ref self) { s with heap := h', toks := tk' }) :
  wpAny (model PySem.Challenge.rw_rt0114_02.row.prog w) (ktrTop dp un gd cn cs L a ccd cl outer) (call (.ref 242) [.none, .ref la, .ref lb]) Q E s := by
 revert X; k_fill; intro X
 k_extra "ay"
 k_dflt (refine' make_K F N (X.keeps F.keep) ?hm ?hi ?hf ?_; (case hm => k_is); (case hi => k_is); (case hf => k_is))
 intro self dx h1 F1 N1 l1 l2
 have hmk0 : OwnMark rest := ⟨⟩
 k_lt l1
 have l1 := ltq9; clear ltq9
 replace l2 := ltN l2
 have hrx : ∀ p ∈ rest, p.1 ≠ self := fun p hp => Nat.ne_of_lt (Nat.lt_trans (kst_ltOf l1.2.2 p hp) l2)
 k_dflt (refine' zaF B F1 X N1 T ?kA ?kF ?kK ?k6 ?k7 ?k8 ?k9 ?kB ?_ ?c2 ?c3 ?c4 ?c5; (case kA => exact rfl); (case kF => exact rfl); (case kK => assumption); (case k6 => k_is); (case k7 => k_is); (case k8 => ktr_room); (case k9 => first | exact BindsTo.of_eq rfl | exact binds_K (by k_in) rfl (by k_is) rfl rfl rfl); (case c5 => decide); (case kB => exact locs rfl); (case c2 => exact rfl); (case c3 => exact rfl); (case c4 => exact rfl); k_whole)
 k_extra "aR"
 (try dsimp only); (try k_fold)
 refine zqi ?_
 intro K9 gs9 dr9 tk9 os9 hK9
 (refine x_EA (frM F') ?_; intro m0 F0 e0)
 k_extra "7"
 have p91 : m0 (Str.ofString "isjunk") = some _ := (congrFun e0 _).trans rfl
 have p92 : m0 (Str.ofString "a") = some _ := (congrFun e0 _).trans rfl
 have p93 : m0 (Str.ofString "b") = some _ := (congrFun e0 _).trans rfl
 have p94 : m0 (Str.ofString "autojunk") = some _ := (congrFun e0 _).trans rfl
 clear e0 F'
 k_steps
 k_extra "E"
 refine wpAny_For ?_
 k_extra "a"
 k_extra "I"
 rename Obj.IsDictOf (PySem.intKind _ _) _ [] => lD
 refine' zom [Str.ofString "indices"] (by rfl) (by rfl) (by rfl) (by rfl) (by decide) ?hl hb lF lN ?hoff lD ?turn ?done
 case hl => k_mem
 case hoff => exact fc (by k_ne) (fc (by k_ne) (fc (by k_ne) (fc (by k_ne) (by with_reducible assumption))))
 case turn =>
  intro i k t ti c u h9 tk9 own hik hI hoff hrest F9 N9
  clear lF lN lD
  have hil : i < bs.length := (List.getElem?_eq_some_iff.mp hik).1
  have hkl := hI.len
  have hD := hI.dict
  rename _ = false => lo9
  cases hc : c.ls.lookup k with
  | none =>
   (refine zaW (zhp hI hoff N9) ?_; intro R hRe N8 hRd)
   clear N9
   have hv : valueAt c.kvs k = none := by rw [hI.vals, hc]; rfl
   have hmk : OwnMark R := ⟨⟩
   k_extra "x"
   (with_reducible rename Obj.IsDictOf _ _ (stored _ _ _) => hd7)
   refine zdN hI hc hik hRe hoff eF eN hd7 (by with_reducible assumption) (by k_ne) ?_
   intro z z1 z3
   have y1 := zbc z3 (a := Str.ofString "indices") (by simp)
   have y2 := zbc z3 (a := Str.ofString "i") (by simp)
   k_extra "k"
   try rfl
  | some e =>
   refine bc fun hG9 => ?_; obtain ⟨li, vs, n⟩ := e; refine hG9 ?_; clear hG9
   (refine ze8 (zhJ hI hc hoff N9) ?_; intro pre post R hls hRe N8 hRd hRl hdl hvl)
   clear N9
   have hv : valueAt c.kvs k = some (.ref li) := by rw [hI.vals, hc]; rfl
   have hmk : OwnMark R := ⟨⟩
   k_extra "x"
   refine zdO (extra := [_]) hI hls hik hRe hoff eF eN ?_
   intro z z1 z3
   have y1 := zbc z3 (a := Str.ofString "indices") (by simp)
   have y2 := zbc z3 (a := Str.ofString "i") (by simp)
   k_extra "k"
   try rfl
 case done =>
  intro c u h9 tk9 hI hoff F9 N9
  clear lF lN lD
  (refine zcF (zg5 N9 hoff hI.off) ?_; intro R hRe N8 hRd hRr hrd)
  clear N9 hoff
  k_extra "aA"
  simp only [List.forall_mem_cons] at hRr hrd
  (refine cj5 (hRr) ?_; clear hRr; intro hr1 hr2 hr3 hr4 _)
  (refine cj5 (hrd) ?_; clear hrd; intro hr5 hr6 hr7 hr8 hr9)
  obtain ⟨R2, hR2⟩ : ∃ R2, R2 = rest ++ R := ⟨_, rfl⟩
  rw [<- hR2] at N8
  have hR2d : ∀ p ∈ R2, p.1 ≠ dx := by
   rw [hR2]
   intro p hp
   k_extra "n"
   ·exact (show ∀ p ∈ rest, p.1 ≠ dx by with_reducible assumption) p hp
   ·exact hr2 p hp
  clear hmk0
  have hmk : OwnMark R2 := ⟨⟩
  have hbl := hb.length
  have hD := hI.dict
  k_extra "as"
  rw [hRe] at hR2 hr3 hr4
  rw [hR2] at kN hR2d
  refine hret self dx _ _ _ c _ _ _ _ _ _ _ _ _ _ _ _ _ _ kF hI (by with_reducible assumption) hr3 hr4 ?off kN
  refine ⟨fc ?_ (fc ?_ (fc ?_ (fc ?_ (fc ?_ hR2d)))), ?_⟩
  all_goals (show @Ne Nat _ _; lia)
example : True := by
 k_with "aj" => exact .cons (.int _ _) (.cons (.int _ _) (.cons (.int _ _) .nil))
 k_with "s" => (refine zqi ?_; intro K9 gs9 dr9 tk9 os9 hK9; refine letA ?_; intro A9; (refine x_EA (frM F') ?_; intro m0 F0 e0))
 k_with "at" => (clear e0 F'; k_steps; k_extra "E"; k_extra "I")
 k_with "aP" => have hmk : OwnMark own := ⟨⟩
 k_with "ag" => simp only [List.cons_append] at N9
 k_with "h" => ((with_reducible rename Fr _ _ _ _ => wF); (with_reducible rename News _ _ _ _ => wN))
 k_with "U" => (k_extra "a"; k_extra "h")
 k_with "X" => have hXt : ∀ p ∈ tl, p ∈ X := fun p hp => by rw [hX]; exact List.mem_append_left _ hp
 k_with "L" => (try dsimp only)
 k_with "opd" => (first | with_reducible exact o_i | ((with_reducible show Opd _ _ _ (Expr.Name _ _) _ _ _); k_dflt (exact o_n (by k_asm) (by first | with_reducible assumption | exact rfl | assumption | (dsimp only; (repeat rw [if_neg (by decide)]); first | assumption | (rw [if_pos rfl]))) rfl rfl rfl)))
 k_with "eval BinOp" => (k_here; k_dflt (refine' zmZ (by k_extra "opd") (by k_extra "opd") ?_; k_whole))
 k_with "isTrue Compare" => (k_here; k_dflt (refine' zkn (by k_extra "opd") (by k_extra "opd") (by with_unfolding_all rfl) ?_; k_whole))
 k_with "execs cons" => (k_here; (try k_gentoks); (with_reducible refine zf9 ?_); (try dsimp only))
 k_with "Seq" => (first | with_reducible refine zgd ?_ | with_reducible refine zh2 ?_ | with_reducible refine zhF ?_ | with_reducible refine zfE ?_)
 k_with "pyIter ref" => (refine hold ?_)
 k_with "exec While" => (refine hold ?_)
 k_with "compareOp In" => (k_here; (with_reducible show wpAny _ _ (compareOp CmpOp.In _ (Value.ref _)) _ _ _); refine hold ?_)
 k_with "loadName" => (k_here; (with_reducible show wpAny _ _ (loadName (envOf _ _ _ _ _) _) _ _ _); k_dflt (refine ldn (by k_asm) (by first | exact rfl | assumption | (dsimp only; (repeat rw [if_neg (by decide)]); first | assumption | (rw [if_pos rfl]))) ?_; k_whole))
 k_with "newTuple" => (k_here; k_dflt (refine' kup_newTuple (by k_asm) (by k_asm) ?_ (by kmk_size)); intro D' h' F' N' l1; (try k_lt l1); (try k_sweep))
 k_with "newTuple" => (k_here; (try dsimp only); k_dflt (first | (refine' tup3G (by k_asm) (by k_asm) ?_) | (refine' tup4G (by k_asm) (by k_asm) ?_; intro)); intro _ _ _ _ D' h' F' N' l1; (try k_lt l1); (try k_sweep))
 trivial
theorem zqt {h : Heap} {a : Addr} {o1 : Obj} {r : List (Addr × Obj)} {G : Prop} (N : News h₀ L h ((a, o1) :: r)) (k : let x := a; News h₀ L h ((x, o1) :: r) -> G) : G := k N
noncomputable def rdat (r : Run) : Dat := tdat [-(r.1 : Int), (r.2.1 : Int), (r.2.2 : Int)]
theorem zj3 {h : Heap} {l : Addr} {o : Obj} {r : List (Addr × Obj)} (_ : News h₀ L h ((l, o) :: r)) : ∃ (x : Addr) (y : Obj), x = l /\ y = o := ⟨l, o, rfl, rfl⟩
theorem zb1 {d : Addr} : ∀ {l : List (Addr × Obj)}, AllLt d l -> ∀ p ∈ l, p.1 < d
 | [], _, _, h => nomatch h
 | _ :: _, h, p, hp => by
  k_extra "q"
  ·exact h.1
  ·exact zb1 h.2 p hp
theorem zfc {h : Heap} (F : Fr h₀ L h m) : ∃ m', Fr h₀ L h m' /\ ∀ z, m' z = m z := ⟨m, F, fun _ => rfl⟩
structure RC where
 ws : List Value
 k : Nat
 tl : List (Addr × Obj)
structure RD where
 ws : List Value
 k : Nat
 tl : List (Addr × Obj)
 sz : Nat
 t : Tok
noncomputable def zat (al : List Int) (mv : Int) (i : Nat) : List Run := (al.take i).flatMap fun st => (List.range (extF al 64 st)).map fun q => (q + 1, st.toNat, (st - mv).toNat)
theorem zeP (al : List Int) (mv : Int) : zat al mv al.length = zbh al mv := by
 unfold zat zbh
 rw [List.take_length]
theorem zd4 {al : List Int} {mv st : Int} {i : Nat} (h : al[i]? = some st) : zat al mv (i + 1) = zat al mv i ++ (List.range (extF al 64 st)).map fun q => (q + 1, st.toNat, (st - mv).toNat) := by
 unfold zat
 rw [List.take_add_one, h, List.flatMap_append]
 simp
structure RI (l : Addr) (al : List Int) (mv : Int) (i : Nat) (c : RC) : Prop where
 off : ∀ p ∈ c.tl, p.1 ≠ l
 dat : DatAll c.tl c.ws ((zat al mv i).map rdat)
 len : c.ws.length <= 64 * i
structure RJ (l : Addr) (al : List Int) (mv : Int) (i : Nat) (st : Int) (c : RD) : Prop where
 off : ∀ p ∈ c.tl, p.1 ≠ l
 dat : DatAll c.tl c.ws ((zat al mv i ++ (List.range (c.sz - 1)).map fun q => (q + 1, st.toNat, (st - mv).toNat)).map rdat)
 pos : 1 <= c.sz
 ext : c.sz - 1 <= extF al 64 st
 len : c.ws.length <= 64 * i + (c.sz - 1)
section
variable {l : Addr} {al : List Int} {mv st : Int} {i : Nat}
theorem rj_in {c : RD} (hR : RJ l al mv i st c) (h0 : 0 <= st) (h64 : ∀ x ∈ al, x < 64) (hm : st + (c.sz : Int) - 1 ∈ al) : c.sz <= extF al 64 st := by
 have h1 := hR.pos
 have h2 := h64 _ hm
 refine zmz al 64 st c.sz (by (clear h1; lia)) fun q hq => ?_
 by_cases h : q = c.sz - 1
 ·subst h
  rw [show st + ((c.sz - 1 : Nat) : Int) = st + (c.sz : Int) - 1 by lia]
  exact hm
 ·exact ziN al 64 st q (by have := hR.ext; lia)
theorem zq5 {c : RD} (hR : RJ l al mv i st c) (hm : ¬ st + (c.sz : Int) - 1 ∈ al) : extF al 64 st = c.sz - 1 := by
 have h1 := hR.pos
 have h2 := hR.ext
 by_cases h : c.sz - 1 < extF al 64 st
 ·exfalso
  refine hm ?_
  have := ziN al 64 st (c.sz - 1) h
  rw [show st + ((c.sz - 1 : Nat) : Int) = st + (c.sz : Int) - 1 by lia] at this
  exact this
 ·exact Eq.symm (Nat.eq_of_lt_succ_of_not_lt (Nat.lt_succ_of_le h2) h)
theorem zoA {ws : List Value} {k sz : Nat} {tl : List (Addr × Obj)} {t t' tx ty tz : Tok} {d : Addr} {x y z : Int} {n : Nat} (hR : RJ l al mv i st ⟨ws, k, tl, sz, t⟩) (h0 : 0 <= st) (hs : 0 <= st - mv) (he : sz <= extF al 64 st) (hd : d ≠ l) (hx : x = -(sz : Int)) (hy : y = st) (hz : z = st - mv) :
  RJ l al mv i st ⟨ws ++ [.ref d], k + 1, (d, ({ cls := .type "tuple", data := .seq #[.int x tx, .int y ty, .int z tz] n } : Obj)) :: tl, sz + 1, t'⟩ := by
 have h1 : 1 <= sz := hR.pos
 have h2 : ws.length <= 64 * i + (sz - 1) := hR.len
 have h3 : DatAll tl ws ((zat al mv i ++ (List.range (sz - 1)).map fun q => (q + 1, st.toNat, (st - mv).toNat)).map rdat) := hR.dat
 refine ⟨fc hd hR.off, ?_, Nat.le_add_left 1 _, by show sz + 1 - 1 <= _; exact String.Pos.Raw.mk_le_mk.mp he, ?_⟩
 ·show DatAll _ (ws ++ [.ref d]) ((zat al mv i ++ (List.range (sz + 1 - 1)).map fun q => (q + 1, st.toNat, (st - mv).toNat)).map rdat)
  have e : (zat al mv i ++ (List.range (sz + 1 - 1)).map fun q => (q + 1, st.toNat, (st - mv).toNat)).map rdat = (zat al mv i ++ (List.range (sz - 1)).map fun q => (q + 1, st.toNat, (st - mv).toNat)).map rdat ++ [rdat (sz - 1 + 1, st.toNat, (st - mv).toNat)] := by
   rw [show sz + 1 - 1 = (sz - 1) + 1 by exact Nat.sub_add_comm h1, List.range_succ]
   simp
  rw [e]
  refine DatAll.append (DatAll.mono (fun p hp => .tail _ hp) h3) (.cons ?_ .nil)
  unfold rdat tdat
  refine DatIn.tuple (vs := [.int x tx, .int y ty, .int z tz]) (n := n) (.head _) ?_
  have e1 : -((sz - 1 + 1 : Nat) : Int) = x := by lia
  have e2 : ((st.toNat : Nat) : Int) = y := by lia
  have e3 : (((st - mv).toNat : Nat) : Int) = z := by lia
  dsimp only [List.map]
  rw [e1, e2, e3]
  k_extra "aj"
 ·show (ws ++ [Value.ref d]).length <= 64 * i + (sz + 1 - 1)
  rw [List.length_append, List.length_singleton]
  lia
end
theorem ziQ {loose : List Str} {mb : Str -> Option Value}
  {cs : Scope} {a : Addr} {Q : Value -> Shared -> Prop} 
  (B : Below A₀ base outer h₀) (F : Fr h₀ L s.heap m) (X : (K w.params).In h₀) (N : News h₀ L s.heap news) (T : Top Mine.q loose mean mg mb h₀) (hk : cs.kind = .function)
  {al : Addr} {vs : List Value} {ps : List Int} {nv : Nat} {mv : Int} {t : Tok} (hal : (al, W.listOf vs.toArray nv) ∈ news) (hv : IntsAre vs ps) (hlo : ∀ x ∈ ps, 0 <= x /\ x < 64 /\ 0 <= x - mv) (hln : ps.length <= 64) (hdp : dp + 20 < recursionLimit) (hun : un + 100 < cLine)
  (hret : ∀ l n vs tl h' tk', Fr h₀ L h' m -> News h₀ L h' ((l, W.listOf vs.toArray n) :: (tl ++ news)) -> (∀ p ∈ tl ++ news, p.1 ≠ l) -> (∀ p ∈ news, ∀ q ∈ tl, p.1 ≠ q.1) -> DatAll tl vs ((zbh ps mv).map rdat) -> Q (.ref l) { s with heap := h', toks := tk' }) :
  wpAny (model PySem.Challenge.rw_rt0114_02.row.prog w) (ktrTop dp un gd cn cs L a ccd cl outer) (call (.ref 307) [.ref al, .int mv t]) Q E s := by
 revert X; k_fill; intro X
 k_extra "ay"
 k_dflt (refine' zaF B F X N T ?kA ?kF ?kK ?k6 ?k7 ?k8 ?k9 ?kB ?_ ?c2 ?c3 ?c4 ?c5; (case kA => exact rfl); (case kF => exact rfl); (case kK => assumption); (case k6 => k_is); (case k7 => k_is); (case k8 => ktr_room); (case k9 => first | exact BindsTo.of_eq rfl | exact binds_K (by k_in) rfl (by k_is) rfl rfl rfl); (case c5 => decide); (case kB => exact locs rfl); (case c2 => exact rfl); (case c3 => exact rfl); (case c4 => exact rfl); k_whole)
 k_extra "A"
 k_extra "s"
 have p90 : m0 (Str.ofString "alike") = some _ := (congrFun e0 _).trans rfl
 have p91 : m0 (Str.ofString "move") = some _ := (congrFun e0 _).trans rfl
 k_extra "at"
 (with_reducible rename IntsAre vs ps => hv)
 (rename ∀ p ∈ news, p.1 < _ => l1)
 refine zqt lN ?_
 clear lN
 intro lq lN
 refine' znm (σ := RC) (rest := news) (fun _ => []) (fun c => (lq, W.listOf c.ws.toArray c.k) :: c.tl) [Str.ofString "size"] (fun i c => RI lq ps mv i c) (fun _ => False) (RC.mk [] 0 []) (by rfl) hal lF lN ?ho ?hk ?hi ?turn ?done
 case ho => exact fun p hp q hq => by rw [List.mem_singleton.mp hq]; exact Nat.ne_of_lt (l1 p hp)
 case hk => exact fn
 case hi => exact ⟨fun _ h => (nomatch h), .nil, Nat.zero_le _⟩
 case turn =>
  intro i v c u9 h9 tk9 own hik hI hoff hrest F9 N9
  clear lF lN
  refine bc fun hG9 => ?_; obtain ⟨ws, k, tl⟩ := c; refine hG9 ?_; clear hG9
  k_extra "aP"
  dsimp only at F9 N9 hoff
  have hi : i < ps.length := by rw [<- hv.length]; exact (List.getElem?_eq_some_iff.mp hik).1
  obtain ⟨st, hst⟩ : ∃ st, ps[i]? = some st := ⟨_, List.getElem?_eq_getElem hi⟩
  (refine x_E (hv.get i st hst) ?_; intro tv htv)
  obtain rfl : v = .int st tv := by rw [htv] at hik; exact (Option.some.inj hik).symm
  have hb := hlo st (List.mem_of_getElem? hst)
  have halo : (al, W.listOf vs.toArray nv) ∈ own := hrest _ hal
  k_extra "ag"
  k_extra "U"
  (refine x_EA (zfc wF) ?_; intro mm wG hmm)
  clear wF
  have hot : ∀ p ∈ own, p.1 ≠ lq := fun p hp => hoff p hp _ (.head _)
  have hol : ∀ p ∈ own, ∀ q ∈ tl, p.1 ≠ q.1 := fun p hp q hq => hoff p hp q (.tail _ hq)
  refine' zfS (σ := RD) (x := Str.ofString "size") (rest := own) (m₀ := mm) (fun c => [(Str.ofString "size", .int (c.sz : Int) c.t)]) (fun c => (lq, W.listOf c.ws.toArray c.k) :: c.tl) [Str.ofString "size"] (fun c => RJ lq ps mv i st c) (fun c => 65 - c.sz) (RD.mk ws k tl 1 _) rfl wG wN hoff ?hk ?hi ?turn2 (by passes_own)
  case hk => exact fc ((hmm _).trans (by (first | exact rfl | assumption | ((try dsimp only); (try simp only [kstB]); (repeat rw [if_neg (by decide)]); first | done | assumption | (rw [if_pos rfl]; done) | (rw [if_pos rfl]; exact rfl) | exact rfl)))) (fn)
  case hi => exact ⟨hI.off, by simpa using hI.dat, Nat.le_refl _, Nat.zero_le _, hI.len⟩
  case turn2 =>
   intro c u8 h8 tk8 hJ hoff2 F8 N8
   refine bc fun hG9 => ?_; obtain ⟨ws, k, tl, sz, t⟩ := c; refine hG9 ?_; clear hG9
   dsimp only at F8 N8 hoff2
   clear wG wN hI hoff hot hol
   have hot : ∀ p ∈ own, p.1 ≠ lq := fun p hp => hoff2 p hp _ (.head _)
   have hol : ∀ p ∈ own, ∀ q ∈ tl, p.1 ≠ q.1 := fun p hp q hq => hoff2 p hp q (.tail _ hq)
   obtain ⟨X, hX⟩ : ∃ X, X = tl ++ own := ⟨_, rfl⟩
   have hXl : ∀ p ∈ X, p.1 ≠ lq := by
    rw [hX]
    intro p hp
    k_extra "n"
    ·exact hJ.off p hp
    ·exact hot p hp
   have hXo : ∀ p ∈ own, p ∈ X := fun p hp => by rw [hX]; exact List.mem_append_right _ hp
   k_extra "X"
   simp only [List.cons_append] at N8
   rw [<- hX] at N8
   clear hX hmk
   have hmk : OwnMark X := ⟨⟩
   (refine x_EA (zfc F8) ?_; intro m8 G8 hm8)
   have z1 : m8 (Str.ofString "size") = some (.int (sz : Int) t) := (hm8 _).trans (by (first | exact rfl | assumption | ((try dsimp only); (try simp only [kstB]); (repeat rw [if_neg (by decide)]); first | done | assumption | (rw [if_pos rfl]; done) | (rw [if_pos rfl]; exact rfl) | exact rfl)))
   have z2 : m8 (Str.ofString "start") = some (.int st tv) := (hm8 _).trans (Eq.trans (by (first | exact rfl | assumption | ((try dsimp only); (try simp only [kstB]); (repeat rw [if_neg (by decide)]); first | done | assumption | (rw [if_pos rfl]; done) | (rw [if_pos rfl]; exact rfl) | exact rfl))) ((hmm _).trans (by (first | exact rfl | assumption | ((try dsimp only); (try simp only [kstB]); (repeat rw [if_neg (by decide)]); first | done | assumption | (rw [if_pos rfl]; done) | (rw [if_pos rfl]; exact rfl) | exact rfl)))))
   have z3 : m8 (Str.ofString "alike") = some (.ref al) := (hm8 _).trans (Eq.trans (by (first | exact rfl | assumption | ((try dsimp only); (try simp only [kstB]); (repeat rw [if_neg (by decide)]); first | done | assumption | (rw [if_pos rfl]; done) | (rw [if_pos rfl]; exact rfl) | exact rfl))) ((hmm _).trans (by (first | exact rfl | assumption | ((try dsimp only); (try simp only [kstB]); (repeat rw [if_neg (by decide)]); first | done | assumption | (rw [if_pos rfl]; done) | (rw [if_pos rfl]; exact rfl) | exact rfl)))))
   have z4 : m8 (Str.ofString "move") = some (.int mv _) := (hm8 _).trans (Eq.trans (by (first | exact rfl | assumption | ((try dsimp only); (try simp only [kstB]); (repeat rw [if_neg (by decide)]); first | done | assumption | (rw [if_pos rfl]; done) | (rw [if_pos rfl]; exact rfl) | exact rfl))) ((hmm _).trans (by (first | exact rfl | assumption | ((try dsimp only); (try simp only [kstB]); (repeat rw [if_neg (by decide)]); first | done | assumption | (rw [if_pos rfl]; done) | (rw [if_pos rfl]; exact rfl) | exact rfl)))))
   have z5 : m8 (Str.ofString "runs") = some (.ref lq) := (hm8 _).trans (Eq.trans (by (first | exact rfl | assumption | ((try dsimp only); (try simp only [kstB]); (repeat rw [if_neg (by decide)]); first | done | assumption | (rw [if_pos rfl]; done) | (rw [if_pos rfl]; exact rfl) | exact rfl))) ((hmm _).trans (by (first | exact rfl | assumption | ((try dsimp only); (try simp only [kstB]); (repeat rw [if_neg (by decide)]); first | done | assumption | (rw [if_pos rfl]; done) | (rw [if_pos rfl]; exact rfl) | exact rfl)))))
   clear F8
   k_extra "x"
   have hlen : ws.length <= 100000 := by
    have q1 : ws.length <= 64 * i + (sz - 1) := hJ.len
    have q2 : sz - 1 <= extF ps 64 st := hJ.ext
    have q3 := zf6 ps 64 st
    lia
   by_cases hm : st + (sz : Int) - 1 ∈ ps
   ·refine ziw (b := true) eN (.tail _ (hXo _ halo)) hv (by simpa using hm) (by (try dsimp only [A9]); ke_room) ?_
    have hin : sz <= extF ps 64 st := rj_in hJ hb.1 (fun x hx => (hlo x hx).2.1) hm
    k_extra "L"
    k_extra "x"
    (with_reducible rename lq < _ /\ AllLt _ X => lD)
    (refine zgn (zj3 eN) ?_; intro d9 o9 ed9 eo9)
    subst ed9
    rw [<- eo9] at eN
    refine' zaa (RD.mk (ws ++ [.ref d9]) (k + 1) ((d9, o9) :: tl) (sz + 1) _) eF eN (fun p hp => ?el) (fun p hp => .tail _ (.tail _ (hXo _ hp))) (fun p hp q hq => ?eo) (fc ?ek (fn)) ?ez ?ei
    case el =>
     k_extra "q"
     ·exact .tail _ (.head _)
     ·rcases List.mem_cons.mp hp with rfl | hp
      ·exact .head _
      ·exact .tail _ (.tail _ (hXt _ hp))
    case eo =>
     k_extra "S"
     ·exact hot p hp
     ·rcases List.mem_cons.mp hq with rfl | hq
      ·exact Nat.ne_of_lt (zb1 lD.2 p (hXo _ hp))
      ·exact hol p hp q hq
    case ek => exact (by first | exact rfl | ((try dsimp only); rw [if_pos rfl, Int.natCast_succ]))
    case ez =>
     intro z z1 z2 z3
     (repeat (first | exact rfl | (refine zif (by assumption) ?_) | (refine znH (by assumption) ?_) | (refine (hm8 _).trans ?_)))
    case ei =>
     rw [eo9]
     exact ⟨zoA hJ hb.1 hb.2.2 hin (Nat.ne_of_gt lD.1) rfl rfl rfl, by show 65 - (sz + 1) < 65 - sz; have := zf6 ps 64 st; lia⟩
   ·refine ziw (b := false) eN (.tail _ (hXo _ halo)) hv (by simpa using hm) (by (try dsimp only [A9]); ke_room) ?_
    have hout := zq5 hJ hm
    k_extra "L"
    k_extra "x"
    refine' zaa (RC.mk ws k tl) eF eN (fun p hp => ?el) (fun p hp => .tail _ (hXo _ hp)) (fun p hp q hq => ?eo) (fn) ?ez ?ei
    case el =>
     k_extra "q"
     ·exact .head _
     ·exact .tail _ (hXt _ hp)
    case eo =>
     k_extra "S"
     ·exact hot p hp
     ·exact hol p hp q hq
    case ez =>
     intro z z1 z2 z3
     rw [hm8]
     have z4 : z ≠ Str.ofString "size" := fun e => by rw [e] at z3; exact absurd z3 (by decide)
     k_extra "k"
     rw [hmm]
     k_extra "k"
    case ei =>
     refine ⟨hJ.off, ?_, ?_⟩
     ·rw [zd4 hst, hout]
      exact hJ.dat
     ·have q1 : ws.length <= 64 * i + (sz - 1) := hJ.len
      have q2 : sz - 1 <= extF ps 64 st := hJ.ext
      have q3 := zf6 ps 64 st
      show ws.length <= 64 * (i + 1)
      lia
 case done =>
  intro c u9 h9 tk9 hI hoff F9 N9
  clear lF lN
  refine bc fun hG9 => ?_; obtain ⟨ws, k, tl⟩ := c; refine hG9 ?_; clear hG9
  replace hI := hI.resolve_right id
  dsimp only at F9 N9 hoff
  k_extra "ag"
  k_extra "as"
  refine hret _ _ _ tl _ _ kF (fun p hp => kN p (by first | exact hp | exact .tail _ hp)) ?_ (fun p hp q hq => hoff p hp q (.tail _ hq)) ?_
  ·intro p hp
   k_extra "n"
   ·exact hI.off p hp
   ·exact Nat.ne_of_lt (l1 p hp)
  ·have := hI.dat
   rw [hv.length, zeP] at this
   exact this
noncomputable def rl (r : Run) : List Int := [-(r.1 : Int), (r.2.1 : Int), (r.2.2 : Int)]
noncomputable def bl (r : Run) : List Int := [(r.2.1 : Int), (r.2.2 : Int), (r.1 : Int)]
theorem zqp (rs : List Run) : rs.map rdat = (rs.map rl).map tdat := by rw [List.map_map]; rfl
theorem zhf {r s : Run} (h : rl r = rl s) : r = s := by
 k_extra "u"
 unfold rl at h
 simp only [List.cons.injEq, and_true] at h
 (refine cj3 (h) ?_; clear h; intro h1 h2 h3)
 rw [show k = k' by lia, show i = i' by exact Int.ofNat_inj.mp h2, show j = j' by exact Int.ofNat_inj.mp h3]
theorem zhV {r s : Run} (h : bl r = bl s) : r = s := by
 k_extra "u"
 unfold bl at h
 simp only [List.cons.injEq, and_true] at h
 (refine cj3 (h) ?_; clear h; intro h1 h2 h3)
 rw [show k = k' by exact Int.ofNat_inj.mp h3, show i = i' by exact Int.ofNat_inj.mp h1, show j = j' by exact Int.ofNat_inj.mp h2]
theorem zq4 {r s : Run} : llt (rl r) (rl s) = true ↔ rlt r s := by
 k_extra "u"
 unfold rl rlt
 simp only [zbJ, zhl]
 by_cases h1 : -(k : Int) = -(k' : Int)
 ·rw [if_pos h1]
  by_cases h2 : (i : Int) = (i' : Int)
  ·rw [if_pos h2]
   by_cases h3 : (j : Int) = (j' : Int)
   ·rw [if_pos h3]; constructor
    ·intro h; cases h
    ·intro h; lia
   ·rw [if_neg h3, decide_eq_true_eq]; (clear h3; lia)
  ·rw [if_neg h2, decide_eq_true_eq]; lia
 ·rw [if_neg h1, decide_eq_true_eq]; omega
theorem zm4 {r s : Run} (h : llt (bl r) (bl s) = true) : ble r s := by
 k_extra "u"
 unfold ble
 unfold bl at h
 simp only [zbJ, zhl] at h
 dsimp only
 by_cases h1 : (i : Int) = (i' : Int)
 ·rw [if_pos h1] at h
  by_cases h2 : (j : Int) = (j' : Int)
  ·rw [if_pos h2] at h
   by_cases h3 : (k : Int) = (k' : Int)
   ·rw [if_pos h3] at h; cases h
   ·rw [if_neg h3, decide_eq_true_eq] at h; lia
  ·rw [if_neg h2, decide_eq_true_eq] at h; (clear h2; lia)
 ·rw [if_neg h1, decide_eq_true_eq] at h; omega
theorem zbV {f : Run -> List Int} (hf : ∀ {r s}, f r = f s -> r = s) : ∀ {es : List (List Int)} {rs : List Run}, es.Perm (rs.map f) -> ∃ S : List Run, S.Perm rs /\ es = S.map f := by
 intro es
 induction es with
 | nil =>
  intro rs h
  have := h.length_eq
  rw [List.length_map] at this
  rw [List.eq_nil_of_length_eq_zero (l := rs) (by simpa using this.symm)]
  exact ⟨[], .refl _, rfl⟩
 | cons e es ih =>
  intro rs h
  have hm : e ∈ rs.map f := h.mem_iff.mp (.head _)
  k_extra "l"
  (refine x_EA (List.mem_map.mp hm) ?_; intro r hr q92; subst q92)
  k_extra "e"
  k_extra "l"
  (refine x_EE (List.append_of_mem hr) ?_; intro p q q92; subst q92)
  k_extra "e"
  have h2 : (p ++ r :: q).Perm (r :: (p ++ q)) := List.perm_middle
  have h3 : es.Perm ((p ++ q).map f) := List.Perm.cons_inv (h.trans (h2.map f))
  (refine x_EA (ih h3) ?_; intro S h4 h5)
  exact ⟨r :: S, (h4.cons r).trans h2.symm, by rw [List.map_cons, h5]⟩
theorem zcC {f : Run -> List Int} (hf : ∀ {r s}, f r = f s -> r = s) {rs : List Run} (h : rs.Nodup) : (rs.map f).Nodup := by
 unfold List.Nodup at h ⊢
 k_extra "aO"
 exact h.imp fun {a b} h1 e => h1 (hf e)
noncomputable def zdT (r b : Run) : Bool := decide (r.2.1 + r.1 > b.2.1) || decide (r.2.2 + r.1 > b.2.2)
noncomputable def zej (r b : Run) : Bool := decide (b.2.1 + b.1 > r.2.1) || decide (b.2.2 + b.1 > r.2.2)
theorem zeI {rk ri rj bk bi bj : Nat} : zdT (rk, ri, rj) (bk, bi, bj) = true ↔ (bi : Int) < (ri : Int) - -(rk : Int) \/ (bj : Int) < (rj : Int) - -(rk : Int) := by
 unfold zdT
 simp only [Bool.or_eq_true, decide_eq_true_eq]
 omega
theorem zeN {rk ri rj bk bi bj : Nat} : zej (rk, ri, rj) (bk, bi, bj) = true ↔ (ri : Int) < (bi : Int) + (bk : Int) \/ (rj : Int) < (bj : Int) + (bk : Int) := by
 unfold zej
 simp only [Bool.or_eq_true, decide_eq_true_eq]
 omega
theorem zgw (r : Run) (bs : List Run) : (bs.filter (zdT r)).filter (zej r) = [] ↔ bs.all (zad r) = true := by
 rw [List.filter_filter, List.filter_eq_nil_iff, List.all_eq_true]
 refine forall_congr' fun b => forall_congr' fun _ => ?_
 rw [zag]
 unfold zdT zej
 simp only [Bool.and_eq_true, Bool.or_eq_true, decide_eq_true_eq]
 rw [Classical.not_and_iff_not_or_not, not_or, not_or, Nat.not_lt, Nat.not_lt, Nat.not_lt, Nat.not_lt]
 exact or_comm
structure BC where
 o1 : Obj
 o2 : Obj
 o3 : Obj
 ws : List Value
 k : Nat
 tl : List (Addr × Obj)
structure BI (lq L : Addr) (S : List Run) (i : Nat) (c : BC) : Prop where
 off : ∀ p ∈ c.tl, p.1 ≠ lq /\ p.1 ≠ L + 1 /\ p.1 ≠ L + 1 + 1 /\ p.1 ≠ L + 1 + 1 + 1
 d1 : ∃ v, c.o1.data = .cell v
 d2 : ∃ v, c.o2.data = .cell v
 d3 : ∃ v, c.o3.data = .cell v
 dat : DatAll c.tl c.ws (((S.take i).foldl zaY []).map fun r => tdat (bl r))
theorem zhD (bs : List Run) (r : Run) : (zaY bs r).length <= bs.length + 1 := by
 unfold zaY
 split
 ·simp
 ·exact Nat.le_add_right bs.length 1
theorem zee : ∀ (l : List Run) (bs : List Run), (l.foldl zaY bs).length <= bs.length + l.length
 | [], bs => by simp
 | r :: l, bs => by
  have h1 := zee l (zaY bs r)
  have h2 := zhD bs r
  rw [List.foldl_cons, List.length_cons]
  lia
example : True := by
 k_with "z" => (intro g' L' h' tk' cells' FG' F' N' Y' B' X' T' l1; (try k_lt l1); k_cells Y'; (try simp only [List.cons_append, List.nil_append] at N'); (try dsimp only); (try k_fold); (conv in (execs _ _) => arg 1; whnf); k_extra "s")
 k_with "p" => (clear e0 F'; have q1 : ∀ p ∈ news, p.1 ≠ L' + 1 := fun p hp => Nat.ne_of_lt (Nat.lt_succ_of_lt (l1 p hp)); have q2 : ∀ p ∈ news, p.1 ≠ L' + 1 + 1 := fun p hp => Nat.ne_of_lt (Nat.lt_succ_of_lt (Nat.lt_succ_of_lt (l1 p hp))); have q3 : ∀ p ∈ news, p.1 ≠ L' + 1 + 1 + 1 := fun p hp => Nat.ne_of_lt (Nat.lt_succ_of_lt (Nat.lt_succ_of_lt (Nat.lt_succ_of_lt (l1 p hp)))))
 k_with "y" => ((with_reducible rename Fr _ _ _ _ => lF); (with_reducible rename News _ _ _ _ => lN))
 k_with "Q" => (intro q v ys I oI C oC Dd m2 h9 tk9 E9 hin hv9 hys hC9 hx9 F9 N9 off9 ne9; clear wF wN ne9; k_extra "L")
 k_with "M" => (k_extra "m"; k_steps)
 k_with "B" => ((try dsimp only); k_extra "h"; refine LCg.CompEnd.intro wF wN _ (fun p hp => hp) off9 (Or.inr ⟨_, .head _, rfl, _, rfl⟩) ⟨?_, rfl⟩)
 k_with "8" => intro q v zs I oI C oC Dd m2 h9 tk9 E9 hin hv9 hzs hC9 hx9 F9 N9 off9 ne9
 k_with "2" => (intro d hd; k_extra "t"; exact zbi _)
 k_with "binaryOp Add ref ref" => (k_here; (with_reducible show wpAny _ _ (binaryOp _ (Value.ref _) (Value.ref _)) _ _ _); k_dflt (refine' add_L (by k_asm) (by k_asm) (by k_mem) (by k_mem) (by (simp only [List.length_cons, List.length_nil, List.length_append]; lia)) ?_; k_whole); intro d' h' F' N' l1; (try k_lt l1); (try k_sweep))
 k_with "exec For" => (k_here; (with_reducible rename Fr _ _ _ _ => F'); (refine For_invTF F' ?_ (by intro _; rfl)))
 k_with "call builtin:sorted" => (refine hold ?_)
 k_with "CompSrcT" => (refine hold ?_)
 k_with "CompEnd" => (refine hold ?_)
 k_with "LTurn" => (refine hold ?_)
 k_with "subscriptTail Name Constant ref int" => (k_here; (with_reducible show wpAny _ _ (subscriptTail _ _ (Value.ref _) (Value.int _ _)) _ _ _); k_dflt (refine' zov (by k_asm) (by k_mem) (by decide) (by decide) rfl rfl ?_ (by with_unfolding_all rfl); k_whole))
 k_with "compareOp Eq ref ref" => (refine hold ?_)
 k_with "eval ListComp" => (k_here; (with_reducible show wpAny _ _ (eval (Expr.ListComp _ [⟨Expr.Name _ _, _, [_], _⟩] _ _) _) _ _ _); k_dflt (refine LCt.ListComp_T (F₀ := by k_asm) (by with_unfolding_all rfl) (by decide) (by rfl) (by decide) (by rfl) ?_); k_dflt lct_toSrc)
 k_with "exec Assign cons ListComp" => (k_here; (with_reducible show wpAny _ _ (exec (Stmt.Assign _ (Expr.ListComp _ [⟨Expr.Name _ _, _, [_], _⟩] _ _) _) _) _ _ _); k_dflt (refine LCt.Assign_ListComp_T (F₀ := by k_asm) (by rfl) (by with_unfolding_all rfl) (by with_unfolding_all rfl) (by decide) (by rfl) (by decide) (by rfl) (by rfl) (by rfl) ?_); k_dflt lct_toSrc)
 trivial
section
variable {h : Heap} {l t c1 c2 c3 : Addr} {o ot o1 o2 o3 : Obj} {q q1 q2 q3 q4 : Addr × Obj} {r : List (Addr × Obj)} {G : Prop}
theorem led9 (N : News h₀ L h ((l, o) :: q1 :: q2 :: q3 :: q4 :: (c1, o1) :: (c2, o2) :: (c3, o3) :: r)) (k : let x := l; let y := o; let p1 := o1; let p2 := o2; let p3 := o3; y = o -> News h₀ L h ((x, y) :: q1 :: q2 :: q3 :: q4 :: (c1, p1) :: (c2, p2) :: (c3, p3) :: r) -> G) : G := k rfl N
theorem led8 (N : News h₀ L h (q1 :: q2 :: q3 :: q4 :: (c1, o1) :: (c2, o2) :: (c3, o3) :: r)) (k : let p1 := o1; let p2 := o2; let p3 := o3; News h₀ L h (q1 :: q2 :: q3 :: q4 :: (c1, p1) :: (c2, p2) :: (c3, p3) :: r) -> G) : G := k N
theorem ledR (N : News h₀ L h ((l, o) :: q :: (t, ot) :: r)) (k : let x := l; let y := t; let z := ot; z = ot -> News h₀ L h ((x, o) :: q :: (y, z) :: r) -> G) : G := k rfl N
theorem led4 (N : News h₀ L h ((l, o) :: (c1, o1) :: (c2, o2) :: (c3, o3) :: r)) (k : let x := l; let p1 := o1; let p2 := o2; let p3 := o3; News h₀ L h ((x, o) :: (c1, p1) :: (c2, p2) :: (c3, p3) :: r) -> G) : G := k N
theorem led0 (N : News h₀ L h ((l, o) :: r)) (k : let x := l; let y := o; News h₀ L h ((x, y) :: r) -> G) : G := k N
end
theorem zcE {loose : List Str} {mb : Str -> Option Value}
  {cs : Scope} {a : Addr} {Q : Value -> Shared -> Prop} 
  (B : Below A₀ base outer h₀) (F : Fr h₀ L s.heap m) (X : (K w.params).In h₀) (N : News h₀ L s.heap news) (T : Top Mine.q loose mean mg mb h₀) (hk : cs.kind = .function)
  {ra : Addr} {vs : List Value} {rs : List Run} {nv : Nat} {la lb : Nat} {t u : Tok} (hra : (ra, W.listOf vs.toArray nv) ∈ news) (hv : DatAll news vs (rs.map rdat)) (hlen : rs.length <= 500) (hso : zbL (rs.map rl)) (hgr : ∀ S : List Run, S.Perm rs -> S.Pairwise rlt -> (zab S).length < 64 /\ (zab S).Nodup) (hdp : dp + 20 < recursionLimit) (hun : un + 100 < cLine)
  (hret : ∀ (l : Addr) (n : Nat) (ws : List Value) (tl : List (Addr × Obj)) (h' : Heap) (tk' : Nat) (S Bs : List Run), S.Perm rs -> S.Pairwise rlt -> Bs.Perm (zab S) -> Bs.Pairwise ble -> Fr h₀ L h' m -> News h₀ L h' ((l, W.listOf ws.toArray n) :: (tl ++ news)) -> (∀ p ∈ tl ++ news, p.1 ≠ l) -> DatAll tl ws ((Bs.map bl ++ [[(la : Int), (lb : Int), 0]]).map tdat) -> Q (.ref l) { s with heap := h', toks := tk' }) :
  wpAny (model PySem.Challenge.rw_rt0114_02.row.prog w) (ktrTop dp un gd cn cs L a ccd cl outer) (call (.ref 312) [.ref ra, .int (la : Int) t, .int (lb : Int) u]) Q E s := by
 revert X; k_fill; intro X
 k_extra "ay"
 k_dflt (refine' code_defC B F X N T ?kA ?kF ?kK ?k6 ?k7 ?k8 ?k9 ?kB ?kD ?_ ?c2 ?c3 ?c4; (case kA => exact rfl); (case kF => exact rfl); (case kK => assumption); (case k6 => k_is); (case k7 => k_is); (case k8 => ktr_room); (case k9 => first | exact BindsTo.of_eq rfl | exact binds_K (by k_in) rfl (by k_is) rfl rfl rfl); (case kB => exact rfl); (case kD => decide +kernel); (case c2 => exact rfl); (case c3 => exact rfl); (case c4 => exact rfl); k_whole)
 k_extra "z"
 have p90 : m0 (Str.ofString "runs") = some _ := (congrFun e0 _).trans rfl
 have p91 : m0 (Str.ofString "length") = some _ := (congrFun e0 _).trans rfl
 have p92 : m0 (Str.ofString "width") = some _ := (congrFun e0 _).trans rfl
 k_extra "p"
 k_steps
 k_extra "E"
 k_extra "y"
 refine led4 lN ?_
 clear lN
 intro lq o1 o2 o3 lN
 (with_reducible rename L' + 1 + 1 + 1 < lq /\ _ /\ _ /\ AllLt lq news => lq1)
 have hvl : vs.length = rs.length := by rw [hv.length, List.length_map]
 refine zeR (P := fun ws => ∃ S : List Run, S.Perm rs /\ S.Pairwise rlt /\ DatAll news ws (S.map rdat)) lF lN (.tail _ (.tail _ (.tail _ (.tail _ hra)))) (by lia) ?hP ?hs ?_
 case hP =>
  intro out q91
  (refine zaW (q91) ?_; clear q91; intro S e1 _ e2)
  rw [e2.length, List.length_map, e1.length_eq]
  exact Nat.le_trans hlen (Nat.le_of_lt (Nat.lt_succ_of_le (Nat.le_add_left 500 499)))
 case hs =>
  intro h' _ N'
  refine hso _ _ _ _ _ _ _ _ _ (fun p hp => N' p (.tail _ (.tail _ (.tail _ (.tail _ hp))))) (by rw [<- zqp]; exact hv) fun ws es e1 e2 e3 => ?_
  k_extra "l"
  (refine x_EA (zbV (f := rl) zhf e1) ?_; intro S e4 q92; subst q92)
  k_extra "e"
  refine ⟨S, e4, ?_, by rw [zqp]; exact e3⟩
  rw [List.pairwise_map] at e2
  exact e2.imp fun h => zq4.mp h
 intro D out c h' q94 F' N' lD
 (refine zaW (q94) ?_; clear q94; intro S hS1 hS2 hS3)
 k_extra "a"
 have lDn : ∀ p ∈ (D, W.listOf out.toArray c) :: news, p.1 ≠ lq /\ p.1 ≠ L' + 1 /\ p.1 ≠ L' + 1 + 1 /\ p.1 ≠ L' + 1 + 1 + 1 := by
  refine fc ⟨Nat.ne_of_gt (lD _ (.head _)), Nat.ne_of_gt (lD _ (.tail _ (.tail _ (.tail _ (.head _))))), Nat.ne_of_gt (lD _ (.tail _ (.tail _ (.head _)))), Nat.ne_of_gt (lD _ (.tail _ (.head _)))⟩ (fun p hp => ⟨Nat.ne_of_lt (zb1 lq1.2.2.2 p hp), q1 p hp, q2 p hp, q3 p hp⟩)
 refine' zfV (σ := BC) (rest := (D, W.listOf out.toArray c) :: news) (nn := c) (fun _ => []) (fun c => (lq, W.listOf c.ws.toArray c.k) :: (L' + 1 + 1 + 1, c.o1) :: (L' + 1 + 1, c.o2) :: (L' + 1, c.o3) :: c.tl) [Str.ofString "near"] (fun i c => BI lq L' S i c) (BC.mk o1 o2 o3 [] 0 []) (by rfl) (.head _) F' (fun p hp => ?hN) ?ho ?hk ?hi ?turn ?done
 case hN =>
  revert p
  exact fc (N' _ (.tail _ (.head _))) (fc (N' _ (.tail _ (.tail _ (.head _)))) (fc (N' _ (.tail _ (.tail _ (.tail _ (.head _))))) (fc (N' _ (.tail _ (.tail _ (.tail _ (.tail _ (.head _)))))) (fc (N' _ (.head _)) (fun p hp => N' p (.tail _ (.tail _ (.tail _ (.tail _ (.tail _ hp))))))))))
 case ho =>
  intro p hp q hq
  have h := lDn p hp
  revert q
  exact fc h.1 (fc h.2.2.2 (fc h.2.2.1 (fc h.2.1 fn)))
 case hk => exact fn
 case hi => exact ⟨(fun _ h => nomatch h), ⟨_, by assumption⟩, ⟨_, by assumption⟩, ⟨_, by assumption⟩, .nil⟩
 case turn =>
  intro i v c9 u9 s9 own hik hI hoff hrest F9 N9
  clear F' N' lF lN
  refine bc fun hG9 => ?_; obtain ⟨o4, o5, o6, ws, k, tl⟩ := c9; refine hG9 ?_; clear hG9
  k_extra "l"
  obtain ⟨hIo, ⟨v4, d4⟩, ⟨v5, d5⟩, ⟨v6, d6⟩, hId⟩ := hI
  k_extra "e"
  dsimp only at F9 N9 hoff hIo d4 d5 d6 hId
  have hiS : i < S.length := by
   have h1 := (List.getElem?_eq_some_iff.mp hik).1
   have h2 := hS3.length
   rw [List.length_map] at h2
   exact Nat.lt_of_lt_of_eq h1 h2
  obtain ⟨r, hr⟩ : ∃ r, S[i]? = some r := ⟨_, List.getElem?_eq_getElem hiS⟩
  have hvr : DatIn news v (rdat r) := by
   k_extra "l"
   obtain ⟨v', h1, h2⟩ := hS3.get (k := i) (by rw [List.length_map]; exact hiS)
   k_extra "e"
   have e : (S.map rdat)[i]'(by rw [List.length_map]; exact hiS) = rdat r := by
    rw [List.getElem_map]
    rw [List.getElem?_eq_getElem hiS] at hr
    rw [Option.some.inj hr]
   rw [e] at h2
   rw [hik] at h1
   rw [Option.some.inj h1]
   exact h2
  refine bc fun hG9 => ?_; obtain ⟨rk, ri, rj⟩ := r; refine hG9 ?_; clear hG9
  k_extra "l"
  (refine zav (zbm (i := -(rk : Int)) (j := (ri : Int)) (k := (rj : Int)) hvr) ?_; intro T9 n9 t9 u9' w9 q95 hT9; subst q95)
  k_extra "e"
  have hTo := hrest _ (.tail _ hT9)
  k_extra "ag"
  have hxo : ∀ p ∈ tl ++ own, p.1 ≠ lq /\ p.1 ≠ L' + 1 /\ p.1 ≠ L' + 1 + 1 /\ p.1 ≠ L' + 1 + 1 + 1 := by
   intro p hp
   k_extra "n"
   ·exact hIo p hp
   ·exact ⟨hoff p hp _ (.head _), hoff p hp _ (.tail _ (.tail _ (.tail _ (.head _)))), hoff p hp _ (.tail _ (.tail _ (.head _))), hoff p hp _ (.tail _ (.head _))⟩
  have hol : ∀ p ∈ own, ∀ q ∈ tl, p.1 ≠ q.1 := fun p hp q hq => hoff p hp q (.tail _ (.tail _ (.tail _ (.tail _ hq))))
  obtain ⟨X, hX⟩ : ∃ X, X = tl ++ own := ⟨_, rfl⟩
  have hXo : ∀ p ∈ own, p ∈ X := fun p hp => by rw [hX]; exact List.mem_append_right _ hp
  k_extra "X"
  rw [<- hX] at N9 hxo
  have x0 : ∀ p ∈ X, p.1 ≠ lq := fun p hp => (hxo p hp).1
  have x1 : ∀ p ∈ X, p.1 ≠ L' + 1 := fun p hp => (hxo p hp).2.1
  have x2 : ∀ p ∈ X, p.1 ≠ L' + 1 + 1 := fun p hp => (hxo p hp).2.2.1
  have x3 : ∀ p ∈ X, p.1 ≠ L' + 1 + 1 + 1 := fun p hp => (hxo p hp).2.2.2
  have hmk : OwnMark X := ⟨⟩
  clear hX hoff
  refine zoc rfl F9 N9 (.tail _ (.tail _ (.tail _ (.tail _ (hXo _ hTo))))) ?_
  intro h9 F8 N8
  clear F9 N9
  (refine x_EA (zfc F8) ?_; intro m8 G8 hm8)
  have z1 : m8 (Str.ofString "blocks") = some (.ref lq) := (hm8 _).trans (by (first | exact rfl | assumption | ((try dsimp only); (try simp only [kstB]); (repeat rw [if_neg (by decide)]); first | done | assumption | (rw [if_pos rfl]; done) | (rw [if_pos rfl]; exact rfl) | exact rfl)))
  clear F8
  k_extra "U"
  obtain ⟨Bs, hBs⟩ : ∃ Bs, Bs = (S.take i).foldl zaY [] := ⟨_, rfl⟩
  rw [<- hBs] at hId
  have hSl : S.length <= 500 := by rw [hS1.length_eq]; exact hlen
  have hBl : Bs.length <= 500 := by
   rw [hBs]
   have h1 := zee (S.take i) []
   have h2 := List.length_take_le i S
   rw [List.length_nil] at h1
   lia
  have hwl : ws.length = Bs.length := by rw [hId.length, List.length_map]
  have hIdX : DatAll X ws (Bs.map fun r => tdat (bl r)) := hId.mono hXt
  refine LCt.CompSrcT.ledger rfl wF wN (.head _) (by rw [List.size_toArray, sizeLine_eq]; lia) ?_
  intro g9
  refine' zaV (fun q ys => DatAll X ys (((Bs.take q).filter (zdT (rk, ri, rj))).map fun r => tdat (bl r))) ?turn1 .nil ?fin1
  case turn1 =>
   k_extra "Q"
   have hqB : q < Bs.length := by rw [<- hwl]; simpa using hin
   obtain ⟨b, hb⟩ : ∃ b, Bs[q]? = some b := ⟨_, List.getElem?_eq_getElem hqB⟩
   have hvb := zdi hIdX hb (by simpa using hv9)
   refine bc fun hG9 => ?_; obtain ⟨bk, bi, bj⟩ := b; refine hG9 ?_; clear hG9
   k_extra "l"
   (refine zav (zbm (i := (bi : Int)) (j := (bj : Int)) (k := (bk : Int)) hvb) ?_; intro Tb nb tb1 tb2 tb3 q95 hTb; subst q95)
   k_extra "e"
   have hTl : (Tb, ({ cls := .type "tuple", data := .seq [Value.int (bi : Int) tb1, Value.int (bj : Int) tb2, Value.int (bk : Int) tb3].toArray nb } : Obj)) ∈ X := hTb
   by_cases hP : zdT (rk, ri, rj) (bk, bi, bj) = true
   ·have hP' := zeI.mp hP
    k_extra "M"
    all_goals (try (exfalso; lia))
    all_goals
     refine zai ?_
     k_extra "B"
     rw [List.take_add_one, hb, List.filter_append, List.map_append]
     refine DatAll.append hys ?_
     rw [Option.toList_some, List.filter_cons_of_pos hP]
     exact .cons hvb .nil
   ·have hP' := mt zeI.mpr hP
    k_extra "M"
    all_goals (try (exfalso; lia))
    all_goals
     refine zai ?_
     k_extra "B"
     rw [List.take_add_one, hb, List.filter_append, Option.toList_some, List.filter_cons_of_neg hP, List.filter_nil, List.append_nil]
     exact hys
  case fin1 =>
   intro ys hys
   clear wF wN
   rw [show ws.toArray.size = Bs.length by rw [List.size_toArray, hwl], List.take_length] at hys
   k_extra "U"
   refine led0 wN ?_
   clear wN
   intro dn on wN
   (with_reducible rename lq ≠ dn /\ _ => o1n)
   have hyl : ys.length = (Bs.filter (zdT (rk, ri, rj))).length := by rw [hys.length, List.length_map]
   have hnl : (Bs.filter (zdT (rk, ri, rj))).length <= Bs.length := List.length_filter_le _ _
   obtain ⟨Ns, hNs⟩ : ∃ Ns, Ns = Bs.filter (zdT (rk, ri, rj)) := ⟨_, rfl⟩
   rw [<- hNs] at hys hyl hnl
   refine LCt.CompSrcT.ledger rfl wF wN (.head _) (by rw [List.size_toArray, sizeLine_eq]; lia) ?_
   intro g10
   refine' zaV (fun q zs => DatAll X zs (((Ns.take q).filter (zej (rk, ri, rj))).map fun r => tdat (bl r))) ?turn2 .nil ?fin2
   case turn2 =>
    k_extra "8"
    clear wF wN ne9 o1n
    k_extra "L"
    have hqB : q < Ns.length := by rw [<- hyl]; simpa using hin
    obtain ⟨b, hb⟩ : ∃ b, Ns[q]? = some b := ⟨_, List.getElem?_eq_getElem hqB⟩
    have hvb := zdi hys hb (by simpa using hv9)
    refine bc fun hG9 => ?_; obtain ⟨bk, bi, bj⟩ := b; refine hG9 ?_; clear hG9
    k_extra "l"
    (refine zav (zbm (i := (bi : Int)) (j := (bj : Int)) (k := (bk : Int)) hvb) ?_; intro Tb nb tb1 tb2 tb3 q95 hTb; subst q95)
    k_extra "e"
    have hTl : (Tb, ({ cls := .type "tuple", data := .seq [Value.int (bi : Int) tb1, Value.int (bj : Int) tb2, Value.int (bk : Int) tb3].toArray nb } : Obj)) ∈ X := hTb
    by_cases hP : zej (rk, ri, rj) (bk, bi, bj) = true
    ·have hP' := zeN.mp hP
     k_extra "M"
     all_goals (try (exfalso; lia))
     all_goals
      refine zai ?_
      k_extra "B"
      rw [List.take_add_one, hb, List.filter_append, List.map_append]
      refine DatAll.append hzs ?_
      rw [Option.toList_some, List.filter_cons_of_pos hP]
      exact .cons hvb .nil
    ·have hP' := mt zeN.mpr hP
     k_extra "M"
     all_goals (try (exfalso; lia))
     all_goals
      refine zai ?_
      k_extra "B"
      rw [List.take_add_one, hb, List.filter_append, Option.toList_some, List.filter_cons_of_neg hP, List.filter_nil, List.append_nil]
      exact hzs
   case fin2 =>
    intro zs hzs
    clear wF wN
    rw [show ys.toArray.size = Ns.length by rw [List.size_toArray, hyl], List.take_length] at hzs
    k_extra "U"
    refine zhq (b := decide (Ns.filter (zej (rk, ri, rj)) = [])) wN (.tail _ (.head _)) hzs (fun p hp => .tail _ (.tail _ (.tail _ (.tail _ (.tail _ (.tail _ (.tail _ hp))))))) (.head _) (DatAll.nil (news := [])) (fun p h => nomatch h) ?ha ?hb ?hbd (by (try dsimp only [A9]); ke_room) ?_
    case ha =>
     k_extra "2"
    case hb => exact fun _ h => nomatch h
    case hbd => simp only [decide_eq_true_eq, List.map_eq_nil_iff]
    have hiff : Ns.filter (zej (rk, ri, rj)) = [] ↔ Bs.all (zad (rk, ri, rj)) = true := by rw [hNs]; exact zgw _ _
    by_cases hK : Bs.all (zad (rk, ri, rj)) = true
    ·rw [decide_eq_true (hiff.mpr hK)]
     have hg : zaY Bs (rk, ri, rj) = Bs ++ [(rk, ri, rj)] := by unfold zaY; rw [if_pos hK]
     (with_reducible rename dn ≠ _ /\ _ => o2n)
     (with_reducible rename _ /\ dn < _ /\ _ => o3n)
     k_extra "x"
     refine led9 eN ?_
     clear eN
     intro d9 o9 p1 p2 p3 eo9 eN
     rw [Int.neg_neg] at eo9
     (with_reducible rename _ /\ _ /\ _ /\ lq < d9 /\ _ => l9)
     have lX := zb1 l9.2.2.2.2.2.2.2
     refine zaH (BC.mk p1 p2 p3 (ws ++ [.ref d9]) (k + 1) ((d9, o9) :: tl)) eF eN ?el (fun p hp => .tail _ (.tail _ (.tail _ (.tail _ (.tail _ (.tail _ (.tail _ (.tail _ (hXo _ hp))))))))) ?hof (fn) ?ez ?ei
     case el =>
      refine fc (.tail _ (.tail _ (.tail _ (.tail _ (.head _))))) (fc (.tail _ (.tail _ (.tail _ (.tail _ (.tail _ (.head _)))))) (fc (.tail _ (.tail _ (.tail _ (.tail _ (.tail _ (.tail _ (.head _))))))) (fc (.tail _ (.tail _ (.tail _ (.tail _ (.tail _ (.tail _ (.tail _ (.head _)))))))) (fc (.head _) (fun p hp => .tail _ (.tail _ (.tail _ (.tail _ (.tail _ (.tail _ (.tail _ (.tail _ (hXt _ hp)))))))))))))
     case hof =>
      intro p hp
      have h := hxo p (hXo _ hp)
      exact fc h.1 (fc h.2.2.2 (fc h.2.2.1 (fc h.2.1 (fc (Nat.ne_of_lt (lX p (hXo _ hp))) (hol p hp)))))
     case ez =>
      intro z z1 z3
      have z4 : z ≠ Str.ofString "near" := fun e => by rw [e] at z3; exact absurd z3 (by decide)
      simp only [z4, if_false]
      rw [hm8]
      simp only [kstB]
      rw [z3]
      simp only [if_false, Bool.false_eq_true]
     case ei =>
      refine ⟨fc ⟨Nat.ne_of_gt l9.2.2.2.1, Nat.ne_of_gt l9.2.2.2.2.2.2.1, Nat.ne_of_gt l9.2.2.2.2.2.1, Nat.ne_of_gt l9.2.2.2.2.1⟩ hIo, ⟨_, by assumption⟩, ⟨_, by assumption⟩, ⟨_, by assumption⟩, ?_⟩
      show DatAll ((d9, o9) :: tl) (ws ++ [.ref d9]) _
      rw [List.take_add_one, hr, Option.toList_some, List.foldl_append, <- hBs, List.foldl_cons, List.foldl_nil, hg, List.map_append]
      refine DatAll.append (hId.mono fun p hp => .tail _ hp) (.cons ?_ .nil)
      refine DatIn.tuple (vs := [.int (ri : Int) _, .int (rj : Int) _, .int (rk : Int) _]) (n := 0) (by rw [eo9]; exact .head _) ?_
      k_extra "aj"
    ·rw [decide_eq_false (fun h => hK (hiff.mp h))]
     have hg : zaY Bs (rk, ri, rj) = Bs := by unfold zaY; rw [if_neg hK]
     k_extra "x"
     refine led8 eN ?_
     clear eN
     intro p1 p2 p3 eN
     refine zaH (BC.mk p1 p2 p3 ws k tl) eF eN ?el2 (fun p hp => .tail _ (.tail _ (.tail _ (.tail _ (.tail _ (.tail _ (.tail _ (hXo _ hp)))))))) ?hof2 (fn) ?ez2 ?ei2
     case el2 =>
      refine fc (.tail _ (.tail _ (.tail _ (.head _)))) (fc (.tail _ (.tail _ (.tail _ (.tail _ (.head _))))) (fc (.tail _ (.tail _ (.tail _ (.tail _ (.tail _ (.head _)))))) (fc (.tail _ (.tail _ (.tail _ (.tail _ (.tail _ (.tail _ (.head _))))))) (fun p hp => .tail _ (.tail _ (.tail _ (.tail _ (.tail _ (.tail _ (.tail _ (hXt _ hp)))))))))))
     case hof2 =>
      intro p hp
      have h := hxo p (hXo _ hp)
      exact fc h.1 (fc h.2.2.2 (fc h.2.2.1 (fc h.2.1 (hol p hp))))
     case ez2 =>
      intro z z1 z3
      have z4 : z ≠ Str.ofString "near" := fun e => by rw [e] at z3; exact absurd z3 (by decide)
      simp only [z4, if_false]
      rw [hm8]
      simp only [kstB]
      rw [z3]
      simp only [if_false, Bool.false_eq_true]
     case ei2 =>
      refine ⟨hIo, ⟨_, by assumption⟩, ⟨_, by assumption⟩, ⟨_, by assumption⟩, ?_⟩
      show DatAll tl ws _
      rw [List.take_add_one, hr, Option.toList_some, List.foldl_append, <- hBs, List.foldl_cons, List.foldl_nil, hg]
      exact hId
 case done =>
  intro c9 u9 h9 tk9 hI hoff F9 N9
  clear F' N' lF lN
  refine bc fun hG9 => ?_; obtain ⟨o4, o5, o6, ws, k, tl⟩ := c9; refine hG9 ?_; clear hG9
  k_extra "l"
  obtain ⟨hIo, ⟨v4, d4⟩, ⟨v5, d5⟩, ⟨v6, d6⟩, hId⟩ := hI
  k_extra "e"
  dsimp only at F9 N9 hoff hIo d4 d5 d6 hId
  have hSl : out.length = S.length := by rw [hS3.length, List.length_map]
  rw [hSl, List.take_length] at hId
  replace hId : DatAll tl ws ((zab S).map fun r => tdat (bl r)) := hId
  (refine x_EA (zfc F9) ?_; intro m8 G8 hm8)
  have z1 : m8 (Str.ofString "blocks") = some (.ref lq) := (hm8 _).trans (by (first | exact rfl | assumption | ((try dsimp only); (try simp only [kstB]); (repeat rw [if_neg (by decide)]); first | done | assumption | (rw [if_pos rfl]; done) | (rw [if_pos rfl]; exact rfl) | exact rfl)))
  have z2 : m8 (Str.ofString "length") = some (.int (la : Int) t) := (hm8 _).trans (by (first | exact rfl | assumption | ((try dsimp only); (try simp only [kstB]); (repeat rw [if_neg (by decide)]); first | done | assumption | (rw [if_pos rfl]; done) | (rw [if_pos rfl]; exact rfl) | exact rfl)))
  have z3 : m8 (Str.ofString "width") = some (.int (lb : Int) u) := (hm8 _).trans (by (first | exact rfl | assumption | ((try dsimp only); (try simp only [kstB]); (repeat rw [if_neg (by decide)]); first | done | assumption | (rw [if_pos rfl]; done) | (rw [if_pos rfl]; exact rfl) | exact rfl)))
  clear F9
  k_extra "ag"
  k_extra "U"
  have hgs := hgr S hS1 hS2
  have hwl : ws.length = (zab S).length := by rw [hId.length, List.length_map]
  have hId' : DatAll tl ws (((zab S).map bl).map tdat) := by rw [List.map_map]; exact hId
  refine zeR (P := fun ws => ∃ Bs : List Run, Bs.Perm (zab S) /\ Bs.Pairwise ble /\ DatAll tl ws ((Bs.map bl).map tdat)) wF wN (.head _) (by lia) ?hP2 ?hs2 ?_
  case hP2 =>
   intro out q91
   (refine zaW (q91) ?_; clear q91; intro S' e1 _ e2)
   rw [e2.length, List.length_map, List.length_map, e1.length_eq]
   exact Nat.le_trans (Nat.le_of_lt hgs.1) (Nat.le_of_lt (by decide))
  case hs2 =>
   intro h' _ N'
   refine zbf (ds := (zab S).map bl) ?_ (zcC zhV hgs.2) (by rw [List.length_map]; exact hgs.1) _ _ _ _ _ _ tl _ _ (fun p hp => N' p (.tail _ (.tail _ (.tail _ (.tail _ (List.mem_append_left _ hp)))))) hId' fun ws es e1 e2 e3 => ?_
   ·intro d hd
    k_extra "l"
    (refine x_EA (List.mem_map.mp hd) ?_; intro r _ q92; subst q92)
    k_extra "e"
    exact fun h => nomatch h
   ·refine bc fun hG9 => ?_
    (refine x_EA (zbV (f := bl) zhV e1) ?_; intro S' e4 q92; subst q92)
    k_extra "e"
    refine ⟨S', e4, ?_, e3⟩
    rw [List.pairwise_map] at e2
    exact e2.imp fun h => zm4 h
  intro D2 out2 c2 h2 q94 F2 N2 lD2
  (refine zaW (q94) ?_; clear q94; intro Bs hB1 hB2 hB3)
  have hol2 : out2.length <= 64 := by
   rw [hB3.length, List.length_map, List.length_map, hB1.length_eq]
   exact Nat.le_of_succ_le hgs.1
  obtain ⟨Y, hY⟩ : ∃ Y, Y = tl ++ (D, W.listOf out.toArray c) :: news := ⟨_, rfl⟩
  have hYt : ∀ p ∈ tl, p ∈ Y := fun p hp => by rw [hY]; exact List.mem_append_left _ hp
  have hYn : ∀ p ∈ news, p ∈ Y := fun p hp => by rw [hY]; exact List.mem_append_right _ (.tail _ hp)
  rw [<- hY] at N2 lD2
  clear hY wF wN
  k_lt lD2
  k_extra "L"
  k_extra "as"
  refine ledR kN ?_
  clear kN
  intro dd td ot eot kN
  (with_reducible rename _ < dd /\ td < dd /\ _ => ld)
  (with_reducible rename D2 < td /\ _ /\ _ /\ _ /\ _ /\ _ => lt)
  have lY := zb1 ld.2.2.2.2.2.2.2
  refine hret dd 0 (out2 ++ [.ref td]) ((td, ot) :: tl) _ _ S Bs hS1 hS2 hB1 hB2 kF (fun p hp => kN p ?_) ?_ ?_
  ·rcases List.mem_cons.mp hp with rfl | hp
   ·exact .head _
   ·rcases List.mem_cons.mp hp with rfl | hp
    ·exact .tail _ (.tail _ (.head _))
    ·refine .tail _ (.tail _ (.tail _ (.tail _ (.tail _ (.tail _ (.tail _ (.tail _ ?_)))))))
     k_extra "n"
     ·exact hYt _ hp
     ·exact hYn _ hp
  ·intro p hp
   k_extra "q"
   ·exact Nat.ne_of_lt ld.2.1
   ·rcases List.mem_append.mp hp with hp | hp
    ·exact Nat.ne_of_lt (lY _ (hYt _ hp))
    ·exact Nat.ne_of_lt (lY _ (hYn _ hp))
  ·rw [List.map_append]
   refine DatAll.append (hB3.mono fun p hp => .tail _ hp) (.cons ?_ .nil)
   refine DatIn.tuple (vs := [.int (la : Int) _, .int (lb : Int) _, .int 0 _]) (n := 0) (by rw [eot]; exact .head _) ?_
   k_extra "aj"
example : True := by
 k_with "G" => (k_extra "x"; exact zaQ eF eN (fun p hp => hp) (by first | rfl | simp))
 k_with "af" => (intro h8 tk8 F8 N8; clear wF wN; k_extra "x")
 k_with "NoTurn" => (refine hold ?_)
 k_with "subscriptTail Name Slice ref ref" => (refine hold ?_)
 k_with "subscriptTail Name Name ref int" => ((with_reducible first | show wpAny _ _ (subscriptTail (.Name (Str.ofString "expected") _) _ _ _) _ _ _ | show wpAny _ _ (subscriptTail (.Name (Str.ofString "actual") _) _ _ _) _ _ _); refine hold ?_)
 k_with "call builtin:list.extend" => (refine hold ?_)
 k_with "compareOp Lt ref ref" => (refine hold ?_)
 k_with "compareOp Gt ref ref" => (refine hold ?_)
 k_with "exec Try" => (refine hold ?_)
 k_with "SPost2" => (refine hold ?_)
 k_with "LeaveS0" => (refine hold ?_)
 trivial
theorem zo3 {h : Heap} {a b : Addr} {o1 o2 : Obj} {r : List (Addr × Obj)} {G : Prop} (N : News h₀ L h ((a, o1) :: (b, o2) :: r)) (k : let x := a; let y := b; News h₀ L h ((x, o1) :: (y, o2) :: r) -> G) : G := k N
theorem zk7 {d : Addr} : ∀ {l : List (Addr × Obj)}, AllLt d l -> ∀ p ∈ l, p.1 < d
 | [], _, _, h => nomatch h
 | _ :: _, h, p, hp => by
  k_extra "q"
  ·exact h.1
  ·exact zk7 h.2 p hp
theorem zhu {loose : List Str} {mb : Str -> Option Value}
  {cs : Scope} {a : Addr} {Q : Value -> Shared -> Prop} 
  (B : Below A₀ base [] h₀) (F : Fr h₀ L s.heap m) (X : (K w.params).In h₀) (N : News h₀ L s.heap news) (T : Top q loose mean mg mb h₀) (hk : cs.kind = .function)
  {vs ws : List Value} {es bs : List (List Int)} {n1 n2 : Nat} {eA aA : Addr} (hA : (eA, W.listOf vs.toArray n1) ∈ news) (hB : (aA, W.listOf ws.toArray n2) ∈ news) (hv : DatAll news vs (es.map tdat)) (hw : DatAll news ws (bs.map tdat)) (hes : za6 es) (hbs : za6 bs) (hel : es.length <= 64) (hbl : bs.length <= 64) (hdp : dp + 20 < recursionLimit) (hun : un + 100 < cLine)
  (XB : (K w.params).In base) (TB : Top q loose mean mg mb base)
  (hret : ∀ T a b ms us nm nu h' tk', Fr h₀ L h' m -> News h₀ L h' ((T, ({ cls := .type "tuple", data := .seq #[.ref a, .ref b] } : Obj)) :: (a, W.listOf ms.toArray nm) :: (b, W.listOf us.toArray nu) :: news) -> DatAll news ms ((es.filter fun x => !bs.contains x).map tdat) -> DatAll news us ((bs.filter fun x => !es.contains x).map tdat) -> Q (.ref T) { s with heap := h', toks := tk' }) :
  wpAny (model PySem.Challenge.rw_rt0114_02.row.prog w) (ktrTop dp un gd cn cs L a ccd cl []) (call (.ref 283) [.ref eA, .ref aA]) Q E s := by
 revert X; k_fill; intro X
 k_extra "ay"
 k_dflt (refine' ziz B F X N T ?kA ?kF ?kK ?k6 ?k7 ?k8 ?k9 ?kB ?_ ?c2 ?c3 ?c4 ?c5; (case kA => exact rfl); (case kF => exact rfl); (case kK => assumption); (case k6 => k_is); (case k7 => k_is); (case k8 => ktr_room); (case k9 => first | exact BindsTo.of_eq rfl | exact binds_K (by k_in) rfl (by k_is) rfl rfl rfl); (case kB => exact locs rfl); (case c2 => exact rfl); (case c3 => exact rfl); (case c4 => exact rfl); (case c5 => decide); k_whole)
 intro g' L' h' FG' F' N' B' X' T'
 (try dsimp only); (try k_fold); (conv in (execs _ _) => arg 1; whnf)
 k_extra "s"
 have p90 : m0 (Str.ofString "expected") = some _ := (congrFun e0 _).trans rfl
 have p91 : m0 (Str.ofString "actual") = some _ := (congrFun e0 _).trans rfl
 clear e0 F'
 have hvl : vs.length = es.length := by rw [hv.length, List.length_map]
 have hwl : ws.length = bs.length := by rw [hw.length, List.length_map]
 k_steps
 k_extra "E"
 k_extra "y"
 refine zo3 lN ?_
 clear lN
 intro ud md lN
 (with_reducible rename ∀ p ∈ news, p.1 < md => lt1)
 (with_reducible rename md < ud /\ AllLt ud news => lt2)
 have hmd : ∀ p ∈ news, p.1 ≠ md := fun p hp => Nat.ne_of_lt (lt1 p hp)
 have hud : ∀ p ∈ news, p.1 ≠ ud := fun p hp => Nat.ne_of_lt (zk7 lt2.2 p hp)
 have hmu : md ≠ ud := Nat.ne_of_lt lt2.1
 k_extra "l"
 obtain ⟨d, hd⟩ : ∃ d : SldD, d = ⟨eA, aA, md, ud, es, bs, news⟩ := ⟨_, rfl⟩
 k_extra "e"
 refine zgA (d := d) lF ?h0 ?turn (by passes_own)
 case h0 =>
  subst hd
  exact ⟨zo1 es bs, ⟨by (first | exact rfl | assumption | ((try dsimp only); (repeat rw [if_neg (by decide)]); first | done | assumption | (rw [if_pos rfl]; done) | (rw [if_pos rfl]; exact rfl) | exact rfl)), by (first | exact rfl | assumption | ((try dsimp only); (repeat rw [if_neg (by decide)]); first | done | assumption | (rw [if_pos rfl]; done) | (rw [if_pos rfl]; exact rfl) | exact rfl)), by (first | exact rfl | assumption | ((try dsimp only); (repeat rw [if_neg (by decide)]); first | done | assumption | (rw [if_pos rfl]; done) | (rw [if_pos rfl]; exact rfl) | exact rfl)), by (first | exact rfl | assumption | ((try dsimp only); (repeat rw [if_neg (by decide)]); first | done | assumption | (rw [if_pos rfl]; done) | (rw [if_pos rfl]; exact rfl) | exact rfl)), ⟨_, by (first | exact rfl | assumption | ((try dsimp only); (repeat rw [if_neg (by decide)]); first | done | assumption | (rw [if_pos rfl]; done) | (rw [if_pos rfl]; exact rfl) | exact rfl))⟩, ⟨_, by (first | exact rfl | assumption | ((try dsimp only); (repeat rw [if_neg (by decide)]); first | done | assumption | (rw [if_pos rfl]; done) | (rw [if_pos rfl]; exact rfl) | exact rfl))⟩⟩, lF, ⟨[], [], _, _, .nil, .nil, lN⟩⟩
 case turn =>
  subst hd
  intro i j h9 tk9 m9 q95
  refine bc fun hG9 => ?_; obtain ⟨hI, hfr, F9, ms, us, nm, nu, hms, hus, N9⟩ := q95; refine hG9 ?_; clear hG9
  clear lF lN
  k_extra "l"
  obtain ⟨f1, f2, f3, f4, ⟨ti, f5⟩, ⟨tj, f6⟩⟩ := hfr
  k_extra "e"
  dsimp only at f1 f2 f3 f4 hI hms hus N9
  have hil := hI.il
  have hjl := hI.jl
  have hml : ms.length <= 64 := by rw [hms.length, List.length_map]; exact Nat.le_trans (zcs es bs i) hel
  have hul : us.length <= 64 := by rw [hus.length, List.length_map]; exact Nat.le_trans (zcs bs es j) hbl
  k_extra "a"
  refine wpAny_Try_except ?_
  refine zhT ⟨eA, aA, md, ud, es, bs, news⟩ (ktrTop dp un gd cn cs L a ccd cl []) base [envX cn cs L a ccd cl] g' L' (K w.params) q loose mean mg mb ?hand ?body
  case hand =>
   intro _ _ q92
   k_extra "l"
   obtain ⟨a, g2, G, i2, j2, m2, h2, tk2, rfl, q0, ⟨q1, q4, q5, ms2, us2, nm2, nu2, q6, q7, q8⟩, q9, q10, q11, q12, q13, rfl⟩ := q92
   k_extra "e"
   dsimp only at q0 q1 q6 q7 q8
   refine zez q10 q5 q8 q13 XB TB q9 (by k_is) ?k rfl rfl (by passes_own)
   clear q5 q8 q9 q10 q11 q12 q13 F9 N9 hI hms hus f1 f2 f3 f4 f5 f6 FG' B' X' T' hml hul hil hjl
   k_extra "l"
   obtain ⟨u1, u2, u3, u4, ⟨u5, u6⟩, ⟨u7, u8⟩⟩ := q4
   k_extra "e"
   dsimp only at u1 u2 u3 u4
   have v1 := q1.il
   have v2 := q1.jl
   have v3 : ms2.length <= 64 := by rw [q6.length, List.length_map]; exact Nat.le_trans (zcs es bs i2) hel
   have v4 : us2.length <= 64 := by rw [q7.length, List.length_map]; exact Nat.le_trans (zcs bs es j2) hbl
   intro h3 g3 T3 F3 N3 B3 X3 P3
   k_extra "M"
   refine zai ?_
   refine zel F3 N3 (.tail _ (.tail _ hA)) (by exact Int.natCast_nonneg i2) (by lia) ?_ (by with_unfolding_all rfl) (by intro _; with_unfolding_all rfl)
   intro d1 h5 F5 N5 l5
   have d1m := Ne.symm (Nat.ne_of_lt (l5 _ (.tail _ (.head _))))
   have d1u := Ne.symm (Nat.ne_of_lt (l5 _ (.head _)))
   dsimp only at d1m d1u
   have d1n : ∀ p ∈ news, p.1 ≠ d1 := fun p hp => Nat.ne_of_lt (l5 p (.tail _ (.tail _ hp)))
   clear F3 N3 l5
   rw [Int.toNat_natCast] at N5
   have w1 : (vs.drop i2).length <= 64 := by rw [List.length_drop]; lia
   k_extra "a"
   refine zcU (pre := [(d1, _), (ud, _)]) F5 N5 (.head _) ?o1 ?o2 (by lia) ?_
   case o1 => exact fc d1m (fc (Ne.symm hmu) (fn))
   case o2 => exact hmd
   intro h6 n6 F6 N6
   simp only [List.cons_append, List.nil_append] at N6
   clear F5 N5
   k_extra "M"
   refine zai ?_
   refine zel F6 N6 (.tail _ (.tail _ (.tail _ hB))) (by exact Int.natCast_nonneg j2) (by lia) ?_ (by with_unfolding_all rfl) (by intro _; with_unfolding_all rfl)
   intro d2 h7 F7 N7 l7
   have d2u := Ne.symm (Nat.ne_of_lt (l7 _ (.tail _ (.head _))))
   dsimp only at d2u
   clear F6 N6 l7
   rw [Int.toNat_natCast] at N7
   have w2 : (ws.drop j2).length <= 64 := by rw [List.length_drop]; lia
   k_extra "a"
   refine zcU (pre := [(d2, _), (d1, _)]) F7 N7 (.head _) ?o1 ?o2 (by lia) ?_
   case o1 => exact fc d2u (fc d1u (fn))
   case o2 => exact fc hmu hud
   intro h8 n8 F8 N8
   k_extra "aA"
   clear F7 N7
   k_extra "a"
   (try dsimp only [SPost2])
   k_extra "x"
   refine leaveS0_ eF eN T3 ?_
   intro F9 N9
   refine hret _ _ _ _ _ _ _ _ _ F9 (zog N9) ?_ ?_
   ·rw [zpM q1 q0, List.map_append, List.map_drop]
    exact q6.append (DatAll.drop _ hv)
   ·rw [zpM q1.symm q0.symm, List.map_append, List.map_drop]
    exact q7.append (DatAll.drop _ hw)
  case body =>
   intro hand
   by_cases hi : i < es.length
   ·refine bc fun hG9 => ?_; obtain ⟨ea, e, he1, he2, he3⟩ := zcS hv hi; refine hG9 ?_; clear hG9
    k_extra "a"
    refine za7 N9 (.tail _ (.tail _ hA)) (by exact Int.natCast_nonneg i) (by lia) (by first | exact he2 | (rw [show (((i : Nat) : Int) + 1).toNat = i + 1 by lia]; exact he2)) ?_ (by with_unfolding_all rfl)
    k_extra "a"
    by_cases hj : j < bs.length
    ·refine bc fun hG9 => ?_; obtain ⟨ba, b, hb1, hb2, hb3⟩ := zcS hw hj; refine hG9 ?_; clear hG9
     k_extra "c"
     refine za7 eN (.tail _ (.tail _ hB)) (by exact Int.natCast_nonneg j) (by lia) (by first | exact hb2 | (rw [show (((j : Nat) : Int) + 1).toNat = j + 1 by lia]; exact hb2)) ?_ (by with_unfolding_all rfl)
     k_extra "x"
     refine zoW eN (he3.mono fun p hp => .tail _ (.tail _ hp)) (hb3.mono fun p hp => .tail _ (.tail _ hp)) (by (try dsimp only [A9]); ke_room) ?_
     by_cases hlt : llt e b = true
     ·have hsl := zhQ hbs hI he1 hb1 hlt
      have hms' : DatAll news (ms ++ [.ref ea]) ((zaD es bs (i + 1)).map tdat) := by rw [hsl.2, List.map_append]; exact hms.append (.cons he3 .nil)
      rw [hlt]
      k_extra "U"
      by_cases hi1 : i + 1 < es.length
      ·refine bc fun hG9 => ?_; obtain ⟨ea', e', hx1, hx2, hx3⟩ := zcS hv hi1; refine hG9 ?_; clear hG9
       have hne : e' ≠ e := Ne.symm (zci (zbd hes he1 e' (by rw [zaL hx1]; exact .head _)))
       refine zal wF wN ?wt0 ?_ (by passes_own)
       case wt0 =>
        k_extra "a"
        refine za7 wN (.tail _ (.tail _ hA)) (by exact Int.zero_le_ofNat (i + 1)) (by lia) (by first | exact hx2 | (rw [show (((i : Nat) : Int) + 1).toNat = i + 1 by lia]; exact hx2)) ?_ (by with_unfolding_all rfl)
        k_extra "x"
        refine zeT (b := false) eN (hx3.mono fun p hp => .tail _ (.tail _ hp)) (he3.mono fun p hp => .tail _ (.tail _ hp)) (by simpa using hne) (by (try dsimp only [A9]); ke_room) ?_
        k_extra "G"
       k_extra "af"
       exact zbE (by lia) hsl.1 ⟨by (first | exact rfl | assumption | ((try dsimp only); (repeat rw [if_neg (by decide)]); first | done | assumption | (rw [if_pos rfl]; done) | (rw [if_pos rfl]; exact rfl) | exact rfl)), by (first | exact rfl | assumption | ((try dsimp only); (repeat rw [if_neg (by decide)]); first | done | assumption | (rw [if_pos rfl]; done) | (rw [if_pos rfl]; exact rfl) | exact rfl)), by (first | exact rfl | assumption | ((try dsimp only); (repeat rw [if_neg (by decide)]); first | done | assumption | (rw [if_pos rfl]; done) | (rw [if_pos rfl]; exact rfl) | exact rfl)), by (first | exact rfl | assumption | ((try dsimp only); (repeat rw [if_neg (by decide)]); first | done | assumption | (rw [if_pos rfl]; done) | (rw [if_pos rfl]; exact rfl) | exact rfl)), ⟨_, by (first | exact rfl | assumption | ((try dsimp only); (repeat rw [if_neg (by decide)]); (try rw [if_pos rfl]); first | (rw [Int.natCast_add]; done) | (rw [Int.natCast_succ]; done) | (rw [Int.natCast_add]; rfl) | (rw [Int.natCast_succ]; rfl)))⟩, ⟨_, by (first | exact rfl | assumption | ((try dsimp only); (repeat rw [if_neg (by decide)]); first | done | assumption | (rw [if_pos rfl]; done) | (rw [if_pos rfl]; exact rfl) | exact rfl))⟩⟩ eF hms' hus eN
      ·refine zaJ ?_ (by passes_own)
       k_extra "a"
       refine zbr (z := (i : Int) + 1) rfl (zaf wN (.tail _ (.tail _ hA))) (by rw [List.size_toArray]; (clear hk hel hbl hdp hun p90 p91 hwl lt2 hmu f1 f2 f3 f4 f5 f6 hil hjl hml hul hi he1 he2 hj hb1 hb2 hlt hsl; lia)) (by (clear hk hbl hdp hun p90 p91 hvl hwl lt2 hmu f1 f2 f3 f4 f5 f6 hil hjl hml hul he1 he2 hj hb1 hb2 hlt hsl hi1; lia)) ?_ (by with_unfolding_all rfl)
       intro h3 tk3 e3 x3
       exact hand _ _ (slde (a := e3) (.inl (by dsimp only; lia)) hsl.1 ⟨by (first | exact rfl | assumption | ((try dsimp only); (repeat rw [if_neg (by decide)]); first | done | assumption | (rw [if_pos rfl]; done) | (rw [if_pos rfl]; exact rfl) | exact rfl)), by (first | exact rfl | assumption | ((try dsimp only); (repeat rw [if_neg (by decide)]); first | done | assumption | (rw [if_pos rfl]; done) | (rw [if_pos rfl]; exact rfl) | exact rfl)), by (first | exact rfl | assumption | ((try dsimp only); (repeat rw [if_neg (by decide)]); first | done | assumption | (rw [if_pos rfl]; done) | (rw [if_pos rfl]; exact rfl) | exact rfl)), by (first | exact rfl | assumption | ((try dsimp only); (repeat rw [if_neg (by decide)]); first | done | assumption | (rw [if_pos rfl]; done) | (rw [if_pos rfl]; exact rfl) | exact rfl)), ⟨_, by (first | exact rfl | assumption | ((try dsimp only); (repeat rw [if_neg (by decide)]); (try rw [if_pos rfl]); first | (rw [Int.natCast_add]; done) | (rw [Int.natCast_succ]; done) | (rw [Int.natCast_add]; rfl) | (rw [Int.natCast_succ]; rfl)))⟩, ⟨_, by (first | exact rfl | assumption | ((try dsimp only); (repeat rw [if_neg (by decide)]); first | done | assumption | (rw [if_pos rfl]; done) | (rw [if_pos rfl]; exact rfl) | exact rfl))⟩⟩ wF hms' hus wN KtsTurn.refl B' X' T' (zaT B' wF x3 rfl))
     ·have hlf : llt e b = false := by simpa using hlt
      rw [hlf]
      k_extra "x"
      refine zrj eN (he3.mono fun p hp => .tail _ (.tail _ hp)) (hb3.mono fun p hp => .tail _ (.tail _ hp)) (by (try dsimp only [A9]); ke_room) ?_
      by_cases heb : e = b
      ·subst heb
       have hsl := znq hes hbs hI he1 hb1
       have hms' : DatAll news ms ((zaD es bs (i + 1)).map tdat) := by rw [hsl.2.1]; exact hms
       have hus' : DatAll news us ((zaD bs es (j + 1)).map tdat) := by rw [hsl.2.2]; exact hus
       rw [zbt]
       k_extra "U"
       by_cases hi1 : i + 1 < es.length
       ·refine bc fun hG9 => ?_; obtain ⟨ea', e', hx1, hx2, hx3⟩ := zcS hv hi1; refine hG9 ?_; clear hG9
        have hne : e' ≠ e := Ne.symm (zci (zbd hes he1 e' (by rw [zaL hx1]; exact .head _)))
        refine zal wF wN ?wt1 ?_ (by passes_own)
        case wt1 =>
         k_extra "a"
         refine za7 wN (.tail _ (.tail _ hA)) (by exact Int.zero_le_ofNat (i + 1)) (by lia) (by first | exact hx2 | (rw [show (((i : Nat) : Int) + 1).toNat = i + 1 by lia]; exact hx2)) ?_ (by with_unfolding_all rfl)
         k_extra "x"
         refine zeT (b := false) eN (hx3.mono fun p hp => .tail _ (.tail _ hp)) (he3.mono fun p hp => .tail _ (.tail _ hp)) (by simpa using hne) (by (try dsimp only [A9]); ke_room) ?_
         k_extra "G"
        intro h8 tk8 F8 N8
        clear wF wN
        k_extra "U"
        refine wpAny_passesOwn (by passes_own) ?_
        by_cases hj1 : j + 1 < bs.length
        ·refine bc fun hG9 => ?_; obtain ⟨ba', b', hy1, hy2, hy3⟩ := zcS hw hj1; refine hG9 ?_; clear hG9
         have hnb : b' ≠ e := Ne.symm (zci (zbd hbs hb1 b' (by rw [zaL hy1]; exact .head _)))
         refine zal wF wN ?wt2 ?_ (by passes_own)
         case wt2 =>
          k_extra "a"
          refine za7 wN (.tail _ (.tail _ hB)) (by exact Int.zero_le_ofNat (j + 1)) (by lia) (by first | exact hy2 | (rw [show (((j : Nat) : Int) + 1).toNat = j + 1 by lia]; exact hy2)) ?_ (by with_unfolding_all rfl)
          k_extra "x"
          refine zeT (b := false) eN (hy3.mono fun p hp => .tail _ (.tail _ hp)) (hb3.mono fun p hp => .tail _ (.tail _ hp)) (by simpa using hnb) (by (try dsimp only [A9]); ke_room) ?_
          k_extra "G"
         k_extra "af"
         exact zbE (by lia) hsl.1 ⟨by (first | exact rfl | assumption | ((try dsimp only); (repeat rw [if_neg (by decide)]); first | done | assumption | (rw [if_pos rfl]; done) | (rw [if_pos rfl]; exact rfl) | exact rfl)), by (first | exact rfl | assumption | ((try dsimp only); (repeat rw [if_neg (by decide)]); first | done | assumption | (rw [if_pos rfl]; done) | (rw [if_pos rfl]; exact rfl) | exact rfl)), by (first | exact rfl | assumption | ((try dsimp only); (repeat rw [if_neg (by decide)]); first | done | assumption | (rw [if_pos rfl]; done) | (rw [if_pos rfl]; exact rfl) | exact rfl)), by (first | exact rfl | assumption | ((try dsimp only); (repeat rw [if_neg (by decide)]); first | done | assumption | (rw [if_pos rfl]; done) | (rw [if_pos rfl]; exact rfl) | exact rfl)), ⟨_, by (first | exact rfl | assumption | ((try dsimp only); (repeat rw [if_neg (by decide)]); (try rw [if_pos rfl]); first | (rw [Int.natCast_add]; done) | (rw [Int.natCast_succ]; done) | (rw [Int.natCast_add]; rfl) | (rw [Int.natCast_succ]; rfl)))⟩, ⟨_, by (first | exact rfl | assumption | ((try dsimp only); (repeat rw [if_neg (by decide)]); (try rw [if_pos rfl]); first | (rw [Int.natCast_add]; done) | (rw [Int.natCast_succ]; done) | (rw [Int.natCast_add]; rfl) | (rw [Int.natCast_succ]; rfl)))⟩⟩ eF hms' hus' eN
        ·refine zaJ ?_ (by passes_own)
         k_extra "a"
         refine zbr (z := (j : Int) + 1) rfl (zaf wN (.tail _ (.tail _ hB))) (by rw [List.size_toArray]; lia) (by lia) ?_ (by with_unfolding_all rfl)
         intro h3 tk3 e3 x3
         exact hand _ _ (slde (a := e3) (.inr (by dsimp only; lia)) hsl.1 ⟨by (first | exact rfl | assumption | ((try dsimp only); (repeat rw [if_neg (by decide)]); first | done | assumption | (rw [if_pos rfl]; done) | (rw [if_pos rfl]; exact rfl) | exact rfl)), by (first | exact rfl | assumption | ((try dsimp only); (repeat rw [if_neg (by decide)]); first | done | assumption | (rw [if_pos rfl]; done) | (rw [if_pos rfl]; exact rfl) | exact rfl)), by (first | exact rfl | assumption | ((try dsimp only); (repeat rw [if_neg (by decide)]); first | done | assumption | (rw [if_pos rfl]; done) | (rw [if_pos rfl]; exact rfl) | exact rfl)), by (first | exact rfl | assumption | ((try dsimp only); (repeat rw [if_neg (by decide)]); first | done | assumption | (rw [if_pos rfl]; done) | (rw [if_pos rfl]; exact rfl) | exact rfl)), ⟨_, by (first | exact rfl | assumption | ((try dsimp only); (repeat rw [if_neg (by decide)]); (try rw [if_pos rfl]); first | (rw [Int.natCast_add]; done) | (rw [Int.natCast_succ]; done) | (rw [Int.natCast_add]; rfl) | (rw [Int.natCast_succ]; rfl)))⟩, ⟨_, by (first | exact rfl | assumption | ((try dsimp only); (repeat rw [if_neg (by decide)]); (try rw [if_pos rfl]); first | (rw [Int.natCast_add]; done) | (rw [Int.natCast_succ]; done) | (rw [Int.natCast_add]; rfl) | (rw [Int.natCast_succ]; rfl)))⟩⟩ wF hms' hus' wN KtsTurn.refl B' X' T' (zaT B' wF x3 rfl))
       ·refine zaJ ?_ (by passes_own)
        k_extra "a"
        refine zbr (z := (i : Int) + 1) rfl (zaf wN (.tail _ (.tail _ hA))) (by rw [List.size_toArray]; lia) (by lia) ?_ (by with_unfolding_all rfl)
        intro h3 tk3 e3 x3
        refine zfn B' wF wN x3 XB TB rfl ?_ (by passes_own)
        intro h' g2 oe t T oT ts x T2 F2 hc2 hd2 hdT2 h32 hne2 hof2 N2 B2 X2 P2
        clear wF wN
        k_extra "U"
        by_cases hj1 : j + 1 < bs.length
        ·refine bc fun hG9 => ?_; obtain ⟨ba', b', hy1, hy2, hy3⟩ := zcS hw hj1; refine hG9 ?_; clear hG9
         have hnb : b' ≠ e := Ne.symm (zci (zbd hbs hb1 b' (by rw [zaL hy1]; exact .head _)))
         refine zal wF wN ?wt3 ?_ (by passes_own)
         case wt3 =>
          k_extra "a"
          refine za7 wN (.tail _ (.tail _ (.tail _ (.tail _ hB)))) (by exact Int.zero_le_ofNat (j + 1)) (by lia) (by first | exact hy2 | (rw [show (((j : Nat) : Int) + 1).toNat = j + 1 by lia]; exact hy2)) ?_ (by with_unfolding_all rfl)
          k_extra "x"
          refine zeT (b := false) eN (hy3.mono fun p hp => .tail _ (.tail _ (.tail _ (.tail _ hp)))) (hb3.mono fun p hp => .tail _ (.tail _ (.tail _ (.tail _ hp)))) (by simpa using hnb) (by (try dsimp only [A9]); ke_room) ?_
          k_extra "G"
         k_extra "af"
         refine zol (e := e3) (T := T) B2 eF eN rfl hc2 hd2 hdT2 h32 hne2 ?hoff ?_
         case hoff => exact hof2
         intro G h4 FG4 NG4 x4
         exact hand _ _ (slde (a := e3) (.inl (by dsimp only; lia)) hsl.1 ⟨by (first | exact rfl | assumption | ((try dsimp only); (repeat rw [if_neg (by decide)]); first | done | assumption | (rw [if_pos rfl]; done) | (rw [if_pos rfl]; exact rfl) | exact rfl)), by (first | exact rfl | assumption | ((try dsimp only); (repeat rw [if_neg (by decide)]); first | done | assumption | (rw [if_pos rfl]; done) | (rw [if_pos rfl]; exact rfl) | exact rfl)), by (first | exact rfl | assumption | ((try dsimp only); (repeat rw [if_neg (by decide)]); first | done | assumption | (rw [if_pos rfl]; done) | (rw [if_pos rfl]; exact rfl) | exact rfl)), by (first | exact rfl | assumption | ((try dsimp only); (repeat rw [if_neg (by decide)]); first | done | assumption | (rw [if_pos rfl]; done) | (rw [if_pos rfl]; exact rfl) | exact rfl)), ⟨_, by (first | exact rfl | assumption | ((try dsimp only); (repeat rw [if_neg (by decide)]); (try rw [if_pos rfl]); first | (rw [Int.natCast_add]; done) | (rw [Int.natCast_succ]; done) | (rw [Int.natCast_add]; rfl) | (rw [Int.natCast_succ]; rfl)))⟩, ⟨_, by (first | exact rfl | assumption | ((try dsimp only); (repeat rw [if_neg (by decide)]); (try rw [if_pos rfl]); first | (rw [Int.natCast_add]; done) | (rw [Int.natCast_succ]; done) | (rw [Int.natCast_add]; rfl) | (rw [Int.natCast_succ]; rfl)))⟩⟩ FG4 hms' hus' NG4 T2 B2 X2 P2 x4)
        ·refine zaJ ?_ (by passes_own)
         k_extra "x"
         refine zgM (z := (j : Int) + 1) rfl (eN _ (.head _)).1 hd2 (zaf eN (.tail _ (.tail _ (.tail _ (.tail _ hB))))) (by rw [List.size_toArray]; lia) (by lia) ?_ (by with_unfolding_all rfl)
         intro h5 tk5 e5 x5
         exact hand _ _ (slde (a := e5) (.inl (by dsimp only; lia)) hsl.1 ⟨by (first | exact rfl | assumption | ((try dsimp only); (repeat rw [if_neg (by decide)]); first | done | assumption | (rw [if_pos rfl]; done) | (rw [if_pos rfl]; exact rfl) | exact rfl)), by (first | exact rfl | assumption | ((try dsimp only); (repeat rw [if_neg (by decide)]); first | done | assumption | (rw [if_pos rfl]; done) | (rw [if_pos rfl]; exact rfl) | exact rfl)), by (first | exact rfl | assumption | ((try dsimp only); (repeat rw [if_neg (by decide)]); first | done | assumption | (rw [if_pos rfl]; done) | (rw [if_pos rfl]; exact rfl) | exact rfl)), by (first | exact rfl | assumption | ((try dsimp only); (repeat rw [if_neg (by decide)]); first | done | assumption | (rw [if_pos rfl]; done) | (rw [if_pos rfl]; exact rfl) | exact rfl)), ⟨_, by (first | exact rfl | assumption | ((try dsimp only); (repeat rw [if_neg (by decide)]); (try rw [if_pos rfl]); first | (rw [Int.natCast_add]; done) | (rw [Int.natCast_succ]; done) | (rw [Int.natCast_add]; rfl) | (rw [Int.natCast_succ]; rfl)))⟩, ⟨_, by (first | exact rfl | assumption | ((try dsimp only); (repeat rw [if_neg (by decide)]); (try rw [if_pos rfl]); first | (rw [Int.natCast_add]; done) | (rw [Int.natCast_succ]; done) | (rw [Int.natCast_add]; rfl) | (rw [Int.natCast_succ]; rfl)))⟩⟩ eF hms' hus' (fun p hp => eN p (.tail _ (.tail _ hp))) T2 B2 X2 P2 (zaT B2 eF x5 rfl))
      ·have hgt : llt b e = true := zcv _ _ heb hlf
       have hsl := zhQ hes hI.symm hb1 he1 hgt
       have hus' : DatAll news (us ++ [.ref ba]) ((zaD bs es (j + 1)).map tdat) := by rw [hsl.2, List.map_append]; exact hus.append (.cons hb3 .nil)
       rw [hgt]
       k_extra "U"
       by_cases hj1 : j + 1 < bs.length
       ·refine bc fun hG9 => ?_; obtain ⟨ba', b', hy1, hy2, hy3⟩ := zcS hw hj1; refine hG9 ?_; clear hG9
        have hnb : b' ≠ b := Ne.symm (zci (zbd hbs hb1 b' (by rw [zaL hy1]; exact .head _)))
        refine zal wF wN ?wt4 ?_ (by passes_own)
        case wt4 =>
         k_extra "a"
         refine za7 wN (.tail _ (.tail _ hB)) (by exact Int.zero_le_ofNat (j + 1)) (by lia) (by first | exact hy2 | (rw [show (((j : Nat) : Int) + 1).toNat = j + 1 by lia]; exact hy2)) ?_ (by with_unfolding_all rfl)
         k_extra "x"
         refine zeT (b := false) eN (hy3.mono fun p hp => .tail _ (.tail _ hp)) (hb3.mono fun p hp => .tail _ (.tail _ hp)) (by simpa using hnb) (by (try dsimp only [A9]); ke_room) ?_
         k_extra "G"
        k_extra "af"
        exact zbE (by exact Nat.lt_add_one (i + j)) hsl.1.symm ⟨by (first | exact rfl | assumption | ((try dsimp only); (repeat rw [if_neg (by decide)]); first | done | assumption | (rw [if_pos rfl]; done) | (rw [if_pos rfl]; exact rfl) | exact rfl)), by (first | exact rfl | assumption | ((try dsimp only); (repeat rw [if_neg (by decide)]); first | done | assumption | (rw [if_pos rfl]; done) | (rw [if_pos rfl]; exact rfl) | exact rfl)), by (first | exact rfl | assumption | ((try dsimp only); (repeat rw [if_neg (by decide)]); first | done | assumption | (rw [if_pos rfl]; done) | (rw [if_pos rfl]; exact rfl) | exact rfl)), by (first | exact rfl | assumption | ((try dsimp only); (repeat rw [if_neg (by decide)]); first | done | assumption | (rw [if_pos rfl]; done) | (rw [if_pos rfl]; exact rfl) | exact rfl)), ⟨_, by (first | exact rfl | assumption | ((try dsimp only); (repeat rw [if_neg (by decide)]); first | done | assumption | (rw [if_pos rfl]; done) | (rw [if_pos rfl]; exact rfl) | exact rfl))⟩, ⟨_, by (first | exact rfl | assumption | ((try dsimp only); (repeat rw [if_neg (by decide)]); (try rw [if_pos rfl]); first | (rw [Int.natCast_add]; done) | (rw [Int.natCast_succ]; done) | (rw [Int.natCast_add]; rfl) | (rw [Int.natCast_succ]; rfl)))⟩⟩ eF hms hus' eN
       ·refine zaJ ?_ (by passes_own)
        k_extra "a"
        refine zbr (z := (j : Int) + 1) rfl (zaf wN (.tail _ (.tail _ hB))) (by rw [List.size_toArray]; lia) (by lia) ?_ (by with_unfolding_all rfl)
        intro h3 tk3 e3 x3
        exact hand _ _ (slde (a := e3) (.inr (by dsimp only; lia)) hsl.1.symm ⟨by (first | exact rfl | assumption | ((try dsimp only); (repeat rw [if_neg (by decide)]); first | done | assumption | (rw [if_pos rfl]; done) | (rw [if_pos rfl]; exact rfl) | exact rfl)), by (first | exact rfl | assumption | ((try dsimp only); (repeat rw [if_neg (by decide)]); first | done | assumption | (rw [if_pos rfl]; done) | (rw [if_pos rfl]; exact rfl) | exact rfl)), by (first | exact rfl | assumption | ((try dsimp only); (repeat rw [if_neg (by decide)]); first | done | assumption | (rw [if_pos rfl]; done) | (rw [if_pos rfl]; exact rfl) | exact rfl)), by (first | exact rfl | assumption | ((try dsimp only); (repeat rw [if_neg (by decide)]); first | done | assumption | (rw [if_pos rfl]; done) | (rw [if_pos rfl]; exact rfl) | exact rfl)), ⟨_, by (first | exact rfl | assumption | ((try dsimp only); (repeat rw [if_neg (by decide)]); first | done | assumption | (rw [if_pos rfl]; done) | (rw [if_pos rfl]; exact rfl) | exact rfl))⟩, ⟨_, by (first | exact rfl | assumption | ((try dsimp only); (repeat rw [if_neg (by decide)]); (try rw [if_pos rfl]); first | (rw [Int.natCast_add]; done) | (rw [Int.natCast_succ]; done) | (rw [Int.natCast_add]; rfl) | (rw [Int.natCast_succ]; rfl)))⟩⟩ wF hms hus' wN KtsTurn.refl B' X' T' (zaT B' wF x3 rfl))
    ·(with_reducible rename Fr _ _ _ _ => eF)
     (with_reducible rename News _ _ _ _ => eN)
     refine zbr (z := (j : Int)) rfl (zaf eN (.tail _ (.tail _ hB))) (by rw [List.size_toArray]; (clear hk hel hbl hdp hun p90 p91 hvl lt2 hmu f1 f2 f3 f4 f5 f6 hil hjl hml hul hi he1 he2; lia)) (by (clear hk hel hdp hun p90 p91 hvl hwl lt2 hmu f1 f2 f3 f4 f5 f6 hil hml hul hi he1 he2 hj; lia)) ?_ (by with_unfolding_all rfl)
     intro h3 tk3 e3 x3
     exact hand _ _ (slde (a := e3) (.inr (by dsimp only; exact Nat.eq_of_lt_succ_of_not_lt (Nat.lt_succ_of_le hjl) hj)) hI ⟨by (first | exact rfl | assumption | ((try dsimp only); (repeat rw [if_neg (by decide)]); first | done | assumption | (rw [if_pos rfl]; done) | (rw [if_pos rfl]; exact rfl) | exact rfl)), by (first | exact rfl | assumption | ((try dsimp only); (repeat rw [if_neg (by decide)]); first | done | assumption | (rw [if_pos rfl]; done) | (rw [if_pos rfl]; exact rfl) | exact rfl)), by (first | exact rfl | assumption | ((try dsimp only); (repeat rw [if_neg (by decide)]); first | done | assumption | (rw [if_pos rfl]; done) | (rw [if_pos rfl]; exact rfl) | exact rfl)), by (first | exact rfl | assumption | ((try dsimp only); (repeat rw [if_neg (by decide)]); first | done | assumption | (rw [if_pos rfl]; done) | (rw [if_pos rfl]; exact rfl) | exact rfl)), ⟨_, by (first | exact rfl | assumption | ((try dsimp only); (repeat rw [if_neg (by decide)]); first | done | assumption | (rw [if_pos rfl]; done) | (rw [if_pos rfl]; exact rfl) | exact rfl))⟩, ⟨_, by (first | exact rfl | assumption | ((try dsimp only); (repeat rw [if_neg (by decide)]); first | done | assumption | (rw [if_pos rfl]; done) | (rw [if_pos rfl]; exact rfl) | exact rfl))⟩⟩ eF hms hus eN KtsTurn.refl B' X' T' (zaT B' eF x3 rfl))
   ·(try ((show wpAny _ _ _ _ _ _); k_fold))
    k_steps
    k_extra "E"
    refine zbr (z := (i : Int)) rfl (zaf N9 (.tail _ (.tail _ hA))) (by rw [List.size_toArray]; lia) (by lia) ?_ (by with_unfolding_all rfl)
    intro h3 tk3 e3 x3
    exact hand _ _ (slde (a := e3) (.inl (by dsimp only; exact Nat.eq_of_lt_succ_of_not_lt (Nat.lt_succ_of_le hil) hi)) hI ⟨by (first | exact rfl | assumption | ((try dsimp only); (repeat rw [if_neg (by decide)]); first | done | assumption | (rw [if_pos rfl]; done) | (rw [if_pos rfl]; exact rfl) | exact rfl)), by (first | exact rfl | assumption | ((try dsimp only); (repeat rw [if_neg (by decide)]); first | done | assumption | (rw [if_pos rfl]; done) | (rw [if_pos rfl]; exact rfl) | exact rfl)), by (first | exact rfl | assumption | ((try dsimp only); (repeat rw [if_neg (by decide)]); first | done | assumption | (rw [if_pos rfl]; done) | (rw [if_pos rfl]; exact rfl) | exact rfl)), by (first | exact rfl | assumption | ((try dsimp only); (repeat rw [if_neg (by decide)]); first | done | assumption | (rw [if_pos rfl]; done) | (rw [if_pos rfl]; exact rfl) | exact rfl)), ⟨_, by (first | exact rfl | assumption | ((try dsimp only); (repeat rw [if_neg (by decide)]); first | done | assumption | (rw [if_pos rfl]; done) | (rw [if_pos rfl]; exact rfl) | exact rfl))⟩, ⟨_, by (first | exact rfl | assumption | ((try dsimp only); (repeat rw [if_neg (by decide)]); first | done | assumption | (rw [if_pos rfl]; done) | (rw [if_pos rfl]; exact rfl) | exact rfl))⟩⟩ F9 hms hus N9 KtsTurn.refl B' X' T' (zaT B' F9 x3 rfl))
example : True := by
 k_with "aa" => (clear hoff; simp only [List.cons_append, List.nil_append] at N9 hrest)
 k_with "K" => (intro z z1 z2 z3; simp only [List.forall_mem_cons] at z2)
 k_with "aB" => simp only [List.cons_append, List.nil_append] at N9
 k_with "pyIter bytes" => (refine hold ?_)
 k_with "binaryOp Mod int int" => (k_here; (with_reducible refine mod_int' (by omega) ?_))
 k_with "binaryOp Pow int int" => (refine hold ?_)
 trivial
noncomputable def padN (n : Nat) : Nat := 6 * ((8 * n + 5) / 6) - 8 * n
noncomputable def numL (os : List Int) : Int := zak os os.length * 2 ^ padN os.length
theorem zmV (n : Nat) : padN n <= 5 := by unfold padN; omega
theorem zn0 (n : Nat) : (-8 * (n : Int)).fmod 6 = (padN n : Int) := by
 rw [Int.fmod_eq_emod_of_nonneg _ (by decide)]
 unfold padN
 lia
theorem zcN (h : ∀ o ∈ os, 0 <= o /\ o < 256) : ∀ i, i <= os.length -> zak os i < 256 ^ i
 | 0, _ => by simp [zak]
 | i + 1, hi => by
  have ih := zcN h i (by exact Nat.le_of_succ_le hi)
  have e : os[i]? = some (os[i]'(by exact Nat.lt_of_succ_le hi)) := List.getElem?_eq_getElem _
  rw [zaA e, Int.pow_succ]
  have := h _ (List.getElem_mem (l := os) (n := i) (by exact Nat.lt_of_succ_le hi))
  lia
theorem zg4 {n : Nat} (h : n <= 4) : (256 : Int) ^ n <= 4294967296 := by
 have : n = 0 \/ n = 1 \/ n = 2 \/ n = 3 \/ n = 4 := by lia
 rcases this with rfl | rfl | rfl | rfl | rfl <;> decide
structure NumI (os : List Int) (i : Nat) (c : Int × Tok) : Prop where
 e : c.1 = zak os i
theorem zcQ {loose : List Str} {mb : Str -> Option Value}
  {cs : Scope} {a : Addr} {Q : Value -> Shared -> Prop} 
  (B : Below A₀ base outer h₀) (F : Fr h₀ L s.heap m) (X : (K w.params).In h₀) (N : News h₀ L s.heap news) (T : Top Mine.q loose mean mg mb h₀) (hk : cs.kind = .function)
  {arr : Array UInt8} {t : Tok} (hlen : arr.size <= 4) (hdp : dp + 10 < recursionLimit) (hun : un + 50 < cLine)
  (hret : ∀ t' h' tk', Fr h₀ L h' m -> News h₀ L h' news -> Q (.int (numL (KBw.bInts arr)) t') { s with heap := h', toks := tk' }) :
  wpAny (model PySem.Challenge.rw_rt0114_02.row.prog w) (ktrTop dp un gd cn cs L a ccd cl outer) (call (.ref 290) [.bytes arr t]) Q E s := by
 revert X; k_fill; intro X
 k_extra "ay"
 k_dflt (refine' zaF B F X N T ?kA ?kF ?kK ?k6 ?k7 ?k8 ?k9 ?kB ?_ ?c2 ?c3 ?c4 ?c5; (case kA => exact rfl); (case kF => exact rfl); (case kK => assumption); (case k6 => k_is); (case k7 => k_is); (case k8 => ktr_room); (case k9 => first | exact BindsTo.of_eq rfl | exact binds_K (by k_in) rfl (by k_is) rfl rfl rfl); (case c5 => decide); (case kB => exact locs rfl); (case c2 => exact rfl); (case c3 => exact rfl); (case c4 => exact rfl); k_whole)
 k_extra "A"
 k_steps
 refine zai ?_
 k_extra "I"
 refine' zfH (σ := Int × Tok) (fun c => [(Str.ofString "number", .int c.1 c.2)]) (fun _ => []) [] (fun i c => NumI (KBw.bInts arr) i c) (0, _) (by rfl) lF lN ?ho ?hk ?hi ?turn ?done
 case ho => exact fun p hp q hq => nomatch hq
 case hk =>
  refine fc ?_ (fn)
  all_goals (dsimp only; (repeat rw [if_neg (by decide)]); first | done | (rw [if_pos rfl]) | skip)
  all_goals (try exact rfl)
 case hi => exact ⟨rfl⟩
 case turn =>
  intro i k t2 c u h9 tk9 own hik hk0 hk1 hI hoff hrest F9 N9
  clear lF lN
  refine bc fun hG9 => ?_; obtain ⟨c, tc⟩ := c; refine hG9 ?_; clear hG9
  k_extra "aP"
  k_extra "aa"
  k_extra "l"
  obtain ⟨hc⟩ := hI
  k_extra "e"
  dsimp only at F9 N9 hc
  have hisz : i < arr.size := by rw [<- KBw.ints_length]; exact (List.getElem?_eq_some_iff.mp hik).1
  k_steps
  refine zai ?_
  k_extra "c"
  refine' zaa (_, _) eF eN (fn) (fun _ h => h) (fun p hp q hq => nomatch hq) ?ek ?ez ?ei
  case ek =>
   refine fc ?_ (fn)
   all_goals (dsimp only; (repeat rw [if_neg (by decide)]); first | done | (rw [if_pos rfl]) | skip)
   all_goals (try exact rfl)
  case ez =>
   k_extra "K"
   (refine cj2 (z2) ?_; clear z2; intro y1 _)
   k_extra "k"
  case ei => exact ⟨by rw [zaA hik, <- hc]⟩
 case done =>
  intro c u h9 tk9 hI hoff F9 N9
  clear lF lN
  refine bc fun hG9 => ?_; obtain ⟨c, tc⟩ := c; refine hG9 ?_; clear hG9
  k_extra "l"
  obtain ⟨hc⟩ := hI
  k_extra "e"
  dsimp only at F9 N9 hc
  k_extra "aB"
  have h0 : 0 <= c := by rw [hc]; exact zbe (fun o ho => (KBw.ints_in ho).1) _
  have h1 : c < 4294967296 := by
   rw [hc]
   have h2 := zcN (os := KBw.bInts arr) (fun o ho => KBw.ints_in ho) arr.size (by rw [KBw.ints_length]; exact Nat.le_refl _)
   have h3 : (256 : Int) ^ arr.size <= 4294967296 := zg4 hlen
   exact Int.lt_of_lt_of_le h2 h3
  k_steps
  refine zai ?_
  have e0 := zn0 arr.size
  have e1 := zmV arr.size
  k_extra "L"
  refine pow_int_small ?pa ?pb ?pc ?_
  case pa => exact Int.fmod_nonneg_of_pos _ (by decide)
  case pb => exact Int.le_of_lt (Int.lt_of_lt_of_le (Int.fmod_lt_of_pos _ (by decide)) (by decide))
  case pc => decide
  k_extra "L"
  k_extra "r"
  have hr := fun t' tk' => hret t' _ tk' kF (fun p hp => kN p (by first | exact hp | exact .tail _ hp))
  unfold numL at hr
  rw [KBw.ints_length, <- hc, show padN arr.size = ((-8 * (arr.size : Int)).fmod 6).toNat by rw [e0]; rfl] at hr
  exact hr _ _
example : True := by
 k_with "F" => (refine codeAny_builtin PySem.F.entry_extend_loop ?_; rw [Around.under_plainId PySem.F.plain_extend_loop _])
 trivial
section
open Builtin
theorem zcD : Slot "bytes" "rstrip" "bytes.rstrip" :=
 .of (owner := "bytes") (n := "rstrip") (by rw [typeLookup_type, builtinLookup_eq_fast]; kernel_rfl) (by decide +kernel) (by decide +kernel) (by decide +kernel)
  (by first | exact .inl (by decide +kernel) | exact .inr (by decide +kernel)) (by rw [isSubtype_type]; kernel_rfl)
theorem zfe : typeOf (.builtin "bytes.rstrip") = pure (.type "method_descriptor") := by show builtinType _ = _; rw [builtinType_eq_fast]; kernel_rfl
theorem zes : entryFor table "bytes.rstrip" = some Builtin.«bytes.rstrip» := entryFor_of_tree (by kernel_rfl)
theorem zfx (a b : Value) : argsOk "bytes.rstrip" ⟨[a, b], []⟩ := by
 unfold argsOk; rw [signature?_of (id := "bytes.rstrip") (n := ['p', 'i', 'r', 't', 's', 'r']) (o := ['s', 'e', 't', 'y', 'b']) (by kernel_rfl) FB.owner_bytes]; kernel_rfl
noncomputable def zcO (b c : Array UInt8) : Array UInt8 := ((b.toList.reverse.dropWhile fun x => c.contains x).reverse).toArray
theorem zgU {b c : Array UInt8} (h : (b.toList.reverse.dropWhile fun x => c.contains x).reverse.length = b.size) : zcO b c = b := by
 unfold zcO
 rw [List.length_reverse] at h
 have e : b.toList.reverse.dropWhile (fun x => c.contains x) = b.toList.reverse := by
  have h2 := List.takeWhile_append_dropWhile (p := fun x => c.contains x) (l := b.toList.reverse)
  have h3 := congrArg List.length h2
  have hb : b.toList.length = b.size := Array.length_toList
  rw [List.length_append, h, List.length_reverse, hb] at h3
  have h4 : (b.toList.reverse.takeWhile fun x => c.contains x) = [] := List.eq_nil_of_length_eq_zero (by exact Nat.add_eq_right.mp h3)
  rw [h4, List.nil_append] at h2
  exact h2
 rw [e, List.reverse_reverse]
theorem zeW {b c : Array UInt8} {t u : Tok} :
  Meets («bytes.rstrip» ⟨[.bytes b t, .bytes c u], []⟩) (fun _ R s => b.size <= 100000 /\ ∀ t' k, R (.ok (.ret (.bytes (zcO b c) t'))) { s with toks := k }) := by
 refine .of_wp fun prog w A R s hS => ?_
 (refine cj2 (hS) ?_; clear hS; intro hsz h)
 show wpAny _ _ (Bytes.bytesLike _ (.bytes c u) >>= _) _ _ s
 refine wpAny_bind (wpAny_of_eq KBd.like_eq ?_)
 k_extra "aJ"
 show wpAny _ _ (Bytes.payload (.bytes b t) >>= _) _ _ s
 refine wpAny_bind (wpAny_of_eq (a := b) (by rfl) ?_)
 dsimp only
 simp only [Bool.false_eq_true, if_false, if_true]
 by_cases hl : ((List.dropWhile c.contains b.toList.reverse).reverse.length == b.size) = true
 ·rw [if_pos hl]
  have e := zgU (b := b) (c := c) (eq_of_beq hl)
  k_extra "ax"
  k_extra "5"
  show wpAny _ _ (typeOf (.bytes b t) >>= _) _ _ s
  refine wpAny_bind (wpAny_typeOf (typeIs_bytes s b t) ?_)
  k_extra "W"
  refine wpAny_pure ⟨_, rfl, ?_⟩
  have h' := h t s.toks
  rw [e] at h'
  exact h'
 ·rw [if_neg hl]
  k_extra "5"
  show wpAny _ _ (mkBytes _) _ _ s
  refine wpAny_mkBytes (wpAny_pure ⟨_, rfl, h _ _⟩) ?_
  have h1 := (List.dropWhile_sublist (p := c.contains) (l := b.toList.reverse)).length_le
  have hb : b.toList.length = b.size := Array.length_toList
  rw [List.length_reverse, hb] at h1
  rw [List.size_toArray, List.length_reverse, sizeLine_eq]
  lia
section
variable {b c : Array UInt8} {t u : Tok}
theorem zcy {Q : Value -> Shared -> Prop} (hsz : b.size <= 100000) (h : ∀ t' k, Q (.bytes (zcO b c) t') { s with toks := k }) : wpAny (model prog w) A (call (.builtin "bytes.rstrip") [.bytes b t, .bytes c u]) Q E s :=
 call_meets zcD (typeIs_bytes _ _ _) zes (zfx _ _) zeW ⟨hsz, h⟩
theorem zdE {pl : Sem Bool} {Q : Value × List Value -> Shared -> Prop} (h : Q (.builtin "bytes.rstrip", [.bytes b t]) s) : wpAny M A (getMethod (.bytes b t) "rstrip" pl) Q E s := by
 with_reducible exact KBd.method_of (.bytes b t) (typeIs_bytes _ _ _) zcD zfe KBd.noRef h
end
theorem zgV {R : Result -> Shared -> Prop} (hh : A.in1.handled = none) {S I : Addr} {b : Array UInt8} {t : Tok} {res : Value} (h1 : S ≠ I) (hsz : b.size <= 100000) :
  ∀ (k i : Nat) (s : Shared) (acc : List Value) (c : Nat), b.size - i = k -> i <= b.size -> IntsAre acc ((KBw.bInts b).take i) -> KBw.IsBytesIter s.heap I b t i -> s.heap.get? S = some (W.listOf acc.toArray c) ->
   (∀ h' acc' c' tk, (∀ a o, a ≠ S -> a ≠ I -> s.heap.get? a = some o -> h'.get? a = some o) -> IntsAre acc' (KBw.bInts b) -> h'.get? S = some (W.listOf acc'.toArray c') -> R (.ok (.ret res)) { s with heap := h', toks := tk }) ->
   codeAny (model prog w) A (.builtin "list.extend.loop" ⟨[.ref S, .ref I, res], []⟩) R s := by
 intro k
 induction k with
 | zero =>
  intro i s acc c hk hi hacc hit hS hR
  obtain rfl : i = b.size := by lia
  k_extra "F"
  refine wpAny_bind (m := pyNext (.ref I)) (KBw.next_end hh hit (by simp) fun h' he => ?_)
  rw [List.take_of_length_le (by rw [KBw.ints_length]; exact Nat.le_refl _)] at hacc
  exact wpAny_pure (hR h' acc c _ (fun a o _ hb e => he a o hb e) hacc (he S _ h1 hS))
 | succ k ih =>
  intro i s acc c hk hi hacc hit hS hR
  have hlt : i < b.size := by exact Nat.lt_of_sub_eq_succ hk
  have hx : b[i]? = some b[i] := by simp [hlt]
  k_extra "F"
  refine wpAny_bind (m := pyNext (.ref I)) (KBw.next_item hit hx fun h' hit' hs' => ?_)
  have hS' := hs'.extBut S _ h1 hS
  have hal : acc.length = i := by rw [hacc.length, List.length_take, KBw.ints_length]; exact Nat.min_eq_left hi
  have hsl : sizeLine = 2 ^ 24 := by decide
  refine wpAny_bind (m := updateSeq S (·.push (Value.int (b[i].toNat : Int) s.toks))) (wpAny_updateSeq hS' rfl (wpAny_pure ⟨plainId_quiet PySem.F.plain_extend_loop _, ?_⟩) (by show acc.toArray.size <= _; rw [List.size_toArray, hal]; lia) (by show (acc.toArray.push _).size <= _; rw [Array.size_push, List.size_toArray, hal]; lia))
  obtain ⟨c5, hS₅⟩ : ∃ c5, (h'.update S (Obj.mapSeq (·.push (Value.int (b[i].toNat : Int) s.toks)))).get? S = some (W.listOf (acc ++ [Value.int (b[i].toNat : Int) s.toks]).toArray c5) := by
   rw [<- List.push_toArray]
   exact ⟨_, get?_update_seq hS' fun z => z.push (Value.int (b[i].toNat : Int) s.toks)⟩
  have hs₅ := Heap.SameBut.update h' S (Obj.mapSeq (·.push (Value.int (b[i].toNat : Int) s.toks)))
  refine ih (i + 1) _ (acc ++ [Value.int (b[i].toNat : Int) s.toks]) c5 (by lia) hlt ?_ ?_ hS₅ fun h'' acc' c' tk hk' ha hS'' => hR h'' acc' c' tk (fun a o ha hb e => hk' a o ha hb (hs₅.extBut a o ha (hs'.extBut a o hb e))) ha hS''
  ·rw [List.take_add_one, KBw.ints_get hx]
   exact hacc.append (.cons _ _ .nil)
  ·refine bc fun hG9 => ?_; obtain ⟨o, ho, r⟩ := hit'; refine hG9 ?_; clear hG9
   exact ⟨o, hs₅.extBut I _ (Ne.symm h1) ho, r⟩
theorem zgy : splitId "bytes.__len__" = some ("bytes", "__len__") := by decide +kernel
theorem zgS {S : Addr} {b : Array UInt8} {t : Tok} {c : Nat} {R : Result -> Shared -> Prop} (hh : A.handled = none) (hsz : b.size <= 100000) (hS : s.heap.get? S = some { cls := .type "list", data := .seq #[] c })
  (h : ∀ h' acc' c' tk, (∀ a o, a ≠ S -> s.heap.get? a = some o -> h'.get? a = some o) -> IntsAre acc' (KBw.bInts b) -> h'.get? S = some (W.listOf acc'.toArray c') -> R (.ok (.ret .none)) { s with heap := h', toks := tk }) :
  wpAny (model prog w) A.in1 (Builtin.«list.__init__» ⟨[.ref S, .bytes b t], []⟩)
   (fun fin s' => match fin with | .done f => R (.ok f) s' | .again c' => c'.quiet = true /\ codeAny (model prog w) A c' R s') (fun e s' => R (.error e) s') s := by
 show wpAny _ _ (do let old <- Builtin.List.listItems (.ref S); Builtin.List.listUpdate (.ref S) (fun _ => #[]); letGo old.toList.reverse; Builtin.List.listExtendWith (.ref S) (.bytes b t) .none) _ _ s
 k_extra "5"
 unfold Builtin.List.listItems
 refine wpAny_bind (wpAny_seqItems hS rfl (wpAny_pure ?_))
 show wpAny _ _ (updateSeq S (fun _ => #[]) >>= fun _ => letGo (#[] : Array Value).toList.reverse >>= fun _ => Builtin.List.listExtendWith (.ref S) (.bytes b t) .none) _ _ s
 refine wpAny_bind (wpAny_updateSeq hS rfl ?_)
 have s1 := Heap.SameBut.update s.heap S (Obj.mapSeq (fun _ => (#[] : Array Value)))
 obtain ⟨c1, hS₂⟩ : ∃ c1, (s.heap.update S (Obj.mapSeq (fun _ => (#[] : Array Value)))).get? S = some (W.listOf #[] c1) := ⟨_, get?_update_seq hS fun _ => #[]⟩
 refine wpAny_bind (wpAny_letGo ?_)
 unfold Builtin.List.listExtendWith
 refine wpAny_bind (wpAny_typeOf (typeIs_bytes _ b t) ?_)
 have h1 : Builtin.List.listSameRef (.ref S) (.bytes b t) = false := rfl
 have h2 : (Value.type "bytes" == Value.type "list") = false := by decide
 have h3 : (Value.type "bytes" == Value.type "tuple") = false := by decide
 k_extra "aF"
 refine wpAny_bind (KBw.pyIter_bytes ?_)
 k_extra "4"
 refine wpAny_bind (wpAny_of_eq (a := some (.builtin "bytes.__len__")) (KBy.special_eq FB.slot_bytes_len.lookup) ?_)
 dsimp only
 rw [zgy]
 dsimp only
 refine wpAny_bind (wpAny_of_eq KBy.isInstance_eq ?_)
 refine KFB.if_not (by rfl) ?_
 refine KFB.if_so (by decide +kernel) ?_
 refine wpAny_bind (wpAny_typeOf (typeIs_bytes _ b t) ?_)
 dsimp only
 k_extra "W"
 refine KFB.if_not (by decide +kernel) ?_
 refine wpAny_pure ⟨plainId_quiet PySem.F.plain_extend_loop _, ?_⟩
 have hlt : S < s.heap.objs.size := Heap.lt_size hS
 have hne : S ≠ (s.heap.update S (Obj.mapSeq (fun _ => (#[] : Array Value)))).objs.size := by rw [Heap.size_update]; exact Nat.ne_of_lt hlt
 refine zgV (A := A) hh hne hsz b.size 0 _ [] c1 (by exact Nat.sub_zero b.size) (Nat.zero_le _) .nil ⟨_, Heap.get?_push_size _ rfl, rfl, rfl⟩ (Heap.get?_push_of_some _ hS₂) fun h' acc' c' tk hk ha hS' => ?_
 refine h h' acc' c' tk (fun a o ha e => hk a o ha ?_ (Heap.get?_push_of_some _ (s1.extBut a o ha e))) ha hS'
 rw [Heap.size_update]
 exact Nat.ne_of_lt (Heap.lt_size e)
theorem zbR {b : Array UInt8} {t : Tok} {Q : Value -> Shared -> Prop} (hh : A.handled = none) (hsz : b.size <= 100000) (F : Fr h₀ L s.heap m) (N : News h₀ L s.heap news)
  (h : ∀ D n vs h' tk', Fr h₀ L h' m -> News h₀ L h' ((D, W.listOf (List.toArray vs) n) :: news) -> (∀ p ∈ news, p.1 < D) -> IntsAre vs (KBw.bInts b) -> Q (.ref D) { s with heap := h', toks := tk' }) :
  wpAny (model prog w) A (call (.type "list") [.bytes b t]) Q E s := by
 have hLs : L < s.heap.objs.size := F.ns.lt
 refine callType_codes (Q₁ := fun obj s₁ => obj = .ref s.heap.objs.size /\ s₁ = { s with heap := s.heap.push { cls := .type "list", data := .seq #[] } }) PySem.F.called_list (PySem.F.typeCall_list_1 _) PySem.F.entry_list_init
  (code_list_new _ ⟨rfl, rfl⟩) fun obj s₁ h₁ => ?_
 k_extra "l"
 (refine cj2 (h₁) ?_; clear h₁; intro q90 q91; subst q90; subst q91)
 k_extra "e"
 have hS : (s.heap.push { cls := .type "list", data := .seq #[] }).get? s.heap.objs.size = some { cls := .type "list", data := .seq #[] } := Heap.get?_push_size _ rfl
 have hSL : s.heap.objs.size ≠ L := Nat.ne_of_gt hLs
 have hS0 : h₀.get? s.heap.objs.size = none := Heap.get?_none_of_le (Nat.le_trans F.above (Nat.le_of_lt hLs))
 refine ⟨⟨_, hS, rfl⟩, PySem.F.args_list_init_2 _ _, zgS (A := A.in1) hh hsz hS fun h' acc' c' tk hk ha hS' => ⟨rfl, ?_⟩⟩
 have keep : ∀ a o, s.heap.get? a = some o -> h'.get? a = some o := fun a o e => hk a o (Nat.ne_of_lt (Heap.lt_size e)) (Heap.get?_push_of_some _ e)
 exact h _ c' acc' h' tk (zei F keep) (fc ⟨hS', hSL, hS0⟩ (zbK N keep)) (fun p hp => Heap.lt_size (N p hp).1) ha
end
example : True := by
 k_with "aK" => (subst hlb; k_extra "x")
 k_with "3" => (k_extra "K"; (refine cj3 (z2) ?_; clear z2; intro y1 y2 _); k_extra "k")
 k_with "0" => ((case k1 => k_asm); (case k2 => k_asm); (case a => k_mem); intro h' t' k' F' N')
 k_with "JPost" => (refine hold ?_)
 k_with "call type:type" => ((with_reducible show wpAny _ _ (call _ [Value.bytes _ _]) _ _ _); refine call_type_of (Tx := "bytes") rfl (by decide +kernel) ?_)
 k_with "binaryOp BitAnd int int" => (k_here; first | ((with_reducible show wpAny _ _ (binaryOp _ (Value.int _ _) (Value.int 65535 _)) _ _ _); refine zct 16 rfl ?_; intro _) | ((with_reducible show wpAny _ _ (binaryOp _ (Value.int _ _) (Value.int 63 _)) _ _ _); refine zct 6 rfl ?_; intro _) | ((with_reducible show wpAny _ _ (binaryOp _ (Value.int _ _) (Value.int 15 _)) _ _ _); refine zct 4 rfl ?_; intro _) | ((with_reducible show wpAny _ _ (binaryOp _ (Value.int _ _) (Value.int 3 _)) _ _ _); refine zct 2 rfl ?_; intro _))
 k_with "binaryOp LShift int int" => (k_here; first | (refine zfB 8 (by decide) (by decide) (by lia) ?_; intro _) | (refine zfB 4 (by decide) (by decide) (by lia) ?_; intro _) | (refine zfB 2 (by decide) (by decide) (by lia) ?_; intro _))
 k_with "call type:bytes" => (refine hold ?_)
 k_with "binaryOp BitOr int int" => (k_here; refine zn6 (by with_reducible assumption) (by with_reducible assumption) ?_; intro _)
 k_with "binaryOp RShift int int" => (k_here; first | (refine zdH 2 (by decide) ?_; intro _) | (refine zdH 4 (by decide) ?_; intro _) | (refine zdH 6 (by decide) ?_; intro _) | (refine zdH 0 (by decide) ?_; intro _))
 k_with "subscriptTail" => (k_here; (with_reducible show wpAny _ _ (subscriptTail _ _ (Value.bytes _ _) (Value.int _ _)) _ _ _); k_dflt (refine zhx rfl (by lia) (by lia) ?_ (by with_unfolding_all rfl) (by intro _; with_unfolding_all rfl)); intro _)
 trivial
theorem zbX {loose : List Str} {mb : Str -> Option Value}
  {cs : Scope} {a : Addr} {Q : Value -> Shared -> Prop} 
  (B : Below A₀ base outer h₀) (F : Fr h₀ L s.heap m) (X : (K w.params).In h₀) (N : News h₀ L s.heap news) (T : Top q loose mean mg mb h₀) (hk : cs.kind = .function)
  {arr : Array UInt8} {t : Tok} (hlen : arr.size <= 100) (hdp : dp + 20 < recursionLimit) (hun : un + 100 < cLine)
  (hret : ∀ t' h' tk', Fr h₀ L h' m -> News h₀ L h' news -> Q (.bytes (byteArr (b64L (KBw.bInts arr))) t') { s with heap := h', toks := tk' }) :
  wpAny (model PySem.Challenge.rw_rt0114_02.row.prog w) (ktrTop dp un gd cn cs L a ccd cl outer) (call (.ref 276) [.bytes arr t]) Q E s := by
 revert X; k_fill; intro X
 k_extra "ay"
 k_dflt (refine' zaF B F X N T ?kA ?kF ?kK ?k6 ?k7 ?k8 ?k9 ?kB ?_ ?c2 ?c3 ?c4 ?c5; (case kA => exact rfl); (case kF => exact rfl); (case kK => assumption); (case k6 => k_is); (case k7 => k_is); (case k8 => ktr_room); (case k9 => first | exact BindsTo.of_eq rfl | exact binds_K (by k_in) rfl (by k_is) rfl rfl rfl); (case c5 => decide); (case kB => exact locs rfl); (case c2 => exact rfl); (case c3 => exact rfl); (case c4 => exact rfl); k_whole)
 k_extra "aR"
 (try dsimp only); (try k_fold)
 refine zqi ?_
 intro K9 gs9 dr9 tk9 os9 hK9
 (refine x_EA (frM F') ?_; intro m0 F0 e0)
 have p90 : m0 (Str.ofString "s") = some _ := (congrFun e0 _).trans rfl
 have p91 : m0 (Str.ofString "altchars") = some _ := (congrFun e0 _).trans rfl
 k_extra "at"
 rename ∀ p ∈ news, p.1 < _ => lL
 refine' zfH (σ := B4) (fun c => [(Str.ofString "leftchar", .int c.lc c.tl), (Str.ofString "leftbits", .int c.lb c.tb)]) (fun c => [(_, W.listOf c.vs.toArray c.n)]) [] (fun i c => B4Inv (KBw.bInts arr) i c) (B4.mk [] 0 0 _ 0 _) (by rfl) lF lN ?ho ?hk ?hi ?turn ?done
 case ho => exact zaz (fun p hp => Nat.ne_of_lt (lL p hp))
 case hk =>
  refine fc ?_ (fc ?_ (fn))
  all_goals (dsimp only; (repeat rw [if_neg (by decide)]); first | done | (rw [if_pos rfl]) | skip)
  all_goals (try exact rfl)
 case hi => exact ⟨.nil, rfl, rfl⟩
 case turn =>
  intro i k t2 c u h9 tk9 own hik hk0 hk1 hI hoff hrest F9 N9
  clear lF lN
  refine bc fun hG9 => ?_; obtain ⟨vs, n, lc, tl, lb, tb⟩ := c; refine hG9 ?_; clear hG9
  k_extra "aP"
  have hoff9 := zb2 hoff
  k_extra "aa"
  refine bc fun hG9 => ?_; obtain ⟨hout, hlc, hlb⟩ := hI; refine hG9 ?_; clear hG9
  dsimp only at F9 N9 hout hlc hlb
  have hlc0 : 0 <= lc := by lia
  have hlc1 : lc < 65536 := by lia
  have hisz : i < arr.size := by rw [<- KBw.ints_length]; exact (List.getElem?_eq_some_iff.mp hik).1
  have hvl : vs.length <= 1000 := by
   have := hout.length
   rw [zcL] at this
   lia
  rcases zf3 i with ⟨m1, m2, m3⟩ | ⟨m1, m2, m3⟩ | ⟨m1, m2, m3⟩
  ·rw [m2] at hlb
   replace hlb : lb = 0 := hlb
   k_extra "aK"
   refine' zaa (B4.mk _ _ _ _ _ _) eF eN (za3 (by k_mem)) (fun _ h => .tail _ h) (zaz hoff9) ?ek ?ez ?ei
   case ek =>
    refine fc ?_ (fc ?_ (fn))
    all_goals (dsimp only; (repeat rw [if_neg (by decide)]); first | done | (rw [if_pos rfl]) | skip)
    all_goals (try exact rfl)
   case ez =>
    k_extra "3"
   case ei => exact ⟨zlY hik hk0 hk1 hlc hout (by lia) m3.symm, zjr hik hlc, by (rw [m3]; try rfl)⟩
  ·rw [m2] at hlb
   replace hlb : lb = 2 := hlb
   k_extra "aK"
   refine' zaa (B4.mk _ _ _ _ _ _) eF eN (za3 (by k_mem)) (fun _ h => .tail _ h) (zaz hoff9) ?ek ?ez ?ei
   case ek =>
    refine fc ?_ (fc ?_ (fn))
    all_goals (dsimp only; (repeat rw [if_neg (by decide)]); first | done | (rw [if_pos rfl]) | skip)
    all_goals (try exact rfl)
   case ez =>
    k_extra "3"
   case ei => exact ⟨zlY hik hk0 hk1 hlc hout (by lia) m3.symm, zjr hik hlc, by (rw [m3]; try rfl)⟩
  ·rw [m2] at hlb
   replace hlb : lb = 4 := hlb
   k_extra "aK"
   refine' zaa (B4.mk _ _ _ _ _ _) eF eN (za3 (by k_mem)) (fun _ h => .tail _ h) (zaz hoff9) ?ek ?ez ?ei
   case ek =>
    refine fc ?_ (fc ?_ (fn))
    all_goals (dsimp only; (repeat rw [if_neg (by decide)]); first | done | (rw [if_pos rfl]) | skip)
    all_goals (try exact rfl)
   case ez =>
    k_extra "3"
   case ei => exact ⟨zqG hik hk0 hk1 hlc hout m1, zjr hik hlc, by (rw [m3]; try rfl)⟩
 case done =>
  intro c u h9 tk9 hI hoff F9 N9
  clear lF lN
  refine bc fun hG9 => ?_; obtain ⟨vs, n, lc, tl, lb, tb⟩ := c; refine hG9 ?_; clear hG9
  refine bc fun hG9 => ?_; obtain ⟨hout, hlc, hlb⟩ := hI; refine hG9 ?_; clear hG9
  dsimp only at F9 N9 hout hlc hlb
  k_extra "aB"
  have hlc0 : 0 <= lc := by lia
  have hlc1 : lc < 65536 := by lia
  have hvl : vs.length <= 1000 := by
   have := hout.length
   rw [zcL] at this
   lia
  rw [<- KBw.ints_length] at hout hlc hlb
  refine zou F9 N9 (fun vs => IntsAre vs (b64L (KBw.bInts arr))) ?jw ?jc
  case jw =>
   rcases zf3 (KBw.bInts arr).length with ⟨m1, m2, m3⟩ | ⟨m1, m2, m3⟩ | ⟨m1, m2, m3⟩
   ·rw [m2] at hlb
    replace hlb : lb = 0 := hlb
    k_extra "aK"
    exact ⟨rfl, _, _, _, _, rfl, eF, eN, fin0 hout m1⟩
   ·rw [m2] at hlb
    replace hlb : lb = 2 := hlb
    k_extra "aK"
    exact ⟨rfl, _, _, _, _, rfl, eF, eN, fin1 hout hlc m1⟩
   ·rw [m2] at hlb
    replace hlb : lb = 4 := hlb
    k_extra "aK"
    exact ⟨rfl, _, _, _, _, rfl, eF, eN, fin2 hout hlc m1⟩
  case jc =>
   clear F9 N9 hout hlc hlb hvl hlc0 hlc1
   intro h8 tk8 vs n F8 N8 hfin
   k_extra "a"
   refine' zcz ?k1 ?k2 rfl ?a hfin (ziF _) (zco _ (by rw [KBw.ints_length]; exact Nat.le_trans hlen (Nat.le_of_lt (Nat.lt_succ_of_le (Nat.le_add_left 100 899))))) ?_
   k_extra "0"
   k_extra "as"
   exact hret _ _ _ kF (fun p hp => kN p (by first | exact hp | exact .tail _ hp))
example : True := by
 k_with "P" => (with_reducible rename IsRange _ _ _ _ _ _ _ _ => wR)
 k_with "H" => (k_extra "l"; (refine x_E (q914) ?_; clear q914; intro t9 q91; subst q91))
 k_with "ak" => (k_extra "H"; k_extra "e"; clear wF wN wR; k_extra "a")
 k_with "J" => (k_extra "h"; refine LCg.CompEnd.intro wF wN _ (fun p hp => hp) off9 trivial ⟨?_, rfl⟩)
 k_with "call type:range" => (k_here; (rename Fr _ _ _ _ => F'); (rename News _ _ _ _ => N'); first | (with_unfolding_all refine range1_rows F' N' ?_; intro _ _ _ _ _ _ _ _ _) | (with_unfolding_all refine range2_rows F' N' ?_; intro _ _ _ _ _ _ _ _ _))
 k_with "CompSrc" => (refine hold ?_)
 k_with "call ref" => (k_here; (with_reducible show wpAny _ _ (call (Value.ref 290) [Value.bytes _ _]) _ _ _); k_dflt (refine' zcQ (by k_asm) (by k_asm) (by k_asm) (by k_asm) (by k_asm) rfl (by assumption) (by ktr_room) (by ktr_units) ?_; k_whole); intro t9 h' tk9 F' N'; (try k_sweep))
 k_with "binaryOp Pow int int" => (k_here; (with_reducible refine pow_int_small (by lia) (by lia) (by lia) ?_))
 k_with "binaryOp FloorDiv int int" => (k_here; first | ((with_reducible refine fd6 ?_); intro _) | (with_reducible refine floordiv_int zhk ?_ (Or.inl (PyProof.noPylong_of_log2 (zlG (by lia))))))
 k_with "binaryOp Mult bytes int" => (refine hold ?_)
 k_with "binaryOp Add bytes bytes" => (refine hold ?_)
 k_with "subscriptTail" => (k_here; (with_reducible show wpAny _ _ (subscriptTail _ _ (Value.bytes _ _) (Value.int _ _)) _ _ _); (refine hold ?_))
 trivial
theorem figs1 {N z : Int} {c i : Nat} (hz : z = (c : Int) - 1 - (0 + (i : Int))) (hi : i < c) : (N.fdiv (64 ^ z.toNat)).fmod 64 = N / 64 ^ (c - 1 - i) % 64 := by
 rw [Int.fdiv_eq_ediv_of_nonneg _ (Int.pow_nonneg (by decide)), Int.fmod_eq_emod_of_nonneg _ (by decide), show z.toNat = c - 1 - i by rw [hz, Int.zero_add, Int.sub_sub, Nat.sub_sub]; exact Int.toNat_sub c (1 + i)]
theorem znU {arr : Array UInt8} : b64L (KBw.bInts arr) = ((List.range ((8 * arr.size + 5) / 6)).map fun (k : Nat) => zac (numL (KBw.bInts arr) / 64 ^ ((8 * arr.size + 5) / 6 - 1 - k) % 64)) ++ List.replicate ((-(((8 * arr.size + 5) / 6 : Nat) : Int)) % 4).toNat 61 := by
 rw [zdB, KBw.ints_length]
 unfold sixL numL padN
 rw [KBw.ints_length]
 congr 1
 refine List.map_congr_left fun k _ => ?_
 rw [Int.pow_mul]
 rfl
theorem zhk {e : Nat} : ((64 : Int) ^ e) ≠ 0 := Int.pow_ne_zero (by decide)
theorem zlG {e : Nat} (he : e <= 14) : ((64 : Int) ^ e).natAbs.log2 < 9000 := by
 have h1 : ((64 : Int) ^ e).natAbs = 64 ^ e := by rw [Int.natAbs_pow]; rfl
 rw [h1, Nat.log2_lt (Nat.ne_of_gt (Nat.pow_pos (by decide)))]
 exact Nat.lt_of_le_of_lt (Nat.pow_le_pow_right (by decide) he) (by decide +kernel)
section
variable {Q : Value -> Shared -> Prop}
theorem fd6 {n : Nat} {t u : Tok} (h : ∀ t', Q (.int (((8 * n + 5) / 6 : Nat) : Int) t') { s with toks := s.toks + 1 }) : wpAny (model prog w) A (binaryOp .FloorDiv (.int (8 * (n : Int) + 5) t) (.int 6 u)) Q E s := by
 refine floordiv_int (by decide) ?_ (Or.inl (PyProof.noPylong_of_log2 (by decide +kernel)))
 have e : (8 * (n : Int) + 5).fdiv 6 = (((8 * n + 5) / 6 : Nat) : Int) := by
  rw [Int.fdiv_eq_ediv_of_nonneg _ (by decide)]; exact Eq.symm (Nat.ToInt.div_congr rfl rfl)
 rw [e]
 exact h _
end
theorem zeB {loose : List Str} {mb : Str -> Option Value}
  {cs : Scope} {a : Addr} {Q : Value -> Shared -> Prop} 
  (B : Below A₀ base outer h₀) (F : Fr h₀ L s.heap m) (X : (K w.params).In h₀) (N : News h₀ L s.heap news) (T : Top q loose mean mg mb h₀) (hk : cs.kind = .function)
  {arr : Array UInt8} {t : Tok} (hlen : arr.size <= 4) (hdp : dp + 40 < recursionLimit) (hun : un + 200 < cLine)
  (hret : ∀ t' h' tk', Fr h₀ L h' m -> News h₀ L h' news -> Q (.bytes (byteArr (b64L (KBw.bInts arr))) t') { s with heap := h', toks := tk' }) :
  wpAny (model PySem.Challenge.rw_rt0114_02.row.prog w) (ktrTop dp un gd cn cs L a ccd cl outer) (call (.ref 295) [.bytes arr t]) Q E s := by
 revert X; k_fill; intro X
 k_extra "ay"
 k_dflt (refine' code_defC B F X N T ?kA ?kF ?kK ?k6 ?k7 ?k8 ?k9 ?kB ?kD ?_ ?c2 ?c3 ?c4; (case kA => exact rfl); (case kF => exact rfl); (case kK => assumption); (case k6 => k_is); (case k7 => k_is); (case k8 => ktr_room); (case k9 => first | exact BindsTo.of_eq rfl | exact binds_K (by k_in) rfl (by k_is) rfl rfl rfl); (case kB => exact rfl); (case kD => decide +kernel); (case c2 => exact rfl); (case c3 => exact rfl); (case c4 => exact rfl); k_whole)
 k_extra "z"
 k_extra "p"
 k_steps
 k_extra "E"
 k_extra "h"
 k_extra "P"
 have hcn : (8 * arr.size + 5) / 6 <= 6 := by lia
 refine LCg.CompSrc.range rfl wF wN wR (small_one (by exact Int.neg_ofNat_le_ofNat (2 ^ 62) 0) (by exact kbt_pos 62) (by exact Int.neg_ofNat_le_natCast (2 ^ 62) ((8 * arr.size + 5) / 6)) (by omega)) (n := (8 * arr.size + 5) / 6) (rsz (by exact Eq.symm (Int.zero_add ↑((8 * arr.size + 5) / 6)))) (by rw [sizeLine_eq]; omega) ?_
 intro g9
 refine' zbU (fun i ys => IntsAre ys ((List.range i).map fun (k : Nat) => zac (numL (KBw.bInts arr) / 64 ^ ((8 * arr.size + 5) / 6 - 1 - k) % 64))) ?turn .nil ?fin
 case turn =>
  intro i v ys I oI C oC D m2 h9 tk9 E9 hin q914 hys hC9 hx9 F9 N9 off9 ne9
  k_extra "ak"
  rw [figs1 (i := i) (c := (8 * arr.size + 5) / 6) rfl hin]
  refine zhx rfl (Int.emod_nonneg _ (by decide)) (Int.emod_lt_of_pos _ (by decide)) ?_ (by with_unfolding_all rfl) (by intro _; with_unfolding_all rfl)
  intro t4
  k_extra "a"
  k_extra "J"
  rw [List.range_succ, List.map_append]
  exact IntsAre.append hys (.cons _ _ .nil)
 case fin =>
  intro ys hys
  clear wF wN wR
  k_extra "a"
  have hlen2 : ((List.range ((8 * arr.size + 5) / 6)).map fun (k : Nat) => zac (numL (KBw.bInts arr) / 64 ^ ((8 * arr.size + 5) / 6 - 1 - k) % 64)).length = (8 * arr.size + 5) / 6 := by rw [List.length_map, List.length_range]
  refine' zcz ?k1 ?k2 rfl ?a hys (fun v hv => by obtain ⟨k, _, rfl⟩ := List.mem_map.mp hv; exact zcX _) (by rw [hlen2]; lia) ?_
  k_extra "0"
  k_extra "a"
  have e0 : 0 <= (-(((8 * arr.size + 5) / 6 : Nat) : Int)).fmod 4 := Int.fmod_nonneg_of_pos _ (by decide)
  have e1 : (-(((8 * arr.size + 5) / 6 : Nat) : Int)).fmod 4 < 4 := Int.fmod_lt_of_pos _ (by decide)
  have e2 : (-(((8 * arr.size + 5) / 6 : Nat) : Int)).fmod 4 = (-(((8 * arr.size + 5) / 6 : Nat) : Int)) % 4 := Int.fmod_eq_emod_of_nonneg _ (by decide)
  refine zpG e0 (by omega) ?_
  intro t3 k3
  rw [e2]
  k_extra "a"
  refine KBy.add_bytes (by rw [byteArr_size, hlen2]; simp only [List.size_toArray, List.length_replicate]; lia) ?_
  intro t4 k4
  k_extra "as"
  have hr := hret t4 _ k4 kF (fun p hp => kN p (by repeat (first | exact hp | refine zbN ?_)))
  rw [znU, zfs, zfu] at hr
  exact hr
example : True := by
 k_with "f" => ((case kB => k_asm); (case kF => k_asm); (case kX => k_asm); (case kN => k_asm); (case kT => k_asm); case kh => exact rfl)
 k_with "call builtin:max" => (refine hold ?_)
 k_with "call builtin:min" => (refine hold ?_)
 k_with "call ref" => (k_here; (with_reducible show wpAny _ _ (call (Value.ref 276) [Value.bytes _ _]) _ _ _); refine hold ?_)
 k_with "binaryOp BitXor int int" => (refine hold ?_)
 k_with "binaryOp Sub int int" => (k_here; (with_reducible refine zoe ?_); intro _)
 k_with "binaryOp Mult int int" => (k_here; (with_reducible show wpAny _ _ (binaryOp _ (Value.int _ _) (Value.int (2 ^ _) _)) _ _ _); refine hold ?_)
 k_with "binaryOp Mod int int" => (k_here; first | (with_reducible refine mod_int' zhk ?_) | (with_reducible refine mod_int' zg8 ?_) | ((with_reducible refine mod_int' (by lia) ?_)))
 k_with "binaryOp FloorDiv int int" => (k_here; first | ((with_reducible refine fd8 ?_); intro _) | (with_reducible refine floordiv_int zhk ?_ (Or.inl (PyProof.noPylong_of_log2 (zlG (by lia))))) | (with_reducible refine floordiv_int zg8 ?_ (Or.inl (PyProof.noPylong_of_log2 (zoy (by lia))))))
 trivial
theorem figs2 {N z : Int} {c i : Nat} (hz : z = (c : Int) - 1 - (0 + (i : Int))) (hi : i < c) : (N.fdiv (256 ^ z.toNat)).fmod 256 = N / 256 ^ (c - 1 - i) % 256 := by
 rw [Int.fdiv_eq_ediv_of_nonneg _ (Int.pow_nonneg (by decide)), Int.fmod_eq_emod_of_nonneg _ (by decide), show z.toNat = c - 1 - i by lia]
theorem zp9 {n : Nat} (h : n <= 6) : (64 : Int) ^ n <= 68719476736 := by
 have : n = 0 \/ n = 1 \/ n = 2 \/ n = 3 \/ n = 4 \/ n = 5 \/ n = 6 := by lia
 rcases this with rfl | rfl | rfl | rfl | rfl | rfl | rfl <;> decide
theorem zg8 {e : Nat} : ((256 : Int) ^ e) ≠ 0 := Int.pow_ne_zero (by decide)
theorem zoy {e : Nat} (he : e <= 14) : ((256 : Int) ^ e).natAbs.log2 < 9000 := by
 have h1 : ((256 : Int) ^ e).natAbs = 256 ^ e := by rw [Int.natAbs_pow]; rfl
 rw [h1, Nat.log2_lt (Nat.ne_of_gt (Nat.pow_pos (by decide)))]
 exact Nat.lt_of_le_of_lt (Nat.pow_le_pow_right (by decide) he) (by decide +kernel)
noncomputable def zi7 (U V : Int) (la lb : Nat) (mv : Int) : List Int := ((List.range (min (la - mv.toNat) (lb - (-mv).toNat))).filter fun k => U / 64 ^ (la - 1 - (mv.toNat + k)) % 64 = V / 64 ^ (lb - 1 - ((-mv).toNat + k)) % 64).map fun k => ((mv.toNat + k : Nat) : Int)
section
variable {Q : Value -> Shared -> Prop} 
theorem zoQ {a b z : Int} {t u : Tok} (hz : (if b > a then b else a) = z) (hh : A.handled = none) (F : Fr h₀ L s.heap m) (N : News h₀ L s.heap news) (h : ∀ t' h' tk, Fr h₀ L h' m -> News h₀ L h' news -> Q (.int z t') { s with heap := h', toks := tk }) :
  wpAny (model prog w) A (call (.builtin "max") [.int a t, .int b u]) Q E s := max_two_N hh F N fun h' tk F' N' => by rw [hz]; exact h _ h' tk F' N'
theorem zqY {a b z : Int} {t u : Tok} (hz : (if b < a then b else a) = z) (hh : A.handled = none) (F : Fr h₀ L s.heap m) (N : News h₀ L s.heap news) (h : ∀ t' h' tk, Fr h₀ L h' m -> News h₀ L h' news -> Q (.int z t') { s with heap := h', toks := tk }) :
  wpAny (model prog w) A (call (.builtin "min") [.int a t, .int b u]) Q E s := min_two_N hh F N fun h' tk F' N' => by rw [hz]; exact h _ h' tk F' N'
theorem zpR {a b z : Int} {t u : Tok} (hz : a - b = z) (h : ∀ t', Q (.int z t') { s with toks := s.toks + 1 }) : wpAny (model prog w) A (binaryOp .Sub (.int a t) (.int b u)) Q E s := by
 refine sub_int ?_
 rw [hz]
 exact h _
theorem zoe {b n : Nat} {t u : Tok} (h : ∀ t', Q (.int (n : Int) t') { s with toks := s.toks + 1 }) : wpAny (model prog w) A (binaryOp .Sub (.int ((b + n : Nat) : Int) t) (.int (b : Int) u)) Q E s := zpR (by exact Int.sub_eq_iff_eq_add'.mpr rfl) h
theorem fd8 {n : Nat} {t u : Tok} (h : ∀ t', Q (.int (((6 * n + 7) / 8 : Nat) : Int) t') { s with toks := s.toks + 1 }) : wpAny (model prog w) A (binaryOp .FloorDiv (.int (6 * (n : Int) + 7) t) (.int 8 u)) Q E s := by
 refine floordiv_int (by decide) ?_ (Or.inl (PyProof.noPylong_of_log2 (by decide +kernel)))
 have e : (6 * (n : Int) + 7).fdiv 8 = (((6 * n + 7) / 8 : Nat) : Int) := by
  rw [Int.fdiv_eq_ediv_of_nonneg _ (by decide)]; exact Eq.symm (Nat.ToInt.div_congr rfl rfl)
 rw [e]
 exact h _
end
noncomputable def AlikN (mv : Int) (la lb b c n : Nat) : Prop := b = mv.toNat /\ c = (-mv).toNat /\ n = min (la - b) (lb - c)
theorem zpT {mv : Int} {la lb : Nat} (hm1 : -(lb : Int) <= mv) (hm2 : mv <= la) : ∃ b c n : Nat, AlikN mv la lb b c n /\ (b : Int) - c = mv /\ b + n <= la /\ c + n <= lb /\ (b + n = la \/ c + n = lb) /\ (b = 0 \/ c = 0) := by
 have h := tons mv
 have k := mins (la - mv.toNat) (lb - (-mv).toNat)
 have z1 : mv.toNat <= la := Int.toNat_le.mpr hm2
 have z2 : (-mv).toNat <= lb := Int.toNat_le.mpr (Int.neg_le_of_neg_le hm1)
 exact ⟨mv.toNat, (-mv).toNat, _, ⟨rfl, rfl, rfl⟩, h.1, Nat.add_le_of_le_sub' z1 k.1, Nat.add_le_of_le_sub' z2 k.2.1, k.2.2.imp (fun q => by rw [q]; exact Nat.add_sub_of_le z1) (fun q => by rw [q]; exact Nat.add_sub_of_le z2), h.2⟩
theorem zht {x b n i : Nat} (h : b + n <= x) (hi : i < n) : x - b - n + (n - 1 - i) = x - 1 - (b + i) := by
 (refine x_E (Nat.exists_eq_add_of_le h) ?_; intro r q91; subst q91)
 (refine x_E (Nat.exists_eq_add_of_lt hi) ?_; intro s q91; subst q91)
 rw [Nat.sub_sub, Nat.add_sub_cancel_left]; lia
theorem zi2 {loose : List Str} {mb : Str -> Option Value}
  {cs : Scope} {a : Addr} {Q : Value -> Shared -> Prop} 
  (B : Below A₀ base outer h₀) (F : Fr h₀ L s.heap m) (X : (K w.params).In h₀) (N : News h₀ L s.heap news) (T : Top Mine.q loose mean mg mb h₀) (hk : cs.kind = .function)
  {U V mv : Int} {la lb : Nat} {t1 t2 t3 t4 t5 : Tok} (hU : 0 <= U) (hU2 : U < 68719476736) (hV : 0 <= V) (hV2 : V < 68719476736) (hla : la <= 6) (hlb : lb <= 6) (hm1 : -(lb : Int) <= mv) (hm2 : mv <= la) (hdp : dp + 60 < recursionLimit) (hun : un + 300 < cLine)
  (hret : ∀ l n vs h' tk', Fr h₀ L h' m -> News h₀ L h' ((l, W.listOf vs.toArray n) :: news) -> (∀ p ∈ news, p.1 ≠ l) -> IntsAre vs (zi7 U V la lb mv) -> Q (.ref l) { s with heap := h', toks := tk' }) :
  wpAny (model PySem.Challenge.rw_rt0114_02.row.prog w) (ktrTop dp un gd cn cs L a ccd cl outer) (call (.ref 300) [.int U t1, .int (la : Int) t2, .int V t3, .int (lb : Int) t4, .int mv t5]) Q E s := by
 revert X; k_fill; intro X
 k_extra "ay"
 k_dflt (refine' code_defC B F X N T ?kA ?kF ?kK ?k6 ?k7 ?k8 ?k9 ?kB ?kD ?_ ?c2 ?c3 ?c4; (case kA => exact rfl); (case kF => exact rfl); (case kK => assumption); (case k6 => k_is); (case k7 => k_is); (case k8 => ktr_room); (case k9 => first | exact BindsTo.of_eq rfl | exact binds_K (by k_in) rfl (by k_is) rfl rfl rfl); (case kB => exact rfl); (case kD => decide +kernel); (case c2 => exact rfl); (case c3 => exact rfl); (case c4 => exact rfl); k_whole)
 k_extra "z"
 have p90 : m0 (Str.ofString "upper") = some _ := (congrFun e0 _).trans rfl
 have p91 : m0 (Str.ofString "length") = some _ := (congrFun e0 _).trans rfl
 have p92 : m0 (Str.ofString "lower") = some _ := (congrFun e0 _).trans rfl
 have p93 : m0 (Str.ofString "width") = some _ := (congrFun e0 _).trans rfl
 have p94 : m0 (Str.ofString "move") = some _ := (congrFun e0 _).trans rfl
 k_extra "p"
 have q4 : ∀ p ∈ news, p.1 ≠ L' + 1 + 1 + 1 + 1 := fun p hp => Nat.ne_of_lt (Nat.lt_succ_of_lt (Nat.lt_succ_of_lt (Nat.lt_succ_of_lt (Nat.lt_succ_of_lt (l1 p hp)))))
 (refine zb6 (zpT hm1 hm2) ?_; intro b c n hN e1 e2 e3 e4 e5)
 have n6 : n <= 6 := Nat.le_trans (Nat.le_trans (Nat.le_add_left _ _) e2) hla
 k_steps
 k_extra "E"
 refine zoQ (z := (b : Int)) (by split <;> lia) rfl (by k_asm) (by k_asm) ?_
 intro t6 h6 tk6 F6 N6
 k_extra "a"
 refine zqY (z := ((b + n : Nat) : Int)) (by split <;> lia) rfl (by k_asm) (by k_asm) ?_
 intro t7 h7 tk7 F7 N7
 k_extra "a"
 obtain ⟨O, hO⟩ : ∃ O, O = U / 64 ^ (la - b - n) % 64 ^ n := ⟨_, rfl⟩
 obtain ⟨P, hP⟩ : ∃ P, P = V / 64 ^ (lb - c - n) % 64 ^ n := ⟨_, rfl⟩
 have O0 : 0 <= O := by rw [hO]; exact zlE
 have P0 : 0 <= P := by rw [hP]; exact zlE
 have O1 : O < 64 ^ n := by rw [hO]; exact zly
 have P1 : P < 64 ^ n := by rw [hP]; exact zly
 k_extra "L"
 rw [zld (U := U) (y := (la : Int) - ((b + n : Nat) : Int)) (z := (n : Int)) (e := la - b - n) (n := n) (by lia) rfl, zld (U := V) (y := (lb : Int) + mv - ((b + n : Nat) : Int)) (z := (n : Int)) (e := lb - c - n) (n := n) (by lia) rfl, <- hO, <- hP]
 refine xor_int ?_
 obtain ⟨X, hX⟩ : ∃ X, X = Builtin.bitXor O P := ⟨_, rfl⟩
 rw [<- hX]
 have X0 : 0 <= X := by rw [hX]; exact zpt O0 P0
 have X1 : X < 64 ^ n := by rw [hX]; exact zoT O0 P0 O1 P1
 have X2 : X < 68719476736 := Int.lt_of_lt_of_le X1 (zp9 n6)
 have X3 : Builtin.Int.intBits X <= 64 := intBits_le_64 (by lia) (by exact Int.lt_of_le_of_lt (Int.le_of_lt X2) (by decide))
 clear X2 hU2 hV2
 k_extra "L"
 k_extra "a"
 refine mul_int ?_ (IntMulOk.of_left X3)
 obtain ⟨Y, hY⟩ : ∃ Y, Y = X * 2 ^ (8 * (((6 * n + 7) / 8 : Nat) : Int) - 6 * (n : Int)).toNat := ⟨_, rfl⟩
 rw [<- hY]
 k_extra "L"
 k_extra "U"
 k_extra "P"
 obtain ⟨o, ho⟩ : ∃ o, o = (6 * n + 7) / 8 := ⟨_, rfl⟩
 have ho6 : o <= 5 := by lia
 refine LCg.CompSrc.range rfl wF wN wR (small_one (by exact Int.neg_ofNat_le_ofNat (2 ^ 62) 0) (by exact kbt_pos 62) (by exact Int.neg_ofNat_le_natCast (2 ^ 62) ((6 * n + 7) / 8)) (by omega)) (n := o) (rsz (by lia)) (by rw [sizeLine_eq]; lia) ?_
 intro g9
 refine' zbU (fun i ys => IntsAre ys ((List.range i).map fun (k : Nat) => Y / 256 ^ (o - 1 - k) % 256)) ?turn .nil ?fin
 case turn =>
  intro i v ys I oI C oC D m2 h9 tk9 E9 hin q914 hys hC9 hx9 F9 N9 off9 ne9
  k_extra "ak"
  k_extra "J"
  rw [List.range_succ, List.map_append, figs2 (c := (6 * n + 7) / 8) (i := i) rfl (by exact Nat.lt_of_lt_of_eq hin ho), <- ho]
  exact IntsAre.append hys (.cons _ _ .nil)
 case fin =>
  intro ys hys
  clear wF wN wR
  replace hys : IntsAre ys (zbw Y 256 o) := hys
  k_extra "a"
  have hfin : KBa.In (zbw Y 256 o) := fun v hv => by
   k_extra "l"
   (refine x_EA (List.mem_map.mp hv) ?_; intro k _ q92; subst q92)
   k_extra "e"
   exact ⟨Int.emod_nonneg _ (by decide), Int.emod_lt_of_pos _ (by decide)⟩
  have hfl : (zbw Y 256 o).length = o := by simp [zbw]
  refine' zcz ?k1 ?k2 rfl ?a hys hfin (by rw [hfl]; lia) ?_
  k_extra "0"
  k_extra "a"
  refine' zbX ?kB ?kF ?kX ?kN ?kT ?kh ?kl ?kd ?ku ?_
  k_extra "f"
  case kl => rw [byteArr_size, hfl]; lia
  case kd => ktr_room
  case ku => ktr_units
  intro t8 h8 tk8 F8 N8
  rw [zaq hfin]
  k_extra "U"
  k_extra "P"
  refine LCt.CompSrcT.range rfl wF wN wR (small_one (by exact Int.neg_ofNat_le_ofNat (2 ^ 62) 0) (by exact kbt_pos 62) (by exact Int.neg_ofNat_le_natCast (2 ^ 62) n) (by lia)) (n := n) (rsz (by exact Eq.symm (Int.zero_add ↑n))) (by rw [sizeLine_eq]; lia) ?_
  intro g10
  refine' zaV (fun i ys => IntsAre ys (((List.range i).filter fun k => U / 64 ^ (la - 1 - (b + k)) % 64 = V / 64 ^ (lb - 1 - (c + k)) % 64).map fun k => ((b + k : Nat) : Int))) ?turn2 .nil ?fin2
  case turn2 =>
   intro i v zs I oI C oC D m2 h9 tk9 E9 hin q914 hzs hC9 hx9 F9 N9 off9 ne9
   k_extra "ak"
   have hlk : i < (b64L (zbw Y 256 o)).length := by rw [ho]; exact zjl hin
   refine KBw.item_K (ks := b64L (zbw Y 256 o)) (zaq (ziF _)) (Nat.le_trans (zco _ (by rw [hfl]; lia)) (by decide)) (by exact Int.zero_le_ofNat (0 + i)) (by lia) ?_
   have hd : ((b64L (zbw Y 256 o)).getD (0 + (i : Int)).toNat 0 = 65) ↔ (U / 64 ^ (la - 1 - (b + i)) % 64 = V / 64 ^ (lb - 1 - (c + i)) % 64) := by
    rw [show (0 + (i : Int)).toNat = i by lia, hY, show (8 * (((6 * n + 7) / 8 : Nat) : Int) - 6 * (n : Int)).toNat = 8 * ((6 * n + 7) / 8) - 6 * n from Int.toNat_sub (8 * ((6 * n + 7) / 8)) (6 * n), ho, zgR X0 X1 hin,
     zos (Int.emod_nonneg _ (by decide)) (Int.emod_lt_of_pos _ (by decide)), hX, zh3 O0 P0, hO, hP, zen hin, zen hin,
     zht e2 hin, zht e3 hin]
   intro t10 tk10 _ _
   k_extra "M"
   ·(with_reducible rename _ = _ => h65)
    k_extra "E"
    k_extra "J"
    rw [List.range_succ, List.filter_append, List.map_append, List.filter_cons_of_pos (by simpa using hd.mp h65), show (b : Int) + (0 + (i : Int)) = ((b + i : Nat) : Int) by lia]
    exact IntsAre.append hzs (.cons _ _ .nil)
   ·(with_reducible rename ¬ _ => h65)
    k_extra "E"
    k_extra "J"
    rw [List.range_succ, List.filter_append, List.map_append, List.filter_cons_of_neg (by simpa using fun q => h65 (hd.mpr q))]
    simpa using hzs
  case fin2 =>
   intro zs hzs
   clear wF wN wR
   k_extra "as"
   (with_reducible rename _ /\ _ /\ _ /\ _ /\ _ /\ LCg.Off1 _ news => kO)
   refine zjo hret kF kN (zfQ kO.2.2.2.2.2) ?hi ?hs
   case hi =>
    unfold zi7
    rw [<- hN.1, <- hN.2.1, <- hN.2.2]
    exact hzs
   case hs => exact fun p h => .tail _ (.tail _ (.tail _ (.tail _ (.tail _ h))))
example : True := by
 k_with "1" => ((refine x_EA (List.mem_map.mp hx) ?_; intro y hy q92; subst q92); k_extra "e")
 trivial
noncomputable def widN (n : Nat) : Nat := (8 * n + 5) / 6
noncomputable def sigL (os : List Int) : List Int := sixL (numL os) (widN os.length)
theorem za4 (os : List Int) : (sigL os).length = widN os.length := by simp [sigL, sixL]
theorem ze0 {n : Nat} (h : n <= 4) : widN n <= 6 := by unfold widN; lia
theorem zjJ (os : List Int) : zak os os.length * 2 ^ (6 * ((8 * os.length + 5) / 6) - 8 * os.length) = numL os := by
 rfl
theorem znk {d : Int} (h0 : 0 <= d) (h1 : d < 64) : zac d ≠ 61 := by
 have h : ∀ n < 64, b64A.getD n 0 ≠ 61 := by decide +kernel
 exact h d.toNat (by lia)
theorem zkc {d e : Int} (h0 : 0 <= d) (h1 : d < 64) (g0 : 0 <= e) (g1 : e < 64) : zac d = zac e ↔ d = e := by
 constructor
 ·intro h
  have k : ∀ n < 64, ∀ m < 64, b64A.getD n 0 = b64A.getD m 0 -> n = m := by decide +kernel
  have := k d.toNat (by lia) e.toNat (by lia) h
  lia
 ·rintro rfl; rfl
theorem zoi (os : List Int) : b64L os = sigL os ++ List.replicate ((-((widN os.length : Nat) : Int)) % 4).toNat 61 := by
 rw [zdB, zjJ]
 rfl
theorem zhz {α : Type} {p : α -> Bool} : ∀ (r l : List α), (∀ x ∈ r, p x = true) -> (∀ x ∈ l, p x = false) -> ((l ++ r).reverse.dropWhile p).reverse = l := by
 intro r l hr hl
 rw [List.reverse_append, List.dropWhile_append_of_pos (by simpa using hr)]
 have e : l.reverse.dropWhile p = l.reverse := by
  cases h : l.reverse with
  | nil => rfl
  | cons x t =>
   rw [List.dropWhile_cons_of_neg]
   have hm : x ∈ l := by rw [<- List.mem_reverse, h]; exact .head _
   rw [hl x hm]
   simp
 rw [e, List.reverse_reverse]
theorem zhe {x : Int} (h : x ∈ sigL os) : 0 <= x /\ x < 256 /\ x ≠ 61 := by
 unfold sigL sixL at h
 k_extra "l"
 (refine x_EA (List.mem_map.mp h) ?_; intro k _ q92; subst q92)
 k_extra "e"
 have h0 : 0 <= numL os / 2 ^ (6 * (widN os.length - 1 - k)) % 64 := Int.emod_nonneg _ (by decide)
 have h1 : numL os / 2 ^ (6 * (widN os.length - 1 - k)) % 64 < 64 := Int.emod_lt_of_pos _ (by decide)
 have := zcX (numL os / 2 ^ (6 * (widN os.length - 1 - k)) % 64)
 exact ⟨this.1, this.2, znk h0 h1⟩
theorem u8_ne {x : Int} (h0 : 0 <= x) (h1 : x < 256) (hn : x ≠ 61) : x.toNat.toUInt8 ≠ 61 := by
 intro h
 have h2 := congrArg UInt8.toNat h
 rw [Nat.toUInt8, UInt8.toNat_ofNat'] at h2
 have : (61 : UInt8).toNat = 61 := rfl
 lia
theorem zbS (os : List Int) : KBw.bInts (zcO (byteArr (b64L os)) #[61]) = sigL os := by
 have e : zcO (byteArr (b64L os)) #[61] = byteArr (sigL os) := by
  unfold zcO byteArr
  congr 1
  rw [zoi, List.map_append]
  refine zhz _ _ (fun x hx => ?_) fun x hx => ?_
  ·refine bc fun hG9 => ?_
   k_extra "1"
   rw [List.eq_of_mem_replicate hy]
   have e : (Int.toNat 61).toUInt8 = (61 : UInt8) := rfl
   rw [e]
   simp
  ·refine bc fun hG9 => ?_
   k_extra "1"
   (refine cj3 (zhe hy) ?_; intro a b c)
   have h := u8_ne a b c
   simpa using h
 rw [e]
 exact zaq fun x hx => ⟨(zhe hx).1, (zhe hx).2.1⟩
theorem zii (h : ∀ o ∈ os, 0 <= o /\ o < 256) : 0 <= numL os := by
 unfold numL
 refine Int.mul_nonneg ?_ (Int.pow_nonneg (by decide))
 have key : ∀ i, i <= os.length -> 0 <= zak os i := by
  intro i
  induction i with
  | zero => intro _; simp [zak]
  | succ i ih =>
   intro hi
   have hx : os[i]? = some os[i] := List.getElem?_eq_getElem (by exact Nat.lt_of_succ_le hi)
   rw [zaA hx]
   have := ih (by exact Nat.le_of_succ_le hi)
   have := (h os[i] (List.getElem_mem _)).1
   lia
 exact key _ (Nat.le_refl _)
theorem zih (h : ∀ o ∈ os, 0 <= o /\ o < 256) (hl : os.length <= 4) : numL os < 68719476736 := by
 have h1 := zcN h os.length (Nat.le_refl _)
 unfold numL
 have h2 := zmV os.length
 have hp : (2 : Int) ^ padN os.length <= 16 := by
  have : padN os.length = 0 \/ padN os.length = 2 \/ padN os.length = 4 := by unfold padN; lia
  rcases this with e | e | e <;> rw [e] <;> decide
 have h3 := zg4 hl
 have hb : zak os os.length < 4294967296 := Int.lt_of_lt_of_le h1 h3
 have h0 : (0 : Int) < 2 ^ padN os.length := Int.pow_pos (by decide)
 calc zak os os.length * 2 ^ padN os.length < 4294967296 * 2 ^ padN os.length := Int.mul_lt_mul_of_pos_right hb h0
  _ <= 4294967296 * 16 := Int.mul_le_mul_of_nonneg_left hp (by decide)
  _ = 68719476736 := by decide
theorem zfF {X : Int} {w k : Nat} (h : k < w) : (sixL X w)[k]? = some (zac (X / 64 ^ (w - 1 - k) % 64)) := by
 unfold sixL
 rw [List.getElem?_map, List.getElem?_range h]
 show some (zac (X / 2 ^ (6 * (w - 1 - k)) % 64)) = some _
 rw [Int.pow_mul]
 rfl
theorem zjm {ps : List Int} {mv : Int} : zi7 (numL os) (numL ps) (widN os.length) (widN ps.length) mv = zah (sigL os) (sigL ps) mv := by
 unfold zi7 zah zfW
 rw [za4, za4]
 congr 1
 refine List.filter_congr fun k hk => ?_
 have hk' := List.mem_range.mp hk
 (refine cj2 (znF hk') ?_; intro h1 h2)
 unfold sigL
 rw [zfF h1, zfF h2]
 refine decide_eq_decide.mpr ?_
 rw [Option.some.injEq, zkc (Int.emod_nonneg _ (by decide)) (Int.emod_lt_of_pos _ (by decide)) (Int.emod_nonneg _ (by decide)) (Int.emod_lt_of_pos _ (by decide))]
@[reducible] noncomputable def zaZ : Scope := (Scope.mk ScopeKind.function [(Prod.mk (Str.ofString "script") NameKind.local), (Prod.mk (Str.ofString "one") NameKind.local), (Prod.mk (Str.ofString "two") NameKind.local), (Prod.mk (Str.ofString "first") NameKind.cell), (Prod.mk (Str.ofString "second") NameKind.cell), (Prod.mk (Str.ofString "over") NameKind.local), (Prod.mk (Str.ofString "runs") NameKind.local), (Prod.mk (Str.ofString "move") NameKind.cell), (Prod.mk (Str.ofString "under") NameKind.local), (Prod.mk (Str.ofString "alike") NameKind.cell), (Prod.mk (Str.ofString "missing") NameKind.local), (Prod.mk (Str.ofString "unexpected") NameKind.local), (Prod.mk (Str.ofString "there") NameKind.local), (Prod.mk (Str.ofString "back") NameKind.local), (Prod.mk (Str.ofString "bytes") NameKind.globalImplicit), (Prod.mk (Str.ofString "b64encode") NameKind.globalImplicit), (Prod.mk (Str.ofString "_law_written") NameKind.globalImplicit), (Prod.mk (Str.ofString "list") NameKind.globalImplicit), (Prod.mk (Str.ofString "range") NameKind.globalImplicit), (Prod.mk (Str.ofString "len") NameKind.globalImplicit), (Prod.mk (Str.ofString "_law_alike") NameKind.globalImplicit), (Prod.mk (Str.ofString "_law_number") NameKind.globalImplicit), (Prod.mk (Str.ofString "sorted_list_difference") NameKind.globalImplicit), (Prod.mk (Str.ofString "_law_runs") NameKind.globalImplicit), (Prod.mk (Str.ofString "SequenceMatcher") NameKind.globalImplicit), (Prod.mk (Str.ofString "_law_blocks") NameKind.globalImplicit)] Bool.false Bool.false [(Prod.mk (Str.ofString "fast") (Const.str (Str.ofString "script"))), (Prod.mk (Str.ofString "fast") (Const.str (Str.ofString "x"))), (Prod.mk (Str.ofString "fast") (Const.str (Str.ofString "one"))), (Prod.mk (Str.ofString "fast") (Const.str (Str.ofString "two"))), (Prod.mk (Str.ofString "fast") (Const.str (Str.ofString "first"))), (Prod.mk (Str.ofString "fast") (Const.str (Str.ofString "second"))), (Prod.mk (Str.ofString "fast") (Const.str (Str.ofString "i"))), (Prod.mk (Str.ofString "fast") (Const.str (Str.ofString "over"))), (Prod.mk (Str.ofString "fast") (Const.str (Str.ofString "runs"))), (Prod.mk (Str.ofString "fast") (Const.str (Str.ofString "move"))), (Prod.mk (Str.ofString "fast") (Const.str (Str.ofString "j"))), (Prod.mk (Str.ofString "fast") (Const.str (Str.ofString "under"))), (Prod.mk (Str.ofString "fast") (Const.str (Str.ofString "alike"))), (Prod.mk (Str.ofString "fast") (Const.str (Str.ofString "missing"))), (Prod.mk (Str.ofString "fast") (Const.str (Str.ofString "unexpected"))), (Prod.mk (Str.ofString "fast") (Const.str (Str.ofString "pair"))), (Prod.mk (Str.ofString "fast") (Const.str (Str.ofString "there"))), (Prod.mk (Str.ofString "fast") (Const.str (Str.ofString "back"))), (Prod.mk (Str.ofString "fast") (Const.str (Str.ofString "block"))), (Prod.mk (Str.ofString "fast") (Const.str (Str.ofString "less")))])
@[reducible] noncomputable def zan (L fa : Addr) (cd : Value) : Env := envOfC (Str.ofString "law") zaZ L fa cd
theorem lawA (L fa : Addr) (cd : Value) : callerA.deeper (zan L fa cd) = ktrTop (1 + claimMargin + 1) 7 (some []) (Str.ofString "law") zaZ L fa cd (cellsFrom (L + 1) zaZ.names []) [] := rfl
theorem law_dp : 1 + claimMargin + 1 + 100 < recursionLimit := by decide
theorem law_un : 7 + 600 < cLine := by decide
theorem zdz {l l' : List Stmt} {Q : Flow -> Shared -> Prop} (e : l = l') (h : wpAny M A (execs l' env) Q E s) : wpAny M A (execs l env) Q E s := e ▸ h
theorem zh5 {α : Type} {A' : Around} {t : Sem α} {Q : α -> Shared -> Prop} (e : A = A') (h : wpAny M A' t Q E s) : wpAny M A t Q E s := e ▸ h
theorem zjV {lo hi st : Option Int} {v : Value} (h : v ∈ (slicePick items lo hi st).toList) : v ∈ items.toList := by
 unfold slicePick at h
 rw [List.mem_filterMap] at h
 (refine x_EA (h) ?_; clear h; intro k _ hk)
 exact Array.mem_toList_iff.mpr (Array.mem_of_getElem? hk)
theorem znS {ws : List Value} (h : ∀ v ∈ ws, ∃ n t, v = Value.int n t) : ∃ ms, IntsAre ws ms := by
 induction ws with
 | nil => exact ⟨[], .nil⟩
 | cons v r ih =>
  k_extra "l"
  (refine x_EE (h v (.head _)) ?_; intro n t q92; subst q92)
  k_extra "e"
  (refine x_E (ih fun v hv => h v (.tail _ hv)) ?_; intro ms hm)
  exact ⟨n :: ms, .cons n t hm⟩
theorem zhj {vs : List Value} {ns : List Int} (h : IntsAre vs ns) : ∀ v ∈ vs, ∃ n t, v = Value.int n t := by
 induction h with
 | nil => exact fun _ h => nomatch h
 | cons n t _ ih => exact fc ⟨n, t, rfl⟩ ih
theorem zij {x y : Int} (hx : 0 <= x) (hy : y <= 8) : (sliceRange x y 2).length <= 4 := by
 unfold sliceRange
 rw [List.length_map, List.length_range, if_pos (by decide)]
 split <;> lia
theorem zjp {a : Int} (h0 : 0 <= a) : (slicePick items (some a) (some 8) (some 2)).toList.length <= 4 := by
 have e : sliceBounds (some a) (some 8) (some 2) items.size = (max 0 (min a (items.size : Int)), max 0 (min 8 (items.size : Int)), 2) := by
  simp only [sliceBounds, Option.getD_some, show (2 : Int) > 0 by decide, if_true, if_neg (show ¬ a < 0 by exact Int.not_lt_of_ge h0), if_neg (show ¬ (8 : Int) < 0 by decide)]
 unfold slicePick
 rw [e]
 exact Nat.le_trans (List.length_filterMap_le _ _) (zij (by dsimp only; exact Int.le_max_left 0 (min a ↑items.size)) (by dsimp only; omega))
theorem zed {vs : List Value} {l : List Int} {a : Int} (hi : IntsAre vs l) (h0 : 0 <= a) : ∃ ms, IntsAre (slicePick vs.toArray (some a) (some 8) (some 2)).toList ms /\ ms.length <= 4 := by
 (refine x_E (znS (ws := (slicePick vs.toArray (some a) (some 8) (some 2)).toList) fun v hv => zhj hi v (by simpa using zjV hv)) ?_; intro ms hm)
 exact ⟨ms, hm, by rw [<- hm.length]; exact zjp h0⟩
theorem zdh {os : OsState} {D : Addr} {Q : Value -> Shared -> Prop} {value slice : PySem.Expr} {its : Array Value} {x y z : Int} {u u2 u3 : Tok} {ops : List Value} (F : Fr h₀ L hp m) (N : News h₀ L hp news) (hl : hp.IsList D its) (hz : (some z : Option Int) ≠ some 0) (hlen : its.size <= 100000)
  (h : ∀ D h', Fr h₀ L h' m -> News h₀ L h' ((D, W.listOf (slicePick its (some x) (some y) (some z)) 0) :: news) -> (∀ p ∈ news, p.1 < D) -> Q (.ref D) ⟨h', gs, dr, tk, os⟩)
  (hs : subscripted slice false (.ref D) (.ref hp.objs.size) = operate ops (getItem (.ref D) (.ref hp.objs.size))) (ht : ∀ r, letTemporaryGo value (.ref D) r = pure ()) :
  wpAny (model prog w) A (subscriptTail value slice (.ref D) (.ref hp.objs.size)) Q E ⟨hp.push { cls := .type "slice", data := .fields #[.int x u, .int y u2, .int z u3] }, gs, dr, tk, os⟩ :=
 kmk_slice3_lit (s := ⟨hp, gs, dr, tk, os⟩) F N hl (.int _ _) (.int _ _) (.int _ _) hz rfl (fun D h' F' N' l => h D h' F' (by simpa using N') l) hs ht (by rw [sizeLine_eq]; exact Nat.le_trans hlen (Nat.le_of_lt (Nat.lt_succ_of_le (Nat.le_add_left 100000 16677215))))
noncomputable def kind (x : Int) : Int := [0, 85, 251, 255].getD (x.fmod 4).toNat 0
theorem znj {a b c d : Tok} (x : Int) : ∃ t, [Value.int 0 a, .int 85 b, .int 251 c, .int 255 d][(x.fmod 4).toNat]? = some (.int (kind x) t) := by
 have h0 : 0 <= x.fmod 4 := Int.fmod_nonneg_of_pos _ (by decide)
 have h1 : x.fmod 4 < 4 := Int.fmod_lt_of_pos _ (by decide)
 unfold kind
 obtain ⟨n, hn⟩ : ∃ n, n = (x.fmod 4).toNat := ⟨_, rfl⟩
 rw [<- hn]
 have : n = 0 \/ n = 1 \/ n = 2 \/ n = 3 := by lia
 rcases this with rfl | rfl | rfl | rfl <;> exact ⟨_, rfl⟩
theorem zng (x : Int) : kind x = 0 \/ kind x = 85 \/ kind x = 251 \/ kind x = 255 := by
 (refine x_E (znj (a := 0) (b := 0) (c := 0) (d := 0) x) ?_; intro t h)
 have hm := List.mem_of_getElem? h
 simp only [List.mem_cons, List.not_mem_nil, or_false, Value.int.injEq] at hm
 rcases hm with h | h | h | h
 ·exact .inl h.1
 ·exact .inr (.inl h.1)
 ·exact .inr (.inr (.inl h.1))
 ·exact .inr (.inr (.inr h.1))
theorem zek {ms : List Int} {q : Nat} (h : q < ms.length) : (ms.take (q + 1)).map kind = (ms.take q).map kind ++ [kind (ms.getD q 0)] := by
 rw [List.take_add_one, List.getElem?_eq_getElem h, List.map_append, List.getD_eq_getElem?_getD, List.getElem?_eq_getElem h]
 rfl
theorem zqr {x : Int} (h : x.fmod 4 = 0) : kind x = 0 := by unfold kind; rw [h]; rfl
theorem zo9 {x : Int} (h : x.fmod 4 = 1) : kind x = 85 := by unfold kind; rw [h]; rfl
theorem zqZ {x : Int} (h : x.fmod 4 = 2) : kind x = 251 := by unfold kind; rw [h]; rfl
theorem zq6 {x : Int} (h : x.fmod 4 = 3) : kind x = 255 := by unfold kind; rw [h]; rfl
structure RowOK (os : List Int) : Prop where
 len : os.length <= 4
 kinds : ∀ o ∈ os, o = 0 \/ o = 85 \/ o = 251 \/ o = 255
theorem RowOK.bytes (h : RowOK os) : KBa.In os := fun o ho => by
 rcases h.kinds o ho with rfl | rfl | rfl | rfl <;> decide
theorem zlQ {ms : List Int} (h : ms.length <= 4) : RowOK (ms.map kind) := ⟨by rw [List.length_map]; exact h, fun o ho => by
 k_extra "l"
 (refine x_EA (List.mem_map.mp ho) ?_; intro x _ q92; subst q92)
 k_extra "e"
 exact zng x⟩
noncomputable def ovr (as : List Int) (mv : Int) : List (List Int) := (List.range as.length).map fun (k : Nat) => [(k : Int) + mv, as.getD k 0]
theorem zaR (as : List Int) (mv : Int) : (ovr as mv).length = as.length := by simp [ovr]
theorem zig {as : List Int} {mv : Int} {x : List Int} : x ∈ ovr as mv ↔ ∃ k : Nat, k < as.length /\ x = [(k : Int) + mv, as.getD k 0] := by
 unfold ovr
 rw [List.mem_map]
 constructor
 ·rintro ⟨k, hk, rfl⟩; exact ⟨k, List.mem_range.mp hk, rfl⟩
 ·rintro ⟨k, hk, rfl⟩; exact ⟨k, List.mem_range.mpr hk, rfl⟩
theorem zdw (as : List Int) (mv : Int) : za6 (ovr as mv) := by
 unfold za6 ovr
 k_extra "aO"
 refine List.pairwise_lt_range.imp fun {a b} h => ?_
 rw [zbJ]
 rw [if_neg (by lia)]
 exact decide_eq_true (by lia)
theorem zdU {as bs : List Int} {i j : Nat} (hi : i < as.length) (hj : j < bs.length) : as.getD i 0 = bs.getD j 0 ↔ as[i]? = bs[j]? := by
 rw [List.getD_eq_getElem?_getD, List.getD_eq_getElem?_getD, List.getElem?_eq_getElem hi, List.getElem?_eq_getElem hj]
 simp
theorem ziX {x y a b : Int} (e : [x, a] = [y, b]) : x = y /\ a = b := ⟨(List.cons.inj e).1, (List.cons.inj (List.cons.inj e).2).1⟩
theorem ziu {as bs : List Int} {mv : Int} {k : Nat} (hk : k < as.length) : (ovr bs mv).contains [(k : Int) + 0, as.getD k 0] = (zah as bs mv).contains ((k : Int) + 0) := by
 rw [Bool.eq_iff_iff, List.contains_iff_mem, List.contains_iff_mem, zig, zar, Int.add_zero]
 constructor
 ·intro q90
  (refine x_EA (q90) ?_; clear q90; intro j hj e)
  have e := ziX e
  exact ⟨k, j, rfl, by have := e.1; clear e hj hk; exact Int.sub_eq_iff_eq_add'.mpr this, hk, hj, (zdU hk hj).mp e.2⟩
 ·intro q90
  (refine zbp (q90) ?_; clear q90; intro i j hi hm h1 h2 h3)
  have hi := Int.ofNat.inj hi
  subst hi
  refine ⟨j, h2, ?_⟩
  rw [(zdU h1 h2).mpr h3, show (k : Int) = (j : Int) + mv by clear h1 h2 h3 hk; exact Int.sub_eq_iff_eq_add'.mp hm]
theorem zgG {as bs : List Int} {mv : Int} {k : Nat} (hk : k < bs.length) : (ovr as 0).contains [(k : Int) + mv, bs.getD k 0] = (zah as bs mv).contains ((k : Int) + mv) := by
 rw [Bool.eq_iff_iff, List.contains_iff_mem, List.contains_iff_mem, zig, zar]
 constructor
 ·intro q90
  (refine x_EA (q90) ?_; clear q90; intro j hj e)
  have e := ziX e
  exact ⟨j, k, e.1.trans (Int.add_zero _), by have := e.1; clear e hj hk; lia, hj, hk, ((zdU hk hj).mp e.2).symm⟩
 ·intro q90
  (refine zbp (q90) ?_; clear q90; intro i j hi hm h1 h2 h3)
  have e : k = j := by clear h1 h2 h3 hk; lia
  subst e
  exact ⟨i, h1, by rw [(zdU h2 h1).mpr h3.symm, hi, Int.add_zero]⟩
noncomputable def lone (al : List Int) (as : List Int) (mv : Int) : List (List Int) := ((List.range as.length).filter fun (k : Nat) => !al.contains ((k : Int) + mv)).map fun (k : Nat) => [(k : Int) + mv, as.getD k 0]
theorem zio (as bs : List Int) (mv : Int) : (ovr as 0).filter (fun x => !(ovr bs mv).contains x) = lone (zah as bs mv) as 0 := by
 unfold lone
 rw [show ovr as 0 = (List.range as.length).map fun (k : Nat) => [(k : Int) + 0, as.getD k 0] from rfl, List.filter_map]
 refine congrArg _ (List.filter_congr fun k hk => ?_)
 exact congrArg _ (ziu (List.mem_range.mp hk))
theorem zgs (as bs : List Int) (mv : Int) : (ovr bs mv).filter (fun x => !(ovr as 0).contains x) = lone (zah as bs mv) bs mv := by
 unfold lone
 rw [show ovr bs mv = (List.range bs.length).map fun (k : Nat) => [(k : Int) + mv, bs.getD k 0] from rfl, List.filter_map]
 refine congrArg _ (List.filter_congr fun k hk => ?_)
 exact congrArg _ (zgG (List.mem_range.mp hk))
theorem zfk {as bs : List Int} {mv x : Int} (h : x ∈ zah as bs mv) : 0 <= x /\ x < as.length /\ 0 <= x - mv := by
 k_extra "l"
 (refine zdC (zar.mp h) ?_; intro i j q92 hm h1 _; subst q92)
 k_extra "e"
 exact ⟨Int.natCast_nonneg _, Int.ofNat_lt.mpr h1, by clear h1; lia⟩
theorem zcP (as bs : List Int) (mv : Int) : (zah as bs mv).length <= as.length := by
 unfold zah
 rw [List.length_map]
 refine Nat.le_trans (List.length_filter_le _ _) ?_
 rw [List.length_range]
 exact Nat.le_trans (Nat.min_le_left _ _) (Nat.sub_le _ _)
theorem zfj {target : Expr} {I : Addr} {k n c : Int} {v : Value} {Q : Unit -> Shared -> Prop} (hit : IsRangeIter s.heap I k n c) (h : Q () s) :
  wpAny (model prog w) A (letOwnedTupleGo target (.ref I) v) Q E s := by
 unfold letOwnedTupleGo
 cases target <;> first
  | exact wpAny_pure h
  | (cases v <;> first
    | exact wpAny_pure h
    | (refine wpAny_bind (wpAny_load hit ?_); exact wpAny_pure h))
section
variable {body : List Stmt} {Q : Flow -> Shared -> Prop}
theorem zhI {σ : Type} {target : Expr} {r : Addr} {a₀ b₀ : Int} {t₀ u₀ v₀ : Tok} {n : Nat} (ps : σ -> List (Str × Value)) (Led : σ -> List (Addr × Obj)) (stored : List Str) (Inv : Nat -> σ -> Prop) (c₀ : σ)
  (hh : A.handled = none) (hr : IsRange s.heap r a₀ b₀ 1 t₀ u₀ v₀) (hsmall : Builtin.Range.small a₀ b₀ 1 = true) (hn : Builtin.Range.rangeSize a₀ b₀ 1 = (n : Int)) (F : Fr h₀ env.locals s.heap m₀) (N : News h₀ env.locals s.heap (Led c₀ ++ rest))
  (hoff : ∀ p ∈ rest, ∀ q ∈ Led c₀, p.1 ≠ q.1) (hk : ∀ p ∈ ps c₀, m₀ p.1 = some p.2) (hi : Inv 0 c₀)
  (turn : ∀ (i : Nat) (t : Tok) (c : σ) (u : Str -> Option Value) (s₁ : Shared) own, i < n -> Inv i c -> (∀ p ∈ own, ∀ q ∈ Led c, p.1 ≠ q.1) -> (∀ p ∈ rest, p ∈ own) ->
   Fr h₀ env.locals s₁.heap (kstB (fun z => if stored.contains z then u z else m₀ z) (ps c)) -> News h₀ env.locals s₁.heap (Led c ++ own) ->
   wpAny (model prog w) A (assign target env (.int (a₀ + (i : Int)) t)) (fun _ s₂ => wpAny (model prog w) A (execs body env) (LTurn h₀ env.locals ps Led stored m₀ (Inv (i + 1)) own s₁) E s₂) E s₁)
  (done : ∀ (c : σ) (u : Str -> Option Value) h tk, Inv n c -> (∀ p ∈ rest, ∀ q ∈ Led c, p.1 ≠ q.1) -> Fr h₀ env.locals h (kstB (fun z => if stored.contains z then u z else m₀ z) (ps c)) -> News h₀ env.locals h (Led c ++ rest) -> Q .next { s with heap := h, toks := tk }) :
  wpAny (model prog w) A (pyIter (.ref r)) (fun it s₂ => LoopAtT prog w A h₀ env target body Q E it s₂) E s := by
 refine wpAny_pyIter_range hr hsmall ?_
 have Wk := Walks.range (prog := prog) (w := w) hh s.heap.objs.size a₀ 1 n
 have hI0 : h₀.get? s.heap.objs.size = none := next_is_new F
 refine zay _ _ _ n _ _ m₀ (Led c₀ ++ rest) (fun i m nx => ∃ c, nx = Led c ++ rest /\ (∀ p ∈ rest, ∀ q ∈ Led c, p.1 ≠ q.1) /\ (∀ p ∈ ps c, m p.1 = some p.2) /\ (∀ z, (∀ p ∈ ps c, z ≠ p.1) -> stored.contains z = false -> m z = m₀ z) /\ Inv i c) rfl Wk ?_ ?_ ?_ (by show IsRangeIter _ _ _ _ _; rw [hn]; simpa using Heap.get?_push_size _ rfl) (F.push _) (fun p hp => ⟨Heap.get?_push_of_some _ (N p hp).1, (N p hp).2⟩) ?_ ⟨c₀, rfl, hoff, hk, fun _ _ _ => rfl, hi⟩ ?_ ?_
 ·intro hm
  exact absurd F.ns.lt ((List.mem_singleton.mp hm) ▸ Nat.lt_irrefl _)
 ·intro b hb
  rw [List.mem_singleton.mp hb]
  exact hI0
 ·intro p hp hI
  k_extra "Y"
 ·exact fun i s' v Q' hst hq => zfj hst hq
 ·intro i v m₁ news₁ s₁ own hin q97 q98 hoffI hown hget hfp hst F₁ N₁
  k_extra "l"
  (refine x_E (q97) ?_; clear q97; intro t q91; subst q91)
  (refine zcF (q98) ?_; clear q98; intro c q91 hof h1 h2 hI; subst q91)
  k_extra "e"
  have hIown : (s.heap.objs.size, _) ∈ own := hfp _ (.head _) hI0 _ hst
  have hof2 : ∀ p ∈ rest ++ own, ∀ q ∈ Led c, p.1 ≠ q.1 := by
   intro p hp q hq e
   k_extra "n"
   ·exact hof p hp q hq e
   ·exact hoffI q (List.mem_append_left _ hq) (List.mem_singleton.mpr (e ▸ List.mem_singleton.mp (hown p hp)))
  have N₂ : News h₀ env.locals s₁.heap (Led c ++ (rest ++ own)) := fun p hp => N₁ p (by
   k_extra "n"
   ·exact List.mem_append_right _ (List.mem_append_left _ hp)
   ·rcases List.mem_append.mp hp with hp | hp
    ·exact List.mem_append_right _ (List.mem_append_right _ hp)
    ·exact List.mem_append_left _ hp)
  rw [show a₀ + (i : Int) * 1 = a₀ + (i : Int) by lia]
  refine wpAny_mono (turn i t c m₁ s₁ _ hin hI hof2 (fun p hp => List.mem_append_left _ hp) (zc2 h1 h2 F₁) N₂) (fun _ s₂ p => wpAny_mono p (fun f s₃ p => ?_) fun _ _ e => e) fun _ _ e => e
  k_extra "l"
  (refine zbb (p) ?_; clear p; intro q90 c' h' tk' m' news' q96 F' N' ha hb hc hd he hJ; subst q90; subst q96)
  k_extra "e"
  refine ⟨rfl, h', tk', m', Led c' ++ rest, rfl, F', fun p hp => ?_, fun p hp hq => ?_, c', rfl, fun p hp => hc p (List.mem_append_left _ hp), hd, he, hJ⟩
  ·rcases List.mem_append.mp hp with h | h
   ·exact N' p (hb p (List.mem_append_right _ h))
   ·rcases List.mem_append.mp h with h | h
    ·exact N' p (ha p h)
    ·exact N' p (hb p (List.mem_append_left _ h))
  ·rcases List.mem_append.mp hp with hp | hp
   ·exact hc _ (List.mem_append_right _ hIown) p hp (List.mem_singleton.mp hq).symm
   ·exact hoffI p (List.mem_append_right _ hp) hq
 ·intro h' tk m' news' F' N' _ q97
  k_extra "l"
  (refine zcF (q97) ?_; clear q97; intro c q91 hof h1 h2 hI; subst q91)
  k_extra "e"
  exact done c m' h' tk hI hof (zc2 h1 h2 F') N'
end
theorem zcM {α : Type} (a : List α) {t : α} {b : List α} {p : α} (h : p ∈ a ++ t :: b) : p ∈ t :: (a ++ b) := List.perm_middle.mem_iff.mp h
theorem zbj {α : Type} {a b c d e f g h i j p : α} {l : List α} (hp : p ∈ l) : p ∈ a :: b :: c :: d :: e :: f :: g :: h :: i :: j :: l := .tail _ (.tail _ (.tail _ (.tail _ (.tail _ (.tail _ (.tail _ (.tail _ (.tail _ (.tail _ hp)))))))))
theorem zdq {a : Addr} {vs : List Value} {ns : List Int} {k : Nat} {x : Int} {t : Tok} {b : Bool} {Q : Value -> Shared -> Prop}
  (N : News h₀ L s.heap news) (ma : (a, W.listOf vs.toArray k) ∈ news) (hi : IntsAre vs ns) (hb : b = !ns.contains x) (hu : A.units + 64 < cLine) (h : Q (.bool b) s) : wpAny (model prog w) A (compareOp .NotIn (.int x t) (.ref a)) Q E s := by
 classical
 refine kqd_notIn N ma rfl rfl (zgb (news := []) hi) (fun p h => nomatch h) (DatIn.int (news := []) x t) (fun p h => nomatch h) ?_ rfl hu ?_
 ·intro d hd
  k_extra "t"
  rfl
 ·have e : (!decide (Dat.int x ∈ ns.map Dat.int)) = b := by
   have h1 : Dat.int x ∈ ns.map Dat.int ↔ x ∈ ns := ⟨fun h => (by obtain ⟨y, hy, e⟩ := List.mem_map.mp h; cases e; exact hy), fun h => List.mem_map.mpr ⟨x, h, rfl⟩⟩
   rw [hb]
   refine congrArg _ ?_
   rw [Bool.eq_iff_iff, decide_eq_true_iff, h1, List.contains_iff_mem]
  rw [e]
  exact h
theorem zg6 (as : List Int) (mv : Int) : (ovr as mv).map tdat = (List.range as.length).map fun (k : Nat) => tdat [(k : Int) + mv, as.getD k 0] := by rw [ovr, List.map_map]; rfl
theorem zje (al as : List Int) (mv : Int) : (lone al as mv).map tdat = ((List.range as.length).filter fun (k : Nat) => !al.contains ((k : Int) + mv)).map fun (k : Nat) => tdat [(k : Int) + mv, as.getD k 0] := by rw [lone, List.map_map]; rfl
theorem zd9 {h : Heap} {a : Addr × Obj} {l : List (Addr × Obj)} (N : News h₀ L h (a :: l)) : News h₀ L h l := fun p hp => N p (.tail _ hp)
theorem rsz0 {a b : Int} {n : Nat} (h : (b - a).toNat = n) : Builtin.Range.rangeSize a b 1 = (n : Int) := by
 by_cases hp : a <= b
 ·exact rsz (by lia)
 ·unfold Builtin.Range.rangeSize
  rw [if_pos (by decide)]
  split <;> lia
theorem zox {lr ov D1 D2 : Addr} {l o3 o4 oo q1 q2 q3 q4 : Obj} {tl : List (Addr × Obj)} (lL : @LT.lt Nat _ ov lr /\ @LT.lt Nat _ D2 lr /\ @LT.lt Nat _ D1 lr /\ @LT.lt Nat _ (L + 1 + 1 + 1 + 1) lr /\ @LT.lt Nat _ (L + 1 + 1 + 1) lr /\ @LT.lt Nat _ (L + 1 + 1) lr /\ @LT.lt Nat _ (L + 1) lr /\ AllLt lr tl) (hoff : ∀ p ∈ tl, p.1 ≠ L + 1 + 1 + 1 + 1 /\ p.1 ≠ L + 1 + 1 + 1) (lO : @Ne Nat D2 ov /\ @Ne Nat D1 ov /\ @Ne Nat (L + 1 + 1 + 1 + 1) ov /\ @Ne Nat (L + 1 + 1 + 1) ov /\ @Ne Nat (L + 1 + 1) ov /\ @Ne Nat (L + 1) ov /\ LCg.Off1 ov tl) (l1 : L + 1 + 1 + 1 + 1 < D1) (l2 : D1 < D2) :
  ∀ p ∈ (ov, oo) :: (D2, q1) :: (D1, q2) :: (L + 1 + 1, q3) :: (L + 1, q4) :: tl, ∀ q ∈ (lr, l) :: (L + 1 + 1 + 1 + 1, o4) :: (L + 1 + 1 + 1, o3) :: [], p.1 ≠ q.1 := by
 replace l1 : @LT.lt Nat _ (L + 1 + 1 + 1 + 1) D1 := l1
 replace l2 : @LT.lt Nat _ D1 D2 := l2
 have k : ∀ a : Nat, a ≠ lr -> a ≠ L + 1 + 1 + 1 + 1 -> a ≠ L + 1 + 1 + 1 -> ∀ q ∈ (lr, l) :: (L + 1 + 1 + 1 + 1, o4) :: (L + 1 + 1 + 1, o3) :: [], a ≠ q.1 := fun a h1 h2 h3 => fc h1 (fc h2 (fc h3 (fn)))
 (refine cj8 (lL) ?_; clear lL; intro a1 a2 a3 a4 a5 a6 a7 a8)
 (refine cj7 (lO) ?_; clear lO; intro b1 b2 b3 b4 b5 b6 b7)
 refine fc (k ov (by exact Nat.ne_of_lt a1) (Ne.symm b3) (Ne.symm b4)) (fc (k D2 (by exact Nat.ne_of_lt a2) (by lia) (by lia)) (fc (k D1 (by exact Nat.ne_of_lt a3) (by exact Ne.symm (Nat.ne_of_lt l1)) (by exact Nat.add_one_ne_add_one_iff.mp (Nat.ne_of_gt (Nat.lt_succ_of_le (Nat.le_of_lt l1))))) (fc (k (L + 1 + 1) (by lia) (by lia) (by exact Nat.ne_add_one (L + 1 + 1))) (fc (k (L + 1) (by lia) (by lia) (by lia)) (fun p hp => k p.1 (Nat.ne_of_lt (zb1 a8 p hp)) (hoff p hp).1 (hoff p hp).2)))))
theorem zob {h : Heap} {a b : Addr × Obj} {l : List (Addr × Obj)} (N : News h₀ L h (a :: b :: l)) : News h₀ L h (b :: a :: l) := fun p hp => N p (by
 k_extra "q"
 ·exact .tail _ (.head _)
 ·rcases List.mem_cons.mp hp with rfl | hp
  ·exact .head _
  ·exact .tail _ (.tail _ hp))
theorem zbv {I C D : Addr} {t : Addr × Obj} (ht : t.1 ≠ I /\ t.1 ≠ C /\ t.1 ≠ D) : ∀ (a : List (Addr × Obj)) {b : List (Addr × Obj)}, LCg.Off3 I C D (a ++ b) -> LCg.Off3 I C D (a ++ t :: b)
 | [], _, h => ⟨ht, h⟩
 | _ :: a, _, h => ⟨h.1, zbv ht a h.2⟩
theorem zfM {as : List Int} {mv : Int} {q : Nat} (h : q < as.length) : (ovr as mv).take (q + 1) = (ovr as mv).take q ++ [[(q : Int) + mv, as.getD q 0]] := by
 have e : (ovr as mv)[q]? = some [(q : Int) + mv, as.getD q 0] := by simp [ovr, h]
 rw [List.take_add_one, e]
 rfl
structure MovC where
 o3 : Obj
 o4 : Obj
 rv : List Value
 rn : Nat
 tl : List (Addr × Obj)
structure MovI (lr c4 c3 : Addr) (as bs : List Int) (i : Nat) (c : MovC) : Prop where
 off : ∀ p ∈ c.tl, p.1 ≠ lr /\ p.1 ≠ c4 /\ p.1 ≠ c3
 d3 : ∃ v, c.o3.data = .cell v
 d4 : ∃ v, c.o4.data = .cell v
 dat : DatAll c.tl c.rv ((zbD as bs i).map rdat)
@[reducible] noncomputable def MLed (lr c4 c3 : Addr) (c : MovC) : List (Addr × Obj) := (lr, W.listOf c.rv.toArray c.rn) :: (c4, c.o4) :: (c3, c.o3) :: c.tl
theorem zfr {α β : Type} {f : α -> List β} {k : Nat} : ∀ (l : List α), (∀ x ∈ l, (f x).length <= k) -> (l.flatMap f).length <= l.length * k
 | [], _ => by simp
 | a :: l, h => by
  rw [List.flatMap_cons, List.length_append, List.length_cons, Nat.succ_mul]
  have h1 := h a (.head _)
  have h2 := zfr l fun x hx => h x (.tail _ hx)
  lia
theorem zeU (al : List Int) (mv : Int) : (zbh al mv).length <= al.length * 64 := zfr al fun x _ => by
 rw [List.length_map, List.length_range]
 exact zf6 _ _ _
theorem zhs {as bs : List Int} (h : as.length <= 6) (n : Nat) : (zbD as bs n).length <= n * 384 := by
 refine Nat.le_trans (zfr (k := 384) _ fun x _ => ?_) (by rw [List.length_range]; exact Nat.le_refl _)
 have h1 := zeU (zah as bs (1 - (bs.length : Int) + (x : Int))) (1 - (bs.length : Int) + (x : Int))
 have h2 := zcP as bs (1 - (bs.length : Int) + (x : Int))
 lia
theorem zjj {as bs : List Int} {mv : Int} (h6 : as.length <= 6) : ∀ x ∈ zah as bs mv, 0 <= x /\ x < 64 /\ 0 <= x - mv := fun x hx => by
 have := zfk hx
 omega
theorem zj5 {as bs : List Int} {mv : Int} (h6 : as.length <= 6) : (zah as bs mv).length <= 64 := by
 have := zcP as bs mv
 lia
theorem zhy {tl tx : List (Addr × Obj)} {rv xs : List Value} {as bs : List Int} {mv : Int} {i : Nat} (h1 : DatAll tl rv ((zbD as bs i).map rdat)) (h2 : DatAll tx xs ((zbh (zah as bs mv) mv).map rdat)) (a6 : as.length <= 6) (b6 : bs.length <= 6) (hi : i < as.length + bs.length - 1) : rv.length + xs.length <= 100000 := by
 have e1 := h1.length
 have e2 := h2.length
 rw [List.length_map] at e1 e2
 have e3 := zhs (as := as) (bs := bs) a6 i
 have e4 := zeU (zah as bs mv) mv
 have e5 := zcP as bs mv
 lia
theorem sig_wid (h : os.length <= 4) : (sigL os).length <= 6 := by rw [za4]; exact ze0 h
example : True := by
 k_with "au" => (have a6 := sig_wid rA.len; have b6 := sig_wid rB.len)
 k_with "b" => (k_steps; (try with_reducible refine zai ?_); (try dsimp only); (with_reducible rename Fr _ _ _ _ => wF); (with_reducible rename News _ _ _ _ => wN))
 k_with "ar" => (try simp only [List.cons_append, List.nil_append] at N9)
 k_with "aD" => (k_extra "L"; k_extra "b")
 k_with "O" => (with_reducible rename _ /\ _ /\ _ /\ _ /\ _ /\ _ /\ _ => lT)
 k_with "ab" => (try simp only [List.cons_append, List.nil_append])
 k_with "d" => (k_steps; (try with_reducible refine zai ?_); (try dsimp only))
 k_with "w" => (k_extra "d"; refine zh5 (lawA L' fa cd) ?_)
 k_with "i" => ((case kd => exact Nat.lt_of_le_of_lt (by decide) law_dp); case ku => exact Nat.lt_of_le_of_lt (by decide) law_un)
 k_with "ad" => (k_extra "f"; k_extra "i")
 k_with "aL" => (k_extra "ad"; case h1 => k_mem)
 k_with "eval Name" => (k_here; k_dflt (refine' nameX_L (by k_asm) (by first | assumption | exact rfl | (dsimp only; (repeat rw [if_neg (by decide)]); first | assumption | (rw [if_pos rfl]))) ?_ rfl rfl; k_whole))
 k_with "call ref" => (refine hold ?_)
 k_with "eval ListComp" => (k_here; (with_reducible show wpAny _ _ (eval (Expr.ListComp _ [⟨Expr.Name _ _, _, [_], _⟩] _ _) _) _ _ _); k_dflt (refine LCt.ListComp_T (F₀ := by k_asm) (by with_unfolding_all rfl) (by decide) (by rfl) (by decide) (by rfl) ?_))
 k_with "eval ListComp" => (k_here; (with_reducible show wpAny _ _ (eval (Expr.ListComp _ [⟨Expr.Name _ _, _, [], _⟩] _ _) _) _ _ _); k_dflt (refine LCg.ListComp_U (F₀ := by k_asm) (by with_unfolding_all rfl) (by decide) (by rfl) (by decide) (by rfl) ?_))
 k_with "exec Assign cons ListComp" => (k_here; (with_reducible show wpAny _ _ (exec (Stmt.Assign _ (Expr.ListComp _ [⟨Expr.Name _ _, _, [], _⟩] _ _) _) _) _ _ _); k_dflt (refine LCg.Assign_ListComp_U (F₀ := by k_asm) (by rfl) (by with_unfolding_all rfl) (by with_unfolding_all rfl) (by decide) (by rfl) (by decide) (by rfl) (by rfl) (by rfl) ?_))
 k_with "compareOp NotIn int ref" => (refine hold ?_)
 k_with "compareOp NotEq ref ref" => (refine hold ?_)
 trivial
theorem zjf {loose : List Str} {mb : Str -> Option Value} {g : Heap} {L' fa : Addr} {cd : Value} 
  {tg it : Expr} {body els : List Stmt} {pos : Pos} {oA oB : List Int} {tA tB t : Tok} {z1 z2 rv ovs : List Value} {n1 n2 rn no i : Nat} {D1 D2 ov lr : Addr} {o1 o2 o3 o4 : Obj} {v3 v4 : Option Value} {tl otl : List (Addr × Obj)} (hs : nthS 7 (bd 21) = Stmt.For tg it body els pos)
  (B : Below callerA base [] g) (F : Fr g L' s.heap m) (X : (K w.params).In g) (XB : (K w.params).In base) (T : Top Mine.q loose mean mg mb g) (TB : Top Mine.q loose mean mg mb base)
  (N : News g L' s.heap (MLed lr (L' + 1 + 1 + 1 + 1) (L' + 1 + 1 + 1) ⟨o3, o4, rv, rn, tl⟩ ++ own)) (d1 : o1.data = .cell (some (.ref D1))) (d2 : o2.data = .cell (some (.ref D2))) (d3 : o3.data = .cell v3) (d4 : o4.data = .cell v4)
  (hof : ∀ p ∈ own, ∀ q ∈ MLed lr (L' + 1 + 1 + 1 + 1) (L' + 1 + 1 + 1) ⟨o3, o4, rv, rn, tl⟩, p.1 ≠ q.1) (hot : ∀ p ∈ tl, p.1 ≠ lr /\ p.1 ≠ L' + 1 + 1 + 1 + 1 /\ p.1 ≠ L' + 1 + 1 + 1)
  (m1 : (L' + 1, o1) ∈ own) (m2 : (L' + 1 + 1, o2) ∈ own) (m3 : (D1, W.listOf z1.toArray n1) ∈ own) (m4 : (D2, W.listOf z2.toArray n2) ∈ own) (m5 : (ov, W.listOf ovs.toArray no) ∈ own) (m6 : ∀ p ∈ otl, p ∈ own) (hov : DatAll otl ovs ((ovr (sigL oA) 0).map tdat))
  (l1 : L' + 1 + 1 + 1 + 1 < D1) (l2 : D1 < D2) (l3 : L' + 1 + 1 + 1 + 1 ≠ ov /\ L' + 1 + 1 + 1 ≠ ov) (l4 : L' + 1 + 1 + 1 + 1 < lr) (i1 : IntsAre z1 (sigL oA)) (i2 : IntsAre z2 (sigL oB)) (rA : RowOK oA) (rB : RowOK oB) (hi : i < (sigL oA).length + (sigL oB).length - 1) (hdt : DatAll tl rv ((zbD (sigL oA) (sigL oB) i).map rdat))
  (f1 : m (Str.ofString "one") = some (.bytes (byteArr oA) tA)) (f2 : m (Str.ofString "two") = some (.bytes (byteArr oB) tB)) (f3 : m (Str.ofString "over") = some (.ref ov)) (f4 : m (Str.ofString "runs") = some (.ref lr)) (hm : ∀ z, [Str.ofString "under", Str.ofString "missing", Str.ofString "unexpected"].contains z = false -> m z = m₀ z)
  (hE : PassesOwn (model PySem.Challenge.rw_rt0114_02.row.prog w) (callerA.deeper (zan L' fa cd)) (zan L' fa cd) E) :
  wpAny (model PySem.Challenge.rw_rt0114_02.row.prog w) (callerA.deeper (zan L' fa cd)) (assign tg (zan L' fa cd) (.int (1 - ((sigL oB).length : Int) + (i : Int)) t)) (fun _ s₂ => wpAny (model PySem.Challenge.rw_rt0114_02.row.prog w) (callerA.deeper (zan L' fa cd)) (execs body (zan L' fa cd)) (LTurn g L' (fun _ => []) (MLed lr (L' + 1 + 1 + 1 + 1) (L' + 1 + 1 + 1)) [Str.ofString "under", Str.ofString "missing", Str.ofString "unexpected"] m₀ (MovI lr (L' + 1 + 1 + 1 + 1) (L' + 1 + 1 + 1) (sigL oA) (sigL oB) (i + 1)) own s) E s₂) E s := by
 revert X; k_fill; intro X
 (conv at hs in (nthS 7 _) => whnf)
 k_extra "l"
 (refine cj5 (Stmt.For.inj hs) ?_; intro q90 q91 q92 q93 q94; subst q90; subst q91; subst q92; subst q93; subst q94)
 k_extra "e"
 clear hs
 k_extra "au"
 have zl1 := i1.length
 have zl2 := i2.length
 generalize hmv : 1 - ((sigL oB).length : Int) + (i : Int) = mv
 replace l1 : @LT.lt Nat _ (L' + 1 + 1 + 1 + 1) D1 := l1
 replace l2 : @LT.lt Nat _ D1 D2 := l2
 have l5 : @Ne Nat (L' + 1 + 1 + 1 + 1) ov := l3.1
 have l6 : @Ne Nat (L' + 1 + 1 + 1) ov := l3.2
 clear l3
 replace l4 : @LT.lt Nat _ (L' + 1 + 1 + 1 + 1) lr := l4
 obtain ⟨Y, hY⟩ : ∃ Y, Y = tl ++ own := ⟨_, rfl⟩
 have hYo : ∀ p ∈ own, p ∈ Y := fun p hp => by rw [hY]; exact List.mem_append_right _ hp
 have hYt : ∀ p ∈ tl, p ∈ Y := fun p hp => by rw [hY]; exact List.mem_append_left _ hp
 have yo : ∀ p ∈ Y, p.1 ≠ lr /\ p.1 ≠ L' + 1 + 1 + 1 + 1 /\ p.1 ≠ L' + 1 + 1 + 1 := by
  intro p hp
  rw [hY] at hp
  k_extra "n"
  ·exact hot p hp
  ·exact ⟨hof p hp _ (.head _), hof p hp _ (.tail _ (.head _)), hof p hp _ (.tail _ (.tail _ (.head _)))⟩
 have hol : ∀ p ∈ own, ∀ q ∈ tl, p.1 ≠ q.1 := fun p hp q hq => hof p hp q (.tail _ (.tail _ (.tail _ hq)))
 have y0 : ∀ p ∈ Y, p.1 ≠ lr := fun p hp => (yo p hp).1
 have y1 : ∀ p ∈ Y, p.1 ≠ L' + 1 + 1 + 1 + 1 := fun p hp => (yo p hp).2.1
 have y2 : ∀ p ∈ Y, p.1 ≠ L' + 1 + 1 + 1 := fun p hp => (yo p hp).2.2
 replace N : News g L' s.heap ((lr, W.listOf rv.toArray rn) :: (L' + 1 + 1 + 1 + 1, o4) :: (L' + 1 + 1 + 1, o3) :: (ov, W.listOf ovs.toArray no) :: (D2, W.listOf z2.toArray n2) :: (D1, W.listOf z1.toArray n1) :: (L' + 1 + 1, o2) :: (L' + 1, o1) :: Y) := by
  refine fun p hp => N p ?_
  have ho : ∀ p ∈ own, p ∈ MLed lr (L' + 1 + 1 + 1 + 1) (L' + 1 + 1 + 1) ⟨o3, o4, rv, rn, tl⟩ ++ own := fun p hp => List.mem_append_right _ hp
  simp only [List.mem_cons] at hp
  rcases hp with rfl | rfl | rfl | rfl | rfl | rfl | rfl | rfl | hp
  ·exact .head _
  ·exact .tail _ (.head _)
  ·exact .tail _ (.tail _ (.head _))
  ·exact ho _ m5
  ·exact ho _ m4
  ·exact ho _ m3
  ·exact ho _ m2
  ·exact ho _ m1
  ·rw [hY] at hp
   exact .tail _ (.tail _ (.tail _ hp))
 clear hof hY hot
 k_extra "b"
 (with_reducible rename Obj => p3)
 k_extra "P"
 refine LCg.CompSrc.range rfl wF wN wR (small_one (by exact Int.neg_ofNat_le_ofNat (2 ^ 62) 0) (by exact kbt_pos 62) (by exact Int.neg_ofNat_le_natCast (2 ^ 62) (sigL oB).length) (by lia)) (n := (sigL oB).length) (rsz (by exact Eq.symm (Int.zero_add ↑(sigL oB).length))) (by rw [sizeLine_eq]; exact Nat.le_trans b6 (Nat.le_of_lt (Nat.lt_succ_of_le (Nat.le_add_left 6 16777209)))) ?_
 intro g9
 refine' zbP (fun q ys nw => ∃ tu, nw = (lr, W.listOf rv.toArray rn) :: (L' + 1 + 1 + 1 + 1, o4) :: (L' + 1 + 1 + 1, p3) :: (ov, W.listOf ovs.toArray no) :: (D2, W.listOf z2.toArray n2) :: (D1, W.listOf z1.toArray n1) :: (L' + 1 + 1, o2) :: (L' + 1, o1) :: (tu ++ Y) /\ (∀ p ∈ tu, p.1 ≠ lr /\ p.1 ≠ L' + 1 + 1 + 1 + 1 /\ p.1 ≠ L' + 1 + 1 + 1) /\ DatAll tu ys (((ovr (sigL oB) mv).take q).map tdat)) ?turnu ⟨[], rfl, fn, .nil⟩ ?finu
 case turnu =>
  intro q v ys nw I oI C oC Dd m2 h9 tk9 E9 hin q914 q915 hC9 hx9 F9 N9 off9 ne9
  k_extra "H"
  (refine zaW (q915) ?_; clear q915; intro tu q91 hoff hys; subst q91)
  k_extra "e"
  clear wF wN wR ne9
  k_extra "ar"
  k_extra "aD"
  k_extra "O"
  refine LCg.CompEnd.intro wF wN ((lr, W.listOf rv.toArray rn) :: (L' + 1 + 1 + 1 + 1, o4) :: (L' + 1 + 1 + 1, p3) :: (ov, W.listOf ovs.toArray no) :: (D2, W.listOf z2.toArray n2) :: (D1, W.listOf z1.toArray n1) :: (L' + 1 + 1, o2) :: (L' + 1, o1) :: _ :: (tu ++ Y)) (fun p hp => zcM [_, _, _, _, _, _, _, _, _, _, _] hp) (zbv ⟨Nat.ne_of_gt lT.1, Nat.ne_of_gt lT.2.1, Nat.ne_of_gt lT.2.2.1⟩ [_, _, _, _, _, _, _, _] off9) trivial ⟨_ :: tu, rfl, fc ⟨Nat.ne_of_gt lT.2.2.2.1, Nat.ne_of_gt lT.2.2.2.2.1, Nat.ne_of_gt lT.2.2.2.2.2.1⟩ hoff, ?_⟩
  rw [zfM hin, List.map_append]
  refine DatAll.append (hys.mono fun p hp => .tail _ hp) (.cons (DatIn.tuple (.head _) ?_) .nil)
  rw [show (0 + (q : Int)).toNat = q by lia]
  first
   | exact .cons (by rw [show (0 + (q : Int)) = (q : Int) + 0 by exact Int.add_comm 0 ↑q]; exact .int _ _) (.cons (.int _ _) .nil)
   | exact .cons (by rw [show (0 + (q : Int)) = (q : Int) by omega]; exact .int _ _) (.cons (.int _ _) .nil)
 case finu =>
  intro ys nw q92
  k_extra "l"
  (refine zaW (q92) ?_; clear q92; intro tu q91 hoff hys; subst q91)
  k_extra "e"
  clear wF wN wR
  rw [show (sigL oB).length = (ovr (sigL oB) mv).length from (zaR _ _).symm, List.take_length] at hys
  k_extra "ab"
  obtain ⟨Z, hZ⟩ : ∃ Z, Z = tu ++ Y := ⟨_, rfl⟩
  have hZu : ∀ p ∈ tu, p ∈ Z := fun p hp => by rw [hZ]; exact List.mem_append_left _ hp
  have hZo : ∀ p ∈ own, p ∈ Z := fun p hp => by rw [hZ]; exact List.mem_append_right _ (hYo p hp)
  have hZt : ∀ p ∈ tl, p ∈ Z := fun p hp => by rw [hZ]; exact List.mem_append_right _ (hYt p hp)
  have zo : ∀ p ∈ Z, p.1 ≠ lr /\ p.1 ≠ L' + 1 + 1 + 1 + 1 /\ p.1 ≠ L' + 1 + 1 + 1 := by
   rw [hZ]
   exact fun p hp => (List.mem_append.mp hp).elim (hoff p) (yo p)
  have z0 : ∀ p ∈ Z, p.1 ≠ lr := fun p hp => (zo p hp).1
  have z1' : ∀ p ∈ Z, p.1 ≠ L' + 1 + 1 + 1 + 1 := fun p hp => (zo p hp).2.1
  have z2' : ∀ p ∈ Z, p.1 ≠ L' + 1 + 1 + 1 := fun p hp => (zo p hp).2.2
  rw [<- hZ]
  clear hZ y0 y1 y2 yo hoff hYo hYt
  k_extra "w"
  refine' zcQ (cs := zaZ) ?kB ?kF ?kX ?kN ?kT ?kh ?kl ?kd ?ku ?_
  k_extra "ad"
  case kl => rw [byteArr_size]; have := rA.len; exact Nat.le_of_lt_succ (Nat.lt_succ_of_le this)
  intro t11 h11 k11 F11 N11
  rw [zaq rA.bytes]
  k_extra "w"
  refine' zcQ (cs := zaZ) ?kB ?kF ?kX ?kN ?kT ?kh ?kl ?kd ?ku ?_
  k_extra "ad"
  case kl => rw [byteArr_size]; have := rB.len; exact Nat.le_of_lt_succ (Nat.lt_succ_of_le this)
  intro t12 h12 k12 F12 N12
  rw [zaq rB.bytes]
  k_extra "w"
  refine' zi2 (cs := zaZ) ?kB ?kF ?kX ?kN ?kT ?kh ?h1 ?h2 ?h3 ?h4 ?h5 ?h6 ?h7 ?h8 ?kd ?ku ?_
  k_extra "ad"
  case h1 => exact zii rA.bytes
  case h2 => exact zih rA.bytes rA.len
  case h3 => exact zii rB.bytes
  case h4 => exact zih rB.bytes rB.len
  case h5 => exact a6
  case h6 => exact b6
  case h7 => lia
  case h8 => lia
  intro al na av h13 k13 F13 N13 hne13 ia
  clear F11 N11 F12 N12
  rw [za4, za4, zjm] at ia
  simp only [List.forall_mem_cons] at hne13
  have na0 : @Ne Nat lr al := hne13.2.1
  have na1 : @Ne Nat (L' + 1 + 1 + 1 + 1) al := hne13.2.2.1
  clear hne13
  k_extra "d"
  (with_reducible rename Obj => p4)
  refine zh5 (lawA L' fa cd) ?_
  refine' zhu (cs := zaZ) ?kB ?kF ?kX ?kN ?kT ?kh ?h1 ?h2 ?h3 ?h4 ?h5 ?h6 ?h7 ?h8 ?kd ?ku XB TB ?_
  k_extra "aL"
  case h2 => exact .tail _ (.head _)
  case h3 => exact hov.mono fun p hp => zbj (hZo _ (m6 _ hp))
  case h4 => exact hys.mono fun p hp => zbj (hZu _ hp)
  case h5 => exact zdw _ _
  case h6 => exact zdw _ _
  case h7 => rw [zaR]; exact Nat.le_trans a6 (Nat.le_of_lt (Nat.lt_succ_of_le (Nat.le_add_left 6 57)))
  case h8 => rw [zaR]; exact Nat.le_trans b6 (Nat.le_of_lt (Nat.lt_succ_of_le (Nat.le_add_left 6 57)))
  intro T' a' b' ms us nm nu h14 k14 F14 N14 hms hus
  rw [zio] at hms
  rw [zgs] at hus
  rw [zje] at hms hus
  k_extra "b"
  refine LCt.CompSrcT.ledger rfl wF wN (by k_mem) (by rw [List.size_toArray, sizeLine_eq]; have h1 := hov.length; rw [List.length_map, zaR] at h1; lia) ?_
  intro g10
  refine' zaV (fun q zs => DatAll otl zs (((List.range q).filter fun (k : Nat) => !(zah (sigL oA) (sigL oB) mv).contains ((k : Int) + 0)).map fun (k : Nat) => tdat [(k : Int) + 0, (sigL oA).getD k 0])) ?turna .nil ?fina
  case turna =>
   k_extra "8"
   clear wF wN ne9
   k_extra "L"
   have hq : q < (sigL oA).length := by have h1 := hov.length; rw [List.length_map, zaR] at h1; rw [<- h1]; simpa using hin
   have hvb := zdi (f := fun (k : Nat) => tdat [(k : Int) + 0, (sigL oA).getD k 0]) (l := List.range (sigL oA).length) (by rw [<- zg6]; exact hov) (List.getElem?_range hq) (by simpa using hv9)
   k_extra "l"
   (refine ziY (zeZ hvb) ?_; intro Tb nb tb1 tb2 q94 hTb; subst q94)
   k_extra "e"
   have hTl : (Tb, ({ cls := .type "tuple", data := .seq [Value.int ((q : Int) + 0) tb1, Value.int ((sigL oA).getD q 0) tb2].toArray nb } : Obj)) ∈ Z := hZo _ <| m6 _  hTb
   k_extra "b"
   refine zdq wN (by k_mem) ia rfl (by ke_room) ?_
   cases hP : (zah (sigL oA) (sigL oB) mv).contains ((q : Int) + 0)
   all_goals
    (try simp only [Bool.not_true, Bool.not_false])
    k_extra "b"
    refine LCg.CompEnd.intro wF wN _ (fun p hp => hp) off9 (Or.inr ⟨_, by k_mem, rfl, _, rfl⟩) ⟨?_, rfl⟩
    k_extra "ap"
    first
     | (rw [List.filter_cons_of_pos (by rw [hP]; rfl)]; exact DatAll.append hzs (.cons hvb .nil))
     | (rw [List.filter_cons_of_neg (by rw [hP]; decide), List.filter_nil, List.map_nil, List.append_nil]; exact hzs)
  case fina =>
   intro zs hzs
   clear wF wN
   rw [show (ovs).toArray.size = (sigL oA).length by have h1 := hov.length; rw [List.length_map, zaR] at h1; rw [List.size_toArray, h1]] at hzs
   k_extra "b"
   refine zfh (b := false) wN (by k_mem) hms (fun p hp => .tail _ (.tail _ (.tail _ (.tail _ hp)))) (by k_mem) hzs (fun p hp => .tail _ (.tail _ (.tail _ (.tail _ (zbj (hZo _ (m6 _ hp))))))) ?ha ?hb ?hbd (by ke_room) ?_
   case ha =>
    k_extra "2"
   case hb =>
    k_extra "2"
   case hbd => simp
   clear hzs hms
   replace wN := zd9 (zd9 (zd9 (wN)))
   k_extra "b"
   refine LCt.CompSrcT.ledger rfl wF wN (by k_mem) (by rw [List.size_toArray, sizeLine_eq]; have h1 := hys.length; rw [List.length_map, zaR] at h1; lia) ?_
   intro g10
   refine' zaV (fun q zs => DatAll tu zs (((List.range q).filter fun (k : Nat) => !(zah (sigL oA) (sigL oB) mv).contains ((k : Int) + mv)).map fun (k : Nat) => tdat [(k : Int) + mv, (sigL oB).getD k 0])) ?turnb .nil ?finb
   case turnb =>
    k_extra "8"
    clear wF wN ne9
    k_extra "L"
    have hq : q < (sigL oB).length := by have h1 := hys.length; rw [List.length_map, zaR] at h1; rw [<- h1]; simpa using hin
    have hvb := zdi (f := fun (k : Nat) => tdat [(k : Int) + mv, (sigL oB).getD k 0]) (l := List.range (sigL oB).length) (by rw [<- zg6]; exact hys) (List.getElem?_range hq) (by simpa using hv9)
    k_extra "l"
    (refine ziY (zeZ hvb) ?_; intro Tb nb tb1 tb2 q94 hTb; subst q94)
    k_extra "e"
    have hTl : (Tb, ({ cls := .type "tuple", data := .seq [Value.int ((q : Int) + mv) tb1, Value.int ((sigL oB).getD q 0) tb2].toArray nb } : Obj)) ∈ Z := hZu _  hTb
    k_extra "b"
    refine zdq wN (by k_mem) ia rfl (by ke_room) ?_
    cases hP : (zah (sigL oA) (sigL oB) mv).contains ((q : Int) + mv)
    all_goals
     (try simp only [Bool.not_true, Bool.not_false])
     k_extra "b"
     refine LCg.CompEnd.intro wF wN _ (fun p hp => hp) off9 (Or.inr ⟨_, by k_mem, rfl, _, rfl⟩) ⟨?_, rfl⟩
     k_extra "ap"
     first
      | (rw [List.filter_cons_of_pos (by rw [hP]; rfl)]; exact DatAll.append hzs (.cons hvb .nil))
      | (rw [List.filter_cons_of_neg (by rw [hP]; decide), List.filter_nil, List.map_nil, List.append_nil]; exact hzs)
   case finb =>
    intro zs hzs
    clear wF wN
    rw [show (ys).toArray.size = (sigL oB).length by have h1 := hys.length; rw [List.length_map, zaR] at h1; rw [List.size_toArray, h1]] at hzs
    k_extra "b"
    refine zfh (b := false) wN (by k_mem) hus (fun p hp => .tail _ (.tail _ hp)) (by k_mem) hzs (fun p hp => .tail _ (.tail _ (zbj (hZu _ hp)))) ?ha ?hb ?hbd (by ke_room) ?_
    case ha =>
     k_extra "2"
    case hb =>
     k_extra "2"
    case hbd => simp
    clear hzs hus
    replace wN := zd9 (zd9 (wN))
    k_extra "w"
    refine' ziQ (cs := zaZ) ?kB ?kF ?kX ?kN ?kT ?kh ?h1 ?h2 ?h3 ?h4 ?kd ?ku ?_
    k_extra "aL"
    case h2 => exact ia
    case h3 => exact zjj a6
    case h4 => exact zj5 a6
    intro lx nx xs tx h15 k15 F15 N15 hne15 htx hxs
    clear wF wN
    k_extra "d"
    have hlx : lx ≠ lr := Ne.symm (hne15 _ (List.mem_append_right _ (.tail _ (.tail _ (.head _)))))
    have hxz : ∀ p ∈ Z, ∀ q ∈ tx, p.1 ≠ q.1 := fun p hp => htx p (zbj hp)
    have hx0 : ∀ q ∈ tx, lr ≠ q.1 /\ L' + 1 + 1 + 1 + 1 ≠ q.1 /\ L' + 1 + 1 + 1 ≠ q.1 := fun q hq => ⟨htx _ (.tail _ (.tail _ (.head _))) q hq, htx _ (.tail _ (.tail _ (.tail _ (.head _)))) q hq, htx _ (.tail _ (.tail _ (.tail _ (.tail _ (.head _))))) q hq⟩
    refine zcU (pre := [(lx, W.listOf xs.toArray nx)]) (D := lr) (vs := rv) (n := rn) (post := (L' + 1 + 1 + 1 + 1, p4) :: (L' + 1 + 1 + 1, p3) :: (tx ++ (tl ++ own))) F15 ?hN (.head _) ?hp1 ?hp2 ?hz ?_
    case hN =>
     refine fun p hp => N15 p ?_
     k_extra "q"
     ·exact .head _
     refine .tail _ ?_
     k_extra "q"
     ·exact List.mem_append_right _ (.tail _ (.tail _ (.head _)))
     k_extra "q"
     ·exact List.mem_append_right _ (.tail _ (.tail _ (.tail _ (.head _))))
     k_extra "q"
     ·exact List.mem_append_right _ (.tail _ (.tail _ (.tail _ (.tail _ (.head _)))))
     k_extra "n"
     ·exact List.mem_append_left _ hp
     ·exact List.mem_append_right _ (zbj ((List.mem_append.mp hp).elim (hZt p) (hZo p)))
    case hp1 => exact fun p hp => (List.mem_singleton.mp hp) ▸ hlx
    case hp2 =>
     refine fc ?_ (fc ?_ (fun p hp => ?_))
     ·exact Nat.ne_of_lt l4
     ·exact Nat.ne_of_lt (Nat.lt_trans (Nat.lt_succ_self _) l4)
     ·rcases List.mem_append.mp hp with hp | hp
      ·exact Ne.symm (hx0 p hp).1
      ·exact (zo p ((List.mem_append.mp hp).elim (hZt p) (hZo p))).1
    case hz => exact zhy hdt hxs a6 b6 hi
    intro h16 n16 F16 N16
    k_extra "d"
    k_extra "c"
    refine zaH (MovC.mk p3 p4 (rv ++ xs) n16 (tx ++ tl)) eF eN ?el ?eo ?hof (fn) ?ez ?ei
    case el =>
     refine fc (.tail _ (.head _)) (fc (.tail _ (.tail _ (.head _))) (fc (.tail _ (.tail _ (.tail _ (.head _)))) (fun p hp => .tail _ (.tail _ (.tail _ (.tail _ ?_))))))
     k_extra "n"
     ·exact List.mem_append_left _ hp
     ·exact List.mem_append_right _ (List.mem_append_left _ hp)
    case eo => exact fun p hp => .tail _ (.tail _ (.tail _ (.tail _ (List.mem_append_right _ (List.mem_append_right _ hp)))))
    case hof =>
     intro p hp
     have h := zo p (hZo p hp)
     refine fc h.1 (fc h.2.1 (fc h.2.2 (fun q hq => ?_)))
     k_extra "aQ"
     ·exact hxz p (hZo p hp) q hq
     ·exact hol p hp q hq
    case ez =>
     intro z z1 z3
     have y1 : z ≠ Str.ofString "under" := fun e => by rw [e] at z3; exact absurd z3 (by decide)
     have y2 : z ≠ Str.ofString "missing" := fun e => by rw [e] at z3; exact absurd z3 (by decide)
     have y3 : z ≠ Str.ofString "unexpected" := fun e => by rw [e] at z3; exact absurd z3 (by decide)
     (repeat (refine zif (by assumption) ?_))
     exact hm z z3
    case ei =>
     refine ⟨fun p hp => ?_, ⟨_, by assumption⟩, ⟨_, by assumption⟩, ?_⟩
     ·rcases List.mem_append.mp hp with hp | hp
      ·exact ⟨Ne.symm (hx0 p hp).1, Ne.symm (hx0 p hp).2.1, Ne.symm (hx0 p hp).2.2⟩
      ·exact zo p (hZt p hp)
     ·show DatAll (tx ++ tl) (rv ++ xs) _
      rw [ze9, List.map_append, hmv]
      exact DatAll.append (hdt.mono fun p hp => List.mem_append_right _ hp) (hxs.mono fun p hp => List.mem_append_left _ hp)
example : True := by
 k_with "aC" => ((try k_fold); k_extra "M")
 k_with "aG" => case ek => exact fc rfl (fc rfl (fc rfl (fn)))
 k_with "v" => (intro z z1 z2 z3; simp only [List.forall_mem_cons] at z2; (refine cj4 (z2) ?_; clear z2; intro y1 y2 y3 _); have y4 := zbc z3 (a := Str.ofString "k") (by simp); k_extra "k")
 k_with "getAttr ref" => (k_here; (with_reducible show wpAny _ _ (getAttr (Value.ref _) (PySem.Str.ofString "__contains__") _) _ _ _); k_dflt
 (refine' zeY (by k_asm) (by k_asm) (by k_mem) rfl rfl rfl ?_; k_whole; intro q' h' F' N' l1; (try k_lt l1); (try k_sweep)))
 k_with "getAttr ref" => (k_here; (with_reducible show wpAny _ _ (getAttr (Value.ref _) (PySem.Str.ofString "get") _) _ _ _); k_dflt
 (refine' ze7 (by k_asm) (by k_asm) (by k_mem) (by exact (zb3 (by assumption)).1) (by exact (zb3 (by assumption)).2.1) (by exact (zb3 (by assumption)).2.2) ?_; k_whole; intro q' h' F' N' l1; (try k_lt l1); (try k_sweep)))
 k_with "getMethod ref" => (k_here; (with_reducible show wpAny _ _ (getMethod (Value.ref _) (PySem.Str.ofString "get") _) _ _ _); k_dflt
 (refine' zib (by k_asm) (by k_mem) (by with_reducible assumption) ?_; k_whole))
 k_with "call builtin:dict.get" => (k_here; (with_reducible show wpAny _ _ (call (Value.builtin "dict.get") [Value.ref _, Value.int _ _, Value.ref _]) _ _ _); k_dflt
 (refine' zn4 (by k_asm) (by k_mem) (by with_reducible assumption) (by with_reducible assumption) (by with_reducible assumption) ?_ ?_))
 k_with "callWith ref" => (k_here; (fail_if_success (with_reducible show wpAny _ _ (callWith _ (Value.ref 135) _ _ _) _ _ _)); k_dflt (refine' zfp (by k_asm) (by k_mem) ?_ rfl rfl; k_whole))
 k_with "And" => ((with_reducible show zdZ _ _ _ _ /\ _); refine ⟨zgu (by k_asm) (by k_mem), ?_⟩; try dsimp only [List.nil_append, List.cons_append])
 k_with "call ref" => (k_here; (with_reducible show wpAny _ _ (call (Value.ref _) [Value.int _ _, Value.int 0 _]) _ _ _); k_dflt
 (refine' znG (by k_asm) (by k_mem) (by k_mem) (by with_reducible assumption) (by with_reducible assumption) (by with_reducible assumption) ?_; intro t9))
 k_with "call ref" => (k_here; (with_reducible show wpAny _ _ (call (Value.ref _) [Value.int _ _]) _ _ _); k_dflt
 (refine' zhN (by k_asm) (by k_mem) (by k_mem) ?_))
 k_with "setItem ref int" => (k_here; k_dflt (refine' setItem_K PyProof.V.same_int (intKind_is _ _ _ _) (by k_flat) (by k_asm) (by k_asm) (by k_updF) (by with_reducible assumption) (by with_reducible assumption) ?_ (by (rw [sizeLine_eq]; lia))); intro h' o' F' N' hd' hf'; (try dsimp only at N'); (try k_sweep))
 k_with "call ref" => (k_here; (with_reducible show wpAny _ _ (call (Value.ref 135) [Value.int _ _, Value.int _ _, Value.int _ _]) _ _ _); k_dflt (refine' zgr (by k_asm) (by k_asm) (by k_asm) (by k_asm) (by k_asm) rfl (by ktr_room) (by ktr_units) ?_; k_whole); intro x9 d9 h' tk9 F' N' l1 l2; (try k_lt l1); (try k_sweep))
 trivial
set_option pp.deepTerms true
set_option pp.maxSteps 1500
theorem zb3 {o : Obj} {kvs : List (Int × Value)} (h : o.IsDictOf (PySem.intKind prog w) kvs) : o.cls = .type "dict" /\ o.dict = none /\ zaj o = false := by
 obtain ⟨es, n, ⟨h1, h2, h3⟩, h4, _⟩ := h
 exact ⟨h1, h2, by unfold zaj; rw [h4]⟩
theorem zjb {loose : List Str} {mb : Str -> Option Value}
  {cs : Scope} {a : Addr} {Q : Value -> Shared -> Prop}
  (B : Below A₀ base outer h₀) (F : Fr h₀ L s.heap m) (X : (K w.params).In h₀) (T : Top Mine.q loose mean mg mb h₀) (hk : cs.kind = .function)
  {self dx la lb db jk pp : Addr} {t0 t1 t2 t3 t4 t5 t6 t7 t8 t9 : Tok} {vm vo vf : Value} {nd na nb : Nat} {avs bvs : List Value} {as bs : List Int} {od : Obj} {led : Bool} {kvs : List (Int × Value)}
  (N : News h₀ L s.heap [(self, instObj 242 dx), (dx, dictOf (smEs w.params t0 t1 t2 t3 t4 t5 t6 t7 t8 t9 (.ref la) (.ref lb) vm vo vf (.ref db) (.ref jk) (.ref pp)) nd),
   (la, listOf avs.toArray na), (lb, listOf bvs.toArray nb), (db, od), (jk, setObj led)])
  (hB : ∀ g : Heap, (∀ b o, b ∉ [self, dx, la, lb, db, jk] -> s.heap.get? b = some o -> g.get? b = some o) -> B2J g bs kvs) (hdb : (db == sysModules) = false) (hod : od.IsDictOf (PySem.intKind PySem.Challenge.rw_rt0114_02.row.prog w) kvs) (ha : IntsAre avs as) (hb : IntsAre bvs bs)
  {alo ahi blo bhi : Nat} {u0 u1 u2 u3 : Tok} (h1 : alo <= ahi) (h2 : ahi <= as.length) (h3 : blo <= bhi) (h4 : bhi <= bs.length) (hsz : as.length < 1000000 /\ bs.length < 1000000)
  (hdp : dp + 20 < recursionLimit) (hun : un + 100 < cLine)
  (hret : ∀ x d h' tk' bi bj bk z1 z2 z3, (∀ b o, s.heap.get? b = some o -> h'.get? b = some o) -> (∀ b o, s.heap.get? b = some o -> b ≠ x) -> (∀ b o, s.heap.get? b = some o -> b ≠ d) -> h'.get? x = some (matchObj d bi z1 bj z2 bk z3) -> h'.get? d = some (dictOf [] 0) -> zaU as bs alo blo (fun i j => alo <= i /\ i < ahi /\ blo <= j /\ j < bhi) bi bj bk -> Q (.ref x) { s with heap := h', toks := tk' }) :
  wpAny (model PySem.Challenge.rw_rt0114_02.row.prog w) (ktrTop dp un gd cn cs L a ccd cl outer) (call (.ref 196) [.ref self, .int (alo : Int) u0, .int (ahi : Int) u1, .int (blo : Int) u2, .int (bhi : Int) u3]) Q E s := by
 revert X; k_fill; intro X
 k_extra "ay"
 k_dflt (refine' zaF B F X N T ?kA ?kF ?kK ?k6 ?k7 ?k8 ?k9 ?kB ?_ ?c2 ?c3 ?c4 ?c5; (case kA => exact rfl); (case kF => exact rfl); (case kK => assumption); (case k6 => k_is); (case k7 => k_is); (case k8 => ktr_room); (case k9 => first | exact BindsTo.of_eq rfl | exact binds_K (by k_in) rfl (by k_is) rfl rfl rfl); (case c5 => decide); (case kB => exact locs rfl); (case c2 => exact rfl); (case c3 => exact rfl); (case c4 => exact rfl); k_whole)
 k_extra "aR"
 have hB' := hB g' hg'
 (try dsimp only); (try k_fold)
 k_extra "s"
 k_extra "7"
 have p91 : m0 (Str.ofString "alo") = some _ := (congrFun e0 _).trans rfl
 have p92 : m0 (Str.ofString "ahi") = some _ := (congrFun e0 _).trans rfl
 have p93 : m0 (Str.ofString "blo") = some _ := (congrFun e0 _).trans rfl
 have p94 : m0 (Str.ofString "bhi") = some _ := (congrFun e0 _).trans rfl
 k_extra "at"
 rename IsRange _ _ _ _ _ _ _ _ => lR
 refine' zjQ (σ := FO) (n := ahi - alo)
  (fun c => [(Str.ofString "besti", .int c.bi c.t1), (Str.ofString "bestj", .int c.bj c.t2), (Str.ofString "bestsize", .int c.bk c.t3), (Str.ofString "j2len", .ref c.d)])
  (fun c => [(c.d, c.o)]) [Str.ofString "j2lenget", Str.ofString "newj2len", Str.ofString "j", Str.ofString "k"] (InvO PySem.Challenge.rw_rt0114_02.row.prog w as bs alo blo bhi) (fun c => False) (FO.mk _ _ _ _ _ _ _ _ [] []) (by rfl) lR (small_one (by exact Int.neg_ofNat_le_natCast (2 ^ 62) alo) (by lia) (by exact Int.neg_ofNat_le_natCast (2 ^ 62) ahi) (by lia)) (zd2 h1) lF (zir (pre := [_]) lN) ?ho ?hk ?hi ?turn ?done
 case hk =>
  refine fc ?_ (fc ?_ (fc ?_ (fc ?_ (fn))))
  all_goals (dsimp only; (repeat rw [if_neg (by decide)]); first | done | (rw [if_pos rfl]) | skip)
  all_goals (try exact rfl)
 case ho =>
  (with_reducible rename _ < _ /\ _ < _ /\ _ < _ /\ _ < _ /\ _ < _ /\ _ < _ /\ _ < _ /\ _ < _ /\ _ < _ /\ _ < _ => lA)
  (with_reducible rename _ < _ /\ _ < _ /\ _ < _ /\ _ < _ /\ _ < _ /\ _ < _ /\ _ < _ /\ _ < _ /\ _ < _ => lB)
  refine zaz ?_
  (try dsimp only [List.cons_append, List.nil_append])
  exact fc (Ne.symm (Nat.ne_of_lt lA.1)) (fc (Nat.ne_of_lt lB.1) (fc (Nat.ne_of_lt lB.2.1) (fc (Nat.ne_of_lt lB.2.2.1) (fc (Nat.ne_of_lt lB.2.2.2.1) (fc (Nat.ne_of_lt lB.2.2.2.2.1) (fc (Nat.ne_of_lt lB.2.2.2.2.2.1) (fc (Nat.ne_of_lt lB.2.2.2.2.2.2.1) (fc (Nat.ne_of_lt lB.2.2.2.2.2.2.2.1) (fc (Nat.ne_of_lt lB.2.2.2.2.2.2.2.2) (fn))))))))))
 case hi =>
  refine ⟨by assumption, by assumption, by assumption, fun k => .inr ⟨rfl, by simp [rowI]⟩, Nat.zero_le _, .inl ⟨rfl, rfl, rfl, fun i j h => by lia⟩⟩
 case done =>
  intro c u h9 tk9 hIB hoff F9 N9
  clear lF lN lR
  (refine cj6 (hIB.resolve_right id) ?_; intro hod9 hfp9 hds9 htab9 hlen9 hbest9)
  (refine cj7 (zgz h1 h2 h3 h4 hbest9) ?_; intro e1 e2 e3 e4 e5 e6 e7)
  clear hIB hoff
  k_extra "aB"
  refine letF F9 ?_
  clear F9
  intro m9 F9
  replace N9 : News g' L' h9 _ := N9
  k_extra "a"
  (with_reducible rename Fr _ _ _ _ => wF0)
  (with_reducible rename News _ _ _ _ => wN0)
  refine zal wF0 wN0 ?wt0 ?wd0 (by passes_own)
  case wt0 =>
   k_extra "aC"
   all_goals (refine zai ?_; (try dsimp only); (with_reducible rename Fr _ _ _ _ => eF); (with_reducible rename News _ _ _ _ => eN); refine zaQ eF eN (by intro p hp; exact hp) ?_; first | rfl | exact absurd (by assumption) (e6 (by assumption) (by assumption)) | exact absurd (by assumption) (e7 (by assumption) (by assumption)))
  intro h8 tk8 F8 N8
  clear wF0 wN0
  k_extra "a"
  (with_reducible rename Fr _ _ _ _ => wF1)
  (with_reducible rename News _ _ _ _ => wN1)
  refine zal wF1 wN1 ?wt1 ?wd1 (by passes_own)
  case wt1 =>
   k_extra "aC"
   all_goals (refine zai ?_; (try dsimp only); (with_reducible rename Fr _ _ _ _ => eF); (with_reducible rename News _ _ _ _ => eN); refine zaQ eF eN (by intro p hp; exact hp) ?_; first | rfl | exact absurd (by assumption) (e6 (by assumption) (by assumption)) | exact absurd (by assumption) (e7 (by assumption) (by assumption)))
  intro h8 tk8 F8 N8
  clear wF1 wN1
  k_extra "a"
  (with_reducible rename Fr _ _ _ _ => wF2)
  (with_reducible rename News _ _ _ _ => wN2)
  refine zal wF2 wN2 ?wt2 ?wd2 (by passes_own)
  case wt2 =>
   k_extra "aC"
   all_goals (refine zai ?_; (try dsimp only); (with_reducible rename Fr _ _ _ _ => eF); (with_reducible rename News _ _ _ _ => eN); refine zaQ eF eN (by intro p hp; exact hp) ?_; first | rfl | exact absurd (by assumption) (e6 (by assumption) (by assumption)) | exact absurd (by assumption) (e7 (by assumption) (by assumption)))
  intro h8 tk8 F8 N8
  clear wF2 wN2
  k_extra "a"
  (with_reducible rename Fr _ _ _ _ => wF3)
  (with_reducible rename News _ _ _ _ => wN3)
  refine zal wF3 wN3 ?wt3 ?wd3 (by passes_own)
  case wt3 =>
   k_extra "aC"
   all_goals (refine zai ?_; (try dsimp only); (with_reducible rename Fr _ _ _ _ => eF); (with_reducible rename News _ _ _ _ => eN); refine zaQ eF eN (by intro p hp; exact hp) ?_; first | rfl | exact absurd (by assumption) (e6 (by assumption) (by assumption)) | exact absurd (by assumption) (e7 (by assumption) (by assumption)))
  intro h8 tk8 F8 N8
  clear wF3 wN3
  k_extra "M"
  (with_reducible rename Fr g' L' _ _ => zF)
  (with_reducible rename News g' L' _ _ => zN)
  (with_reducible rename _ < _ => l2)
  have l3 : @LT.lt Nat _ _ _ := l2
  (with_reducible rename _ /\ _ => l1)
  have hkp := zjI N hg' zF.keep (fun p hp => (zN p (.tail _ (.tail _ (.tail _ (.tail _ (.tail _ (.tail _ (.tail _ hp)))))))).1)
  have hz1 := (zN _ (.tail _ (.head _))).2.2
  have hz2 := (zN _ (.head _)).2.2
  dsimp only at hz1 hz2
  (refine cj11 (l1) ?_; clear l1; intro _ _ _ _ _ i1 i2 i3 i4 i5 i6)
  have hnd := zhC hg' hz1 (fc i1 (fc i2 (fc i3 (fc i4 (fc i5 (fc i6 (fn)))))))
  have hnx := zhC hg' hz2 (fc (Nat.lt_trans i1 l2) (fc (Nat.lt_trans i2 l2) (fc (Nat.lt_trans i3 l2) (fc (Nat.lt_trans i4 l2) (fc (Nat.lt_trans i5 l2) (fc (Nat.lt_trans i6 l2) (fn)))))))
  rw [show alo + (ahi - alo) = ahi by exact Nat.add_sub_of_le h1] at hbest9
  exact hret _ _ _ _ _ _ _ _ _ _ hkp hnx hnd (zN _ (.head _)).1 (zN _ (.tail _ (.head _))).1 hbest9
 case turn =>
  intro i k t c u h9 tk9 own hi hk hI hoff hrest F9 N9
  clear lF lN lR
  (refine cj6 (hI) ?_; clear hI; intro hod9 hfp9 hds9 htab9 hlen9 hbest9)
  k_extra "aP"
  have hoff9 := zb2 hoff
  k_extra "aa"
  simp only [List.forall_mem_cons] at hrest
  (refine cj11 (hrest) ?_; clear hrest; intro hr0 hr1 hr2 hr3 hr4 hr5 hr6 hr7 hr8 hr9 _)
  refine letF F9 ?_
  clear F9
  intro m9 F9
  replace N9 : News g' L' h9 _ := N9
  subst hk
  k_extra "aC"
  ·refine zai ?_
   k_extra "I"
   rename IntsAre _ (zap _ _) => lI
   rename Heap.IsList _ _ _ => lL
   obtain ⟨xx, hxe⟩ : ∃ x, x = as.getD ((alo : Int) + (i : Int)).toNat 0 := ⟨_, rfl⟩
   rw [<- hxe] at lI
   have hx : as[alo + i]? = some xx := by
    rw [hxe, show ((alo : Int) + (i : Int)).toNat = alo + i by exact Eq.symm (Nat.add_zero (alo.add i)), List.getD_eq_getElem?_getD, List.getElem?_eq_getElem (by lia)]
    rfl
   refine' zno (σ := FI)
    (fun c => [(Str.ofString "besti", .int c.bi c.t1), (Str.ofString "bestj", .int c.bj c.t2), (Str.ofString "bestsize", .int c.bk c.t3)])
    (fun c => [(_, c.o)]) [Str.ofString "k"] (InvI PySem.Challenge.rw_rt0114_02.row.prog w as bs alo blo bhi i xx) (BrkI PySem.Challenge.rw_rt0114_02.row.prog w as bs alo blo bhi i xx) (FI.mk c.bi c.bj c.bk c.t1 c.t2 c.t3 _ [] []) (by rfl) lL lI lF lN ?ho2 ?hk2 ?hi2 ?turn2 ?done2
   case ho2 =>
    (with_reducible rename _ < _ /\ _ < _ /\ AllLt _ own => lD)
    exact zaz (fc (Nat.ne_of_lt lD.1) (fc (Nat.ne_of_lt lD.2.1) (by with_reducible assumption)))
   case hk2 => exact fc rfl (fc rfl (fc rfl (fn)))
   case hi2 => exact zex (by assumption) hbest9
   case done2 =>
    intro c2 u2 h8 tk8 hI2 hoff2 F8 N8
    clear lF lN
    k_extra "aA"
    refine letF F8 ?_
    clear F8
    intro m9 F8
    replace N8 : News g' L' h8 _ := N8
    k_extra "x"
    refine' zaa (FO.mk c2.bi c2.bj c2.bk c2.t1 c2.t2 c2.t3 _ c2.o c2.kvs c2.D) eF eN (za3 (by k_mem)) (by (intro p hp; repeat (first | exact hp | refine List.Mem.tail _ ?_))) (zaz (by with_reducible assumption)) ?ek ?ez ?ei
    case ei => exact zgh hx h4 hI2 (by with_reducible assumption)
    case ek => exact fc rfl (fc rfl (fc rfl (fc rfl (fn))))
    case ez =>
     k_extra "K"
     (refine cj5 (z2) ?_; clear z2; intro y1 y2 y3 y4 _)
     have y5 := zbc z3 (a := Str.ofString "j2lenget") (by simp)
     have y6 := zbc z3 (a := Str.ofString "newj2len") (by simp)
     have y7 := zbc z3 (a := Str.ofString "j") (by simp)
     have y8 := zbc z3 (a := Str.ofString "k") (by simp)
     have y9 := ziv y8
     k_extra "k"
   case turn2 =>
    intro q j t2 c2 u2 h8 tk8 own2 hq hI2 hoff2 hrest2 F8 N8
    clear lF lN hmk
    have hI3 := hI2
    (refine cj5 (hI3) ?_; clear hI3; intro hod8 hfp8 _ hlen8 _)
    have hmk2 : OwnMark own2 := ⟨⟩
    have hoff8 := zb2 hoff2
    clear hoff2
    simp only [List.cons_append, List.nil_append] at N8 hrest2
    simp only [List.forall_mem_cons] at hrest2
    (refine cj3 (hrest2) ?_; clear hrest2; intro hs0 hs1 hs2)
    refine letF F8 ?_
    clear F8
    intro m9 F8
    replace N8 : News g' L' h8 _ := N8
    have hlen7 : c2.D.length < 1000000 := by
     have := zb9 bs xx
     have := (List.getElem?_eq_some_iff.mp hq).1
     lia
    k_extra "aC"
    ·refine zai ?_
     k_extra "c"
     refine' zgW c2 eF eN (za3 (by k_mem)) (by (intro p hp; repeat (first | exact hp | refine List.Mem.tail _ ?_))) (zaz hoff8) ?ek ?ez ?ei
     case ei => exact zjq hI2 hq (by omega)
     k_extra "aG"
     case ez =>
      k_extra "v"
    ·refine zai ?_
     k_extra "c"
     refine' ziW c2 eF eN (za3 (by k_mem)) (by (intro p hp; repeat (first | exact hp | refine List.Mem.tail _ ?_))) (zaz hoff8) ?ek ?ez ?ei
     case ei => exact znO hI2 hq (by omega)
     k_extra "aG"
     case ez =>
      k_extra "v"
    ·rename Obj.IsDictOf (PySem.intKind _ _) _ (stored _ _ _) => hd7
     rename PyProof.V.FlatPairs _ (stored _ _ _) _ => hf7
     k_extra "E"
     k_extra "c"
     refine' zaa (FI.mk _ _ _ _ _ _ _ _ _) eF eN (za3 (by k_mem)) (by (intro p hp; repeat (first | exact hp | refine List.Mem.tail _ ?_))) (zaz hoff8) ?ek ?ez ?ei
     case ei => exact (zkP hI2 hx hq (by lia) (by lia) rfl hd7 hf7).1 (by omega)
     case ek =>
      refine fc ?_ (fc ?_ (fc ?_ (fn)))
      all_goals (dsimp only; (repeat rw [if_neg (by decide)]); first | done | (rw [if_pos rfl]) | skip)
      all_goals (try exact rfl)
     case ez =>
      k_extra "v"
    ·rename Obj.IsDictOf (PySem.intKind _ _) _ (stored _ _ _) => hd7
     rename PyProof.V.FlatPairs _ (stored _ _ _) _ => hf7
     k_extra "E"
     k_extra "c"
     refine' zaa (FI.mk c2.bi c2.bj c2.bk c2.t1 c2.t2 c2.t3 _ _ _) eF eN (za3 (by k_mem)) (by (intro p hp; repeat (first | exact hp | refine List.Mem.tail _ ?_))) (zaz hoff8) ?ek ?ez ?ei
     case ei => exact (zkP hI2 hx hq (by lia) (by lia) rfl hd7 hf7).2 (by omega)
     k_extra "aG"
     case ez =>
      k_extra "v"
  ·refine zai ?_
   k_extra "I"
   refine zjy rfl lF lN (by k_mem) ?_
   intro h8 tk8 F8 N8
   clear lF lN
   rename zap _ _ = [] => hnil
   obtain ⟨xx, hxe⟩ : ∃ x, x = as.getD ((alo : Int) + (i : Int)).toNat 0 := ⟨_, rfl⟩
   rw [<- hxe] at hnil
   have hx : as[alo + i]? = some xx := by
    rw [hxe, show ((alo : Int) + (i : Int)).toNat = alo + i by exact Eq.symm (Nat.add_zero (alo.add i)), List.getD_eq_getElem?_getD, List.getElem?_eq_getElem (by lia)]
    rfl
   rename Obj.IsDictOf (PySem.intKind _ _) _ [] => hE
   k_extra "M"
   ·refine zai ?_
    k_extra "c"
    refine' zaa (FO.mk c.bi c.bj c.bk c.t1 c.t2 c.t3 _ _ _ _) eF eN (za3 (by k_mem)) (by (intro p hp; repeat (first | exact hp | refine List.Mem.tail _ ?_))) (zaz (by with_reducible assumption)) ?ek ?ez ?ei
    case ei => exact zgh (c := FI.mk c.bi c.bj c.bk c.t1 c.t2 c.t3 _ [] []) hx h4 (.inl (by rw [hnil]; exact zex hE hbest9)) (by with_reducible assumption)
    case ek => exact fc rfl (fc rfl (fc rfl (fc rfl (fn))))
    case ez =>
     k_extra "K"
     (refine cj5 (z2) ?_; clear z2; intro y1 y2 y3 y4 _)
     have y5 := zbc z3 (a := Str.ofString "j2lenget") (by simp)
     have y6 := zbc z3 (a := Str.ofString "newj2len") (by simp)
     have y7 := zbc z3 (a := Str.ofString "j") (by simp)
     have y8 := zbc z3 (a := Str.ofString "k") (by simp)
     have y9 := ziv y8
     k_extra "k"
theorem za9 {α : Type} [DecidableEq α] : ∀ {l l' : List α}, l.Nodup -> (∀ x ∈ l, x ∈ l') -> l.length <= l'.length
 | [], _, _, _ => Nat.zero_le _
 | a :: l, l', hn, hs => by
  have hn' := List.nodup_cons.mp hn
  have h := za9 (l := l) (l' := l'.erase a) hn'.2 fun x hx => (List.mem_erase_of_ne (fun (e : x = a) => hn'.1 (by rw [<- e]; exact hx))).mpr (hs x (.tail _ hx))
  have h2 := List.length_erase_of_mem (hs a (.head _))
  have h3 := List.length_pos_of_mem (hs a (.head _))
  rw [List.length_cons]
  lia
noncomputable def rleB (r s : Run) : Bool := @decide (¬ rlt s r) (Classical.propDecidable _)
theorem zeH (l : List Run) (hn : l.Nodup) : ∃ S : List Run, S.Perm l /\ S.Pairwise rlt := by
 refine ⟨l.mergeSort rleB, List.mergeSort_perm _ _, zc8 ((List.mergeSort_perm _ _).symm.nodup hn) ?_⟩
 refine (List.pairwise_mergeSort (le := rleB) ?_ ?_ l).imp fun {a b} h => @of_decide_eq_true _ (Classical.propDecidable _) h
 ·intro a b c h1 h2
  have h1 := @of_decide_eq_true _ (Classical.propDecidable _) h1
  have h2 := @of_decide_eq_true _ (Classical.propDecidable _) h2
  exact @decide_eq_true _ (Classical.propDecidable _) fun h => (zh9 a b).elim (fun q => h2 (zhL h q)) fun q => q.elim (fun q => h2 (q ▸ h)) h1
 ·intro a b
  rw [Bool.or_eq_true]
  exact (Classical.em (rlt b a)).elim (fun h => .inr (@decide_eq_true _ (Classical.propDecidable _) (zaK h))) fun h => .inl (@decide_eq_true _ (Classical.propDecidable _) h)
theorem zcV {S S' : List Run} (p : S.Perm S') (h : S.Pairwise rlt) (h' : S'.Pairwise rlt) : S = S' :=
 List.Perm.eq_of_pairwise (fun _ _ _ _ h h' => (zaK h h').elim) h h' p
theorem zdk {l : List Run} (h : l.Nodup) : (l.map zb4).Nodup := by
 unfold List.Nodup at h ⊢
 k_extra "aO"
 refine h.imp fun {a b} h1 e => h1 ?_
 have e1 := congrArg (·.1) e
 have e2 := congrArg (·.2.1) e
 have e3 := congrArg (·.2.2) e
 refine bc fun hG9 => ?_; obtain ⟨k, i, j⟩ := a; refine hG9 ?_; clear hG9
 refine bc fun hG9 => ?_; obtain ⟨k', i', j'⟩ := b; refine hG9 ?_; clear hG9
 simp only [zb4] at e1 e2 e3
 rw [e1, e2, e3]
theorem zaM {as bs : List Int} {S : List Run} (h : Runs as bs S) (ha : as.length <= 6) : (zab S).length < 64 /\ (zab S).Nodup := by
 (refine cj3 (zaN S.length S (Nat.le_refl _) h.1) ?_; intro g1 g2 _)
 have hr : ∀ x ∈ zab S, IsRun as bs x := fun x hx => (h.2 x).mp (g1 x hx)
 have hp : ((zab S).map (·.2.1)).Nodup := by
  unfold List.Nodup
  k_extra "aO"
  refine List.Pairwise.imp_of_mem (fun {a b} ha hb hab e => ?_) g2
  have q := zag.mp hab
  have k1 := (hr a ha).1
  have k2 := (hr b hb).1
  lia
 have hl : (zab S).length <= as.length := by
  have := za9 (l' := List.range as.length) hp fun x hx => by
   k_extra "l"
   k_extra "1"
   have k1 := (hr y hy).1
   have k2 := (hr y hy).2
   rw [List.mem_range]
   lia
  rwa [List.length_map, List.length_range] at this
 refine ⟨by lia, ?_⟩
 unfold List.Nodup at hp ⊢
 rw [List.pairwise_map] at hp
 exact hp.imp fun {a b} h e => h (by rw [e])
noncomputable def lcp (a : List Nat) : List Nat -> Nat := List.rec (fun _ => 0) (fun x _ ih l => List.rec 0 (fun y q _ => if x = y then ih q + 1 else 0) l) a
theorem zoF (k : Nat) : ∀ (a b : List Nat), k <= a.length -> k <= b.length -> (∀ q, q < k -> a[q]? = b[q]?) -> k <= lcp a b := by
 induction k with
 | zero => exact fun _ _ _ _ _ => Nat.zero_le _
 | succ k ih =>
  intro a b h1 h2 h
  cases a with
  | nil => exact absurd h1 (Nat.not_succ_le_zero _)
  | cons x a => cases b with
   | nil => exact absurd h2 (Nat.not_succ_le_zero _)
   | cons y b =>
    show k + 1 <= if x = y then lcp a b + 1 else 0
    rw [if_pos (Option.some.inj (h 0 (Nat.succ_pos _)))]
    exact Nat.succ_le_succ (ih a b (Nat.le_of_succ_le_succ h1) (Nat.le_of_succ_le_succ h2) fun q hq => h (q + 1) (Nat.succ_lt_succ hq))
noncomputable def zdL (a b : List Nat) : List Run := (List.range a.length).flatMap fun i => (List.range b.length).flatMap fun j => (List.range (lcp (a.drop i) (b.drop j))).map fun q => (q + 1, i, j)
noncomputable def zfY (a b : List Nat) : Nat := ((List.range a.length).map fun i => ((List.range b.length).map fun j => lcp (a.drop i) (b.drop j)).sum).sum
theorem ze2 (a b : List Nat) : (zdL a b).length = zfY a b := by
 unfold zdL zfY
 rw [List.length_flatMap]
 refine congrArg _ (List.map_congr_left fun i _ => ?_)
 rw [List.length_flatMap]
 refine congrArg _ (List.map_congr_left fun j _ => ?_)
 rw [List.length_map, List.length_range]
noncomputable def zeA (x : Int) : Nat := if x = 65 then 0 else if x = 81 \/ x = 119 then 1 else 2
theorem zod {as bs : List Int} {r : Run} (h : IsRun as bs r) : r ∈ zdL (as.map zeA) (bs.map zeA) := by
 refine bc fun hG9 => ?_; obtain ⟨k, i, j⟩ := r; refine hG9 ?_; clear hG9
 refine bc fun hG9 => ?_; obtain ⟨h1, h2, h3, h4⟩ := h; refine hG9 ?_; clear hG9
 dsimp only at h1 h2 h3 h4
 unfold zdL
 refine List.mem_flatMap.mpr ⟨i, List.mem_range.mpr (by rw [List.length_map]; lia), List.mem_flatMap.mpr ⟨j, List.mem_range.mpr (by rw [List.length_map]; lia), List.mem_map.mpr ⟨k - 1, List.mem_range.mpr ?_, ?_⟩⟩⟩
 ·have := zoF k ((as.map zeA).drop i) ((bs.map zeA).drop j) (by rw [List.length_drop, List.length_map]; exact Nat.le_sub_of_add_le' h2) (by rw [List.length_drop, List.length_map]; exact Nat.le_sub_of_add_le' h3) fun q hq => by
   rw [List.getElem?_drop, List.getElem?_drop, List.getElem?_map, List.getElem?_map, h4 q hq]
  exact Nat.sub_one_lt_of_le h1 this
 ·rw [show k - 1 + 1 = k by exact Nat.sub_add_cancel h1]
theorem zfo {as bs : List Int} (h64 : as.length <= 64) : (zae as bs).length <= zfY (as.map zeA) (bs.map zeA) := by
 rw [<- ze2]
 exact za9 (zao h64) fun r hr => zod ((za0 h64).mp hr)
section
variable {P : Params} {x : Addr} {nn : Nat}
theorem zk4 {it t : Addr} {ol : Obj} (hdl : ol.data = .seq items nn) (hne : t ≠ it) : ∀ (n i : Nat) (s : Shared) (Q : List Value -> Shared -> Prop), s.heap.IsTupleIter it t i -> s.heap.get? t = some ol -> i + n <= items.size ->
  (∀ h', h'.IsTupleIter it t (i + n) -> Heap.SameBut it s.heap h' -> Q ((items.toList.drop i).take n) { s with heap := h' }) -> wpAny (model prog w) A (draw (.ref it) n) Q E s
 | 0, i, s, Q, hit, _, _, hQ => by
  show wpAny _ _ (pure []) Q E s
  exact wpAny_pure (by simpa using hQ s.heap hit (Heap.SameBut.refl ..))
 | n + 1, i, s, Q, hit, ht, hle, hQ => by
  have hlt : i < items.size := by exact Nat.lt_of_add_right_lt hle
  show wpAny _ _ (pyNext (.ref it) >>= _) Q E s
  refine wpAny_bind (zdm hit ht hdl (x := items[i]) (by simp [hlt]) fun h₁ hit₁ hs₁ => ?_)
  refine wpAny_bind (wpAny_holding (zk4 hdl hne n (i + 1) _ _ hit₁ (hs₁.extBut t _ hne ht) (by lia) fun h₂ hit₂ hs₂ => wpAny_pure ?_))
  have hd : items.toList.drop i = items[i] :: items.toList.drop (i + 1) := by simp [List.drop_eq_getElem_cons, hlt]
  have := hQ h₂ (by rw [show i + (n + 1) = i + 1 + n by exact Eq.symm (Nat.succ_add_eq_add_succ i n)]; exact hit₂) (hs₁.trans hs₂)
  rw [hd, List.take_succ_cons] at this
  exact this
theorem zjU {Q : List Value -> Shared -> Prop} (hh : A.handled = none) (X : (K P).In s.heap) (hx : s.heap.get? x = some ox) (hc : ox.cls = .ref 135) (hd : ox.data = .seq items nn)
  (hQ : ∀ h', (∀ b o, s.heap.get? b = some o -> h'.get? b = some o) -> Q items.toList { s with heap := h' }) : wpAny (model prog w) A (unpackItems (.ref x) items.size none) Q E s := by
 have hlt : x ≠ s.heap.objs.size := Nat.ne_of_lt (Heap.lt_size hx)
 unfold unpackItems
 k_extra "5"
 unfold notIterableAtAll
 refine wpAny_bind ((zhw (M := model prog w) X hx hc).here ?_)
 k_extra "W"
 rw [if_neg (by decide)]
 refine wpAny_bind (wpAny_holding (zdx X hx hc ?_))
 refine wpAny_bind (wpAny_holding (zk4 hd hlt items.size 0 _ _ ⟨_, Heap.get?_push_size _ rfl, rfl, rfl⟩ (Heap.get?_push_of_some _ hx) (by lia) fun h₁ hit₁ hs₁ => ?_))
 have hall : List.take items.size (List.drop 0 items.toList) = items.toList := by
  rw [List.drop_zero]; exact List.take_of_length_le (by simp)
 rw [hall]
 rw [if_neg (by simp)]
 have ht₁ : h₁.get? x = some ox := hs₁.extBut x _ hlt (Heap.get?_push_of_some _ hx)
 refine wpAny_bind (wpAny_holding (zey hh hit₁ ht₁ hd (by simp) fun h₂ he₂ => ?_))
 rw [if_neg (by decide)]
 refine wpAny_pure (hQ h₂ fun b o e => ?_)
 have hb : b ≠ s.heap.objs.size := Nat.ne_of_lt (Heap.lt_size e)
 exact he₂ b o hb (hs₁.extBut b o hb (Heap.get?_push_of_some _ e))
theorem zd5 {a b c : Str} {pa pb pc tp : Pos} {x1 : Nat} {d : Addr} {i j k : Int} {t u z : Tok} {R : Unit -> Shared -> Prop} (hh : A.handled = none) (F : Fr h₀ L s.heap m) (X : (K P).In h₀) (N : News h₀ L s.heap news)
  (hm : (x, matchObj d i t j u k z) ∈ news)
  (h : ∀ h', Fr h₀ L h' m -> News h₀ L h' news -> wpAny (model prog w) A (assign (.Name a pa) env (.int i t)) (fun _ s₁ => wpAny (model prog w) A (assign (.Name b pb) env (.int j u)) (fun _ s₂ => wpAny (model prog w) A (assign (.Name c pc) env (.int k z)) R E s₂) E s₁) E { s with heap := h' }) :
  wpAny (model prog w) A (assign (.Tuple [.Name a pa, .Name b pb, .Name c pc] x1 tp) env (.ref x)) R E s := by
 rw [arm_assign_Tuple]
 refine wpAny_bind (wpAny_standAt ?_)
 unfold unpack
 have hx := (N _ hm).1
 refine wpAny_bind (wpAny_holding (zjU (items := #[.int i t, .int j u, .int k z]) hh (X.keeps F.keep) hx rfl rfl fun h₃ keep => ?_))
 have hw := h h₃ (zei F keep) (zbK N keep)
 show wpAny _ A (do holding [Value.int j u, Value.int k z] (assign (.Name a pa) env (Value.int i t)); do holding [Value.int k z] (assign (.Name b pb) env (Value.int j u)); do holding [] (assign (.Name c pc) env (Value.int k z)); pure ()) _ _ _
 refine wpAny_bind (wpAny_holding (wpAny_mono hw (fun _ _ h1 => wpAny_bind (wpAny_holding (wpAny_mono h1 (fun _ _ h2 => wpAny_bind (wpAny_holding (wpAny_mono h2 (fun _ _ h3 => wpAny_pure h3) fun _ _ e => e))) fun _ _ e => e))) fun _ _ e => e))
end
inductive MatAll (news : List (Addr × Obj)) : List Value -> List Run -> Prop
 | nil : MatAll news [] []
 | cons {x d : Addr} {t u z : Tok} {k i j : Nat} {vs : List Value} {rs : List Run} : (x, matchObj d (i : Int) t (j : Int) u (k : Int) z) ∈ news -> MatAll news vs rs -> MatAll news (.ref x :: vs) ((k, i, j) :: rs)
section
variable {news' : List (Addr × Obj)}
theorem MatAll.length {vs : List Value} {rs : List Run} (h : MatAll news vs rs) : vs.length = rs.length := by
 induction h with
 | nil => rfl
 | cons _ _ ih => exact congrArg (· + 1) ih
theorem MatAll.mono (hs : ∀ p ∈ news, p ∈ news') : ∀ {vs : List Value} {rs : List Run}, MatAll news vs rs -> MatAll news' vs rs
 | _, _, .nil => .nil
 | _, _, .cons h r => .cons (hs _ h) (r.mono hs)
theorem MatAll.append {ws : List Value} {ss : List Run} (k : MatAll news ws ss) : ∀ {vs : List Value} {rs : List Run}, MatAll news vs rs -> MatAll news (vs ++ ws) (rs ++ ss)
 | _, _, .nil => k
 | _, _, .cons h r => .cons h (MatAll.append k r)
theorem MatAll.at : ∀ {vs : List Value} {rs : List Run} {i : Nat} {r : Run}, MatAll news vs rs -> rs[i]? = some r -> ∃ x d t u z, vs[i]? = some (.ref x) /\ (x, matchObj d (r.2.1 : Int) t (r.2.2 : Int) u (r.1 : Int) z) ∈ news := by
 intro vs rs i r h
 induction h generalizing i with
 | nil => intro e; cases e
 | cons h _ ih =>
  intro e
  cases i with
  | zero =>
   cases e
   exact ⟨_, _, _, _, _, rfl, h⟩
  | succ i => exact ih (i := i) e
theorem MatAll.pick {vs : List Value} {rs : List Run} (h : MatAll news vs rs) : ∀ (l : List Nat), (∀ i ∈ l, i < rs.length) -> MatAll news (l.map fun i => vs.getD i Value.none) (l.map fun i => rs.getD i (0, 0, 0))
 | [], _ => .nil
 | i :: l, hl => by
  have hi := hl i (.head _)
  (refine zav (h.at (List.getElem?_eq_getElem hi)) ?_; intro x d t u z h1 h2)
  have e1 : vs.getD i Value.none = .ref x := by rw [List.getD_eq_getElem?_getD, h1]; rfl
  have e2 : rs.getD i (0, 0, 0) = rs[i] := by rw [List.getD_eq_getElem?_getD, List.getElem?_eq_getElem hi]; rfl
  rw [List.map_cons, List.map_cons, e1, e2]
  exact .cons h2 (MatAll.pick h l fun j hj => hl j (.tail _ hj))
end
section
variable {P : Params} 
theorem lt135 {h : Heap} {x : Addr} (X : (K P).In h) (hx : h.get? x = some ox) (hc : ox.cls = .ref 135) : Looks M h (specialOf (.ref x) "__lt__") (some (.builtin "tuple.__lt__")) := (zcc hx hc).andThen (looks_findIn X (by kernel_rfl))
theorem zjW : builtinKind "tuple.__lt__" = some .slot := by decide +kernel
theorem zi0 : splitId "tuple.__lt__" = some ("tuple", "__lt__") := by decide +kernel
theorem zjT {x y : Addr} {oy : Obj} {xs ys : List Value} {n k : Nat} {as bs : List Int} {C : Bool -> Shared -> Prop} (hu : A.units < cLine) (X : (K P).In s.heap) (hx : s.heap.get? x = some ox) (hc : ox.cls = .ref 135) (dx : ox.data = .seq xs.toArray n) (hy : s.heap.get? y = some oy) (hcy : oy.cls = .ref 135) (dy : oy.data = .seq ys.toArray k)
  (hi : IntsAre xs as) (hj : IntsAre ys bs) (h : C (llt as bs) s) : wpAny (model prog w) A (keyLt' oneType' (.ref x) (.ref y)) C E s := by
 rw [keyLt'_oneType, oneLt'_eq]
 rw [if_pos rfl]
 refine wpAny_bind (wpAny_cRoomFor hu ?_)
 have l1 := lt135 (M := model prog w) X hx hc
 k_extra "aE"
 have i2 := zhZ (M := model prog w) X hy hcy
 k_extra "5"
 unfold callSpecialIfBound? bindSpecialIfBound?
 refine wpAny_holding (wpAny_bind (wpAny_bind (l1.here ?_)))
 dsimp only
 rw [F.slot_tuple_lt.bind]
 have fin : ∀ (Q' : Option Value -> Shared -> Prop), Q' (some (.bool (llt as bs))) s -> wpAny (model prog w) A (call (.builtin "tuple.__lt__") [.ref x, .ref y] >>= fun v => pure (some v)) Q' E s := fun Q' hq =>
  wpAny_bind (wpAny_call (zb0 F.slot_tuple_lt.plain F.entry_tuple_lt zjW zi0 i1 (F.args_tuple_lt_2 _ _) (zc6 hx dx hy dy (fun R hR => i2.here hR) hi hj (wpAny_pure hq))))
 refine wpAny_bind (wpAny_askSetting (wpAny_ite ?_))
 have fin2 := fin (fun a s' => wpAny (model prog w) A (match a with
      | some Value.notImplemented => do
       rule "list.sort.lt-declined"
       let r <- richCompare CmpOp.Lt (Value.ref x) (Value.ref y)
       truthOfDropped r
      | none => do
       rule "list.sort.lt-declined"
       let r <- richCompare CmpOp.Lt (Value.ref x) (Value.ref y)
       truthOfDropped r
      | some r => truthOfDropped r) C E s') (wpAny_truthy_bool h)
 split
 ·exact wpAny_bind (wpAny_pure (wpAny_pure fin2))
 ·exact wpAny_tryCatch (wpAny_bind (wpAny_pure (wpAny_pure fin2)))
theorem zh7 {h : Heap} (N : News h₀ L h news) : ∀ {vs : List Value} {rs : List Run}, MatAll news vs rs -> ∀ v ∈ vs, ∃ x o, v = .ref x /\ h.get? x = some o /\ o.cls = .ref 135
 | _, _, .nil, _, hv => nomatch hv
 | _, _, .cons h r, v, hv => by
  rcases List.mem_cons.mp hv with rfl | hv
  ·exact ⟨_, _, rfl, (N _ h).1, rfl⟩
  ·exact zh7 N r v hv
theorem zjE {vs : List Value} {rs : List Run} (hu : A.units < cLine) (X : (K P).In s.heap) (N : News h₀ L s.heap news) (D : MatAll news vs rs) {i j : Nat} {C : Bool -> Shared -> Prop} (hi : i < rs.length) (hj : j < rs.length) (h : C (llt (bl (rs.getD i (0, 0, 0))) (bl (rs.getD j (0, 0, 0)))) s) : kas_ask prog w A oneType' vs i j C s := by
 unfold kas_ask
 (refine zav (D.at (List.getElem?_eq_getElem hi)) ?_; intro x d t u z h1 h2)
 (refine zav (D.at (List.getElem?_eq_getElem hj)) ?_; intro x' d' t' u' z' h1' h2')
 have e1 : vs.getD i Value.none = .ref x := by rw [List.getD_eq_getElem?_getD, h1]; rfl
 have e2 : rs.getD i (0, 0, 0) = rs[i] := by rw [List.getD_eq_getElem?_getD, List.getElem?_eq_getElem hi]; rfl
 have e1' : vs.getD j Value.none = .ref x' := by rw [List.getD_eq_getElem?_getD, h1']; rfl
 have e2' : rs.getD j (0, 0, 0) = rs[j] := by rw [List.getD_eq_getElem?_getD, List.getElem?_eq_getElem hj]; rfl
 rw [e2, e2'] at h
 rw [e1, e1']
 exact zjT (xs := [.int _ t, .int _ u, .int _ z]) (ys := [.int _ t', .int _ u', .int _ z']) hu X (N _ h2).1 rfl rfl (N _ h2').1 rfl rfl (.cons _ _ (.cons _ _ (.cons _ _ .nil))) (.cons _ _ (.cons _ _ (.cons _ _ .nil))) h
theorem zgF {vs : List Value} {rs : List Run} {Pr : List Value -> Prop} (hu : A.units < cLine) (X : (K P).In s.heap) (N : News h₀ L s.heap news) (D : MatAll news vs rs) (nd : rs.Nodup) (h64 : rs.length < 64)
  (hP : ∀ (ws : List Value) (S : List Run), S.Perm rs -> S.Pairwise ble -> MatAll news ws S -> Pr ws) : zcl prog w A vs Pr s := by
 have hlen : vs.length = rs.length := D.length
 by_cases h2 : 2 <= rs.length
 ·unfold zcl
  k_extra "ai"
  rw [if_neg hz, if_neg hz]
  refine kas_kind (T := .ref 135) (vs := vs) (by exact le_of_le_of_eq h2 (id (Eq.symm hlen))) (fun v hv => ?_) (by decide) (by decide) ?_
  ·refine bc fun hG9 => ?_
   (refine zeK (zh7 N D v hv) ?_; intro x o q92 hx hc; subst q92)
   k_extra "e"
   exact zcc hx hc
  ·refine wpAny_mono (kat_run (ks := vs) (vs := vs) (Q := fun st' s' => s' = s /\ (∃ out, Pr out /\ (arrOf st').map (·.2) = out.toArray) /\ failedOf st' = none) (G := fun p s' => s' = s /\ PermN p vs.length /\ Rise (fun i j => llt (bl (rs.getD i (0, 0, 0))) (bl (rs.getD j (0, 0, 0)))) p vs.length) rfl (by exact le_of_le_of_eq h2 (id (Eq.symm hlen))) (by exact lt_of_eq_of_lt hlen h64) (fun p st' s' hp har hf hG => ?_) ?_) (fun _ _ q => q) fun _ _ q => q
   ·refine bc fun hG9 => ?_
    (refine cj3 (hG) ?_; clear hG; intro q90 g1 g2; subst q90)
    k_extra "e"
    rw [hlen] at g1 g2
    (refine cj2 (zeS (lt := fun r s => llt (bl r) (bl s)) (d := (0, 0, 0)) g1 g2) ?_; intro s1 s2)
    exact ⟨rfl, ⟨_, hP _ _ s1 (s2.imp fun h => zm4 h) (D.pick _ fun i hi => List.mem_range.mp (g1.mem_iff.mp hi)), kat_snds rfl har⟩, hf⟩
   ·rw [hlen]
    exact zfb (c := fun i j => llt (bl (rs.getD i (0, 0, 0))) (bl (rs.getD j (0, 0, 0)))) (n := rs.length) (fun i j C hi hj hC => zjE hu X N D hi hj hC) (zga (zmc (lt := fun r s => llt (bl r) (bl s)) (fun a b c _ _ _ => zbT _ _ _) (fun a b _ _ hne => zcv _ _ fun e => hne (zhV e)) nd) h2) fun p q => ⟨rfl, q.1, q.2⟩
 ·refine zdb (by lia) (hP vs rs (List.Perm.refl _) ?_ D)
  match rs, h2 with
  | [], _ => exact .nil
  | [_], _ => exact List.pairwise_singleton _ _
  | _ :: _ :: _, h => exact absurd (by simp) h
end
example : True := by
 k_with "call builtin:len" => (refine hold ?_)
 trivial
theorem zgT {P : Params} {x d : Addr} {i j k : Int} {t u z : Tok} {Q : Value -> Shared -> Prop} (X : (K P).In s.heap) (hx : s.heap.get? x = some (matchObj d i t j u k z))
  (h : Q (.int 3 (s.toks + 1)) { s with toks := s.toks + 1 + 1 }) : wpAny (model prog w) A (call (.builtin "len") [.ref x]) Q E s := zeQ X hx rfl rfl (by simp) h
theorem zhG {loose : List Str} {mb : Str -> Option Value}
  {cs : Scope} {a : Addr} {R : Result -> Shared -> Prop} 
  (B : Below A₀ base outer h₀) (F : Fr h₀ L s.heap m) (X : (K w.params).In h₀) (N : News h₀ L s.heap news) (T : Top q loose mean mg mb h₀) (hk : cs.kind = .function)
  {T0 : Addr} {i j k : Int} {t u z : Tok} {n0 : Nat} (hT : (T0, ({ cls := .type "tuple", data := .seq #[.int i t, .int j u, .int k z] n0 } : Obj)) ∈ news) (hdp : dp + 20 < recursionLimit) (hun : un + 100 < cLine)
  (hret : ∀ x d h' tk', Fr h₀ L h' m -> News h₀ L h' ((x, matchObj d i t j u k z) :: (d, dictOf [] 0) :: news) -> (∀ p ∈ news, p.1 < d) -> d < x -> R (.ok (.ret (.ref x))) { s with heap := h', toks := tk' }) :
  codeAny (model PySem.Challenge.rw_rt0114_02.row.prog w) (ktrTop dp un gd cn cs L a ccd cl outer) (.call (.ref 89) ⟨[.ref 135, .ref T0], []⟩) R s := by
 revert X; k_fill; intro X
 k_dflt (refine' zaF B F X N T ?kA ?kF ?kK ?k6 ?k7 ?k8 ?k9 ?kB ?_ ?c2 ?c3 ?c4 ?c5; (case kA => exact rfl); (case kF => exact rfl); (case kK => assumption); (case k6 => k_is); (case k7 => k_is); (case k8 => ktr_room); (case k9 => first | exact BindsTo.of_eq rfl | exact binds_K (by k_in) rfl (by k_is) rfl rfl rfl); (case c5 => decide); (case kB => exact locs rfl); (case c2 => exact rfl); (case c3 => exact rfl); (case c4 => exact rfl); k_whole)
 k_extra "A"
 k_extra "b"
 refine zgT (X'.keeps wF.keep) (wN _ (.head _)).1 ?_
 k_extra "L"
 k_extra "r"
 refine hret _ _ _ _ kF kN ?_ ?_ <;> assumption
example : True := by
 k_with "9" => rcases List.mem_cons.mp hmem with q | hmem
 trivial
theorem zeX {x : Int} {e : Addr × List Value × Nat} : ∀ {l : List (Int × Addr × List Value × Nat)}, l.lookup x = some e -> (x, e) ∈ l
 | [], h => nomatch h
 | (y, f) :: l, h => by
  rw [List.lookup_cons] at h
  by_cases hy : (x == y) = true
  ·rw [hy] at h
   obtain rfl := eq_of_beq hy
   obtain rfl := Option.some.inj h
   exact .head _
  ·rw [Bool.eq_false_iff.mpr hy] at h
   exact .tail _ (zeX h)
structure SmR where
 dx : Addr
 db : Addr
 jk : Addr
 pp : Addr
 c : CB
 avs : List Value
 bvs : List Value
 na : Nat
 nb : Nat
 nd : Nat
 l2 : Bool
 t0 : Tok
 t1 : Tok
 t2 : Tok
 t3 : Tok
 t4 : Tok
 t5 : Tok
 t6 : Tok
 t7 : Tok
 t8 : Tok
 t9 : Tok
structure SmOk (w : World) (self la lb : Addr) (as bs : List Int) (r : SmR) : Prop where
 a8 : CBInv r.db PySem.Challenge.rw_rt0114_02.row.prog w bs bs.length r.c
 a9 : (r.db == sysModules) = false
 a10 : ∀ q ∈ r.c.ls.map CB.row, q.1 ≠ la
 a11 : ∀ q ∈ r.c.ls.map CB.row, q.1 ≠ lb
 a12 : IntsAre r.avs as
 a13 : IntsAre r.bvs bs
noncomputable def SmR.led (r : SmR) (w : World) (self la lb : Addr) : List (Addr × Obj) :=
 (self, instObj 242 r.dx) :: (r.dx, dictOf (smEs w.params r.t0 r.t1 r.t2 r.t3 r.t4 r.t5 r.t6 r.t7 r.t8 r.t9 (.ref la) (.ref lb) .none .none .none (.ref r.db) (.ref r.jk) (.ref r.pp)) r.nd) :: (la, W.listOf r.avs.toArray r.na) :: (lb, W.listOf r.bvs.toArray r.nb) :: (r.db, r.c.o) :: (r.jk, setObj r.l2) :: r.c.ls.map CB.row
noncomputable def Smat (w : World) (news : List (Addr × Obj)) (self la lb : Addr) (as bs : List Int) : Prop := ∃ r : SmR, SmOk w self la lb as bs r /\ ∀ p ∈ r.led w self la lb, p ∈ news
theorem znr {h : Heap} {self dx la lb db jk : Addr} {bs : List Int} {c : CB} {es : List DictEntry} {nd : Nat} {l2 : Bool} (N : News h₀ L h news) (hI : CBInv db prog w bs bs.length c)
  (hr : ∀ e ∈ c.ls, CB.row e ∈ news) (h1 : (self, instObj 242 dx) ∈ news) (h2 : (dx, dictOf es nd) ∈ news) (h3 : (jk, setObj l2) ∈ news) (ha : ∀ q ∈ c.ls.map CB.row, q.1 ≠ la) (hb : ∀ q ∈ c.ls.map CB.row, q.1 ≠ lb) :
  ∀ g : Heap, (∀ b o, b ∉ [self, dx, la, lb, db, jk] -> h.get? b = some o -> g.get? b = some o) -> B2J g bs c.kvs := by
 intro g hg x
 rw [hI.vals x]
 cases hl : c.ls.lookup x with
 | none => exact .inl ⟨rfl, hI.miss x hl⟩
 | some e =>
  have hm := zeX hl
  have hrow := (N _ (hr _ hm)).1
  have hin : CB.row (x, e) ∈ c.ls.map CB.row := List.mem_map_of_mem hm
  have hcl : ∀ {b : Addr} {o : Obj}, (b, o) ∈ news -> o.cls ≠ .type "list" -> e.1 ≠ b := fun {b o} hb' hc q => by
   have := (N _ hb').1
   rw [<- q] at this
   have e2 : h.get? e.1 = some (CB.row (x, e)).2 := hrow
   have this2 : h.get? e.1 = some o := this
   rw [e2] at this2
   obtain rfl := Option.some.inj this2
   exact hc rfl
  refine .inr ⟨e.1, e.2.1, rfl, ⟨_, hg e.1 _ ?_ hrow, rfl, e.2.2, rfl⟩, hI.nums _ hm⟩
  intro hmem
  k_extra "9"
  ·exact hcl h1 (by intro q; cases q) q
  k_extra "9"
  ·exact hcl h2 (by show Value.type "dict" ≠ _; decide) q
  k_extra "9"
  ·exact ha _ hin q
  k_extra "9"
  ·exact hb _ hin q
  k_extra "9"
  ·exact hI.off _ hm q
  ·exact hcl h3 (by show Value.type "set" ≠ _; decide) (List.mem_singleton.mp hmem)
theorem news6 {h : Heap} {p1 p2 p3 p4 p5 p6 : Addr × Obj} (N : News h₀ L h news) (a1 : p1 ∈ news) (a2 : p2 ∈ news) (a3 : p3 ∈ news) (a4 : p4 ∈ news) (a5 : p5 ∈ news) (a6 : p6 ∈ news) : News h₀ L h [p1, p2, p3, p4, p5, p6] :=
 fc (N _ a1) (fc (N _ a2) (fc (N _ a3) (fc (N _ a4) (fc (N _ a5) (fc (N _ a6) (fn))))))
theorem zix {loose : List Str} {mb : Str -> Option Value}
  {cs : Scope} {a : Addr} {Q : Value -> Shared -> Prop} 
  (B : Below A₀ base outer h₀) (F : Fr h₀ L s.heap m) (X : (K w.params).In h₀) (N : News h₀ L s.heap news) (T : Top Mine.q loose mean mg mb h₀) (hk : cs.kind = .function)
  {self la lb : Addr} {as bs : List Int} (M : Smat w news self la lb as bs) {alo ahi blo bhi : Nat} {u0 u1 u2 u3 : Tok} (h1 : alo <= ahi) (h2 : ahi <= as.length) (h3 : blo <= bhi) (h4 : bhi <= bs.length) (hsz : as.length < 1000000 /\ bs.length < 1000000)
  (hdp : dp + 20 < recursionLimit) (hun : un + 100 < cLine)
  (hret : ∀ x d h' tk' bi bj bk z1 z2 z3, Fr h₀ L h' m -> News h₀ L h' ((x, matchObj d bi z1 bj z2 bk z3) :: (d, dictOf [] 0) :: news) -> (∀ p ∈ news, p.1 ≠ x) -> (∀ p ∈ news, p.1 ≠ d) -> zaU as bs alo blo (fun i j => alo <= i /\ i < ahi /\ blo <= j /\ j < bhi) bi bj bk -> Q (.ref x) { s with heap := h', toks := tk' }) :
  wpAny (model PySem.Challenge.rw_rt0114_02.row.prog w) (ktrTop dp un gd cn cs L a ccd cl outer) (call (.ref 196) [.ref self, .int (alo : Int) u0, .int (ahi : Int) u1, .int (blo : Int) u2, .int (bhi : Int) u3]) Q E s := by
 k_extra "l"
 obtain ⟨r, ⟨a8, a9, a10, a11, a12, a13⟩, hl⟩ := M
 k_extra "e"
 have a1 := hl _ (.head _)
 have a2 := hl _ (.tail _ (.head _))
 have a3 := hl _ (.tail _ (.tail _ (.head _)))
 have a4 := hl _ (.tail _ (.tail _ (.tail _ (.head _))))
 have a5 := hl _ (.tail _ (.tail _ (.tail _ (.tail _ (.head _)))))
 have a6 := hl _ (.tail _ (.tail _ (.tail _ (.tail _ (.tail _ (.head _))))))
 have a7 : ∀ e ∈ r.c.ls, CB.row e ∈ news := fun e he => hl _ (.tail _ (.tail _ (.tail _ (.tail _ (.tail _ (.tail _ (List.mem_map_of_mem he)))))))
 have hB := znr (la := la) (lb := lb) N a8 a7 a1 a2 a6 a10 a11
 refine zjb B F X T hk (news6 N a1 a2 a3 a4 a5 a6) hB a9 a8.dict a12 a13 h1 h2 h3 h4 hsz hdp hun ?_
 intro x d h' tk' bi bj bk z1 z2 z3 hkeep hx hd ex ed hbest
 have N1 := zfJ F (zbK N hkeep) hd ed
 have N2 := zfJ F N1 hx ex
 exact hret x d h' tk' bi bj bk z1 z2 z3 (zei F hkeep) N2 (zh1 N hx) (zh1 N hd) hbest
abbrev Rect := Nat × Nat × Nat × Nat
noncomputable def rq (q : Rect) : List Int := [(q.1 : Int), (q.2.1 : Int), (q.2.2.1 : Int), (q.2.2.2 : Int)]
noncomputable def grq (S : List Run) (q : Rect) : List Run := gr S q.1 q.2.1 q.2.2.1 q.2.2.2
noncomputable def zaG (S : List Run) (qs : List Rect) : Nat := (qs.map fun q => 2 * (grq S q).length + 1).sum
theorem zas (S : List Run) (as bs : List Rect) : zaG S (as ++ bs) = zaG S as + zaG S bs := by
 unfold zaG
 rw [List.map_append, List.sum_append]
theorem zaE (S : List Run) (q : Rect) : zaG S [q] = 2 * (grq S q).length + 1 := by
 unfold zaG
 simp
theorem zeF (S : List Run) : ∀ qs : List Rect, qs.length <= zaG S qs
 | [] => Nat.zero_le _
 | q :: qs => by
  have h1 := zeF S qs
  have h2 := zas S [q] qs
  rw [zaE, List.singleton_append] at h2
  rw [List.length_cons, h2]
  lia
structure GC where
 qv : List Value
 qn : Nat
 mv : List Value
 mn : Nat
 tl : List (Addr × Obj)
 qs : List Rect
 mb : List Run
structure GI (la lb : Nat) (S : List Run) (qd md : Addr) (c : GC) : Prop where
 off : ∀ p ∈ c.tl, p.1 ≠ qd /\ p.1 ≠ md
 dq : DatAll c.tl c.qv (c.qs.map fun q => tdat (rq q))
 dm : MatAll c.tl c.mv c.mb
 ins : ∀ q ∈ c.qs, q.1 <= q.2.1 /\ q.2.1 <= la /\ q.2.2.1 <= q.2.2.2 /\ q.2.2.2 <= lb
 perm : (c.mb ++ c.qs.flatMap (grq S)).Perm (zab S)
 wk : zaG S c.qs <= 200
theorem zhY {v : Value} {a b c d : Int} (h : DatIn news v (tdat [a, b, c, d])) : ∃ x n t u w z, v = .ref x /\ (x, ({ cls := .type "tuple", data := .seq #[.int a t, .int b u, .int c w, .int d z] n } : Obj)) ∈ news :=
 (zaw h).elim fun x q => q.elim fun vs q => q.elim fun n q => (ints4 q.2.2).elim fun t e => e.elim fun u e => e.elim fun w e => e.elim fun z e => ⟨x, n, t, u, w, z, q.1, e ▸ q.2.1⟩
noncomputable def zbF (q : Rect) (i j k : Nat) : List Rect := (if q.1 < i /\ q.2.2.1 < j then [(q.1, i, q.2.2.1, j)] else []) ++ if i + k < q.2.1 /\ j + k < q.2.2.2 then [(i + k, q.2.1, j + k, q.2.2.2)] else []
section
variable {as bs : List Int} {S : List Run} {q : Rect}
theorem znR (h : Runs as bs S) {i j k : Nat} : (zbF q i j k).flatMap (grq S) = gr S q.1 i q.2.2.1 j ++ gr S (i + k) q.2.1 (j + k) q.2.2.2 := by
 unfold zbF
 rw [List.flatMap_append]
 congr 1
 ·split
  ·simp [grq]
  ·rw [zfO h (by lia)]; rfl
 ·split
  ·simp [grq]
  ·rw [zfO h (by lia)]; rfl
theorem ziS {i j k : Nat} (h : Runs as bs S) (hp : (grq S q).Perm ((k, i, j) :: (gr S q.1 i q.2.2.1 j ++ gr S (i + k) q.2.1 (j + k) q.2.2.2))) : zaG S (zbF q i j k) < zaG S [q] := by
 have h1 := hp.length_eq
 rw [List.length_cons, List.length_append] at h1
 rw [zaE]
 unfold zbF
 rw [zas]
 by_cases c1 : q.1 < i /\ q.2.2.1 < j <;> by_cases c2 : i + k < q.2.1 /\ j + k < q.2.2.2
 ·rw [if_pos c1, if_pos c2, zaE, zaE]
  unfold grq at h1 ⊢
  dsimp only
  lia
 ·rw [if_pos c1, if_neg c2, zaE]
  unfold grq at h1 ⊢
  dsimp only
  show _ + 0 < _
  lia
 ·rw [if_neg c1, if_pos c2, zaE]
  unfold grq at h1 ⊢
  dsimp only
  show 0 + _ < _
  lia
 ·rw [if_neg c1, if_neg c2]
  show 0 + 0 < _
  exact Nat.lt_of_sub_eq_succ rfl
end
theorem zgm {d : Dat} {ds : List Dat} {vs : List Value} (h : DatAll news vs (ds ++ [d])) : ∃ ws v, vs = ws ++ [v] /\ DatAll news ws ds /\ DatIn news v d := by
 induction ds generalizing vs with
 | nil => exact (zb7 h).elim fun v q => q.elim fun r q => ⟨[], v, by rw [q.1, zf0 q.2.2]; rfl, .nil, q.2.1⟩
 | cons a l ih => exact (zb7 h).elim fun v q => q.elim fun r q => (ih q.2.2).elim fun ws z => z.elim fun x z => ⟨v :: ws, x, by rw [q.1, z.1]; rfl, .cons q.2.1 z.2.1, z.2.2⟩
theorem gwk0 {as bs : List Int} {S : List Run} (h : Runs as bs S) (hg : (zab S).length < 64) : zaG S [(0, as.length, 0, bs.length)] <= 200 := by
 rw [zaE]
 unfold grq
 rw [zfR h]
 lia
theorem zpl {as bs : List Int} {S : List Run} (h : Runs as bs S) : ([] ++ [(0, as.length, 0, bs.length)].flatMap (grq S)).Perm (zab S) := by
 simp only [List.flatMap_cons, List.flatMap_nil, List.append_nil, List.nil_append]
 unfold grq
 rw [zfR h]
section
variable {D : Addr} {news' : List (Addr × Obj)} {n : Nat}
theorem zoB {ws : List Value} {v : Value} {Q : Value -> Shared -> Prop} (F : Fr h₀ L s.heap m) (N : News h₀ L s.heap news) (U : Upd D (W.listOf (ws ++ [v]).toArray n) (W.listOf ws.toArray (n + 1)) news news') (hz : ws.length <= 100000)
  (h : ∀ h', Fr h₀ L h' m -> News h₀ L h' news' -> Q v { s with heap := h' }) : wpAny (model prog w) A (call (.builtin "list.pop") [.ref D]) Q E s := by
 refine kl_pop F N (p := ws) (y := v) ?_ U ?_ h
 ·simpa using kpa_last v ws
 ·simp [sizeLine_eq]
  exact Nat.le_trans hz (Nat.le_of_lt (Nat.lt_succ_of_le (Nat.le_add_left 100000 16677214)))
theorem zdu {l : Addr} {us : List Value} {b : Bool} {Q : Bool -> Shared -> Prop} (N : News h₀ L s.heap news) (hm : (l, W.listOf us.toArray n) ∈ news) (hz : us.length <= 100000) (hb : b = true ↔ us ≠ [])
  (h : Q b { s with toks := s.toks + 1 + 1 }) : wpAny (model prog w) A (truthy (.ref l)) Q E s := by
 refine wpAny_truthy_list (zaf N hm) (by rw [List.size_toArray]; lia) ?_
 have e : (!us.toArray.isEmpty) = b := by
  cases us with
  | nil =>
   cases b with
   | false => rfl
   | true => exact absurd rfl (hb.mp rfl)
  | cons x r =>
   cases b with
   | false => exact absurd (hb.mpr (by simp)) (by simp)
   | true => rfl
 rw [e]
 exact h
end
section
variable {as bs : List Int} {S G : List Run} {qs' nq : List Rect} {mb : List Run} {alo ahi blo bhi i j k la lb : Nat} {qd md : Addr}
theorem zgx (h : Runs as bs S) (hgr : (gr S alo ahi blo bhi).Perm ((k, i, j) :: (gr S alo i blo j ++ gr S (i + k) ahi (j + k) bhi))) (hp : (mb ++ (qs' ++ [(alo, ahi, blo, bhi)]).flatMap (grq S)).Perm G) :
  ((mb ++ [(k, i, j)]) ++ (qs' ++ zbF (alo, ahi, blo, bhi) i j k).flatMap (grq S)).Perm G := by
 refine List.Perm.trans ?_ hp
 rw [List.flatMap_append, List.flatMap_append, znR h, List.append_assoc]
 refine List.Perm.append_left mb ?_
 have e : [(alo, ahi, blo, bhi)].flatMap (grq S) = gr S alo ahi blo bhi := by simp [grq]
 rw [e]
 have h2 : ((k, i, j) :: (qs'.flatMap (grq S) ++ (gr S alo i blo j ++ gr S (i + k) ahi (j + k) bhi))).Perm (qs'.flatMap (grq S) ++ ((k, i, j) :: (gr S alo i blo j ++ gr S (i + k) ahi (j + k) bhi))) := List.perm_middle.symm
 exact List.Perm.trans (l₂ := qs'.flatMap (grq S) ++ ((k, i, j) :: (gr S alo i blo j ++ gr S (i + k) ahi (j + k) bhi))) h2 (List.Perm.append_left _ hgr.symm)
theorem zd3 (h : Runs as bs S) (hgr : (gr S alo ahi blo bhi).Perm ((k, i, j) :: (gr S alo i blo j ++ gr S (i + k) ahi (j + k) bhi))) (hp : (mb ++ (qs' ++ [(alo, ahi, blo, bhi)]).flatMap (grq S)).Perm (zab S))
  (hins : ∀ q ∈ qs' ++ [(alo, ahi, blo, bhi)], q.1 <= q.2.1 /\ q.2.1 <= la /\ q.2.2.1 <= q.2.2.2 /\ q.2.2.2 <= lb) (hw : zaG S (qs' ++ [(alo, ahi, blo, bhi)]) <= 200) (hi : alo <= i) (hi2 : i + k <= ahi) (hj : blo <= j) (hj2 : j + k <= bhi)
  (hn : zbF (alo, ahi, blo, bhi) i j k = nq) {tl : List (Addr × Obj)} {qv mv : List Value} {qn mn : Nat} (off : ∀ p ∈ tl, p.1 ≠ qd /\ p.1 ≠ md) (dq : DatAll tl qv ((qs' ++ nq).map fun q => tdat (rq q))) (dm : MatAll tl mv (mb ++ [(k, i, j)])) :
  GI la lb S qd md (GC.mk qv qn mv mn tl (qs' ++ nq) (mb ++ [(k, i, j)])) /\ zaG S (qs' ++ nq) < zaG S (qs' ++ [(alo, ahi, blo, bhi)]) := by
 have hlt : zaG S (qs' ++ nq) < zaG S (qs' ++ [(alo, ahi, blo, bhi)]) := by
  rw [zas, zas, <- hn]
  exact Nat.add_lt_add_left (ziS (q := (alo, ahi, blo, bhi)) h hgr) _
 refine ⟨⟨off, dq, dm, fun q hq => ?_, ?_, ?_⟩, hlt⟩
 ·rcases List.mem_append.mp hq with hq | hq
  ·exact hins q (List.mem_append_left _ hq)
  ·have h0 := hins _ (List.mem_append_right _ (.head _))
   dsimp only at h0
   rw [<- hn] at hq
   unfold zbF at hq
   k_extra "aQ"
   ·split at hq
    ·rw [List.mem_singleton.mp hq]
     dsimp only
     (clear hw hi hj hn hlt; lia)
    ·cases hq
   ·split at hq
    ·rw [List.mem_singleton.mp hq]
     dsimp only
     (clear hw hi hi2 hj hj2 hn hlt; lia)
    ·cases hq
 ·rw [<- hn]
  exact zgx h hgr hp
 ·show zaG S (qs' ++ nq) <= 200
  exact Nat.le_trans (Nat.le_of_lt hlt) hw
theorem znY (hgr : gr S alo ahi blo bhi = []) (hp : (mb ++ (qs' ++ [(alo, ahi, blo, bhi)]).flatMap (grq S)).Perm (zab S))
  (hins : ∀ q ∈ qs' ++ [(alo, ahi, blo, bhi)], q.1 <= q.2.1 /\ q.2.1 <= la /\ q.2.2.1 <= q.2.2.2 /\ q.2.2.2 <= lb) (hw : zaG S (qs' ++ [(alo, ahi, blo, bhi)]) <= 200)
  {tl : List (Addr × Obj)} {qv mv : List Value} {qn mn : Nat} (off : ∀ p ∈ tl, p.1 ≠ qd /\ p.1 ≠ md) (dq : DatAll tl qv (qs'.map fun q => tdat (rq q))) (dm : MatAll tl mv mb) :
  GI la lb S qd md (GC.mk qv qn mv mn tl qs' mb) /\ zaG S qs' < zaG S (qs' ++ [(alo, ahi, blo, bhi)]) := by
 have hlt : zaG S qs' < zaG S (qs' ++ [(alo, ahi, blo, bhi)]) := by
  rw [zas, zaE]
  lia
 refine ⟨⟨off, dq, dm, fun q hq => hins q (List.mem_append_left _ hq), ?_, ?_⟩, hlt⟩
 ·rw [List.flatMap_append] at hp
  have e : [(alo, ahi, blo, bhi)].flatMap (grq S) = [] := by simp [grq, hgr]
  rw [e, List.append_nil] at hp
  exact hp
 ·show zaG S qs' <= 200
  exact Nat.le_trans (Nat.le_of_lt hlt) hw
theorem znw (h1 : alo < i /\ blo < j) (h2 : i + k < ahi /\ j + k < bhi) : zbF (alo, ahi, blo, bhi) i j k = [(alo, i, blo, j), (i + k, ahi, j + k, bhi)] := by unfold zbF; rw [if_pos h1, if_pos h2]; rfl
theorem znX (h1 : alo < i /\ blo < j) (h2 : ¬ (i + k < ahi /\ j + k < bhi)) : zbF (alo, ahi, blo, bhi) i j k = [(alo, i, blo, j)] := by unfold zbF; rw [if_pos h1, if_neg h2]; rfl
theorem zn5 (h1 : ¬ (alo < i /\ blo < j)) (h2 : i + k < ahi /\ j + k < bhi) : zbF (alo, ahi, blo, bhi) i j k = [(i + k, ahi, j + k, bhi)] := by unfold zbF; rw [if_neg h1, if_pos h2]; rfl
theorem zow (h1 : ¬ (alo < i /\ blo < j)) (h2 : ¬ (i + k < ahi /\ j + k < bhi)) : zbF (alo, ahi, blo, bhi) i j k = [] := by unfold zbF; rw [if_neg h1, if_neg h2]; rfl
end
theorem dat4 {T : Addr} {o : Obj} {a b c d : Int} {t u v z : Tok} {n : Nat} (hm : (T, o) ∈ news) (ho : o = ({ cls := .type "tuple", data := .seq #[.int a t, .int b u, .int c v, .int d z] n } : Obj)) {q : Rect} (h1 : a = (q.1 : Int)) (h2 : b = (q.2.1 : Int)) (h3 : c = (q.2.2.1 : Int)) (h4 : d = (q.2.2.2 : Int)) : DatIn news (.ref T) (tdat (rq q)) := by
 subst h1 h2 h3 h4 ho
 exact DatIn.tuple (vs := [.int (q.1 : Int) t, .int (q.2.1 : Int) u, .int (q.2.2.1 : Int) v, .int (q.2.2.2 : Int) z]) (n := n) hm (.cons (.int _ _) (.cons (.int _ _) (.cons (.int _ _) (.cons (.int _ _) .nil))))
structure MC where
 k1 : Nat
 i1 : Nat
 j1 : Nat
 t1 : Tok
 t2 : Tok
 t3 : Tok
 nv : List Value
 nn : Nat
 tl : List (Addr × Obj)
 ps : List Run
structure MI (nd : Addr) (ms : List Run) (i : Nat) (c : MC) : Prop where
 off : ∀ p ∈ c.tl, p.1 ≠ nd
 st : (ms.take i).foldl zbW ((0, 0, 0), []) = ((c.k1, c.i1, c.j1), c.ps)
 dat : DatAll c.tl c.nv (c.ps.map fun r => tdat (bl r))
 len : c.ps.length <= i
theorem dat3 {T : Addr} {o : Obj} {a b c : Int} {t u v : Tok} {n : Nat} (hm : (T, o) ∈ news) (ho : o = ({ cls := .type "tuple", data := .seq #[.int a t, .int b u, .int c v] n } : Obj)) {q : Run} (h1 : a = (q.2.1 : Int)) (h2 : b = (q.2.2 : Int)) (h3 : c = (q.1 : Int)) : DatIn news (.ref T) (tdat (bl q)) := by
 subst h1 h2 h3 ho
 exact DatIn.tuple (vs := [.int (q.2.1 : Int) t, .int (q.2.2 : Int) u, .int (q.1 : Int) v]) (n := n) hm (.cons (.int _ _) (.cons (.int _ _) (.cons (.int _ _) .nil)))
theorem znx {ms : List Run} {i : Nat} {r : Run} {a : Run × List Run} (h : ms[i]? = some r) : (ms.take (i + 1)).foldl zbW a = zbW ((ms.take i).foldl zbW a) r := by
 rw [List.take_add_one, h, List.foldl_append]
 rfl
theorem zoC {nd : Addr} {ms : List Run} {i : Nat} {rk ri rj k1 i1 j1 : Nat} {t1 t2 t3 t3' : Tok} {nv : List Value} {nn : Nat} {tl : List (Addr × Obj)} {ps : List Run} (h : ms[i]? = some (rk, ri, rj)) (hI : MI nd ms i (MC.mk k1 i1 j1 t1 t2 t3 nv nn tl ps)) (hq : i1 + k1 = ri /\ j1 + k1 = rj) :
  MI nd ms (i + 1) (MC.mk (k1 + rk) i1 j1 t1 t2 t3' nv nn tl ps) := by
 refine ⟨hI.off, ?_, hI.dat, Nat.le_succ_of_le hI.len⟩
 rw [znx h, hI.st]
 unfold zbW
 exact if_pos hq
theorem zqT {nd T : Addr} {ms : List Run} {i : Nat} {rk ri rj k1 i1 j1 : Nat} {t1 t2 t3 t1' t2' t3' : Tok} {nv : List Value} {nn nn' : Nat} {tl : List (Addr × Obj)} {ps : List Run} {o : Obj} (h : ms[i]? = some (rk, ri, rj)) (hI : MI nd ms i (MC.mk k1 i1 j1 t1 t2 t3 nv nn tl ps)) (hq : ¬ (i1 + k1 = ri /\ j1 + k1 = rj)) (hk : k1 ≠ 0) (hT : T ≠ nd) (hd : DatIn ((T, o) :: tl) (.ref T) (tdat (bl (k1, i1, j1)))) :
  MI nd ms (i + 1) (MC.mk rk ri rj t1' t2' t3' (nv ++ [.ref T]) nn' ((T, o) :: tl) (ps ++ [(k1, i1, j1)])) := by
 refine ⟨fc hT hI.off, ?_, ?_, ?_⟩
 ·rw [znx h, hI.st]
  unfold zbW
  rw [if_neg hq]
  exact if_pos hk
 ·rw [List.map_append]
  exact DatAll.append (hI.dat.mono fun p hp => .tail _ hp) (.cons hd .nil)
 ·show (ps ++ [(k1, i1, j1)]).length <= i + 1
  rw [List.length_append]
  exact Nat.succ_le_succ hI.len
theorem zqk {nd : Addr} {ms : List Run} {i : Nat} {rk ri rj i1 j1 : Nat} {t1 t2 t3 t1' t2' t3' : Tok} {nv : List Value} {nn : Nat} {tl : List (Addr × Obj)} {ps : List Run} (h : ms[i]? = some (rk, ri, rj)) (hI : MI nd ms i (MC.mk 0 i1 j1 t1 t2 t3 nv nn tl ps)) (hq : ¬ (i1 + 0 = ri /\ j1 + 0 = rj)) :
  MI nd ms (i + 1) (MC.mk rk ri rj t1' t2' t3' nv nn tl ps) := by
 refine ⟨hI.off, ?_, hI.dat, Nat.le_succ_of_le hI.len⟩
 rw [znx h, hI.st]
 unfold zbW
 rw [if_neg hq]
 exact if_neg (by simp)
theorem zew : Manifest.owners.lookup (String.ofList ['p', 'a', 'm'].reverse) = some Manifest.sig_map := by kernel_rfl
theorem zd0 : Slot "map" "__init__" "object.__init__" :=
 .of (owner := "object") (n := "__init__") (by rw [typeLookup_type, builtinLookup_eq_fast]; kernel_rfl) (by decide +kernel) (by decide +kernel) (by decide +kernel)
  (by first | exact .inl (by decide +kernel) | exact .inr (by decide +kernel)) (by rw [isSubtype_type]; kernel_rfl)
theorem zbO : Slot "map" "__iter__" "map.__iter__" :=
 .of (owner := "map") (n := "__iter__") (by rw [typeLookup_type, builtinLookup_eq_fast]; kernel_rfl) (by decide +kernel) (by decide +kernel) (by decide +kernel)
  (by first | exact .inl (by decide +kernel) | exact .inr (by decide +kernel)) (by rw [isSubtype_type]; kernel_rfl)
theorem zax : Slot "map" "__next__" "map.__next__" :=
 .of (owner := "map") (n := "__next__") (by rw [typeLookup_type, builtinLookup_eq_fast]; kernel_rfl) (by decide +kernel) (by decide +kernel) (by decide +kernel)
  (by first | exact .inl (by decide +kernel) | exact .inr (by decide +kernel)) (by rw [isSubtype_type]; kernel_rfl)
theorem zdQ (a : Value) : argsOk "map.__iter__" ⟨[a], []⟩ := by
 unfold argsOk; rw [signature?_of (id := "map.__iter__") (n := ['_', '_', 'r', 'e', 't', 'i', '_', '_']) (o := ['p', 'a', 'm']) (by kernel_rfl) zew]; kernel_rfl
theorem zbM (a : Value) : argsOk "map.__next__" ⟨[a], []⟩ := by
 unfold argsOk; rw [signature?_of (id := "map.__next__") (n := ['_', '_', 't', 'x', 'e', 'n', '_', '_']) (o := ['p', 'a', 'm']) (by kernel_rfl) zew]; kernel_rfl
theorem zdf : entryFor table "map.__iter__" = some Builtin.«dict_keyiterator.__iter__» :=
 entryFor_alias (id' := "dict_keyiterator.__iter__") (by kernel_rfl) (by first | rfl | decide +kernel | (unfold String.splitOn; simp +decide [String.splitOnAux])) (by decide +kernel) (by first | kernel_rfl | (rw [fastTable_eq_tree]; kernel_rfl))
theorem zbA : entryFor table "map.__next__" = some Builtin.«map.__next__» := entryFor_of_tree (by kernel_rfl)
theorem zdF : entryFor table "map.__new__" = some Builtin.«map.__new__» := entryFor_of_tree (by kernel_rfl)
theorem zik : mroOf (.type "map") = pure [.type "map", .type "object"] := by rw [mroOf_type]; kernel_rfl
theorem zdd : typeLookup (.type "map") "__new__" = pure (some (.builtin "map.__new__")) := by rw [typeLookup_type, builtinLookup_eq_fast]; kernel_rfl
theorem zg0 : TypeCalled "map" "map.__new__" "object.__init__" :=
 ⟨by decide +kernel, by decide +kernel, ⟨_, _, zik⟩, madeBy_type zik zdd (by decide +kernel), by decide +kernel, by rw [isSubtype_type]; kernel_rfl, zd0⟩
theorem zeo (a b : Value) : checkTypeCall "map" ⟨[a, b], []⟩ = pure () := by kernel_rfl
theorem zff (a b : Value) : checkBuiltinCall "map.__new__" ⟨[.type "map", a, b], []⟩ = pure () := by kernel_rfl
theorem zor : isSubtype (.type "map") (.type "map") = pure true := by rw [isSubtype_type]; kernel_rfl
theorem zeq : typeLookup (.type "map") "__len__" = pure none := by rw [typeLookup_type, builtinLookup_eq_fast]; kernel_rfl
theorem zdA : typeLookup (.type "map") "__length_hint__" = pure none := by rw [typeLookup_type, builtinLookup_eq_fast]; kernel_rfl
abbrev mapObj (T q : Addr) : Obj := { cls := .type "map", data := .fields #[.ref T, .ref q] }
abbrev itObj (l : Addr) (k : Nat) : Obj := { cls := .type "list_iterator", data := .fields #[.ref l, .int k 0] }
abbrev mH1 (h : Heap) (l : Addr) : Heap := h.push (itObj l 0)
abbrev mH2 (h : Heap) (l : Addr) : Heap := (mH1 h l).push { cls := .type "tuple", data := .seq #[.ref h.objs.size] }
abbrev mH3 (h : Heap) (l q : Addr) : Heap := (mH2 h l).push (mapObj (mH1 h l).objs.size q)
theorem zni (q l : Addr) (xs : Array Value) :
  Meets (Builtin.«map.__new__» ⟨[.type "map", .ref q, .ref l], []⟩) (fun _ R s => s.heap.IsList l xs /\ R (.ok (.ret (.ref (mH2 s.heap l).objs.size))) { s with heap := mH3 s.heap l q }) :=
 .of_wp fun prog w A R s h => by
  k_extra "l"
  obtain ⟨hp, g, d, tk, os⟩ := s; obtain ⟨hl1, h⟩ := h
  k_extra "e"
  have hsub := zor
  have hL1 : Heap.IsList (Shared.heap ⟨hp, g, d, tk, os⟩) l xs := hl1
  wp_walk using wpAny_pyIter_list hL1
  exact ⟨_, rfl, h⟩
theorem zjY {q l : Addr} {xs : List Value} {n : Nat} {Q : Value -> Shared -> Prop} (F : Fr h₀ L s.heap m) (N : News h₀ L s.heap news) (hl : (l, W.listOf xs.toArray n) ∈ news)
  (h : ∀ mo TT I h', Fr h₀ L h' m -> News h₀ L h' ((mo, mapObj TT q) :: (TT, { cls := .type "tuple", data := .seq #[.ref I] }) :: (I, itObj l 0) :: news) -> (∀ p ∈ news, p.1 < I) -> I < TT -> TT < mo -> Q (.ref mo) { s with heap := h' }) :
  wpAny (model prog w) A (call (.type "map") [.ref q, .ref l]) Q E s := by
 have F1 : Fr h₀ L (mH1 s.heap l) m := F.push _
 have N1 : News h₀ L (mH1 s.heap l) ((s.heap.objs.size, itObj l 0) :: news) := N.push F _
 have F2 : Fr h₀ L (mH2 s.heap l) m := F1.push _
 have N2 : News h₀ L (mH2 s.heap l) (((mH1 s.heap l).objs.size, { cls := .type "tuple", data := .seq #[.ref s.heap.objs.size] }) :: (s.heap.objs.size, itObj l 0) :: news) := N1.push F1 _
 refine callType_new zg0 (by decide) (zeo _ _) (zff _ _) (fun obj => PySem.F.args_object_init_3 obj _ _) zdF
  (zni q l xs.toArray) ⟨zaf N hl, ⟨_, Heap.get?_push_size _ rfl, rfl⟩, ?_⟩
 exact h _ _ _ _ (F2.push _) (N2.push F2 _) (fun p hp => Heap.lt_size (N p hp).1) (Heap.lt_size (N1 _ (.head _)).1) (Heap.lt_size (N2 _ (.head _)).1)
theorem zj7 {mo T q : Addr} {Q : Value -> Shared -> Prop} (hz : s.heap.get? mo = some (mapObj T q)) (h : Q (.ref mo) s) : wpAny (model prog w) A (pyIter (.ref mo)) Q E s := by
 have hT : s.TypeIs (.ref mo) "map" := ⟨_, hz, rfl⟩
 refine wpAny_pyIter_slot hT zbO (wpAny_call_entry zbO hT zdf ?_ (zdQ _))
 show wpAny _ _ (ret (.ref mo)) _ _ s
 exact wpAny_pure ⟨_, rfl, "map", _, hT, zax.lookup, h⟩
theorem zjK {mo T q I l : Addr} {k : Nat} {xs : Array Value} {x : Value} {Q : Option Value -> Shared -> Prop} (hz : s.heap.get? mo = some (mapObj T q)) (hT : s.heap.get? T = some { cls := .type "tuple", data := .seq #[.ref I] })
  (hI : s.heap.IsListIter I l k) (hl : s.heap.IsList l xs) (hx : xs[k]? = some x) (hIm : mo ≠ I)
  (hcall : ∀ (h' : Heap) (E' : Value -> Shared -> Prop), h'.IsListIter I l (k + 1) -> Heap.SameBut I s.heap h' -> wpAny (model prog w) A.in1 (call (.ref q) [x]) (fun v s' => Q (some v) s') E' { s with heap := h' }) :
  wpAny (model prog w) A (pyNext (.ref mo)) Q E s := by
 have hTy : s.TypeIs (.ref mo) "map" := ⟨_, hz, rfl⟩
 unfold pyNext
 refine wpAny_bind (wpAny_attempt (wpAny_callSpecial?_slot (name := Str.ofString "__next__") hTy zax
  (wpAny_call_entry zax hTy zbA ?_ (zbM _))))
 show wpAny _ _ (field (.ref mo) 0 >>= _) _ _ _
 refine wpAny_bind (wpAny_field hz rfl (x := .ref T) rfl ?_)
 refine wpAny_bind (wpAny_seqItems hT rfl ?_)
 simp only [List.forIn_toArray, List.forIn_cons, List.forIn_nil]
 refine wpAny_bind (wpAny_bind (wpAny_bind (wpAny_holding ?_)))
 refine wpAny_nextOf_list_item hI hl hx fun h₁ hI₁ hs₁ => wpAny_pure ?_
 k_extra "W"
 k_extra "L"
 refine wpAny_bind (wpAny_field (hs₁.extBut mo _ hIm hz) rfl (x := .ref q) rfl ?_)
 refine wpAny_bind (wpAny_holding (wpAny_mono (hcall h₁ _ hI₁ hs₁) (fun v s' hq => ?_) fun _ _ e => e))
 exact wpAny_bind (wpAny_letGo (wpAny_pure ⟨_, rfl, wpAny_pure hq⟩))
theorem zeb {mo T q I l : Addr} {k : Nat} {xs : Array Value} {Q : Option Value -> Shared -> Prop} (hh : A.handled = none) (hz : s.heap.get? mo = some (mapObj T q)) (hT : s.heap.get? T = some { cls := .type "tuple", data := .seq #[.ref I] })
  (hI : s.heap.IsListIter I l k) (hl : s.heap.IsList l xs) (hx : xs[k]? = none)
  (hQ : ∀ h', Heap.ExtBut I s.heap h' -> Q none { s with heap := h' }) : wpAny (model prog w) A (pyNext (.ref mo)) Q E s := by
 have hTy : s.TypeIs (.ref mo) "map" := ⟨_, hz, rfl⟩
 unfold pyNext
 refine wpAny_bind (wpAny_attempt (wpAny_callSpecial?_slot (name := Str.ofString "__next__") hTy zax
  (wpAny_call_entry zax hTy zbA ?_ (zbM _))))
 show wpAny _ _ (field (.ref mo) 0 >>= _) _ _ _
 refine wpAny_bind (wpAny_field hz rfl (x := .ref T) rfl ?_)
 refine wpAny_bind (wpAny_seqItems hT rfl ?_)
 simp only [List.forIn_toArray, List.forIn_cons, List.forIn_nil]
 refine wpAny_bind (wpAny_bind (wpAny_bind (wpAny_holding ?_)))
 refine wpAny_nextOf_list_end hh hI hl hx fun h₁ e hs₁ he => ?_
 (refine x_EA (he) ?_; clear he; intro o ho hc)
 refine wpAny_bind (wpAny_isInstance (T := "StopIteration") (b := true) ⟨o, ho, hc⟩ isSubtype_stop ?_)
 exact wpAny_pure (hQ h₁ hs₁)
theorem zh4 {h h' : Heap} {I : Addr} (F : Fr h₀ L h m) (he : Heap.ExtBut I h h') (hIL : I ≠ L) (hI0 : h₀.get? I = none) : Fr h₀ L h' m := by
 (refine zck (F.ns) ?_; intro o es ep ho r)
 exact ⟨⟨o, es, ep, he L o (Ne.symm hIL) ho, r⟩, fun b o e => he b o (fun q => by rw [q, hI0] at e; cases e) (F.keep b o e), F.above⟩
theorem zfy {h h' : Heap} {I : Addr} (N : News h₀ L h news) (he : Heap.ExtBut I h h') (hn : ∀ p ∈ news, p.1 ≠ I) : News h₀ L h' news := fun p hp => ⟨he p.1 p.2 (hn p hp) (N p hp).1, (N p hp).2⟩
theorem zjg {loose : List Str} {mb : Str -> Option Value}
  {cs : Scope} {a : Addr} 
  (B : Below A₀ base outer h₀) (X : (K w.params).In h₀) (T : Top Mine.q loose mean mg mb h₀) (hk : cs.kind = .function) (hdp : dp + 20 < recursionLimit) (hun : un + 200 < cLine)
  {S I l mo TT q : Addr} {xs : List Value} {rs : List Run} {n : Nat} {st : List (Addr × Obj)} {res : Value} (hmo : (mo, mapObj TT q) ∈ st) (hTT : (TT, ({ cls := .type "tuple", data := .seq #[.ref I] } : Obj)) ∈ st) (hq : (q, methodObj (.ref 89) (.ref 135)) ∈ st) (hl : (l, W.listOf xs.toArray n) ∈ st)
  (hxs : DatAll st xs (rs.map fun r => tdat (bl r))) (hIL : I ≠ L) (hI0 : h₀.get? I = none) (hSL : S ≠ L) (hS0 : h₀.get? S = none) (hSI : S ≠ I) (hst : ∀ p ∈ st, p.1 ≠ S /\ p.1 ≠ I) (hsz : rs.length <= 1000) {R : Result -> Shared -> Prop} :
  ∀ (k i : Nat) (s : Shared) (acc : List Value) (c : Nat) (made : List (Addr × Obj)), rs.length - i = k -> i <= rs.length -> Fr h₀ L s.heap m -> News h₀ L s.heap (made ++ st) -> s.heap.IsListIter I l i -> s.heap.get? S = some (W.listOf acc.toArray c) -> (∀ p ∈ made, p.1 ≠ S /\ p.1 ≠ I /\ ∀ z ∈ st, z.1 ≠ p.1) -> MatAll made acc (rs.take i) ->
   (∀ h' tk' acc c made, Fr h₀ L h' m -> News h₀ L h' (made ++ st) -> h'.get? S = some (W.listOf acc.toArray c) -> (∀ p ∈ made, p.1 ≠ S /\ ∀ z ∈ st, z.1 ≠ p.1) -> MatAll made acc rs -> R (.ok (.ret res)) { s with heap := h', toks := tk' }) ->
   codeAny (model PySem.Challenge.rw_rt0114_02.row.prog w) (ktrTop dp un gd cn cs L a ccd cl outer) (.builtin "list.extend.loop" ⟨[.ref S, .ref mo, res], []⟩) R s := by
 have hxl : xs.length = rs.length := by rw [hxs.length, List.length_map]
 intro k
 induction k with
 | zero =>
  intro i s acc c made hk0 hi F N hI hS hm hacc hR
  obtain rfl : i = rs.length := by lia
  k_extra "F"
  refine wpAny_bind (m := pyNext (.ref mo)) (zeb rfl (N _ (List.mem_append_right _ hmo)).1 (N _ (List.mem_append_right _ hTT)).1 hI (zaf N (List.mem_append_right _ hl)) (by simp [hxl]) fun h' he => ?_)
  rw [List.take_length] at hacc
  refine wpAny_pure (hR h' _ acc c made (zh4 F he hIL hI0) (zfy N he fun p hp => ?_) (he S _ hSI hS) (fun p hp => ⟨(hm p hp).1, (hm p hp).2.2⟩) hacc)
  k_extra "n"
  ·exact (hm p hp).2.1
  ·exact (hst p hp).2
 | succ k ih =>
  intro i s acc c made hk0 hi F N hI hS hm hacc hR
  have hlt : i < rs.length := by exact Nat.lt_of_sub_eq_succ hk0
  obtain ⟨⟨rk, ri, rj⟩, hr⟩ : ∃ r, rs[i]? = some r := ⟨_, List.getElem?_eq_getElem hlt⟩
  obtain ⟨v, hv⟩ : ∃ v, xs[i]? = some v := ⟨_, List.getElem?_eq_getElem (by exact Nat.lt_of_lt_of_eq hlt (id (Eq.symm hxl)))⟩
  have hdv := zdi (f := fun r => tdat (bl r)) hxs hr hv
  k_extra "l"
  (refine zav (zbm (i := (ri : Int)) (j := (rj : Int)) (k := (rk : Int)) hdv) ?_; intro Tb nb t1 t2 t3 q95 hTb; subst q95)
  k_extra "e"
  have hne : ∀ p ∈ made ++ st, p.1 ≠ S /\ p.1 ≠ I := fun p hp => by
   k_extra "n"
   ·exact ⟨(hm p hp).1, (hm p hp).2.1⟩
   ·exact hst p hp
  k_extra "F"
  refine wpAny_bind (m := pyNext (.ref mo)) (zjK (x := .ref Tb) (N _ (List.mem_append_right _ hmo)).1 (N _ (List.mem_append_right _ hTT)).1 hI (zaf N (List.mem_append_right _ hl)) (by simpa using hv) (hst _ hmo).2 fun h₁ E' hI₁ hs₁ => ?_)
  have F₁ : Fr h₀ L h₁ m := kas_fr F hs₁ hIL hI0
  have N₁ : News h₀ L h₁ (made ++ st) := kas_news N hs₁ fun p hp => (hne p hp).2
  have hS₁ : h₁.get? S = some (W.listOf acc.toArray c) := hs₁.extBut S _ hSI hS
  (refine zaW (id hI₁) ?_; intro oI hoI hcI hdI)
  have N₂ : News h₀ L h₁ ((I, oI) :: (S, W.listOf acc.toArray c) :: (made ++ st)) := fc ⟨hoI, hIL, hI0⟩ (fc ⟨hS₁, hSL, hS0⟩ N₁)
  refine call_meth N₂ (.tail _ (.tail _ (List.mem_append_right _ hq))) ?_
  refine zhG (n0 := nb) B F₁ X N₂ T hk (.tail _ (.tail _ (List.mem_append_right _ hTb))) (by exact Nat.lt_of_succ_le hdp) (by first | (show un + 1 + 1 + 100 < cLine; lia) | (show un + 1 + 100 < cLine; omega)) fun x d h₂ tk₂ F₃ N₃ l1 l2 => ?_
  dsimp only
  have hSd : S ≠ d := Nat.ne_of_lt (l1 _ (.tail _ (.head _)))
  have hId : I ≠ d := Nat.ne_of_lt (l1 _ (.head _))
  have hSx : S ≠ x := Nat.ne_of_lt (Nat.lt_trans (l1 _ (.tail _ (.head _))) l2)
  have hIx : I ≠ x := Nat.ne_of_lt (Nat.lt_trans (l1 _ (.head _)) l2)
  have hS₃ : h₂.get? S = some (W.listOf acc.toArray c) := (N₃ _ (.tail _ (.tail _ (.tail _ (.head _))))).1
  have hI₃ : h₂.IsListIter I l (i + 1) := ⟨oI, (N₃ _ (.tail _ (.tail _ (.head _)))).1, hcI, hdI⟩
  have hal : acc.length = i := by rw [hacc.length, List.length_take]; exact Nat.min_eq_left hi
  have N₄ : News h₀ L h₂ (((x, matchObj d (ri : Int) t1 (rj : Int) t2 (rk : Int) t3) :: (d, dictOf [] 0) :: made) ++ st) := by
   intro p hp
   refine N₃ p ?_
   simp only [List.mem_append, List.mem_cons] at hp ⊢
   rcases hp with (h | h | h) | h
   ·exact .inl h
   ·exact .inr (.inl h)
   ·exact .inr (.inr (.inr (.inr (.inl h))))
   ·exact .inr (.inr (.inr (.inr (.inr h))))
  have hdz : ∀ z ∈ st, z.1 < d := fun z hz => l1 _ (.tail _ (.tail _ (List.mem_append_right _ hz)))
  have hne2 : ∀ p ∈ (x, matchObj d (ri : Int) t1 (rj : Int) t2 (rk : Int) t3) :: (d, dictOf [] 0) :: made, p.1 ≠ S /\ p.1 ≠ I /\ ∀ z ∈ st, z.1 ≠ p.1 := fc ⟨Ne.symm hSx, Ne.symm hIx, fun z hz => Nat.ne_of_lt (Nat.lt_trans (hdz z hz) l2)⟩ (fc ⟨Ne.symm hSd, Ne.symm hId, fun z hz => Nat.ne_of_lt (hdz z hz)⟩ hm)
  have hsl : sizeLine = 2 ^ 24 := by decide
  refine wpAny_bind (m := updateSeq S (·.push (Value.ref x))) (wpAny_updateSeq hS₃ rfl (wpAny_pure ⟨plainId_quiet PySem.F.plain_extend_loop _, ?_⟩) (by show acc.toArray.size <= _; rw [List.size_toArray, hal]; lia) (by show (acc.toArray.push _).size <= _; rw [Array.size_push, List.size_toArray, hal]; lia))
  have hs₅ := Heap.SameBut.update h₂ S (Obj.mapSeq (·.push (Value.ref x)))
  obtain ⟨c5, hS₅⟩ : ∃ c5, (h₂.update S (Obj.mapSeq (·.push (Value.ref x)))).get? S = some (W.listOf (acc ++ [Value.ref x]).toArray c5) := by
   rw [<- List.push_toArray]
   exact ⟨_, get?_update_seq hS₃ fun z => z.push (Value.ref x)⟩
  refine ih (i + 1) _ (acc ++ [Value.ref x]) c5 _ (by lia) hlt (kas_fr F₃ hs₅ hSL hS0) (kas_news N₄ hs₅ fun p hp => ?_) (hI₃.extBut hs₅.extBut (Ne.symm hSI)) hS₅ hne2 ?_ fun h' tk' acc' c' made' F' N' h1 h2 h3 => hR h' tk' acc' c' made' F' N' h1 h2 h3
  ·rcases List.mem_append.mp hp with hp | hp
   ·exact (hne2 p hp).1
   ·exact (hst p hp).1
  ·rw [List.take_add_one, hr, Option.toList_some]
   exact MatAll.append (.cons (.head _) .nil) (hacc.mono fun p hp => .tail _ (.tail _ hp))
theorem znz {mo T q : Addr} (hz : s.heap.get? mo = some (mapObj T q)) {Q : Option Value -> Shared -> Prop} (h : Q none s) : wpAny (model prog w) A (specialOf (.ref mo) "__len__") Q E s := by
 unfold specialOf
 refine wpAny_bind (wpAny_typeOf (T := "map") ⟨_, hz, rfl⟩ ?_)
 exact wpAny_of_eq zeq h
theorem zjS {mo T q : Addr} (hz : s.heap.get? mo = some (mapObj T q)) {Q : Option Value -> Shared -> Prop} (h : Q none s) : wpAny (model prog w) A (specialOf (.ref mo) "__length_hint__") Q E s := by
 unfold specialOf
 refine wpAny_bind (wpAny_typeOf (T := "map") ⟨_, hz, rfl⟩ ?_)
 exact wpAny_of_eq zdA h
theorem zi8 {S mo T q : Addr} {c : Nat} {R : Result -> Shared -> Prop} (hne : mo ≠ S) (hS : s.heap.get? S = some { cls := .type "list", data := .seq #[] c }) (hz : s.heap.get? mo = some (mapObj T q))
  (h : ∀ h' c', Heap.SameBut S s.heap h' -> h'.get? S = some (W.listOf #[] c') -> codeAny (model prog w) A (.builtin "list.extend.loop" ⟨[.ref S, .ref mo, .none], []⟩) R { s with heap := h' }) :
  wpAny (model prog w) A.in1 (Builtin.«list.__init__» ⟨[.ref S, .ref mo], []⟩)
   (fun fin s' => match fin with | .done f => R (.ok f) s' | .again c' => c'.quiet = true /\ codeAny (model prog w) A c' R s') (fun e s' => R (.error e) s') s := by
 show wpAny _ _ (do let old <- Builtin.List.listItems (.ref S); Builtin.List.listUpdate (.ref S) (fun _ => #[]); letGo old.toList.reverse; Builtin.List.listExtendWith (.ref S) (.ref mo) .none) _ _ s
 k_extra "5"
 unfold Builtin.List.listItems
 refine wpAny_bind (wpAny_seqItems hS rfl (wpAny_pure ?_))
 show wpAny _ _ (updateSeq S (fun _ => #[]) >>= fun _ => letGo (#[] : Array Value).toList.reverse >>= fun _ => Builtin.List.listExtendWith (.ref S) (.ref mo) .none) _ _ s
 refine wpAny_bind (wpAny_updateSeq hS rfl ?_)
 have s1 := Heap.SameBut.update s.heap S (Obj.mapSeq (fun _ => (#[] : Array Value)))
 obtain ⟨c1, hS₂⟩ : ∃ c1, (s.heap.update S (Obj.mapSeq (fun _ => (#[] : Array Value)))).get? S = some (W.listOf #[] c1) := ⟨_, get?_update_seq hS fun _ => #[]⟩
 have hz₂ := s1.extBut mo _ hne hz
 refine wpAny_bind (wpAny_letGo ?_)
 unfold Builtin.List.listExtendWith
 refine wpAny_bind (wpAny_typeOf (T := "map") ⟨_, hz₂, rfl⟩ ?_)
 have h1 : Builtin.List.listSameRef (.ref S) (.ref mo) = false := by simp [Builtin.List.listSameRef, Ne.symm hne]
 have h2 : (Value.type "map" == Value.type "list") = false := by decide
 have h3 : (Value.type "map" == Value.type "tuple") = false := by decide
 k_extra "aF"
 refine wpAny_bind (zj7 hz₂ ?_)
 k_extra "4"
 refine wpAny_bind (znz hz₂ ?_)
 dsimp only
 refine KFB.if_not (by rfl) ?_
 refine KFB.if_not (by rfl) ?_
 refine wpAny_bind (zjS hz₂ ?_)
 dsimp only
 k_extra "W"
 refine KFB.if_so (by rfl) ?_
 k_extra "ax"
 k_extra "5"
 show wpAny _ A.in1 (updateSeq S (·.push .none) >>= fun _ => updateSeq S (·.pop)) _ _ _
 refine wpAny_bind (wpAny_updateSeq hS₂ rfl ?_)
 have s2 := Heap.SameBut.update (s.heap.update S (Obj.mapSeq (fun _ => (#[] : Array Value)))) S (Obj.mapSeq (·.push Value.none))
 (refine x_E ((⟨_, get?_update_seq hS₂ fun z => z.push Value.none⟩ : ∃ c2, ((s.heap.update S (Obj.mapSeq (fun _ => (#[] : Array Value)))).update S (Obj.mapSeq (·.push Value.none))).get? S = some (W.listOf (#[].push Value.none) c2))) ?_; intro c2 hS₃)
 refine wpAny_updateSeq hS₃ rfl ?_
 (refine x_E ((⟨_, get?_update_seq hS₃ fun z => z.pop⟩ : ∃ c3, (((s.heap.update S (Obj.mapSeq (fun _ => (#[] : Array Value)))).update S (Obj.mapSeq (·.push Value.none))).update S (Obj.mapSeq (·.pop))).get? S = some (W.listOf (#[].push Value.none).pop c3))) ?_; intro c3 hS₄)
 have s3 := Heap.SameBut.update ((s.heap.update S (Obj.mapSeq (fun _ => (#[] : Array Value)))).update S (Obj.mapSeq (·.push Value.none))) S (Obj.mapSeq (·.pop))
 refine wpAny_pure ⟨plainId_quiet PySem.F.plain_extend_loop _, ?_⟩
 exact h _ c3 ((s1.trans s2).trans s3) hS₄
theorem zet {loose : List Str} {mb : Str -> Option Value}
  {cs : Scope} {a : Addr} {Q : Value -> Shared -> Prop} 
  {mo TT I q l : Addr} {xs : List Value} {rs : List Run} {n : Nat}
  (B : Below A₀ base outer h₀) (F : Fr h₀ L s.heap m) (X : (K w.params).In h₀) (N : News h₀ L s.heap ((mo, mapObj TT q) :: (TT, ({ cls := .type "tuple", data := .seq #[.ref I] } : Obj)) :: (I, itObj l 0) :: news)) (T : Top Mine.q loose mean mg mb h₀) (hk : cs.kind = .function)
  (hq : (q, methodObj (.ref 89) (.ref 135)) ∈ news) (hl : (l, W.listOf xs.toArray n) ∈ news) (hxs : DatAll news xs (rs.map fun r => tdat (bl r))) (hI : ∀ p ∈ news, p.1 < I) (hIT : I < TT) (hTm : TT < mo) (hsz : rs.length <= 1000) (hdp : dp + 20 < recursionLimit) (hun : un + 250 < cLine)
  (hret : ∀ D n vs tl h' tk', Fr h₀ L h' m -> News h₀ L h' ((D, W.listOf (List.toArray vs) n) :: (tl ++ news)) -> MatAll tl vs rs -> (∀ p ∈ tl ++ news, p.1 ≠ D) -> (∀ p ∈ tl, ∀ z ∈ news, z.1 ≠ p.1) -> Q (.ref D) { s with heap := h', toks := tk' }) :
  wpAny (model PySem.Challenge.rw_rt0114_02.row.prog w) (ktrTop dp un gd cn cs L a ccd cl outer) (call (.type "list") [.ref mo]) Q E s := by
 have nm := N _ (.head _)
 have nT := N _ (.tail _ (.head _))
 have nI := N _ (.tail _ (.tail _ (.head _)))
 dsimp only at nm nT nI
 have lm := Heap.lt_size nm.1
 have lT := Heap.lt_size nT.1
 have lI := Heap.lt_size nI.1
 have hLs : L < s.heap.objs.size := F.ns.lt
 refine callType_codes (Q₁ := fun obj s₁ => obj = .ref s.heap.objs.size /\ s₁ = { s with heap := s.heap.push { cls := .type "list", data := .seq #[] } }) PySem.F.called_list (PySem.F.typeCall_list_1 _) PySem.F.entry_list_init
  (code_list_new _ ⟨rfl, rfl⟩) fun obj s₁ h₁ => ?_
 k_extra "l"
 (refine cj2 (h₁) ?_; clear h₁; intro q90 q91; subst q90; subst q91)
 k_extra "e"
 have hS : (s.heap.push { cls := .type "list", data := .seq #[] }).get? s.heap.objs.size = some { cls := .type "list", data := .seq #[] } := Heap.get?_push_size _ rfl
 refine ⟨⟨_, hS, rfl⟩, PySem.F.args_list_init_2 _ _, zi8 (A := (ktrTop dp un gd cn cs L a ccd cl outer).in1) (Nat.ne_of_lt lm) hS (Heap.get?_push_of_some _ nm.1) fun h' c' hs' hS' => ?_⟩
 have F1 : Fr h₀ L (s.heap.push { cls := .type "list", data := .seq #[] }) m := F.push _
 have hSL : s.heap.objs.size ≠ L := Nat.ne_of_gt hLs
 have hS0 : h₀.get? s.heap.objs.size = none := Heap.get?_none_of_le (Nat.le_trans F.above (Nat.le_of_lt hLs))
 have F2 : Fr h₀ L h' m := kas_fr F1 hs' hSL hS0
 have N1 : News h₀ L (s.heap.push { cls := .type "list", data := .seq #[] }) ((mo, mapObj TT q) :: (TT, ({ cls := .type "tuple", data := .seq #[.ref I] } : Obj)) :: (I, itObj l 0) :: news) := fun p hp => ⟨Heap.get?_push_of_some _ (N p hp).1, (N p hp).2⟩
 have N2 := kas_news N1 hs' fun p hp => Nat.ne_of_lt (Heap.lt_size (N p hp).1)
 refine zjg (S := s.heap.objs.size) (I := I) (l := l) (mo := mo) (TT := TT) (q := q) (xs := xs) (rs := rs) (n := n) (st := (mo, mapObj TT q) :: (TT, { cls := .type "tuple", data := .seq #[.ref I] }) :: news) B X T hk hdp (by show un + 1 + 200 < cLine; lia)
  (.head _) (.tail _ (.head _)) (.tail _ (.tail _ hq)) (.tail _ (.tail _ hl)) (hxs.mono fun p hp => .tail _ (.tail _ hp)) nI.2.1 nI.2.2 hSL hS0 (Nat.ne_of_gt lI) ?hst hsz rs.length 0 _ [] c' [] (by exact Nat.sub_zero rs.length) (Nat.zero_le _) F2 (fun p hp => N2 p ?hN) ⟨_, (N2 _ (.tail _ (.tail _ (.head _)))).1, rfl, rfl⟩ hS' (fun _ h => nomatch h) .nil ?fin
 case hst =>
  refine fc ⟨Nat.ne_of_lt lm, Nat.ne_of_gt (Nat.lt_trans hIT hTm)⟩ (fc ⟨Nat.ne_of_lt lT, Nat.ne_of_gt hIT⟩ (fun p hp => ⟨Nat.ne_of_lt (Heap.lt_size (N p (.tail _ (.tail _ (.tail _ hp)))).1), Nat.ne_of_lt (hI p hp)⟩))
 case hN =>
  rw [List.nil_append] at hp
  rcases List.mem_cons.mp hp with h | hp
  ·exact List.mem_cons.mpr (.inl h)
  rcases List.mem_cons.mp hp with h | hp
  ·exact .tail _ (List.mem_cons.mpr (.inl h))
  ·exact .tail _ (.tail _ (.tail _ hp))
 case fin =>
  intro h2 tk2 acc c2 made F3 N3 hS3 hm hacc
  refine ⟨rfl, hret _ c2 acc made h2 tk2 F3 ?_ hacc ?_ fun p hp z hz => (hm p hp).2 z (.tail _ (.tail _ hz))⟩
  ·refine fc ⟨hS3, hSL, hS0⟩ (fun p hp => N3 p ?_)
   k_extra "n"
   ·exact List.mem_append_left _ hp
   ·exact List.mem_append_right _ (.tail _ (.tail _ hp))
  ·intro p hp
   k_extra "n"
   ·exact (hm p hp).1
   ·exact Nat.ne_of_lt (Heap.lt_size (N p (.tail _ (.tail _ (.tail _ hp)))).1)
example : True := by
 k_with "N" => (k_extra "m"; k_extra "d")
 k_with "av" => (k_extra "L"; k_extra "N")
 k_with "aw" => (k_extra "L"; k_extra "c")
 k_with "j" => case ek => exact fc (by ((try dsimp only); (repeat rw [if_neg (by decide)]); first | done | assumption | (rw [if_pos rfl]; done) | (rw [if_pos rfl]; exact rfl) | (rw [if_pos rfl, Int.natCast_add]; done) | (rw [if_pos rfl, Int.natCast_add]; exact rfl) | exact rfl)) (fc (by ((try dsimp only); (repeat rw [if_neg (by decide)]); first | done | assumption | (rw [if_pos rfl]; done) | (rw [if_pos rfl]; exact rfl) | (rw [if_pos rfl, Int.natCast_add]; done) | (rw [if_pos rfl, Int.natCast_add]; exact rfl) | exact rfl)) (fc (by ((try dsimp only); (repeat rw [if_neg (by decide)]); first | done | assumption | (rw [if_pos rfl]; done) | (rw [if_pos rfl]; exact rfl) | (rw [if_pos rfl, Int.natCast_add]; done) | (rw [if_pos rfl, Int.natCast_add]; exact rfl) | exact rfl)) (fn)))
 k_with "o" => (have zi := z1 _ (.head _); have zj := z1 _ (.tail _ (.head _)); have zk := z1 _ (.tail _ (.tail _ (.head _))); have zz : ∀ y, [Str.ofString "i2", Str.ofString "j2", Str.ofString "k2"].contains y = true -> z ≠ y := fun y hy e => (by rw [e, hy] at z3; cases z3); dsimp only at zi zj zk; (repeat (first | (refine zif (by assumption) ?_) | (refine zif (zz _ (by decide)) ?_))))
 k_with "ao" => (intro z z1 z3; k_extra "o"; rw [hn8]; k_extra "k")
 k_with "6" => ((try with_reducible refine zai ?_); k_extra "L")
 k_with "al" => ((case kX => k_asm); (case kT => k_asm); case kh => exact rfl)
 k_with "g" => (intro z z0 z1 z3; have zz : ∀ y, [Str.ofString "alo", Str.ofString "ahi", Str.ofString "blo", Str.ofString "bhi", Str.ofString "i", Str.ofString "j", Str.ofString "k", Str.ofString "x"].contains y = true -> z ≠ y := fun y hy e => (by rw [e, hy] at z3; cases z3); (repeat (first | exact rfl | (refine zif (zz _ (by decide)) ?_) | (refine zif (by assumption) ?_) | (refine znH (by assumption) ?_) | (refine (hm8 _).trans ?_))))
 k_with "V" => (with_reducible rename x < T1 /\ _ /\ _ /\ _ /\ _ /\ _ /\ _ /\ _ /\ AllLt T1 X => k1)
 k_with "setAttr ref" => (refine hold ?_)
 k_with "call type:map" => (refine hold ?_)
 k_with "call type:list" => (refine hold ?_)
 k_with "truthy ref" => (refine hold ?_)
 k_with "call builtin:list.pop" => (refine hold ?_)
 k_with "call builtin:list.sort" => (refine hold ?_)
 k_with "assign Tuple" => ((with_reducible show wpAny _ _ (assign (Expr.Tuple [_, _, _] _ _) _ (Value.ref _)) _ _ _); refine hold ?_)
 k_with "getMethod ref" => (k_here; (with_reducible show wpAny _ _ (getMethod (Value.ref _) (PySem.Str.ofString "append") _) _ _ _); k_dflt (refine' kl_method (by k_asm) (by k_mem) PySem.F.slot_list_append PySem.F.type_list_append ?_))
 k_with "call ref" => (k_here; (with_reducible show wpAny _ _ (call (Value.ref 196) _) _ _ _); refine hold ?_)
 k_with "isTrue BoolOp" => (refine hold ?_)
 k_with "BPost" => (k_here; k_dflt (exact bpost rfl))
 trivial
theorem zj8 {h : Heap} {a : Addr} {o1 : Obj} {r : List (Addr × Obj)} {G : Prop} (N : News h₀ L h ((a, o1) :: r)) (k : let x := a; let p := o1; News h₀ L h ((x, p) :: r) -> G) : G := k N
theorem znD {h : Heap} {a b : Addr} {o1 o2 : Obj} {r : List (Addr × Obj)} {G : Prop} (N : News h₀ L h ((a, o1) :: (b, o2) :: r)) (k : let x := a; let y := b; let p := o1; let q := o2; News h₀ L h ((x, p) :: (y, q) :: r) -> G) : G := k N
theorem glet3 {h : Heap} {a b c : Addr} {o1 o2 o3 : Obj} {r : List (Addr × Obj)} {G : Prop} (N : News h₀ L h ((a, o1) :: (b, o2) :: (c, o3) :: r)) (k : let x := a; let y := b; let z := c; let p := o1; let q := o2; let t := o3; News h₀ L h ((x, p) :: (y, q) :: (z, t) :: r) -> G) : G := k N
theorem zpA {α : Type} {P : α -> Prop} {a b c d : α} {l r : List α} (h : ∀ p ∈ l ++ a :: b :: c :: d :: r, P p) : ∀ p ∈ a :: b :: c :: d :: (l ++ r), P p :=
 have k := List.forall_mem_append.mp h
 fc (k.2 _ (.head _)) (fc (k.2 _ (.tail _ (.head _))) (fc (k.2 _ (.tail _ (.tail _ (.head _)))) (fc (k.2 _ (.tail _ (.tail _ (.tail _ (.head _))))) (List.forall_mem_append.mpr ⟨k.1, fun p hp => k.2 p (.tail _ (.tail _ (.tail _ (.tail _ hp))))⟩))))
theorem low5 {T p1 p2 p3 p4 : Addr} {o1 o2 o3 o4 : Obj} {X : List (Addr × Obj)} (h : p1 < T /\ p2 < T /\ p3 < T /\ p4 < T /\ AllLt T X) (hX : ∀ p ∈ rest, p ∈ X) : ∀ p ∈ (p1, o1) :: (p2, o2) :: (p3, o3) :: (p4, o4) :: rest, p.1 ≠ T :=
 fc (Nat.ne_of_lt h.1) (fc (Nat.ne_of_lt h.2.1) (fc (Nat.ne_of_lt h.2.2.1) (fc (Nat.ne_of_lt h.2.2.2.1) (fun p hp => Nat.ne_of_lt (zb1 h.2.2.2.2 p (hX p hp))))))
theorem zkE {l : Addr} {us : List Value} {n k : Nat} {Q : Value -> Shared -> Prop} (N : News h₀ L s.heap news) (hm : (l, W.listOf us.toArray n) ∈ news) (e : us.length = k) (hfit : k <= 100000)
  (h : Q (.int (k : Int) (s.toks + 1)) { s with toks := s.toks + 1 + 1 }) : wpAny (model prog w) A (call (.builtin "len") [.ref l]) Q E s := by
 have e' : us.toArray.size = k := by rw [List.size_toArray, e]
 exact len_list (zaf N hm) (by rw [e']; lia) (by rw [e']; exact h)
theorem zgi {loose : List Str} {mb : Str -> Option Value}
  {cs : Scope} {a : Addr} {Q : Value -> Shared -> Prop} 
  (B : Below A₀ base outer h₀) (F : Fr h₀ L s.heap m) (X : (K w.params).In h₀) (N : News h₀ L s.heap news) (T : Top Mine.q loose mean mg mb h₀) (hk : cs.kind = .function)
  {self la lb : Addr} {as bs : List Int} {r : SmR} {S : List Run} (hr : SmOk w self la lb as bs r) (hl : ∀ p ∈ r.led w self la lb, p ∈ news) (hnews : news = (self, instObj 242 r.dx) :: (r.dx, dictOf (smEs w.params r.t0 r.t1 r.t2 r.t3 r.t4 r.t5 r.t6 r.t7 r.t8 r.t9 (.ref la) (.ref lb) .none .none .none (.ref r.db) (.ref r.jk) (.ref r.pp)) r.nd) :: (la, W.listOf r.avs.toArray r.na) :: (lb, W.listOf r.bvs.toArray r.nb) :: rest) (hoff : ∀ p ∈ (la, W.listOf r.avs.toArray r.na) :: (lb, W.listOf r.bvs.toArray r.nb) :: rest, p.1 ≠ r.dx) (hsd : self ≠ r.dx) (hS : Runs as bs S) (hg : (zab S).length < 64 /\ (zab S).Nodup) (hal : as.length <= 64) (hbl : bs.length <= 64) (hdp : dp + 40 < recursionLimit) (hun : un + 400 < cLine)
  (hret : ∀ (D : Addr) (n : Nat) (vs : List Value) (tl : List (Addr × Obj)) (h' : Heap) (tk' : Nat) (ms : List Run), ms.Perm (zab S) -> ms.Pairwise ble -> Fr h₀ L h' m -> News h₀ L h' ((D, W.listOf vs.toArray n) :: (tl ++ (la, W.listOf r.avs.toArray r.na) :: (lb, W.listOf r.bvs.toArray r.nb) :: rest)) -> MatAll tl vs (ms ++ [(0, as.length, bs.length)]) -> Q (.ref D) { s with heap := h', toks := tk' }) :
  wpAny (model PySem.Challenge.rw_rt0114_02.row.prog w) (ktrTop dp un gd cn cs L a ccd cl outer) (call (.ref 203) [.ref self]) Q E s := by
 revert X; k_fill; intro X
 k_extra "ay"
 k_dflt (refine' zaF B F X N T ?kA ?kF ?kK ?k6 ?k7 ?k8 ?k9 ?kB ?_ ?c2 ?c3 ?c4 ?c5; (case kA => exact rfl); (case kF => exact rfl); (case kK => assumption); (case k6 => k_is); (case k7 => k_is); (case k8 => ktr_room); (case k9 => first | exact BindsTo.of_eq rfl | exact binds_K (by k_in) rfl (by k_is) rfl rfl rfl); (case c5 => decide); (case kB => exact locs rfl); (case c2 => exact rfl); (case c3 => exact rfl); (case c4 => exact rfl); k_whole)
 k_extra "A"
 k_extra "s"
 k_extra "7"
 clear e0 F'
 subst hnews
 refine letO (dictOf (smEs w.params r.t0 r.t1 r.t2 r.t3 r.t4 r.t5 r.t6 r.t7 r.t8 r.t9 (.ref la) (.ref lb) .none .none .none (.ref r.db) (.ref r.jk) (.ref r.pp)) r.nd) ?_
 intro OD
 refine letO (W.listOf r.avs.toArray r.na) ?_
 intro RA
 refine letO (W.listOf r.bvs.toArray r.nb) ?_
 intro RB
 replace N' : News g' L' h' ((self, instObj 242 r.dx) :: (r.dx, OD) :: (la, RA) :: (lb, RB) :: rest) := N'
 have hoff0 := hoff
 have havl : r.avs.length = as.length := by obtain ⟨_, _, _, _, h, _⟩ := hr; exact h.length
 have hbvl : r.bvs.length = bs.length := by obtain ⟨_, _, _, _, _, h⟩ := hr; exact h.length
 k_extra "d"
 (with_reducible rename News _ _ _ _ => wN)
 refine zkE wN (.tail _ (.tail _ (.head _))) havl (by lia) ?_
 k_extra "av"
 (with_reducible rename News _ _ _ _ => wN)
 refine zkE wN (.tail _ (.tail _ (.tail _ (.head _)))) hbvl (by lia) ?_
 k_extra "av"
 k_extra "y"
 refine glet3 lN ?_
 clear lN
 intro md qd T0 o19 o29 oT0 lN
 (with_reducible rename _ < T0 /\ _ < T0 /\ _ /\ _ /\ _ /\ AllLt T0 rest => lt0)
 (with_reducible rename T0 < qd /\ _ < qd /\ _ /\ _ /\ _ /\ _ /\ AllLt qd rest => lq)
 (with_reducible rename qd < md /\ T0 < md /\ _ /\ _ /\ _ /\ _ /\ _ /\ AllLt md rest => lm)
 refine zfS (x := Str.ofString "alo") (σ := GC) (rest := (self, instObj 242 r.dx) :: (r.dx, OD) :: (la, RA) :: (lb, RB) :: rest)
  (fun _ => []) (fun c => (qd, W.listOf c.qv.toArray c.qn) :: (md, W.listOf c.mv.toArray c.mn) :: c.tl) [Str.ofString "alo", Str.ofString "ahi", Str.ofString "blo", Str.ofString "bhi", Str.ofString "i", Str.ofString "j", Str.ofString "k", Str.ofString "x"] (GI as.length bs.length S qd md) (fun c => zaG S c.qs)
  (GC.mk [.ref T0] 0 [] 0 [(T0, oT0)] [(0, as.length, 0, bs.length)] []) (by decide) lF (fun p hp => ?hN) ?ho ?hk ?hi ?turn (by passes_own)
 case hN =>
  revert p
  exact fc (lN _ (.tail _ (.head _))) (fc (lN _ (.head _)) (fc (lN _ (.tail _ (.tail _ (.head _)))) (fun p hp => lN p (.tail _ (.tail _ (.tail _ (.tail _ hp)))))))
 case ho =>
  have hlow : ∀ x, self < x /\ r.dx < x /\ la < x /\ lb < x /\ AllLt x rest -> ∀ p ∈ (self, instObj 242 r.dx) :: (r.dx, OD) :: (la, RA) :: (lb, RB) :: rest, p.1 ≠ x := fun x ⟨a1, a2, a3, a4, a5⟩ => fc (Nat.ne_of_lt a1) (fc (Nat.ne_of_lt a2) (fc (Nat.ne_of_lt a3) (fc (Nat.ne_of_lt a4) (fun p hp => Nat.ne_of_lt (zb1 a5 p hp)))))
  intro p hp q hq
  simp only [List.mem_cons, List.not_mem_nil, or_false] at hq
  rcases hq with rfl | rfl | rfl
  ·exact hlow qd lq.2.2 p hp
  ·exact hlow md lm.2.2.2 p hp
  ·exact hlow T0 lt0.2 p hp
 case hk => exact fn
 case hi =>
  refine ⟨fc ⟨Nat.ne_of_lt lq.1, Nat.ne_of_lt lm.2.1⟩ (fn), ?_, .nil, fc ⟨Nat.zero_le _, Nat.le_refl _, Nat.zero_le _, Nat.le_refl _⟩ (fn), zpl hS, gwk0 hS hg.1⟩
  refine .cons (DatIn.tuple (vs := [.int 0 _, .int (as.length : Int) _, .int 0 _, .int (bs.length : Int) _]) (n := 0) (.head _) ?_) .nil
  exact .cons (.int _ _) (.cons (.int _ _) (.cons (.int _ _) (.cons (.int _ _) .nil)))
 case turn =>
  intro c9 u9 h9 tk9 hI hoff9 F9 N9
  refine bc fun hG9 => ?_; obtain ⟨qv, qn, mv, mn, tl, qs, mb⟩ := c9; refine hG9 ?_; clear hG9
  refine bc fun hG9 => ?_; obtain ⟨hIo, hIq, hIm, hIi, hIp, hIw⟩ := hI; refine hG9 ?_; clear hG9
  dsimp only at F9 N9 hoff9 hIo hIq hIm hIi hIp hIw
  clear lF lN
  (refine x_EA (zfc F9) ?_; intro m8 G8 hm8)
  clear F9
  have y1 : m8 (Str.ofString "queue") = some (.ref qd) := (hm8 _).trans (by (first | exact rfl | assumption | ((try dsimp only); (try simp only [kstB]); (repeat rw [if_neg (by decide)]); first | done | assumption | (rw [if_pos rfl]; done) | (rw [if_pos rfl]; exact rfl) | exact rfl)))
  have y2 : m8 (Str.ofString "matching_blocks") = some (.ref md) := (hm8 _).trans (by (first | exact rfl | assumption | ((try dsimp only); (try simp only [kstB]); (repeat rw [if_neg (by decide)]); first | done | assumption | (rw [if_pos rfl]; done) | (rw [if_pos rfl]; exact rfl) | exact rfl)))
  have y3 : m8 (Str.ofString "self") = some (.ref self) := (hm8 _).trans (by (first | exact rfl | assumption | ((try dsimp only); (try simp only [kstB]); (repeat rw [if_neg (by decide)]); first | done | assumption | (rw [if_pos rfl]; done) | (rw [if_pos rfl]; exact rfl) | exact rfl)))
  obtain ⟨ta, y4⟩ : ∃ t, m8 (Str.ofString "la") = some (.int (as.length : Int) t) := ⟨_, (hm8 _).trans (by (first | exact rfl | assumption | ((try dsimp only); (try simp only [kstB]); (repeat rw [if_neg (by decide)]); first | done | assumption | (rw [if_pos rfl]; done) | (rw [if_pos rfl]; exact rfl) | exact rfl)))⟩
  obtain ⟨tb, y5⟩ : ∃ t, m8 (Str.ofString "lb") = some (.int (bs.length : Int) t) := ⟨_, (hm8 _).trans (by (first | exact rfl | assumption | ((try dsimp only); (try simp only [kstB]); (repeat rw [if_neg (by decide)]); first | done | assumption | (rw [if_pos rfl]; done) | (rw [if_pos rfl]; exact rfl) | exact rfl)))⟩
  have hqo := fun p hp => hoff9 p hp _ (.head _)
  have hmo := fun p hp => hoff9 p hp _ (.tail _ (.head _))
  have o1 := hoff9 _ (.head _)
  have o2 := hoff9 _ (.tail _ (.head _))
  have o3 := hoff9 _ (.tail _ (.tail _ (.head _)))
  have o4 := hoff9 _ (.tail _ (.tail _ (.tail _ (.head _))))
  have o5 : ∀ p ∈ rest, ∀ q ∈ (qd, W.listOf qv.toArray qn) :: (md, W.listOf mv.toArray mn) :: tl, p.1 ≠ q.1 := fun p hp => hoff9 p (.tail _ (.tail _ (.tail _ (.tail _ hp))))
  obtain ⟨X, hX⟩ : ∃ X, X = tl ++ rest := ⟨_, rfl⟩
  k_extra "X"
  have hXr : ∀ p ∈ rest, p ∈ X := fun p hp => by rw [hX]; exact List.mem_append_right _ hp
  have xq : ∀ p ∈ X, p.1 ≠ qd := fun p hp => by
   rw [hX] at hp
   k_extra "n"
   ·exact (hIo p hp).1
   ·exact o5 p hp _ (.head _)
  have xm : ∀ p ∈ X, p.1 ≠ md := fun p hp => by
   rw [hX] at hp
   k_extra "n"
   ·exact (hIo p hp).2
   ·exact o5 p hp _ (.tail _ (.head _))
  have xd : ∀ p ∈ X, p.1 ≠ r.dx := fun p hp => by
   rw [hX] at hp
   k_extra "n"
   ·exact Ne.symm (o2 p (.tail _ (.tail _ hp)))
   ·exact hoff p (.tail _ (.tail _ hp))
  have sq : self ≠ qd := o1 _ (.head _)
  have dq : r.dx ≠ qd := o2 _ (.head _)
  have aq : la ≠ qd := o3 _ (.head _)
  have bq : lb ≠ qd := o4 _ (.head _)
  have sm : self ≠ md := o1 _ (.tail _ (.head _))
  have dm : r.dx ≠ md := o2 _ (.tail _ (.head _))
  have am : la ≠ md := o3 _ (.tail _ (.head _))
  have bm : lb ≠ md := o4 _ (.tail _ (.head _))
  have qm : qd ≠ md := Nat.ne_of_lt lm.1
  have N8 : News g' L' h9 ((qd, W.listOf qv.toArray qn) :: (md, W.listOf mv.toArray mn) :: (self, instObj 242 r.dx) :: (r.dx, OD) :: (la, RA) :: (lb, RB) :: X) := by
   rw [hX]
   exact fc (N9 _ (.head _)) (fc (N9 _ (.tail _ (.head _))) (zpA (fun p hp => N9 p (.tail _ (.tail _ hp)))))
  have hmk : OwnMark X := ⟨⟩
  replace G8 : Fr g' L' h9 m8 := G8
  clear N9
  rcases List.eq_nil_or_concat qs with rfl | ⟨qs', q, rfl⟩
  ·cases hIq
   k_extra "N"
   refine zdu (b := false) N8 (.head _) (by simp) (by simp) ?_
   k_extra "av"
   simp only [List.flatMap_nil, List.append_nil] at hIp
   have N7 : News g' L' h9 ((md, W.listOf mv.toArray mn) :: (self, instObj 242 r.dx) :: (r.dx, OD) :: (la, RA) :: (lb, RB) :: X) := fun p hp => N8 p (.tail _ hp)
   have hmdA : ∀ p ∈ (self, instObj 242 r.dx) :: (r.dx, OD) :: (la, RA) :: (lb, RB) :: X, p.1 ≠ md := fc sm (fc dm (fc am (fc bm xm)))
   have hgl : mb.length < 64 := by rw [hIp.length_eq]; exact hg.1
   clear N8
   refine zjH (P := fun ws => ∃ ms : List Run, ms.Perm (zab S) /\ ms.Pairwise ble /\ MatAll X ws ms) G8 N7 hmdA (by rw [hIm.length]; lia) ?hP ?hs ?_
   case hP =>
    intro out q91
    (refine zaW (q91) ?_; clear q91; intro ms h1 _ h2)
    rw [h2.length, h1.length_eq]
    have := hg.1
    lia
   case hs =>
    intro h' F' N'
    refine zgF (by (try dsimp only [A9]); ke_room) (X'.keeps F'.keep) (fun p hp => N' p (.tail _ (.tail _ (.tail _ (.tail _ hp))))) (hIm.mono hXt) (hIp.symm.nodup hg.2) hgl fun ws S' e1 e2 e3 => ⟨S', e1.trans hIp, e2, e3⟩
   intro out c h' q93 F' N'
   (refine zaW (q93) ?_; clear q93; intro ms hm1 hm2 hm3)
   clear G8 N7
   k_extra "av"
   k_extra "y"
   refine zj8 lN ?_
   clear lN
   intro nd on lN
   (with_reducible rename md < nd /\ _ /\ _ /\ _ /\ _ /\ AllLt nd X => ln)
   have hml : ms.length < 64 := by rw [hm1.length_eq]; exact hg.1
   have hol : out.length = ms.length := hm3.length
   refine' zfV (σ := MC) (nn := c) (rest := (md, W.listOf out.toArray c) :: (self, instObj 242 r.dx) :: (r.dx, OD) :: (la, RA) :: (lb, RB) :: X) (fun c => [(Str.ofString "i1", .int (c.i1 : Int) c.t1), (Str.ofString "j1", .int (c.j1 : Int) c.t2), (Str.ofString "k1", .int (c.k1 : Int) c.t3)]) (fun c => (nd, W.listOf c.nv.toArray c.nn) :: c.tl) [Str.ofString "i2", Str.ofString "j2", Str.ofString "k2"] (fun i c => MI nd ms i c) (MC.mk 0 0 0 _ _ _ [] 0 [] []) (by rfl) (.head _) lF lN ?ho ?hk ?hi ?turn ?done
   case hk =>
    refine fc ?_ (fc ?_ (fc ?_ (fn)))
    all_goals (dsimp only; (repeat rw [if_neg (by decide)]); first | done | (rw [if_pos rfl]) | skip)
    all_goals (try exact rfl)
   case ho =>
    intro p hp q hq
    rw [List.mem_singleton.mp hq]
    exact (fc (Nat.ne_of_lt ln.1) (low5 ln.2 (fun p hp => hp)) : ∀ p ∈ (md, W.listOf out.toArray c) :: (self, instObj 242 r.dx) :: (r.dx, OD) :: (la, RA) :: (lb, RB) :: X, p.1 ≠ nd) p hp
   case hi => exact ⟨(fun _ h => nomatch h), rfl, .nil, Nat.le_refl _⟩
   case turn =>
    intro i v c9 u9 s9 own hik hI hoff hrest F9 N9
    clear lF lN
    refine bc fun hG9 => ?_; obtain ⟨k1, i1, j1, t1, t2, t3, nv, nn, tl9, ps⟩ := c9; refine hG9 ?_; clear hG9
    dsimp only at F9 N9 hoff
    have hiS : i < ms.length := by
     have h1 := (List.getElem?_eq_some_iff.mp hik).1
     lia
    obtain ⟨⟨rk, ri, rj⟩, hr9⟩ : ∃ r, ms[i]? = some r := ⟨_, List.getElem?_eq_getElem hiS⟩
    (refine zav (hm3.at hr9) ?_; intro x9 d9 z1 z2 z3 hv9 hx9)
    rw [hik] at hv9
    obtain rfl := Option.some.inj hv9
    dsimp only at hx9
    have hIo := hI.off
    have hIl := hI.len
    have hnl : nv.length <= 64 := by
     have h1 := hI.dat.length
     rw [List.length_map] at h1
     dsimp only at h1 hIl
     lia
    k_extra "ag"
    obtain ⟨Y, hY⟩ : ∃ Y, Y = tl9 ++ own := ⟨_, rfl⟩
    have hYo : ∀ p ∈ own, p ∈ Y := fun p hp => by rw [hY]; exact List.mem_append_right _ hp
    have hYt : ∀ p ∈ tl9, p ∈ Y := fun p hp => by rw [hY]; exact List.mem_append_left _ hp
    have yn : ∀ p ∈ Y, p.1 ≠ nd := fun p hp => by
     rw [hY] at hp
     k_extra "n"
     ·exact hIo p hp
     ·exact hoff p hp _ (.head _)
    rw [<- hY] at N9
    have hmk9 : OwnMark Y := ⟨⟩
    have hxY := hYo _ (hrest _ (.tail _ (.tail _ (.tail _ (.tail _ (.tail _ hx9))))))
    refine zd5 rfl F9 X' N9 (.tail _ hxY) ?_
    intro h5 F5 N5
    clear F9 N9
    (refine x_EA (zfc F5) ?_; intro n8 H8 hn8)
    have w1 : n8 (Str.ofString "i1") = some (.int (i1 : Int) t1) := (hn8 _).trans (by (first | exact rfl | assumption | ((try dsimp only); (try simp only [kstB]); (repeat rw [if_neg (by decide)]); first | done | assumption | (rw [if_pos rfl]; done) | (rw [if_pos rfl]; exact rfl) | exact rfl)))
    have w2 : n8 (Str.ofString "j1") = some (.int (j1 : Int) t2) := (hn8 _).trans (by (first | exact rfl | assumption | ((try dsimp only); (try simp only [kstB]); (repeat rw [if_neg (by decide)]); first | done | assumption | (rw [if_pos rfl]; done) | (rw [if_pos rfl]; exact rfl) | exact rfl)))
    have w3 : n8 (Str.ofString "k1") = some (.int (k1 : Int) t3) := (hn8 _).trans (by (first | exact rfl | assumption | ((try dsimp only); (try simp only [kstB]); (repeat rw [if_neg (by decide)]); first | done | assumption | (rw [if_pos rfl]; done) | (rw [if_pos rfl]; exact rfl) | exact rfl)))
    have w4 : n8 (Str.ofString "non_adjacent") = some (.ref nd) := (hn8 _).trans (by (first | exact rfl | assumption | ((try dsimp only); (try simp only [kstB]); (repeat rw [if_neg (by decide)]); first | done | assumption | (rw [if_pos rfl]; done) | (rw [if_pos rfl]; exact rfl) | exact rfl)))
    clear F5
    k_extra "N"
    refine and2 (b1 := ((i1 : Int) + (k1 : Int) == (ri : Int))) (b2 := ((j1 : Int) + (k1 : Int) == (rj : Int))) ?q9a ?q9b ?q9t ?q9f
    case q9a => k_steps
    case q9b => (intro _ tk'; k_steps)
    case q9t =>
     intro hb tk'
     have hq : i1 + k1 = ri /\ j1 + k1 = rj := by rw [Bool.and_eq_true, beq_iff_eq, beq_iff_eq] at hb; lia
     clear hb
     k_extra "M"
     all_goals
      (try with_reducible refine zai ?_)
      k_extra "aw"
      refine' zaH (MC.mk (k1 + rk) i1 j1 t1 t2 _ nv nn tl9 ps) eF eN ?el ?er ?eo ?ek ?ez ?ei
      case el => exact fc (.head _) (fun p hp => .tail _ (hYt _ hp))
      case er => exact fun p hp => .tail _ (hYo _ hp)
      case eo => exact hoff
      k_extra "j"
      case ez =>
       k_extra "ao"
      case ei => exact zoC hr9 hI hq
    case q9f =>
     intro hb tk'
     have hq : ¬ (i1 + k1 = ri /\ j1 + k1 = rj) := by rw [Bool.and_eq_false_iff, beq_eq_false_iff_ne, beq_eq_false_iff_ne] at hb; lia
     clear hb
     by_cases hk0 : k1 = 0
     ·subst hk0
      k_extra "M"
      all_goals (try (exfalso; lia))
      all_goals
       (try with_reducible refine zai ?_)
       k_extra "aw"
       refine' zaH (MC.mk rk ri rj _ _ _ nv nn tl9 ps) eF eN ?el ?er ?eo ?ek ?ez ?ei
       case el => exact fc (.tail _ (.head _)) (fun p hp => .tail _ (.tail _ (hYt _ hp)))
       case er => exact fun p hp => .tail _ (.tail _ (hYo _ hp))
       case eo => exact hoff
       k_extra "j"
       case ez =>
        k_extra "ao"
       case ei => exact zqk hr9 hI hq
     ·(try ((show wpAny _ _ _ _ _ _); k_fold))
      k_steps
      all_goals (try (exfalso; lia))
      all_goals
       (try with_reducible refine zai ?_)
       k_extra "aw"
       refine znD eN ?_
       clear eN
       intro T2 T1 p2 p1 eN
       (with_reducible rename nd < T1 /\ AllLt T1 Y => l8)
       refine' zaH (MC.mk rk ri rj _ _ _ (nv ++ [.ref T1]) (nn + 1) ((T1, p1) :: tl9) (ps ++ [(k1, i1, j1)])) eF eN ?el ?er ?eo ?ek ?ez ?ei
       case el => exact fc (.tail _ (.tail _ (.head _))) (fc (.tail _ (.head _)) (fun p hp => .tail _ (.tail _ (.tail _ (hYt _ hp)))))
       case er => exact fun p hp => .tail _ (.tail _ (.tail _ (hYo _ hp)))
       case eo =>
        intro p hp q hq
        revert q
        exact fc (hoff p hp (nd, W.listOf nv.toArray nn) (.head _)) (fc (Nat.ne_of_lt (zb1 l8.2 p (hYo p hp))) (fun q hq => hoff p hp _ (.tail _ hq)))
       k_extra "j"
       case ez =>
        k_extra "ao"
       case ei => exact zqT hr9 hI hq hk0 (Nat.ne_of_gt l8.1) (dat3 (.head _) rfl rfl rfl rfl)
   case done =>
    intro c9 u9 h9 tk9 hI hoff F9 N9
    clear lF lN
    refine bc fun hG9 => ?_; obtain ⟨k1, i1, j1, t1, t2, t3, nv, nn, tl9, ps⟩ := c9; refine hG9 ?_; clear hG9
    dsimp only at F9 N9 hoff
    have hIo := hI.off
    have hIl := hI.len
    have hst := hI.st
    have hdat := hI.dat
    rw [hol, List.take_length] at hst
    dsimp only at hst hIo hIl hdat
    have hend : mend ((k1, i1, j1), ps) = ms := by
     rw [<- hst]
     exact zpq hS (by rw [zfR hS]; exact hm1)
    have hnl : nv.length <= 64 := by
     have h1 := hdat.length
     rw [List.length_map] at h1
     lia
    k_extra "ag"
    have hrow := fun p hp => hoff p hp (nd, W.listOf nv.toArray nn) (.head _)
    obtain ⟨Y, hY⟩ : ∃ Y, Y = tl9 ++ X := ⟨_, rfl⟩
    have hYo : ∀ p ∈ X, p ∈ Y := fun p hp => by rw [hY]; exact List.mem_append_right _ hp
    have hYt : ∀ p ∈ tl9, p ∈ Y := fun p hp => by rw [hY]; exact List.mem_append_left _ hp
    have N8 : News g' L' h9 ((nd, W.listOf nv.toArray nn) :: (self, instObj 242 r.dx) :: (r.dx, OD) :: (la, RA) :: (lb, RB) :: Y) := by
     rw [hY]
     exact fc (N9 _ (.head _)) (zpA (List.forall_mem_append.mpr ⟨fun p hp => N9 p (.tail _ (List.mem_append_left _ hp)), fun p hp => N9 p (.tail _ (List.mem_append_right _ (.tail _ hp)))⟩))
    have yn : ∀ p ∈ Y, p.1 ≠ nd := fun p hp => by
     rw [hY] at hp
     k_extra "n"
     ·exact hIo p hp
     ·exact hrow p (.tail _ (.tail _ (.tail _ (.tail _ (.tail _ hp)))))
    have yd : ∀ p ∈ Y, p.1 ≠ r.dx := fun p hp => by
     rw [hY] at hp
     k_extra "n"
     ·exact Ne.symm (hoff (r.dx, _) (.tail _ (.tail _ (.head _))) p (.tail _ hp))
     ·exact xd p hp
    have hmk9 : OwnMark Y := ⟨⟩
    have sn : self ≠ nd := hrow _ (.tail _ (.head _))
    have dn : r.dx ≠ nd := hrow _ (.tail _ (.tail _ (.head _)))
    have an : la ≠ nd := hrow _ (.tail _ (.tail _ (.tail _ (.head _))))
    have bn : lb ≠ nd := hrow _ (.tail _ (.tail _ (.tail _ (.tail _ (.head _)))))
    clear N9
    (refine x_EA (zfc F9) ?_; intro n8 H8 hn8)
    have w1 : n8 (Str.ofString "i1") = some (.int (i1 : Int) t1) := (hn8 _).trans (by (first | exact rfl | assumption | ((try dsimp only); (try simp only [kstB]); (repeat rw [if_neg (by decide)]); first | done | assumption | (rw [if_pos rfl]; done) | (rw [if_pos rfl]; exact rfl) | exact rfl)))
    have w2 : n8 (Str.ofString "j1") = some (.int (j1 : Int) t2) := (hn8 _).trans (by (first | exact rfl | assumption | ((try dsimp only); (try simp only [kstB]); (repeat rw [if_neg (by decide)]); first | done | assumption | (rw [if_pos rfl]; done) | (rw [if_pos rfl]; exact rfl) | exact rfl)))
    have w3 : n8 (Str.ofString "k1") = some (.int (k1 : Int) t3) := (hn8 _).trans (by (first | exact rfl | assumption | ((try dsimp only); (try simp only [kstB]); (repeat rw [if_neg (by decide)]); first | done | assumption | (rw [if_pos rfl]; done) | (rw [if_pos rfl]; exact rfl) | exact rfl)))
    have w4 : n8 (Str.ofString "non_adjacent") = some (.ref nd) := (hn8 _).trans (by (first | exact rfl | assumption | ((try dsimp only); (try simp only [kstB]); (repeat rw [if_neg (by decide)]); first | done | assumption | (rw [if_pos rfl]; done) | (rw [if_pos rfl]; exact rfl) | exact rfl)))
    have w5 : n8 (Str.ofString "la") = some (.int (as.length : Int) ta) := (hn8 _).trans (by (first | exact rfl | assumption | ((try dsimp only); (try simp only [kstB]); (repeat rw [if_neg (by decide)]); first | done | assumption | (rw [if_pos rfl]; done) | (rw [if_pos rfl]; exact rfl) | exact rfl)))
    have w6 : n8 (Str.ofString "lb") = some (.int (bs.length : Int) tb) := (hn8 _).trans (by (first | exact rfl | assumption | ((try dsimp only); (try simp only [kstB]); (repeat rw [if_neg (by decide)]); first | done | assumption | (rw [if_pos rfl]; done) | (rw [if_pos rfl]; exact rfl) | exact rfl)))
    have w7 : n8 (Str.ofString "self") = some (.ref self) := (hn8 _).trans (by (first | exact rfl | assumption | ((try dsimp only); (try simp only [kstB]); (repeat rw [if_neg (by decide)]); first | done | assumption | (rw [if_pos rfl]; done) | (rw [if_pos rfl]; exact rfl) | exact rfl)))
    clear F9
    refine zeu (fun s' => ∃ h' tk' nv' nn' Y', s' = ⟨h', gs9, dr9, tk', os9⟩ /\ Fr g' L' h' n8 /\ News g' L' h' ((nd, W.listOf (List.toArray nv') nn') :: (self, instObj 242 r.dx) :: (r.dx, OD) :: (la, RA) :: (lb, RB) :: Y') /\ (∀ p ∈ X, p ∈ Y') /\ (∀ p ∈ Y', p.1 ≠ nd) /\ (∀ p ∈ Y', p.1 ≠ r.dx) /\ DatAll Y' nv' (ms.map fun r => tdat (bl r)) /\ nv'.length <= 65) ?jw ?jc
    case jw =>
     by_cases hk0 : k1 = 0
     ·subst hk0
      k_extra "N"
      k_extra "y"
      have hps : ps = ms := hend
      exact ⟨rfl, _, _, nv, nn, Y, rfl, lF, lN, hYo, yn, yd, DatAll.mono hYt (hps ▸ hdat), Nat.le_succ_of_le hnl⟩
     ·(try ((show wpAny _ _ _ _ _ _); k_fold))
      k_steps
      all_goals (try (exfalso; lia))
      k_extra "6"
      k_extra "y"
      refine zj8 lN ?_
      clear lN
      intro T1 oT1 lN
      (with_reducible rename nd < T1 /\ _ /\ r.dx < T1 /\ _ => l8)
      have hps : ps ++ [(k1, i1, j1)] = ms := by
       rw [<- hend]
       unfold mend
       rw [if_pos hk0]
      refine ⟨rfl, _, _, nv ++ [.ref T1], nn + 1, (T1, oT1) :: Y, rfl, lF, ?_, fun p hp => .tail _ (hYo p hp), fc (Nat.ne_of_gt l8.1) yn, fc (Nat.ne_of_gt l8.2.2.1) yd, ?_, ?_⟩
      ·exact fc (lN _ (.tail _ (.head _))) (fc (lN _ (.tail _ (.tail _ (.head _)))) (fc (lN _ (.tail _ (.tail _ (.tail _ (.head _))))) (fc (lN _ (.tail _ (.tail _ (.tail _ (.tail _ (.head _)))))) (fc (lN _ (.tail _ (.tail _ (.tail _ (.tail _ (.tail _ (.head _))))))) (fc (lN _ (.head _)) (fun p hp => lN p (.tail _ (.tail _ (.tail _ (.tail _ (.tail _ (.tail _ hp))))))))))))
      ·rw [<- hps, List.map_append]
       exact DatAll.append (DatAll.mono (fun p hp => .tail _ (hYt p hp)) hdat) (.cons (dat3 (q := (k1, i1, j1)) (.head _) rfl rfl rfl rfl) .nil)
      ·rw [List.length_append, List.length_singleton]
       exact Nat.succ_le_succ hnl
    case jc =>
     clear hYo yn yd hYt hnl hdat N8 H8 hmk9
     intro s8 q98
     k_extra "l"
     obtain ⟨h8', tk8', nv, nn, Y, rfl, H8, N8, hYo, yn, yd, hdat, hnl⟩ := q98
     k_extra "e"
     have hmk9 : OwnMark Y := ⟨⟩
     k_extra "N"
     k_extra "y"
     refine znD lN ?_
     clear lN
     intro q9 D9 p9 o9 lN
     refine zjY lF lN (by k_mem) ?_
     intro mo TT I h8 F8 N8 lI lT lM
     clear lF lN
     k_extra "av"
     have hrl : (ms ++ [(0, as.length, bs.length)]).length <= 1000 := by rw [List.length_append, List.length_singleton]; lia
     refine' zet (rs := ms ++ [(0, as.length, bs.length)]) (xs := nv ++ [.ref D9]) ?kB F8 ?kX N8 ?kT ?kh (.head _) (by k_mem) ?kd lI lT lM hrl ?kd1 ?ku ?_
     case kB => k_asm
     k_extra "al"
     case kd1 => ktr_room
     case ku => ktr_units
     case kd =>
      rw [List.map_append]
      refine DatAll.append (DatAll.mono (fun p hp => .tail _ (.tail _ (.tail _ (.tail _ (.tail _ (.tail _ (.tail _ hp))))))) hdat) (.cons (dat3 (q := (0, as.length, bs.length)) (.tail _ (.head _)) rfl rfl rfl rfl) .nil)
     intro Dl nl vl tl8 h7 tk7 F7 N7 hM7 hD7 ht7
     clear F8 N8
     k_extra "L"
     obtain ⟨Z, hZ⟩ : ∃ Z, Z = tl8 ++ (la, RA) :: (lb, RB) :: Y := ⟨_, rfl⟩
     have N6 : News g' L' h7 ((Dl, W.listOf vl.toArray nl) :: (self, instObj 242 r.dx) :: (r.dx, OD) :: Z) := by
      rw [hZ]
      exact fc (N7 _ (.head _)) (fc (N7 _ (.tail _ (List.mem_append_right _ (.tail _ (.tail _ (.tail _ (.head _))))))) (fc (N7 _ (.tail _ (List.mem_append_right _ (.tail _ (.tail _ (.tail _ (.tail _ (.head _)))))))) (List.forall_mem_append.mpr ⟨fun p hp => N7 p (.tail _ (List.mem_append_left _ hp)), fun p hp => N7 p (.tail _ (List.mem_append_right _ (.tail _ (.tail _ (.tail _ (.tail _ (.tail _ hp)))))))⟩)))
     have zd : ∀ p ∈ Z, p.1 ≠ r.dx := fun p hp => by
      rw [hZ] at hp
      k_extra "n"
      ·exact Ne.symm (ht7 p hp _ (.tail _ (.tail _ (.tail _ (.tail _ (.head _))))))
      refine (?_ : ∀ p ∈ _, p.1 ≠ _) p hp
      exact fc (hoff0 _ (.head _)) (fc (hoff0 _ (.tail _ (.head _))) (fun p hp => yd p hp))
     have Dd : Dl ≠ r.dx := Ne.symm (hD7 _ (List.mem_append_right _ (.tail _ (.tail _ (.tail _ (.tail _ (.head _)))))))
     have hmk6 : OwnMark Z := ⟨⟩
     clear N7
     k_extra "N"
     refine' set_dict ?k1 ?k2 ?k3 ?k4 ?k5 ?k6 ?k7 ?k8 ?k9 ?k10 ?k11 ?k12 ?k13 ?_
     case k1 => k_asm
     case k2 => k_asm
     case k3 => k_asm
     case k4 => k_inst
     case k5 => exact rfl
     case k6 => k_is
     case k7 => k_is
     case k8 => k_is
     case k9 => k_is
     case k10 => k_get
     case k11 => exact rfl
     case k12 => k_upd
     case k13 => exact Nat.le_of_ble_eq_true rfl
     intro h6 F6 N5
     k_extra "L"
     clear N6 F7
     k_extra "as"
     refine hret Dl nl vl tl8 _ _ ms hm1 hm2 kF (fun p hp => kN p ?_) hM7
     k_extra "q"
     ·exact .head _
     refine .tail _ (.tail _ (.tail _ ?_))
     rw [hZ]
     k_extra "n"
     ·exact List.mem_append_left _ hp
     k_extra "q"
     ·exact List.mem_append_right _ (.head _)
     k_extra "q"
     ·exact List.mem_append_right _ (.tail _ (.head _))
     ·exact List.mem_append_right _ (.tail _ (.tail _ (hYo _ (hXr _ hp))))
  ·simp only [List.concat_eq_append] at hIq hIp hIw hIi
   rw [List.map_append] at hIq
   k_extra "l"
   (refine zeK (zgm hIq) ?_; intro ws v q92 hw1 hw2; subst q92)
   k_extra "e"
   refine bc fun hG9 => ?_; obtain ⟨alo, ahi, blo, bhi⟩ := q; refine hG9 ?_; clear hG9
   k_extra "l"
   (refine zil (zhY (a := (alo : Int)) (b := (ahi : Int)) (c := (blo : Int)) (d := (bhi : Int)) hw2) ?_; intro T9 n9 u1 u2 u3 u4 q96 hT9; subst q96)
   k_extra "e"
   have hT8 := hXt _ hT9
   have hin := hIi (alo, ahi, blo, bhi) (List.mem_append_right _ (.head _))
   dsimp only at hin
   have hql : ws.length <= 200 := by
    rw [hw1.length, List.length_map]
    have h1 := zeF S qs'
    rw [zas] at hIw
    lia
   have hml : mv.length < 64 := by
    rw [hIm.length]
    have h1 := hIp.length_eq
    rw [List.length_append] at h1
    lia
   k_extra "N"
   refine zdu (b := true) N8 (.head _) (by rw [List.length_append, List.length_singleton]; lia) (by simp) ?_
   k_extra "av"
   refine zoB G8 N8 (.head (fc (Ne.symm qm) (fc sq (fc dq (fc aq (fc bq xq)))))) (by lia) ?_
   intro h7 G7 N7
   clear G8 N8
   k_extra "av"
   refine' zix (self := self) (la := la) (lb := lb) (as := as) (bs := bs) (alo := alo) (ahi := ahi) (blo := blo) (bhi := bhi) ?kB ?kF ?kX ?kN ?kT ?kh ?kM hin.1 hin.2.1 hin.2.2.1 hin.2.2.2 ⟨by lia, by lia⟩ ?kd ?ku ?_
   k_extra "f"
   case kM =>
    refine ⟨r, hr, fun p hp => .tail _ (.tail _ ?_)⟩
    refine (?_ : ∀ p ∈ (self, instObj 242 r.dx) :: (r.dx, OD) :: (la, RA) :: (lb, RB) :: rest, p ∈ (self, instObj 242 r.dx) :: (r.dx, OD) :: (la, RA) :: (lb, RB) :: X) p (hl p hp)
    exact fc (.head _) (fc (.tail _ (.head _)) (fc (.tail _ (.tail _ (.head _))) (fc (.tail _ (.tail _ (.tail _ (.head _)))) (fun p h => .tail _ (.tail _ (.tail _ (.tail _ (hXr _ h))))))))
   case kd => ktr_room
   case ku => ktr_units
   intro x d h6 tk6 bi bj bk z1 z2 z3 F6 N6 hx6 hd6 hB
   have xm6 : x ≠ md := Ne.symm (hx6 _ (.tail _ (.head _)))
   have dm6 : d ≠ md := Ne.symm (hd6 _ (.tail _ (.head _)))
   have xq6 : x ≠ qd := Ne.symm (hx6 _ (.head _))
   have dq6 : d ≠ qd := Ne.symm (hd6 _ (.head _))
   have mq6 : md ≠ qd := Ne.symm qm
   have hrx : ∀ p ∈ (self, instObj 242 r.dx) :: (r.dx, OD) :: (la, RA) :: (lb, RB) :: rest, p.1 ≠ x := fc (hx6 _ (.tail _ (.tail _ (.head _)))) (fc (hx6 _ (.tail _ (.tail _ (.tail _ (.head _))))) (fc (hx6 _ (.tail _ (.tail _ (.tail _ (.tail _ (.head _)))))) (fc (hx6 _ (.tail _ (.tail _ (.tail _ (.tail _ (.tail _ (.head _))))))) (fun p hp => hx6 p (.tail _ (.tail _ (.tail _ (.tail _ (.tail _ (.tail _ (hXr _ hp)))))))))))
   rcases zoo hS hin.1 hin.2.1 hin.2.2.1 hin.2.2.2 hB with ⟨rfl, hgr⟩ | ⟨i, j, k, rfl, rfl, rfl, hk1, hi1, hi2, hj1, hj2, hgr⟩
   ·(try ((show wpAny _ _ _ _ _ _); k_fold))
    k_extra "d"
    refine zd5 rfl F6 X' N6 (.head _) ?_
    intro h5 F5 N5
    clear F6 N6
    k_extra "N"
    k_extra "c"
    refine zaa (GC.mk ws (qn + 1) mv mn tl qs' mb) eF eN ?el0 ?er0 ?eo0 (fn) ?ez0 ?ei0
    case el0 => exact fc (.tail _ (.tail _ (.head _))) (fc (.tail _ (.tail _ (.tail _ (.head _)))) (fun p hp => .tail _ (.tail _ (.tail _ (.tail _ (.tail _ (.tail _ (.tail _ (.tail _ (hXt _ hp))))))))))
    case er0 => exact fc (.tail _ (.tail _ (.tail _ (.tail _ (.head _))))) (fc (.tail _ (.tail _ (.tail _ (.tail _ (.tail _ (.head _)))))) (fc (.tail _ (.tail _ (.tail _ (.tail _ (.tail _ (.tail _ (.head _))))))) (fc (.tail _ (.tail _ (.tail _ (.tail _ (.tail _ (.tail _ (.tail _ (.head _)))))))) (fun p hp => .tail _ (.tail _ (.tail _ (.tail _ (.tail _ (.tail _ (.tail _ (.tail _ (hXr _ hp))))))))))))
    case eo0 =>
     intro p hp q hq
     revert q
     exact fc (hqo p hp) (fc (hmo p hp) (fun q hq => hoff9 p hp _ (.tail _ (.tail _ hq))))
    case ez0 =>
     k_extra "g"
    case ei0 =>
     rw [List.concat_eq_append]
     exact znY hgr hIp hIi hIw hIo hw1 hIm
   ·(try ((show wpAny _ _ _ _ _ _); k_fold))
    k_extra "d"
    refine zd5 rfl F6 X' N6 (.head _) ?_
    intro h5 F5 N5
    clear F6 N6
    have hgr' := hgr
    k_extra "M"
    all_goals (try (exfalso; lia))
    k_extra "6"
    refine and2 (b1 := decide ((alo : Int) < (i : Int))) (b2 := decide ((blo : Int) < (j : Int))) ?c1a ?c1b ?c1t ?c1f
    case c1a => k_steps
    case c1b => (intro _ tk'; k_steps)
    case c1t =>
     intro hb tk'
     have hc1 : alo < i /\ blo < j := by rw [Bool.and_eq_true, decide_eq_true_eq, decide_eq_true_eq] at hb; lia
     clear hb
     k_extra "N"
     refine and2 (b1 := decide ((i : Int) + (k : Int) < (ahi : Int))) (b2 := decide ((j : Int) + (k : Int) < (bhi : Int))) ?c2a ?c2b ?c2t ?c2f
     case c2a => k_steps
     case c2b => (intro _ tk'; k_steps)
     case c2t =>
      intro hb tk'
      have hc2 : i + k < ahi /\ j + k < bhi := by rw [Bool.and_eq_true, decide_eq_true_eq, decide_eq_true_eq] at hb; lia
      clear hb
      k_extra "M"
      all_goals
       (try with_reducible refine zai ?_)
       k_extra "aw"
       refine znD eN ?_
       clear eN
       intro T2 T1 p2 p1 eN
       k_extra "V"
       (with_reducible rename T1 < T2 /\ _ /\ _ /\ _ /\ _ /\ _ /\ _ /\ _ /\ _ /\ AllLt T2 X => k2)
       refine zaa (GC.mk ((ws ++ [.ref T1]) ++ [.ref T2]) (qn + 1 + 1 + 1) (mv ++ [.ref x]) (mn + 1) ((T2, p2) :: (T1, p1) :: (x, matchObj d (i : Int) z1 (j : Int) z2 (k : Int) z3) :: tl) (qs' ++ [(alo, i, blo, j), (i + k, ahi, j + k, bhi)]) (mb ++ [(k, i, j)])) eF eN ?eltt ?ertt ?eott (fn) ?eztt ?eitt
       case eltt => exact fc (.tail _ (.tail _ (.tail _ (.tail _ (.head _))))) (fc (.tail _ (.tail _ (.tail _ (.tail _ (.tail _ (.head _)))))) (fc (.head _) (fc (.tail _ (.head _)) (fc (.tail _ (.tail _ (.head _))) (fun p hp => .tail _ (.tail _ (.tail _ (.tail _ (.tail _ (.tail _ (.tail _ (.tail _ (.tail _ (.tail _ (hXt _ hp)))))))))))))))
       case ertt => exact fc (.tail _ (.tail _ (.tail _ (.tail _ (.tail _ (.tail _ (.head _))))))) (fc (.tail _ (.tail _ (.tail _ (.tail _ (.tail _ (.tail _ (.tail _ (.head _)))))))) (fc (.tail _ (.tail _ (.tail _ (.tail _ (.tail _ (.tail _ (.tail _ (.tail _ (.head _))))))))) (fc (.tail _ (.tail _ (.tail _ (.tail _ (.tail _ (.tail _ (.tail _ (.tail _ (.tail _ (.head _)))))))))) (fun p hp => .tail _ (.tail _ (.tail _ (.tail _ (.tail _ (.tail _ (.tail _ (.tail _ (.tail _ (.tail _ (hXr _ hp))))))))))))))
       case eott =>
        intro p hp q hq
        revert q
        exact fc (hqo p hp) (fc (hmo p hp) (fc (low5 k2.2.2.2.2.2 hXr p hp) (fc (low5 k1.2.2.2.2 hXr p hp) (fc (hrx p hp) (fun q hq => hoff9 p hp _ (.tail _ (.tail _ hq)))))))
       case eztt =>
        k_extra "g"
       case eitt =>
        rw [List.concat_eq_append]
        refine zd3 hS hgr hIp hIi hIw hi1 hi2 hj1 hj2 (znw hc1 hc2) ?_ ?_ (MatAll.append (.cons (.tail _ (.tail _ (.head _))) .nil) (hIm.mono fun p hp => .tail _ (.tail _ (.tail _ (hp)))))
        ·exact fc ⟨Nat.ne_of_gt k2.2.2.2.1, Nat.ne_of_gt k2.2.2.2.2.1⟩ (fc ⟨Nat.ne_of_gt k1.2.2.1, Nat.ne_of_gt k1.2.2.2.1⟩ (fc ⟨xq6, xm6⟩ hIo))
        ·rw [List.map_append, List.append_assoc]
         exact DatAll.append (hw1.mono fun p hp => .tail _ (.tail _ (.tail _ (hp)))) (.cons (dat4 (.tail _ (.head _)) rfl rfl rfl rfl rfl) (.cons (dat4 (.head _) rfl (Int.natCast_add _ _).symm rfl (Int.natCast_add _ _).symm rfl) .nil))
     case c2f =>
      intro hb tk'
      have hc2 : ¬ (i + k < ahi /\ j + k < bhi) := by rw [Bool.and_eq_false_iff, decide_eq_false_iff_not, decide_eq_false_iff_not] at hb; lia
      clear hb
      k_extra "M"
      all_goals
       (try with_reducible refine zai ?_)
       k_extra "aw"
       refine zj8 eN ?_
       clear eN
       intro T1 p1 eN
       k_extra "V"
       refine zaa (GC.mk (ws ++ [.ref T1]) (qn + 1 + 1) (mv ++ [.ref x]) (mn + 1) ((T1, p1) :: (x, matchObj d (i : Int) z1 (j : Int) z2 (k : Int) z3) :: tl) (qs' ++ [(alo, i, blo, j)]) (mb ++ [(k, i, j)])) eF eN ?eltf ?ertf ?eotf (fn) ?eztf ?eitf
       case eltf => exact fc (.tail _ (.tail _ (.tail _ (.head _)))) (fc (.tail _ (.tail _ (.tail _ (.tail _ (.head _))))) (fc (.head _) (fc (.tail _ (.head _)) (fun p hp => .tail _ (.tail _ (.tail _ (.tail _ (.tail _ (.tail _ (.tail _ (.tail _ (.tail _ (hXt _ hp)))))))))))))
       case ertf => exact fc (.tail _ (.tail _ (.tail _ (.tail _ (.tail _ (.head _)))))) (fc (.tail _ (.tail _ (.tail _ (.tail _ (.tail _ (.tail _ (.head _))))))) (fc (.tail _ (.tail _ (.tail _ (.tail _ (.tail _ (.tail _ (.tail _ (.head _)))))))) (fc (.tail _ (.tail _ (.tail _ (.tail _ (.tail _ (.tail _ (.tail _ (.tail _ (.head _))))))))) (fun p hp => .tail _ (.tail _ (.tail _ (.tail _ (.tail _ (.tail _ (.tail _ (.tail _ (.tail _ (hXr _ hp)))))))))))))
       case eotf =>
        intro p hp q hq
        revert q
        exact fc (hqo p hp) (fc (hmo p hp) (fc (low5 k1.2.2.2.2 hXr p hp) (fc (hrx p hp) (fun q hq => hoff9 p hp _ (.tail _ (.tail _ hq))))))
       case eztf =>
        k_extra "g"
       case eitf =>
        rw [List.concat_eq_append]
        refine zd3 hS hgr hIp hIi hIw hi1 hi2 hj1 hj2 (znX hc1 hc2) ?_ ?_ (MatAll.append (.cons (.tail _ (.head _)) .nil) (hIm.mono fun p hp => .tail _ (.tail _ (hp))))
        ·exact fc ⟨Nat.ne_of_gt k1.2.2.1, Nat.ne_of_gt k1.2.2.2.1⟩ (fc ⟨xq6, xm6⟩ hIo)
        ·rw [List.map_append]
         exact DatAll.append (hw1.mono fun p hp => .tail _ (.tail _ (hp))) (.cons (dat4 (.head _) rfl rfl rfl rfl rfl) .nil)
    case c1f =>
     intro hb tk'
     have hc1 : ¬ (alo < i /\ blo < j) := by rw [Bool.and_eq_false_iff, decide_eq_false_iff_not, decide_eq_false_iff_not] at hb; lia
     clear hb
     k_extra "N"
     refine and2 (b1 := decide ((i : Int) + (k : Int) < (ahi : Int))) (b2 := decide ((j : Int) + (k : Int) < (bhi : Int))) ?c3a ?c3b ?c3t ?c3f
     case c3a => k_steps
     case c3b => (intro _ tk'; k_steps)
     case c3t =>
      intro hb tk'
      have hc2 : i + k < ahi /\ j + k < bhi := by rw [Bool.and_eq_true, decide_eq_true_eq, decide_eq_true_eq] at hb; lia
      clear hb
      k_extra "M"
      all_goals
       (try with_reducible refine zai ?_)
       k_extra "aw"
       refine zj8 eN ?_
       clear eN
       intro T1 p1 eN
       k_extra "V"
       refine zaa (GC.mk (ws ++ [.ref T1]) (qn + 1 + 1) (mv ++ [.ref x]) (mn + 1) ((T1, p1) :: (x, matchObj d (i : Int) z1 (j : Int) z2 (k : Int) z3) :: tl) (qs' ++ [(i + k, ahi, j + k, bhi)]) (mb ++ [(k, i, j)])) eF eN ?elft ?erft ?eoft (fn) ?ezft ?eift
       case elft => exact fc (.tail _ (.tail _ (.tail _ (.head _)))) (fc (.tail _ (.tail _ (.tail _ (.tail _ (.head _))))) (fc (.head _) (fc (.tail _ (.head _)) (fun p hp => .tail _ (.tail _ (.tail _ (.tail _ (.tail _ (.tail _ (.tail _ (.tail _ (.tail _ (hXt _ hp)))))))))))))
       case erft => exact fc (.tail _ (.tail _ (.tail _ (.tail _ (.tail _ (.head _)))))) (fc (.tail _ (.tail _ (.tail _ (.tail _ (.tail _ (.tail _ (.head _))))))) (fc (.tail _ (.tail _ (.tail _ (.tail _ (.tail _ (.tail _ (.tail _ (.head _)))))))) (fc (.tail _ (.tail _ (.tail _ (.tail _ (.tail _ (.tail _ (.tail _ (.tail _ (.head _))))))))) (fun p hp => .tail _ (.tail _ (.tail _ (.tail _ (.tail _ (.tail _ (.tail _ (.tail _ (.tail _ (hXr _ hp)))))))))))))
       case eoft =>
        intro p hp q hq
        revert q
        exact fc (hqo p hp) (fc (hmo p hp) (fc (low5 k1.2.2.2.2 hXr p hp) (fc (hrx p hp) (fun q hq => hoff9 p hp _ (.tail _ (.tail _ hq))))))
       case ezft =>
        k_extra "g"
       case eift =>
        rw [List.concat_eq_append]
        refine zd3 hS hgr hIp hIi hIw hi1 hi2 hj1 hj2 (zn5 hc1 hc2) ?_ ?_ (MatAll.append (.cons (.tail _ (.head _)) .nil) (hIm.mono fun p hp => .tail _ (.tail _ (hp))))
        ·exact fc ⟨Nat.ne_of_gt k1.2.2.1, Nat.ne_of_gt k1.2.2.2.1⟩ (fc ⟨xq6, xm6⟩ hIo)
        ·rw [List.map_append]
         exact DatAll.append (hw1.mono fun p hp => .tail _ (.tail _ (hp))) (.cons (dat4 (.head _) rfl (Int.natCast_add _ _).symm rfl (Int.natCast_add _ _).symm rfl) .nil)
     case c3f =>
      intro hb tk'
      have hc2 : ¬ (i + k < ahi /\ j + k < bhi) := by rw [Bool.and_eq_false_iff, decide_eq_false_iff_not, decide_eq_false_iff_not] at hb; lia
      clear hb
      k_extra "M"
      all_goals
       (try with_reducible refine zai ?_)
       k_extra "aw"
       refine zaa (GC.mk (ws) (qn + 1) (mv ++ [.ref x]) (mn + 1) ((x, matchObj d (i : Int) z1 (j : Int) z2 (k : Int) z3) :: tl) (qs' ++ []) (mb ++ [(k, i, j)])) eF eN ?elff ?erff ?eoff (fn) ?ezff ?eiff
       case elff => exact fc (.tail _ (.tail _ (.head _))) (fc (.tail _ (.tail _ (.tail _ (.head _)))) (fc (.head _) (fun p hp => .tail _ (.tail _ (.tail _ (.tail _ (.tail _ (.tail _ (.tail _ (.tail _ (hXt _ hp)))))))))))
       case erff => exact fc (.tail _ (.tail _ (.tail _ (.tail _ (.head _))))) (fc (.tail _ (.tail _ (.tail _ (.tail _ (.tail _ (.head _)))))) (fc (.tail _ (.tail _ (.tail _ (.tail _ (.tail _ (.tail _ (.head _))))))) (fc (.tail _ (.tail _ (.tail _ (.tail _ (.tail _ (.tail _ (.tail _ (.head _)))))))) (fun p hp => .tail _ (.tail _ (.tail _ (.tail _ (.tail _ (.tail _ (.tail _ (.tail _ (hXr _ hp))))))))))))
       case eoff =>
        intro p hp q hq
        revert q
        exact fc (hqo p hp) (fc (hmo p hp) (fc (hrx p hp) (fun q hq => hoff9 p hp _ (.tail _ (.tail _ hq)))))
       case ezff =>
        k_extra "g"
       case eiff =>
        rw [List.concat_eq_append]
        refine zd3 hS hgr hIp hIi hIw hi1 hi2 hj1 hj2 (zow hc1 hc2) ?_ ?_ (MatAll.append (.cons (.head _) .nil) (hIm.mono fun p hp => .tail _ (hp)))
        ·exact fc ⟨xq6, xm6⟩ hIo
        ·rw [List.append_nil]; exact hw1.mono fun p hp => .tail _ hp
structure SmNews (w : World) (sf la lb : Addr) (avs bvs : List Value) (as bs : List Int) (na nb : Nat) (rest : List (Addr × Obj)) (r : SmR) (rest' : List (Addr × Obj)) : Prop where
 ok : SmOk w sf la lb as bs r
 led : ∀ p ∈ r.led w sf la lb, p ∈ (sf, instObj 242 r.dx) :: (r.dx, dictOf (smEs w.params r.t0 r.t1 r.t2 r.t3 r.t4 r.t5 r.t6 r.t7 r.t8 r.t9 (.ref la) (.ref lb) .none .none .none (.ref r.db) (.ref r.jk) (.ref r.pp)) r.nd) :: (la, W.listOf r.avs.toArray r.na) :: (lb, W.listOf r.bvs.toArray r.nb) :: rest'
 off : ∀ p ∈ (la, W.listOf r.avs.toArray r.na) :: (lb, W.listOf r.bvs.toArray r.nb) :: rest', p.1 ≠ r.dx
 self_ne : sf ≠ r.dx
 sub : ∀ p ∈ rest, p ∈ rest'
theorem zf2 {g h : Heap} {b1 d1 d2 : Addr × Obj} {tl rest' : List (Addr × Obj)} (N : News g L h (b1 :: (tl ++ d1 :: d2 :: rest'))) (hs : ∀ p ∈ rest, p ∈ rest') : News g L h (d2 :: d1 :: b1 :: (rest ++ (tl ++ rest'))) := fun p hp => N p (by
 k_extra "q"
 ·exact .tail _ (List.mem_append_right _ (.tail _ (.head _)))
 k_extra "q"
 ·exact .tail _ (List.mem_append_right _ (.head _))
 k_extra "q"
 ·exact .head _
 k_extra "n"
 ·exact .tail _ (List.mem_append_right _ (.tail _ (.tail _ (hs p hp))))
 k_extra "n"
 ·exact .tail _ (List.mem_append_left _ hp)
 ·exact .tail _ (List.mem_append_right _ (.tail _ (.tail _ hp))))
theorem zlD {loose : List Str} {mb : Str -> Option Value}
  {cs : Scope} {a : Addr} {Q : Value -> Shared -> Prop}
  (B : Below A₀ base outer h₀) (F : Fr h₀ L s.heap m) (X : (K w.params).In h₀) (T : Top q loose mean mg mb h₀) (hk : cs.kind = .function)
  {la lb : Addr} {avs bvs : List Value} {as bs : List Int} {na nb : Nat} (N : News h₀ L s.heap ((la, W.listOf avs.toArray na) :: (lb, W.listOf bvs.toArray nb) :: rest)) (ha : IntsAre avs as) (hb : IntsAre bvs bs) (hlb : bs.length < 200)
  (hdp : dp + 20 < recursionLimit) (hun : un + 100 < cLine)
  (hret : ∀ self r rest' h' tk', Fr h₀ L h' m -> SmNews w self la lb avs bvs as bs na nb rest r rest' -> News h₀ L h' ((self, instObj 242 r.dx) :: (r.dx, dictOf (smEs w.params r.t0 r.t1 r.t2 r.t3 r.t4 r.t5 r.t6 r.t7 r.t8 r.t9 (.ref la) (.ref lb) .none .none .none (.ref r.db) (.ref r.jk) (.ref r.pp)) r.nd) :: (la, W.listOf r.avs.toArray r.na) :: (lb, W.listOf r.bvs.toArray r.nb) :: rest') -> r.avs = avs -> r.na = na -> r.bvs = bvs -> r.nb = nb -> Q (.ref self) { s with heap := h', toks := tk' }) :
  wpAny (model PySem.Challenge.rw_rt0114_02.row.prog w) (ktrTop dp un gd cn cs L a ccd cl outer) (call (.ref 242) [.none, .ref la, .ref lb]) Q E s := by
 refine znT B F X T hk N ha hb hlb hdp hun ?_
 intro self dx jk pp db c l1 l2 t0 t1 t2 t3 t4 t5 t6 t7 t8 t9 h1 k1 F1 hcb hdb hq1 hq2 hof N1
 refine hret self ⟨dx, db, jk, pp, c, avs, bvs, na, nb, 10, l2, t0, t1, t2, t3, t4, t5, t6, t7, t8, t9⟩ ((pp, setObj l1) :: (jk, setObj l2) :: (db, c.o) :: (rest ++ c.ls.map CB.row)) h1 k1 F1 ⟨⟨hcb, hdb, hq1, hq2, ha, hb⟩, ?_, ?_, hof.2, fun p hp => .tail _ (.tail _ (.tail _ (List.mem_append_left _ hp)))⟩ (fun p hp => N1 p ?_) rfl rfl rfl rfl
 ·intro p hp
  simp only [SmR.led, List.mem_cons] at hp
  rcases hp with rfl | rfl | rfl | rfl | rfl | rfl | hp
  ·exact .head _
  ·exact .tail _ (.head _)
  ·exact .tail _ (.tail _ (.head _))
  ·exact .tail _ (.tail _ (.tail _ (.head _)))
  ·exact .tail _ (.tail _ (.tail _ (.tail _ (.tail _ (.tail _ (.head _))))))
  ·exact .tail _ (.tail _ (.tail _ (.tail _ (.tail _ (.head _)))))
  ·exact .tail _ (.tail _ (.tail _ (.tail _ (.tail _ (.tail _ (.tail _ (List.mem_append_right _ hp)))))))
 ·intro p hp
  simp only [List.mem_cons] at hp
  have h := hof.1
  simp only [List.forall_mem_cons] at h
  rcases hp with rfl | rfl | rfl | rfl | rfl | hp
  ·exact h.2.2.2.1
  ·exact h.2.2.2.2.1
  ·exact h.1
  ·exact h.2.1
  ·exact h.2.2.1
  ·exact h.2.2.2.2.2 p hp
 ·simp only [List.mem_cons] at hp
  rcases hp with rfl | rfl | rfl | rfl | rfl | rfl | rfl | hp
  ·exact .tail _ (.tail _ (.tail _ (.head _)))
  ·exact .tail _ (.tail _ (.tail _ (.tail _ (.head _))))
  ·exact .tail _ (.tail _ (.tail _ (.tail _ (.tail _ (.head _)))))
  ·exact .tail _ (.tail _ (.tail _ (.tail _ (.tail _ (.tail _ (.head _))))))
  ·exact .head _
  ·exact .tail _ (.head _)
  ·exact .tail _ (.tail _ (.head _))
  ·exact .tail _ (.tail _ (.tail _ (.tail _ (.tail _ (.tail _ (.tail _ hp))))))
example : True := by
 k_with_none
 k_with "l" => refine bc fun hG9 => ?_
 k_with "e" => (refine hG9 ?_; clear hG9)
 k_with "t" => (k_extra "l"; (refine x_EA (List.mem_map.mp hd) ?_; intro x _ q92; subst q92); k_extra "e")
 k_with "au" => (have a6 := sig_wid rA.len; have b6 := sig_wid rB.len)
 k_with "d" => (k_steps; (try with_reducible refine zai ?_); (try dsimp only))
 k_with "w" => (k_extra "d"; refine zh5 (lawA L' fa cd) ?_)
 k_with "al" => ((case kX => k_asm); (case kT => k_asm); case kh => exact rfl)
 k_with "i" => ((case kd => exact Nat.lt_of_le_of_lt (by decide) law_dp); case ku => exact Nat.lt_of_le_of_lt (by decide) law_un)
 k_with "f" => ((case kB => k_asm); (case kF => k_asm); (case kX => k_asm); (case kN => k_asm); (case kT => k_asm); case kh => exact rfl)
 k_with "ad" => (k_extra "f"; k_extra "i")
 k_with "b" => (k_steps; (try with_reducible refine zai ?_); (try dsimp only); (with_reducible rename Fr _ _ _ _ => wF); (with_reducible rename News _ _ _ _ => wN))
 k_with "L" => (try dsimp only)
 k_with "O" => (with_reducible rename _ /\ _ /\ _ /\ _ /\ _ /\ _ /\ _ => lT)
 k_with "aM" => rw [List.take_add_one, hb, List.map_append]
 k_with "ab" => (try simp only [List.cons_append, List.nil_append])
 k_with "aL" => (k_extra "ad"; case h1 => k_mem)
 k_with "ar" => (try simp only [List.cons_append, List.nil_append] at N9)
 k_with "opd" => (first | with_reducible exact o_i | ((with_reducible show Opd _ _ _ (Expr.Name _ _) _ _ _); k_dflt (exact o_n (by k_asm) (by first | with_reducible assumption | exact rfl | assumption | (dsimp only; (repeat rw [if_neg (by decide)]); first | assumption | (rw [if_pos rfl]))) rfl rfl rfl)))
 k_with "isTrue Compare" => (k_here; k_dflt (refine' zkn (by k_extra "opd") (by k_extra "opd") (by with_unfolding_all rfl) ?_; k_whole))
 k_with "execs cons" => (k_here; (try k_gentoks); (with_reducible refine zf9 ?_); (try dsimp only))
 k_with "Seq" => (first | with_reducible refine zgd ?_ | with_reducible refine zh2 ?_ | with_reducible refine zhF ?_ | with_reducible refine zfE ?_)
 k_with "storeName" => (k_here; (with_reducible show wpAny _ _ (storeName _ _ _) _ _ _); (try dsimp only); k_dflt (refine' zhb (by k_asm) (by k_asm) ?_ rfl rfl; k_whole); intro tk' h' m' F' N'; (try k_sweep))
 k_with "storeName" => (k_here; (with_reducible show wpAny _ _ (storeName _ _ (Value.int _ _)) _ _ _); (try dsimp only); k_dflt (refine' zit (by k_asm) (by k_asm) ?_ rfl rfl; k_whole); intro t' tk' h' m' F' N'; (try k_sweep))
 k_with "k_ne" => ((refine neN ?_; (try dsimp only); first | (with_reducible assumption) | (refine Ne.symm ?_; with_reducible assumption) | lia))
 k_with "k_lt" => (intro ltq9; ((try (have hne9 := zkz (by assumption) ltq9 (by (intro p hp; repeat (first | exact hp | refine zbN ?_))))); replace ltq9 := allLt_of ltq9; simp only [AllLt, and_true] at ltq9))
 k_with "k_mem" => (first | with_reducible assumption | exact zf8 | (refine zbN ?_; k_mem))
 k_with "k_all" => (with_reducible assumption)
 k_with "eval Name" => (k_here; k_dflt (refine' nameX_L (by k_asm) (by first | assumption | exact rfl | (dsimp only; (repeat rw [if_neg (by decide)]); first | assumption | (rw [if_pos rfl]))) ?_ rfl rfl; k_whole))
 k_with "call ref" => (refine hold ?_)
 k_with "eval ListComp" => (k_here; (with_reducible show wpAny _ _ (eval (Expr.ListComp _ [⟨Expr.Name _ _, _, [_], _⟩] _ _) _) _ _ _); k_dflt (refine LCt.ListComp_T (F₀ := by k_asm) (by with_unfolding_all rfl) (by decide) (by rfl) (by decide) (by rfl) ?_))
 k_with "eval ListComp" => (k_here; (with_reducible show wpAny _ _ (eval (Expr.ListComp _ [⟨Expr.Name _ _, _, [], _⟩] _ _) _) _ _ _); k_dflt (refine LCg.ListComp_U (F₀ := by k_asm) (by with_unfolding_all rfl) (by decide) (by rfl) (by decide) (by rfl) ?_))
 k_with "CompSrc" => (refine hold ?_)
 k_with "CompEnd" => (refine hold ?_)
 k_with "compareOp NotEq ref ref" => (refine hold ?_)
 k_with "newTuple" => (k_here; k_dflt (refine' kup_newTuple (by k_asm) (by k_asm) ?_ (by kmk_size)); intro D' h' F' N' l1; (try k_lt l1); (try k_sweep))
 k_with "call builtin:len" => (refine hold ?_)
 k_with "Src3" => (refine hold ?_)
 k_with "compareOp Eq ref ref" => (refine hold ?_)
 k_with "eval ListComp" => (k_here; (with_reducible show wpAny _ _ (eval (Expr.ListComp _ [⟨Expr.Tuple _ _ _, _, [], _⟩] _ _) _) _ _ _); (with_reducible rename Fr _ _ _ _ => F'); k_dflt (refine comp3 F' (by with_unfolding_all rfl) (by decide) (by rfl) (by decide) (by rfl) (by rfl) (by rfl) (by decide) (by decide) (by decide) ?_ (by intro _; rfl)))
 k_with "call type:tuple" => (refine hold ?_)
 trivial
theorem nlet1 {h : Heap} {a : Addr} {o1 : Obj} {r : List (Addr × Obj)} {G : Prop} (N : News h₀ L h ((a, o1) :: r)) (k : let x := a; News h₀ L h ((x, o1) :: r) -> G) : G := k N
theorem zf1 (ms : List Run) (la lb : Nat) : ((ms ++ [(0, la, lb)]).map fun r => tdat (bl r)) = (ms.map bl ++ [[(la : Int), (lb : Int), 0]]).map tdat := by
 rw [List.map_append, List.map_append, List.map_map]
 rfl
theorem ziA (rs : List Run) : (rs.map fun r => rdat (zb4 r)) = (rs.map zb4).map rdat := by rw [List.map_map]; rfl
theorem zph {ms : List Run} : ∀ d ∈ (ms.map fun r => tdat (bl r)), kqdOk 8 d = true := fun d hd => by
 k_extra "t"
 exact zbi _
theorem zoR {ls : List (List Int)} : ∀ d ∈ ls.map tdat, kqdOk 8 d = true := fun d hd => by
 k_extra "t"
 exact zbi _
theorem zop {α : Type} (a : List α) {t b : List α} {p : α} (h : p ∈ a ++ b) : p ∈ a ++ (t ++ b) := (List.mem_append.mp h).elim (fun h => List.mem_append_left _ h) fun h => List.mem_append_right _ (List.mem_append_right _ h)
theorem lawL3 {loose : List Str} {mb : Str -> Option Value} {g : Heap} {L' fa : Addr} {cd : Value} {Q : Flow -> Shared -> Prop} 
  {oA oB : List Int} {z1 z2 rv : List Value} {n1 n2 rn : Nat} {D1 D2 lr : Addr} {o1 o2 o3 o4 : Obj} {v3 v4 : Option Value} {ty : List (Addr × Obj)}
  (B : Below callerA base [] g) (F : Fr g L' s.heap m) (X : (K w.params).In g) (XB : (K w.params).In base) (T : Top Mine.q loose mean mg mb g) (TB : Top Mine.q loose mean mg mb base)
  (N : News g L' s.heap ((D2, W.listOf z2.toArray n2) :: (D1, W.listOf z1.toArray n1) :: (lr, W.listOf rv.toArray rn) :: (L' + 1 + 1 + 1 + 1, o4) :: (L' + 1 + 1 + 1, o3) :: (L' + 1 + 1, o2) :: (L' + 1, o1) :: ty)) (d1 : o1.data = .cell (some (.ref D1))) (d2 : o2.data = .cell (some (.ref D2))) (d3 : o3.data = .cell v3) (d4 : o4.data = .cell v4)
  (i1 : IntsAre z1 (sigL oA)) (i2 : IntsAre z2 (sigL oB)) (rA : RowOK oA) (rB : RowOK oB) (f1 : m (Str.ofString "runs") = some (.ref lr)) (hdt : DatAll ty rv ((zae (sigL oA) (sigL oB)).map rdat)) (ho1 : zbL ((zae (sigL oA) (sigL oB)).map rl)) (ho2 : zbL (((zae (sigL oA) (sigL oB)).map zb4).map rl)) (h500 : (zae (sigL oA) (sigL oB)).length <= 500)
  (hE : PassesOwn (model PySem.Challenge.rw_rt0114_02.row.prog w) (callerA.deeper (zan L' fa cd)) (zan L' fa cd) E)
  (hret : ∀ h' tk' m' news', Fr g L' h' m' -> News g L' h' news' -> Q (.ret (.bool true)) { s with heap := h', toks := tk' }) :
  wpAny (model PySem.Challenge.rw_rt0114_02.row.prog w) (callerA.deeper (zan L' fa cd)) (execs ((bd 21).drop 8) (zan L' fa cd)) Q E s := by
 revert X; k_fill; intro X
 (conv in (execs _ _) => arg 1; whnf)
 k_extra "au"
 (refine x_EA (zeH (zae (sigL oA) (sigL oB)) (zao (by exact Nat.le_trans a6 (Nat.le_of_lt (Nat.lt_succ_of_le (Nat.le_add_left 6 57)))))) ?_; intro S hS1 hS2)
 have hR := zhS (S := S) (as := sigL oA) (bs := sigL oB) (by exact Nat.le_trans a6 (Nat.le_of_lt (Nat.lt_succ_of_le (Nat.le_add_left 6 57)))) hS1 (hS2.imp fun h h' => zaK h h')
 have hG := zaM hR a6
 (refine x_EA (zeH ((zae (sigL oA) (sigL oB)).map zb4) (zdk (zao (by exact Nat.le_trans a6 (Nat.le_of_lt (Nat.lt_succ_of_le (Nat.le_add_left 6 57))))))) ?_; intro S2 hS3 hS4)
 have hR2 := zcg (S := S2) (as := sigL oA) (bs := sigL oB) (by exact Nat.le_trans a6 (Nat.le_of_lt (Nat.lt_succ_of_le (Nat.le_add_left 6 57)))) hS3 (hS4.imp fun h h' => zaK h h')
 have hG2 := zaM hR2 b6
 k_extra "w"
 refine' zlD (cs := zaZ) (na := n1) (nb := n2) (rest := (lr, W.listOf rv.toArray rn) :: (L' + 1 + 1 + 1 + 1, o4) :: (L' + 1 + 1 + 1, o3) :: (L' + 1 + 1, o2) :: (L' + 1, o1) :: ty) ?kB ?kF ?kX ?kT ?kh ?kN i1 i2 ?kl ?kd ?ku ?_
 case kB => k_asm
 case kF => k_asm
 k_extra "al"
 k_extra "i"
 case kN => (refine zob ?_; k_asm)
 case kl => exact Nat.lt_of_le_of_lt b6 (Nat.lt_succ_of_le (Nat.le_of_lt (by decide)))
 intro sf r rest' h1 k1 F1 M1 N1 e1 e2 e3 e4
 k_extra "w"
 refine' zgi (cs := zaZ) ?kB ?kF ?kX ?kN ?kT ?kh M1.ok M1.led rfl M1.off M1.self_ne hR hG ?h1 ?h2 ?kd ?ku ?_
 k_extra "ad"
 case h1 => exact Nat.le_trans a6 (Nat.le_of_lt (Nat.lt_succ_of_le (Nat.le_add_left 6 57)))
 case h2 => exact Nat.le_trans b6 (Nat.le_of_lt (Nat.lt_succ_of_le (Nat.le_add_left 6 57)))
 intro th bn bv tl2 h2 k2 ms hm1 hm2 F2 N2 hM2
 have hbv : bv.length <= 64 := by rw [hM2.length, List.length_append, hm1.length_eq]; exact Nat.succ_le_of_lt hG.1
 rw [e1, e2, e3, e4] at N2
 replace N2 := zf2 N2 M1.sub
 obtain ⟨X1, hX1⟩ : ∃ X1, X1 = ty ++ (tl2 ++ rest') := ⟨_, rfl⟩
 simp only [List.cons_append] at N2
 rw [<- hX1] at N2
 have hXy : ∀ p ∈ ty, p ∈ X1 := fun p hp => by rw [hX1]; exact List.mem_append_left _ hp
 have hXm : ∀ p ∈ tl2, p ∈ X1 := fun p hp => by rw [hX1]; exact List.mem_append_right _ (List.mem_append_left _ hp)
 clear hX1 N1 M1 e1 e2 e3 e4 F1
 k_extra "w"
 refine' zlD (cs := zaZ) (na := n2) (nb := n1) (rest := (th, W.listOf bv.toArray bn) :: (lr, W.listOf rv.toArray rn) :: (L' + 1 + 1 + 1 + 1, o4) :: (L' + 1 + 1 + 1, o3) :: (L' + 1 + 1, o2) :: (L' + 1, o1) :: X1) ?kB ?kF ?kX ?kT ?kh ?kN i2 i1 ?kl ?kd ?ku ?_
 case kB => k_asm
 case kF => k_asm
 k_extra "al"
 k_extra "i"
 case kN => k_asm
 case kl => exact Nat.lt_of_le_of_lt a6 (Nat.lt_succ_of_le (Nat.le_of_lt (by decide)))
 intro sf r rest' h1 k1 F1 M1 N1 e1 e2 e3 e4
 k_extra "w"
 refine' zgi (cs := zaZ) ?kB ?kF ?kX ?kN ?kT ?kh M1.ok M1.led rfl M1.off M1.self_ne hR2 hG2 ?h1 ?h2 ?kd ?ku ?_
 k_extra "ad"
 case h1 => exact Nat.le_trans b6 (Nat.le_of_lt (Nat.lt_succ_of_le (Nat.le_add_left 6 57)))
 case h2 => exact Nat.le_trans a6 (Nat.le_of_lt (Nat.lt_succ_of_le (Nat.le_add_left 6 57)))
 intro bk bn2 bv2 tl3 h3 k3 ms2 hm3 hm4 F3 N3 hM3
 have hbv2 : bv2.length <= 64 := by rw [hM3.length, List.length_append, hm3.length_eq]; exact Nat.succ_le_of_lt hG2.1
 rw [e1, e2, e3, e4] at N3
 replace N3 := zf2 N3 M1.sub
 obtain ⟨X2, hX2⟩ : ∃ X2, X2 = X1 ++ (tl3 ++ rest') := ⟨_, rfl⟩
 simp only [List.cons_append] at N3
 rw [<- hX2] at N3
 replace hXy : ∀ p ∈ ty, p ∈ X2 := fun p hp => by rw [hX2]; exact List.mem_append_left _ (hXy p hp)
 replace hXm : ∀ p ∈ tl2, p ∈ X2 := fun p hp => by rw [hX2]; exact List.mem_append_left _ (hXm p hp)
 have hXk : ∀ p ∈ tl3, p ∈ X2 := fun p hp => by rw [hX2]; exact List.mem_append_right _ (List.mem_append_left _ hp)
 clear hX2 N1 M1 e1 e2 e3 e4 F1
 k_extra "b"
 refine LCg.CompSrc.ledger rfl wF wN (by k_mem) (by rw [List.size_toArray, sizeLine_eq]; exact Nat.le_trans hbv (by decide)) ?_
 intro g9
 refine' zbP (fun q ys nw => ∃ tt, nw = (D1, W.listOf z1.toArray n1) :: (D2, W.listOf z2.toArray n2) :: (bk, W.listOf bv2.toArray bn2) :: (th, W.listOf bv.toArray bn) :: (lr, W.listOf rv.toArray rn) :: (L' + 1 + 1 + 1 + 1, o4) :: (L' + 1 + 1 + 1, o3) :: (L' + 1 + 1, o2) :: (L' + 1, o1) :: (tt ++ X2) /\ DatAll tt ys (((ms ++ [(0, (sigL oA).length, (sigL oB).length)]).take q).map fun r => tdat (bl r))) ?turna ⟨[], rfl, .nil⟩ ?fina
 case turna =>
  intro q v ys nw I oI C oC Dd m2 h9 tk9 E9 hin hv9 q915 hC9 hx9 F9 N9 off9 ne9
  k_extra "l"
  (refine x_EA (q915) ?_; clear q915; intro tt q91 hys; subst q91)
  k_extra "e"
  clear wF wN ne9
  k_extra "L"
  have hq : q < (ms ++ [(0, (sigL oA).length, (sigL oB).length)]).length := by rw [<- hM2.length]; simpa using hin
  obtain ⟨b, hb⟩ : ∃ b, (ms ++ [(0, (sigL oA).length, (sigL oB).length)])[q]? = some b := ⟨_, List.getElem?_eq_getElem hq⟩
  (refine zav (hM2.at hb) ?_; intro xb db tb1 tb2 tb3 hv hxb)
  have hvx : v = .ref xb := by
   have h1 : (bv)[q]? = some v := by simpa using hv9
   rw [h1] at hv
   exact Option.some.inj hv
  subst hvx
  replace hxb := hXm _  hxb
  k_extra "b"
  refine zcI wF X wN (by k_mem) rfl ?_
  intro T9 h8 k8 F8 N8 lT
  clear wF wN
  (try k_lt lT)
  k_extra "O"
  k_extra "b"
  refine LCg.CompEnd.intro wF wN ((D1, W.listOf z1.toArray n1) :: (D2, W.listOf z2.toArray n2) :: (bk, W.listOf bv2.toArray bn2) :: (th, W.listOf bv.toArray bn) :: (lr, W.listOf rv.toArray rn) :: (L' + 1 + 1 + 1 + 1, o4) :: (L' + 1 + 1 + 1, o3) :: (L' + 1 + 1, o2) :: (L' + 1, o1) :: _ :: (tt ++ X2)) (fun p hp => zcM [_, _, _, _, _, _, _, _, _, _, _, _] hp) (zbv ⟨Nat.ne_of_gt lT.1, Nat.ne_of_gt lT.2.1, Nat.ne_of_gt lT.2.2.1⟩ [_, _, _, _, _, _, _, _, _] off9) (Or.inr ⟨_, by k_mem, rfl, _, rfl⟩) ⟨_ :: tt, rfl, ?_⟩
  k_extra "aM"
  exact DatAll.append (hys.mono fun p hp => .tail _ hp) (.cons (DatIn.tuple (.head _) (.cons (.int _ _) (.cons (.int _ _) (.cons (.int _ _) .nil)))) .nil)
 case fina =>
  intro ys nw q92
  k_extra "l"
  (refine x_EA (q92) ?_; clear q92; intro tt q91 hys; subst q91)
  k_extra "e"
  clear wF wN
  rw [show (bv).toArray.size = (ms ++ [(0, (sigL oA).length, (sigL oB).length)]).length by rw [List.size_toArray, hM2.length], List.take_length] at hys
  k_extra "ab"
  k_extra "b"
  refine kun_lenL (k := ((sigL oA).length : Int)) (News.isList wN (by k_mem)) (by rw [List.size_toArray, i1.length]) (by lia) ?_
  k_extra "b"
  refine kun_lenL (k := ((sigL oB).length : Int)) (News.isList wN (by k_mem)) (by rw [List.size_toArray, i2.length]) (by lia) ?_
  k_extra "w"
  refine' zcE (cs := zaZ) ?kB ?kF ?kX ?kN ?kT ?kh ?h1 ?h2 ?h3 ho1 ?h5 ?kd ?ku ?_
  k_extra "aL"
  case h2 => exact hdt.mono fun p hp => zbj (List.mem_append_right _ (hXy p hp))
  case h3 => exact h500
  case h5 => exact fun S' p h => zaM (zhS (as := sigL oA) (bs := sigL oB) (by exact Nat.le_trans a6 (Nat.le_of_lt (Nat.lt_succ_of_le (Nat.le_add_left 6 57)))) p (h.imp fun h h' => zaK h h')) a6
  intro bl1 bn1 ws1 tw1 h11 k11 S' Bs q1 q2 q3 q4 F11 N11 hne11 hd11
  obtain rfl := zcV (q1.trans hS1.symm) q2 hS2
  obtain rfl := zem (q3.trans hm1.symm) q4 hm2
  k_extra "b"
  refine zfh (b := false) wN (.tail _ (List.mem_append_right _ (.head _))) hys (fun p hp => .tail _ (List.mem_append_right _ (zbj (List.mem_append_left _ hp)))) (.head _) hd11 (fun p hp => .tail _ (List.mem_append_left _ hp)) ?ha ?hb ⟨fun h => Bool.noConfusion h, fun h => absurd (zf1 _ _ _) h⟩ (by ke_room) ?_
  case ha => exact zph
  case hb => exact zoR
  clear hys hd11 hne11
  replace wN : News g L' h11 ((D1, W.listOf z1.toArray n1) :: (D2, W.listOf z2.toArray n2) :: (bk, W.listOf bv2.toArray bn2) :: (th, W.listOf bv.toArray bn) :: (lr, W.listOf rv.toArray rn) :: (L' + 1 + 1 + 1 + 1, o4) :: (L' + 1 + 1 + 1, o3) :: (L' + 1 + 1, o2) :: (L' + 1, o1) :: X2) := fun p hp => wN p (.tail _ (List.mem_append_right _ (.tail _ (zop [_, _, _, _, _, _, _, _, _] hp))))
  k_extra "b"
  refine LCg.CompSrc.ledger rfl wF wN (by k_mem) (by rw [List.size_toArray, sizeLine_eq]; exact Nat.le_trans hbv2 (by decide)) ?_
  intro g9
  refine' zbP (fun q ys nw => ∃ tt, nw = (D1, W.listOf z1.toArray n1) :: (D2, W.listOf z2.toArray n2) :: (bk, W.listOf bv2.toArray bn2) :: (th, W.listOf bv.toArray bn) :: (lr, W.listOf rv.toArray rn) :: (L' + 1 + 1 + 1 + 1, o4) :: (L' + 1 + 1 + 1, o3) :: (L' + 1 + 1, o2) :: (L' + 1, o1) :: (tt ++ X2) /\ DatAll tt ys (((ms2 ++ [(0, (sigL oB).length, (sigL oA).length)]).take q).map fun r => tdat (bl r))) ?turnb ⟨[], rfl, .nil⟩ ?finb
  case turnb =>
   intro q v ys nw I oI C oC Dd m2 h9 tk9 E9 hin hv9 q915 hC9 hx9 F9 N9 off9 ne9
   k_extra "l"
   (refine x_EA (q915) ?_; clear q915; intro tt q91 hys; subst q91)
   k_extra "e"
   clear wF wN ne9
   k_extra "L"
   have hq : q < (ms2 ++ [(0, (sigL oB).length, (sigL oA).length)]).length := by rw [<- hM3.length]; simpa using hin
   obtain ⟨b, hb⟩ : ∃ b, (ms2 ++ [(0, (sigL oB).length, (sigL oA).length)])[q]? = some b := ⟨_, List.getElem?_eq_getElem hq⟩
   (refine zav (hM3.at hb) ?_; intro xb db tb1 tb2 tb3 hv hxb)
   have hvx : v = .ref xb := by
    have h1 : (bv2)[q]? = some v := by simpa using hv9
    rw [h1] at hv
    exact Option.some.inj hv
   subst hvx
   replace hxb := hXk _  hxb
   k_extra "b"
   refine zcI wF X wN (by k_mem) rfl ?_
   intro T9 h8 k8 F8 N8 lT
   clear wF wN
   (try k_lt lT)
   k_extra "O"
   k_extra "b"
   refine LCg.CompEnd.intro wF wN ((D1, W.listOf z1.toArray n1) :: (D2, W.listOf z2.toArray n2) :: (bk, W.listOf bv2.toArray bn2) :: (th, W.listOf bv.toArray bn) :: (lr, W.listOf rv.toArray rn) :: (L' + 1 + 1 + 1 + 1, o4) :: (L' + 1 + 1 + 1, o3) :: (L' + 1 + 1, o2) :: (L' + 1, o1) :: _ :: (tt ++ X2)) (fun p hp => zcM [_, _, _, _, _, _, _, _, _, _, _, _] hp) (zbv ⟨Nat.ne_of_gt lT.1, Nat.ne_of_gt lT.2.1, Nat.ne_of_gt lT.2.2.1⟩ [_, _, _, _, _, _, _, _, _] off9) (Or.inr ⟨_, by k_mem, rfl, _, rfl⟩) ⟨_ :: tt, rfl, ?_⟩
   k_extra "aM"
   exact DatAll.append (hys.mono fun p hp => .tail _ hp) (.cons (DatIn.tuple (.head _) (.cons (.int _ _) (.cons (.int _ _) (.cons (.int _ _) .nil)))) .nil)
  case finb =>
   intro ys nw q92
   k_extra "l"
   (refine x_EA (q92) ?_; clear q92; intro tt q91 hys; subst q91)
   k_extra "e"
   clear wF wN
   rw [show (bv2).toArray.size = (ms2 ++ [(0, (sigL oB).length, (sigL oA).length)]).length by rw [List.size_toArray, hM3.length], List.take_length] at hys
   k_extra "ab"
   k_extra "b"
   refine nlet1 wN ?_
   clear wN
   intro Dp wN
   refine ⟨lr, rv.toArray, rn, _, (fun q zs nw => ∃ t3, nw = (Dp, LCg.lst ys) :: (D1, W.listOf z1.toArray n1) :: (D2, W.listOf z2.toArray n2) :: (bk, W.listOf bv2.toArray bn2) :: (th, W.listOf bv.toArray bn) :: (lr, W.listOf rv.toArray rn) :: (L' + 1 + 1 + 1 + 1, o4) :: (L' + 1 + 1 + 1, o3) :: (L' + 1 + 1, o2) :: (L' + 1, o1) :: (t3 ++ (tt ++ X2)) /\ DatAll t3 zs (((zae (sigL oA) (sigL oB)).take q).map fun r => rdat (zb4 r))), rfl, rfl, wF, wN, by k_mem, ?sz3, ⟨[], rfl, .nil⟩, ?turn3, ?fin3⟩
   case sz3 =>
    rw [List.size_toArray, sizeLine_eq]
    have h1 := hdt.length
    rw [List.length_map] at h1
    lia
   case turn3 =>
    intro q v zs nw hin hv9 q96
    k_extra "l"
    (refine x_EA (q96) ?_; clear q96; intro t3 q91 hzs; subst q91)
    k_extra "e"
    have hq : q < (zae (sigL oA) (sigL oB)).length := by
     have h1 := hdt.length
     rw [List.length_map] at h1
     rw [<- h1]
     simpa using hin
    obtain ⟨⟨rk, ri, rj⟩, hb⟩ : ∃ b, (zae (sigL oA) (sigL oB))[q]? = some b := ⟨_, List.getElem?_eq_getElem hq⟩
    have hvr := zdi hdt hb (by simpa using hv9)
    k_extra "l"
    (refine zav (zbm (i := -(rk : Int)) (j := (ri : Int)) (k := (rj : Int)) hvr) ?_; intro T9 n9 t9 u9 w9 q95 hT9; subst q95)
    k_extra "e"
    refine ⟨T9, _, _, _, _, n9, rfl, zbj (List.mem_append_right _ (List.mem_append_right _ (hXy _ hT9))), rfl, rfl, ?_⟩
    intro I oI C oC Dd m2 h9 tk9 E9 hC9 hx9 hy9 hz9 F9 N9 off9 ne9
    clear wF wN ne9
    k_extra "b"
    k_extra "O"
    refine LCg.CompEnd.intro wF wN ((Dp, LCg.lst ys) :: (D1, W.listOf z1.toArray n1) :: (D2, W.listOf z2.toArray n2) :: (bk, W.listOf bv2.toArray bn2) :: (th, W.listOf bv.toArray bn) :: (lr, W.listOf rv.toArray rn) :: (L' + 1 + 1 + 1 + 1, o4) :: (L' + 1 + 1 + 1, o3) :: (L' + 1 + 1, o2) :: (L' + 1, o1) :: _ :: (t3 ++ (tt ++ X2))) (fun p hp => zcM [_, _, _, _, _, _, _, _, _, _, _, _, _] hp) (zbv ⟨Nat.ne_of_gt lT.1, Nat.ne_of_gt lT.2.1, Nat.ne_of_gt lT.2.2.1⟩ [_, _, _, _, _, _, _, _, _, _] off9) (by k_mem) ⟨_ :: t3, rfl, ?_⟩
    k_extra "aM"
    exact DatAll.append (hzs.mono fun p hp => .tail _ hp) (.cons (DatIn.tuple (.head _) (.cons (.int _ _) (.cons (.int _ _) (.cons (.int _ _) .nil)))) .nil)
   case fin3 =>
    intro D3 h9 tk9 zs nw q95 F9 N9 o9
    k_extra "l"
    (refine x_EA (q95) ?_; clear q95; intro t3 q91 hzs; subst q91)
    k_extra "e"
    clear wF wN
    rw [show rv.toArray.size = (zae (sigL oA) (sigL oB)).length by have h1 := hdt.length; rw [List.length_map] at h1; rw [List.size_toArray, h1], List.take_length, ziA] at hzs
    k_extra "ar"
    k_extra "b"
    refine kun_lenL (k := ((sigL oB).length : Int)) (News.isList wN (by k_mem)) (by rw [List.size_toArray, i2.length]) (by lia) ?_
    k_extra "b"
    refine kun_lenL (k := ((sigL oA).length : Int)) (News.isList wN (by k_mem)) (by rw [List.size_toArray, i1.length]) (by lia) ?_
    k_extra "w"
    refine' zcE (cs := zaZ) ?kB ?kF ?kX ?kN ?kT ?kh ?h1 ?h2 ?h3 ho2 ?h5 ?kd ?ku ?_
    k_extra "aL"
    case h2 => exact hzs.mono fun p hp => .tail _ (zbj (List.mem_append_left _ hp))
    case h3 => rw [List.length_map]; exact h500
    case h5 => exact fun S' p h => zaM (zcg (as := sigL oA) (bs := sigL oB) (by exact Nat.le_trans a6 (Nat.le_of_lt (Nat.lt_succ_of_le (Nat.le_add_left 6 57)))) p (h.imp fun h h' => zaK h h')) b6
    intro bl2 bn3 ws2 tw2 h12 k12 S3 Bs2 q1 q2 q3 q4 F12 N12 hne12 hd12
    obtain rfl := zcV (q1.trans hS3.symm) q2 hS4
    obtain rfl := zem (q3.trans hm3.symm) q4 hm4
    k_extra "b"
    refine zhq (b := true) wN (.tail _ (List.mem_append_right _ (.tail _ (.head _)))) hys (fun p hp => .tail _ (List.mem_append_right _ (.tail _ (zbj (List.mem_append_right _ (List.mem_append_left _ hp)))))) (.head _) hd12 (fun p hp => .tail _ (List.mem_append_left _ hp)) zph zoR ⟨fun _ => zf1 _ _ _, fun _ => rfl⟩ (by ke_room) ?_
    k_extra "d"
    exact hret _ _ _ _ wF wN
noncomputable def clsL : List (List Nat) := [[], [0, 0], [2, 1], [0, 0, 0], [0, 2, 2], [2, 1, 0], [2, 2, 2], [0, 0, 0, 0], [0, 0, 2, 2], [0, 2, 2, 0], [0, 2, 2, 2], [2, 1, 0, 0], [2, 1, 2, 2], [2, 2, 2, 0], [2, 2, 2, 2], [0, 0, 0, 0, 0, 0], [0, 0, 0, 0, 2, 1], [0, 0, 2, 2, 0, 0], [0, 0, 2, 2, 2, 1], [0, 2, 2, 0, 0, 0], [0, 2, 2, 0, 2, 1], [0, 2, 2, 2, 0, 0], [0, 2, 2, 2, 2, 1], [2, 1, 0, 0, 0, 0], [2, 1, 0, 0, 2, 1], [2, 1, 2, 2, 0, 0], [2, 1, 2, 2, 2, 1], [2, 2, 2, 0, 0, 0], [2, 2, 2, 0, 2, 1], [2, 2, 2, 2, 0, 0], [2, 2, 2, 2, 2, 1]]
noncomputable def znZ : List Nat := [0, 0, 0, 0, 0, 0]
noncomputable def zoh : Nat -> List (List Int)
 | 0 => [[]]
 | n + 1 => [0, 85, 251, 255].flatMap fun x => (zoh n).map fun r => x :: r
theorem zhi : ∀ (n : Nat) (os : List Int), os.length = n -> (∀ o ∈ os, o = 0 \/ o = 85 \/ o = 251 \/ o = 255) -> os ∈ zoh n
 | 0, [], _, _ => .head _
 | 0, _ :: _, h, _ => by simp at h
 | n + 1, [], h, _ => by simp at h
 | n + 1, x :: r, h, hk => by
  have h1 := zhi n r (by simpa using h) fun o ho => hk o (.tail _ ho)
  refine List.mem_flatMap.mpr ⟨x, ?_, List.mem_map.mpr ⟨r, h1, rfl⟩⟩
  rcases hk x (.head _) with rfl | rfl | rfl | rfl
  ·exact .head _
  ·exact .tail _ (.head _)
  ·exact .tail _ (.tail _ (.head _))
  ·exact .tail _ (.tail _ (.tail _ (.head _)))
noncomputable def clsB (os : List Int) : Bool := clsL.contains ((sigL os).map zeA) && (decide ((sigL os).map zeA ≠ znZ) || decide (os = [0, 0, 0, 0]))
theorem znC : (List.range 5).all (fun n => (zoh n).all clsB) = true := by decide +kernel
theorem znt : clsL.all (fun a => clsL.all fun b => decide (zfY a b < 64) || (decide (a = znZ) && decide (b = znZ))) = true := by decide +kernel
theorem zlP (h : RowOK os) : clsB os = true := by
 have h1 := List.all_eq_true.mp znC os.length (List.mem_range.mpr (by have := h.len; exact Nat.lt_succ_of_le this))
 exact List.all_eq_true.mp h1 os (zhi _ os rfl h.kinds)
theorem zfU {oA oB : List Int} (hA : RowOK oA) (hB : RowOK oB) : (zae (sigL oA) (sigL oB)).length < 64 \/ (oA = [0, 0, 0, 0] /\ oB = [0, 0, 0, 0]) := by
 have cA := zlP hA
 have cB := zlP hB
 unfold clsB at cA cB
 rw [Bool.and_eq_true, Bool.or_eq_true, decide_eq_true_eq, decide_eq_true_eq, List.contains_iff_mem] at cA cB
 have h := List.all_eq_true.mp (List.all_eq_true.mp znt _ cA.1) _ cB.1
 rw [Bool.or_eq_true, Bool.and_eq_true, decide_eq_true_eq, decide_eq_true_eq, decide_eq_true_eq] at h
 rcases h with h | ⟨h1, h2⟩
 ·left
  have h6 := ze0 hA.len
  have := zfo (as := sigL oA) (bs := sigL oB) (by rw [za4]; exact Nat.le_trans h6 (Nat.le_of_lt (Nat.lt_succ_of_le (Nat.le_add_left 6 57))))
  exact Nat.lt_of_le_of_lt this h
 ·right
  exact ⟨cA.2.resolve_left fun q => q h1, cB.2.resolve_left fun q => q h2⟩
example : True := by
 k_with "az" => refine wpS_bind (wpS_get ?_)
 k_with "aN" => rw [Std.Legacy.Range.forIn_eq_forIn_range']
 trivial
section
variable {κ : SortKind} {e : Nat -> PyProof.Rows.Keyed} {n : Nat} {st : SortSt}
noncomputable def Asks (prog : Program) (w : World) (A : Around) (s : Shared) (κ : SortKind) (e : Nat -> PyProof.Rows.Keyed) (n : Nat) : Prop :=
 ∀ x y, x < n -> y < n -> ∀ {Q : Bool -> Shared -> Prop}, Q (decide (x < y)) s -> wpAny (model prog w) A (keyLt' κ (e x).1 (e y).1) Q (fun _ _ => False) s
noncomputable def zon : Bool -> PyProof.Rows.Keyed -> Array PyProof.Rows.Keyed -> Nat -> Nat -> Nat -> StateT SortSt Sem (Option Nat) := sortPriv% PySem.Builtin.gallop
noncomputable def zka : Array PyProof.Rows.Keyed -> Array PyProof.Rows.Keyed -> StateT SortSt Sem (Array PyProof.Rows.Keyed) := sortPriv% PySem.Builtin.mergeLo
noncomputable def zjN : Array PyProof.Rows.Keyed -> Array PyProof.Rows.Keyed -> StateT SortSt Sem (Array PyProof.Rows.Keyed) := sortPriv% PySem.Builtin.mergeHi
theorem zj0 {x y : Nat} {Q : Option Bool -> SortSt -> Prop} (H : Asks prog w A s κ e n) (hk : kindOf st = κ) (hx : x < n) (hy : y < n) (h : Q (some (decide (x < y))) st) : wpS (model prog w) A E s (lt' (e x) (e y)) Q st := by
 rw [lt'_eq]
 k_extra "az"
 rw [hk]
 refine wpS_bind (wpS_lift (wpAny_attempt (wpAny_mono (H x y hx hy (Q := fun b s' => s' = s /\ b = decide (x < y)) ⟨rfl, rfl⟩) (fun b s' hb => ?_) fun _ _ h => h.elim)))
 k_extra "l"
 (refine cj2 (hb) ?_; clear hb; intro q90 q91; subst q90; subst q91)
 k_extra "e"
 exact ⟨rfl, wpS_pure h⟩
theorem za1 {a : Array PyProof.Rows.Keyed} {i : Nat} {x : PyProof.Rows.Keyed} {Q : PyProof.Rows.Keyed -> SortSt -> Prop} (h : a[i]? = some x) (q : Q x st) : wpS (model prog w) A E s (elem' a i) Q st := by
 rw [elem'_eq, h]
 exact wpS_pure q
noncomputable def arr (e : Nat -> PyProof.Rows.Keyed) (p : List Nat) : Array PyProof.Rows.Keyed := (p.map e).toArray
theorem za2 {p : List Nat} {i x : Nat} (h : p[i]? = some x) : (arr e p)[i]? = some (e x) := by
 unfold arr
 rw [List.getElem?_toArray, List.getElem?_map, h]
 rfl
noncomputable def opt3 {α : Type} (x : Option Bool) (t f : Option α) : Option α := Option.rec none (fun b => Bool.rec f t b) x
theorem zaO {α : Type} {x : Option Bool} {t f : Option α} {r : α} (h : opt3 x t f = some r) : (x = some true /\ t = some r) \/ (x = some false /\ f = some r) := by
 cases x with
 | none => cases h
 | some b => cases b with
  | true => exact .inl ⟨rfl, h⟩
  | false => exact .inr ⟨rfl, h⟩
theorem zdr {α : Type} {c : Prop} [Decidable c] {x y : Option α} {r : α} (h : (if c then x else y) = some r) : (c /\ x = some r) \/ (¬ c /\ y = some r) := by
 by_cases hc : c
 ·rw [if_pos hc] at h
  exact .inl ⟨hc, h⟩
 ·rw [if_neg hc] at h
  exact .inr ⟨hc, h⟩
theorem zbn {α : Type} {c : Prop} [Decidable c] {x : Option α} {r : α} (h : (if c then x else none) = some r) : c /\ x = some r := (zdr h).elim id fun q => nomatch q.2
theorem zlC {α : Type} {c : Prop} [Decidable c] {x : Option α} {r : α} (h : (if c then none else x) = some r) : ¬ c /\ x = some r := (zdr h).elim (fun q => nomatch q.2) id
theorem zdG {β γ δ η : Type} {a b : Nat} {body : Nat -> β -> StateT SortSt Sem (ForInStep β)} {K : β -> StateT SortSt Sem δ} {Q : δ -> SortSt -> Prop} {J : Nat -> Nat -> γ -> Prop} (mk : γ -> β) (ms : γ -> SortSt) (zf : η -> β) (s0 : SortSt) {g0 : γ}
  (h0 : J (b - a) a g0) (hz : ∀ x g, J 0 x g -> ∃ z, mk g = zf z /\ ms g = s0) (fin : ∀ z, wpS (model prog w) A E s (K (zf z)) Q s0)
  (step : ∀ x f g R, J (f + 1) x g -> (∀ z, R (.done (zf z)) s0) -> (∀ g', J f (x + 1) g' -> R (.yield (mk g')) (ms g')) -> wpS (model prog w) A E s (body x (mk g)) R (ms g)) :
  wpS (model prog w) A E s (forIn [a:b] (mk g0) body >>= K) Q (ms g0) := by
 refine wpS_bind ?_
 k_extra "aN"
 have hsz : ([a:b] : Std.Legacy.Range).size = b - a := by simp [Std.Legacy.Range.size]
 show wpS _ _ _ _ (forIn (List.range' a ([a:b] : Std.Legacy.Range).size 1) _ _) _ _
 rw [hsz]
 clear hsz
 revert h0
 generalize b - a = f
 intro h0
 induction f generalizing a g0 with
 | zero =>
  refine x_EA (hz _ _ h0) ?_
  intro z hm hs
  rw [List.range'_zero, List.forIn_nil, hm, hs]
  exact wpS_pure (fin z)
 | succ f ih =>
  rw [List.range'_succ, List.forIn_cons]
  exact wpS_bind (step a f g0 _ h0 (fun z => wpS_pure (fin z)) fun g' h => ih h)
theorem zf4 {β δ η : Type} {a b : Nat} {c : β} (zf : η -> β) {body : Nat -> β -> StateT SortSt Sem (ForInStep β)} {K : β -> StateT SortSt Sem δ} {Q : δ -> SortSt -> Prop} (hab : a < b) (h : ∀ R : ForInStep β -> SortSt -> Prop, (∀ z, R (.done (zf z)) st) -> wpS (model prog w) A E s (body a c) R st) (fin : ∀ z, wpS (model prog w) A E s (K (zf z)) Q st) :
  wpS (model prog w) A E s (forIn [a:b] c body >>= K) Q st := by
 refine wpS_bind ?_
 k_extra "aN"
 have hsz : ([a:b] : Std.Legacy.Range).size = b - a - 1 + 1 := (by simp [Std.Legacy.Range.size] : ([a:b] : Std.Legacy.Range).size = b - a).trans (Nat.sub_add_cancel (Nat.sub_pos_of_lt hab)).symm
 show wpS _ _ _ _ (forIn (List.range' a ([a:b] : Std.Legacy.Range).size 1) _ _) _ _
 rw [hsz, List.range'_succ, List.forIn_cons]
 exact wpS_bind (h _ fun z => wpS_pure (fin z))
theorem znN {δ : Type} {c1 c2 : Prop} [Decidable c1] [Decidable c2] {t1 t2 t3 : StateT SortSt Sem δ} {Q : δ -> SortSt -> Prop} (h1 : ¬ c1) (h2 : ¬ c2) (h : wpS (model prog w) A E s t3 Q st) : wpS (model prog w) A E s (if c1 then t1 else if c2 then t2 else t3) Q st := by
 rw [if_neg h1, if_neg h2]
 exact h
theorem zce {δ : Type} {c1 : Prop} [Decidable c1] {t1 t3 : StateT SortSt Sem δ} {Q : δ -> SortSt -> Prop} (h1 : ¬ c1) (h : wpS (model prog w) A E s t3 Q st) : wpS (model prog w) A E s (if c1 then t1 else t3) Q st := by
 rw [if_neg h1]
 exact h
theorem zc9 {δ : Type} {c1 : Prop} [Decidable c1] {t1 t3 : StateT SortSt Sem δ} {Q : δ -> SortSt -> Prop} (h1 : c1) (h : wpS (model prog w) A E s t1 Q st) : wpS (model prog w) A E s (if c1 then t1 else t3) Q st := by
 rw [if_pos h1]
 exact h
theorem znl {δ : Type} {m : Sem Unit} {K : Unit -> StateT SortSt Sem δ} {Q : δ -> SortSt -> Prop} (hm : wpAny (model prog w) A m (fun _ s' => s' = s /\ True) E s) (h : wpS (model prog w) A E s (K ()) Q st) : wpS (model prog w) A E s (liftM m >>= K) Q st :=
 wpS_bind (wpS_lift (wpAny_mono hm (fun _ _ hs => ⟨hs.1, h⟩) fun _ _ h => h))
noncomputable def bey (n : Nat) (left : Bool) (k : Nat) (p : List Nat) (i : Nat) : Option Bool := p[i]?.bind fun x => if x < n /\ k < n then some (if left then decide (x < k) else !decide (k < x)) else none
noncomputable def upG (b : Nat -> Option Bool) (hint mx f : Nat) : Nat -> Nat -> Option (Nat × Nat) := Nat.rec (fun _ _ => none) (fun _ ih l o => if o >= mx then some (l, o) else opt3 (b (hint + o)) (ih o (2 * o + 1)) (some (l, o))) f
noncomputable def zhO (b : Nat -> Option Bool) (hint mx f : Nat) : Nat -> Nat -> Option (Nat × Nat) := Nat.rec (fun _ _ => none) (fun _ ih l o => if o >= mx then some (l, o) else opt3 (b (hint - o)) (some (l, o)) (ih o (2 * o + 1))) f
noncomputable def binG (b : Nat -> Option Bool) (f : Nat) : Nat -> Nat -> Option Nat := Nat.rec (fun _ _ => none) (fun _ ih lo hi => if lo >= hi then some hi else opt3 (b (lo + (hi - lo) / 2)) (ih (lo + (hi - lo) / 2 + 1) hi) (ih lo (lo + (hi - lo) / 2))) f
noncomputable def galG (n : Nat) (left : Bool) (k : Nat) (p : List Nat) (base len hint : Nat) : Option Nat :=
 opt3 (bey n left k p (base + hint))
  ((upG (fun i => bey n left k p (base + i)) hint (len - hint) len 0 1).bind fun q => binG (fun i => bey n left k p (base + i)) len (hint + q.1 + 1) (hint + min q.2 (len - hint)))
  ((zhO (fun i => bey n left k p (base + i)) hint (hint + 1) len 0 1).bind fun q => binG (fun i => bey n left k p (base + i)) len (hint + 1 - min q.2 (hint + 1)) (hint - q.1))
theorem zbB {left : Bool} {k i : Nat} {p : List Nat} {base : Nat} {b : Bool} {Q : Option Bool -> SortSt -> Prop} (H : Asks prog w A s κ e n) (hk : kindOf st = κ) (hb : bey n left k p (base + i) = some b) (h : Q (some b) st) :
  wpS (model prog w) A E s (do
   let x <- elem' (arr e p) (base + i)
   if left = true then lt' x (e k) else do
    let r <- lt' (e k) x
    pure (Option.map (fun x => !x) r)) Q st := by
 refine (Option.bind_eq_some_iff.mp hb).elim fun x q => ?_
 have q2 := zbn q.2
 refine wpS_bind (za1 (za2 q.1) ?_)
 cases left with
 | true => exact zj0 H hk q2.1.1 q2.1.2 ((congrArg (fun z => Q (some z) st) (Option.some.inj q2.2)).mpr h)
 | false => exact wpS_bind (zj0 H hk q2.1.2 q2.1.1 (wpS_pure ((congrArg (fun z => Q (some z) st) (Option.some.inj q2.2)).mpr h)))
theorem zqs {b : Nat -> Option Bool} {h mx f l o : Nat} {r : Nat × Nat} (q : upG b h mx (f + 1) l o = some r) : (o >= mx /\ (l, o) = r) \/ ¬ o >= mx /\ ((b (h + o) = some true /\ upG b h mx f o (2 * o + 1) = some r) \/ (b (h + o) = some false /\ (l, o) = r)) :=
 (zdr q).imp (fun q => ⟨q.1, Option.some.inj q.2⟩) fun q => ⟨q.1, (zaO q.2).imp id fun q => ⟨q.1, Option.some.inj q.2⟩⟩
theorem zjX {b : Nat -> Option Bool} {h mx f l o : Nat} {r : Nat × Nat} (q : zhO b h mx (f + 1) l o = some r) : (o >= mx /\ (l, o) = r) \/ ¬ o >= mx /\ ((b (h - o) = some false /\ zhO b h mx f o (2 * o + 1) = some r) \/ (b (h - o) = some true /\ (l, o) = r)) :=
 (zdr q).imp (fun q => ⟨q.1, Option.some.inj q.2⟩) fun q => ⟨q.1, (zaO q.2).symm.imp id fun q => ⟨q.1, Option.some.inj q.2⟩⟩
theorem zgj {b : Nat -> Option Bool} {f lo hi r : Nat} (q : binG b (f + 1) lo hi = some r) : (lo >= hi /\ hi = r) \/ ¬ lo >= hi /\ ((b (lo + (hi - lo) / 2) = some true /\ binG b f (lo + (hi - lo) / 2 + 1) hi = some r) \/ (b (lo + (hi - lo) / 2) = some false /\ binG b f lo (lo + (hi - lo) / 2) = some r)) :=
 (zdr q).imp (fun q => ⟨q.1, Option.some.inj q.2⟩) fun q => ⟨q.1, zaO q.2⟩
theorem znB {left : Bool} {k : Nat} {p : List Nat} {base len hint r : Nat} (hg : galG n left k p base len hint = some r) :
  (bey n left k p (base + hint) = some true /\ ∃ l o, upG (fun i => bey n left k p (base + i)) hint (len - hint) len 0 1 = some (l, o) /\ binG (fun i => bey n left k p (base + i)) len (hint + l + 1) (hint + min o (len - hint)) = some r) \/
  (bey n left k p (base + hint) = some false /\ ∃ l o, zhO (fun i => bey n left k p (base + i)) hint (hint + 1) len 0 1 = some (l, o) /\ binG (fun i => bey n left k p (base + i)) len (hint + 1 - min o (hint + 1)) (hint - l) = some r) :=
 (zaO hg).imp (fun q => ⟨q.1, (Option.bind_eq_some_iff.mp q.2).elim fun x h => ⟨x.1, x.2, h⟩⟩) fun q => ⟨q.1, (Option.bind_eq_some_iff.mp q.2).elim fun x h => ⟨x.1, x.2, h⟩⟩
theorem zeE {left : Bool} {k : Nat} {p : List Nat} {base len hint r : Nat} {Q : Option Nat -> SortSt -> Prop} (H : Asks prog w A s κ e n) (hk : kindOf st = κ) (hg : galG n left k p base len hint = some r) (h : Q (some r) st) :
  wpS (model prog w) A E s (zon left (e k) (arr e p) base len hint) Q st := by
 refine (znB hg).elim (fun q => ?_) (fun q => ?_)
 ·refine wpS_bind (zbB H hk q.1 ?_)
  refine q.2.elim fun l hl => hl.elim fun o ho => ?_
  refine zc9 rfl ?_
  refine zdG (J := fun f _ (g : Nat × Nat) => upG (fun i => bey n left k p (base + i)) hint (len - hint) f g.1 g.2 = some (l, o)) (fun g => (none, g.1, g.2)) (fun _ => st) (fun _ : Unit => (none, l, o)) st (g0 := (0, 1)) (by exact ho.1) (fun _ _ q => nomatch q) (fun _ => ?_) ?_
  ·refine zdG (J := fun f _ (g : Nat × Nat) => binG (fun i => bey n left k p (base + i)) f g.1 g.2 = some r) (fun g => (none, g.1, g.2)) (fun _ => st) (fun l => (none, l, r)) st (g0 := (hint + l + 1, hint + min o (len - hint))) (by exact ho.2) (fun _ _ q => nomatch q) (fun _ => wpS_pure h) ?_
   intro x f g R hJ hd hy
   refine (zgj hJ).elim (fun q => zc9 q.1 (wpS_pure (q.2 ▸ hd g.1))) fun q => zce q.1 (q.2.elim (fun q => ?_) (fun q => ?_))
   ·exact wpS_bind (zbB H hk q.1 (wpS_pure (hy (g.1 + (g.2 - g.1) / 2 + 1, g.2) q.2)))
   ·exact wpS_bind (zbB H hk q.1 (wpS_pure (hy (g.1, g.1 + (g.2 - g.1) / 2) q.2)))
  ·intro x f g R hJ hd hy
   refine (zqs hJ).elim (fun q => zc9 q.1 (wpS_pure ((congrArg (fun q => R (.done (none, q)) st) q.2).mpr (hd ())))) fun q => zce q.1 (q.2.elim (fun q => ?_) (fun q => ?_))
   ·exact wpS_bind (zbB H hk q.1 (wpS_pure (hy (g.2, 2 * g.2 + 1) q.2)))
   ·exact wpS_bind (zbB H hk q.1 (wpS_pure ((congrArg (fun q => R (.done (none, q)) st) q.2).mpr (hd ()))))
 ·refine wpS_bind (zbB H hk q.1 ?_)
  refine q.2.elim fun l hl => hl.elim fun o ho => ?_
  refine zce (fun q => nomatch q) ?_
  refine zdG (J := fun f _ (g : Nat × Nat) => zhO (fun i => bey n left k p (base + i)) hint (hint + 1) f g.1 g.2 = some (l, o)) (fun g => (none, g.1, g.2)) (fun _ => st) (fun _ : Unit => (none, l, o)) st (g0 := (0, 1)) (by exact ho.1) (fun _ _ q => nomatch q) (fun _ => ?_) ?_
  ·refine zdG (J := fun f _ (g : Nat × Nat) => binG (fun i => bey n left k p (base + i)) f g.1 g.2 = some r) (fun g => (none, g.1, g.2)) (fun _ => st) (fun l => (none, l, r)) st (g0 := (hint + 1 - min o (hint + 1), hint - l)) (by exact ho.2) (fun _ _ q => nomatch q) (fun _ => wpS_pure h) ?_
   intro x f g R hJ hd hy
   refine (zgj hJ).elim (fun q => zc9 q.1 (wpS_pure (q.2 ▸ hd g.1))) fun q => zce q.1 (q.2.elim (fun q => ?_) (fun q => ?_))
   ·exact wpS_bind (zbB H hk q.1 (wpS_pure (hy (g.1 + (g.2 - g.1) / 2 + 1, g.2) q.2)))
   ·exact wpS_bind (zbB H hk q.1 (wpS_pure (hy (g.1, g.1 + (g.2 - g.1) / 2) q.2)))
  ·intro x f g R hJ hd hy
   refine (zjX hJ).elim (fun q => zc9 q.1 (wpS_pure ((congrArg (fun q => R (.done (none, q)) st) q.2).mpr (hd ())))) fun q => zce q.1 (q.2.elim (fun q => ?_) (fun q => ?_))
   ·exact wpS_bind (zbB H hk q.1 (wpS_pure (hy (g.2, 2 * g.2 + 1) q.2)))
   ·exact wpS_bind (zbB H hk q.1 (wpS_pure ((congrArg (fun q => R (.done (none, q)) st) q.2).mpr (hd ()))))
theorem zam (p : List Nat) : (arr e p).size = p.length := by simp [arr]
theorem zbq (p : List Nat) (x : Nat) : (arr e p).push (e x) = arr e (p ++ [x]) := by simp [arr]
theorem zdY (p q : List Nat) : arr e p ++ arr e q = arr e (p ++ q) := by simp [arr]
theorem zfL (p : List Nat) (i : Nat) : (arr e p).extract i = arr e (p.drop i) := by
 refine Array.toList_inj.mp ?_
 simp [arr, List.map_drop, List.extract_eq_take_drop]
 rw [List.take_of_length_le (by simp)]
theorem zfC (p : List Nat) (i : Nat) : (arr e p).extract 0 i = arr e (p.take i) := by
 refine Array.toList_inj.mp ?_
 simp [arr, List.map_take, List.extract_eq_take_drop]
theorem znn (p : List Nat) : (arr e p).reverse = arr e p.reverse := by simp [arr]
noncomputable def mlo (n : Nat) (a b : List Nat) (f : Nat) : List Nat -> Nat -> Nat -> Nat -> Nat -> Option (List Nat) := Nat.rec (fun _ _ _ _ _ => none) (fun _ ih out ia ib ac bc => b[ib]?.bind fun y => a[ia]?.bind fun x => if y < n /\ x < n then
    if y < x then if ib + 1 = b.length then some (out ++ [y] ++ a.drop ia ++ b.drop (ib + 1)) else if bc + 1 >= 7 then none else ih (out ++ [y]) ia (ib + 1) 0 (bc + 1)
    else if ia + 1 + 1 = a.length then some (out ++ [x] ++ b.drop ib ++ a.drop (ia + 1)) else if ac + 1 >= 7 then none else ih (out ++ [x]) (ia + 1) ib (ac + 1) 0
   else none) f
noncomputable def mloG (n : Nat) (a b : List Nat) : Option (List Nat) := b[0]?.bind fun y => if 1 = b.length \/ 1 = a.length then none else mlo n a b (a.length + b.length) [y] 0 1 0 0
theorem zmO {δ : Type} {m : Sem Unit} {p : List Nat} {i x : Nat} {c1 c2 : Prop} [Decidable c1] [Decidable c2] {r1 r2 : PyProof.Rows.Keyed -> StateT SortSt Sem δ} {R : PyProof.Rows.Keyed -> SortSt -> StateT SortSt Sem δ} {Q : δ -> SortSt -> Prop}
  (hm : wpAny (model prog w) A m (fun _ s' => s' = s /\ True) E s) (hx : p[i]? = some x) (h1 : ¬ c1) (h2 : ¬ c2) (h : wpS (model prog w) A E s (R (e x) st) Q st) :
  wpS (model prog w) A E s (liftM m >>= fun _ => elem' (arr e p) i >>= fun x => if c1 then r1 x else if c2 then r2 x else get >>= R x) Q st := by
 refine wpS_bind (wpS_lift (wpAny_mono hm (fun _ s' hs => ⟨hs.1, ?_⟩) fun _ _ h => h))
 refine wpS_bind (za1 (za2 hx) ?_)
 rw [if_neg h1, if_neg h2]
 exact wpS_bind (wpS_get h)
theorem zmb {ρ β γ δ : Type} {N M : Nat} {rr : ρ} {c0 : Option ρ × β} {body1 : Nat -> Option ρ × β -> StateT SortSt Sem (ForInStep (Option ρ × β))} {K1 : Option ρ × β -> StateT SortSt Sem δ} {body2 : Nat -> Option ρ × γ -> StateT SortSt Sem (ForInStep (Option ρ × γ))} {K2 : Option ρ × γ -> StateT SortSt Sem (ForInStep (Option ρ × β))} {Q : δ -> SortSt -> Prop}
  {r : List Nat} (J : Nat -> List Nat -> Nat -> Nat -> Nat -> Nat -> Option (List Nat)) (Inv : Nat -> List Nat -> Nat -> Nat -> Nat -> Nat -> Nat -> Nat -> Prop) (mk : Array PyProof.Rows.Keyed -> Nat -> Nat -> Nat -> Nat -> Option ρ × γ) (o0 : List Nat) (i0 j0 : Nat) (kz : γ -> β)
  (h1 : body1 0 c0 = forIn [:M] (mk (arr e o0) i0 j0 0 0) body2 >>= K2) (hN : 0 < N)
  (hz : ∀ o i j c d, J 0 o i j c d = none) (hi : ∀ f o i j c d, J (f + 1) o i j c d = some r -> ∃ y x, Inv f o i j c d y x)
  (h0 : J M o0 i0 j0 0 0 = some r)
  (fin : ∀ z, K2 (some rr, z) = pure (.done (some rr, kz z))) (out : ∀ z, wpS (model prog w) A E s (K1 (some rr, z)) Q st)
  (step : ∀ x f o i j c d R y z, Inv f o i j c d y z -> (∀ z, R (.done (some rr, z)) st) -> (∀ a' o i j c d, J f o i j c d = some r -> a' = arr e o -> R (.yield (mk a' i j c d)) st) -> wpS (model prog w) A E s (body2 x (mk (arr e o) i j c d)) R st) :
  wpS (model prog w) A E s (forIn [:N] c0 body1 >>= K1) Q st := by
 refine zf4 (fun z => (some rr, kz z)) hN (fun R hR => ?_) fun z => out (kz z)
 rw [h1]
 refine zdG (J := fun f _ (g : List Nat × Nat × Nat × Nat × Nat) => J f g.1 g.2.1 g.2.2.1 g.2.2.2.1 g.2.2.2.2 = some r) (fun g => mk (arr e g.1) g.2.1 g.2.2.1 g.2.2.2.1 g.2.2.2.2) (fun _ => st) (fun z => (some rr, z)) st (g0 := (o0, i0, j0, 0, 0)) h0 (fun _ g h => ?_) (fun z => ?_) ?_
 ·rw [hz] at h
  cases h
 ·rw [fin]
  exact wpS_pure (hR z)
 ·intro x f g R hJ hd hy
  refine (hi _ _ _ _ _ _ hJ).elim fun y hx => hx.elim fun z hI => step x f _ _ _ _ _ R y z hI hd fun a' o i j c d h q => ?_
  rw [q]
  exact hy (o, i, j, c, d) h
theorem zhP {δ : Type} {p q : List Nat} {i j x y : Nat} {K : Option Bool -> StateT SortSt Sem δ} {Q : δ -> SortSt -> Prop} (H : Asks prog w A s κ e n) (hk : kindOf st = κ) (hy : q[j]? = some y) (hx : p[i]? = some x) (ly : y < n) (lx : x < n)
  (h1 : y < x -> wpS (model prog w) A E s (K (some true)) Q st) (h2 : ¬ y < x -> wpS (model prog w) A E s (K (some false)) Q st) :
  wpS (model prog w) A E s (elem' (arr e q) j >>= fun y => elem' (arr e p) i >>= fun x => lt' y x >>= K) Q st := by
 refine wpS_bind (za1 (za2 hy) (wpS_bind (za1 (za2 hx) (wpS_bind (zj0 H hk ly lx ?_)))))
 by_cases h : y < x
 ·rw [decide_eq_true h]
  exact h1 h
 ·rw [decide_eq_false h]
  exact h2 h
theorem zcu {δ : Type} {p : List Nat} {i x : Nat} {c1 c2 : Prop} [Decidable c1] [Decidable c2] {t1 t2 t3 : PyProof.Rows.Keyed -> StateT SortSt Sem δ} {Q : δ -> SortSt -> Prop} (hx : p[i]? = some x) (h2 : ¬ c1 -> ¬ c2)
  (q1 : c1 -> wpS (model prog w) A E s (t1 (e x)) Q st) (q3 : ¬ c1 -> wpS (model prog w) A E s (t3 (e x)) Q st) :
  wpS (model prog w) A E s (elem' (arr e p) i >>= fun x => if c1 then t1 x else if c2 then t2 x else t3 x) Q st := by
 refine wpS_bind (za1 (za2 hx) ?_)
 by_cases h : c1
 ·rw [if_pos h]
  exact q1 h
 ·rw [if_neg h, if_neg (h2 h)]
  exact q3 h
theorem zd1 {ρ γ : Type} {x rr : ρ} {z : γ} {R : ForInStep (Option ρ × γ) -> SortSt -> Prop} (hx : x = rr) (hd : ∀ z, R (.done (some rr, z)) st) : wpS (model prog w) A E s (pure (.done (some x, z))) R st := hx ▸ wpS_pure (hd _)
theorem zkb {d : Nat} (h7 : gallopOf st = 7) (h : d + 1 < 7) : ¬ d + 1 >= gallopOf st := by rw [h7]; omega
noncomputable def Way (g : Prop) (w r : List Nat) (d : Nat) (f : Option (List Nat)) : Prop := (g -> w = r) /\ (¬ g -> d + 1 < 7 /\ f = some r)
theorem zfZ {g : Prop} [Decidable g] {w r : List Nat} {d : Nat} {f : Option (List Nat)} (h : (if g then some w else if d + 1 >= 7 then none else f) = some r) : Way g w r d f := by
 by_cases hg : g
 ·rw [if_pos hg] at h
  exact ⟨fun _ => Option.some.inj h, fun q => (q hg).elim⟩
 ·rw [if_neg hg] at h
  by_cases h6 : d + 1 >= 7
  ·rw [if_pos h6] at h; cases h
  ·rw [if_neg h6] at h
   exact ⟨fun q => (hg q).elim, fun _ => ⟨Nat.lt_of_not_ge h6, h⟩⟩
noncomputable def zpc (n : Nat) (a b r : List Nat) (f : Nat) (o : List Nat) (i j c d y x : Nat) : Prop := b[j]? = some y /\ a[i]? = some x /\ y < n /\ x < n /\
 (y < x -> Way (j + 1 = b.length) (o ++ [y] ++ a.drop i ++ b.drop (j + 1)) r d (mlo n a b f (o ++ [y]) i (j + 1) 0 (d + 1))) /\
 (¬ y < x -> Way (i + 1 + 1 = a.length) (o ++ [x] ++ b.drop j ++ a.drop (i + 1)) r c (mlo n a b f (o ++ [x]) (i + 1) j (c + 1) 0))
theorem zpa {a b r : List Nat} (f : Nat) (o : List Nat) (i j c d : Nat) (h : mlo n a b (f + 1) o i j c d = some r) : ∃ y x, zpc n a b r f o i j c d y x :=
 (Option.bind_eq_some_iff.mp h).elim fun y q => (Option.bind_eq_some_iff.mp q.2).elim fun x z => ⟨y, x, q.1, z.1, (zbn z.2).1.1, (zbn z.2).1.2, fun l => zfZ ((if_pos l).symm.trans (zbn z.2).2), fun l => zfZ ((if_neg l).symm.trans (zbn z.2).2)⟩
theorem zkJ {o a b r : List Nat} {x i j : Nat} (h : o ++ [x] ++ a.drop i ++ b.drop j = r) : (arr e o).push (e x) ++ (arr e a).extract i (arr e a).size ++ (arr e b).extract j (arr e b).size = arr e r := by
 rw [zbq, zfL, zfL, zdY, zdY, h]
theorem zfD {p : List Nat} {i : Nat} (h : (i == (arr e p).size) = true) : i = p.length := (beq_iff_eq.mp h).trans (zam p)
theorem zf5 {p : List Nat} {i : Nat} (h : ¬ (i == (arr e p).size) = true) : ¬ i = p.length := fun q => h (beq_iff_eq.mpr (q.trans (zam p).symm))
theorem zgH {a b r : List Nat} {Q : Array PyProof.Rows.Keyed -> SortSt -> Prop} (H : Asks prog w A s κ e n) (hk : kindOf st = κ) (h7 : gallopOf st = 7) (hg : mloG n a b = some r) (h : Q (arr e r) st) :
  wpS (model prog w) A E s (zka (arr e a) (arr e b)) Q st := by
 refine (Option.bind_eq_some_iff.mp hg).elim fun y q => ?_
 have z := zlC q.2
 refine zmO (wpAny_rule ⟨rfl, trivial⟩) q.1 (fun q => z.1 (.inl (zfD q))) (fun q => z.1 (.inr (zfD q))) ?_
 refine zmb (mlo n a b) (zpc n a b r) (fun o i j c d => (none, o, i, j, c, d)) [y] 0 1 (fun z => (z.1, z.2.1, z.2.2.1, gallopOf st)) rfl ?_ (fun _ _ _ _ _ => rfl) zpa ?_ (fun _ => rfl) (fun _ => wpS_pure h) ?_
 ·rw [zam, zam]
  exact Nat.lt_of_lt_of_le (List.length_pos_iff.mpr (by intro e; have := q.1; rw [e] at this; cases this)) (Nat.le_add_left _ _)
 ·rw [zam, zam]
  exact z.2
 ·intro x f o i j c d R y z hI hd hr
  refine zhP H hk hI.1 hI.2.1 hI.2.2.1 hI.2.2.2.1 (fun hl => ?_) (fun hl => ?_)
  ·have W := hI.2.2.2.2.1 hl
   exact zcu hI.1 (fun q => zkb h7 (W.2 (zf5 q)).1) (fun q => zd1 (zkJ (W.1 (zfD q))) hd) fun q => wpS_pure (hr _ _ _ _ _ _ (W.2 (zf5 q)).2 (zbq _ _))
  ·have W := hI.2.2.2.2.2 hl
   exact zcu hI.2.1 (fun q => zkb h7 (W.2 (zf5 q)).1) (fun q => zd1 (zkJ (W.1 (zfD q))) hd) fun q => wpS_pure (hr _ _ _ _ _ _ (W.2 (zf5 q)).2 (zbq _ _))
noncomputable def mhi (n : Nat) (a b : List Nat) (f : Nat) : Nat -> Nat -> List Nat -> Nat -> Nat -> Option (List Nat) := Nat.rec (fun _ _ _ _ _ => none) (fun _ ih na nb out ac bc => b[nb - 1]?.bind fun y => a[na - 1]?.bind fun x => if y < n /\ x < n then
    if y < x then if na - 1 = 0 then some (a.take (na - 1) ++ b.take nb ++ (out ++ [x]).reverse) else if ac + 1 >= 7 then none else ih (na - 1) nb (out ++ [x]) (ac + 1) 0
    else if nb - 1 = 1 then some (b.take (nb - 1) ++ a.take na ++ (out ++ [y]).reverse) else if bc + 1 >= 7 then none else ih na (nb - 1) (out ++ [y]) 0 (bc + 1)
   else none) f
noncomputable def mhiG (n : Nat) (a b : List Nat) : Option (List Nat) := a[a.length - 1]?.bind fun x => if a.length - 1 = 0 \/ b.length = 1 then none else mhi n a b (a.length + b.length) (a.length - 1) b.length [x] 0 0
noncomputable def zrc (n : Nat) (a b r : List Nat) (f : Nat) (o : List Nat) (i j c d y x : Nat) : Prop := b[j - 1]? = some y /\ a[i - 1]? = some x /\ y < n /\ x < n /\
 (y < x -> Way (i - 1 = 0) (a.take (i - 1) ++ b.take j ++ (o ++ [x]).reverse) r c (mhi n a b f (i - 1) j (o ++ [x]) (c + 1) 0)) /\
 (¬ y < x -> Way (j - 1 = 1) (b.take (j - 1) ++ a.take i ++ (o ++ [y]).reverse) r d (mhi n a b f i (j - 1) (o ++ [y]) 0 (d + 1)))
theorem zq3 {a b r : List Nat} (f : Nat) (o : List Nat) (i j c d : Nat) (h : mhi n a b (f + 1) i j o c d = some r) : ∃ y x, zrc n a b r f o i j c d y x :=
 (Option.bind_eq_some_iff.mp h).elim fun y q => (Option.bind_eq_some_iff.mp q.2).elim fun x z => ⟨y, x, q.1, z.1, (zbn z.2).1.1, (zbn z.2).1.2, fun l => zfZ ((if_pos l).symm.trans (zbn z.2).2), fun l => zfZ ((if_neg l).symm.trans (zbn z.2).2)⟩
theorem zml {o a b r : List Nat} {x i j : Nat} (h : a.take i ++ b.take j ++ (o ++ [x]).reverse = r) : (arr e a).extract 0 i ++ (arr e b).extract 0 j ++ ((arr e o).push (e x)).reverse = arr e r := by
 rw [zbq, zfC, zfC, znn, zdY, zdY, h]
theorem zgL {a b r : List Nat} {Q : Array PyProof.Rows.Keyed -> SortSt -> Prop} (H : Asks prog w A s κ e n) (hk : kindOf st = κ) (h7 : gallopOf st = 7) (hg : mhiG n a b = some r) (h : Q (arr e r) st) :
  wpS (model prog w) A E s (zjN (arr e a) (arr e b)) Q st := by
 refine (Option.bind_eq_some_iff.mp hg).elim fun x q => ?_
 have z := zlC q.2
 refine zmO (wpAny_rule ⟨rfl, trivial⟩) ((congrArg (fun q => a[q - 1]?) (zam a)).trans q.1) (fun q => z.1 (.inl ((congrArg (· - 1) (zam a).symm).trans (beq_iff_eq.mp q)))) (fun q => z.1 (.inr ((zam b).symm.trans (beq_iff_eq.mp q)))) ?_
 refine zmb (fun f o i j => mhi n a b f i j o) (zrc n a b r) (fun o i j c d => (none, i, j, o, c, d)) [x] ((arr e a).size - 1) (arr e b).size (fun z => (z.1, z.2.1, z.2.2.1, gallopOf st)) rfl ?_ (fun _ _ _ _ _ => rfl) zq3 ?_ (fun _ => rfl) (fun _ => wpS_pure h) ?_
 ·rw [zam, zam]
  exact Nat.lt_of_lt_of_le (List.length_pos_iff.mpr (by intro e; have := q.1; rw [e] at this; cases this)) (Nat.le_add_right _ _)
 ·rw [zam, zam]
  exact z.2
 ·intro _ f o i j c d R y z hI hd hr
  refine zhP H hk hI.1 hI.2.1 hI.2.2.1 hI.2.2.2.1 (fun hl => ?_) (fun hl => ?_)
  ·have W := hI.2.2.2.2.1 hl
   exact zcu hI.2.1 (fun q => zkb h7 (W.2 fun p => q (beq_iff_eq.mpr p)).1) (fun q => zd1 (zml (W.1 (beq_iff_eq.mp q))) hd) fun q => wpS_pure (hr _ _ _ _ _ _ (W.2 fun p => q (beq_iff_eq.mpr p)).2 (zbq _ _))
  ·have W := hI.2.2.2.2.2 hl
   exact zcu hI.1 (fun q => zkb h7 (W.2 fun p => q (beq_iff_eq.mpr p)).1) (fun q => zd1 (zml (W.1 (beq_iff_eq.mp q))) hd) fun q => wpS_pure (hr _ _ _ _ _ _ (W.2 fun p => q (beq_iff_eq.mpr p)).2 (zbq _ _))
noncomputable def askP (n : Nat) (p : List Nat) (i j : Nat) : Option Bool := p[i]?.bind fun x => p[j]?.bind fun y => if x < n /\ y < n then some (decide (x < y)) else none
theorem znI {p : List Nat} {i j : Nat} {b : Bool} {Q : Option Bool -> SortSt -> Prop} (H : Asks prog w A s κ e n) (hk : kindOf st = κ) (ha : arrOf st = arr e p) (hb : askP n p i j = some b) (h : Q (some b) st) : wpS (model prog w) A E s (ltAt' i j) Q st := by
 refine (Option.bind_eq_some_iff.mp hb).elim fun x q => (Option.bind_eq_some_iff.mp q.2).elim fun y z => ?_
 have z2 := zbn z.2
 rw [ltAt'_eq]
 k_extra "az"
 show wpS _ _ _ _ (do let x <- elem' (arrOf st) i; let y <- elem' (arrOf st) j; lt' x y) Q st
 rw [ha]
 exact wpS_bind (za1 (za2 q.1) (wpS_bind (za1 (za2 z.1) (zj0 H hk z2.1.1 z2.1.2 (Option.some.inj z2.2 ▸ h)))))
theorem zb8 {δ : Type} {p : List Nat} {i j : Nat} {b : Bool} {K : Option Bool -> StateT SortSt Sem δ} {Q : δ -> SortSt -> Prop} (H : Asks prog w A s κ e n) (hk : kindOf st = κ) (ha : arrOf st = arr e p) (hb : askP n p i j = some b) (h : wpS (model prog w) A E s (K (some b)) Q st) : wpS (model prog w) A E s (ltAt' i j >>= K) Q st :=
 wpS_bind (znI H hk ha hb h)
@[reducible] noncomputable def sst (κ : SortKind) (e : Nat -> PyProof.Rows.Keyed) (p : List Nat) (pend : Array (Nat × Nat × Nat)) : SortSt := SortSt.mk' κ (arr e p) pend 7 none
theorem zdR (p : List Nat) : arr e p = p.toArray.map e := by simp [arr]
noncomputable def revP (p : List Nat) (i j : Nat) : List Nat := (mirror p.toArray i j ((j - i) / 2)).toList
noncomputable def movP (p : List Nat) (i j : Nat) : List Nat := (bubble p.toArray i (i - j)).toList
theorem zgq {p : List Nat} {pend : Array (Nat × Nat × Nat)} {i j : Nat} {Q : Unit -> SortSt -> Prop} (h : Q () (sst κ e (revP p i j) pend)) : wpS (model prog w) A E s (reverseSlice' i j) Q (sst κ e p pend) := by
 rw [reverseSlice'_eq]
 refine wpS_modify ?_
 have q : setArr (sst κ e p pend) (mirror (arrOf (sst κ e p pend)) i j ((j - i) / 2)) = sst κ e (revP p i j) pend := by
  show SortSt.mk' κ (mirror (arr e p) i j ((j - i) / 2)) pend 7 none = SortSt.mk' κ (arr e (revP p i j)) pend 7 none
  have q : mirror (arr e p) i j ((j - i) / 2) = arr e (revP p i j) := by
   rw [zdR, zdR]
   exact kas_swaps_map e (fun k => i + k) (fun k => j - 1 - k) _ p.toArray
  rw [q]
 rw [q]
 exact h
theorem znM {p : List Nat} {pend : Array (Nat × Nat × Nat)} {k l : Nat} {Q : Unit -> SortSt -> Prop} (h : Q () (sst κ e (movP p k l) pend)) : wpS (model prog w) A E s (moveDown' k l) Q (sst κ e p pend) := by
 rw [moveDown'_eq]
 refine wpS_modify ?_
 have q : setArr (sst κ e p pend) (bubble (arrOf (sst κ e p pend)) k (k - l)) = sst κ e (movP p k l) pend := by
  show SortSt.mk' κ (bubble (arr e p) k (k - l)) pend 7 none = SortSt.mk' κ (arr e (movP p k l)) pend 7 none
  have q : bubble (arr e p) k (k - l) = arr e (movP p k l) := by
   rw [zdR, zdR]
   exact kas_swaps_map e (fun i => k - i) (fun i => k - i - 1) _ p.toArray
  rw [q]
 rw [q]
 exact h
noncomputable def zcK (n : Nat) (p : List Nat) (lo k f : Nat) : Nat -> Nat -> Option Nat := Nat.rec (fun l r => if l >= r then some l else none) (fun _ ih l r => if l >= r then some l else opt3 (askP n p (lo + k) (lo + (l + r) / 2)) (ih l ((l + r) / 2)) (ih ((l + r) / 2 + 1) r)) f
noncomputable def binP (n lo f : Nat) : Nat -> List Nat -> Option (List Nat) := Nat.rec (fun _ p => some p) (fun _ ih k p => (zcK n p lo k k 0 k).bind fun l => ih (k + 1) (movP p (lo + k) (lo + l))) f
theorem ziL {p : List Nat} {lo k f l r l' : Nat} (h : zcK n p lo k (f + 1) l r = some l') : (l >= r /\ l = l') \/ ¬ l >= r /\ ((askP n p (lo + k) (lo + (l + r) / 2) = some true /\ zcK n p lo k f l ((l + r) / 2) = some l') \/ (askP n p (lo + k) (lo + (l + r) / 2) = some false /\ zcK n p lo k f ((l + r) / 2 + 1) r = some l')) :=
 (zdr h).imp (fun q => ⟨q.1, Option.some.inj q.2⟩) fun q => ⟨q.1, zaO q.2⟩
theorem zhr {p : List Nat} {lo k l r l' : Nat} (h : zcK n p lo k 0 l r = some l') : l = l' :=
 Option.some.inj (zbn h).2
theorem znW {lo f k : Nat} {p p' : List Nat} (h : binP n lo (f + 1) k p = some p') : ∃ l, zcK n p lo k k 0 k = some l /\ binP n lo f (k + 1) (movP p (lo + k) (lo + l)) = some p' :=
 Option.bind_eq_some_iff.mp h
theorem zk6 {p p' : List Nat} {pend : Array (Nat × Nat × Nat)} {lo len ok : Nat} {Q : Bool -> SortSt -> Prop} (H : Asks prog w A s κ e n) (hb : binP n lo (len - max ok 1) (max ok 1) p = some p') (h : Q true (sst κ e p' pend)) :
  wpS (model prog w) A E s (binarySort' lo len ok) Q (sst κ e p pend) := by
 refine zdG (J := fun f k p => binP n lo f k p = some p') (fun _ => (none, ())) (fun p => sst κ e p pend) (fun _ : Unit => (none, ())) (sst κ e p' pend) hb (fun _ _ h => ⟨(), rfl, Option.some.inj h ▸ rfl⟩) (fun _ => wpS_pure h) ?_
 intro x f p R hJ hd hy
 refine (znW hJ).elim fun l hl => ?_
 refine zdG (J := fun f _ g => zcK n p lo x f g.1 g.2 = some l) (fun g => (none, g.1, g.2)) (fun _ => sst κ e p pend) (fun r => (none, l, r)) (sst κ e p pend) (g0 := (0, x)) ?_ (fun _ g h => ⟨g.2, congrArg (fun q => (none, q, g.2)) (zhr h), rfl⟩) ?_ ?_
 ·exact hl.1
 ·exact fun r => wpS_bind (znM (wpS_pure (hy _ hl.2)))
 intro _ f g R hJ hd hy
 refine (ziL hJ).elim (fun q => ?_) (fun q => ?_)
 ·exact zc9 q.1 (wpS_pure (q.2 ▸ hd g.2))
 ·refine zce q.1 (q.2.elim (fun q => ?_) (fun q => ?_))
  ·exact zb8 H rfl rfl q.1 (wpS_pure (hy (g.1, (g.1 + g.2) / 2) q.2))
  ·exact zb8 H rfl rfl q.1 (wpS_pure (hy ((g.1 + g.2) / 2 + 1, g.2) q.2))
noncomputable def dscG (n : Nat) (p : List Nat) (lo f : Nat) : Nat -> Option Nat := Nat.rec (fun _ => none) (fun _ ih m => opt3 (askP n p (lo + m) (lo + m - 1)) (ih (m + 1)) (opt3 (askP n p (lo + m - 1) (lo + m)) (some m) none)) f
noncomputable def ascG (n : Nat) (p : List Nat) (lo f : Nat) : Nat -> Option Nat := Nat.rec (fun m => some m) (fun _ ih m => opt3 (askP n p (lo + m) (lo + m - 1)) (some m) (ih (m + 1))) f
theorem znV {p : List Nat} {lo f m r : Nat} (h : dscG n p lo (f + 1) m = some r) : askP n p (lo + m) (lo + m - 1) = some true /\ dscG n p lo f (m + 1) = some r \/ askP n p (lo + m) (lo + m - 1) = some false /\ askP n p (lo + m - 1) (lo + m) = some true /\ r = m :=
 (zaO h).imp id fun q => ⟨q.1, (zaO (f := none) q.2).elim (fun z => ⟨z.1, (Option.some.inj z.2).symm⟩) fun z => nomatch z.2⟩
theorem znE {p : List Nat} {lo f m r : Nat} (h : ascG n p lo (f + 1) m = some r) : askP n p (lo + m) (lo + m - 1) = some true /\ r = m \/ askP n p (lo + m) (lo + m - 1) = some false /\ ascG n p lo f (m + 1) = some r :=
 (zaO h).imp (fun q => ⟨q.1, (Option.some.inj q.2).symm⟩) id
theorem zfI {p : List Nat} {pend : Array (Nat × Nat × Nat)} {lo len m r : Nat} {Q : Option Nat -> SortSt -> Prop} (H : Asks prog w A s κ e n) (hl : 2 < len) (h1 : askP n p (lo + 1) (lo + 1 - 1) = some true) (h2 : dscG n p lo (len - 2) 2 = some m)
  (h3 : ascG n (revP p lo (lo + m)) lo (len - m) m = some r) (h : Q (some r) (sst κ e (revP p lo (lo + m)) pend)) :
  wpS (model prog w) A E s (countRun' lo len) Q (sst κ e p pend) := by
 refine zf4 (fun _ : Unit => (none, 1)) (Nat.lt_of_succ_lt hl) (fun R hR => zb8 H rfl rfl h1 (wpS_pure (hR ()))) fun _ => ?_
 refine znN (fun q => Nat.ne_of_lt (Nat.lt_of_succ_lt hl) (beq_iff_eq.mp q)) (Nat.lt_irrefl 1) ?_
 refine znl (wpAny_rule ⟨rfl, trivial⟩) ?_
 refine zdG (J := fun f _ m' => dscG n p lo f m' = some m) (fun m' => (none, m', 0)) (fun _ => sst κ e p pend) (fun _ : Unit => (none, m, 0)) (sst κ e p pend) (g0 := 2) h2 (fun _ _ h => nomatch h) (fun _ => ?_) ?_
 ·refine zce (Nat.lt_irrefl 0) ?_
  refine wpS_bind (zgq ?_)
  refine zdG (J := fun f _ m' => ascG n (revP p lo (lo + m)) lo f m' = some r) (fun m' => (none, m')) (fun _ => sst κ e (revP p lo (lo + m)) pend) (fun _ : Unit => (none, r)) (sst κ e (revP p lo (lo + m)) pend) (g0 := m) h3 (fun _ _ h => ⟨(), congrArg _ (Option.some.inj h), rfl⟩) (fun _ => wpS_pure h) ?_
  intro x f m' R hJ hd hy
  refine (znE hJ).elim (fun q => ?_) (fun q => ?_)
  ·exact zb8 H rfl rfl q.1 (wpS_pure (q.2 ▸ hd ()))
  ·exact zb8 H rfl rfl q.1 (wpS_pure (hy _ q.2))
 ·intro x f m' R hJ hd hy
  refine (znV hJ).elim (fun q => ?_) (fun q => ?_)
  ·refine zb8 H rfl rfl q.1 ?_
   exact zc9 rfl (zce (Nat.lt_irrefl 0) (wpS_pure (hy _ q.2)))
  ·refine zb8 H rfl rfl q.1 (zb8 H rfl rfl q.2.1 ?_)
   exact wpS_pure (q.2.2 ▸ hd ())
noncomputable def setP (p : List Nat) (sa : Nat) (m : List Nat) : List Nat := m.zipIdx.foldl (fun a x => a.set (sa + x.2) x.1) p
theorem znh (p : List Nat) (i x : Nat) : (arr e p).setIfInBounds i (e x) = arr e (p.set i x) := by simp [arr]
theorem zgf (sa : Nat) : ∀ (l : List (Nat × Nat)) (p : List Nat), (l.map fun x => (e x.1, x.2)).foldl (fun a (x : PyProof.Rows.Keyed × Nat) => a.setIfInBounds (sa + x.2) x.1) (arr e p) = arr e (l.foldl (fun a x => a.set (sa + x.2) x.1) p)
 | [], _ => rfl
 | x :: l, p => by
  rw [List.map_cons, List.foldl_cons, List.foldl_cons]
  dsimp only
  rw [znh]
  exact zgf sa l _
theorem zjP (p : List Nat) (sa : Nat) (m : List Nat) : (arr e m).toList.zipIdx.foldl (fun a (x : PyProof.Rows.Keyed × Nat) => a.setIfInBounds (sa + x.2) x.1) (arr e p) = arr e (setP p sa m) := by
 have : (arr e m).toList.zipIdx = m.zipIdx.map fun x => (e x.1, x.2) := by
  rw [show (arr e m).toList = m.map e from rfl, List.zipIdx_map]
  rfl
 rw [this, zgf]
 rfl
noncomputable def cutP (p : List Nat) (i j : Nat) : List Nat := (p.drop i).take (j - i)
theorem zin (p : List Nat) (i j : Nat) : (arr e p).extract i j = arr e (cutP p i j) := by
 refine Array.toList_inj.mp ?_
 simp [arr, cutP, List.extract_eq_take_drop, List.map_drop, List.map_take]
theorem zpS {x : SortSt} {Q : PUnit -> SortSt -> Prop} (h : Q ⟨⟩ x) : wpS (model prog w) A E s (set x : StateT SortSt Sem PUnit) Q st := by
 unfold wpS
 show wpAny _ _ (pure ((⟨⟩, x) : PUnit × SortSt)) _ _ _
 exact wpAny_pure ⟨rfl, h⟩
theorem zgX {p mg : List Nat} {na0 nb0 pw0 pw1 sb k nb x1 x2 : Nat} {Q : Bool -> SortSt -> Prop} (H : Asks prog w A s κ e n) (g1 : p[sb]? = some x1) (g2 : galG n false x1 p 0 na0 0 = some k) (hk : k < na0) (g3 : p[0 + k + (na0 - k) - 1]? = some x2)
  (g4 : galG n true x2 p sb nb0 (nb0 - 1) = some nb) (hb : nb ≠ 0) (g5 : (if na0 - k <= nb then mloG n (cutP p (0 + k) sb) (cutP p sb (sb + nb)) else mhiG n (cutP p (0 + k) sb) (cutP p sb (sb + nb))) = some mg)
  (h : Q true (sst κ e (setP p (0 + k) mg) #[(0, na0 + nb0, pw0)])) :
  wpS (model prog w) A E s (mergeAt' 0) Q (sst κ e p #[(0, na0, pw0), (sb, nb0, pw1)]) := by
 unfold mergeAt'
 k_extra "az"
 refine wpS_bind (zpS ?_)
 refine wpS_bind (za1 (za2 g1) ?_)
 refine wpS_bind (zeE H rfl g2 ?_)
 dsimp only
 rw [if_neg (by rw [beq_iff_eq]; exact Nat.sub_ne_zero_iff_lt.mpr hk)]
 refine wpS_bind (za1 (za2 g3) ?_)
 refine wpS_bind (zeE H rfl g4 ?_)
 dsimp only
 rw [if_neg (by rw [beq_iff_eq]; exact hb)]
 have hp : (#[(0, na0, pw0), (sb, nb0, pw1)].setIfInBounds 0 (0, na0 + nb0, pw0)).eraseIdxIfInBounds (0 + 1) = #[(0, na0 + nb0, pw0)] := by
  simp [Array.eraseIdxIfInBounds, Array.setIfInBounds]
 rw [hp]
 have fin : ∀ (f : SortSt -> SortSt) (K : PUnit -> StateT SortSt Sem Bool), (∀ st, f st = SortSt.mk' (kindOf st) (List.foldl (fun a (x : PyProof.Rows.Keyed × Nat) => a.setIfInBounds (0 + k + x.2) x.1) (arrOf st) (arr e mg).toList.zipIdx) (pendingOf st) (gallopOf st) (failedOf st)) ->
   (∀ st', failedOf st' = none -> Q true st' -> wpS (model prog w) A E s (K ⟨⟩) Q st') -> wpS (model prog w) A E s (modify f >>= K) Q (SortSt.mk' κ (arr e p) #[(0, na0 + nb0, pw0)] 7 none) := by
  intro f K hf hK
  refine wpS_bind (wpS_modify ?_)
  rw [hf]
  refine hK _ rfl ?_
  show Q true (SortSt.mk' κ (List.foldl (fun a (x : PyProof.Rows.Keyed × Nat) => a.setIfInBounds (0 + k + x.2) x.1) (arr e p) (arr e mg).toList.zipIdx) #[(0, na0 + nb0, pw0)] 7 none)
  rw [zjP]
  exact h
 have isn : ∀ st' : SortSt, failedOf st' = none -> Q true st' -> wpS (model prog w) A E s (pure (failedOf st').isNone : StateT SortSt Sem Bool) Q st' := fun st' hf hq => by
  rw [hf]
  exact wpS_pure hq
 rw [zin, zin]
 by_cases hle : na0 - k <= nb
 ·rw [if_pos hle] at g5 ⊢
  refine wpS_bind (zgH H rfl rfl g5 ?_)
  exact fin _ _ (fun _ => rfl) fun st' hf hq => wpS_bind (wpS_get (isn st' hf hq))
 ·rw [if_neg hle] at g5 ⊢
  refine wpS_bind (zgL H rfl rfl g5 ?_)
  exact fin _ _ (fun _ => rfl) fun st' hf hq => wpS_bind (wpS_get (isn st' hf hq))
theorem zb5 {β : Type} {x : Nat} {l : List Nat} {b : β} {f : Nat -> β -> StateT SortSt Sem (ForInStep β)} {Q : β -> SortSt -> Prop}
  (h : wpS (model prog w) A E s (f x b) (fun r st' => match r with | .done b' => Q b' st' | .yield b' => wpS (model prog w) A E s (forIn l b' f) Q st') st) : wpS (model prog w) A E s (forIn (x :: l) b f) Q st := by
 rw [List.forIn_cons]
 refine wpS_bind (wpS_mono h fun r st' h => ?_)
 cases r with
 | done _ => exact wpS_pure h
 | yield _ => exact h
theorem zdK {β : Type} {a b : Nat} {c : β} {f : Nat -> β -> StateT SortSt Sem (ForInStep β)} {Q : β -> SortSt -> Prop} (h : wpS (model prog w) A E s (forIn (List.range' a (b - a)) c f) Q st) : wpS (model prog w) A E s (forIn [a:b] c f) Q st := by
 k_extra "aN"
 have hsz : ([a:b] : Std.Legacy.Range).size = b - a := by simp [Std.Legacy.Range.size]
 show wpS _ _ _ _ (forIn (List.range' a ([a:b] : Std.Legacy.Range).size 1) c f) _ _
 rw [hsz]
 exact h
theorem znu {p p2 p4 mg : List Nat} {m0 m1 m2 m3 k nb x1 x2 : Nat} {Q : Unit -> SortSt -> Prop} (H : Asks prog w A s κ e n) (hlen : p.length = 91)
  (a1 : askP n p (0 + 1) (0 + 1 - 1) = some true) (a2 : dscG n p 0 (91 - 0 - 2) 2 = some m0) (a3 : ascG n (revP p 0 (0 + m0)) 0 (91 - 0 - m0) m0 = some m1) (hm1 : m1 < 46) (hb1 : binP n 0 (46 - max m1 1) (max m1 1) (revP p 0 (0 + m0)) = some p2)
  (c1 : askP n p2 (46 + 1) (46 + 1 - 1) = some true) (c2 : dscG n p2 46 (91 - 46 - 2) 2 = some m2) (c3 : ascG n (revP p2 46 (46 + m2)) 46 (91 - 46 - m2) m2 = some m3) (hm3 : m3 < 46) (hb2 : binP n 46 (45 - max m3 1) (max m3 1) (revP p2 46 (46 + m2)) = some p4)
  (g1 : p4[46]? = some x1) (g2 : galG n false x1 p4 0 46 0 = some k) (hk : k < 46) (g3 : p4[0 + k + (46 - k) - 1]? = some x2)
  (g4 : galG n true x2 p4 46 45 (45 - 1) = some nb) (hb : nb ≠ 0) (g5 : (if 46 - k <= nb then mloG n (cutP p4 (0 + k) 46) (cutP p4 46 (46 + nb)) else mhiG n (cutP p4 (0 + k) 46) (cutP p4 46 (46 + nb))) = some mg)
  (h : ∀ pend, Q () (sst κ e (setP p4 (0 + k) mg) pend)) :
  wpS (model prog w) A E s sortRuns' Q (sst κ e p #[]) := by
 rw [sortRuns'_eq]
 k_extra "az"
 have hsz : (arrOf (sst κ e p #[])).size = 91 := (zam p).trans hlen
 have hmr : minRun' 91 91 0 = 46 := by
  rw [show minRun' 91 91 0 = minRun' (90 + 1) 91 0 from rfl, minRun'_succ, if_neg (by exact Std.Rxo.size_eq_zero_iff_not_le.mp rfl), show minRun' 90 (91 / 2) (max 0 (91 % 2)) = minRun' (89 + 1) 45 1 from rfl, minRun'_succ, if_pos (by exact Nat.lt_of_sub_eq_succ rfl)]
 dsimp only
 rw [hsz, hmr]
 refine wpS_bind (zdK ?_)
 show wpS _ _ _ _ (forIn (0 :: 1 :: 2 :: List.range' 3 88) _ _) _ _
 refine zb5 ?_
 dsimp only
 rw [if_neg (by exact Nat.not_add_one_le_zero 90)]
 refine wpS_bind (zfI H (by exact Nat.lt_of_sub_eq_succ rfl) a1 a2 a3 ?_)
 dsimp only
 rw [if_pos hm1]
 refine wpS_bind (wpS_lift (wpAny_rule ⟨rfl, ?_⟩))
 refine wpS_bind (zk6 H hb1 ?_)
 rw [if_neg (by simp)]
 k_extra "az"
 rw [show (pendingOf (sst κ e p2 #[])).back? = none from rfl]
 dsimp only
 refine wpS_bind (wpS_modify (wpS_pure ?_))
 dsimp only
 show wpS _ _ _ _ _ _ (sst κ e p2 #[(0, 46, 0)])
 refine zb5 ?_
 dsimp only
 rw [show 0 + min (91 - 0) 46 = 46 from rfl, if_neg (by exact Nat.not_le_of_lt (Nat.lt_succ_of_le (Nat.le_of_lt (Nat.lt_succ_of_le (Nat.le_add_left 46 43)))))]
 refine wpS_bind (zfI H (by exact Nat.lt_of_sub_eq_succ rfl) c1 c2 c3 ?_)
 dsimp only
 rw [if_pos hm3]
 refine wpS_bind (wpS_lift (wpAny_rule ⟨rfl, ?_⟩))
 rw [show min (91 - 46) 46 = 45 from rfl]
 refine wpS_bind (zk6 H hb2 ?_)
 rw [if_neg (by simp)]
 k_extra "az"
 rw [show (pendingOf (sst κ e p4 #[(0, 46, 0)])).back? = some (0, 46, 0) from rfl]
 dsimp only
 refine wpS_bind (zdK (zb5 (wpS_bind (wpS_get ?_))))
 rw [if_neg (show ¬ (pendingOf (sst κ e p4 #[(0, 46, 0)])).size > 1 from Nat.lt_irrefl 1)]
 refine wpS_pure ?_
 dsimp only
 obtain ⟨pw, hpw⟩ : ∃ pw, pw = power' 91 (2 * 0 + 46) (2 * 0 + 46 + 46 + 45) 91 := ⟨_, rfl⟩
 rw [<- hpw]
 refine wpS_bind (wpS_modify (wpS_bind (wpS_modify (wpS_pure ?_))))
 dsimp only
 have hpd : ((#[(0, 46, 0)] : Array (Nat × Nat × Nat)).modify (1 - 1) fun x => match x with | (st, len, _) => (st, len, pw)).push (46, 45, 0) = #[(0, 46, pw), (46, 45, 0)] := by
  simp [Array.modify, Array.modifyM, Id.run]
  rfl
 show wpS _ _ _ _ _ _ (sst κ e p4 (((#[(0, 46, 0)] : Array (Nat × Nat × Nat)).modify (1 - 1) fun x => match x with | (st, len, _) => (st, len, pw)).push (46, 45, 0)))
 rw [hpd]
 refine zb5 ?_
 dsimp only
 rw [if_pos (by exact Nat.le_add_left 91 0)]
 refine wpS_pure ?_
 dsimp only
 refine wpS_bind (zdK ?_)
 show wpS _ _ _ _ (forIn (0 :: 1 :: 2 :: List.range' 3 88) _ _) _ _
 refine zb5 (wpS_bind (wpS_get ?_))
 rw [if_neg (show ¬ (pendingOf (sst κ e p4 #[(0, 46, pw), (46, 45, 0)])).size <= 1 from by show ¬ 2 <= 1; exact Nat.not_succ_le_self 1)]
 refine wpS_bind (zgX H g1 g2 hk g3 g4 hb g5 ?_)
 rw [if_neg (by simp)]
 refine wpS_pure ?_
 dsimp only
 refine zb5 (wpS_bind (wpS_get ?_))
 rw [if_pos (show (pendingOf (sst κ e (setP p4 (0 + k) mg) #[(0, 46 + 45, pw)])).size <= 1 from Nat.le_refl 1)]
 exact wpS_pure (wpS_pure (h _))
end
example : True := by
 k_with "ai" => have hz : ¬ vs.toArray.size < 2 := by rw [List.size_toArray]; lia
 trivial
theorem zep {ds : List (List Int)} {rk inv p2 p4 mg : List Nat} {m0 m1 m2 m3 k nb x1 x2 : Nat} (hlen : ds.length = 91) (hri : rk.map (fun r => inv.getD r 0) = List.range 91) (hil : inv.length = 91) (hin : inv.Perm (List.range 91)) (hne : ∀ d ∈ ds, d ≠ []) (hso : (inv.map fun i => ds.getD i []).Pairwise fun a b => llt a b = true)
  (a1 : askP 91 rk (0 + 1) (0 + 1 - 1) = some true) (a2 : dscG 91 rk 0 (91 - 0 - 2) 2 = some m0) (a3 : ascG 91 (revP rk 0 (0 + m0)) 0 (91 - 0 - m0) m0 = some m1) (hm1 : m1 < 46) (hb1 : binP 91 0 (46 - max m1 1) (max m1 1) (revP rk 0 (0 + m0)) = some p2)
  (c1 : askP 91 p2 (46 + 1) (46 + 1 - 1) = some true) (c2 : dscG 91 p2 46 (91 - 46 - 2) 2 = some m2) (c3 : ascG 91 (revP p2 46 (46 + m2)) 46 (91 - 46 - m2) m2 = some m3) (hm3 : m3 < 46) (hb2 : binP 91 46 (45 - max m3 1) (max m3 1) (revP p2 46 (46 + m2)) = some p4)
  (g1 : p4[46]? = some x1) (g2 : galG 91 false x1 p4 0 46 0 = some k) (hk : k < 46) (g3 : p4[0 + k + (46 - k) - 1]? = some x2)
  (g4 : galG 91 true x2 p4 46 45 (45 - 1) = some nb) (hb : nb ≠ 0) (g5 : (if 46 - k <= nb then mloG 91 (cutP p4 (0 + k) 46) (cutP p4 46 (46 + nb)) else mhiG 91 (cutP p4 (0 + k) 46) (cutP p4 46 (46 + nb))) = some mg)
  (hend : setP p4 (0 + k) mg = List.range 91) : zbL ds := by
 intro prog w A s h₀ L news vs P N D hP
 have hv : vs.length = 91 := by rw [D.length, List.length_map, hlen]
 k_extra "ai"
 unfold zcl
 rw [if_neg hz, if_neg hz]
 (refine zaW (zdW N D hne) ?_; intro fs t1 t2 t3)
 refine kat_kind (T := Value.type "int") (vs := vs) t1 (by lia) (fun v hv => ?_) rfl ?_
 ·refine bc fun hG9 => ?_
  (refine x_EE (t3 v hv) ?_; intro i t q92; subst q92)
  k_extra "e"
  exact Looks.of_pure rfl
 obtain ⟨e, he⟩ : ∃ e : Nat -> PyProof.Rows.Keyed, e = fun r => kas_item (pairsOf vs) (inv.getD r 0) := ⟨_, rfl⟩
 have hrng : ∀ x, x < 91 -> inv.getD x 0 < ds.length := fun x hx => by
  rw [hlen, List.getD_eq_getElem?_getD, List.getElem?_eq_getElem (by exact Nat.lt_of_lt_of_eq hx (id (Eq.symm hil)))]
  exact List.mem_range.mp (hin.mem_iff.mp (List.getElem_mem _))
 have hask : ∀ κ', (∃ b, κ' = tuples' b) -> Asks prog w A s κ' e 91 := by
  intro κ' q91 x y hx hy Q hQ
  k_extra "l"
  (refine x_E (q91) ?_; clear q91; intro b q91; subst q91)
  k_extra "e"
  rw [he]
  dsimp only
  rw [kas_item_eq, kas_item_eq]
  refine zfP (b := b) N D (hrng x hx) (hrng y hy) ?_
  have hsx : (inv.map fun i => ds.getD i []).length = 91 := by rw [List.length_map, hil]
  have hg : ∀ z (hz : z < 91), ds.getD (inv.getD z 0) [] = (inv.map fun i => ds.getD i [])[z]'(by exact Nat.lt_of_lt_of_eq hz (id (Eq.symm hsx))) := fun z hz => by
   rw [List.getElem_map, List.getD_eq_getElem?_getD (l := inv), List.getElem?_eq_getElem (by exact Nat.lt_of_lt_of_eq hz (id (Eq.symm hil)))]
   rfl
  rw [hg x hx, hg y hy]
  have hp := List.pairwise_iff_getElem.mp hso
  have e1 : llt ((inv.map fun i => ds.getD i [])[x]'(by exact Nat.lt_of_lt_of_eq hx (id (Eq.symm hsx)))) ((inv.map fun i => ds.getD i [])[y]'(by exact Nat.lt_of_lt_of_eq hy (id (Eq.symm hsx)))) = decide (x < y) := by
   rcases Nat.lt_trichotomy x y with h | h | h
   ·rw [hp x y (by exact Nat.lt_of_lt_of_eq hx (id (Eq.symm hsx))) (by exact Nat.lt_of_lt_of_eq hy (id (Eq.symm hsx))) h, decide_eq_true h]
   ·subst h
    rw [zbt, decide_eq_false (Nat.lt_irrefl _)]
   ·have h1 := hp y x (by lia) (by exact Nat.lt_of_lt_of_eq hx (id (Eq.symm hsx))) h
    rw [decide_eq_false (by exact Nat.not_lt_of_gt h)]
    cases h2 : llt ((inv.map fun i => ds.getD i [])[x]'(by exact Nat.lt_of_lt_of_eq hx (id (Eq.symm hsx)))) ((inv.map fun i => ds.getD i [])[y]'(by lia)) with
    | false => rfl
    | true =>
     have h3 := zbT _ _ _ h1 h2
     rw [zbt] at h3
     cases h3
  rw [e1]
  exact hQ
 have hst : vs.toArray.zip vs.toArray = arr e rk := by
  have h1 := kas_range (pairsOf vs)
  rw [pairsOf_size, hv] at h1
  show pairsOf vs = _
  rw [<- h1, he, <- hri]
  simp [arr]
 rw [hst]
 refine wpAny_mono (znu (Q := fun _ st => (∃ out, P out /\ (arrOf st).map (·.2) = out.toArray) /\ failedOf st = none) (hask _ ⟨_, rfl⟩) ?_ a1 a2 a3 hm1 hb1 c1 c2 c3 hm3 hb2 g1 g2 hk g3 g4 hb g5 fun pend => ?_) (fun _ _ q => q) fun _ _ q => q
 ·have := congrArg List.length hri
  rwa [List.length_map, List.length_range] at this
 ·rw [hend]
  refine ⟨⟨inv.map fun i => vs.getD i Value.none, hP _ (inv.map fun i => ds.getD i []) ?_ hso (zdD D inv fun i hi => by rw [hlen]; exact List.mem_range.mp (hin.mem_iff.mp hi)), ?_⟩, rfl⟩
  ·have h1 := hin.map fun i => ds.getD i []
   have h2 : ((List.range 91).map fun i => ds.getD i []) = ds := by
    refine List.ext_getElem (by rw [List.length_map, List.length_range, hlen]) fun i h1 h2 => ?_
    rw [List.getElem_map, List.getElem_range, List.getD_eq_getElem?_getD, List.getElem?_eq_getElem h2]
    rfl
   rwa [h2] at h1
  ·show (arr e (List.range 91)).map (·.2) = _
   refine Array.toList_inj.mp ?_
   rw [he]
   refine List.ext_getElem (by simp [arr, hil]) fun i h1 h2 => ?_
   simp only [arr, Array.toList_map, List.getElem_map, List.getElem_range]
   rw [kas_item_eq, List.getD_eq_getElem?_getD (l := inv), List.getElem?_eq_getElem (by simpa using h2)]
   rfl
noncomputable def ziy : List Run := [(1, 0, 5), (1, 0, 4), (2, 0, 4), (1, 1, 5), (1, 0, 3), (2, 0, 3), (3, 0, 3), (1, 1, 4), (2, 1, 4), (1, 2, 5), (1, 0, 2), (2, 0, 2), (3, 0, 2), (4, 0, 2), (1, 1, 3), (2, 1, 3), (3, 1, 3), (1, 2, 4), (2, 2, 4), (1, 3, 5), (1, 0, 1), (2, 0, 1), (3, 0, 1), (4, 0, 1), (5, 0, 1), (1, 1, 2), (2, 1, 2), (3, 1, 2), (4, 1, 2), (1, 2, 3), (2, 2, 3), (3, 2, 3), (1, 3, 4), (2, 3, 4), (1, 4, 5), (1, 0, 0), (2, 0, 0), (3, 0, 0), (4, 0, 0), (5, 0, 0), (6, 0, 0), (1, 1, 1), (2, 1, 1), (3, 1, 1), (4, 1, 1), (5, 1, 1), (1, 2, 2), (2, 2, 2), (3, 2, 2), (4, 2, 2), (1, 3, 3), (2, 3, 3), (3, 3, 3), (1, 4, 4), (2, 4, 4), (1, 5, 5), (1, 1, 0), (2, 1, 0), (3, 1, 0), (4, 1, 0), (5, 1, 0), (1, 2, 1), (2, 2, 1), (3, 2, 1), (4, 2, 1), (1, 3, 2), (2, 3, 2), (3, 3, 2), (1, 4, 3), (2, 4, 3), (1, 5, 4), (1, 2, 0), (2, 2, 0), (3, 2, 0), (4, 2, 0), (1, 3, 1), (2, 3, 1), (3, 3, 1), (1, 4, 2), (2, 4, 2), (1, 5, 3), (1, 3, 0), (2, 3, 0), (3, 3, 0), (1, 4, 1), (2, 4, 1), (1, 5, 2), (1, 4, 0), (2, 4, 0), (1, 5, 1), (1, 5, 0)]
theorem zd8 : zae (sigL [0, 0, 0, 0]) (sigL [0, 0, 0, 0]) = ziy := by decide +kernel
noncomputable def rk91a : List Nat := [60, 59, 34, 66, 58, 33, 17, 65, 39, 72, 57, 32, 16, 7, 64, 38, 21, 71, 44, 78, 56, 31, 15, 6, 2, 63, 37, 20, 10, 70, 43, 25, 77, 49, 84, 55, 30, 14, 5, 1, 0, 62, 36, 19, 9, 4, 69, 42, 24, 13, 76, 48, 29, 83, 54, 90, 61, 35, 18, 8, 3, 68, 41, 23, 12, 75, 47, 28, 82, 53, 89, 67, 40, 22, 11, 74, 46, 27, 81, 52, 88, 73, 45, 26, 80, 51, 87, 79, 50, 86, 85]
noncomputable def zpv : List Nat := [40, 39, 24, 60, 45, 38, 23, 13, 59, 44, 28, 74, 64, 49, 37, 22, 12, 6, 58, 43, 27, 16, 73, 63, 48, 31, 83, 77, 67, 52, 36, 21, 11, 5, 2, 57, 42, 26, 15, 8, 72, 62, 47, 30, 18, 82, 76, 66, 51, 33, 88, 85, 79, 69, 54, 35, 20, 10, 4, 1, 0, 56, 41, 25, 14, 7, 3, 71, 61, 46, 29, 17, 9, 81, 75, 65, 50, 32, 19, 87, 84, 78, 68, 53, 34, 90, 89, 86, 80, 70, 55]
noncomputable def p291a : List Nat := [0, 1, 2, 4, 5, 6, 7, 9, 10, 14, 15, 16, 17, 19, 20, 21, 25, 30, 31, 32, 33, 34, 36, 37, 38, 39, 43, 44, 49, 55, 56, 57, 58, 59, 60, 62, 63, 64, 65, 66, 70, 71, 72, 77, 78, 84, 69, 42, 24, 13, 76, 48, 29, 83, 54, 90, 61, 35, 18, 8, 3, 68, 41, 23, 12, 75, 47, 28, 82, 53, 89, 67, 40, 22, 11, 74, 46, 27, 81, 52, 88, 73, 45, 26, 80, 51, 87, 79, 50, 86, 85]
noncomputable def p491a : List Nat := [0, 1, 2, 4, 5, 6, 7, 9, 10, 14, 15, 16, 17, 19, 20, 21, 25, 30, 31, 32, 33, 34, 36, 37, 38, 39, 43, 44, 49, 55, 56, 57, 58, 59, 60, 62, 63, 64, 65, 66, 70, 71, 72, 77, 78, 84, 3, 8, 11, 12, 13, 18, 22, 23, 24, 26, 27, 28, 29, 35, 40, 41, 42, 45, 46, 47, 48, 50, 51, 52, 53, 54, 61, 67, 68, 69, 73, 74, 75, 76, 79, 80, 81, 82, 83, 85, 86, 87, 88, 89, 90]
noncomputable def mg91a : List Nat := [3, 4, 5, 6, 7, 8, 9, 10, 11, 12, 13, 14, 15, 16, 17, 18, 19, 20, 21, 22, 23, 24, 25, 26, 27, 28, 29, 30, 31, 32, 33, 34, 35, 36, 37, 38, 39, 40, 41, 42, 43, 44, 45, 46, 47, 48, 49, 50, 51, 52, 53, 54, 55, 56, 57, 58, 59, 60, 61, 62, 63, 64, 65, 66, 67, 68, 69, 70, 71, 72, 73, 74, 75, 76, 77, 78, 79, 80, 81, 82, 83, 84]
theorem zok : zbL (ziy.map rl) :=
 zep (rk := rk91a) (inv := zpv) (p2 := p291a) (p4 := p491a) (mg := mg91a) (m0 := 3) (m1 := 4) (m2 := 4) (m3 := 5) (k := 3) (nb := 39) (x1 := 3) (x2 := 84) (by decide +kernel) (by decide +kernel) (by decide +kernel) (by decide +kernel) (by decide +kernel) (by decide +kernel)
  (by decide +kernel) (by decide +kernel) (by decide +kernel) (by decide) (by decide +kernel) (by decide +kernel) (by decide +kernel) (by decide +kernel) (by decide) (by decide +kernel) (by decide +kernel) (by decide +kernel) (by decide) (by decide +kernel) (by decide +kernel) (by decide) (by decide +kernel) (by decide +kernel)
noncomputable def rk91b : List Nat := [85, 79, 50, 86, 73, 45, 26, 80, 51, 87, 67, 40, 22, 11, 74, 46, 27, 81, 52, 88, 61, 35, 18, 8, 3, 68, 41, 23, 12, 75, 47, 28, 82, 53, 89, 55, 30, 14, 5, 1, 0, 62, 36, 19, 9, 4, 69, 42, 24, 13, 76, 48, 29, 83, 54, 90, 56, 31, 15, 6, 2, 63, 37, 20, 10, 70, 43, 25, 77, 49, 84, 57, 32, 16, 7, 64, 38, 21, 71, 44, 78, 58, 33, 17, 65, 39, 72, 59, 34, 66, 60]
noncomputable def zqK : List Nat := [40, 39, 60, 24, 45, 38, 59, 74, 23, 44, 64, 13, 28, 49, 37, 58, 73, 83, 22, 43, 63, 77, 12, 27, 48, 67, 6, 16, 31, 52, 36, 57, 72, 82, 88, 21, 42, 62, 76, 85, 11, 26, 47, 66, 79, 5, 15, 30, 51, 69, 2, 8, 18, 33, 54, 35, 56, 71, 81, 87, 90, 20, 41, 61, 75, 84, 89, 10, 25, 46, 65, 78, 86, 4, 14, 29, 50, 68, 80, 1, 7, 17, 32, 53, 70, 0, 3, 9, 19, 34, 55]
noncomputable def p291b : List Nat := [0, 1, 3, 4, 5, 8, 9, 11, 12, 14, 18, 19, 22, 23, 26, 27, 28, 30, 35, 36, 40, 41, 45, 46, 47, 50, 51, 52, 53, 55, 61, 62, 67, 68, 73, 74, 75, 79, 80, 81, 82, 85, 86, 87, 88, 89, 69, 42, 24, 13, 76, 48, 29, 83, 54, 90, 56, 31, 15, 6, 2, 63, 37, 20, 10, 70, 43, 25, 77, 49, 84, 57, 32, 16, 7, 64, 38, 21, 71, 44, 78, 58, 33, 17, 65, 39, 72, 59, 34, 66, 60]
noncomputable def p491b : List Nat := [0, 1, 3, 4, 5, 8, 9, 11, 12, 14, 18, 19, 22, 23, 26, 27, 28, 30, 35, 36, 40, 41, 45, 46, 47, 50, 51, 52, 53, 55, 61, 62, 67, 68, 73, 74, 75, 79, 80, 81, 82, 85, 86, 87, 88, 89, 2, 6, 7, 10, 13, 15, 16, 17, 20, 21, 24, 25, 29, 31, 32, 33, 34, 37, 38, 39, 42, 43, 44, 48, 49, 54, 56, 57, 58, 59, 60, 63, 64, 65, 66, 69, 70, 71, 72, 76, 77, 78, 83, 84, 90]
noncomputable def mg91b : List Nat := [2, 3, 4, 5, 6, 7, 8, 9, 10, 11, 12, 13, 14, 15, 16, 17, 18, 19, 20, 21, 22, 23, 24, 25, 26, 27, 28, 29, 30, 31, 32, 33, 34, 35, 36, 37, 38, 39, 40, 41, 42, 43, 44, 45, 46, 47, 48, 49, 50, 51, 52, 53, 54, 55, 56, 57, 58, 59, 60, 61, 62, 63, 64, 65, 66, 67, 68, 69, 70, 71, 72, 73, 74, 75, 76, 77, 78, 79, 80, 81, 82, 83, 84, 85, 86, 87, 88, 89]
theorem znv : zbL ((ziy.map zb4).map rl) :=
 zep (rk := rk91b) (inv := zqK) (p2 := p291b) (p4 := p491b) (mg := mg91b) (m0 := 3) (m1 := 4) (m2 := 4) (m3 := 5) (k := 2) (nb := 44) (x1 := 2) (x2 := 89) (by decide +kernel) (by decide +kernel) (by decide +kernel) (by decide +kernel) (by decide +kernel) (by decide +kernel)
  (by decide +kernel) (by decide +kernel) (by decide +kernel) (by decide) (by decide +kernel) (by decide +kernel) (by decide +kernel) (by decide +kernel) (by decide) (by decide +kernel) (by decide +kernel) (by decide +kernel) (by decide) (by decide +kernel) (by decide +kernel) (by decide) (by decide +kernel) (by decide +kernel)
theorem zgE {oA oB : List Int} (hA : RowOK oA) (hB : RowOK oB) : zbL ((zae (sigL oA) (sigL oB)).map rl) /\ zbL (((zae (sigL oA) (sigL oB)).map zb4).map rl) := by
 have h64 : (sigL oA).length <= 64 := by rw [za4]; have := ze0 hA.len; exact Nat.le_trans this (Nat.le_of_lt (Nat.lt_succ_of_le (Nat.le_add_left 6 57)))
 have ne : ∀ {f : Run -> List Int} {rs : List Run}, (∀ r, f r ≠ []) -> ∀ d ∈ rs.map f, d ≠ [] := fun hf d hd => by
  k_extra "l"
  (refine x_EA (List.mem_map.mp hd) ?_; intro r _ q92; subst q92)
  k_extra "e"
  exact hf r
 rcases zfU hA hB with h | ⟨rfl, rfl⟩
 ·have nd := zao (as := sigL oA) (bs := sigL oB) h64
  exact ⟨zbf (ne fun _ h => by cases h) (zcC zhf nd) (by rwa [List.length_map]), zbf (ne fun _ h => by cases h) (zcC zhf (zdk nd)) (by rwa [List.length_map, List.length_map])⟩
 ·rw [zd8]
  exact ⟨zok, znv⟩
theorem zjA {oA oB : List Int} (hA : RowOK oA) (hB : RowOK oB) : (zae (sigL oA) (sigL oB)).length <= 500 := by
 rcases zfU hA hB with h | ⟨rfl, rfl⟩
 ·exact Nat.le_trans (Nat.le_of_lt h) (Nat.le_of_lt (by decide))
 ·rw [zd8]
  exact Nat.le_of_ble_eq_true rfl
example : True := by
 k_with_none
 k_with "au" => (have a6 := sig_wid rA.len; have b6 := sig_wid rB.len)
 k_with "b" => (k_steps; (try with_reducible refine zai ?_); (try dsimp only); (with_reducible rename Fr _ _ _ _ => wF); (with_reducible rename News _ _ _ _ => wN))
 k_with "P" => (with_reducible rename IsRange _ _ _ _ _ _ _ _ => wR)
 k_with "l" => refine bc fun hG9 => ?_
 k_with "H" => (k_extra "l"; (refine x_E (q914) ?_; clear q914; intro t9 q91; subst q91))
 k_with "e" => (refine hG9 ?_; clear hG9)
 k_with "ar" => (try simp only [List.cons_append, List.nil_append] at N9)
 k_with "L" => (try dsimp only)
 k_with "aD" => (k_extra "L"; k_extra "b")
 k_with "O" => (with_reducible rename _ /\ _ /\ _ /\ _ /\ _ /\ _ /\ _ => lT)
 k_with "ab" => (try simp only [List.cons_append, List.nil_append])
 k_with "d" => (k_steps; (try with_reducible refine zai ?_); (try dsimp only))
 k_with "opd" => (first | with_reducible exact o_i | ((with_reducible show Opd _ _ _ (Expr.Name _ _) _ _ _); k_dflt (exact o_n (by k_asm) (by first | with_reducible assumption | exact rfl | assumption | (dsimp only; (repeat rw [if_neg (by decide)]); first | assumption | (rw [if_pos rfl]))) rfl rfl rfl)))
 k_with "eval BinOp" => (k_here; k_dflt (refine' zmZ (by k_extra "opd") (by k_extra "opd") ?_; k_whole))
 k_with "execs cons" => (k_here; (try k_gentoks); (with_reducible refine zf9 ?_); (try dsimp only))
 k_with "Seq" => (first | with_reducible refine zgd ?_ | with_reducible refine zh2 ?_ | with_reducible refine zhF ?_ | with_reducible refine zfE ?_)
 k_with "storeName" => (k_here; (with_reducible show wpAny _ _ (storeName _ _ _) _ _ _); (try dsimp only); k_dflt (refine' zhb (by k_asm) (by k_asm) ?_ rfl rfl; k_whole); intro tk' h' m' F' N'; (try k_sweep))
 k_with "storeName" => (k_here; (with_reducible show wpAny _ _ (storeName _ _ (Value.int _ _)) _ _ _); (try dsimp only); k_dflt (refine' zit (by k_asm) (by k_asm) ?_ rfl rfl; k_whole); intro t' tk' h' m' F' N'; (try k_sweep))
 k_with "k_ne" => ((refine neN ?_; (try dsimp only); first | (with_reducible assumption) | (refine Ne.symm ?_; with_reducible assumption) | lia))
 k_with "pyIter ref" => (refine hold ?_)
 k_with "k_lt" => (intro ltq9; ((try (have hne9 := zkz (by assumption) ltq9 (by (intro p hp; repeat (first | exact hp | refine zbN ?_))))); replace ltq9 := allLt_of ltq9; simp only [AllLt, and_true] at ltq9))
 k_with "k_mem" => (first | with_reducible assumption | exact zf8 | (refine zbN ?_; k_mem))
 k_with "k_all" => (with_reducible assumption)
 k_with "call type:range" => (k_here; (rename Fr _ _ _ _ => F'); (rename News _ _ _ _ => N'); first | (with_unfolding_all refine range1_rows F' N' ?_; intro _ _ _ _ _ _ _ _ _) | (with_unfolding_all refine range2_rows F' N' ?_; intro _ _ _ _ _ _ _ _ _))
 k_with "execs" => ((with_reducible show wpAny _ _ (execs (List.drop _ (bd _)) _) _ _ _); refine hold ?_)
 k_with "eval Name" => (k_here; k_dflt (refine' nameX_L (by k_asm) (by first | assumption | exact rfl | (dsimp only; (repeat rw [if_neg (by decide)]); first | assumption | (rw [if_pos rfl]))) ?_ rfl rfl; k_whole))
 k_with "exec Assign cons ListComp" => (k_here; (with_reducible show wpAny _ _ (exec (Stmt.Assign _ (Expr.ListComp _ [⟨Expr.Name _ _, _, [], _⟩] _ _) _) _) _ _ _); k_dflt (refine LCg.Assign_ListComp_U (F₀ := by k_asm) (by rfl) (by with_unfolding_all rfl) (by with_unfolding_all rfl) (by decide) (by rfl) (by decide) (by rfl) (by rfl) (by rfl) ?_))
 k_with "CompSrc" => (refine hold ?_)
 k_with "CompEnd" => (refine hold ?_)
 k_with "newTuple" => (k_here; k_dflt (refine' kup_newTuple (by k_asm) (by k_asm) ?_ (by kmk_size)); intro D' h' F' N' l1; (try k_lt l1); (try k_sweep))
 k_with "exec For" => (k_here; (with_reducible rename Fr _ _ _ _ => F'); (refine For_invTF F' ?_ (by intro _; rfl)))
 trivial
theorem nlet2 {h : Heap} {a b : Addr} {o1 o2 : Obj} {r : List (Addr × Obj)} {G : Prop} (N : News h₀ L h ((a, o1) :: (b, o2) :: r)) (k : let x := a; let y := b; News h₀ L h ((x, o1) :: (y, o2) :: r) -> G) : G := k N
theorem lawL2 {loose : List Str} {mb : Str -> Option Value} {g : Heap} {L' fa : Addr} {cd : Value} {Q : Flow -> Shared -> Prop} 
  {oA oB : List Int} {tA tB : Tok} {z1 z2 : List Value} {n1 n2 : Nat} {D1 D2 : Addr} {o1 o2 o3 o4 : Obj} {v3 v4 : Option Value}
  (B : Below callerA base [] g) (F : Fr g L' s.heap m) (X : (K w.params).In g) (XB : (K w.params).In base) (T : Top Mine.q loose mean mg mb g) (TB : Top Mine.q loose mean mg mb base)
  (N : News g L' s.heap ((D2, W.listOf z2.toArray n2) :: (D1, W.listOf z1.toArray n1) :: (L' + 1 + 1 + 1 + 1, o4) :: (L' + 1 + 1 + 1, o3) :: (L' + 1 + 1, o2) :: (L' + 1, o1) :: [])) (d1 : o1.data = .cell (some (.ref D1))) (d2 : o2.data = .cell (some (.ref D2))) (d3 : o3.data = .cell v3) (d4 : o4.data = .cell v4)
  (l1 : L' + 1 + 1 + 1 + 1 < D1) (l2 : D1 < D2) (i1 : IntsAre z1 (sigL oA)) (i2 : IntsAre z2 (sigL oB)) (rA : RowOK oA) (rB : RowOK oB) (f1 : m (Str.ofString "one") = some (.bytes (byteArr oA) tA)) (f2 : m (Str.ofString "two") = some (.bytes (byteArr oB) tB))
  (hE : PassesOwn (model PySem.Challenge.rw_rt0114_02.row.prog w) (callerA.deeper (zan L' fa cd)) (zan L' fa cd) E)
  (hret : ∀ h' tk' m' news', Fr g L' h' m' -> News g L' h' news' -> Q (.ret (.bool true)) { s with heap := h', toks := tk' }) :
  wpAny (model PySem.Challenge.rw_rt0114_02.row.prog w) (callerA.deeper (zan L' fa cd)) (execs ((bd 21).drop 5) (zan L' fa cd)) Q E s := by
 revert X; k_fill; intro X
 refine zdz (show (bd 21).drop 5 = nthS 5 (bd 21) :: nthS 6 (bd 21) :: nthS 7 (bd 21) :: (bd 21).drop 8 from rfl) ?_
 (conv in (nthS 5 _) => whnf)
 (conv in (nthS 6 _) => whnf)
 (conv in (nthS 7 _) => whnf)
 k_extra "au"
 have zl1 := i1.length
 have zl2 := i2.length
 k_extra "b"
 k_extra "P"
 refine LCg.CompSrc.range rfl wF wN wR (small_one (by exact Int.neg_ofNat_le_ofNat (2 ^ 62) 0) (by exact kbt_pos 62) (by exact Int.neg_ofNat_le_natCast (2 ^ 62) (sigL oA).length) (by lia)) (n := (sigL oA).length) (rsz (by exact Eq.symm (Int.zero_add ↑(sigL oA).length))) (by rw [sizeLine_eq]; exact Nat.le_trans a6 (Nat.le_of_lt (Nat.lt_succ_of_le (Nat.le_add_left 6 16777209)))) ?_
 intro g9
 refine' zbP (fun q ys nw => ∃ tl, nw = (D2, W.listOf z2.toArray n2) :: (D1, W.listOf z1.toArray n1) :: (L' + 1 + 1 + 1 + 1, o4) :: (L' + 1 + 1 + 1, o3) :: (L' + 1 + 1, o2) :: (L' + 1, o1) :: tl /\ (∀ p ∈ tl, p.1 ≠ L' + 1 + 1 + 1 + 1 /\ p.1 ≠ L' + 1 + 1 + 1) /\ DatAll tl ys (((ovr (sigL oA) 0).take q).map tdat)) ?turno ⟨[], rfl, fn, .nil⟩ ?fino
 case turno =>
  intro q v ys nw I oI C oC Dd m2 h9 tk9 E9 hin q914 q915 hC9 hx9 F9 N9 off9 ne9
  k_extra "H"
  (refine zaW (q915) ?_; clear q915; intro tl q91 hoff hys; subst q91)
  k_extra "e"
  clear wF wN wR ne9
  k_extra "ar"
  k_extra "aD"
  k_extra "O"
  refine LCg.CompEnd.intro wF wN ((D2, W.listOf z2.toArray n2) :: (D1, W.listOf z1.toArray n1) :: (L' + 1 + 1 + 1 + 1, o4) :: (L' + 1 + 1 + 1, o3) :: (L' + 1 + 1, o2) :: (L' + 1, o1) :: _ :: tl) (fun p hp => zcM [_, _, _, _, _, _, _, _, _] hp) (zbv ⟨Nat.ne_of_gt lT.1, Nat.ne_of_gt lT.2.1, Nat.ne_of_gt lT.2.2.1⟩ [_, _, _, _, _, _] off9) trivial ⟨_, rfl, fc ⟨Nat.ne_of_gt lT.2.2.2.2.2.1, Nat.ne_of_gt lT.2.2.2.2.2.2.1⟩ hoff, ?_⟩
  rw [zfM hin, List.map_append]
  refine DatAll.append (hys.mono fun p hp => .tail _ hp) (.cons (DatIn.tuple (.head _) ?_) .nil)
  rw [show (0 + (q : Int)).toNat = q by lia]
  first
   | exact .cons (by rw [show (0 + (q : Int)) = (q : Int) + 0 by exact Int.add_comm 0 ↑q]; exact .int _ _) (.cons (.int _ _) .nil)
   | exact .cons (by rw [show (0 + (q : Int)) = (q : Int) by omega]; exact .int _ _) (.cons (.int _ _) .nil)
 case fino =>
  intro ys nw q92
  k_extra "l"
  (refine zaW (q92) ?_; clear q92; intro tl q91 hoff hys; subst q91)
  k_extra "e"
  clear wF wN wR
  rw [show (sigL oA).length = (ovr (sigL oA) 0).length from (zaR _ _).symm, List.take_length] at hys
  k_extra "ab"
  k_extra "b"
  k_extra "P"
  refine nlet2 wN ?_
  clear wN
  intro lr ov wN
  (with_reducible rename ov < lr /\ _ => lL)
  (with_reducible rename _ ≠ ov /\ _ /\ _ /\ _ /\ _ /\ _ /\ _ => lO)
  refine' zhI (σ := MovC) (n := (sigL oA).length + (sigL oB).length - 1) (rest := (ov, LCg.lst ys) :: (D2, W.listOf z2.toArray n2) :: (D1, W.listOf z1.toArray n1) :: (L' + 1 + 1, o2) :: (L' + 1, o1) :: tl) (fun _ => []) (MLed lr (L' + 1 + 1 + 1 + 1) (L' + 1 + 1 + 1)) [Str.ofString "under", Str.ofString "missing", Str.ofString "unexpected"] (MovI lr (L' + 1 + 1 + 1 + 1) (L' + 1 + 1 + 1) (sigL oA) (sigL oB)) (MovC.mk o3 o4 [] 0 []) (by rfl) wR ?hsm ?hn wF ?hN ?ho ?hk ?hi ?turn ?done
  case hsm => exact small_one (by lia) (by lia) (by exact Int.neg_ofNat_le_natCast (2 ^ 62) (sigL oA).length) (by lia)
  case hn => exact rsz0 (by (clear d1 d2 d3 d4 l1 l2 f1 f2 a6 b6 zl1 zl2 lO lL; omega))
  case hN =>
   refine fun p hp => wN p ?_
   simp only [MLed, List.cons_append, List.nil_append, List.mem_cons] at hp
   rcases hp with rfl | rfl | rfl | rfl | rfl | rfl | rfl | rfl | hp
   ·exact .head _
   ·exact .tail _ (.tail _ (.tail _ (.tail _ (.head _))))
   ·exact .tail _ (.tail _ (.tail _ (.tail _ (.tail _ (.head _)))))
   ·exact .tail _ (.head _)
   ·exact .tail _ (.tail _ (.head _))
   ·exact .tail _ (.tail _ (.tail _ (.head _)))
   ·exact .tail _ (.tail _ (.tail _ (.tail _ (.tail _ (.tail _ (.head _))))))
   ·exact .tail _ (.tail _ (.tail _ (.tail _ (.tail _ (.tail _ (.tail _ (.head _)))))))
   ·exact .tail _ (.tail _ (.tail _ (.tail _ (.tail _ (.tail _ (.tail _ (.tail _ hp)))))))
  case ho => exact zox lL hoff lO l1 l2
  case hk => exact fn
  case hi => exact ⟨fn, ⟨_, d3⟩, ⟨_, d4⟩, .nil⟩
  case turn =>
   intro i t c u s₁ own hi hI hof hrest F₁ N₁
   refine bc fun hG9 => ?_; obtain ⟨p3, p4, rv, rn, ty⟩ := c; refine hG9 ?_; clear hG9
   (refine x_E (hI.d3) ?_; intro v5 d5)
   (refine x_E (hI.d4) ?_; intro v6 d6)
   exact zjf (tl := ty) rfl B F₁ X XB T TB N₁ d1 d2 d5 d6 hof hI.off (hrest _ (.tail _ (.tail _ (.tail _ (.tail _ (.head _)))))) (hrest _ (.tail _ (.tail _ (.tail _ (.head _))))) (hrest _ (.tail _ (.tail _ (.head _)))) (hrest _ (.tail _ (.head _))) (hrest _ (.head _)) (fun p hp => hrest _ (.tail _ (.tail _ (.tail _ (.tail _ (.tail _ hp)))))) hys l1 l2 ⟨lO.2.2.1, lO.2.2.2.1⟩ lL.2.2.2.1 i1 i2 rA rB hi hI.dat (by ((try dsimp only); (try simp only [kstB]); (repeat rw [if_neg (by decide)]); first | done | assumption | (rw [if_pos rfl]; done) | (rw [if_pos rfl]; exact rfl) | exact rfl)) (by ((try dsimp only); (try simp only [kstB]); (repeat rw [if_neg (by decide)]); first | done | assumption | (rw [if_pos rfl]; done) | (rw [if_pos rfl]; exact rfl) | exact rfl)) (by ((try dsimp only); (try simp only [kstB]); (repeat rw [if_neg (by decide)]); first | done | assumption | (rw [if_pos rfl]; done) | (rw [if_pos rfl]; exact rfl) | exact rfl)) (by ((try dsimp only); (try simp only [kstB]); (repeat rw [if_neg (by decide)]); first | done | assumption | (rw [if_pos rfl]; done) | (rw [if_pos rfl]; exact rfl) | exact rfl)) (by intro z hz; simp only [kstB]; rw [hz]; rfl) hE
  case done =>
   intro c u h tk hI hof F₂ N₂
   refine bc fun hG9 => ?_; obtain ⟨p3, p4, rv, rn, ty⟩ := c; refine hG9 ?_; clear hG9
   (refine x_E (hI.d3) ?_; intro v5 d5)
   (refine x_E (hI.d4) ?_; intro v6 d6)
   clear wF wN wR
   k_extra "d"
   have hd : DatAll ty rv ((zae (sigL oA) (sigL oB)).map rdat) := hI.dat
   (refine cj2 (zgE rA rB) ?_; intro ho1 ho2)
   refine lawL3 (rn := rn) (n1 := n1) (n2 := n2) (rv := rv) (ty := ty) (D1 := D1) (D2 := D2) (z1 := z1) (z2 := z2) (o1 := o1) (o2 := o2) B F₂ X XB T TB (fun p hp => N₂ p ?_) d1 d2 d5 d6 i1 i2 rA rB (by ((try dsimp only); (try simp only [kstB]); (repeat rw [if_neg (by decide)]); first | done | assumption | (rw [if_pos rfl]; done) | (rw [if_pos rfl]; exact rfl) | exact rfl)) hd ho1 ho2 (zjA rA rB) hE hret
   simp only [List.mem_cons] at hp
   rcases hp with rfl | rfl | rfl | rfl | rfl | rfl | rfl | hp
   ·exact List.mem_append_right _ (.tail _ (.head _))
   ·exact List.mem_append_right _ (.tail _ (.tail _ (.head _)))
   ·exact .head _
   ·exact .tail _ (.head _)
   ·exact .tail _ (.tail _ (.head _))
   ·exact List.mem_append_right _ (.tail _ (.tail _ (.tail _ (.head _))))
   ·exact List.mem_append_right _ (.tail _ (.tail _ (.tail _ (.tail _ (.head _)))))
   ·exact .tail _ (.tail _ (.tail _ (List.mem_append_left _ hp)))
example : True := by
 k_with "w" => (k_extra "d"; refine zh5 (lawA L' fa cd) ?_)
 k_with "f" => ((case kB => k_asm); (case kF => k_asm); (case kX => k_asm); (case kN => k_asm); (case kT => k_asm); case kh => exact rfl)
 k_with "i" => ((case kd => exact Nat.lt_of_le_of_lt (by decide) law_dp); case ku => exact Nat.lt_of_le_of_lt (by decide) law_un)
 k_with "am" => (k_extra "i"; intro _ _ _ _ _; rw [zaq rA.bytes])
 k_with "6" => ((try with_reducible refine zai ?_); k_extra "L")
 k_with "an" => (k_extra "i"; intro _ _ _ _ _; rw [zaq rB.bytes])
 k_with "isTrue Compare" => (k_here; k_dflt (refine' zkn (by k_extra "opd") (by k_extra "opd") (by with_unfolding_all rfl) ?_; k_whole))
 k_with "call ref" => (refine hold ?_)
 k_with "call type:list" => (refine hold ?_)
 k_with "getMethod bytes" => (k_here; (with_reducible refine zdE ?_))
 k_with "call builtin:bytes.rstrip" => (refine hold ?_)
 trivial
theorem lawL1 {loose : List Str} {mb : Str -> Option Value} {g : Heap} {L' fa : Addr} {cd : Value} {Q : Flow -> Shared -> Prop} 
  {oA oB : List Int} {tA tB : Tok} {o1 o2 o3 o4 : Obj} {v1 v2 v3 v4 : Option Value}
  (B : Below callerA base [] g) (F : Fr g L' s.heap m) (X : (K w.params).In g) (XB : (K w.params).In base) (T : Top q loose mean mg mb g) (TB : Top q loose mean mg mb base)
  (N : News g L' s.heap ((L' + 1 + 1 + 1 + 1, o4) :: (L' + 1 + 1 + 1, o3) :: (L' + 1 + 1, o2) :: (L' + 1, o1) :: [])) (d1 : o1.data = .cell v1) (d2 : o2.data = .cell v2) (d3 : o3.data = .cell v3) (d4 : o4.data = .cell v4)
  (rA : RowOK oA) (rB : RowOK oB) (f1 : m (Str.ofString "one") = some (.bytes (byteArr oA) tA)) (f2 : m (Str.ofString "two") = some (.bytes (byteArr oB) tB))
  (hE : PassesOwn (model PySem.Challenge.rw_rt0114_02.row.prog w) (callerA.deeper (zan L' fa cd)) (zan L' fa cd) E)
  (hret : ∀ h' tk' m' news', Fr g L' h' m' -> News g L' h' news' -> Q (.ret (.bool true)) { s with heap := h', toks := tk' }) :
  wpAny (model PySem.Challenge.rw_rt0114_02.row.prog w) (callerA.deeper (zan L' fa cd)) (execs ((bd 21).drop 2) (zan L' fa cd)) Q E s := by
 revert X; k_fill; intro X
 refine zdz (show (bd 21).drop 2 = nthS 2 (bd 21) :: nthS 3 (bd 21) :: nthS 4 (bd 21) :: (bd 21).drop 5 from rfl) ?_
 (conv in (nthS 2 _) => whnf)
 (conv in (nthS 3 _) => whnf)
 (conv in (nthS 4 _) => whnf)
 k_extra "w"
 refine' zbX (cs := zaZ) ?kB ?kF ?kX ?kN ?kT ?kh ?kl ?kd ?ku ?_
 k_extra "f"
 case kl => rw [byteArr_size]; have := rA.len; exact Nat.le_trans this (Nat.le_of_lt (Nat.lt_succ_of_le (Nat.le_add_left 4 95)))
 k_extra "am"
 k_extra "w"
 refine' zeB (cs := zaZ) ?kB ?kF ?kX ?kN ?kT ?kh ?kl ?kd ?ku ?_
 k_extra "f"
 case kl => rw [byteArr_size]; have := rA.len; exact Nat.le_of_lt_succ (Nat.lt_succ_of_le this)
 k_extra "am"
 k_steps
 all_goals (try (exfalso; (with_reducible rename (_ != _) = true => hbad); simp at hbad; done))
 k_extra "6"
 refine zh5 (lawA L' fa cd) ?_
 refine' zbX (cs := zaZ) ?kB ?kF ?kX ?kN ?kT ?kh ?kl ?kd ?ku ?_
 k_extra "f"
 case kl => rw [byteArr_size]; have := rB.len; exact Nat.le_trans this (Nat.le_of_lt (Nat.lt_succ_of_le (Nat.le_add_left 4 95)))
 k_extra "an"
 k_extra "w"
 refine' zeB (cs := zaZ) ?kB ?kF ?kX ?kN ?kT ?kh ?kl ?kd ?ku ?_
 k_extra "f"
 case kl => rw [byteArr_size]; have := rB.len; exact Nat.le_of_lt_succ (Nat.lt_succ_of_le this)
 k_extra "an"
 k_steps
 all_goals (try (exfalso; (with_reducible rename (_ != _) = true => hbad); simp at hbad; done))
 k_extra "6"
 refine zh5 (lawA L' fa cd) ?_
 refine' zbX (cs := zaZ) ?kB ?kF ?kX ?kN ?kT ?kh ?kl ?kd ?ku ?_
 k_extra "f"
 case kl => rw [byteArr_size]; have := rA.len; exact Nat.le_trans this (Nat.le_of_lt (Nat.lt_succ_of_le (Nat.le_add_left 4 95)))
 k_extra "am"
 k_extra "d"
 refine zcy (by rw [byteArr_size]; exact Nat.le_trans (zco _ (by have := rA.len; exact Nat.le_trans this (Nat.le_of_lt (Nat.lt_succ_of_le (Nat.le_add_left 4 995))))) (by decide)) ?_
 intro _ _
 k_extra "b"
 refine zbR rfl ?_ wF wN ?_
 ·rw [<- KBw.ints_length, zbS, za4]; exact Nat.le_trans (ze0 rA.len) (by decide)
 intro D1 n1 z1 h1 k1 F1 N1 l1 i1
 clear wF wN
 k_extra "L"
 rw [zbS] at i1
 replace l1 := allLt_of l1
 simp only [AllLt, and_true] at l1
 have e11 : D1 ≠ L' + 1 := Nat.ne_of_gt l1.2.2.2
 have e12 : D1 ≠ L' + 1 + 1 := Nat.ne_of_gt l1.2.2.1
 have e13 : D1 ≠ L' + 1 + 1 + 1 := Nat.ne_of_gt l1.2.1
 have e14 : D1 ≠ L' + 1 + 1 + 1 + 1 := Nat.ne_of_gt l1.1
 k_extra "w"
 refine' zbX (cs := zaZ) ?kB ?kF ?kX ?kN ?kT ?kh ?kl ?kd ?ku ?_
 k_extra "f"
 case kl => rw [byteArr_size]; have := rB.len; exact Nat.le_trans this (Nat.le_of_lt (Nat.lt_succ_of_le (Nat.le_add_left 4 95)))
 k_extra "an"
 k_extra "d"
 refine zcy (by rw [byteArr_size]; exact Nat.le_trans (zco _ (by have := rB.len; exact Nat.le_trans this (Nat.le_of_lt (Nat.lt_succ_of_le (Nat.le_add_left 4 995))))) (by decide)) ?_
 intro _ _
 k_extra "b"
 refine zbR rfl ?_ wF wN ?_
 ·rw [<- KBw.ints_length, zbS, za4]; exact Nat.le_trans (ze0 rB.len) (by decide)
 intro D2 n2 z2 h2 k2 F2 N2 l2 i2
 clear wF wN
 k_extra "L"
 rw [zbS] at i2
 replace l2 := allLt_of l2
 simp only [AllLt, and_true] at l2
 k_extra "b"
 exact lawL2 (D1 := D1) (D2 := D2) (z1 := z1) (z2 := z2) (n1 := n1) (n2 := n2) (tA := tA) (tB := tB) B wF X XB T TB wN (by assumption) (by assumption) d3 d4 l1.1 l2.1 i1 i2 rA rB f1 f2 hE hret
example : True := by
 k_with "Q" => (intro q v ys I oI C oC Dd m2 h9 tk9 E9 hin hv9 hys hC9 hx9 F9 N9 off9 ne9; clear wF wN ne9; k_extra "L")
 k_with "h" => ((with_reducible rename Fr _ _ _ _ => wF); (with_reducible rename News _ _ _ _ => wN))
 k_with "call type:bytes" => (refine hold ?_)
 k_with "eval ListComp" => (k_here; (with_reducible show wpAny _ _ (eval (Expr.ListComp _ [⟨Expr.Name _ _, _, [_], _⟩] _ _) _) _ _ _); k_dflt (refine LCt.ListComp_T (F₀ := by k_asm) (by with_unfolding_all rfl) (by decide) (by rfl) (by decide) (by rfl) ?_))
 k_with "eval ListComp" => (k_here; (with_reducible show wpAny _ _ (eval (Expr.ListComp _ [⟨Expr.Name _ _, _, [], _⟩] _ _) _) _ _ _); k_dflt (refine LCg.ListComp_U (F₀ := by k_asm) (by with_unfolding_all rfl) (by decide) (by rfl) (by decide) (by rfl) ?_))
 k_with "subscriptTail Name Slice ref ref" => (refine hold ?_)
 trivial
theorem lawL0 {loose : List Str} {mb : Str -> Option Value} {g : Heap} {L' fa : Addr} {cd : Value} {Q : Flow -> Shared -> Prop} 
  {sl : Addr} {vs : List Value} {l : List Int} {o1 o2 o3 o4 : Obj} {v1 v2 v3 v4 : Option Value}
  (B : Below callerA base [] g) (F : Fr g L' s.heap m) (X : (K w.params).In g) (XB : (K w.params).In base) (T : Top Mine.q loose mean mg mb g) (TB : Top Mine.q loose mean mg mb base)
  (N : News g L' s.heap ((L' + 1 + 1 + 1 + 1, o4) :: (L' + 1 + 1 + 1, o3) :: (L' + 1 + 1, o2) :: (L' + 1, o1) :: [])) (d1 : o1.data = .cell v1) (d2 : o2.data = .cell v2) (d3 : o3.data = .cell v3) (d4 : o4.data = .cell v4)
  (hsl : g.IsList sl vs.toArray) (hsi : IntsAre vs l) (hln : vs.length <= 63) (f1 : m (Str.ofString "script") = some (.ref sl))
  (hE : PassesOwn (model PySem.Challenge.rw_rt0114_02.row.prog w) (callerA.deeper (zan L' fa cd)) (zan L' fa cd) E)
  (hret : ∀ h' tk' m' news', Fr g L' h' m' -> News g L' h' news' -> Q (.ret (.bool true)) { s with heap := h', toks := tk' }) :
  wpAny (model PySem.Challenge.rw_rt0114_02.row.prog w) (callerA.deeper (zan L' fa cd)) (execs ((bd 21).drop 0) (zan L' fa cd)) Q E s := by
 revert X; k_fill; intro X
 refine zdz (show (bd 21).drop 0 = nthS 0 (bd 21) :: nthS 1 (bd 21) :: (bd 21).drop 2 from rfl) ?_
 (conv in (nthS 0 _) => whnf)
 (conv in (nthS 1 _) => whnf)
 k_extra "b"
 refine zdh wF wN (its := vs.toArray) ?lD1 (by decide) (by rw [List.size_toArray]; exact Nat.le_trans hln (Nat.le_of_lt (Nat.lt_succ_of_le (Nat.le_add_left 63 99936)))) ?_ (by with_unfolding_all rfl) (by intro _; with_unfolding_all rfl)
 case lD1 =>
  (refine ziD (hsl) ?_; clear hsl; intro o e1 e2 n e3)
  exact ⟨o, wF.keep _ _ e1, e2, n, e3⟩
 intro D1 hD1 FD1 ND1 lD1
 clear wF wN
 (refine x_EA (zed (a := 0) hsi (by decide)) ?_; intro msD1 hmD1 hkD1)
 obtain ⟨wsD1, hwD1⟩ : ∃ z, z = slicePick vs.toArray (some 0) (some 8) (some 2) := ⟨_, rfl⟩
 rw [<- hwD1] at ND1 hmD1
 k_extra "aD"
 refine LCg.CompSrc.ledger rfl wF wN (.head _) (by rw [sizeLine_eq]; have h1 := hmD1.length; have h2 : wsD1.toList.length = wsD1.size := Array.length_toList; lia) ?_
 intro g9
 refine' zbU (fun q ys => IntsAre ys ((msD1.take q).map kind)) ?turnD1 .nil ?finD1
 case turnD1 =>
  k_extra "Q"
  have hqm : q < msD1.length := by rw [<- hmD1.length]; exact Nat.lt_of_lt_of_eq hin (Array.length_toList (xs := wsD1)).symm
  (refine x_E (zo2 hmD1 hqm) ?_; intro tx hx)
  have hvx : v = .int (msD1.getD q 0) tx := by
   have h1 : wsD1.toList[q]? = some v := by simpa using hv9
   rw [h1] at hx
   exact Option.some.inj hx
  subst hvx
  k_steps
  all_goals
   (try with_reducible refine zai ?_)
   k_extra "L"
   k_extra "h"
   (with_reducible rename Int.fmod _ 4 = _ => kO)
   refine LCg.CompEnd.intro wF wN _ (fun p hp => .tail _ hp) off9 (Or.inr ⟨_, .head _, rfl, _, rfl⟩) ⟨?_, rfl⟩
   rw [zek hqm]
   first | rw [zqr kO] | rw [zo9 kO] | rw [zqZ kO] | rw [zq6 kO]
   exact hys.append (.cons _ _ .nil)
 case finD1 =>
  intro ysD1 hysD1
  clear wF wN
  have hsz : wsD1.size = msD1.length := by have h1 := hmD1.length; have h2 : wsD1.toList.length = wsD1.size := Array.length_toList; exact Nat.add_right_cancel (congrFun (congrArg HAdd.hAdd h1) L')
  rw [hsz, List.take_length] at hysD1
  obtain ⟨osD1, hosD1⟩ : ∃ z, z = msD1.map kind := ⟨_, rfl⟩
  rw [<- hosD1] at hysD1
  have rwD1 : RowOK osD1 := by rw [hosD1]; exact zlQ hkD1
  k_extra "b"
  refine' zcz wF wN rfl (.head _) hysD1 rwD1.bytes (by have := rwD1.len; exact Nat.le_trans this (Nat.le_of_lt (Nat.lt_succ_of_le (Nat.le_add_left 4 99995)))) ?_
  intro hbD1 tD1 kD1 FbD1 NbD1
  clear wF wN
  k_extra "aD"
  refine zdh wF wN (its := vs.toArray) ?lD2 (by decide) (by rw [List.size_toArray]; exact Nat.le_trans hln (Nat.le_of_lt (Nat.lt_succ_of_le (Nat.le_add_left 63 99936)))) ?_ (by with_unfolding_all rfl) (by intro _; with_unfolding_all rfl)
  case lD2 =>
   (refine ziD (hsl) ?_; clear hsl; intro o e1 e2 n e3)
   exact ⟨o, wF.keep _ _ e1, e2, n, e3⟩
  intro D2 hD2 FD2 ND2 lD2
  clear wF wN
  (refine x_EA (zed (a := 1) hsi (by decide)) ?_; intro msD2 hmD2 hkD2)
  obtain ⟨wsD2, hwD2⟩ : ∃ z, z = slicePick vs.toArray (some 1) (some 8) (some 2) := ⟨_, rfl⟩
  rw [<- hwD2] at ND2 hmD2
  k_extra "aD"
  refine LCg.CompSrc.ledger rfl wF wN (.head _) (by rw [sizeLine_eq]; have h1 := hmD2.length; have h2 : wsD2.toList.length = wsD2.size := Array.length_toList; lia) ?_
  intro g9
  refine' zbU (fun q ys => IntsAre ys ((msD2.take q).map kind)) ?turnD2 .nil ?finD2
  case turnD2 =>
   k_extra "Q"
   have hqm : q < msD2.length := by rw [<- hmD2.length]; exact Nat.lt_of_lt_of_eq hin (Array.length_toList (xs := wsD2)).symm
   (refine x_E (zo2 hmD2 hqm) ?_; intro tx hx)
   have hvx : v = .int (msD2.getD q 0) tx := by
    have h1 : wsD2.toList[q]? = some v := by simpa using hv9
    rw [h1] at hx
    exact Option.some.inj hx
   subst hvx
   k_steps
   all_goals
    (try with_reducible refine zai ?_)
    k_extra "L"
    k_extra "h"
    (with_reducible rename Int.fmod _ 4 = _ => kO)
    refine LCg.CompEnd.intro wF wN _ (fun p hp => .tail _ hp) off9 (Or.inr ⟨_, .head _, rfl, _, rfl⟩) ⟨?_, rfl⟩
    rw [zek hqm]
    first | rw [zqr kO] | rw [zo9 kO] | rw [zqZ kO] | rw [zq6 kO]
    exact hys.append (.cons _ _ .nil)
  case finD2 =>
   intro ysD2 hysD2
   clear wF wN
   have hsz : wsD2.size = msD2.length := by have h1 := hmD2.length; have h2 : wsD2.toList.length = wsD2.size := Array.length_toList; exact Nat.add_right_cancel (congrFun (congrArg HAdd.hAdd h1) L')
   rw [hsz, List.take_length] at hysD2
   obtain ⟨osD2, hosD2⟩ : ∃ z, z = msD2.map kind := ⟨_, rfl⟩
   rw [<- hosD2] at hysD2
   have rwD2 : RowOK osD2 := by rw [hosD2]; exact zlQ hkD2
   k_extra "b"
   refine' zcz wF wN rfl (.head _) hysD2 rwD2.bytes (by have := rwD2.len; exact Nat.le_trans this (Nat.le_of_lt (Nat.lt_succ_of_le (Nat.le_add_left 4 99995)))) ?_
   intro hbD2 tD2 kD2 FbD2 NbD2
   clear wF wN
   k_extra "aD"
   exact lawL1 (oA := osD1) (oB := osD2) (tA := tD1) (tB := tD2) B wF X XB T TB (fun p hp => wN p (.tail _ (.tail _ (.tail _ (.tail _ hp))))) d1 d2 d3 d4 rwD1 rwD2 (by ((try dsimp only); (try simp only [kstB]); (repeat rw [if_neg (by decide)]); first | done | assumption | (rw [if_pos rfl]; done) | (rw [if_pos rfl]; exact rfl) | exact rfl)) (by ((try dsimp only); (try simp only [kstB]); (repeat rw [if_neg (by decide)]); first | done | assumption | (rw [if_pos rfl]; done) | (rw [if_pos rfl]; exact rfl) | exact rfl)) hE hret
example : True := by
 k_with "execs cons" => ((with_reducible show wpAny _ _ (execs (Stmt.Assign [Expr.Name (Str.ofString "one") _] _ _ :: _) _) _ _ _); refine hold ?_)
 trivial
end Mine
end
open Mine
theorem PySem.Challenge.cw_rt0114_02_holds : PySem.Challenge.rw_rt0114_02.Holds := by
 w_on
 refine holds_law (by decide +kernel) fun said => ?_
 refine holds_open (q := Mine.q) (loose := Mine.loose) (Xt := fun s => xlAt Mine.q [] s && recOk [] s) (XP := XL Mine.q []) (Yf := Hook.obs (kHook Mine.K Mine.Kas zeL)) (Ya := Hook.val (kHook Mine.K Mine.Kas zeL)) (YP := Hook.says (kHook Mine.K Mine.Kas zeL)) (N := 5018) Mine.left (Hook.of _) (Hook.keeps _) (fun s e => xl_of s (Bool.and_eq_true_iff.mp e).1) XL.keeps (by rfl) (by rfl) (by rfl) (fun s e => recFacts_of (Bool.and_eq_true_iff.mp e).2) (by first | rfl | fail "x") (by first | assumption | decide +kernel) (by decide +kernel) ⟨rfl, rfl, rfl, rfl, rfl, by decide +kernel⟩ ?hw ?hc
 case hw => w_witness2
 clear said
 generalize Mine.loose = ll
 k_go0
 (all_goals try k_fold)
 k_steps
 refine zai ?_
 k_extra "h"
 (with_reducible rename IntsAre _ _ => hI)
 (with_reducible rename Below _ _ _ _ => wB)
 (with_reducible rename Top _ _ _ _ _ _ => wT)
 (with_reducible rename Heap.IsList _ _ _ => hL)
 rename Frag.In _ _ => wX
 (with_reducible rename ¬ (_ : Int) < _ => hlen)
 refine Mine.lawL0 wB wF wX wX wT wT wN (by with_reducible assumption) (by with_reducible assumption) (by with_reducible assumption) (by with_reducible assumption) hL hI (by have h1 := hI.length; lia) (by first | rfl | with_unfolding_all rfl) ?hE ?hret
 case hE => first | passes_own | with_unfolding_all passes_own
 case hret =>
  intro h9 tk9 m9 news9 F9 N9
  clear wF wN
  k_steps