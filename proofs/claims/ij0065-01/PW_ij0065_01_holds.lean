import PyProof.Rows.All
import Wide.All
import OpenK.AllK
import Wide.FinOn
import Flt.RightMore
import Lean
import PySem.Challenge.RW_ij0065_01
open PySem PySem.W PyProof.Rows PySem.Calls
set_option Elab.async false
set_option maxRecDepth 100000
set_option maxHeartbeats 8000000
set_option exponentiation.threshold 3000
set_option linter.all false
set_option compiler.extract_closed false
namespace Mine
noncomputable section
local macro_rules | `(tactic| omega) => `(tactic| (law_clear; lia))
-- Hd
noncomputable def findFn (n : Str) : List Stmt → Arguments × List Stmt × Scope
  | [] => (default, [], default)
  | .FunctionDef name ps body _ _ _ scope _ _ _ :: r => if name == n then (ps, body, scope) else findFn n r
  | _ :: r => findFn n r
noncomputable def findCls (n : Str) : List Stmt → List Stmt
  | [] => []
  | .ClassDef name _ _ body _ _ _ _ _ _ _ :: r => if name == n then body else findCls n r
  | _ :: r => findCls n r
noncomputable def fdp : List String → Arguments × List Stmt × Scope
  | [f] => findFn (Str.ofString f) PySem.Challenge.rw_ij0065_01.row.prog.main.body
  | [c, f] => findFn (Str.ofString f) (findCls (Str.ofString c) PySem.Challenge.rw_ij0065_01.row.prog.main.body)
  | _ => (default, [], default)
noncomputable def fnObj (name qual : Str) (t : Arguments × List Stmt × Scope) (g : Addr) (cl : List (Str × Addr)) (dV kV doc pm : Value) (an : Option Addr) (cd ct : Value) (bi : Addr) : Obj :=
  Obj.mk (Value.type "function") none (Data.func (FuncData.mk name qual t.1 (FuncBody.stmts t.2.1) t.2.2 g cl dV kV doc pm an cd ct bi)) [].toArray
local macro_rules | `(tactic| k_room) => `(tactic| (conv => { rhs; unfold fnObj; conv => pattern (occs := *) (fdp _) <;> whnf; dsimp only }))
noncomputable def fo_49 : Obj := by
  refine (fun (_h : PLift (?k = fnObj (Str.ofString "_wall") (Str.ofString "_wall") (fdp ["_wall"]) 3 [] .none .none .none (.str (Str.ofString "__main__") 164) none (.ref 48) .none 0)) => ?k) ⟨?e⟩
  case e => k_room
noncomputable def fo_69 : Obj := by
  refine (fun (_h : PLift (?k = fnObj (Str.ofString "_is_int") (Str.ofString "_is_int") (fdp ["_is_int"]) 3 [] .none .none .none (.str (Str.ofString "itertools") 344) none (.ref 68) .none 0)) => ?k) ⟨?e⟩
  case e => k_room
noncomputable def fo_76 : Obj := by
  refine (fun (_h : PLift (?k = fnObj (Str.ofString "_pull") (Str.ofString "_pull") (fdp ["_pull"]) 3 [] .none .none .none (.str (Str.ofString "itertools") 344) none (.ref 75) .none 0)) => ?k) ⟨?e⟩
  case e => k_room
noncomputable def fo_83 : Obj := by
  refine (fun (_h : PLift (?k = fnObj (Str.ofString "_same") (Str.ofString "_same") (fdp ["_same"]) 3 [] .none .none .none (.str (Str.ofString "itertools") 344) none (.ref 82) .none 0)) => ?k) ⟨?e⟩
  case e => k_room
noncomputable def fo_99 : Obj := by
  refine (fun (_h : PLift (?k = fnObj (Str.ofString "__init__") (Str.ofString "groupby.__init__") (fdp ["groupby", "__init__"]) 3 [] (.ref 92) .none .none (.str (Str.ofString "itertools") 344) none (.ref 98) .none 0)) => ?k) ⟨?e⟩
  case e => k_room
noncomputable def fo_106 : Obj := by
  refine (fun (_h : PLift (?k = fnObj (Str.ofString "__iter__") (Str.ofString "groupby.__iter__") (fdp ["groupby", "__iter__"]) 3 [] .none .none .none (.str (Str.ofString "itertools") 344) none (.ref 105) .none 0)) => ?k) ⟨?e⟩
  case e => k_room
noncomputable def fo_113 : Obj := by
  refine (fun (_h : PLift (?k = fnObj (Str.ofString "_step") (Str.ofString "groupby._step") (fdp ["groupby", "_step"]) 3 [] .none .none .none (.str (Str.ofString "itertools") 344) none (.ref 112) .none 0)) => ?k) ⟨?e⟩
  case e => k_room
noncomputable def fo_120 : Obj := by
  refine (fun (_h : PLift (?k = fnObj (Str.ofString "__next__") (Str.ofString "groupby.__next__") (fdp ["groupby", "__next__"]) 3 [] .none .none .none (.str (Str.ofString "itertools") 344) none (.ref 119) .none 0)) => ?k) ⟨?e⟩
  case e => k_room
noncomputable def fo_151 : Obj := by
  refine (fun (_h : PLift (?k = fnObj (Str.ofString "__init__") (Str.ofString "_grouper.__init__") (fdp ["_grouper", "__init__"]) 3 [] .none .none .none (.str (Str.ofString "itertools") 344) none (.ref 150) .none 0)) => ?k) ⟨?e⟩
  case e => k_room
noncomputable def fo_158 : Obj := by
  refine (fun (_h : PLift (?k = fnObj (Str.ofString "__iter__") (Str.ofString "_grouper.__iter__") (fdp ["_grouper", "__iter__"]) 3 [] .none .none .none (.str (Str.ofString "itertools") 344) none (.ref 157) .none 0)) => ?k) ⟨?e⟩
  case e => k_room
noncomputable def fo_165 : Obj := by
  refine (fun (_h : PLift (?k = fnObj (Str.ofString "__next__") (Str.ofString "_grouper.__next__") (fdp ["_grouper", "__next__"]) 3 [] .none .none .none (.str (Str.ofString "itertools") 344) none (.ref 164) .none 0)) => ?k) ⟨?e⟩
  case e => k_room
noncomputable def fo_181 : Obj := by
  refine (fun (_h : PLift (?k = fnObj (Str.ofString "_count_kind") (Str.ofString "_count_kind") (fdp ["_count_kind"]) 3 [] .none .none .none (.str (Str.ofString "itertools") 344) none (.ref 180) .none 0)) => ?k) ⟨?e⟩
  case e => k_room
noncomputable def fo_197 : Obj := by
  refine (fun (_h : PLift (?k = fnObj (Str.ofString "__init__") (Str.ofString "count.__init__") (fdp ["count", "__init__"]) 3 [] (.ref 190) .none .none (.str (Str.ofString "itertools") 344) none (.ref 196) .none 0)) => ?k) ⟨?e⟩
  case e => k_room
noncomputable def fo_204 : Obj := by
  refine (fun (_h : PLift (?k = fnObj (Str.ofString "__iter__") (Str.ofString "count.__iter__") (fdp ["count", "__iter__"]) 3 [] .none .none .none (.str (Str.ofString "itertools") 344) none (.ref 203) .none 0)) => ?k) ⟨?e⟩
  case e => k_room
noncomputable def fo_211 : Obj := by
  refine (fun (_h : PLift (?k = fnObj (Str.ofString "__next__") (Str.ofString "count.__next__") (fdp ["count", "__next__"]) 3 [] .none .none .none (.str (Str.ofString "itertools") 344) none (.ref 210) .none 0)) => ?k) ⟨?e⟩
  case e => k_room
noncomputable def fo_218 : Obj := by
  refine (fun (_h : PLift (?k = fnObj (Str.ofString "__repr__") (Str.ofString "count.__repr__") (fdp ["count", "__repr__"]) 3 [] .none .none .none (.str (Str.ofString "itertools") 344) none (.ref 217) .none 0)) => ?k) ⟨?e⟩
  case e => k_room
noncomputable def fo_242 : Obj := by
  refine (fun (_h : PLift (?k = fnObj (Str.ofString "__init__") (Str.ofString "itemgetter.__init__") (fdp ["itemgetter", "__init__"]) 3 [] .none .none .none (.str (Str.ofString "operator") 589) none (.ref 241) .none 0)) => ?k) ⟨?e⟩
  case e => k_room
noncomputable def fo_249 : Obj := by
  refine (fun (_h : PLift (?k = fnObj (Str.ofString "__call__") (Str.ofString "itemgetter.__call__") (fdp ["itemgetter", "__call__"]) 3 [] .none .none .none (.str (Str.ofString "operator") 589) none (.ref 248) .none 0)) => ?k) ⟨?e⟩
  case e => k_room
noncomputable def fo_256 : Obj := by
  refine (fun (_h : PLift (?k = fnObj (Str.ofString "__repr__") (Str.ofString "itemgetter.__repr__") (fdp ["itemgetter", "__repr__"]) 3 [] .none .none .none (.str (Str.ofString "operator") 589) none (.ref 255) .none 0)) => ?k) ⟨?e⟩
  case e => k_room
noncomputable def fo_263 : Obj := by
  refine (fun (_h : PLift (?k = fnObj (Str.ofString "__reduce__") (Str.ofString "itemgetter.__reduce__") (fdp ["itemgetter", "__reduce__"]) 3 [] .none .none .none (.str (Str.ofString "operator") 589) none (.ref 262) .none 0)) => ?k) ⟨?e⟩
  case e => k_room
noncomputable def fo_278 : Obj := by
  refine (fun (_h : PLift (?k = fnObj (Str.ofString "_rank") (Str.ofString "_rank") (fdp ["_rank"]) 3 [] .none (.ref 271) .none (.str (Str.ofString "cpy313.statistics") 647) none (.ref 277) .none 0)) => ?k) ⟨?e⟩
  case e => k_room
noncomputable def fo_285 : Obj := by
  refine (fun (_h : PLift (?k = fnObj (Str.ofString "median") (Str.ofString "median") (fdp ["median"]) 3 [] .none .none .none (.str (Str.ofString "cpy313.statistics") 647) none (.ref 284) .none 0)) => ?k) ⟨?e⟩
  case e => k_room
noncomputable def fo_292 : Obj := by
  refine (fun (_h : PLift (?k = fnObj (Str.ofString "median_low") (Str.ofString "median_low") (fdp ["median_low"]) 3 [] .none .none .none (.str (Str.ofString "cpy313.statistics") 647) none (.ref 291) .none 0)) => ?k) ⟨?e⟩
  case e => k_room
noncomputable def fo_299 : Obj := by
  refine (fun (_h : PLift (?k = fnObj (Str.ofString "median_high") (Str.ofString "median_high") (fdp ["median_high"]) 3 [] .none .none .none (.str (Str.ofString "cpy313.statistics") 647) none (.ref 298) .none 0)) => ?k) ⟨?e⟩
  case e => k_room
noncomputable def fo_307 : Obj := by
  refine (fun (_h : PLift (?k = fnObj (Str.ofString "median_grouped") (Str.ofString "median_grouped") (fdp ["median_grouped"]) 3 [] (.ref 300) .none .none (.str (Str.ofString "cpy313.statistics") 647) none (.ref 306) .none 0)) => ?k) ⟨?e⟩
  case e => k_room
noncomputable def fo_315 : Obj := by
  refine (fun (_h : PLift (?k = fnObj (Str.ofString "quantiles") (Str.ofString "quantiles") (fdp ["quantiles"]) 3 [] .none (.ref 308) .none (.str (Str.ofString "cpy313.statistics") 647) none (.ref 314) .none 0)) => ?k) ⟨?e⟩
  case e => k_room
noncomputable def fo_322 : Obj := by
  refine (fun (_h : PLift (?k = fnObj (Str.ofString "_law_refused") (Str.ofString "_law_refused") (fdp ["_law_refused"]) 3 [] .none .none .none (.str (Str.ofString "law_ij0065_01") 737) none (.ref 321) .none 0)) => ?k) ⟨?e⟩
  case e => k_room
noncomputable def fo_329 : Obj := by
  refine (fun (_h : PLift (?k = fnObj (Str.ofString "_law_unknown") (Str.ofString "_law_unknown") (fdp ["_law_unknown"]) 3 [] .none .none .none (.str (Str.ofString "law_ij0065_01") 737) none (.ref 328) .none 0)) => ?k) ⟨?e⟩
  case e => k_room
noncomputable def fo_334 : Obj := by
  refine (fun (_h : PLift (?k = fnObj (Str.ofString "_law_told") (Str.ofString "_law_told") (fdp ["_law_told"]) 3 [] .none .none .none (.str (Str.ofString "law_ij0065_01") 737) none (.ref 333) .none 0)) => ?k) ⟨?e⟩
  case e => k_room
noncomputable def fo_339 : Obj := by
  refine (fun (_h : PLift (?k = fnObj (Str.ofString "_law_cuts") (Str.ofString "_law_cuts") (fdp ["_law_cuts"]) 3 [] .none .none .none (.str (Str.ofString "law_ij0065_01") 737) none (.ref 338) .none 0)) => ?k) ⟨?e⟩
  case e => k_room
noncomputable def fo_346 : Obj := by
  refine (fun (_h : PLift (?k = fnObj (Str.ofString "_law_wide") (Str.ofString "_law_wide") (fdp ["_law_wide"]) 3 [] .none .none .none (.str (Str.ofString "law_ij0065_01") 737) none (.ref 345) .none 0)) => ?k) ⟨?e⟩
  case e => k_room
noncomputable def fo_351 : Obj := by
  refine (fun (_h : PLift (?k = fnObj (Str.ofString "_law_ranks") (Str.ofString "_law_ranks") (fdp ["_law_ranks"]) 3 [] .none .none .none (.str (Str.ofString "law_ij0065_01") 737) none (.ref 350) .none 0)) => ?k) ⟨?e⟩
  case e => k_room
noncomputable def fo_356 : Obj := by
  refine (fun (_h : PLift (?k = fnObj (Str.ofString "law") (Str.ofString "law") (fdp ["law"]) 3 [] .none .none .none (.str (Str.ofString "law_ij0065_01") 737) none (.ref 355) .none 0)) => ?k) ⟨?e⟩
  case e => k_room
noncomputable def hd.heap_39 : Params → Frag := fun P =>
  ((nat_lit 2), (Obj.mk .none none (.dict #[⟨PyData.keyHash P (Str.ofString "imp\x6frt.loaded._bisect"), .str (Str.ofString "imp\x6frt.loaded._bisect") 186, .bool true⟩, ⟨PyData.keyHash P (Str.ofString "class._frozen_importlib_external._LoaderBasics"), .str (Str.ofString "class._frozen_importlib_external._LoaderBasics") 191, .ref 16⟩, ⟨PyData.keyHash P (Str.ofString "watched.imp\x6frt"), .str (Str.ofString "watched.imp\x6frt") 207, .ref 20⟩, ⟨PyData.keyHash P (Str.ofString "class._frozen_importlib_external.FileLoader"), .str (Str.ofString "class._frozen_importlib_external.FileLoader") 208, .ref 22⟩, ⟨PyData.keyHash P (Str.ofString "class._frozen_importlib_external.ExtensionFileLoader"), .str (Str.ofString "class._frozen_importlib_external.ExtensionFileLoader") 229, .ref 27⟩, ⟨PyData.keyHash P (Str.ofString "class._frozen_importlib.ModuleSpec"), .str (Str.ofString "class._frozen_importlib.ModuleSpec") 257, .ref 33⟩, ⟨PyData.keyHash P (Str.ofString "sys.modules.booked-epoch"), .str (Str.ofString "sys.modules.booked-epoch") 286, .int 3 0⟩, ⟨PyData.keyHash P (Str.ofString "imp\x6frt.later-laid._bisect"), .str (Str.ofString "imp\x6frt.later-laid._bisect") 299, .bool true⟩, ⟨PyData.keyHash P (Str.ofString "watched.library"), .str (Str.ofString "watched.library") 301, .ref 38⟩, ⟨PyData.keyHash P (Str.ofString "watched.library-objects"), .str (Str.ofString "watched.library-objects") 0, .str (Str.ofString "\x0d") 0⟩] 10) #[])) ::
  ((nat_lit 3), (Obj.mk (.type "dict") none (.dict #[⟨PyData.keyHash P (Str.ofString "__name__"), .str (Str.ofString "__name__") 165, .str (Str.ofString "law_ij0065_01") 737⟩, ⟨PyData.keyHash P (Str.ofString "__doc__"), .str (Str.ofString "__doc__") 166, .none⟩, ⟨PyData.keyHash P (Str.ofString "__package__"), .str (Str.ofString "__package__") 167, .none⟩, ⟨PyData.keyHash P (Str.ofString "__loader__"), .str (Str.ofString "__loader__") 168, .builtin "__main__.__loader__#opaque"⟩, ⟨PyData.keyHash P (Str.ofString "__spec__"), .str (Str.ofString "__spec__") 169, .none⟩, ⟨PyData.keyHash P (Str.ofString "__annotations__"), .str (Str.ofString "__annotations__") 170, .ref 6⟩, ⟨PyData.keyHash P (Str.ofString "__builtins__"), .str (Str.ofString "__builtins__") 171, .ref 4⟩, ⟨PyData.keyHash P (Str.ofString "__file__"), .str (Str.ofString "__file__") 173, .str (Str.ofString "/claim/cut.py") 172⟩, ⟨PyData.keyHash P (Str.ofString "__cached__"), .str (Str.ofString "__cached__") 174, .none⟩, ⟨PyData.keyHash P (Str.ofString "bisect_left"), .str (Str.ofString "bisect_left") 307, .builtin "_bisect.bisect_left"⟩, ⟨PyData.keyHash P (Str.ofString "bisect_right"), .str (Str.ofString "bisect_right") 310, .builtin "_bisect.bisect_right"⟩, ⟨PyData.keyHash P (Str.ofString "_wall"), .str (Str.ofString "_wall") 323, .ref 49⟩, ⟨PyData.keyHash P (Str.ofString "StatisticsError"), .str (Str.ofString "StatisticsError") 343, .ref 59⟩, ⟨PyData.keyHash P (Str.ofString "_MAXSIZE"), .str (Str.ofString "_MAXSIZE") 347, .int 9223372036854775807 346⟩, ⟨PyData.keyHash P (Str.ofString "_is_int"), .str (Str.ofString "_is_int") 355, .ref 69⟩, ⟨PyData.keyHash P (Str.ofString "_pull"), .str (Str.ofString "_pull") 362, .ref 76⟩, ⟨PyData.keyHash P (Str.ofString "_same"), .str (Str.ofString "_same") 370, .ref 83⟩, ⟨PyData.keyHash P (Str.ofString "groupby"), .str (Str.ofString "groupby") 461, .ref 124⟩, ⟨PyData.keyHash P (Str.ofString "_grouper"), .str (Str.ofString "_grouper") 515, .ref 169⟩, ⟨PyData.keyHash P (Str.ofString "_count_kind"), .str (Str.ofString "_count_kind") 523, .ref 181⟩, ⟨PyData.keyHash P (Str.ofString "count"), .str (Str.ofString "count") 588, .ref 222⟩, ⟨PyData.keyHash P (Str.ofString "itemgetter"), .str (Str.ofString "itemgetter") 646, .ref 267⟩, ⟨PyData.keyHash P (Str.ofString "_rank"), .str (Str.ofString "_rank") 675, .ref 278⟩, ⟨PyData.keyHash P (Str.ofString "median"), .str (Str.ofString "median") 684, .ref 285⟩, ⟨PyData.keyHash P (Str.ofString "median_low"), .str (Str.ofString "median_low") 692, .ref 292⟩, ⟨PyData.keyHash P (Str.ofString "median_high"), .str (Str.ofString "median_high") 700, .ref 299⟩, ⟨PyData.keyHash P (Str.ofString "median_grouped"), .str (Str.ofString "median_grouped") 716, .ref 307⟩, ⟨PyData.keyHash P (Str.ofString "quantiles"), .str (Str.ofString "quantiles") 736, .ref 315⟩, ⟨PyData.keyHash P (Str.ofString "_law_refused"), .str (Str.ofString "_law_refused") 745, .ref 322⟩, ⟨PyData.keyHash P (Str.ofString "_law_unknown"), .str (Str.ofString "_law_unknown") 752, .ref 329⟩, ⟨PyData.keyHash P (Str.ofString "_law_told"), .str (Str.ofString "_law_told") 758, .ref 334⟩, ⟨PyData.keyHash P (Str.ofString "_law_cuts"), .str (Str.ofString "_law_cuts") 764, .ref 339⟩, ⟨PyData.keyHash P (Str.ofString "_law_wide"), .str (Str.ofString "_law_wide") 771, .ref 346⟩, ⟨PyData.keyHash P (Str.ofString "_law_ranks"), .str (Str.ofString "_law_ranks") 777, .ref 351⟩, ⟨PyData.keyHash P (Str.ofString "law"), .str (Str.ofString "law") 783, .ref 356⟩] 35) #[])) ::
  ((nat_lit 43), (Obj.mk (.type "tuple") none (.seq #[] 0) #[])) ::
  ((nat_lit 45), (Obj.mk (.type "tuple") none (.seq #[(.str (Str.ofString "k") 320)] 0) #[])) ::
  ((nat_lit 46), (Obj.mk (.type "tuple") none (.seq #[] 0) #[])) ::
  ((nat_lit 48), (Obj.mk (.type "code") none (.fields #[(.str (Str.ofString "_wall") 317), (.str (Str.ofString "_wall") 318), (.str (Str.ofString "/claim/cut.py") 319), (.int 2 0), (.int 1 0), (.int 0 0), (.int 0 0), (.int 3 0), (.ref 43), (.bool true), (.int 311 0), (.ref 44), .none, (.ref 45), (.ref 46), (.ref 47), (.int 321 0), (.int 2 0), (.str (Str.ofString "/claim/cut.py") 322)]) #[])) ::
  ((nat_lit 49), fo_49) ::
  ((nat_lit 50), (Obj.mk (.type "tuple") none (.seq #[(.type "ValueError")] 0) #[])) ::
  ((nat_lit 57), (Obj.mk (.type "tuple") none (.seq #[] 0) #[])) ::
  ((nat_lit 58), (Obj.mk (.type "dict") none (.dict #[⟨PyData.keyHash P (Str.ofString "__module__"), .str (Str.ofString "__module__") 333, .str (Str.ofString "cpy313.statistics") 324⟩, ⟨PyData.keyHash P (Str.ofString "__firstlineno__"), .str (Str.ofString "__firstlineno__") 337, .int 6 336⟩, ⟨PyData.keyHash P (Str.ofString "__static_attributes__"), .str (Str.ofString "__static_attributes__") 338, .ref 57⟩, ⟨PyData.keyHash P (Str.ofString "__weakref__"), .str (Str.ofString "__weakref__") 340, .ref 60⟩, ⟨PyData.keyHash P (Str.ofString "__doc__"), .str (Str.ofString "__doc__") 341, .none⟩] 3) #[])) ::
  ((nat_lit 59), (Obj.mk (.type "type") none (.cls (ClassData.mk (Str.ofString "StatisticsError") [(.type "ValueError")] [(.ref 59), (.type "ValueError"), (.type "Exception"), (.type "BaseException"), (.type "object")] 58 (Str.ofString "StatisticsError") true [] [] false none false)) #[(some (.ref 50)), none, (some (.str (Str.ofString "StatisticsError") 326)), (some (.str (Str.ofString "StatisticsError") 334)), (some (.builtin "ValueError.__new__")), (some (.bool true))])) ::
  ((nat_lit 60), (Obj.mk (.type "getset_descriptor") none (.fields #[(.str (Str.ofString "__weakref__") 339), (.ref 59), (.builtin "ExceptionGroup.__weakref__"), .none]) #[])) ::
  ((nat_lit 63), (Obj.mk (.type "tuple") none (.seq #[] 0) #[])) ::
  ((nat_lit 65), (Obj.mk (.type "tuple") none (.seq #[(.str (Str.ofString "x") 351), (.str (Str.ofString "t") 352)] 0) #[])) ::
  ((nat_lit 66), (Obj.mk (.type "tuple") none (.seq #[] 0) #[])) ::
  ((nat_lit 68), (Obj.mk (.type "code") none (.fields #[(.str (Str.ofString "_is_int") 348), (.str (Str.ofString "_is_int") 349), (.str (Str.ofString "/claim/cut.py") 350), (.int 10 0), (.int 1 0), (.int 0 0), (.int 0 0), (.int 3 0), (.ref 63), (.bool true), (.int 311 0), (.ref 64), .none, (.ref 65), (.ref 66), (.ref 67), (.int 353 0), (.int 10 0), (.str (Str.ofString "/claim/cut.py") 354)]) #[])) ::
  ((nat_lit 69), fo_69) ::
  ((nat_lit 70), (Obj.mk (.type "tuple") none (.seq #[] 0) #[])) ::
  ((nat_lit 72), (Obj.mk (.type "tuple") none (.seq #[(.str (Str.ofString "it") 359)] 0) #[])) ::
  ((nat_lit 73), (Obj.mk (.type "tuple") none (.seq #[] 0) #[])) ::
  ((nat_lit 75), (Obj.mk (.type "code") none (.fields #[(.str (Str.ofString "_pull") 356), (.str (Str.ofString "_pull") 357), (.str (Str.ofString "/claim/cut.py") 358), (.int 13 0), (.int 1 0), (.int 0 0), (.int 0 0), (.int 3 0), (.ref 70), (.bool true), (.int 311 0), (.ref 71), .none, (.ref 72), (.ref 73), (.ref 74), (.int 360 0), (.int 13 0), (.str (Str.ofString "/claim/cut.py") 361)]) #[])) ::
  ((nat_lit 76), fo_76) ::
  ((nat_lit 77), (Obj.mk (.type "tuple") none (.seq #[] 0) #[])) ::
  ((nat_lit 79), (Obj.mk (.type "tuple") none (.seq #[(.str (Str.ofString "a") 366), (.str (Str.ofString "b") 367)] 0) #[])) ::
  ((nat_lit 80), (Obj.mk (.type "tuple") none (.seq #[] 0) #[])) ::
  ((nat_lit 82), (Obj.mk (.type "code") none (.fields #[(.str (Str.ofString "_same") 363), (.str (Str.ofString "_same") 364), (.str (Str.ofString "/claim/cut.py") 365), (.int 18 0), (.int 2 0), (.int 0 0), (.int 0 0), (.int 3 0), (.ref 77), (.bool true), (.int 311 0), (.ref 78), .none, (.ref 79), (.ref 80), (.ref 81), (.int 368 0), (.int 18 0), (.str (Str.ofString "/claim/cut.py") 369)]) #[])) ::
  ((nat_lit 83), fo_83) ::
  ((nat_lit 91), (Obj.mk (.type "tuple") none (.seq #[(.str (Str.ofString "_keyfunc") 383), (.str (Str.ofString "_it") 384), (.str (Str.ofString "_has_tgtkey") 385), (.str (Str.ofString "_tgtkey") 386), (.str (Str.ofString "_has_currkey") 387), (.str (Str.ofString "_currkey") 388), (.str (Str.ofString "_has_currvalue") 389), (.str (Str.ofString "_currvalue") 390), (.str (Str.ofString "_currgrouper") 391), (.str (Str.ofString "_serial") 392)] 0) #[])) ::
  ((nat_lit 92), (Obj.mk (.type "tuple") none (.seq #[.none] 0) #[])) ::
  ((nat_lit 93), (Obj.mk (.type "tuple") none (.seq #[] 0) #[])) ::
  ((nat_lit 95), (Obj.mk (.type "tuple") none (.seq #[(.str (Str.ofString "self") 397), (.str (Str.ofString "iterable") 398), (.str (Str.ofString "key") 399)] 0) #[])) ::
  ((nat_lit 96), (Obj.mk (.type "tuple") none (.seq #[] 0) #[])) ::
  ((nat_lit 98), (Obj.mk (.type "code") none (.fields #[(.str (Str.ofString "__init__") 394), (.str (Str.ofString "groupby.__init__") 395), (.str (Str.ofString "/claim/cut.py") 396), (.int 27 0), (.int 3 0), (.int 0 0), (.int 0 0), (.int 3 0), (.ref 93), (.bool true), (.int 311 0), (.ref 94), .none, (.ref 95), (.ref 96), (.ref 97), (.int 400 0), (.int 27 0), (.str (Str.ofString "/claim/cut.py") 401)]) #[])) ::
  ((nat_lit 99), fo_99) ::
  ((nat_lit 100), (Obj.mk (.type "tuple") none (.seq #[] 0) #[])) ::
  ((nat_lit 102), (Obj.mk (.type "tuple") none (.seq #[(.str (Str.ofString "self") 406)] 0) #[])) ::
  ((nat_lit 103), (Obj.mk (.type "tuple") none (.seq #[] 0) #[])) ::
  ((nat_lit 105), (Obj.mk (.type "code") none (.fields #[(.str (Str.ofString "__iter__") 403), (.str (Str.ofString "groupby.__iter__") 404), (.str (Str.ofString "/claim/cut.py") 405), (.int 39 0), (.int 1 0), (.int 0 0), (.int 0 0), (.int 3 0), (.ref 100), (.bool true), (.int 311 0), (.ref 101), .none, (.ref 102), (.ref 103), (.ref 104), (.int 407 0), (.int 39 0), (.str (Str.ofString "/claim/cut.py") 408)]) #[])) ::
  ((nat_lit 106), fo_106) ::
  ((nat_lit 107), (Obj.mk (.type "tuple") none (.seq #[] 0) #[])) ::
  ((nat_lit 109), (Obj.mk (.type "tuple") none (.seq #[(.str (Str.ofString "self") 413), (.str (Str.ofString "more") 414), (.str (Str.ofString "newvalue") 415), (.str (Str.ofString "newkey") 416)] 0) #[])) ::
  ((nat_lit 110), (Obj.mk (.type "tuple") none (.seq #[] 0) #[])) ::
  ((nat_lit 112), (Obj.mk (.type "code") none (.fields #[(.str (Str.ofString "_step") 410), (.str (Str.ofString "groupby._step") 411), (.str (Str.ofString "/claim/cut.py") 412), (.int 42 0), (.int 1 0), (.int 0 0), (.int 0 0), (.int 3 0), (.ref 107), (.bool true), (.int 311 0), (.ref 108), .none, (.ref 109), (.ref 110), (.ref 111), (.int 417 0), (.int 42 0), (.str (Str.ofString "/claim/cut.py") 418)]) #[])) ::
  ((nat_lit 113), fo_113) ::
  ((nat_lit 114), (Obj.mk (.type "tuple") none (.seq #[] 0) #[])) ::
  ((nat_lit 116), (Obj.mk (.type "tuple") none (.seq #[(.str (Str.ofString "self") 423), (.str (Str.ofString "grouper") 424)] 0) #[])) ::
  ((nat_lit 117), (Obj.mk (.type "tuple") none (.seq #[] 0) #[])) ::
  ((nat_lit 119), (Obj.mk (.type "code") none (.fields #[(.str (Str.ofString "__next__") 420), (.str (Str.ofString "groupby.__next__") 421), (.str (Str.ofString "/claim/cut.py") 422), (.int 55 0), (.int 1 0), (.int 0 0), (.int 0 0), (.int 3 0), (.ref 114), (.bool true), (.int 311 0), (.ref 115), .none, (.ref 116), (.ref 117), (.ref 118), (.int 425 0), (.int 55 0), (.str (Str.ofString "/claim/cut.py") 426)]) #[])) ::
  ((nat_lit 120), fo_120) ::
  ((nat_lit 121), (Obj.mk (.type "tuple") none (.seq #[(.str (Str.ofString "_currgrouper") 428), (.str (Str.ofString "_currkey") 429), (.str (Str.ofString "_currvalue") 430), (.str (Str.ofString "_has_currkey") 431), (.str (Str.ofString "_has_currvalue") 432), (.str (Str.ofString "_has_tgtkey") 433), (.str (Str.ofString "_it") 434), (.str (Str.ofString "_keyfunc") 435), (.str (Str.ofString "_serial") 436), (.str (Str.ofString "_tgtkey") 437)] 0) #[])) ::
  ((nat_lit 123), (Obj.mk (.type "dict") none (.dict #[⟨PyData.keyHash P (Str.ofString "__module__"), .str (Str.ofString "__module__") 378, .str (Str.ofString "itertools") 344⟩, ⟨PyData.keyHash P (Str.ofString "__firstlineno__"), .str (Str.ofString "__firstlineno__") 382, .int 24 381⟩, ⟨PyData.keyHash P (Str.ofString "__slots__"), .str (Str.ofString "__slots__") 393, .ref 91⟩, ⟨PyData.keyHash P (Str.ofString "__init__"), .str (Str.ofString "__init__") 402, .ref 99⟩, ⟨PyData.keyHash P (Str.ofString "__iter__"), .str (Str.ofString "__iter__") 409, .ref 106⟩, ⟨PyData.keyHash P (Str.ofString "_step"), .str (Str.ofString "_step") 419, .ref 113⟩, ⟨PyData.keyHash P (Str.ofString "__next__"), .str (Str.ofString "__next__") 427, .ref 120⟩, ⟨PyData.keyHash P (Str.ofString "__static_attributes__"), .str (Str.ofString "__static_attributes__") 438, .ref 121⟩, ⟨PyData.keyHash P (Str.ofString "_currgrouper"), .str (Str.ofString "_currgrouper") 440, .ref 125⟩, ⟨PyData.keyHash P (Str.ofString "_currkey"), .str (Str.ofString "_currkey") 442, .ref 126⟩, ⟨PyData.keyHash P (Str.ofString "_currvalue"), .str (Str.ofString "_currvalue") 444, .ref 127⟩, ⟨PyData.keyHash P (Str.ofString "_has_currkey"), .str (Str.ofString "_has_currkey") 446, .ref 128⟩, ⟨PyData.keyHash P (Str.ofString "_has_currvalue"), .str (Str.ofString "_has_currvalue") 448, .ref 129⟩, ⟨PyData.keyHash P (Str.ofString "_has_tgtkey"), .str (Str.ofString "_has_tgtkey") 450, .ref 130⟩, ⟨PyData.keyHash P (Str.ofString "_it"), .str (Str.ofString "_it") 452, .ref 131⟩, ⟨PyData.keyHash P (Str.ofString "_keyfunc"), .str (Str.ofString "_keyfunc") 454, .ref 132⟩, ⟨PyData.keyHash P (Str.ofString "_serial"), .str (Str.ofString "_serial") 456, .ref 133⟩, ⟨PyData.keyHash P (Str.ofString "_tgtkey"), .str (Str.ofString "_tgtkey") 458, .ref 134⟩, ⟨PyData.keyHash P (Str.ofString "__doc__"), .str (Str.ofString "__doc__") 459, .none⟩] 12) #[])) ::
  ((nat_lit 124), (Obj.mk (.type "type") none (.cls (ClassData.mk (Str.ofString "groupby") [(.type "object")] [(.ref 124), (.type "object")] 123 (Str.ofString "groupby") false [(Str.ofString "_currgrouper"), (Str.ofString "_currkey"), (Str.ofString "_currvalue"), (Str.ofString "_has_currkey"), (Str.ofString "_has_currvalue"), (Str.ofString "_has_tgtkey"), (Str.ofString "_it"), (Str.ofString "_keyfunc"), (Str.ofString "_serial"), (Str.ofString "_tgtkey")] [] false none false)) #[none, none, (some (.str (Str.ofString "groupby") 371)), (some (.str (Str.ofString "groupby") 379)), (some (.builtin "object.__new__")), (some (.bool false))])) ::
  ((nat_lit 125), (Obj.mk (.type "member_descriptor") none (.fields #[(.str (Str.ofString "_currgrouper") 439), (.ref 124), (.builtin "proto.slot"), (.builtin "proto.slot#set"), (.int 9 0)]) #[])) ::
  ((nat_lit 126), (Obj.mk (.type "member_descriptor") none (.fields #[(.str (Str.ofString "_currkey") 441), (.ref 124), (.builtin "proto.slot"), (.builtin "proto.slot#set"), (.int 8 0)]) #[])) ::
  ((nat_lit 127), (Obj.mk (.type "member_descriptor") none (.fields #[(.str (Str.ofString "_currvalue") 443), (.ref 124), (.builtin "proto.slot"), (.builtin "proto.slot#set"), (.int 7 0)]) #[])) ::
  ((nat_lit 128), (Obj.mk (.type "member_descriptor") none (.fields #[(.str (Str.ofString "_has_currkey") 445), (.ref 124), (.builtin "proto.slot"), (.builtin "proto.slot#set"), (.int 6 0)]) #[])) ::
  ((nat_lit 129), (Obj.mk (.type "member_descriptor") none (.fields #[(.str (Str.ofString "_has_currvalue") 447), (.ref 124), (.builtin "proto.slot"), (.builtin "proto.slot#set"), (.int 5 0)]) #[])) ::
  ((nat_lit 130), (Obj.mk (.type "member_descriptor") none (.fields #[(.str (Str.ofString "_has_tgtkey") 449), (.ref 124), (.builtin "proto.slot"), (.builtin "proto.slot#set"), (.int 4 0)]) #[])) ::
  ((nat_lit 131), (Obj.mk (.type "member_descriptor") none (.fields #[(.str (Str.ofString "_it") 451), (.ref 124), (.builtin "proto.slot"), (.builtin "proto.slot#set"), (.int 3 0)]) #[])) ::
  ((nat_lit 132), (Obj.mk (.type "member_descriptor") none (.fields #[(.str (Str.ofString "_keyfunc") 453), (.ref 124), (.builtin "proto.slot"), (.builtin "proto.slot#set"), (.int 2 0)]) #[])) ::
  ((nat_lit 133), (Obj.mk (.type "member_descriptor") none (.fields #[(.str (Str.ofString "_serial") 455), (.ref 124), (.builtin "proto.slot"), (.builtin "proto.slot#set"), (.int 1 0)]) #[])) ::
  ((nat_lit 134), (Obj.mk (.type "member_descriptor") none (.fields #[(.str (Str.ofString "_tgtkey") 457), (.ref 124), (.builtin "proto.slot"), (.builtin "proto.slot#set"), (.int 0 0)]) #[])) ::
  ((nat_lit 144), (Obj.mk (.type "tuple") none (.seq #[(.str (Str.ofString "_parent") 474), (.str (Str.ofString "_tgtkey") 475), (.str (Str.ofString "_number") 476)] 0) #[])) ::
  ((nat_lit 145), (Obj.mk (.type "tuple") none (.seq #[] 0) #[])) ::
  ((nat_lit 147), (Obj.mk (.type "tuple") none (.seq #[(.str (Str.ofString "self") 481), (.str (Str.ofString "parent") 482), (.str (Str.ofString "tgtkey") 483)] 0) #[])) ::
  ((nat_lit 148), (Obj.mk (.type "tuple") none (.seq #[] 0) #[])) ::
  ((nat_lit 150), (Obj.mk (.type "code") none (.fields #[(.str (Str.ofString "__init__") 478), (.str (Str.ofString "_grouper.__init__") 479), (.str (Str.ofString "/claim/cut.py") 480), (.int 71 0), (.int 3 0), (.int 3 0), (.int 0 0), (.int 3 0), (.ref 145), (.bool true), (.int 311 0), (.ref 146), .none, (.ref 147), (.ref 148), (.ref 149), (.int 484 0), (.int 71 0), (.str (Str.ofString "/claim/cut.py") 485)]) #[])) ::
  ((nat_lit 151), fo_151) ::
  ((nat_lit 152), (Obj.mk (.type "tuple") none (.seq #[] 0) #[])) ::
  ((nat_lit 154), (Obj.mk (.type "tuple") none (.seq #[(.str (Str.ofString "self") 490)] 0) #[])) ::
  ((nat_lit 155), (Obj.mk (.type "tuple") none (.seq #[] 0) #[])) ::
  ((nat_lit 157), (Obj.mk (.type "code") none (.fields #[(.str (Str.ofString "__iter__") 487), (.str (Str.ofString "_grouper.__iter__") 488), (.str (Str.ofString "/claim/cut.py") 489), (.int 80 0), (.int 1 0), (.int 0 0), (.int 0 0), (.int 3 0), (.ref 152), (.bool true), (.int 311 0), (.ref 153), .none, (.ref 154), (.ref 155), (.ref 156), (.int 491 0), (.int 80 0), (.str (Str.ofString "/claim/cut.py") 492)]) #[])) ::
  ((nat_lit 158), fo_158) ::
  ((nat_lit 159), (Obj.mk (.type "tuple") none (.seq #[] 0) #[])) ::
  ((nat_lit 161), (Obj.mk (.type "tuple") none (.seq #[(.str (Str.ofString "self") 497), (.str (Str.ofString "gbo") 498), (.str (Str.ofString "r") 499)] 0) #[])) ::
  ((nat_lit 162), (Obj.mk (.type "tuple") none (.seq #[] 0) #[])) ::
  ((nat_lit 164), (Obj.mk (.type "code") none (.fields #[(.str (Str.ofString "__next__") 494), (.str (Str.ofString "_grouper.__next__") 495), (.str (Str.ofString "/claim/cut.py") 496), (.int 83 0), (.int 1 0), (.int 0 0), (.int 0 0), (.int 3 0), (.ref 159), (.bool true), (.int 311 0), (.ref 160), .none, (.ref 161), (.ref 162), (.ref 163), (.int 500 0), (.int 83 0), (.str (Str.ofString "/claim/cut.py") 501)]) #[])) ::
  ((nat_lit 165), fo_165) ::
  ((nat_lit 166), (Obj.mk (.type "tuple") none (.seq #[(.str (Str.ofString "_number") 503), (.str (Str.ofString "_parent") 504), (.str (Str.ofString "_tgtkey") 505)] 0) #[])) ::
  ((nat_lit 168), (Obj.mk (.type "dict") none (.dict #[⟨PyData.keyHash P (Str.ofString "__module__"), .str (Str.ofString "__module__") 469, .str (Str.ofString "itertools") 344⟩, ⟨PyData.keyHash P (Str.ofString "__firstlineno__"), .str (Str.ofString "__firstlineno__") 473, .int 68 472⟩, ⟨PyData.keyHash P (Str.ofString "__slots__"), .str (Str.ofString "__slots__") 477, .ref 144⟩, ⟨PyData.keyHash P (Str.ofString "__init__"), .str (Str.ofString "__init__") 486, .ref 151⟩, ⟨PyData.keyHash P (Str.ofString "__iter__"), .str (Str.ofString "__iter__") 493, .ref 158⟩, ⟨PyData.keyHash P (Str.ofString "__next__"), .str (Str.ofString "__next__") 502, .ref 165⟩, ⟨PyData.keyHash P (Str.ofString "__static_attributes__"), .str (Str.ofString "__static_attributes__") 506, .ref 166⟩, ⟨PyData.keyHash P (Str.ofString "_number"), .str (Str.ofString "_number") 508, .ref 170⟩, ⟨PyData.keyHash P (Str.ofString "_parent"), .str (Str.ofString "_parent") 510, .ref 171⟩, ⟨PyData.keyHash P (Str.ofString "_tgtkey"), .str (Str.ofString "_tgtkey") 512, .ref 172⟩, ⟨PyData.keyHash P (Str.ofString "__doc__"), .str (Str.ofString "__doc__") 513, .none⟩] 5) #[])) ::
  ((nat_lit 169), (Obj.mk (.type "type") none (.cls (ClassData.mk (Str.ofString "_grouper") [(.type "object")] [(.ref 169), (.type "object")] 168 (Str.ofString "_grouper") false [(Str.ofString "_number"), (Str.ofString "_parent"), (Str.ofString "_tgtkey")] [] false none false)) #[none, none, (some (.str (Str.ofString "_grouper") 462)), (some (.str (Str.ofString "_grouper") 470)), (some (.builtin "object.__new__")), (some (.bool false))])) ::
  ((nat_lit 170), (Obj.mk (.type "member_descriptor") none (.fields #[(.str (Str.ofString "_number") 507), (.ref 169), (.builtin "proto.slot"), (.builtin "proto.slot#set"), (.int 2 0)]) #[])) ::
  ((nat_lit 171), (Obj.mk (.type "member_descriptor") none (.fields #[(.str (Str.ofString "_parent") 509), (.ref 169), (.builtin "proto.slot"), (.builtin "proto.slot#set"), (.int 1 0)]) #[])) ::
  ((nat_lit 172), (Obj.mk (.type "member_descriptor") none (.fields #[(.str (Str.ofString "_tgtkey") 511), (.ref 169), (.builtin "proto.slot"), (.builtin "proto.slot#set"), (.int 0 0)]) #[])) ::
  ((nat_lit 175), (Obj.mk (.type "tuple") none (.seq #[] 0) #[])) ::
  ((nat_lit 177), (Obj.mk (.type "tuple") none (.seq #[(.str (Str.ofString "x") 519), (.str (Str.ofString "t") 520)] 0) #[])) ::
  ((nat_lit 178), (Obj.mk (.type "tuple") none (.seq #[] 0) #[])) ::
  ((nat_lit 180), (Obj.mk (.type "code") none (.fields #[(.str (Str.ofString "_count_kind") 516), (.str (Str.ofString "_count_kind") 517), (.str (Str.ofString "/claim/cut.py") 518), (.int 97 0), (.int 1 0), (.int 0 0), (.int 0 0), (.int 3 0), (.ref 175), (.bool true), (.int 311 0), (.ref 176), .none, (.ref 177), (.ref 178), (.ref 179), (.int 521 0), (.int 97 0), (.str (Str.ofString "/claim/cut.py") 522)]) #[])) ::
  ((nat_lit 181), fo_181) ::
  ((nat_lit 189), (Obj.mk (.type "tuple") none (.seq #[(.str (Str.ofString "_fast") 536), (.str (Str.ofString "_cnt") 537), (.str (Str.ofString "_step") 538)] 0) #[])) ::
  ((nat_lit 190), (Obj.mk (.type "tuple") none (.seq #[(.int 0 540), (.int 1 541)] 0) #[])) ::
  ((nat_lit 191), (Obj.mk (.type "tuple") none (.seq #[] 0) #[])) ::
  ((nat_lit 193), (Obj.mk (.type "tuple") none (.seq #[(.str (Str.ofString "self") 545), (.str (Str.ofString "start") 546), (.str (Str.ofString "step") 547), (.str (Str.ofString "k_start") 548), (.str (Str.ofString "k_step") 549), (.str (Str.ofString "fast") 550)] 0) #[])) ::
  ((nat_lit 194), (Obj.mk (.type "tuple") none (.seq #[] 0) #[])) ::
  ((nat_lit 196), (Obj.mk (.type "code") none (.fields #[(.str (Str.ofString "__init__") 542), (.str (Str.ofString "count.__init__") 543), (.str (Str.ofString "/claim/cut.py") 544), (.int 109 0), (.int 3 0), (.int 0 0), (.int 0 0), (.int 3 0), (.ref 191), (.bool true), (.int 311 0), (.ref 192), .none, (.ref 193), (.ref 194), (.ref 195), (.int 551 0), (.int 109 0), (.str (Str.ofString "/claim/cut.py") 552)]) #[])) ::
  ((nat_lit 197), fo_197) ::
  ((nat_lit 198), (Obj.mk (.type "tuple") none (.seq #[] 0) #[])) ::
  ((nat_lit 200), (Obj.mk (.type "tuple") none (.seq #[(.str (Str.ofString "self") 557)] 0) #[])) ::
  ((nat_lit 201), (Obj.mk (.type "tuple") none (.seq #[] 0) #[])) ::
  ((nat_lit 203), (Obj.mk (.type "code") none (.fields #[(.str (Str.ofString "__iter__") 554), (.str (Str.ofString "count.__iter__") 555), (.str (Str.ofString "/claim/cut.py") 556), (.int 121 0), (.int 1 0), (.int 0 0), (.int 0 0), (.int 3 0), (.ref 198), (.bool true), (.int 311 0), (.ref 199), .none, (.ref 200), (.ref 201), (.ref 202), (.int 558 0), (.int 121 0), (.str (Str.ofString "/claim/cut.py") 559)]) #[])) ::
  ((nat_lit 204), fo_204) ::
  ((nat_lit 205), (Obj.mk (.type "tuple") none (.seq #[] 0) #[])) ::
  ((nat_lit 207), (Obj.mk (.type "tuple") none (.seq #[(.str (Str.ofString "self") 564), (.str (Str.ofString "value") 565)] 0) #[])) ::
  ((nat_lit 208), (Obj.mk (.type "tuple") none (.seq #[] 0) #[])) ::
  ((nat_lit 210), (Obj.mk (.type "code") none (.fields #[(.str (Str.ofString "__next__") 561), (.str (Str.ofString "count.__next__") 562), (.str (Str.ofString "/claim/cut.py") 563), (.int 124 0), (.int 1 0), (.int 0 0), (.int 0 0), (.int 3 0), (.ref 205), (.bool true), (.int 311 0), (.ref 206), .none, (.ref 207), (.ref 208), (.ref 209), (.int 566 0), (.int 124 0), (.str (Str.ofString "/claim/cut.py") 567)]) #[])) ::
  ((nat_lit 211), fo_211) ::
  ((nat_lit 212), (Obj.mk (.type "tuple") none (.seq #[] 0) #[])) ::
  ((nat_lit 214), (Obj.mk (.type "tuple") none (.seq #[(.str (Str.ofString "self") 572)] 0) #[])) ::
  ((nat_lit 215), (Obj.mk (.type "tuple") none (.seq #[] 0) #[])) ::
  ((nat_lit 217), (Obj.mk (.type "code") none (.fields #[(.str (Str.ofString "__repr__") 569), (.str (Str.ofString "count.__repr__") 570), (.str (Str.ofString "/claim/cut.py") 571), (.int 129 0), (.int 1 0), (.int 0 0), (.int 0 0), (.int 3 0), (.ref 212), (.bool true), (.int 311 0), (.ref 213), .none, (.ref 214), (.ref 215), (.ref 216), (.int 573 0), (.int 129 0), (.str (Str.ofString "/claim/cut.py") 574)]) #[])) ::
  ((nat_lit 218), fo_218) ::
  ((nat_lit 219), (Obj.mk (.type "tuple") none (.seq #[(.str (Str.ofString "_cnt") 576), (.str (Str.ofString "_fast") 577), (.str (Str.ofString "_step") 578)] 0) #[])) ::
  ((nat_lit 221), (Obj.mk (.type "dict") none (.dict #[⟨PyData.keyHash P (Str.ofString "__module__"), .str (Str.ofString "__module__") 531, .str (Str.ofString "itertools") 344⟩, ⟨PyData.keyHash P (Str.ofString "__firstlineno__"), .str (Str.ofString "__firstlineno__") 535, .int 106 534⟩, ⟨PyData.keyHash P (Str.ofString "__slots__"), .str (Str.ofString "__slots__") 539, .ref 189⟩, ⟨PyData.keyHash P (Str.ofString "__init__"), .str (Str.ofString "__init__") 553, .ref 197⟩, ⟨PyData.keyHash P (Str.ofString "__iter__"), .str (Str.ofString "__iter__") 560, .ref 204⟩, ⟨PyData.keyHash P (Str.ofString "__next__"), .str (Str.ofString "__next__") 568, .ref 211⟩, ⟨PyData.keyHash P (Str.ofString "__repr__"), .str (Str.ofString "__repr__") 575, .ref 218⟩, ⟨PyData.keyHash P (Str.ofString "__static_attributes__"), .str (Str.ofString "__static_attributes__") 579, .ref 219⟩, ⟨PyData.keyHash P (Str.ofString "_cnt"), .str (Str.ofString "_cnt") 581, .ref 223⟩, ⟨PyData.keyHash P (Str.ofString "_fast"), .str (Str.ofString "_fast") 583, .ref 224⟩, ⟨PyData.keyHash P (Str.ofString "_step"), .str (Str.ofString "_step") 585, .ref 225⟩, ⟨PyData.keyHash P (Str.ofString "__doc__"), .str (Str.ofString "__doc__") 586, .none⟩] 5) #[])) ::
  ((nat_lit 222), (Obj.mk (.type "type") none (.cls (ClassData.mk (Str.ofString "count") [(.type "object")] [(.ref 222), (.type "object")] 221 (Str.ofString "count") false [(Str.ofString "_cnt"), (Str.ofString "_fast"), (Str.ofString "_step")] [] false none false)) #[none, none, (some (.str (Str.ofString "count") 524)), (some (.str (Str.ofString "count") 532)), (some (.builtin "object.__new__")), (some (.bool false))])) ::
  ((nat_lit 223), (Obj.mk (.type "member_descriptor") none (.fields #[(.str (Str.ofString "_cnt") 580), (.ref 222), (.builtin "proto.slot"), (.builtin "proto.slot#set"), (.int 2 0)]) #[])) ::
  ((nat_lit 224), (Obj.mk (.type "member_descriptor") none (.fields #[(.str (Str.ofString "_fast") 582), (.ref 222), (.builtin "proto.slot"), (.builtin "proto.slot#set"), (.int 1 0)]) #[])) ::
  ((nat_lit 225), (Obj.mk (.type "member_descriptor") none (.fields #[(.str (Str.ofString "_step") 584), (.ref 222), (.builtin "proto.slot"), (.builtin "proto.slot#set"), (.int 0 0)]) #[])) ::
  ((nat_lit 235), (Obj.mk (.type "tuple") none (.seq #[(.str (Str.ofString "_items") 603)] 0) #[])) ::
  ((nat_lit 236), (Obj.mk (.type "tuple") none (.seq #[] 0) #[])) ::
  ((nat_lit 238), (Obj.mk (.type "tuple") none (.seq #[(.str (Str.ofString "self") 608), (.str (Str.ofString "item") 609), (.str (Str.ofString "items") 610)] 0) #[])) ::
  ((nat_lit 239), (Obj.mk (.type "tuple") none (.seq #[] 0) #[])) ::
  ((nat_lit 241), (Obj.mk (.type "code") none (.fields #[(.str (Str.ofString "__init__") 605), (.str (Str.ofString "itemgetter.__init__") 606), (.str (Str.ofString "/claim/cut.py") 607), (.int 137 0), (.int 2 0), (.int 2 0), (.int 0 0), (.int 7 0), (.ref 236), (.bool true), (.int 311 0), (.ref 237), .none, (.ref 238), (.ref 239), (.ref 240), (.int 611 0), (.int 137 0), (.str (Str.ofString "/claim/cut.py") 612)]) #[])) ::
  ((nat_lit 242), fo_242) ::
  ((nat_lit 243), (Obj.mk (.type "tuple") none (.seq #[] 0) #[])) ::
  ((nat_lit 245), (Obj.mk (.type "tuple") none (.seq #[(.str (Str.ofString "self") 617), (.str (Str.ofString "obj") 618), (.str (Str.ofString "items") 619), (.str (Str.ofString "result") 620), (.str (Str.ofString "item") 621)] 0) #[])) ::
  ((nat_lit 246), (Obj.mk (.type "tuple") none (.seq #[] 0) #[])) ::
  ((nat_lit 248), (Obj.mk (.type "code") none (.fields #[(.str (Str.ofString "__call__") 614), (.str (Str.ofString "itemgetter.__call__") 615), (.str (Str.ofString "/claim/cut.py") 616), (.int 140 0), (.int 2 0), (.int 2 0), (.int 0 0), (.int 3 0), (.ref 243), (.bool true), (.int 311 0), (.ref 244), .none, (.ref 245), (.ref 246), (.ref 247), (.int 622 0), (.int 140 0), (.str (Str.ofString "/claim/cut.py") 623)]) #[])) ::
  ((nat_lit 249), fo_249) ::
  ((nat_lit 250), (Obj.mk (.type "tuple") none (.seq #[] 0) #[])) ::
  ((nat_lit 252), (Obj.mk (.type "tuple") none (.seq #[(.str (Str.ofString "self") 628), (.str (Str.ofString "r") 629)] 0) #[])) ::
  ((nat_lit 253), (Obj.mk (.type "tuple") none (.seq #[] 0) #[])) ::
  ((nat_lit 255), (Obj.mk (.type "code") none (.fields #[(.str (Str.ofString "__repr__") 625), (.str (Str.ofString "itemgetter.__repr__") 626), (.str (Str.ofString "/claim/cut.py") 627), (.int 149 0), (.int 1 0), (.int 0 0), (.int 0 0), (.int 3 0), (.ref 250), (.bool true), (.int 311 0), (.ref 251), .none, (.ref 252), (.ref 253), (.ref 254), (.int 630 0), (.int 149 0), (.str (Str.ofString "/claim/cut.py") 631)]) #[])) ::
  ((nat_lit 256), fo_256) ::
  ((nat_lit 257), (Obj.mk (.type "tuple") none (.seq #[] 0) #[])) ::
  ((nat_lit 259), (Obj.mk (.type "tuple") none (.seq #[(.str (Str.ofString "self") 636)] 0) #[])) ::
  ((nat_lit 260), (Obj.mk (.type "tuple") none (.seq #[] 0) #[])) ::
  ((nat_lit 262), (Obj.mk (.type "code") none (.fields #[(.str (Str.ofString "__reduce__") 633), (.str (Str.ofString "itemgetter.__reduce__") 634), (.str (Str.ofString "/claim/cut.py") 635), (.int 155 0), (.int 1 0), (.int 0 0), (.int 0 0), (.int 3 0), (.ref 257), (.bool true), (.int 311 0), (.ref 258), .none, (.ref 259), (.ref 260), (.ref 261), (.int 637 0), (.int 155 0), (.str (Str.ofString "/claim/cut.py") 638)]) #[])) ::
  ((nat_lit 263), fo_263) ::
  ((nat_lit 264), (Obj.mk (.type "tuple") none (.seq #[(.str (Str.ofString "_items") 640)] 0) #[])) ::
  ((nat_lit 266), (Obj.mk (.type "dict") none (.dict #[⟨PyData.keyHash P (Str.ofString "__module__"), .str (Str.ofString "__module__") 598, .str (Str.ofString "operator") 589⟩, ⟨PyData.keyHash P (Str.ofString "__firstlineno__"), .str (Str.ofString "__firstlineno__") 602, .int 134 601⟩, ⟨PyData.keyHash P (Str.ofString "__slots__"), .str (Str.ofString "__slots__") 604, .ref 235⟩, ⟨PyData.keyHash P (Str.ofString "__init__"), .str (Str.ofString "__init__") 613, .ref 242⟩, ⟨PyData.keyHash P (Str.ofString "__call__"), .str (Str.ofString "__call__") 624, .ref 249⟩, ⟨PyData.keyHash P (Str.ofString "__repr__"), .str (Str.ofString "__repr__") 632, .ref 256⟩, ⟨PyData.keyHash P (Str.ofString "__reduce__"), .str (Str.ofString "__reduce__") 639, .ref 263⟩, ⟨PyData.keyHash P (Str.ofString "__static_attributes__"), .str (Str.ofString "__static_attributes__") 641, .ref 264⟩, ⟨PyData.keyHash P (Str.ofString "_items"), .str (Str.ofString "_items") 643, .ref 268⟩, ⟨PyData.keyHash P (Str.ofString "__doc__"), .str (Str.ofString "__doc__") 644, .none⟩] 3) #[])) ::
  ((nat_lit 267), (Obj.mk (.type "type") none (.cls (ClassData.mk (Str.ofString "itemgetter") [(.type "object")] [(.ref 267), (.type "object")] 266 (Str.ofString "itemgetter") false [(Str.ofString "_items")] [] false none false)) #[none, none, (some (.str (Str.ofString "itemgetter") 591)), (some (.str (Str.ofString "itemgetter") 599)), (some (.builtin "object.__new__")), (some (.bool false))])) ::
  ((nat_lit 268), (Obj.mk (.type "member_descriptor") none (.fields #[(.str (Str.ofString "_items") 642), (.ref 267), (.builtin "proto.slot"), (.builtin "proto.slot#set"), (.int 0 0)]) #[])) ::
  ((nat_lit 271), (Obj.mk (.type "dict") none (.dict #[⟨PyData.keyHash P (Str.ofString "key"), .str (Str.ofString "key") 651, .none⟩, ⟨PyData.keyHash P (Str.ofString "reverse"), .str (Str.ofString "reverse") 652, .bool false⟩, ⟨PyData.keyHash P (Str.ofString "ties"), .str (Str.ofString "ties") 653, .str (Str.ofString "average") 649⟩, ⟨PyData.keyHash P (Str.ofString "start"), .str (Str.ofString "start") 654, .int 1 650⟩] 4) #[])) ::
  ((nat_lit 272), (Obj.mk (.type "tuple") none (.seq #[] 0) #[])) ::
  ((nat_lit 274), (Obj.mk (.type "tuple") none (.seq #[(.str (Str.ofString "data") 658), (.str (Str.ofString "key") 659), (.str (Str.ofString "reverse") 660), (.str (Str.ofString "ties") 661), (.str (Str.ofString "start") 662), (.str (Str.ofString "val_pos") 663), (.str (Str.ofString "i") 664), (.str (Str.ofString "result") 665), (.str (Str.ofString "_") 666), (.str (Str.ofString "g") 667), (.str (Str.ofString "group") 668), (.str (Str.ofString "size") 669), (.str (Str.ofString "rank") 670), (.str (Str.ofString "value") 671), (.str (Str.ofString "orig_pos") 672)] 0) #[])) ::
  ((nat_lit 275), (Obj.mk (.type "tuple") none (.seq #[] 0) #[])) ::
  ((nat_lit 277), (Obj.mk (.type "code") none (.fields #[(.str (Str.ofString "_rank") 655), (.str (Str.ofString "_rank") 656), (.str (Str.ofString "/claim/cut.py") 657), (.int 160 0), (.int 1 0), (.int 1 0), (.int 4 0), (.int 3 0), (.ref 272), (.bool true), (.int 311 0), (.ref 273), .none, (.ref 274), (.ref 275), (.ref 276), (.int 673 0), (.int 160 0), (.str (Str.ofString "/claim/cut.py") 674)]) #[])) ::
  ((nat_lit 278), fo_278) ::
  ((nat_lit 279), (Obj.mk (.type "tuple") none (.seq #[] 0) #[])) ::
  ((nat_lit 281), (Obj.mk (.type "tuple") none (.seq #[(.str (Str.ofString "data") 679), (.str (Str.ofString "n") 680), (.str (Str.ofString "i") 681)] 0) #[])) ::
  ((nat_lit 282), (Obj.mk (.type "tuple") none (.seq #[] 0) #[])) ::
  ((nat_lit 284), (Obj.mk (.type "code") none (.fields #[(.str (Str.ofString "median") 676), (.str (Str.ofString "median") 677), (.str (Str.ofString "/claim/cut.py") 678), (.int 176 0), (.int 1 0), (.int 0 0), (.int 0 0), (.int 3 0), (.ref 279), (.bool true), (.int 311 0), (.ref 280), .none, (.ref 281), (.ref 282), (.ref 283), (.int 682 0), (.int 176 0), (.str (Str.ofString "/claim/cut.py") 683)]) #[])) ::
  ((nat_lit 285), fo_285) ::
  ((nat_lit 286), (Obj.mk (.type "tuple") none (.seq #[] 0) #[])) ::
  ((nat_lit 288), (Obj.mk (.type "tuple") none (.seq #[(.str (Str.ofString "data") 688), (.str (Str.ofString "n") 689)] 0) #[])) ::
  ((nat_lit 289), (Obj.mk (.type "tuple") none (.seq #[] 0) #[])) ::
  ((nat_lit 291), (Obj.mk (.type "code") none (.fields #[(.str (Str.ofString "median_low") 685), (.str (Str.ofString "median_low") 686), (.str (Str.ofString "/claim/cut.py") 687), (.int 186 0), (.int 1 0), (.int 0 0), (.int 0 0), (.int 3 0), (.ref 286), (.bool true), (.int 311 0), (.ref 287), .none, (.ref 288), (.ref 289), (.ref 290), (.int 690 0), (.int 186 0), (.str (Str.ofString "/claim/cut.py") 691)]) #[])) ::
  ((nat_lit 292), fo_292) ::
  ((nat_lit 293), (Obj.mk (.type "tuple") none (.seq #[] 0) #[])) ::
  ((nat_lit 295), (Obj.mk (.type "tuple") none (.seq #[(.str (Str.ofString "data") 696), (.str (Str.ofString "n") 697)] 0) #[])) ::
  ((nat_lit 296), (Obj.mk (.type "tuple") none (.seq #[] 0) #[])) ::
  ((nat_lit 298), (Obj.mk (.type "code") none (.fields #[(.str (Str.ofString "median_high") 693), (.str (Str.ofString "median_high") 694), (.str (Str.ofString "/claim/cut.py") 695), (.int 195 0), (.int 1 0), (.int 0 0), (.int 0 0), (.int 3 0), (.ref 293), (.bool true), (.int 311 0), (.ref 294), .none, (.ref 295), (.ref 296), (.ref 297), (.int 698 0), (.int 195 0), (.str (Str.ofString "/claim/cut.py") 699)]) #[])) ::
  ((nat_lit 299), fo_299) ::
  ((nat_lit 300), (Obj.mk (.type "tuple") none (.seq #[(.float 4607182418800017408 701)] 0) #[])) ::
  ((nat_lit 301), (Obj.mk (.type "tuple") none (.seq #[] 0) #[])) ::
  ((nat_lit 303), (Obj.mk (.type "tuple") none (.seq #[(.str (Str.ofString "data") 705), (.str (Str.ofString "interval") 706), (.str (Str.ofString "n") 707), (.str (Str.ofString "x") 708), (.str (Str.ofString "i") 709), (.str (Str.ofString "j") 710), (.str (Str.ofString "L") 711), (.str (Str.ofString "cf") 712), (.str (Str.ofString "f") 713)] 0) #[])) ::
  ((nat_lit 304), (Obj.mk (.type "tuple") none (.seq #[] 0) #[])) ::
  ((nat_lit 306), (Obj.mk (.type "code") none (.fields #[(.str (Str.ofString "median_grouped") 702), (.str (Str.ofString "median_grouped") 703), (.str (Str.ofString "/claim/cut.py") 704), (.int 201 0), (.int 2 0), (.int 0 0), (.int 0 0), (.int 3 0), (.ref 301), (.bool true), (.int 311 0), (.ref 302), .none, (.ref 303), (.ref 304), (.ref 305), (.int 714 0), (.int 201 0), (.str (Str.ofString "/claim/cut.py") 715)]) #[])) ::
  ((nat_lit 307), fo_307) ::
  ((nat_lit 308), (Obj.mk (.type "dict") none (.dict #[⟨PyData.keyHash P (Str.ofString "n"), .str (Str.ofString "n") 719, .int 4 717⟩, ⟨PyData.keyHash P (Str.ofString "method"), .str (Str.ofString "method") 720, .str (Str.ofString "exclusive") 718⟩] 2) #[])) ::
  ((nat_lit 309), (Obj.mk (.type "tuple") none (.seq #[] 0) #[])) ::
  ((nat_lit 311), (Obj.mk (.type "tuple") none (.seq #[(.str (Str.ofString "data") 724), (.str (Str.ofString "n") 725), (.str (Str.ofString "method") 726), (.str (Str.ofString "ld") 727), (.str (Str.ofString "m") 728), (.str (Str.ofString "result") 729), (.str (Str.ofString "i") 730), (.str (Str.ofString "j") 731), (.str (Str.ofString "delta") 732), (.str (Str.ofString "interpolated") 733)] 0) #[])) ::
  ((nat_lit 312), (Obj.mk (.type "tuple") none (.seq #[] 0) #[])) ::
  ((nat_lit 314), (Obj.mk (.type "code") none (.fields #[(.str (Str.ofString "quantiles") 721), (.str (Str.ofString "quantiles") 722), (.str (Str.ofString "/claim/cut.py") 723), (.int 218 0), (.int 1 0), (.int 0 0), (.int 2 0), (.int 3 0), (.ref 309), (.bool true), (.int 311 0), (.ref 310), .none, (.ref 311), (.ref 312), (.ref 313), (.int 734 0), (.int 218 0), (.str (Str.ofString "/claim/cut.py") 735)]) #[])) ::
  ((nat_lit 315), fo_315) ::
  ((nat_lit 316), (Obj.mk (.type "tuple") none (.seq #[] 0) #[])) ::
  ((nat_lit 318), (Obj.mk (.type "tuple") none (.seq #[(.str (Str.ofString "ask") 742)] 0) #[])) ::
  ((nat_lit 319), (Obj.mk (.type "tuple") none (.seq #[] 0) #[])) ::
  ((nat_lit 321), (Obj.mk (.type "code") none (.fields #[(.str (Str.ofString "_law_refused") 739), (.str (Str.ofString "_law_refused") 740), (.str (Str.ofString "/claim/cut.py") 741), (.int 247 0), (.int 1 0), (.int 0 0), (.int 0 0), (.int 3 0), (.ref 316), (.bool true), (.int 311 0), (.ref 317), .none, (.ref 318), (.ref 319), (.ref 320), (.int 743 0), (.int 247 0), (.str (Str.ofString "/claim/cut.py") 744)]) #[])) ::
  ((nat_lit 322), fo_322) ::
  ((nat_lit 323), (Obj.mk (.type "tuple") none (.seq #[] 0) #[])) ::
  ((nat_lit 325), (Obj.mk (.type "tuple") none (.seq #[(.str (Str.ofString "row") 749)] 0) #[])) ::
  ((nat_lit 326), (Obj.mk (.type "tuple") none (.seq #[] 0) #[])) ::
  ((nat_lit 328), (Obj.mk (.type "code") none (.fields #[(.str (Str.ofString "_law_unknown") 746), (.str (Str.ofString "_law_unknown") 747), (.str (Str.ofString "/claim/cut.py") 748), (.int 253 0), (.int 1 0), (.int 0 0), (.int 0 0), (.int 3 0), (.ref 323), (.bool true), (.int 311 0), (.ref 324), .none, (.ref 325), (.ref 326), (.ref 327), (.int 750 0), (.int 253 0), (.str (Str.ofString "/claim/cut.py") 751)]) #[])) ::
  ((nat_lit 329), fo_329) ::
  ((nat_lit 330), (Obj.mk (.type "tuple") none (.seq #[] 0) #[])) ::
  ((nat_lit 333), (Obj.mk (.type "code") none (.fields #[(.str (Str.ofString "_law_told") 753), (.str (Str.ofString "_law_told") 754), (.str (Str.ofString "/claim/cut.py") 755), (.int 261 0), (.int 3 0), (.int 0 0), (.int 0 0), (.int 3 0), (.ref 330), (.bool true), (.int 311 0), (.ref 331), .none, .none, .none, (.ref 332), (.int 756 0), (.int 261 0), (.str (Str.ofString "/claim/cut.py") 757)]) #[])) ::
  ((nat_lit 334), fo_334) ::
  ((nat_lit 335), (Obj.mk (.type "tuple") none (.seq #[] 0) #[])) ::
  ((nat_lit 338), (Obj.mk (.type "code") none (.fields #[(.str (Str.ofString "_law_cuts") 759), (.str (Str.ofString "_law_cuts") 760), (.str (Str.ofString "/claim/cut.py") 761), (.int 263 0), (.int 2 0), (.int 0 0), (.int 0 0), (.int 3 0), (.ref 335), (.bool true), (.int 311 0), (.ref 336), .none, .none, .none, (.ref 337), (.int 762 0), (.int 263 0), (.str (Str.ofString "/claim/cut.py") 763)]) #[])) ::
  ((nat_lit 339), fo_339) ::
  ((nat_lit 340), (Obj.mk (.type "tuple") none (.seq #[] 0) #[])) ::
  ((nat_lit 342), (Obj.mk (.type "tuple") none (.seq #[(.str (Str.ofString "rise") 768)] 0) #[])) ::
  ((nat_lit 343), (Obj.mk (.type "tuple") none (.seq #[] 0) #[])) ::
  ((nat_lit 345), (Obj.mk (.type "code") none (.fields #[(.str (Str.ofString "_law_wide") 765), (.str (Str.ofString "_law_wide") 766), (.str (Str.ofString "/claim/cut.py") 767), (.int 270 0), (.int 1 0), (.int 0 0), (.int 0 0), (.int 3 0), (.ref 340), (.bool true), (.int 311 0), (.ref 341), .none, (.ref 342), (.ref 343), (.ref 344), (.int 769 0), (.int 270 0), (.str (Str.ofString "/claim/cut.py") 770)]) #[])) ::
  ((nat_lit 346), fo_346) ::
  ((nat_lit 347), (Obj.mk (.type "tuple") none (.seq #[] 0) #[])) ::
  ((nat_lit 350), (Obj.mk (.type "code") none (.fields #[(.str (Str.ofString "_law_ranks") 772), (.str (Str.ofString "_law_ranks") 773), (.str (Str.ofString "/claim/cut.py") 774), (.int 274 0), (.int 3 0), (.int 0 0), (.int 0 0), (.int 3 0), (.ref 347), (.bool true), (.int 311 0), (.ref 348), .none, .none, .none, (.ref 349), (.int 775 0), (.int 274 0), (.str (Str.ofString "/claim/cut.py") 776)]) #[])) ::
  ((nat_lit 351), fo_351) ::
  ((nat_lit 352), (Obj.mk (.type "tuple") none (.seq #[] 0) #[])) ::
  ((nat_lit 355), (Obj.mk (.type "code") none (.fields #[(.str (Str.ofString "law") 778), (.str (Str.ofString "law") 779), (.str (Str.ofString "/claim/cut.py") 780), (.int 281 0), (.int 1 0), (.int 0 0), (.int 0 0), (.int 3 0), (.ref 352), (.bool true), (.int 311 0), (.ref 353), .none, .none, .none, (.ref 354), (.int 781 0), (.int 281 0), (.str (Str.ofString "/claim/cut.py") 782)]) #[])) ::
  ((nat_lit 356), fo_356) ::
  []
noncomputable def hd.view_39 : Program := view PySem.Challenge.rw_ij0065_01.row.prog [0, 1, 3, 5, 6, 7, 8, 9, 10, 11, 12, 14, 17, 18, 19, 23, 24, 25, 26, 27, 28, 29]
-- Hk
theorem eps_all {α : Type} {hα : Nonempty α} {P : α → Prop} (h : P (@Classical.epsilon α hα fun x => ¬ P x)) (x : α) : P x :=
  Classical.byContradiction fun hn => (@Classical.epsilon_spec α (fun x => ¬ P x) ⟨x, hn⟩) h
@[irreducible] noncomputable def f1 {A B : Type} (x : A × B) : A := x.1
@[irreducible] noncomputable def f2 {A B : Type} (x : A × B) : B := x.2
noncomputable abbrev wT {α : Sort u} (_ : α) : Sort u := α
theorem wI {α : Prop} (a : α) : wT a := a
theorem hkapp {A B : Prop} (f : A → B) (a : A) : B := f a
noncomputable def w00 : World := { draws := fun _ _ => 0, params := { strHash := fun _ => 0, shareClass := fun _ => 0, mergeTok := fun t => t, idOf := fun _ => 0, idOfShared := fun _ _ => 0, followText := fun _ => false, idOfImm := fun _ => 0 } }
structure It where
  T : Addr
  v : Int
  q : Int
  tv : Tok
  tq : Tok
structure GP where
  gb : Addr
  d : Addr
  ig : Addr
  dI : Addr
  tp : Addr
  li : Addr
  D : Addr
  t0 : Tok
  e : Nat
  its : List It
noncomputable def s00 : Shared := { heap := default }
noncomputable abbrev tV := List Value
noncomputable abbrev tI := List Int
noncomputable abbrev tM := Str → Option Value
noncomputable abbrev tX := ExcName → Option Value
noncomputable abbrev tC := Option (List Code)
noncomputable abbrev tA := List (Str × Addr)
noncomputable abbrev tE := List Env
noncomputable abbrev tS := List Str
noncomputable abbrev tQ := Value → Shared → Prop
set_option genInjectivity false in
set_option genSizeOf false in
structure VV where
  a : Nat → (List Int → List Value → Prop)
  b : Nat → (Array Value)
  c : Nat → (Value → Heap → Prop)
  d : Nat → (Option Value → Shared → Prop)
  e : Nat → Bool
  f : Nat → (List (Int × Int))
  g : Nat → GP
  h : Nat → (Int → Int)
  v : Nat → (List It)
  w : Nat → It
  x : Nat → (List Value × Nat)
  y : Nat → (Option (Addr × Obj))
  i : Nat → (Shared → Addr → Addr → Result → Shared → Prop)
  j : Nat → (Int → Bool)
  k : Nat → (List Stmt)
  l : Nat → (Tok → Int)
  m : Nat → (Int → Int → Bool)
  n : Nat → (Int → List Value → Prop)
  o : Nat → (List (Addr × Obj))
  p : Nat → String
  q : Nat → (Option Value)
  r : Nat → (Flow → Shared → Prop)
  s : Nat → Env
  t : Nat → Expr
  u : Nat → Pos
  E : Nat → (List Env)
  C : Nat → (Option (List Code))
  T : Nat → (List (Str × Addr))
  K : Nat → Scope
  A : Nat → Around
  X : Nat → (ExcName → Option Value)
  S : Nat → (List Str)
  G : Nat → Str
  W : Nat → World
  P : Nat → Program
  Q : Nat → (Value → Shared → Prop)
  R : Nat → Shared
  V : Nat → Value
  Z : Nat → Int
  I : Nat → (List Int)
  L : Nat → (List Value)
  M : Nat → (Str → Option Value)
  H : Nat → Heap
  O : Nat → Obj
  N : Nat → Nat
noncomputable def d9a : List Int → List Value → Prop := fun _ _ => True
noncomputable def e9a : Nat → (List Int → List Value → Prop) := fun _ => d9a
noncomputable def d9b : Array Value := #[]
noncomputable def e9b : Nat → (Array Value) := fun _ => d9b
noncomputable def d9c : Value → Heap → Prop := fun _ _ => True
noncomputable def e9c : Nat → (Value → Heap → Prop) := fun _ => d9c
noncomputable def d9d : Option Value → Shared → Prop := fun _ _ => True
noncomputable def e9d : Nat → (Option Value → Shared → Prop) := fun _ => d9d
noncomputable def d9e : Bool := false
noncomputable def e9e : Nat → Bool := fun _ => d9e
noncomputable def d9f : List (Int × Int) := []
noncomputable def e9f : Nat → (List (Int × Int)) := fun _ => d9f
noncomputable def d9g : GP := ⟨0, 0, 0, 0, 0, 0, 0, 0, 0, []⟩
noncomputable def e9g : Nat → GP := fun _ => d9g
noncomputable def d9h : Int → Int := fun _ => 0
noncomputable def e9h : Nat → (Int → Int) := fun _ => d9h
noncomputable def d9v : List It := []
noncomputable def e9v : Nat → (List It) := fun _ => d9v
noncomputable def d9w : It := ⟨0, 0, 0, 0, 0⟩
noncomputable def e9w : Nat → It := fun _ => d9w
noncomputable def d9x : List Value × Nat := ([], 0)
noncomputable def e9x : Nat → (List Value × Nat) := fun _ => d9x
noncomputable def d9y : Option (Addr × Obj) := none
noncomputable def e9y : Nat → (Option (Addr × Obj)) := fun _ => d9y
noncomputable def d9i : Shared → Addr → Addr → Result → Shared → Prop := fun _ _ _ _ _ => True
noncomputable def e9i : Nat → (Shared → Addr → Addr → Result → Shared → Prop) := fun _ => d9i
noncomputable def d9j : Int → Bool := fun _ => false
noncomputable def e9j : Nat → (Int → Bool) := fun _ => d9j
noncomputable def d9k : List Stmt := []
noncomputable def e9k : Nat → (List Stmt) := fun _ => d9k
noncomputable def d9l : Tok → Int := fun _ => 0
noncomputable def e9l : Nat → (Tok → Int) := fun _ => d9l
noncomputable def d9m : Int → Int → Bool := fun _ _ => false
noncomputable def e9m : Nat → (Int → Int → Bool) := fun _ => d9m
noncomputable def d9n : Int → List Value → Prop := fun _ _ => True
noncomputable def e9n : Nat → (Int → List Value → Prop) := fun _ => d9n
noncomputable def d9o : List (Addr × Obj) := []
noncomputable def e9o : Nat → (List (Addr × Obj)) := fun _ => d9o
noncomputable def d9p : String := ""
noncomputable def e9p : Nat → String := fun _ => d9p
noncomputable def d9q : Option Value := none
noncomputable def e9q : Nat → (Option Value) := fun _ => d9q
noncomputable def d9r : Flow → Shared → Prop := fun _ _ => True
noncomputable def e9r : Nat → (Flow → Shared → Prop) := fun _ => d9r
noncomputable def d9s : Env := default
noncomputable def e9s : Nat → Env := fun _ => d9s
noncomputable def d9t : Expr := default
noncomputable def e9t : Nat → Expr := fun _ => d9t
noncomputable def d9u : Pos := default
noncomputable def e9u : Nat → Pos := fun _ => d9u
noncomputable def d9E : List Env := []
noncomputable def e9E : Nat → (List Env) := fun _ => d9E
noncomputable def d9C : Option (List Code) := none
noncomputable def e9C : Nat → (Option (List Code)) := fun _ => d9C
noncomputable def d9T : List (Str × Addr) := []
noncomputable def e9T : Nat → (List (Str × Addr)) := fun _ => d9T
noncomputable def d9K : Scope := default
noncomputable def e9K : Nat → Scope := fun _ => d9K
noncomputable def d9A : Around := callerA
noncomputable def e9A : Nat → Around := fun _ => d9A
noncomputable def d9X : ExcName → Option Value := fun _ => none
noncomputable def e9X : Nat → (ExcName → Option Value) := fun _ => d9X
noncomputable def d9S : List Str := []
noncomputable def e9S : Nat → (List Str) := fun _ => d9S
noncomputable def d9G : Str := default
noncomputable def e9G : Nat → Str := fun _ => d9G
noncomputable def d9W : World := w00
noncomputable def e9W : Nat → World := fun _ => d9W
noncomputable def d9P : Program := default
noncomputable def e9P : Nat → Program := fun _ => d9P
noncomputable def d9Q : Value → Shared → Prop := fun _ _ => True
noncomputable def e9Q : Nat → (Value → Shared → Prop) := fun _ => d9Q
noncomputable def d9R : Shared := s00
noncomputable def e9R : Nat → Shared := fun _ => d9R
noncomputable def d9V : Value := default
noncomputable def e9V : Nat → Value := fun _ => d9V
noncomputable def d9Z : Int := 0
noncomputable def e9Z : Nat → Int := fun _ => d9Z
noncomputable def d9I : List Int := []
noncomputable def e9I : Nat → (List Int) := fun _ => d9I
noncomputable def d9L : List Value := []
noncomputable def e9L : Nat → (List Value) := fun _ => d9L
noncomputable def d9M : Str → Option Value := fun _ => none
noncomputable def e9M : Nat → (Str → Option Value) := fun _ => d9M
noncomputable def d9H : Heap := default
noncomputable def e9H : Nat → Heap := fun _ => d9H
noncomputable def d9O : Obj := default
noncomputable def e9O : Nat → Obj := fun _ => d9O
noncomputable def d9N : Nat := 0
noncomputable def e9N : Nat → Nat := fun _ => d9N
noncomputable def lk {α : Type} (l : List α) (d : α) (i : Nat) : α := l.getD i d
noncomputable def vv (E : Nat → (List Env)) (C : Nat → (Option (List Code))) (T : Nat → (List (Str × Addr))) (K : Nat → Scope) (A : Nat → Around) (X : Nat → (ExcName → Option Value)) (S : Nat → (List Str)) (G : Nat → Str) (W : Nat → World) (P : Nat → Program) (Q : Nat → (Value → Shared → Prop)) (R : Nat → Shared) (V : Nat → Value) (Z : Nat → Int) (I : Nat → (List Int)) (L : Nat → (List Value)) (M : Nat → (Str → Option Value)) (H : Nat → Heap) (O : Nat → Obj) (N : Nat → Nat) : VV := ⟨e9a, e9b, e9c, e9d, e9e, e9f, e9g, e9h, e9v, e9w, e9x, e9y, e9i, e9j, e9k, e9l, e9m, e9n, e9o, e9p, e9q, e9r, e9s, e9t, e9u, E, C, T, K, A, X, S, G, W, P, Q, R, V, Z, I, L, M, H, O, N⟩
noncomputable def epsV0 (P : VV → Prop) : VV := @Classical.epsilon VV ⟨vv e9E e9C e9T e9K e9A e9X e9S e9G e9W e9P e9Q e9R e9V e9Z e9I e9L e9M e9H e9O e9N⟩ fun v => ¬ P v
theorem epsV {P : VV → Prop} (h : P (epsV0 P)) (v : VV) : P v :=
  Classical.byContradiction fun hn => (@Classical.epsilon_spec VV (fun x => ¬ P x) ⟨v, hn⟩) h
theorem roomN {a b c d : Nat} (h : a + b < c) (k : Nat) (e : d = a + k) (hk : Nat.ble k b = true) : d < c := e ▸ Nat.lt_of_le_of_lt (Nat.add_le_add_left (Nat.le_of_ble_eq_true hk) a) h
theorem al0 {d a : Nat} {x : Obj} {r : List (Addr × Obj)} (h : AllLt d ((a, x) :: r) := by assumption) : a < d := h.1
theorem alT {d : Nat} {p : Addr × Obj} {r : List (Addr × Obj)} (h : AllLt d (p :: r)) : AllLt d r := h.2
theorem al1 {d a : Nat} {p0 : Addr × Obj} {x : Obj} {r : List (Addr × Obj)} (h : AllLt d (p0 :: (a, x) :: r) := by assumption) : a < d := al0 h.2
theorem al2 {d a : Nat} {p0 p1 : Addr × Obj} {x : Obj} {r : List (Addr × Obj)} (h : AllLt d (p0 :: p1 :: (a, x) :: r) := by assumption) : a < d := al1 h.2
theorem al3 {d a : Nat} {p0 p1 p2 : Addr × Obj} {x : Obj} {r : List (Addr × Obj)} (h : AllLt d (p0 :: p1 :: p2 :: (a, x) :: r) := by assumption) : a < d := al2 h.2
theorem al4 {d a : Nat} {p0 p1 p2 p3 : Addr × Obj} {x : Obj} {r : List (Addr × Obj)} (h : AllLt d (p0 :: p1 :: p2 :: p3 :: (a, x) :: r) := by assumption) : a < d := al3 h.2
theorem al5 {d a : Nat} {p0 p1 p2 p3 p4 : Addr × Obj} {x : Obj} {r : List (Addr × Obj)} (h : AllLt d (p0 :: p1 :: p2 :: p3 :: p4 :: (a, x) :: r) := by assumption) : a < d := al4 h.2
theorem al6 {d a : Nat} {p0 p1 p2 p3 p4 p5 : Addr × Obj} {x : Obj} {r : List (Addr × Obj)} (h : AllLt d (p0 :: p1 :: p2 :: p3 :: p4 :: p5 :: (a, x) :: r) := by assumption) : a < d := al5 h.2
theorem al7 {d a : Nat} {p0 p1 p2 p3 p4 p5 p6 : Addr × Obj} {x : Obj} {r : List (Addr × Obj)} (h : AllLt d (p0 :: p1 :: p2 :: p3 :: p4 :: p5 :: p6 :: (a, x) :: r) := by assumption) : a < d := al6 h.2
theorem al8 {d a : Nat} {p0 p1 p2 p3 p4 p5 p6 p7 : Addr × Obj} {x : Obj} {r : List (Addr × Obj)} (h : AllLt d (p0 :: p1 :: p2 :: p3 :: p4 :: p5 :: p6 :: p7 :: (a, x) :: r) := by assumption) : a < d := al7 h.2
theorem al9 {d a : Nat} {p0 p1 p2 p3 p4 p5 p6 p7 p8 : Addr × Obj} {x : Obj} {r : List (Addr × Obj)} (h : AllLt d (p0 :: p1 :: p2 :: p3 :: p4 :: p5 :: p6 :: p7 :: p8 :: (a, x) :: r) := by assumption) : a < d := al8 h.2
theorem al10 {d a : Nat} {p0 p1 p2 p3 p4 p5 p6 p7 p8 p9 : Addr × Obj} {x : Obj} {r : List (Addr × Obj)} (h : AllLt d (p0 :: p1 :: p2 :: p3 :: p4 :: p5 :: p6 :: p7 :: p8 :: p9 :: (a, x) :: r) := by assumption) : a < d := al9 h.2
theorem al11 {d a : Nat} {p0 p1 p2 p3 p4 p5 p6 p7 p8 p9 p10 : Addr × Obj} {x : Obj} {r : List (Addr × Obj)} (h : AllLt d (p0 :: p1 :: p2 :: p3 :: p4 :: p5 :: p6 :: p7 :: p8 :: p9 :: p10 :: (a, x) :: r) := by assumption) : a < d := al10 h.2
theorem al12 {d a : Nat} {p0 p1 p2 p3 p4 p5 p6 p7 p8 p9 p10 p11 : Addr × Obj} {x : Obj} {r : List (Addr × Obj)} (h : AllLt d (p0 :: p1 :: p2 :: p3 :: p4 :: p5 :: p6 :: p7 :: p8 :: p9 :: p10 :: p11 :: (a, x) :: r) := by assumption) : a < d := al11 h.2
theorem al13 {d a : Nat} {p0 p1 p2 p3 p4 p5 p6 p7 p8 p9 p10 p11 p12 : Addr × Obj} {x : Obj} {r : List (Addr × Obj)} (h : AllLt d (p0 :: p1 :: p2 :: p3 :: p4 :: p5 :: p6 :: p7 :: p8 :: p9 :: p10 :: p11 :: p12 :: (a, x) :: r) := by assumption) : a < d := al12 h.2
theorem roomK {a b c d : Nat} (h : a + b < c) (e : ∃ k, d = a + k ∧ Nat.ble k b = true) : d < c := e.elim fun k z => roomN h k z.1 z.2
theorem lt_via {a b m : Nat} (h : a < m) (hb : m < b := by with_reducible assumption) : a < b := Nat.lt_trans h hb
theorem roomKk {a b c : Nat} (k : Nat) {d : Nat} (e : d = a + k := by rfl) (h : a + b < c := by with_reducible assumption) (l : Nat.ble k b = true := by rfl) : d < c := roomK h ⟨k, e, l⟩
theorem dec_lt {n i : Nat} (h : i < n) : n + 1 - (i + 1) < n + 1 - i := Nat.sub_lt_sub_left (Nat.lt_succ_of_lt h) (Nat.lt_succ_self i)
theorem dec_eq {n i k : Nat} (h : n - i = k + 1) : n - (i + 1) = k := by rw [Nat.sub_succ, h]; rfl
theorem dec_pos {n i k : Nat} (h : n - i = k + 1) : i < n := Nat.lt_of_sub_pos (h ▸ Nat.succ_pos k)
theorem dec_zero {n i : Nat} (h : n - i = 0) (l : i ≤ n) : i = n := Nat.le_antisymm l (Nat.sub_eq_zero_iff_le.mp h)
theorem nab {x : Int} {n : Nat} (h1 : -(n : Int) ≤ x) (h2 : x ≤ (n : Int)) : x.natAbs ≤ n := by omega
-- Base
section
section
variable {prog : Program} {w : World} {A₀ A : Around} {s : Shared} {base h₀ : Heap} {outer : List Env} {L : Addr} {m : Str → Option Value} {env : Env} {K : Frag}
  {R : Result → Shared → Prop} {name qual : Str} {params : Arguments} {body : List Stmt} {scope : Scope} {dV kV doc pm cdv ct oc : Value} {an od : Option Addr} {osl : Array (Option Value)} {f : Addr} {args : Args} {binds : List (Str × Value)}
  {p : Program} {loose : List Str} {mean : ExcName → Option Value} {mg mb : Str → Option Value}
theorem call_frozen (h : ∀ L' h₁, Fr s.heap L' h₁ (fun y => binds.reverse.lookup y) → News s.heap L' h₁ [] → Below A base (env :: outer) s.heap → K.In s.heap → Top p loose mean mg mb s.heap →
      wpAny (model prog w) (A.deeper (envOf qual scope L' f cdv)) (execs body (envOf qual scope L' f cdv))
        (fun fl s' => R (.ok (.ret (match fl with | .ret v => v | _ => .none))) s')
        (fun e s' => wpAny (model prog w) (A.deeper (envOf qual scope L' f cdv)) (leaving (envOf qual scope L' f cdv) e) (fun _ s'' => R (.error e) s'') (fun e' s'' => R (.error e') s'') s')
        { s with heap := h₁, toks := s.toks + binds.length })
    (hA : A.frames = some (env :: outer) := by exact rfl) (hf : env.frame = some L := by exact rfl) (hke : env.scope.kind = .function := by assumption)
    (B : Below A₀ base outer h₀ := by k_asm) (F : Fr h₀ L s.heap m := by k_asm) (X₀ : K.In h₀ := by k_asm) (T : Top p loose mean mg mb h₀ := by k_asm)
    (ho : K.lookup f = some ⟨oc, od, .func (fnOf name qual params body scope dV kV doc pm an cdv ct), osl⟩ := by k_is) (hcd : codeIn K cdv qual = true := by k_is) (hroom : A.depth < recursionLimit := by ktr_room)
    (hbind : BindsTo s (fnOf name qual params body scope dV kV doc pm an cdv ct) args binds := by walk_at "fr_b") (hcell : ∀ x ∈ scope.names, x.2 ≠ .cell := by decide) (hloc : ∀ y ∈ binds, scope.names.lookup y.1 = some .local := by exact locs rfl)
    (hco : scope.isCoroutine = false := by exact rfl) (hgen : scope.isGenerator = false := by exact rfl) (hk : scope.kind = .function := by exact rfl) : codeAny (model prog w) A (.call (.ref f) args) R s := by
  have X : K.In s.heap := X₀.keeps F.keep
  have T' : Top p loose mean mg mb s.heap := T.keeps F.keep
  refine codeAny_call_def (fd := fnOf name qual params body scope dV kV doc pm an cdv ct) (body := body) (binds := binds) hroom (X _ _ ho) rfl T'.nolimit (codeRec_of X hcd) rfl hbind hcell hloc (fun h₁ hns hk₁ => ?_) hco hgen hk
  have B₁ := pushX B F hf hke
  exact h _ h₁ ⟨hns, hk₁, Nat.le_refl _⟩ News.nil ⟨hA, B₁.stays, B₁.frames⟩ X T'
theorem call_frozenC (h : ∀ L' h₁ tk cells, Fr s.heap L' h₁ (bindL (envOfC qual scope L' f cdv).kindOf binds fun _ => none) → News s.heap L' h₁ cells →
      CellsAre (bindC (envOfC qual scope L' f cdv).kindOf binds fun _ => none) (cellsFrom (L' + 1) scope.names []) cells → Below A base (env :: outer) s.heap → K.In s.heap → Top p loose mean mg mb s.heap →
      wpAny (model prog w) (A.deeper (envOfC qual scope L' f cdv)) (execs body (envOfC qual scope L' f cdv))
        (fun fl s' => R (.ok (.ret (match fl with | .ret v => v | _ => .none))) s')
        (fun e s' => wpAny (model prog w) (A.deeper (envOfC qual scope L' f cdv)) (leaving (envOfC qual scope L' f cdv) e) (fun _ s'' => R (.error e) s'') (fun e' s'' => R (.error e') s'') s')
        { s with heap := h₁, toks := tk })
    (hA : A.frames = some (env :: outer) := by exact rfl) (hf : env.frame = some L := by exact rfl) (hke : env.scope.kind = .function := by assumption)
    (B : Below A₀ base outer h₀ := by k_asm) (F : Fr h₀ L s.heap m := by k_asm) (X₀ : K.In h₀ := by k_asm) (T : Top p loose mean mg mb h₀ := by k_asm)
    (ho : K.lookup f = some ⟨oc, od, .func (fnOf name qual params body scope dV kV doc pm an cdv ct), osl⟩ := by k_is) (hcd : codeIn K cdv qual = true := by k_is) (hroom : A.depth < recursionLimit := by ktr_room)
    (hbind : BindsTo s (fnOf name qual params body scope dV kV doc pm an cdv ct) args binds := by walk_at "fr_b") (hkind : (binds.all fun y => scope.names.lookup y.1 == some .local || scope.names.lookup y.1 == some .cell) = true := by exact rfl)
    (hnd : ((cellsFrom 0 scope.names []).map (·.1)).Nodup := by decide +kernel)
    (hco : scope.isCoroutine = false := by exact rfl) (hgen : scope.isGenerator = false := by exact rfl) (hk : scope.kind = .function := by exact rfl) : codeAny (model prog w) A (.call (.ref f) args) R s := by
  have X : K.In s.heap := X₀.keeps F.keep
  have T' : Top p loose mean mg mb s.heap := T.keeps F.keep
  have B₁ := pushX B F hf hke
  refine codeAny_call_function hroom (X _ _ ho) rfl hco hgen rfl (codeRec_of X hcd) (hbind _ _ _ _ ?_)
  refine wpAny_newFunctionEnv_cells hk (kindsX hkind _) fun env' he s' x => ?_
  subst he
  refine ⟨T'.nolimit.keeps x.toInCall.keep, codeAny_func ?_⟩
  obtain ⟨h₁, tk, rfl, _⟩ := x.done
  have hk₁ := x.toInCall.keep
  obtain ⟨cells, NC, Y⟩ := Cl.news (h₀ := s.heap) (Nat.le_refl _) fun n c hm => ⟨x.cell n c (lookup_of_mem_nodup (cellsFrom_names scope.names 0 (s.heap.objs.size + 1) [] [] rfl ▸ hnd) hm), x.above n c hm⟩
  exact h _ h₁ tk cells ⟨x.toInCall.ns, hk₁, Nat.le_refl _⟩ NC Y ⟨hA, B₁.stays, B₁.frames⟩ X T'
end
noncomputable def fq (a b : Int) : UInt64 := Float64.ofFrac (decide (a < 0) != decide (b < 0)) a.natAbs b.natAbs
inductive FlAre : List Value → List UInt64 → Prop
  | nil : FlAre [] []
  | cons (b : UInt64) (t : Tok) {vs : List Value} {bs : List UInt64} : FlAre vs bs → FlAre (.float b t :: vs) (b :: bs)
theorem FlAre.length {vs : List Value} {bs : List UInt64} (h : FlAre vs bs) : vs.length = bs.length := by
  induction h with
  | nil => rfl
  | cons b t _ ih => rw [List.length_cons, List.length_cons, ih]
theorem FlAre.snoc {vs : List Value} {bs : List UInt64} (h : FlAre vs bs) (b : UInt64) (t : Tok) : FlAre (vs ++ [.float b t]) (bs ++ [b]) := by
  induction h with
  | nil => exact .cons b t .nil
  | cons b' t' _ ih => exact .cons b' t' ih
noncomputable def jex (len n i : Int) : Int := if Int.fdiv (i * (len + 1)) n < 1 then 1 else if Int.fdiv (i * (len + 1)) n > len - 1 then len - 1 else Int.fdiv (i * (len + 1)) n
noncomputable def dex (len n i : Int) : Int := i * (len + 1) - jex len n i * n
noncomputable def qex (d : List Int) (n i : Int) : UInt64 :=
  fq (d.getD (jex d.length n i - 1).toNat 0 * (n - dex d.length n i) + d.getD (jex d.length n i).toNat 0 * dex d.length n i) n
theorem mulok_getD {d : List Int} {j : Nat} {b : Int} (h : ∀ j, -1000000 ≤ d.getD j 0 ∧ d.getD j 0 ≤ 1000000 := by assumption) : IntMulOk (d.getD j 0) b :=
  IntMulOk.of_left (intBits_le_64 (by have := h j; omega) (by have := h j; omega))
theorem mulok_sub {d : List Int} {i j : Nat} {b : Int} (h : ∀ j, -1000000 ≤ d.getD j 0 ∧ d.getD j 0 ≤ 1000000 := by assumption) : IntMulOk (d.getD i 0 - d.getD j 0) b :=
  IntMulOk.of_left (intBits_le_64 (by have := h j; have := h i; omega) (by have := h j; have := h i; omega))
theorem mulok_small {a b : Int} (h1 : -1000000 ≤ a) (h2 : a ≤ 1000000) : IntMulOk a b := IntMulOk.of_left (intBits_le_64 (by omega) (by omega))
theorem ints_snoc {vs : List Value} {ns : List Int} {n m : Int} {t : Tok} (h : IntsAre vs ns) (e : n = m) : IntsAre (vs ++ [.int n t]) (ns ++ [m]) := by
  subst e; exact IntsAre.append h (.cons n t .nil)
theorem getD_bnd {d : List Int} {K : Int} (hK : 0 ≤ K) (h : ∀ x ∈ d, -K ≤ x ∧ x ≤ K) (j : Nat) : -K ≤ d.getD j 0 ∧ d.getD j 0 ≤ K := by
  by_cases hj : j < d.length
  · have e : d.getD j 0 = d[j] := by simp [hj]
    rw [e]; exact h _ (List.getElem_mem hj)
  · have e : d.getD j 0 = 0 := by simp [List.getD_eq_getElem?_getD, List.getElem?_eq_none (Nat.le_of_not_lt hj)]
    rw [e]; omega
section
variable {prog : Program} {w : World} {A : Around} {E : Value → Shared → Prop} {s : Shared} {t u : Tok} {Q : Value → Shared → Prop}
theorem div_side {a b : Int} (h : Q (.float (fq a b) s.toks) { s with toks := s.toks + 1 }) (hb : 0 < b) (ha : a.natAbs < 2 ^ 1023) (hA : A.handled = none := by rfl) :
    wpAny (model prog w) A (binaryOp .Div (.int a t) (.int b u)) Q E s :=
  Flt.div_ii_fits hA ha (fun e => by omega) (fun _ _ => h)
end
section
variable {prog : Program} {w : World} {A : Around} {E : Value → Shared → Prop} {s : Shared} {env : Env} {h₀ : Heap} {x : Str} {body : List Stmt} {Q : Flow → Shared → Prop}
noncomputable def intP (q : Int → Bool) : Value → Bool
  | .int w _ => q w
  | _ => false
theorem filter_intP {q : Int → Bool} {vs : List Value} {ns : List Int} (h : IntsAre vs ns) : (vs.filter (intP q)).length = (ns.filter q).length := by
  induction h with
  | nil => rfl
  | cons n t _ ih =>
    rw [List.filter_cons, List.filter_cons]
    show (if q n = true then _ else _ : List Value).length = _
    by_cases hq : q n = true
    · rw [if_pos hq, if_pos hq, List.length_cons, List.length_cons, ih]
    · rw [if_neg hq, if_neg hq, ih]
theorem paired_eq {vs ys : List Value} (h : Paired (fun v y => y = v) vs ys) : ys = vs := by
  induction h with
  | nil => rfl
  | cons e _ ih => rw [e, ih]
theorem filter_intP_ints {q : Int → Bool} {vs : List Value} {ns : List Int} (h : IntsAre vs ns) : IntsAre (vs.filter (intP q)) (ns.filter q) := by
  induction h with
  | nil => exact .nil
  | cons n t _ ih =>
    rw [List.filter_cons, List.filter_cons]
    show IntsAre (if q n = true then _ else _) _
    by_cases hq : q n = true
    · rw [if_pos hq, if_pos hq]; exact .cons _ _ ih
    · rw [if_neg hq, if_neg hq]; exact ih
theorem ints_mem {vs : List Value} {ns : List Int} (h : IntsAre vs ns) : ∀ v ∈ vs, ∃ n t, n ∈ ns ∧ v = .int n t := by
  induction h with
  | nil => intro v hv; cases hv
  | cons n t _ ih =>
    intro v hv
    rcases List.mem_cons.mp hv with rfl | hv
    · exact ⟨n, t, List.mem_cons_self, rfl⟩
    · obtain ⟨m, t', hm, e⟩ := ih v hv
      exact ⟨m, t', List.mem_cons_of_mem _ hm, e⟩
noncomputable def PushEnd (h₀ : Heap) (L : Addr) (x : Str) (stored : List Str) (m₀ : Str → Option Value) (l : Addr) (rest own : List (Addr × Obj)) (P : List Int → List Value → Prop) (pre : List Int) (s₁ : Shared) (Q : Flow → Shared → Prop) (f : Flow) (s₂ : Shared) : Prop :=
  match f with
  | .ret v => Q (.ret v) s₂
  | .brk => Q .next s₂
  | _ => ∃ h' tk m' fs c news', s₂ = { s₁ with heap := h', toks := tk } ∧ Fr h₀ L h' m' ∧ News h₀ L h' news' ∧ (∀ p ∈ (l, W.listOf fs.toArray c) :: (rest ++ own), p ∈ news') ∧ (∀ z, z ≠ x → stored.contains z = false → m' z = m₀ z) ∧ P pre fs
theorem PushEnd.intro {L : Addr} {stored : List Str} {m₀ m' : Str → Option Value} {l : Addr} {rest own news' : List (Addr × Obj)} {P : List Int → List Value → Prop} {pre : List Int} {s₁ : Shared} {h' : Heap} {tk c : Nat} {fs : List Value}
    (F : Fr h₀ L h' m') (N : News h₀ L h' news') (hs : ∀ p ∈ (l, W.listOf fs.toArray c) :: (rest ++ own), p ∈ news') (hm : ∀ z, z ≠ x → stored.contains z = false → m' z = m₀ z) (hp : P pre fs) :
    PushEnd h₀ L x stored m₀ l rest own P pre s₁ Q .next { s₁ with heap := h', toks := tk } := ⟨h', tk, m', fs, c, news', rfl, F, N, hs, hm, hp⟩
theorem PushEnd.intro2 {L : Addr} {stored : List Str} {m₀ m' : Str → Option Value} {l : Addr} {rest own tail : List (Addr × Obj)} {P : List Int → List Value → Prop} {pre : List Int} {s₁ : Shared} {h' : Heap} {tk c : Nat} {fs : List Value}
    (F : Fr h₀ L h' m') (N : News h₀ L h' ((l, W.listOf fs.toArray c) :: tail)) (hs : ∀ p ∈ rest ++ own, p ∈ tail) (hm : ∀ z, z ≠ x → stored.contains z = false → m' z = m₀ z) (hp : P pre fs) :
    PushEnd h₀ L x stored m₀ l rest own P pre s₁ Q .next { s₁ with heap := h', toks := tk } := PushEnd.intro F N (fun p hp => by
      rcases List.mem_cons.mp hp with rfl | hp
      · exact List.mem_cons_self
      · exact List.mem_cons_of_mem _ (hs p hp)) hm hp
theorem isList_push {h : Heap} {l : Addr} {fs : List Value} {v : Value} {c : Nat} (e : h.get? l = some (W.listOf (fs.toArray.push v) c)) : h.IsList l (fs ++ [v]).toArray :=
  ⟨_, e, rfl, c, by rw [← List.push_toArray]⟩
theorem isList_of {h : Heap} {l : Addr} {fs : Array Value} {c : Nat} (e : h.get? l = some (W.listOf fs c)) : h.IsList l fs := ⟨_, e, rfl, c, rfl⟩
theorem sl1 {base h : Heap} {L l : Addr} {m : Str → Option Value} {items : Array Value} (F : Fr base L h m := by assumption) (x : base.IsList l items := by assumption) : h.IsList l items := stays_list F.keep x
theorem sl2 {base b₁ h : Heap} {L L₁ l : Addr} {m m₁ : Str → Option Value} {items : Array Value} (F : Fr b₁ L h m := by assumption) (G : Fr base L₁ b₁ m₁ := by assumption) (x : base.IsList l items := by assumption) : h.IsList l items := stays_list F.keep (stays_list G.keep x)
theorem ints_of_list {h : Heap} {l : Addr} {fs : List Value} {n : Int} {t : Tok} {ns : List Int} (_h : h.IsList l (fs ++ [Value.int n t]).toArray) (hi : IntsAre fs ns) : IntsAre (fs ++ [.int n t]) (ns ++ [n]) :=
  IntsAre.append hi (.cons n t .nil)
theorem paired_intsF {f : Int → Int} {vs ys : List Value} {ns : List Int} (hv : IntsAre vs ns) (hP : Paired (fun v y => ∃ i t t', v = Value.int i t ∧ y = Value.int (f i) t') vs ys) : IntsAre ys (ns.map f) := by
  induction hv generalizing ys with
  | nil => cases hP; exact .nil
  | cons n t _ ih =>
    cases hP with
    | cons h r =>
      obtain ⟨i, t1, t2, e1, rfl⟩ := h
      cases e1
      exact .cons _ _ (ih r)
theorem filter_true (vs : List Value) : vs.filter (fun _ => true) = vs := List.filter_eq_self.mpr fun _ _ => rfl
theorem range_push {r : Addr} {fs₀ : List Value} {a₀ b₀ : Int} {t₀ u₀ v₀ : Tok} {n : Nat} {m₀ : Str → Option Value} {l : Addr} {c₀ : Nat} {rest : List (Addr × Obj)} (stored : List Str) (P : List Int → List Value → Prop)
    (hh : A.handled = none) (hr : IsRange s.heap r a₀ b₀ 1 t₀ u₀ v₀) (hsmall : Builtin.Range.small a₀ b₀ 1 = true) (hn : Builtin.Range.rangeSize a₀ b₀ 1 = (n : Int)) (F : Fr h₀ env.locals s.heap m₀) (N : News h₀ env.locals s.heap ((l, W.listOf fs₀.toArray c₀) :: rest)) (hp : P [] fs₀)
    (turn : ∀ fs c (pre : List Int) (k : Int) t (u : Str → Option Value) h tk own, k = a₀ + (pre.length : Int) → pre.length < n → OwnOff own (l :: rest.map (·.1)) → P pre fs →
      Fr h₀ env.locals h (fun y => if y = x then some (.int k t) else if stored.contains y then u y else m₀ y) → News h₀ env.locals h ((l, W.listOf fs.toArray c) :: (rest ++ own)) →
      wpAny (model prog w) A (execs body env) (PushEnd h₀ env.locals x stored m₀ l rest own P (pre ++ [k]) { s with heap := h, toks := tk } Q) E { s with heap := h, toks := tk })
    (done : ∀ fs c (u : Str → Option Value) h tk, P (rangeKs a₀ n) fs → Fr h₀ env.locals h (fun y => if y = x then u y else if stored.contains y then u y else m₀ y) → News h₀ env.locals h ((l, W.listOf fs.toArray c) :: rest) → Q .next { s with heap := h, toks := tk }) :
    wpAny (model prog w) A (pyIter (.ref r)) (fun it s₂ => LoopAtV prog w A h₀ env x body Q E it s₂) E s := by
  refine kst_range (σ := List Value × Nat) (fun c => (l, W.listOf c.1.toArray c.2) :: rest) (fun _ => []) (fun _ => True) stored (fun pre c => P pre c.1) (fs₀, c₀) hh hr hsmall hn F N True.intro (fun _ hp => nomatch hp) hp ?_ ?_
  · intro c pre k t u h tk own hk hlt hoff _ hP F₁ N₁
    refine wpAny_mono (turn c.1 c.2 pre k t u h tk own hk hlt hoff hP F₁ N₁) (fun f s₂ p => ?_) fun _ _ x => x
    have fin : PushEnd h₀ env.locals x stored m₀ l rest own P (pre ++ [k]) { s with heap := h, toks := tk } Q .next s₂ →
        InvEndN h₀ env.locals (KstS (fun c : List Value × Nat => (l, W.listOf c.1.toArray c.2) :: rest) (fun _ => []) (fun _ => True) x stored m₀ (fun pre c => P pre c.1) (pre ++ [k])) own (((l, W.listOf fs₀.toArray c₀) :: rest).map (·.1)) { s with heap := h, toks := tk } s₂ := by
      rintro ⟨h', tk', m', fs, c', news', rfl, F', N', hs, hm, hp'⟩
      refine kst_end (fs, c') F' N' (fun p hp => hs p ?_) (fun p hp => hs p (List.mem_cons_of_mem _ (List.mem_append_right _ hp))) rfl True.intro (fun _ hp => nomatch hp) (fun z hz _ hc => hm z hz hc) hp'
      rcases List.mem_cons.mp hp with rfl | hp
      · exact List.mem_cons_self
      · exact List.mem_cons_of_mem _ (List.mem_append_left _ hp)
    cases f with
    | ret v => exact p
    | brk => exact p
    | next => exact fin p
    | cont => exact fin p
  · intro c u h tk _ hP F₁ N₁
    exact done c.1 c.2 u h tk hP F₁ N₁
end
theorem ownOff_both {a b : List (Addr × Obj)} {l : Addr} {x y : List Addr} (h1 : OwnOff a (l :: x)) (h2 : OwnOff b (l :: y)) : OwnOff (a ++ b) [l] := fun p hp q hq => by
  rw [List.mem_singleton.mp hq]
  rcases List.mem_append.mp hp with h | h
  · exact h1 p h l (List.Mem.head _)
  · exact h2 p h l (List.Mem.head _)
theorem FlAre.snoc' {vs : List Value} {α : Type} {pre : List α} {f : α → UInt64} {x : α} {b : UInt64} {t : Tok} (h : FlAre vs (pre.map f)) (e : b = f x) : FlAre (vs ++ [.float b t]) ((pre ++ [x]).map f) := by
  subst e; rw [List.map_append]; exact h.snoc _ t
theorem mul_bnds {a b A B : Int} (h1 : 0 ≤ a) (h2 : a ≤ A) (h3 : 0 ≤ b) (h4 : b ≤ B) : 0 ≤ a * b ∧ a * b ≤ A * B :=
  ⟨Int.mul_nonneg h1 h3, Int.mul_le_mul h2 h4 h3 (Int.le_trans h1 h2)⟩
theorem num_bnd {a b x y : Int} (ha : -1000000 ≤ a ∧ a ≤ 1000000) (hb : -1000000 ≤ b ∧ b ≤ 1000000) (hx : -1000 ≤ x ∧ x ≤ 1000) (hy : -1000 ≤ y ∧ y ≤ 1000) : (a * x + b * y).natAbs < 2 ^ 1023 := by
  have h1 : (a * x).natAbs ≤ 1000000 * 1000 := by rw [Int.natAbs_mul]; exact Nat.mul_le_mul (by omega) (by omega)
  have h2 : (b * y).natAbs ≤ 1000000 * 1000 := by rw [Int.natAbs_mul]; exact Nat.mul_le_mul (by omega) (by omega)
  have h3 := Int.natAbs_add_le (a * x) (b * y)
  have h4 : (2000000000 : Nat) < 2 ^ 1023 := by decide
  omega
theorem num_side {a b i k j N : Int} (ha : -1000000 ≤ a ∧ a ≤ 1000000) (hb : -1000000 ≤ b ∧ b ≤ 1000000) (hi : 0 ≤ i) (hi2 : i ≤ 10) (hk : 0 ≤ k) (hk2 : k ≤ 10) (hj : 0 ≤ j) (hj2 : j ≤ 10) (hN : -1 ≤ N) (hN2 : N ≤ 9) :
    (a * (k - (i * (N + 1) - j * k)) + b * (i * (N + 1) - j * k)).natAbs < 2 ^ 1023 := by
  have h1 := mul_bnds hi hi2 (b := N + 1) (B := 10) (by omega) (by omega)
  have h2 := mul_bnds hj hj2 hk hk2
  exact num_bnd ha hb (by omega) (by omega)
noncomputable def jin (len n i : Int) : Int := Int.fdiv (i * (len - 1)) n
noncomputable def din (len n i : Int) : Int := Int.fmod (i * (len - 1)) n
noncomputable def qin (d : List Int) (n i : Int) : UInt64 :=
  fq (d.getD (jin d.length n i).toNat 0 * (n - din d.length n i) + d.getD (jin d.length n i + 1).toNat 0 * din d.length n i) n
theorem jin_bnd {i k N : Int} (hi : 0 ≤ i) (hik : i < k) (hN : 2 ≤ N) : 0 ≤ Int.fdiv (i * (N - 1)) k ∧ Int.fdiv (i * (N - 1)) k + 1 < N ∧ 0 ≤ Int.fmod (i * (N - 1)) k ∧ Int.fmod (i * (N - 1)) k < k := by
  have hk : 0 < k := by omega
  rw [Int.fdiv_eq_ediv_of_nonneg _ (Int.le_of_lt hk), Int.fmod_eq_emod_of_nonneg _ (Int.le_of_lt hk)]
  have h0 : 0 ≤ i * (N - 1) := Int.mul_nonneg hi (by omega)
  have h1 : i * (N - 1) < (N - 1) * k := by
    rw [Int.mul_comm (N - 1) k]; exact Int.mul_lt_mul_of_pos_right hik (by omega)
  have h2 := Int.ediv_lt_of_lt_mul hk h1
  exact ⟨Int.ediv_nonneg h0 (Int.le_of_lt hk), by omega, Int.emod_nonneg _ (by omega), Int.emod_lt_of_pos _ hk⟩
theorem perm_one {a b : List Int} (p : a.Perm b) (h : b.length = 1) : a = [b.getD 0 0] := by
  match b, h with
  | [x], _ => exact List.perm_singleton.mp p
theorem fdiv2 (n : Nat) : Int.fdiv (n : Int) 2 = ((n / 2 : Nat) : Int) := by
  rw [Int.fdiv_eq_ediv_of_nonneg _ (by decide)]; omega
theorem fmod2 (n : Nat) : Int.fmod (n : Int) 2 = ((n % 2 : Nat) : Int) := by
  rw [Int.fmod_eq_emod_of_nonneg _ (by decide)]; rfl
theorem odd_of {n m : Nat} (e : n = m) (h : Int.fmod (n : Int) 2 = 1) : m % 2 = 1 := by
  subst e; rw [fmod2] at h; exact Int.ofNat.inj h
theorem even_of {n m : Nat} (e : n = m) (h : Int.fmod (n : Int) 2 ≠ 1) : m % 2 = 0 := by
  subst e; rw [fmod2] at h; exact (Nat.mod_two_eq_zero_or_one n).resolve_right fun z => h (by rw [z]; rfl)
theorem half_odd {n : Nat} (h : n % 2 = 1) : (n - 1) / 2 = n / 2 := by
  have e := Nat.div_add_mod n 2
  rw [h] at e
  generalize n / 2 = m at e ⊢
  subst e
  exact Nat.mul_div_cancel_left m (by decide)
theorem half_even {n : Nat} (hn : 0 < n) (h : n % 2 = 0) : (n - 1) / 2 = n / 2 - 1 := by
  have e := Nat.div_add_mod n 2
  rw [h] at e
  generalize n / 2 = m at e ⊢
  subst e
  cases m with
  | zero => exact absurd hn (by decide)
  | succ q => exact Nat.mul_add_div (by decide) q 1
theorem half_pred (n : Nat) : (((n / 2 : Nat) : Int) - 1).toNat = n / 2 - 1 := Int.toNat_sub (n / 2) 1
theorem sum_bnd {a b : Int} (ha : -1000000 ≤ a ∧ a ≤ 1000000) (hb : -1000000 ≤ b ∧ b ≤ 1000000) : (a + b).natAbs < 2 ^ 1023 := by
  have h4 : (2000000000 : Nat) < 2 ^ 1023 := by decide
  omega
theorem wp_node {α : Type} {M : Model} {A : Around} {E : Value → Shared → Prop} {s : Shared} {Q : α → Shared → Prop} {a : Addr} {q : Option Value} {k : Obj → Sem α} {o : Obj} (ho : s.heap.get? a = some o) (h : wpAny M A (k o) Q E s) : wpAny M A (Sem.load a q k) Q E s :=
  wpAny_bind (m := loadPart a q) (f := k) (wpAny_loadPart ho h)
theorem wp_nodeA {α : Type} {M : Model} {A : Around} {E : Value → Shared → Prop} {s : Shared} {Q : α → Shared → Prop} {a L : Addr} {q : Option Value} {k : Obj → Sem α} {o : Obj} {K : Frag} {h₀ : Heap} {m : Str → Option Value} (h : wpAny M A (k o) Q E s)
    (X : K.In h₀ := by k_asm) (F : Fr h₀ L s.heap m := by k_asm) (ho : K.lookup a = some o := by k_is) : wpAny M A (Sem.load a q k) Q E s := wp_node (X.keeps F.keep _ _ ho) h
theorem at_iter {M : Model} {A : Around} {E : Value → Shared → Prop} {s : Shared} {Q} {a : Addr} (h : wpAny M A (pyIter (.ref a)) Q E s) : wpAny M A (pyIter (.ref a)) Q E s := h
theorem at_lc {M : Model} {A : Around} {E : Value → Shared → Prop} {s : Shared} {Q} {a b c d env} (h : wpAny M A (eval (.ListComp a b c d) env) Q E s) : wpAny M A (eval (.ListComp a b c d) env) Q E s := h
theorem at_whl {M : Model} {A : Around} {E : Value → Shared → Prop} {s : Shared} {Q} {a b c d env} (h : wpAny M A (exec (.While a b c d) env) Q E s) : wpAny M A (exec (.While a b c d) env) Q E s := h
theorem at_cname {M : Model} {A : Around} {E : Value → Shared → Prop} {s : Shared} {Q} {a b sc cl C env} (h : wpAny M A (eval (.Name a b) (compEnvC sc cl C env)) Q E s) : wpAny M A (eval (.Name a b) (compEnvC sc cl C env)) Q E s := h
theorem at_call {M : Model} {A : Around} {E : Value → Shared → Prop} {s : Shared} {Q} {f : Addr} {a k} (h : wpAny M A (call (.ref f) a k) Q E s) : wpAny M A (call (.ref f) a k) Q E s := h
theorem at_next {M : Model} {A : Around} {E : Value → Shared → Prop} {s : Shared} {Q} {f : Addr} (h : wpAny M A (call (.builtin "next") [.ref f]) Q E s) : wpAny M A (call (.builtin "next") [.ref f]) Q E s := h
section
variable {prog : Program} {w : World} {A : Around} {E : Value → Shared → Prop} {s : Shared} {env : Env} {h₀ : Heap} {L : Addr} {m : Str → Option Value} {news : List (Addr × Obj)}
theorem plain_at {h : Heap} {D : Addr} {ys : Array Value} (x : h.PlainList D ys) : ∃ n, h.get? D = some (W.listOf ys n) := x
theorem paired_filter_all {vs : List Value} {p : Value → Bool} (h : ∀ v ∈ vs, p v = true) : vs.filter p = vs := List.filter_eq_self.mpr h
noncomputable def CompIt (prog : Program) (w : World) (A : Around) (env : Env) (elt : Expr) (x : Str) (ifs : List Expr) (scope : Scope) (cl : List (Str × Addr)) (p : Value → Bool) (F : Value → Value → Prop) (Q : Value → Shared → Prop) (it : Value) (s₂ : Shared) : Prop :=
  ∃ I fp wr n P St, it = .ref I ∧ Walks prog w A I fp wr n P St ∧ n ≤ sizeLine ∧ St 0 s₂.heap ∧ (∀ b ∈ fp, b < s₂.heap.objs.size) ∧
      QuietOnC prog w A env scope cl x ifs elt wr P p F s₂ ∧
      (∀ D h' tk ys (vs : List Value), s₂.heap.get? D = none → h'.IsList D ys → h'.PlainList D ys → vs.length = n → (∀ j v, vs[j]? = some v → P j v) → Paired F (vs.filter p) ys.toList →
        (∀ b o, b ∉ wr → s₂.heap.get? b = some o → h'.get? b = some o) → Q (.ref D) { s₂ with heap := h', toks := tk })
theorem comp_free {elt iter : Expr} {x : Str} {px : Pos} {ifs : List Expr} {scope : Scope} {cl : List (Str × Addr)} {pos : Pos} {Q : Value → Shared → Prop} (p : Value → Bool) (F : Value → Value → Prop)
    (hclos : closureFor scope env = pure cl) (hcell : ∀ y ∈ scope.names, y.2 ≠ .cell) (hkind : scope.kind = .function)
    (hnames : ∀ y ∈ scope.names, y.2 = .local → scope.names.lookup y.1 = some .local) (hx : scope.names.lookup x = some .local)
    (h : wpAny (model prog w) A (eval iter env) (fun xv s₁ => wpAny (model prog w) A (pyIter xv) (CompIt prog w A env elt x ifs scope cl p F Q) E s₁) E s)
    (hs : ∀ x, foldedSetIterable iter env x = pure x := by intro _; rfl) :
    wpAny (model prog w) A (eval (.ListComp elt [⟨.Name x px, iter, ifs, 0⟩] scope pos) env) Q E s :=
  wpAny_ListComp_free p F hclos hcell hkind hnames hx h hs
theorem comp_tail {oI : Obj} {D : Addr} {h' : Heap} {n : Nat} {ys : List Value} (FR : Fr h₀ L s.heap m) (NW : News h₀ L s.heap news) (hD : (s.heap.push oI).get? D = none) (hn : h'.get? D = some (W.listOf ys.toArray n))
    (hk : ∀ b o, b ∉ [s.heap.objs.size] → (s.heap.push oI).get? b = some o → h'.get? b = some o) :
    Fr h₀ L h' m ∧ News h₀ L h' ((D, W.listOf ys.toArray n) :: news) ∧ (∀ q ∈ news, q.1 ≠ D) ∧ s.heap.StaysIn h' := by
  have up : ∀ b o, s.heap.get? b = some o → (s.heap.push oI).get? b = some o := fun b o e => Heap.get?_push_of_some _ e
  have ne : ∀ b o, s.heap.get? b = some o → b ∉ [s.heap.objs.size] := fun b o e hm => Nat.lt_irrefl _ ((List.mem_singleton.mp hm) ▸ Heap.lt_size e)
  have st : s.heap.StaysIn h' := fun b o e => hk b o (ne b o e) (up b o e)
  have nD : ∀ b o, s.heap.get? b = some o → b ≠ D := fun b o e q => by
    have z := up b o e
    rw [q, hD] at z; cases z
  obtain ⟨oL, _, _, hoL, _⟩ := FR.ns
  refine ⟨FR.keeps st, fun q hq => ?_, fun q hq => nD _ _ (NW q hq).1, st⟩
  rcases List.mem_cons.mp hq with rfl | hq
  · refine ⟨hn, Ne.symm (nD _ _ hoL), ?_⟩
    cases e : h₀.get? D with
    | none => rfl
    | some o => exact absurd rfl (nD D o (FR.keep _ _ e))
  · exact ⟨st _ _ (NW q hq).1, (NW q hq).2⟩
theorem comp_iter_list {elt : Expr} {x : Str} {ifs : List Expr} {scope : Scope} {cl : List (Str × Addr)} {Q : Value → Shared → Prop} {l : Addr} {items : Array Value} {p : Value → Bool} {F : Value → Value → Prop}
    (hh : A.handled = none) (FR : Fr h₀ L s.heap m) (NW : News h₀ L s.heap news) (hl : s.heap.IsList l items) (hsz : items.size ≤ sizeLine)
    (tests : ∀ C v s₃ m₃ E', v ∈ items.toList → s₃.heap.Ns C m₃ → m₃ x = some v → s.heap.StaysIn s₃.heap →
      wpAny (model prog w) A (forIn ifs true fun c r => if r = true then do let ok ← isTrue c (compEnvC scope cl C env) (eval c (compEnvC scope cl C env)); pure (ForInStep.yield ok) else pure (ForInStep.yield r))
        (fun ok s₄ => ok = p v ∧ Keeps s₃ s₄) E' s₃)
    (elt_ : ∀ C v s₃ m₃ E', v ∈ items.toList → p v = true → s₃.heap.Ns C m₃ → m₃ x = some v → s.heap.StaysIn s₃.heap →
      wpAny (model prog w) A (eval elt (compEnvC scope cl C env)) (fun y s₄ => F v y ∧ Keeps s₃ s₄) E' s₃)
    (done : ∀ D h' tk (ys : List Value) n, Fr h₀ L h' m → News h₀ L h' ((D, W.listOf ys.toArray n) :: news) → (∀ q ∈ news, q.1 ≠ D) → s.heap.StaysIn h' → Paired F (items.toList.filter p) ys → Q (.ref D) { s with heap := h', toks := tk }) :
    wpAny (model prog w) A (pyIter (.ref l)) (CompIt prog w A env elt x ifs scope cl p F Q) E s := by
  refine wpAny_pyIter_list hl ?_
  have hlt : l < s.heap.objs.size := by obtain ⟨_, e, _⟩ := hl; exact Heap.lt_size e
  have up : ∀ b o, s.heap.get? b = some o → (s.heap.push { cls := .type "list_iterator", data := .fields #[.ref l, .int 0 0] }).get? b = some o := fun b o e => Heap.get?_push_of_some _ e
  have ne : ∀ b o, s.heap.get? b = some o → b ∉ [s.heap.objs.size] := fun b o e hm => Nat.lt_irrefl _ ((List.mem_singleton.mp hm) ▸ Heap.lt_size e)
  unfold CompIt
  refine ⟨s.heap.objs.size, _, [s.heap.objs.size], items.size, _, _, rfl, Walks.list hh s.heap.objs.size l (Nat.ne_of_lt hlt) items, hsz, ⟨⟨_, Heap.get?_push_size _ rfl, rfl, rfl⟩, hl.push _⟩, (fun b hb => ?_), ⟨?_, ?_⟩, ?_⟩
  · show b < (s.heap.push _).objs.size
    rw [Heap.size_push]
    rcases List.mem_cons.mp hb with rfl | hb
    · exact Nat.lt_succ_self _
    · rw [List.mem_singleton.mp hb]; exact Nat.lt_succ_of_lt hlt
  · intro C i v s₃ m₃ E' _ hv hn hm hk _
    have hv' : v ∈ items.toList := by
      have hv2 : items[i]? = some v := hv
      exact Array.mem_toList_iff.mpr (Array.mem_of_getElem? hv2)
    exact tests C v s₃ m₃ E' hv' hn hm fun b o e => hk b o (ne b o e) (up b o e)
  · intro C i v s₃ m₃ E' _ hv hp hn hm hk _
    have hv' : v ∈ items.toList := by
      have hv2 : items[i]? = some v := hv
      exact Array.mem_toList_iff.mpr (Array.mem_of_getElem? hv2)
    exact elt_ C v s₃ m₃ E' hv' hp hn hm fun b o e => hk b o (ne b o e) (up b o e)
  · intro D h' tk ys vs hD hl' hpl hlen hP hF hk
    obtain ⟨n, hn⟩ := plain_at hpl
    obtain ⟨r1, r2, r3, r4⟩ := comp_tail (ys := ys.toList) FR NW hD (by simpa using hn) hk
    refine done D h' tk ys.toList n r1 r2 r3 r4 ?_
    have e : vs = items.toList := by
      have hP' : ∀ (j : Nat) (v : Value), vs[j]? = some v → items[j]? = some v := hP
      exact list_of_places hlen hP'
    rw [← e]; exact hF
theorem ints_list {a : Int} : ∀ {vs : List Value} {n : Nat}, vs.length = n → (∀ (j : Nat) (v : Value), vs[j]? = some v → ∃ t, v = .int (a + (j : Int)) t) → IntsAre vs (rangeKs a n) := by
  intro vs n hlen hP
  subst hlen
  induction vs generalizing a with
  | nil => exact .nil
  | cons v r ih =>
    obtain ⟨t, rfl⟩ := hP 0 v rfl
    have e : rangeKs a (Value.int (a + ((0 : Nat) : Int)) t :: r).length = (a + ((0 : Nat) : Int)) :: rangeKs (a + 1) r.length := by
      unfold rangeKs
      rw [List.length_cons, List.range_succ_eq_map, List.map_cons, List.map_map]
      congr 1
      apply List.map_congr_left
      intro i _
      simp only [Function.comp_apply]
      omega
    rw [e]
    refine .cons _ _ (ih (a := a + 1) fun j v hv => ?_)
    obtain ⟨t', rfl⟩ := hP (j + 1) v (by simpa using hv)
    exact ⟨t', by congr 1; omega⟩
theorem comp_iter_range {elt : Expr} {x : Str} {ifs : List Expr} {scope : Scope} {cl : List (Str × Addr)} {Q : Value → Shared → Prop} {r : Addr} {a b : Int} {t u v : Tok} {n : Nat} {p : Value → Bool} {F : Value → Value → Prop}
    (hh : A.handled = none) (FR : Fr h₀ L s.heap m) (NW : News h₀ L s.heap news) (hr : IsRange s.heap r a b 1 t u v) (hsm : Builtin.Range.small a b 1 = true) (hn : Builtin.Range.rangeSize a b 1 = ((n : Nat) : Int)) (hsz : n ≤ sizeLine)
    (tests : ∀ C i t s₃ m₃ E', i < n → s₃.heap.Ns C m₃ → m₃ x = some (.int (a + (i : Int)) t) → s.heap.StaysIn s₃.heap →
      wpAny (model prog w) A (forIn ifs true fun c r => if r = true then do let ok ← isTrue c (compEnvC scope cl C env) (eval c (compEnvC scope cl C env)); pure (ForInStep.yield ok) else pure (ForInStep.yield r))
        (fun ok s₄ => ok = p (.int (a + (i : Int)) t) ∧ Keeps s₃ s₄) E' s₃)
    (elt_ : ∀ C i t s₃ m₃ E', i < n → p (.int (a + (i : Int)) t) = true → s₃.heap.Ns C m₃ → m₃ x = some (.int (a + (i : Int)) t) → s.heap.StaysIn s₃.heap →
      wpAny (model prog w) A (eval elt (compEnvC scope cl C env)) (fun y s₄ => F (.int (a + (i : Int)) t) y ∧ Keeps s₃ s₄) E' s₃)
    (done : ∀ D h' tk (vs ys : List Value) n', IntsAre vs (rangeKs a n) → Fr h₀ L h' m → News h₀ L h' ((D, W.listOf ys.toArray n') :: news) → (∀ q ∈ news, q.1 ≠ D) → s.heap.StaysIn h' → Paired F (vs.filter p) ys → Q (.ref D) { s with heap := h', toks := tk }) :
    wpAny (model prog w) A (pyIter (.ref r)) (CompIt prog w A env elt x ifs scope cl p F Q) E s := by
  refine wpAny_pyIter_range hr hsm ?_
  have up : ∀ o b o', s.heap.get? b = some o' → (s.heap.push o).get? b = some o' := fun o b o' e => Heap.get?_push_of_some _ e
  have ne : ∀ b o, s.heap.get? b = some o → b ∉ [s.heap.objs.size] := fun b o e hm => Nat.lt_irrefl _ ((List.mem_singleton.mp hm) ▸ Heap.lt_size e)
  have W : Walks prog w A s.heap.objs.size [s.heap.objs.size] [s.heap.objs.size] n (fun i v => i < n ∧ ∃ t, v = .int (a + i * 1) t)
      (fun i h => IsRangeIter h s.heap.objs.size (a + (i : Nat) * 1) ((n : Int) - (i : Nat)) 1) := (Walks.range hh _ a 1 n).bound
  unfold CompIt
  refine ⟨s.heap.objs.size, _, [s.heap.objs.size], n, _, _, rfl, W, hsz, (by show IsRangeIter _ _ _ _ _; rw [hn]; simpa using Heap.get?_push_size _ rfl), (fun b hb => ?_), ⟨?_, ?_⟩, ?_⟩
  · rw [List.mem_singleton.mp hb]
    show s.heap.objs.size < (s.heap.push _).objs.size
    rw [Heap.size_push]; exact Nat.lt_succ_self _
  · rintro C i v s₃ m₃ E' _ ⟨hi, t, rfl⟩ hn' hm hk _
    rw [Int.mul_one] at hm ⊢
    exact tests C i t s₃ m₃ E' hi hn' hm fun b o e => hk b o (ne b o e) (up _ b o e)
  · rintro C i v s₃ m₃ E' _ ⟨hi, t, rfl⟩ hp hn' hm hk _
    rw [Int.mul_one] at hm hp ⊢
    exact elt_ C i t s₃ m₃ E' hi hp hn' hm fun b o e => hk b o (ne b o e) (up _ b o e)
  · intro D h' tk ys vs hD hl' hpl hlen hP hF hk
    obtain ⟨n', hn'⟩ := plain_at hpl
    obtain ⟨r1, r2, r3, r4⟩ := comp_tail (ys := ys.toList) FR NW hD (by simpa using hn') hk
    refine done D h' tk vs ys.toList n' (ints_list hlen fun j v hv => ?_) r1 r2 r3 r4 hF
    obtain ⟨_, t, e⟩ := hP j v hv
    exact ⟨t, by rw [e, Int.mul_one]⟩
end
section
variable {prog : Program} {w : World} {M : Model} {A : Around} {E : Value → Shared → Prop} {s : Shared} {Q : Value → Shared → Prop}
theorem type_list {l : Addr} {items : Array Value} (hq : Q (.type "list") s) (hl : s.heap.IsList l items := by is_list) : wpAny (model prog w) A (call (.type "type") [.ref l]) Q E s := by
  obtain ⟨o, ho, hc, _⟩ := hl
  exact kto_cont (T := "list") ⟨o, ho, hc⟩ (by decide +kernel) hq
theorem type_int {a : Int} {t : Tok} (hq : Q (.type "int") s) : wpAny (model prog w) A (call (.type "type") [.int a t]) Q E s :=
  PySem.call_type_of (typeIs_int s a t) (by decide +kernel) hq
theorem type_float {a : UInt64} {t : Tok} (hq : Q (.type "float") s) : wpAny (model prog w) A (call (.type "type") [.float a t]) Q E s :=
  PySem.call_type_of (AutoFloatOps.typeIs_float s a t) (by decide +kernel) hq
theorem item_list {prog : Program} {w : World} {value slice : PySem.Expr} {l : Addr} {vs : List Value} {k : Int} {u : Tok} {v : Value}
    (hl : s.heap.IsList l vs.toArray) (h0 : 0 ≤ k) (hhi : k < 2 ^ 63) (hx : vs[k.toNat]? = some v) (h : Q v s)
    (hs : subscripted slice false (.ref l) (.int k u) = operate [.ref l, .int k u] (getItem (.ref l) (.int k u)) := by with_unfolding_all rfl) :
    wpAny (model prog w) A (subscriptTail value slice (.ref l) (.int k u)) Q E s :=
  tail_any hl.typeIs slot_list_getitem.lookup (wpAny_getItem_list hl h0 hhi (by simpa using hx) h) hs
theorem ints_at {vs : List Value} {ns : List Int} (hi : IntsAre vs ns) {j : Nat} (hj : j < ns.length) : ∃ t, vs[j]? = some (.int (ns.getD j 0) t) := by
  have e : ns.getD j 0 = ns[j] := by simp [hj]
  rw [e]; exact hi.get j ns[j] (by simp [hj])
theorem len_plain {prog : Program} {w : World} {l : Addr} {vs : List Value} (hl : s.heap.IsList l vs.toArray) (h64 : vs.length < 1000) (h : Q (.int vs.length (s.toks + 1)) { s with toks := s.toks + 1 + 1 }) :
    wpAny (model prog w) A (call (.builtin "len") [.ref l]) Q E s := by
  refine len_list hl (by rw [List.size_toArray]; omega) ?_
  rw [List.size_toArray]; exact h
theorem len_0 {prog : Program} {w : World} {l L : Addr} {vs : List Value} {h₀ : Heap} {c : Nat} {r : List (Addr × Obj)} (h : Q (.int vs.length (s.toks + 1)) { s with toks := s.toks + 1 + 1 }) (N : News h₀ L s.heap ((l, W.listOf vs.toArray c) :: r) := by assumption) (h64 : vs.length < 1000 := by omega) :
    wpAny (model prog w) A (call (.builtin "len") [.ref l]) Q E s := len_plain (isList_of (N _ (List.Mem.head _)).1) h64 h
theorem len_1 {prog : Program} {w : World} {l L : Addr} {vs : List Value} {h₀ : Heap} {c : Nat} {p : Addr × Obj} {r : List (Addr × Obj)} (h : Q (.int vs.length (s.toks + 1)) { s with toks := s.toks + 1 + 1 }) (N : News h₀ L s.heap (p :: (l, W.listOf vs.toArray c) :: r) := by assumption) (h64 : vs.length < 1000 := by omega) :
    wpAny (model prog w) A (call (.builtin "len") [.ref l]) Q E s := len_plain (isList_of (N _ (List.Mem.tail _ (List.Mem.head _))).1) h64 h
theorem nm_local {env : Env} {scope : Scope} {cl : List (Str × Addr)} {C : Addr} {m₃ : Str → Option Value} {x : Str} {pos : Pos} {v : Value} (h : Q v s) (hn : s.heap.Ns C m₃ := by assumption) (hx : m₃ x = some v := by assumption)
    (hk : (compEnvC scope cl C env).scope.kind = .function := by rfl) (hl : (compEnvC scope cl C env).kindOf x = some .local := by rfl) (hb : (x == ("__debug__" : Str)) = false := by decide) :
    wpAny M A (eval (.Name x pos) (compEnvC scope cl C env)) Q E s := wpAny_Name (wpAny_loadName_local hk hl hn hx h) hb
theorem nm_cell {env : Env} {scope : Scope} {cl : List (Str × Addr)} {C c : Addr} {x : Str} {pos : Pos} {v : Value} {o : Obj} (h : Q v s) (hc : cl.lookup x = some c := by rfl) (ho : s.heap.get? c = some o := by assumption) (hd : o.data = .cell (some v) := by assumption)
    (hk : (compEnvC scope cl C env).scope.kind = .function := by rfl) (hx : (compEnvC scope cl C env).kindOf x = some .cell := by rfl) (hb : (x == ("__debug__" : Str)) = false := by decide) :
    wpAny M A (eval (.Name x pos) (compEnvC scope cl C env)) Q E s := wpAny_Name (wpAny_loadName_cell hk hx hc ⟨o, ho, hd⟩ h) hb
theorem nm_free {env : Env} {scope : Scope} {cl : List (Str × Addr)} {C c : Addr} {x : Str} {pos : Pos} {v : Value} {o : Obj} (h : Q v s) (hc : cl.lookup x = some c := by rfl) (ho : s.heap.get? c = some o := by assumption) (hd : o.data = .cell (some v) := by assumption)
    (hk : (compEnvC scope cl C env).scope.kind = .function := by rfl) (hx : (compEnvC scope cl C env).kindOf x = some .free := by rfl) (hb : (x == ("__debug__" : Str)) = false := by decide) (hn : (x == ("__classdict__" : Str)) = false := by decide) :
    wpAny M A (eval (.Name x pos) (compEnvC scope cl C env)) Q E s := wpAny_Name (wpAny_loadName_free hk hx hc ⟨o, ho, hd⟩ h hn) hb
theorem keeps_refl (s : Shared) : Keeps s s := ⟨s.heap, s.toks, rfl, fun _ _ e => e⟩
theorem keeps_toks (s : Shared) (t : Nat) : Keeps s { s with toks := t } := ⟨s.heap, t, rfl, fun _ _ e => e⟩
end
section
open SeqAt
theorem eqAt_fi {A : Around} {s : Shared} {a : UInt64} {n : Int} {t u : Tok} (h : (Float64.cmpInt a n == some Ordering.eq) = true) : EqAt A s (.float a t) (.int n u) true := fun prog w E Q hq => by
  unfold eqBool
  refine wpAny_holding ?_
  refine wpAny_ite_split (fun hab => absurd (eq_of_beq hab) (by intro x; cases x)) (fun _ => ?_)
  exact wpAny_bind (show wpAny _ _ (richCompare .Eq (.float a t) (.int n u)) _ _ _ from PyProof.Rows.eq_fi (by rw [h]; exact wpAny_truthy_bool hq))
theorem eqAt_ii {A : Around} {s : Shared} {n : Int} {t u : Tok} : EqAt A s (.int n t) (.int n u) true := fun prog w E Q hq => wpAny_eqBool_int (by simpa using hq)
inductive Told : String → List Value → List Value → Prop
  | nil {k} : Told k [] []
  | int (n : Int) (t u : Tok) {vs us} : Told "int" vs us → Told "int" (.int n t :: vs) (.int n u :: us)
  | flt (a : UInt64) (n : Int) (t u : Tok) {vs us} : (Float64.cmpInt a n == some Ordering.eq) = true → Told "float" vs us → Told "float" (.float a t :: vs) (.int n u :: us)
theorem Told.length {k vs us} (h : Told k vs us) : vs.length = us.length := by
  induction h with
  | nil => rfl
  | int _ _ _ _ ih => simp [ih]
  | flt _ _ _ _ _ _ ih => simp [ih]
theorem Told.eqAt {A : Around} {s : Shared} {k vs us} (h : Told k vs us) : ∀ j (h1 : j < vs.length) (h2 : j < us.length), EqAt A s vs[j] us[j] true := by
  induction h with
  | nil => intro j h1; exact absurd h1 (Nat.not_lt_zero _)
  | int n t u _ ih =>
    intro j h1 h2
    cases j with
    | zero => exact eqAt_ii
    | succ j => exact ih j (by simpa using h1) (by simpa using h2)
  | flt a n t u e _ ih =>
    intro j h1 h2
    cases j with
    | zero => exact eqAt_fi e
    | succ j => exact ih j (by simpa using h1) (by simpa using h2)
theorem Told.kind {k vs us} (h : Told k vs us) : ∀ v ∈ vs, (k = "int" ∧ ∃ n t, v = .int n t) ∨ (k = "float" ∧ ∃ a t, v = .float a t) := by
  induction h with
  | nil => intro v hv; cases hv
  | int n t u _ ih =>
    intro v hv
    rcases List.mem_cons.mp hv with rfl | hv
    · exact .inl ⟨rfl, n, t, rfl⟩
    · exact ih v hv
  | flt a n t u e _ ih =>
    intro v hv
    rcases List.mem_cons.mp hv with rfl | hv
    · exact .inr ⟨rfl, a, t, rfl⟩
    · exact ih v hv
theorem told_eq {prog : Program} {w : World} {A : Around} {E : Value → Shared → Prop} {s : Shared} {Q : Value → Shared → Prop} {l b : Addr} {vs us : List Value} {k : String} (hl : s.heap.IsList l vs.toArray) (hb : s.heap.IsList b us.toArray) (h : Told k vs us) (hu : A.units < cLine) (hq : Q (.bool true) s) :
    wpAny (model prog w) A (compareOp .Eq (.ref l) (.ref b)) Q E s := by
  have e : ((List.range vs.toArray.size).all fun _ => true) = true := by simp
  exact RcAt.lists (e := fun _ => true) hl hb (by simpa using h.length) hu (fun j h1 h2 => by simpa using h.eqAt (A := A.in1) (s := s) j (by simpa using h1) (by simpa using h2)) prog w E Q (by rw [e]; exact hq)
end
noncomputable def stepOf (ns : List Int) (parts k st : Int) : Int := ns.getD (k - 1).toNat 0 + Int.fdiv ((ns.getD k.toNat 0 - ns.getD (k - 1).toNat 0) * st) parts
noncomputable def wayPart (ns : List Int) (parts k : Int) : List Int := (rangeKs 0 parts.toNat).map (stepOf ns parts k)
theorem wayPart_length (ns : List Int) (parts k : Int) : (wayPart ns parts k).length = parts.toNat := by unfold wayPart; rw [List.length_map, rangeKs_length]
theorem ways_length (ns : List Int) (parts : Int) (pre : List Int) : (pre.flatMap (wayPart ns parts)).length = pre.length * parts.toNat := by
  induction pre with
  | nil => simp
  | cons k r ih => rw [List.flatMap_cons, List.length_append, wayPart_length, ih, List.length_cons, Nat.add_mul, Nat.one_mul, Nat.add_comm]
noncomputable def wayOf (ns : List Int) (parts : Int) : List Int := (rangeKs 1 (ns.length - 1)).flatMap (wayPart ns parts) ++ [ns.getD (ns.length - 1) 0]
noncomputable def cutsOf (ns : List Int) (parts : Int) : List Int := (rangeKs 1 (parts - 1).toNat).map fun i => (wayOf ns parts).getD (i * ((ns.length : Int) - 1)).toNat 0
noncomputable def gptF (x : Int) (n i j : Nat) : UInt64 :=
  Float64.add (Float64.sub (Float64.ofInt x) (Float64.div (Float64.ofInt 60) 4611686018427387904)) (Float64.div (Float64.mul (Float64.ofInt 60) (Float64.sub (fq n 2) (Float64.ofInt i))) (Float64.ofInt ((j : Int) - (i : Int))))
noncomputable def GroupedAt (ns : List Int) (v : Value) : Prop := ∃ (d : List Int) (i j : Nat), d.Perm ns ∧ d.Pairwise (· ≤ ·) ∧ i ≤ d.length / 2 ∧ d.length / 2 < j ∧ j ≤ d.length ∧
  (∀ a, a < i → d.getD a 0 < d.getD (d.length / 2) 0) ∧ (∀ a, i ≤ a → a < d.length → d.getD (d.length / 2) 0 ≤ d.getD a 0) ∧ (∀ a, a < j → d.getD a 0 ≤ d.getD (d.length / 2) 0) ∧ (∀ a, j ≤ a → a < d.length → d.getD (d.length / 2) 0 < d.getD a 0) ∧
  ∃ t, v = .float (gptF (d.getD (d.length / 2) 0) d.length i j) t
noncomputable def aheadOf (ns : List Int) (z v : Int) : Nat := (ns.filter fun w => decide (w * z < v * z)).length
noncomputable def uptoOf (ns : List Int) (z v : Int) : Nat := (ns.filter fun w => decide (w * z ≤ v * z)).length
noncomputable def rankOf (ns : List Int) (st z v : Int) : UInt64 := fq (2 * st - 1 + aheadOf ns z v + uptoOf ns z v) 2
section
variable {prog : Program} {w : World} {A : Around} {E : Value → Shared → Prop} {s : Shared} {env : Env} {h₀ : Heap} {x : Str} {body : List Stmt} {Q : Flow → Shared → Prop}
noncomputable def CellEnd (h₀ : Heap) (L : Addr) (stored : List Str) (m₀ : Str → Option Value) (r cv I : Addr) (oI : Obj) (rest : List (Addr × Obj)) (P : List Int → List Value → Prop) (pre : List Int) (s₁ : Shared) (f : Flow) (s₂ : Shared) : Prop :=
  match f with
  | .ret _ => False
  | .brk => False
  | _ => ∃ h' tk m' fs c ov v, s₂ = { s₁ with heap := h', toks := tk } ∧ Fr h₀ L h' m' ∧ News h₀ L h' ((r, W.listOf fs.toArray c) :: (cv, ov) :: (I, oI) :: rest) ∧ ov.data = .cell v ∧ (∀ z, stored.contains z = false → m' z = m₀ z) ∧ P pre fs
end
namespace for_cell_c
noncomputable def hkS : Prop := ∀ {prog : Program} {w : World} {A : Around} {E : Value → Shared → Prop} {s : Shared} {env : Env} {h₀ : Heap} {x : Str} {body : List Stmt} {Q : Flow → Shared → Prop} {r cv l : Addr} {vs fs₀ : List Value} {ns : List Int} {c₀ : Nat} {ov₀ : Obj} {v₀ : Option Value} {m₀ : Str → Option Value} {rest : List (Addr × Obj)} {px : Pos} (stored : List Str) (P : List Int → List Value → Prop) (hh : A.handled = none) (hk : env.scope.kind = .function) (hx : env.kindOf x = some .cell) (hc : env.cells.lookup x = some cv) (hl : h₀.IsList l vs.toArray) (hi : IntsAre vs ns) (F : Fr h₀ env.locals s.heap m₀) (N : News h₀ env.locals s.heap ((r, W.listOf fs₀.toArray c₀) :: (cv, ov₀) :: rest)) (hov : ov₀.data = .cell v₀) (hrc : r ≠ cv) (hrest : ∀ q ∈ rest, q.1 ≠ cv ∧ q.1 ≠ r) (hp : P [] fs₀) (turn : ∀ fs c pre post n t (u : Str → Option Value) h tk ov I oI (E' : Value → Shared → Prop), ns = pre ++ n :: post → P pre fs → ov.data = .cell (some (.int n t)) → I ≠ r → I ≠ cv → (∀ q ∈ rest, q.1 ≠ I) →
      Fr h₀ env.locals h (fun y => if stored.contains y then u y else m₀ y) → News h₀ env.locals h ((r, W.listOf fs.toArray c) :: (cv, ov) :: (I, oI) :: rest) →
      wpAny (model prog w) A (execs body env) (CellEnd h₀ env.locals stored m₀ r cv I oI rest P (pre ++ [n]) { s with heap := h, toks := tk }) E' { s with heap := h, toks := tk }) (done : ∀ fs c ov (u : Str → Option Value) h tk, P ns fs → Fr h₀ env.locals h (fun y => if stored.contains y then u y else m₀ y) → News h₀ env.locals h ((r, W.listOf fs.toArray c) :: (cv, ov) :: rest) → Q .next { s with heap := h, toks := tk }), wpAny (model prog w) A (pyIter (.ref l)) (fun it s₂ => codeAny (model prog w) A (.forLoop (.Name x px) it body [] env) (fun r s' => match r with | .ok f => Q f s' | .error e => cameBackBy (model prog w) A env E e s') s₂) E s
noncomputable def hkK : Σ' P : Program → World → Around → tQ → Shared → Env → Heap → Str → (List Stmt) → (Flow → Shared → Prop) → Addr → Addr → Addr → tV → tV → tI → Nat → Obj → (Option Value) → tM → (List (Addr × Obj)) → Pos → tS → (List Int → List Value → Prop) → Prop, (∀ a b c d e f g h i j k l m n o p q r s t u v w x, P a b c d e f g h i j k l m n o p q r s t u v w x) → hkS := ⟨_, fun hk9 => by intro prog w A E s env h₀ x body Q r cv l vs fs₀ ns c₀ ov₀ v₀ m₀ rest px stored P hh hk hx hc hl hi F N hov hrc hrest hp turn done; revert done; revert turn; revert hp; revert hrest; revert hrc; revert hov; revert N; revert F; revert hi; revert hl; revert hc; revert hx; revert hk; revert hh; apply (hk9 prog w A E s env h₀ x body Q r cv l vs fs₀ ns c₀ ov₀ v₀ m₀ rest px stored P)⟩
namespace Z9
noncomputable def hkP (y : VV) := hkK.1 (y.P 0) (y.W 0) (y.A 0) (y.Q 0) (y.R 0) (y.s 0) (y.H 0) (y.G 0) (y.k 0) (y.r 0) (y.N 0) (y.N 1) (y.N 2) (y.L 0) (y.L 1) (y.I 0) (y.N 3) (y.O 0) (y.q 0) (y.M 0) (y.o 0) (y.u 0) (y.S 0) (y.a 0)
@[irreducible] noncomputable def hkG1 := epsV0 hkP
@[irreducible] def s : Shared := hkG1.R 0
@[irreducible] def env : Env := hkG1.s 0
@[irreducible] def h₀ : Heap := hkG1.H 0
@[irreducible] def x : Str := hkG1.G 0
@[irreducible] def r : Addr := hkG1.N 0
@[irreducible] def cv : Addr := hkG1.N 1
@[irreducible] def l : Addr := hkG1.N 2
@[irreducible] def vs : tV := hkG1.L 0
@[irreducible] def fs₀ : tV := hkG1.L 1
@[irreducible] def ns : tI := hkG1.I 0
@[irreducible] def c₀ : Nat := hkG1.N 3
@[irreducible] def m₀ : tM := hkG1.M 0
@[irreducible] def rest : (List (Addr × Obj)) := hkG1.o 0
@[irreducible] def stored : tS := hkG1.S 0
@[irreducible] def P : (List Int → List Value → Prop) := hkG1.a 0
set_option maxHeartbeats 2000000 in
noncomputable def hkK1 : Σ' P0 : Heap → Nat → Nat → tM → tV → Nat → Obj → (Option Value) → Prop, (∀ a b c d e f g h, P0 a b c d e f g h) → hkP hkG1 := ⟨_, fun hcA => by
  with_unfolding_all show hkK.1 (hkG1.P 0) (hkG1.W 0) (hkG1.A 0) (hkG1.Q 0) s env h₀ x (hkG1.k 0) (hkG1.r 0) r cv l vs fs₀ ns c₀ (hkG1.O 0) (hkG1.q 0) m₀ rest (hkG1.u 0) stored P
  intro hh hk hx hc hl hi F N hov hrc hrest hp turn done
  have hls : s.heap.IsList l vs.toArray := hl.at fun o e => F.keep l o e
  obtain ⟨ol, hol, _⟩ := id hl
  have hlt0 : l < h₀.objs.size := Heap.lt_size hol
  have hlt : l < s.heap.objs.size := Nat.lt_trans (Nat.lt_of_lt_of_le hlt0 F.above) F.ns.lt
  refine wpAny_pyIter_list hls ?_
  have Wk := Walks.list (prog := (hkG1.P 0)) (w := (hkG1.W 0)) hh s.heap.objs.size l (Nat.ne_of_lt hlt) vs.toArray
  have hlen : vs.toArray.size = ns.length := by simp [hi.length]
  rw [hlen] at Wk
  have hI₀ : h₀.get? s.heap.objs.size = none := by
    cases e : h₀.get? s.heap.objs.size with
    | none => rfl
    | some o => exact absurd (Heap.lt_size (F.keep _ _ e)) (Nat.lt_irrefl _)
  have hIL : s.heap.objs.size ≠ env.locals := Nat.ne_of_gt F.ns.lt
  have hIN : ∀ q ∈ ((r, W.listOf fs₀.toArray c₀) :: (cv, (hkG1.O 0)) :: rest), q.1 ≠ s.heap.objs.size := fun q hq => Nat.ne_of_lt (Heap.lt_size (N q hq).1)
  have hIr : s.heap.objs.size ≠ r := Ne.symm (hIN _ (List.Mem.head _))
  have hIc : s.heap.objs.size ≠ cv := Ne.symm (hIN _ (List.Mem.tail _ (List.Mem.head _)))
  have hIrest : ∀ q ∈ rest, q.1 ≠ s.heap.objs.size := fun q hq => hIN q (List.Mem.tail _ (List.Mem.tail _ hq))
  refine codeAny_forLoop (fun k s' => ∃ h tk i m fs c ov v, s' = { s with heap := h, toks := tk } ∧ i ≤ ns.length ∧ k = ns.length + 1 - i ∧ (h.IsListIter s.heap.objs.size l i ∧ h.IsList l vs.toArray) ∧ Fr h₀ env.locals h m ∧
      News h₀ env.locals h ((r, W.listOf fs.toArray c) :: (cv, ov) :: rest) ∧ ov.data = .cell v ∧ (∀ z, stored.contains z = false → m z = m₀ z) ∧ P (ns.take i) fs) ?_ (ns.length + 1)
    ⟨_, s.toks, 0, m₀, fs₀, c₀, (hkG1.O 0), (hkG1.q 0), rfl, Nat.zero_le _, rfl, ⟨⟨_, Heap.get?_push_size _ rfl, rfl, rfl⟩, hls.push _⟩, F.push _, (fun p hp => ⟨Heap.get?_push_of_some _ (N p hp).1, (N p hp).2⟩), hov, fun _ _ => rfl, by simpa using hp⟩
  rintro k s' ⟨h, tk, i, m, fs, c, ov, v, rfl, hi', rfl, hst, F', N', hov', hm', hp'⟩
  have em : ∀ {m : Str → Option Value}, (∀ z, stored.contains z = false → m z = m₀ z) → (fun y => if stored.contains y then m y else m₀ y) = m := fun {m} hm => by
    funext y
    cases hy : stored.contains y with
    | true => simp
    | false => simp only [Bool.false_eq_true, if_false]; exact (hm y hy).symm
  have off : ∀ b, b ∉ [s.heap.objs.size] ↔ b ≠ s.heap.objs.size := fun b => by simp
  by_cases hlt' : i < ns.length
  · skip
    revert hlt'; revert off; revert em; revert hp'; revert hm'; revert hov'; revert N'; revert F'; revert hst; revert hi'; revert hIrest; revert hIc; revert hIr; revert hIN; revert hIL; revert hI₀; revert hlen; revert Wk; revert hlt; revert hlt0; revert hls; revert done; revert turn; revert hp; revert hrest; revert hrc; revert hov; revert N; revert F; revert hi; revert hl; revert hc; revert hx; revert hk; revert hh; apply (hcA h tk i m fs c ov v)
  · obtain rfl : i = ns.length := Nat.le_antisymm hi' (Nat.not_lt.mp hlt')
    rw [List.take_length] at hp'
    refine Wk.done _ _ _ hst fun h₂ tk₂ hk₂ => ?_
    refine wpAny_execs_nil ?_
    refine done fs c ov m h₂ tk₂ hp' ?_ ?_
    · rw [em hm']; exact PyProof.Rows.LCg.fr_but F' hk₂ (Ne.symm hIL) hI₀
    · exact PyProof.Rows.LCg.news_but N' hk₂ fun p hp => by
        rcases List.mem_cons.mp hp with rfl | hp
        · exact Ne.symm hIr
        · rcases List.mem_cons.mp hp with rfl | hp
          · exact Ne.symm hIc
          · exact hIrest p hp⟩
namespace A
noncomputable def hkP (y : VV) := hkK1.1 (y.H 0) (y.N 0) (y.N 1) (y.M 0) (y.L 0) (y.N 2) (y.O 0) (y.q 0)
noncomputable def hkG2 := epsV0 hkP
@[irreducible] def h : Heap := hkG2.H 0
@[irreducible] def tk : Nat := hkG2.N 0
@[irreducible] def i : Nat := hkG2.N 1
@[irreducible] def m : tM := hkG2.M 0
@[irreducible] def fs : tV := hkG2.L 0
@[irreducible] def c : Nat := hkG2.N 2
@[irreducible] def ov : Obj := hkG2.O 0
@[irreducible] def v : (Option Value) := hkG2.q 0
set_option maxHeartbeats 2000000 in
noncomputable def hkK2 : Σ' P0 : Heap → Nat → Tok → Heap → Obj → Obj → Prop, (∀ a b c d e f, P0 a b c d e f) → hkP hkG2 := ⟨_, fun hcB => by
  with_unfolding_all show hkK1.1 h tk i m fs c ov v
  intro hh hk hx hc hl hi F N hov hrc hrest hp turn done hls hlt0 hlt Wk hlen hI₀ hIL hIN hIr hIc hIrest hi' hst F' N' hov' hm' hp' em off hlt'
  refine Wk.item i _ _ _ hlt' hst fun v1 h₂ tk₂ hPv hst₂ hk₂ => ?_
  obtain ⟨t, hx1⟩ := hi.get i ns[i] (by simp [hlt'])
  have hv : v1 = .int ns[i] t := by
    have hP' : vs[i]? = some v1 := by simpa using hPv
    rw [hx1] at hP'; exact (Option.some.inj hP').symm
  subst hv
  have F₂ : Fr h₀ env.locals h₂ m := PyProof.Rows.LCg.fr_but F' hk₂ (Ne.symm hIL) hI₀
  have N₂ : News h₀ env.locals h₂ ((r, W.listOf fs.toArray c) :: (cv, ov) :: rest) := PyProof.Rows.LCg.news_but N' hk₂ fun p hp => by
    rcases List.mem_cons.mp hp with rfl | hp
    · exact Ne.symm hIr
    · rcases List.mem_cons.mp hp with rfl | hp
      · exact Ne.symm hIc
      · exact hIrest p hp
  have hcv := N₂ (cv, ov) (List.Mem.tail _ (List.Mem.head _))
  refine wpAny_assign_Name (wpAny_storeName_cell hk hx hc ⟨ov, hcv.1, hov'⟩ fun h₃ hv3 hs₃ => ?_)
  obtain ⟨ov3, ho3, hd3⟩ := hv3
  obtain ⟨oI, hoI, hoI2⟩ := hst₂.1
  have hoI3 : h₃.get? s.heap.objs.size = some oI := (hs₃.2 _ hIc).trans hoI
  have F₃ : Fr h₀ env.locals h₃ m := F₂.change hs₃ hcv.2.1 hcv.2.2
  have N₃ : News h₀ env.locals h₃ ((r, W.listOf fs.toArray c) :: (cv, ov3) :: (s.heap.objs.size, oI) :: rest) := fun p hp => by
    rcases List.mem_cons.mp hp with rfl | hp
    · have z := N₂ _ (List.Mem.head _)
      exact ⟨(hs₃.2 _ hrc).trans z.1, z.2⟩
    · rcases List.mem_cons.mp hp with rfl | hp
      · exact ⟨ho3, hcv.2⟩
      · rcases List.mem_cons.mp hp with rfl | hp
        · exact ⟨hoI3, hIL, hI₀⟩
        · have z := N₂ p (List.Mem.tail _ (List.Mem.tail _ hp))
          exact ⟨(hs₃.2 _ (hrest p hp).1).trans z.1, z.2⟩
  revert N₃; revert F₃; revert hoI3; revert hoI2; revert hoI; revert hd3; revert ho3; revert hs₃; revert hcv; revert N₂; revert F₂; revert hPv; revert hx1; revert hk₂; revert hst₂; revert hlt'; revert off; revert em; revert hp'; revert hm'; revert hov'; revert N'; revert F'; revert hst; revert hi'; revert hIrest; revert hIc; revert hIr; revert hIN; revert hIL; revert hI₀; revert hlen; revert Wk; revert hlt; revert hlt0; revert hls; revert done; revert turn; revert hp; revert hrest; revert hrc; revert hov; revert N; revert F; revert hi; revert hl; revert hc; revert hx; revert hk; revert hh; apply (hcB h₂ tk₂ t h₃ ov3 oI)⟩
namespace B
noncomputable def hkP (y : VV) := hkK2.1 (y.H 0) (y.N 0) (y.N 1) (y.H 1) (y.O 0) (y.O 1)
@[irreducible] noncomputable def hkG3 := epsV0 hkP
@[irreducible] def tk₂ : Nat := hkG3.N 0
@[irreducible] def h₃ : Heap := hkG3.H 1
@[irreducible] def oI : Obj := hkG3.O 1
set_option maxHeartbeats 2000000 in
theorem hkM : hkP hkG3 := (by exact @wI _ _ : @wT (hkP hkG3) (by
  with_unfolding_all show hkK2.1 (hkG3.H 0) tk₂ (hkG3.N 1) h₃ (hkG3.O 0) oI
  intro hh hk hx hc hl hi F N hov hrc hrest hp turn done hls hlt0 hlt Wk hlen hI₀ hIL hIN hIr hIc hIrest hi' hst F' N' hov' hm' hp' em off hlt' hst₂ hk₂ hx1 hPv F₂ N₂ hcv hs₃ ho3 hd3 hoI hoI2 hoI3 F₃ N₃
  have hs : ns.take (i + 1) = ns.take i ++ [ns[i]] := by rw [List.take_add_one, List.getElem?_eq_getElem hlt']; rfl
  have e : ns = ns.take i ++ ns[i] :: ns.drop (i + 1) := by rw [← List.drop_eq_getElem_cons hlt', List.take_append_drop]
  refine wpAny_mono (turn fs c (ns.take i) (ns.drop (i + 1)) ns[i] (hkG3.N 1) m h₃ tk₂ (hkG3.O 0) s.heap.objs.size oI _ e hp' hd3 hIr hIc hIrest (by rw [em hm']; exact F₃) N₃) (fun f s₄ p => ?_) fun _ _ x => x
  have fin : CellEnd h₀ env.locals stored m₀ r cv s.heap.objs.size oI rest P (ns.take i ++ [ns[i]]) { s with heap := h₃, toks := tk₂ } .next s₄ →
      ∃ m, m < ns.length + 1 - i ∧ (∃ h tk i m_1 fs c ov v, s₄ = { s with heap := h, toks := tk } ∧ i ≤ ns.length ∧ m = ns.length + 1 - i ∧ (h.IsListIter s.heap.objs.size l i ∧ h.IsList l vs.toArray) ∧ Fr h₀ env.locals h m_1 ∧
        News h₀ env.locals h ((r, W.listOf fs.toArray c) :: (cv, ov) :: rest) ∧ ov.data = .cell v ∧ (∀ z, stored.contains z = false → m_1 z = m₀ z) ∧ P (ns.take i) fs) := by
    rintro ⟨h', tk', m', fs', c', ov', v', rfl, F4, N4, hd4, hm4, hp4⟩
    have zI := N4 (s.heap.objs.size, oI) (List.Mem.tail _ (List.Mem.tail _ (List.Mem.head _)))
    refine ⟨ns.length + 1 - (i + 1), dec_lt hlt', h', tk', i + 1, m', fs', c', ov', v', rfl, hlt', rfl, ⟨⟨oI, zI.1, hoI2⟩, hl.at fun o e => F4.keep l o e⟩, F4, fun p hp => ?_, hd4, hm4, by rw [hs]; exact hp4⟩
    rcases List.mem_cons.mp hp with rfl | hp
    · exact N4 _ (List.Mem.head _)
    · rcases List.mem_cons.mp hp with rfl | hp
      · exact N4 _ (List.Mem.tail _ (List.Mem.head _))
      · exact N4 p (List.Mem.tail _ (List.Mem.tail _ (List.Mem.tail _ hp)))
  cases f with
  | ret v => exact p.elim
  | brk => exact p.elim
  | next => exact fin p
  | cont => exact fin p
  ))
end B
theorem hkM : hkP hkG2 := no_implicit_lambda% (@hkapp _ _ hkK2.2 (fun a b c d e f => @epsV B.hkP (by with_unfolding_all exact B.hkM) (vv e9E e9C e9T e9K e9A e9X e9S e9G e9W e9P e9Q e9R e9V e9Z e9I e9L e9M (lk [a, d] d9H) (lk [e, f] d9O) (lk [b, c] d9N))))
end A
theorem hkM : hkP hkG1 := no_implicit_lambda% (@hkapp _ _ hkK1.2 (fun a b c d e f g h => @epsV A.hkP (by with_unfolding_all exact A.hkM) (⟨e9a, e9b, e9c, e9d, e9e, e9f, e9g, e9h, e9v, e9w, e9x, e9y, e9i, e9j, e9k, e9l, e9m, e9n, e9o, e9p, lk [h] d9q, e9r, e9s, e9t, e9u, e9E, e9C, e9T, e9K, e9A, e9X, e9S, e9G, e9W, e9P, e9Q, e9R, e9V, e9Z, e9I, lk [e] d9L, lk [d] d9M, lk [a] d9H, lk [g] d9O, lk [b, c, f] d9N⟩)))
end Z9
theorem hkT : hkS := no_implicit_lambda% (@hkapp _ _ hkK.2 (fun a b c d e f g h i j k l m n o p q r s t u v w x => @epsV Z9.hkP (by with_unfolding_all exact Z9.hkM) (⟨lk [x] d9a, e9b, e9c, e9d, e9e, e9f, e9g, e9h, e9v, e9w, e9x, e9y, e9i, e9j, lk [i] d9k, e9l, e9m, e9n, lk [u] d9o, e9p, lk [s] d9q, lk [j] d9r, lk [f] d9s, e9t, lk [v] d9u, e9E, e9C, e9T, e9K, lk [c] d9A, e9X, lk [w] d9S, lk [h] d9G, lk [b] d9W, lk [a] d9P, lk [d] d9Q, lk [e] d9R, e9V, e9Z, lk [p] d9I, lk [n, o] d9L, lk [t] d9M, lk [g] d9H, lk [r] d9O, lk [k, l, m, q] d9N⟩)))
end for_cell_c
theorem for_cell : for_cell_c.hkS := @for_cell_c.hkT
section
variable {prog : Program} {w : World} {A : Around} {E : Value → Shared → Prop} {s : Shared} {env : Env} {h₀ : Heap} {x : Str} {body : List Stmt} {Q : Flow → Shared → Prop}
end
noncomputable abbrev PG : Program := PySem.Challenge.rw_ij0065_01.row.prog
noncomputable def PureC (w : World) (p : Program) (loose : List Str) (mean : ExcName → Option Value) (mg mb : Str → Option Value) (f : Addr) (args : List Value) (kw : List (Str × Value)) (s : Shared) (dr ur : Nat) (Post : Heap → Value → Prop) (dp un : Nat) (gd : Option (List Code)) (cn : Str) (cs : Scope) (a : Addr) (ccd : Value) (cl : List (Str × Addr)) (outer : List Env) (A₀ : Around) (base h₀ : Heap) (L : Addr) (m : Str → Option Value) : Prop :=
  ∀ (Q E : Value → Shared → Prop),
    Below A₀ base outer h₀ → Fr h₀ L s.heap m → (hd.heap_39 w.params).In h₀ → Top p loose mean mg mb h₀ → cs.kind = .function → dp + dr < recursionLimit → un + ur < cLine →
    (∀ v h' tk', s.heap.StaysIn h' → Post h' v → Q v { s with heap := h', toks := tk' }) →
    wpAny (model PG w) (ktrTop dp un gd cn cs L a ccd cl outer) (call (.ref f) args kw) Q E s
noncomputable def Pure (w : World) (p : Program) (loose : List Str) (mean : ExcName → Option Value) (mg mb : Str → Option Value) (f : Addr) (args : List Value) (kw : List (Str × Value)) (s : Shared) (dr ur : Nat) (Post : Heap → Value → Prop) : Prop :=
  ∀ (dp un : Nat) (gd : Option (List Code)) (cn : Str) (cs : Scope) (a : Addr) (ccd : Value) (cl : List (Str × Addr)) (outer : List Env) (A₀ : Around) (base h₀ : Heap) (L : Addr) (m : Str → Option Value), PureC w p loose mean mg mb f args kw s dr ur Post dp un gd cn cs a ccd cl outer A₀ base h₀ L m
section
variable {prog : Program} {w : World} {A₀ A : Around} {s : Shared} {base h₀ : Heap} {outer : List Env} {L : Addr} {m : Str → Option Value} {env : Env} {K : Frag} {news : List (Addr × Obj)}
  {R : Result → Shared → Prop} {name qual : Str} {params : Arguments} {body : List Stmt} {scope : Scope} {dV kV doc pm cdv ct oc : Value} {an od : Option Addr} {osl : Array (Option Value)} {f : Addr} {args : Args} {binds : List (Str × Value)}
  {p : Program} {loose : List Str} {mean : ExcName → Option Value} {mg mb : Str → Option Value}
theorem hid_keep (F : Fr h₀ L s.heap m) (N : News h₀ L s.heap news) : h₀.StaysIn (hideAll s.heap (news.map (·.1))) ∧ L ∉ news.map (·.1) := by
  refine ⟨fun b o e => hideAll_get _ (F.keep b o e) fun q => ?_, fun q => ?_⟩
  · obtain ⟨p, hp, rfl⟩ := List.mem_map.mp q
    rw [(N p hp).2.2] at e; cases e
  · obtain ⟨p, hp, e⟩ := List.mem_map.mp q
    exact (N p hp).2.1 e
theorem hid_below (B : Below A₀ base outer h₀) (F : Fr h₀ L s.heap m) (N : News h₀ L s.heap news) (hA : A.frames = some (env :: outer)) (hf : env.frame = some L) (hke : env.scope.kind = .function) :
    Below A base (env :: outer) (hideAll s.heap (news.map (·.1))) := by
  obtain ⟨st, nL⟩ := hid_keep F N
  have nm : ∀ b o, h₀.get? b = some o → b ∉ news.map (·.1) := fun b o e q => by
    obtain ⟨p, hp, rfl⟩ := List.mem_map.mp q
    rw [(N p hp).2.2] at e; cases e
  have B₁ := pushX B F hf hke
  refine ⟨hA, fun b o e => st b o (B.stays b o e), funFrames_hideAll B₁.frames fun env' he b hb hf' => ?_⟩
  cases he with
  | head => exact nL ((Option.some.inj (hf.symm.trans hf') : L = b) ▸ hb)
  | tail _ he =>
    obtain ⟨L₁, o₁, hf₁, ho₁⟩ := funFrames_in B.frames env' he
    rw [hf₁] at hf'
    exact nm L₁ o₁ ho₁ ((Option.some.inj hf' : L₁ = b) ▸ hb)
theorem call_mut (h : ∀ g L' h₁, g = hideAll s.heap (news.map (·.1)) → Fr g L' h₁ (fun y => binds.reverse.lookup y) → News g L' h₁ news → Below A base (env :: outer) g → K.In g → Top p loose mean mg mb g →
      wpAny (model prog w) (A.deeper (envOf qual scope L' f cdv)) (execs body (envOf qual scope L' f cdv))
        (fun fl s' => R (.ok (.ret (match fl with | .ret v => v | _ => .none))) s')
        (fun e s' => wpAny (model prog w) (A.deeper (envOf qual scope L' f cdv)) (leaving (envOf qual scope L' f cdv) e) (fun _ s'' => R (.error e) s'') (fun e' s'' => R (.error e') s'') s')
        { s with heap := h₁, toks := s.toks + binds.length })
    (hA : A.frames = some (env :: outer) := by exact rfl) (hf : env.frame = some L := by exact rfl) (hke : env.scope.kind = .function := by assumption)
    (B : Below A₀ base outer h₀ := by k_asm) (F : Fr h₀ L s.heap m := by k_asm) (N : News h₀ L s.heap news := by k_asm) (X₀ : K.In h₀ := by k_asm) (T : Top p loose mean mg mb h₀ := by k_asm)
    (ho : K.lookup f = some ⟨oc, od, .func (fnOf name qual params body scope dV kV doc pm an cdv ct), osl⟩ := by k_is) (hcd : codeIn K cdv qual = true := by k_is) (hroom : A.depth < recursionLimit := by ktr_room)
    (hbind : BindsTo s (fnOf name qual params body scope dV kV doc pm an cdv ct) args binds := by walk_at "fr_b") (hcell : ∀ x ∈ scope.names, x.2 ≠ .cell := by decide) (hloc : ∀ y ∈ binds, scope.names.lookup y.1 = some .local := by exact locs rfl)
    (hco : scope.isCoroutine = false := by exact rfl) (hgen : scope.isGenerator = false := by exact rfl) (hk : scope.kind = .function := by exact rfl) : codeAny (model prog w) A (.call (.ref f) args) R s := by
  obtain ⟨st, nL⟩ := hid_keep F N
  have B₁ := hid_below B F N hA hf hke
  refine codeAny_call_def (fd := fnOf name qual params body scope dV kV doc pm an cdv ct) (body := body) (binds := binds) hroom ((X₀.keeps F.keep) _ _ ho) rfl (T.nolimit.keeps F.keep) (codeRec_of (X₀.keeps F.keep) hcd) rfl hbind hcell hloc (fun h₁ hns hk₁ => ?_) hco hgen hk
  exact h _ s.heap.objs.size h₁ rfl ⟨hns, fun b o e => hk₁ b o (of_hideAll _ e), Nat.le_of_eq (hideAll_size _ _)⟩
    (fun p hp => ⟨hk₁ _ _ (N p hp).1, Nat.ne_of_lt (Heap.lt_size (N p hp).1), hideAll_none _ (List.mem_map_of_mem hp)⟩) B₁ (X₀.keeps st) (T.keeps st)
end
noncomputable def MutC (w : World) (p : Program) (loose : List Str) (mean : ExcName → Option Value) (mg mb : Str → Option Value) (f : Addr) (args : List Value) (kw : List (Str × Value)) (s : Shared) (muts : List (Addr × Obj)) (dr ur : Nat) (Post : Heap → Value → Prop) (dp un : Nat) (gd : Option (List Code)) (cn : Str) (cs : Scope) (a : Addr) (ccd : Value) (cl : List (Str × Addr)) (outer : List Env) (A₀ : Around) (base h₀ : Heap) (L : Addr) (m : Str → Option Value) : Prop :=
  ∀ (Q E : Value → Shared → Prop),
    Below A₀ base outer h₀ → Fr h₀ L s.heap m → News h₀ L s.heap muts → (hd.heap_39 w.params).In h₀ → Top p loose mean mg mb h₀ → cs.kind = .function → dp + dr < recursionLimit → un + ur < cLine →
    (∀ v h' tk', (hideAll s.heap (muts.map (·.1))).StaysIn h' → Post h' v → Q v { s with heap := h', toks := tk' }) →
    wpAny (model PG w) (ktrTop dp un gd cn cs L a ccd cl outer) (call (.ref f) args kw) Q E s
noncomputable def Mut (w : World) (p : Program) (loose : List Str) (mean : ExcName → Option Value) (mg mb : Str → Option Value) (f : Addr) (args : List Value) (kw : List (Str × Value)) (s : Shared) (muts : List (Addr × Obj)) (dr ur : Nat) (Post : Heap → Value → Prop) : Prop :=
  ∀ (dp un : Nat) (gd : Option (List Code)) (cn : Str) (cs : Scope) (a : Addr) (ccd : Value) (cl : List (Str × Addr)) (outer : List Env) (A₀ : Around) (base h₀ : Heap) (L : Addr) (m : Str → Option Value), MutC w p loose mean mg mb f args kw s muts dr ur Post dp un gd cn cs a ccd cl outer A₀ base h₀ L m
end
-- Zp
section
section
variable {prog : Program} {w : World} {A : Around} {R : Result → Shared → Prop} {S I : Addr} {n : Nat}
theorem loop_own (Inv : Nat → Array Value → Heap → Prop) (Fin : Array Value → Heap → Prop) (res : Value) (hn : n ≤ 1000) (hsize : ∀ i acc h, Inv i acc h → acc.size = i)
    (frame : ∀ i acc h h', Inv i acc h → Heap.SameBut S h h' → (∃ o, h'.get? S = some o) → Inv i acc h')
    (item : ∀ i acc (s : Shared) (Q : Option Value → Shared → Prop) (E : Value → Shared → Prop), i < n → Inv i acc s.heap →
      (∀ v h' tk, Inv (i + 1) (acc.push v) h' → (∀ o, s.heap.get? S = some o → h'.get? S = some o) → Q (some v) { s with heap := h', toks := tk }) → wpAny (model prog w) A.in1 (pyNext (.ref I)) Q E s)
    (done : ∀ acc (s : Shared) (Q : Option Value → Shared → Prop) (E : Value → Shared → Prop), Inv n acc s.heap →
      (∀ h' tk, Fin acc h' → (∀ o, s.heap.get? S = some o → h'.get? S = some o) → Q none { s with heap := h', toks := tk }) → wpAny (model prog w) A.in1 (pyNext (.ref I)) Q E s) :
    ∀ (k i : Nat) (s : Shared) (acc : Array Value) (c : Nat), n - i = k → i ≤ n → Inv i acc s.heap → s.heap.get? S = some { cls := .type "list", dict := none, data := .seq acc c, slots := #[] } →
      (∀ acc' c' h' tk', Fin acc' h' → h'.get? S = some { cls := .type "list", dict := none, data := .seq acc' c', slots := #[] } → R (.ok (.ret res)) { s with heap := h', toks := tk' }) →
      codeAny (model prog w) A (.builtin "list.extend.loop" ⟨[.ref S, .ref I, res], []⟩) R s := by
  have hl : sizeLine = 16777216 := sizeLine_eq
  intro k
  induction k with
  | zero =>
    intro i s acc c hk hi hst hS hR
    have hin : i = n := dec_zero hk hi
    subst hin
    refine codeAny_builtin PySem.F.entry_extend_loop ?_
    rw [Around.under_plainId PySem.F.plain_extend_loop _]
    show wpAny _ A.in1 (pyNext (.ref I) >>= _) _ _ s
    refine wpAny_bind (done acc s _ _ hst fun h' tk hf hk' => ?_)
    exact wpAny_pure (hR acc c h' tk hf (hk' _ hS))
  | succ k ih =>
    intro i s acc c hk hi hst hS hR
    have hlt : i < n := dec_pos hk
    refine codeAny_builtin PySem.F.entry_extend_loop ?_
    rw [Around.under_plainId PySem.F.plain_extend_loop _]
    show wpAny _ A.in1 (pyNext (.ref I) >>= _) _ _ s
    refine wpAny_bind (item i acc s _ _ hlt hst fun v h' tk hst' hk' => ?_)
    have hS' := hk' _ hS
    have hz := hsize _ _ _ hst
    show wpAny _ A.in1 (updateSeq S (·.push v) >>= _) _ _ _
    refine wpAny_bind ?_
    refine wpAny_updateSeq hS' rfl (wpAny_pure ⟨plainId_quiet PySem.F.plain_extend_loop _, ih (i + 1) _ (acc.push v) _ (dec_eq hk) hlt (frame _ _ _ _ hst' (Heap.SameBut.update ..) ⟨_, Heap.get?_update_self _ hS' rfl⟩) (Heap.get?_update_self _ hS' rfl) fun acc' c' h'' tk' hf hS'' => ?_⟩)
      (by rw [hz, hl]; omega) (by show (acc.push v).size ≤ sizeLine + 1; rw [Array.size_push, hz, hl]; omega)
    exact hR acc' c' h'' tk' hf hS''
end
structure Feed (prog : Program) (w : World) (A : Around) (S J I : Addr) (n : Nat) (Inv₀ : Heap → Prop) (Inv : Nat → Array Value → Heap → Prop) (Fin : Array Value → Heap → Prop) : Prop where
  T : ∃ T : Value, (T == Value.type "list") = false ∧ (T == Value.type "tuple") = false ∧
    ∀ (s : Shared) (Q : Value → Shared → Prop) (E : Value → Shared → Prop), Inv₀ s.heap → Q T s → wpAny (model prog w) A (typeOf (.ref J)) Q E s
  neJ : S ≠ J
  small : n ≤ 1000
  size : ∀ i acc h, Inv i acc h → acc.size = i
  frame₀ : ∀ h h', Inv₀ h → Heap.SameBut S h h' → (∃ o, h'.get? S = some o) → Inv₀ h'
  frame : ∀ i acc h h', Inv i acc h → Heap.SameBut S h h' → (∃ o, h'.get? S = some o) → Inv i acc h'
  len : ∀ (s : Shared) (Q : Option Value → Shared → Prop) (E : Value → Shared → Prop), Inv 0 #[] s.heap → Q none s → wpAny (model prog w) A (specialOf (.ref J) (Str.ofString "__len__")) Q E s
  hint : ∀ (s : Shared) (Q : Option Value → Shared → Prop) (E : Value → Shared → Prop), Inv 0 #[] s.heap → Q none s → wpAny (model prog w) A (specialOf (.ref J) (Str.ofString "__length_hint__")) Q E s
  it : ∀ (s : Shared) (Q : Value → Shared → Prop) (E : Value → Shared → Prop), Inv₀ s.heap →
    (∀ h' tk, Inv 0 #[] h' → (∀ o, s.heap.get? S = some o → h'.get? S = some o) → Q (.ref I) { s with heap := h', toks := tk }) → wpAny (model prog w) A (pyIter (.ref J)) Q E s
  item : ∀ i acc (s : Shared) (Q : Option Value → Shared → Prop) (E : Value → Shared → Prop), i < n → Inv i acc s.heap →
    (∀ v h' tk, Inv (i + 1) (acc.push v) h' → (∀ o, s.heap.get? S = some o → h'.get? S = some o) → Q (some v) { s with heap := h', toks := tk }) → wpAny (model prog w) A (pyNext (.ref I)) Q E s
  done : ∀ acc (s : Shared) (Q : Option Value → Shared → Prop) (E : Value → Shared → Prop), Inv n acc s.heap →
    (∀ h' tk, Fin acc h' → (∀ o, s.heap.get? S = some o → h'.get? S = some o) → Q none { s with heap := h', toks := tk }) → wpAny (model prog w) A (pyNext (.ref I)) Q E s
section
variable {prog : Program} {w : World} {A : Around} {R : Result → Shared → Prop} {S J I : Addr} {n : Nat} {Inv₀ : Heap → Prop} {Inv : Nat → Array Value → Heap → Prop} {Fin : Array Value → Heap → Prop} {s : Shared}
theorem extend_feed (W : Feed prog w A.in1 S J I n Inv₀ Inv Fin) (res : Value) (c₀ : Nat) (hst : Inv₀ s.heap) (hS : s.heap.get? S = some { cls := .type "list", data := .seq #[] c₀ })
    (hR : ∀ acc' c' h' tk', Fin acc' h' → h'.get? S = some { cls := .type "list", dict := none, data := .seq acc' c', slots := #[] } → R (.ok (.ret res)) { s with heap := h', toks := tk' }) :
    wpAny (model prog w) A.in1 (Builtin.List.listExtendWith (.ref S) (.ref J) res)
      (fun fin s' => match fin with | .done f => R (.ok f) s' | .again c' => c'.quiet = true ∧ codeAny (model prog w) A c' R s') (fun e s' => R (.error e) s') s := by
  obtain ⟨T, h2, h3, hT⟩ := W.T
  unfold Builtin.List.listExtendWith
  refine wpAny_bind (hT _ _ _ hst ?_)
  have h1 : Builtin.List.listSameRef (.ref S) (.ref J) = false := by simp [Builtin.List.listSameRef, W.neJ]
  simp only [h1, h2, h3, Bool.or_false, Bool.false_eq_true, if_false]
  refine wpAny_bind (W.it _ _ _ hst fun h₁ tk₁ hst₁ hk₁ => ?_)
  have hS₁ := hk₁ _ hS
  refine wpAny_bind (wpAny_holding ?_)
  unfold Builtin.List.listLengthHint
  refine wpAny_bind (W.len _ _ _ hst₁ ?_)
  show wpAny _ A.in1 (specialOf (Value.ref J) (Str.ofString "__length_hint__") >>= _) _ _ _
  refine wpAny_bind (W.hint _ _ _ hst₁ ?_)
  refine wpAny_pure ?_
  show wpAny _ A.in1 (rule "list.extend.makes-room" >>= fun _ => Builtin.List.listTouch (.ref S) >>= fun _ =>
    again (.builtin "list.extend.loop" ⟨[.ref S, .ref I, res], []⟩)) _ _ _
  refine wpAny_bind (wpAny_rule ?_)
  refine wpAny_bind ?_
  show wpAny _ A.in1 (updateSeq S (·.push .none) >>= fun _ => updateSeq S (·.pop)) _ _ _
  refine wpAny_bind (wpAny_updateSeq hS₁ rfl ?_)
  have hS₂ := Heap.get?_update_self (Obj.mapSeq (·.push Value.none)) hS₁ rfl
  refine wpAny_updateSeq (hz := by seq_fits) hS₂ rfl ?_
  have hS₃ := Heap.get?_update_self (Obj.mapSeq (·.pop)) hS₂ rfl
  refine wpAny_pure ⟨plainId_quiet PySem.F.plain_extend_loop _, loop_own Inv Fin res W.small W.size W.frame W.item W.done n 0 _ _ _ rfl (Nat.zero_le _) (W.frame _ _ _ _ (W.frame _ _ _ _ hst₁ (Heap.SameBut.update ..) ⟨_, hS₂⟩) (Heap.SameBut.update ..) ⟨_, hS₃⟩) hS₃ fun acc' c' h' tk' hf hs' => ?_⟩
  exact hR acc' c' h' tk' hf hs'
end
section
variable {prog : Program} {w : World} {A : Around} {E : Value → Shared → Prop} {J I : Addr} {n : Nat} {Inv₀ : Heap → Prop} {Inv : Nat → Array Value → Heap → Prop} {Fin : Array Value → Heap → Prop} {s : Shared}
theorem collect_feed {Q : List Value → Shared → Prop} (W : Feed prog w A.in1 s.heap.objs.size J I n Inv₀ Inv Fin) (hst : Inv₀ (s.heap.push { cls := .type "list", data := .seq ([] : List Value).toArray }))
    (hQ : ∀ acc h' tk', Fin acc h' → Q acc.toList { s with heap := h', toks := tk' }) : wpAny (model prog w) A (collect (.ref J)) Q E s := by
  have key : ∀ R : Result → Shared → Prop, (∀ acc' c' h' tk', Fin acc' h' → h'.get? s.heap.objs.size = some { cls := .type "list", dict := none, data := .seq acc' c', slots := #[] } → R (.ok (.ret (.ref s.heap.objs.size))) { s with heap := h', toks := tk' }) →
      codeAny (model prog w) A (.builtin "proto.collect" ⟨[.ref J], []⟩) R s := by
    intro R hR
    refine codeAny_builtin PySem.F.entry_proto_collect ?_
    rw [Around.under_plainId PySem.F.plain_proto_collect _]
    show wpAny _ A.in1 (newList [] >>= fun l => again (.builtin "list.__iadd__" ⟨[l, .ref J], []⟩)) _ _ s
    refine wpAny_bind (wpAny_newObj_type ?_)
    refine wpAny_pure ⟨plainId_quiet PySem.F.plain_list_iadd _, codeAny_builtin PySem.F.entry_list_iadd ?_⟩
    rw [Around.under_plainId PySem.F.plain_list_iadd _]
    show wpAny _ A.in1 (Builtin.List.listExtendWith (.ref s.heap.objs.size) (.ref J) (.ref s.heap.objs.size)) _ _ _
    exact extend_feed (R := R) (s := { s with heap := s.heap.push { cls := .type "list", data := .seq ([] : List Value).toArray } }) W (.ref s.heap.objs.size) 0 hst (Heap.get?_push_size _ rfl) hR
  unfold collect
  refine wpAny_bind (wpAny_runValue (key _ fun acc' c' h' tk' hf hS' => ?_))
  show wpAny _ A (load s.heap.objs.size >>= _) _ _ _
  refine wpAny_bind (wpAny_load hS' ?_)
  exact wpAny_pure (hQ acc' h' tk' hf)
theorem list_init_feed {R : Result → Shared → Prop} {S : Addr} (W : Feed prog w A.in1 S J I n Inv₀ Inv Fin) (hst : Inv₀ s.heap) (hS : s.heap.get? S = some { cls := .type "list", data := .seq #[] })
    (hR : ∀ acc' c' h' tk', Fin acc' h' → h'.get? S = some { cls := .type "list", dict := none, data := .seq acc' c', slots := #[] } → R (.ok (.ret .none)) { s with heap := h', toks := tk' }) :
    wpAny (model prog w) A.in1 (Builtin.«list.__init__» ⟨[.ref S, .ref J], []⟩)
      (fun fin s' => match fin with | .done f => R (.ok f) s' | .again c' => c'.quiet = true ∧ codeAny (model prog w) A c' R s') (fun e s' => R (.error e) s') s := by
  show wpAny _ A.in1 (do let old ← Builtin.List.listItems (.ref S); Builtin.List.listUpdate (.ref S) (fun _ => #[]); letGo old.toList.reverse; Builtin.List.listExtendWith (.ref S) (.ref J) .none) _ _ s
  refine wpAny_bind ?_
  unfold Builtin.List.listItems
  refine wpAny_bind (wpAny_seqItems hS rfl (wpAny_pure ?_))
  show wpAny _ A.in1 (updateSeq S (fun _ => #[]) >>= fun _ => letGo (#[] : Array Value).toList.reverse >>= fun _ => Builtin.List.listExtendWith (.ref S) (.ref J) .none) _ _ s
  refine wpAny_bind (wpAny_updateSeq hS rfl ?_)
  have hS₂ := Heap.get?_update_self (Obj.mapSeq (fun _ => (#[] : Array Value))) hS rfl
  refine wpAny_bind (wpAny_letGo ?_)
  exact extend_feed (R := R) (s := { s with heap := s.heap.update S (Obj.mapSeq (fun _ => (#[] : Array Value))) }) W .none _ (W.frame₀ _ _ hst (Heap.SameBut.update ..) ⟨_, hS₂⟩) hS₂ hR
theorem list_feed {Q : Value → Shared → Prop} (W : Feed prog w A.in1.in1 s.heap.objs.size J I n Inv₀ Inv Fin) (hst : Inv₀ (s.heap.push { cls := .type "list", data := .seq #[] }))
    (hQ : ∀ acc c h' tk', Fin acc h' → h'.get? s.heap.objs.size = some { cls := .type "list", dict := none, data := .seq acc c, slots := #[] } → Q (.ref s.heap.objs.size) { s with heap := h', toks := tk' }) :
    wpAny (model prog w) A (call (.type "list") [.ref J]) Q E s := by
  refine callType_codes (Q₁ := fun obj s₁ => obj = .ref s.heap.objs.size ∧ s₁ = { s with heap := s.heap.push { cls := .type "list", data := .seq #[] } }) PySem.F.called_list (PySem.F.typeCall_list_1 _) PySem.F.entry_list_init
    (code_list_new _ ⟨rfl, rfl⟩) fun obj s₁ h₁ => ?_
  obtain ⟨rfl, rfl⟩ := h₁
  have hS : (s.heap.push { cls := .type "list", data := .seq #[] }).get? s.heap.objs.size = some { cls := .type "list", data := .seq #[] } := Heap.get?_push_size _ rfl
  refine ⟨⟨_, hS, rfl⟩, PySem.F.args_list_init_2 _ _, list_init_feed (s := { s with heap := s.heap.push { cls := .type "list", data := .seq #[] } }) W hst hS fun acc' c' h' tk' hf hS' => ?_⟩
  exact ⟨rfl, hQ acc' c' h' tk' hf hS'⟩
end
end
-- Zq
section
section
variable {prog : Program} {w : World} {A : Around} {E : Value → Shared → Prop} {s : Shared}
end
namespace callType_own_c
noncomputable def hkS : Prop := ∀ {prog : Program} {w : World} {A : Around} {E : Value → Shared → Prop} {s : Shared} {T newId : String} {Bn : Builtin} {args : List Value} {Q : Value → Shared → Prop} (ft : TypeCalled T newId "object.__init__") (hne : (some newId != some "object.__new__") = true) (hct : checkTypeCall T ⟨args, []⟩ = pure ()) (hcn : checkBuiltinCall newId ⟨.type T :: args, []⟩ = pure ()) (hok : ∀ obj, argsOk "object.__init__" ⟨obj :: args, []⟩) (entryN : entryFor table newId = some Bn) (h : wpAny (model prog w) A.in1.in1 (Bn ⟨.type T :: args, []⟩) (fun fin s' => ∃ obj, fin = .done (.ret obj) ∧ s'.TypeIs obj T ∧ Q obj s') E s), wpAny (model prog w) A (call (.type T) args) Q E s
noncomputable def hkK : Σ' P : Program → World → Around → tQ → Shared → String → String → tV → tQ → Prop, (∀ a b c d e f g h i, P a b c d e f g h i) → hkS := ⟨_, fun hk9 => by intro prog w A E s T newId Bn args Q ft hne hct hcn hok entryN h; revert h; revert entryN; revert hok; revert hcn; revert hct; revert hne; revert ft; revert Bn; apply (hk9 prog w A E s T newId args Q)⟩
namespace Z9
noncomputable def hkP (y : VV) := hkK.1 (y.P 0) (y.W 0) (y.A 0) (y.Q 0) (y.R 0) (y.p 0) (y.p 1) (y.L 0) (y.Q 1)
@[irreducible] noncomputable def hkG1 := epsV0 hkP
@[irreducible] def T : String := hkG1.p 0
@[irreducible] def Q : tQ := hkG1.Q 1
theorem hkM : hkP hkG1 := (by exact @wI _ _ : @wT (hkP hkG1) (by
  with_unfolding_all show hkK.1 (hkG1.P 0) (hkG1.W 0) (hkG1.A 0) (hkG1.Q 0) (hkG1.R 0) T (hkG1.p 1) (hkG1.L 0) Q
  intro Bn ft hne hct hcn hok entryN h
  obtain ⟨c, tl, hmro⟩ := ft.mro
  have hmade := ft.made
  have hsub := ft.sub
  refine wpAny_call (codeAny_of_tree ?_)
  show wpAny _ _ (callAny (.type T) _) _ _ _
  refine wpAny_pure ⟨Code.quiet_builtin _ (by decide +kernel), codeAny_builtin PySem.F.entry_type_call ?_⟩
  rw [Around.under_plain (weight_type_call_type T (hkG1.L 0) []) (units_type_call_type T (hkG1.L 0) [])]
  have h1 := ft.notType
  have h2 := ft.canCreate
  repeat (any_goals (first | assumption | with_reducible (first | refine wpAny_pure ?_ | refine wpAny_bind ?_ | refine wpAny_holding ?_ | refine wpAny_of_eq (by assumption) ?_ | refine wpAny_call ?_) | ((with_reducible refine wpAny_ite_false ?_ ?_); focus (rfl; done)) | ((with_reducible refine wpAny_ite_false ?_ ?_); focus (simp [*]; done)) | wp_delta))
  refine codeAny_mono (codeAny_call_builtin (R := wants (fun obj s₁ => s₁.TypeIs obj T ∧ Q obj s₁) (hkG1.Q 0)) ft.plain entryN (wpAny_of_eq hcn (wpAny_mono h (fun fin s' h' => ?_) fun _ _ x => x))) fun r s₁ hr => ?_
  · obtain ⟨obj, rfl, h'⟩ := h'
    exact h'
  cases r with
  | error e => exact hr
  | ok fl =>
    cases fl with
    | ret obj =>
      obtain ⟨hT, hsi⟩ := hr
      have hli := ft.init.lookup
      have hbi := ft.init.bind obj
      repeat (any_goals (first | assumption | with_reducible (first | refine wpAny_bind ?_ | refine wpAny_holding ?_ | refine wpAny_of_eq (by assumption) ?_ | refine wpAny_specialOf (by assumption) (by assumption) ?_ | refine wpAny_isInstance (by assumption) (by assumption) ?_ | refine wpAny_call ?_) | ((with_reducible refine wpAny_ite_false ?_ ?_); focus (rfl; done)) | wp_delta))
      refine codeAny_mono (codeAny_call_builtin (R := wants (fun r s₂ => r = .none ∧ Q obj s₂) (hkG1.Q 0)) ft.init.plain PySem.F.entry_object_init (ft.init.check _ _ _ _ _ _ _ _ hT (hok obj) (object_init_meets ft.init.lookup ft.made hne (hkG1.P 0) (hkG1.W 0) (hkG1.A 0).in1 _ s₁ ⟨hT, rfl, hsi⟩))) fun r₂ s₂ hr₂ => ?_
      cases r₂ with
      | error e => exact hr₂
      | ok fl₂ =>
        cases fl₂ with
        | ret r =>
          obtain ⟨rfl, hq⟩ := hr₂
          repeat (any_goals (first | assumption | with_reducible (first | refine wpAny_pure ?_) | ((with_reducible refine wpAny_ite_false ?_ ?_); focus (rfl; done)) | wp_delta))
        | _ => exact hr₂.elim
    | _ => exact hr.elim
  ))
end Z9
theorem hkT : hkS := no_implicit_lambda% (@hkapp _ _ hkK.2 (fun a b c d e f g h i => @epsV Z9.hkP (by with_unfolding_all exact Z9.hkM) (⟨e9a, e9b, e9c, e9d, e9e, e9f, e9g, e9h, e9v, e9w, e9x, e9y, e9i, e9j, e9k, e9l, e9m, e9n, e9o, lk [f, g] d9p, e9q, e9r, e9s, e9t, e9u, e9E, e9C, e9T, e9K, lk [c] d9A, e9X, e9S, e9G, lk [b] d9W, lk [a] d9P, lk [d, i] d9Q, lk [e] d9R, e9V, e9Z, e9I, lk [h] d9L, e9M, e9H, e9O, e9N⟩)))
end callType_own_c
theorem callType_own : callType_own_c.hkS := @callType_own_c.hkT
section
variable {prog : Program} {w : World} {A : Around} {E : Value → Shared → Prop} {s : Shared}
theorem zip_own {l x : Addr} {xs : Array Value} {Q : Value → Shared → Prop} (hl : s.heap.IsList l xs)
    (it : ∀ (h₁ : Heap) (Q' : Value → Shared → Prop), h₁ = s.heap.push { cls := .type "list_iterator", data := .fields #[.ref l, .int 0 0] } →
      (∀ h' tk, h₁.StaysIn h' → h₁.objs.size ≤ h'.objs.size → Q' (.ref x) { s with heap := h', toks := tk }) → wpAny (model prog w) A.in1.in1 (pyIter (.ref x)) Q' E { s with heap := h₁ })
    (h : ∀ h' tk TI TO z, s.heap.StaysIn h' → s.heap.objs.size < TI → TO = TI + 1 → z = TI + 2 → IsZip h' z TI TO .none → IsPair h' TI (.ref s.heap.objs.size) (.ref x) → IsPair h' TO .none .none → h'.IsListIter s.heap.objs.size l 0 →
      Q (.ref z) { s with heap := h', toks := tk }) :
    wpAny (model prog w) A (call (.type "zip") [.ref l, .ref x]) Q E s := by
  refine callType_own PySem.F.called_zip (by decide) (PySem.F.typeCall_zip_2 _ _) (PySem.F.newCall_zip_2 _ _) (fun obj => PySem.F.args_object_init_3 obj _ _) PySem.F.entry_zip_new ?_
  have hsub := sub_zip
  obtain ⟨hp, g, d, tk, os⟩ := s
  have hL1 : Heap.IsList (Shared.heap ⟨hp, g, d, tk, os⟩) l xs := hl
  have it' : ∀ {Q' : Value → Shared → Prop}, (∀ h' tk', (hp.push { cls := .type "list_iterator", data := .fields #[.ref l, .int 0 0] }).StaysIn h' → (hp.push { cls := .type "list_iterator", data := .fields #[.ref l, .int 0 0] }).objs.size ≤ h'.objs.size → Q' (.ref x) ⟨h', g, d, tk', os⟩) →
      wpAny (model prog w) A.in1.in1 (pyIter (.ref x)) Q' E ⟨hp.push { cls := .type "list_iterator", data := .fields #[.ref l, .int 0 0] }, g, d, tk, os⟩ := fun {Q'} k => it _ Q' rfl k
  clear it
  repeat (first | with_reducible apply wpAny_pyIter_list hL1 | with_reducible apply it' | with_reducible (first | refine wpAny_pure ?_ | refine wpAny_bind ?_ | refine wpAny_holding ?_ | refine wpAny_of_eq (by assumption) ?_) | ((with_reducible refine wpAny_ite_false ?_ ?_); focus (rfl; done)) | wp_delta)
  intro h' tk' st sz
  repeat (first | with_reducible (first | refine wpAny_pure ?_ | refine wpAny_bind ?_ | refine wpAny_alloc' ?_) | ((with_reducible refine wpAny_ite_false ?_ ?_); focus (rfl; done)) | wp_delta)
  have gz : (((h'.push { cls := .type "tuple", data := .seq #[.ref hp.objs.size, .ref x] }).push { cls := .type "tuple", data := .seq #[.none, .none] }).push
    { cls := .type "zip", data := .fields #[.none, .bool false, .bool false, .ref h'.objs.size, .ref (h'.objs.size + 1)] }).get? ((h'.push { cls := .type "tuple", data := .seq #[.ref hp.objs.size, .ref x] }).push { cls := .type "tuple", data := .seq #[.none, .none] }).objs.size = some
    { cls := .type "zip", data := .fields #[.none, .bool false, .bool false, .ref h'.objs.size, .ref (h'.objs.size + 1)] } := Heap.get?_push_size _ rfl
  have sz1 : (h'.push { cls := .type "tuple", data := .seq #[.ref hp.objs.size, .ref x] }).objs.size = h'.objs.size + 1 := Heap.size_push ..
  have sz2 : ((h'.push { cls := .type "tuple", data := .seq #[.ref hp.objs.size, .ref x] }).push { cls := .type "tuple", data := .seq #[.none, .none] }).objs.size = h'.objs.size + 2 := by rw [Heap.size_push, sz1]
  rw [Heap.size_push] at sz
  have up : ∀ b o, h'.get? b = some o → (((h'.push { cls := .type "tuple", data := .seq #[.ref hp.objs.size, .ref x] }).push { cls := .type "tuple", data := .seq #[.none, .none] }).push
    { cls := .type "zip", data := .fields #[.none, .bool false, .bool false, .ref h'.objs.size, .ref (h'.objs.size + 1)] }).get? b = some o := fun b o e => Heap.get?_push_of_some _ (Heap.get?_push_of_some _ (Heap.get?_push_of_some _ e))
  have g1 : (hp.push { cls := .type "list_iterator", data := .fields #[.ref l, .int 0 0] }).get? hp.objs.size = some _ := Heap.get?_push_size _ rfl
  have gTI : (h'.push { cls := .type "tuple", data := .seq #[.ref hp.objs.size, .ref x] }).get? h'.objs.size = some _ := Heap.get?_push_size _ rfl
  have gTO : ((h'.push { cls := .type "tuple", data := .seq #[.ref hp.objs.size, .ref x] }).push { cls := .type "tuple", data := .seq #[.none, .none] }).get? (h'.objs.size + 1) = some { cls := .type "tuple", data := .seq #[.none, .none] } := by
    rw [← sz1]; exact Heap.get?_push_size _ rfl
  rw [sz2] at gz
  simp only [Heap.size_push]
  refine ⟨_, rfl, ⟨_, gz, rfl⟩, ?_⟩
  refine h _ tk' h'.objs.size (h'.objs.size + 1) (h'.objs.size + 2) (fun b o e => up _ _ (st _ _ (Heap.get?_push_of_some _ e))) (by show hp.objs.size < h'.objs.size; exact sz) rfl rfl gz (Heap.get?_push_of_some _ (Heap.get?_push_of_some _ gTI)) (Heap.get?_push_of_some _ gTO) ⟨_, up _ _ (st _ _ g1), rfl, rfl⟩
end
end
-- Zr
section
section
variable {M : Model} {A : Around} {E : Value → Shared → Prop} {s : Shared} {K : Frag} {x C L f : Addr} {h₀ : Heap} {m : Str → Option Value} {ox : Obj} {od : Option Obj}
theorem nextOf_own {Q : Value → Shared → Prop} (F : Fr h₀ L s.heap m) (X₀ : K.In h₀) (I : InstAt s.heap x ox C od) (hs : findIn K (.ref C) "__next__" = some (some (.ref f))) (hf : isFn K (.ref f) = true)
    (h : wpAny M A (call (.ref f) [.ref x]) Q E s) : wpAny M A (Builtin.SmallTypes.nextOf (.ref x)) Q E s := by
  unfold Builtin.SmallTypes.nextOf
  refine wpAny_bind (special_fn (name := "__next__") (args := []) (X₀.keeps F.keep) I hs (beq_iff_eq.mp hf) (wpAny_mono h (fun v s' hq => ?_) (fun e s' he => he)))
  exact wpAny_pure hq
end
section
variable {prog : Program} {w : World} {A : Around} {E : Value → Shared → Prop} {s : Shared}
end
namespace zip_first_c
noncomputable def hkS : Prop := ∀ {prog : Program} {w : World} {A : Around} {E : Value → Shared → Prop} {s : Shared} {z TI TO i1 x l : Addr} {k : Nat} {xs : Array Value} {a v1 v2 : Value} {PB : Value → Heap → Prop} {Q : Value → Shared → Prop} (hz : IsZip s.heap z TI TO .none) (hTI : IsPair s.heap TI (.ref i1) (.ref x)) (hTO : IsPair s.heap TO v1 v2) (h1 : s.heap.IsListIter i1 l k) (hl : s.heap.IsList l xs) (hx : xs[k]? = some a) (n1 : TI ≠ z) (n2 : TO ≠ z) (n3 : i1 ≠ z) (n4 : l ≠ z) (n5 : TO ≠ i1) (n6 : l ≠ i1) (n7 : TO ≠ x) (n8 : x ≠ z) (n9 : x ≠ i1) (n10 : TI ≠ TO) (n11 : l ≠ TO) (draw : ∀ h₁ (Q' E' : Value → Shared → Prop), (∀ c o, c ≠ z → c ≠ TO → c ≠ i1 → s.heap.get? c = some o → h₁.get? c = some o) → h₁.objs.size = s.heap.objs.size →
      (∀ h₂ tk b, (∀ c o, c ≠ x → h₁.get? c = some o → h₂.get? c = some o) → (∃ o, h₂.get? x = some o) → PB b h₂ → Q' b { s with heap := h₂, toks := tk }) → wpAny (model prog w) A (Builtin.SmallTypes.nextOf (.ref x)) Q' E' { s with heap := h₁ }) (hPB : ∀ b h h', PB b h → (∀ c o, c ≠ z → c ≠ TO → h.get? c = some o → h'.get? c = some o) → PB b h') (hQ : ∀ (h' : Heap) (tk : Nat) (b : Value) (T : Addr), IsZip h' z TI TO (rawInt T) → IsPair h' TO a b → h'.IsListIter i1 l (k + 1) → IsPair h' T a b → PB b h' → s.heap.get? T = none →
      (∀ c o, c ≠ z → c ≠ TO → c ≠ i1 → c ≠ x → s.heap.get? c = some o → h'.get? c = some o) → Q (.ref T) { s with heap := h', toks := tk }), wpAny (model prog w) A (Builtin.«zip.__next__» ⟨[.ref z], []⟩) (fun fin s' => ∃ v, fin = .done (.ret v) ∧ Q v s') E s
noncomputable def hkK : Σ' P : Program → World → Around → tQ → Shared → Addr → Addr → Addr → Addr → Addr → Addr → Nat → (Array Value) → Value → Value → Value → (Value → Heap → Prop) → tQ → Prop, (∀ a b c d e f g h i j k l m n o p q r, P a b c d e f g h i j k l m n o p q r) → hkS := ⟨_, fun hk9 => by intro prog w A E s z TI TO i1 x l k xs a v1 v2 PB Q hz hTI hTO h1 hl hx n1 n2 n3 n4 n5 n6 n7 n8 n9 n10 n11 draw hPB hQ; revert hQ; revert hPB; revert draw; revert n11; revert n10; revert n9; revert n8; revert n7; revert n6; revert n5; revert n4; revert n3; revert n2; revert n1; revert hx; revert hl; revert h1; revert hTO; revert hTI; revert hz; apply (hk9 prog w A E s z TI TO i1 x l k xs a v1 v2 PB Q)⟩
namespace Z9
noncomputable def hkP (y : VV) := hkK.1 (y.P 0) (y.W 0) (y.A 0) (y.Q 0) (y.R 0) (y.N 0) (y.N 1) (y.N 2) (y.N 3) (y.N 4) (y.N 5) (y.N 6) (y.b 0) (y.V 0) (y.V 1) (y.V 2) (y.c 0) (y.Q 1)
@[irreducible] noncomputable def hkG1 := epsV0 hkP
@[irreducible] def s : Shared := hkG1.R 0
@[irreducible] def z : Addr := hkG1.N 0
@[irreducible] def TI : Addr := hkG1.N 1
@[irreducible] def TO : Addr := hkG1.N 2
@[irreducible] def i1 : Addr := hkG1.N 3
@[irreducible] def x : Addr := hkG1.N 4
@[irreducible] def l : Addr := hkG1.N 5
@[irreducible] def k : Nat := hkG1.N 6
@[irreducible] def a : Value := hkG1.V 0
@[irreducible] def v1 : Value := hkG1.V 1
@[irreducible] def v2 : Value := hkG1.V 2
@[irreducible] def PB : (Value → Heap → Prop) := hkG1.c 0
theorem hkM : hkP hkG1 := (by exact @wI _ _ : @wT (hkP hkG1) (by
  with_unfolding_all show hkK.1 (hkG1.P 0) (hkG1.W 0) (hkG1.A 0) (hkG1.Q 0) s z TI TO i1 x l k (hkG1.b 0) a v1 v2 PB (hkG1.Q 1)
  intro hz hTI hTO h1 hl hx n1 n2 n3 n4 n5 n6 n7 n8 n9 n10 n11 draw hPB hQ
  show wpAny _ _ (field (.ref z) 2 >>= _) _ _ _
  refine wpAny_bind (wpAny_field hz rfl (x := .bool false) rfl ?_)
  show wpAny _ _ (field (.ref z) 3 >>= _) _ _ _
  refine wpAny_bind (wpAny_field hz rfl (x := .ref TI) rfl ?_)
  refine wpAny_bind (wpAny_seqItems hTI rfl ?_)
  show wpAny _ _ (Builtin.SmallTypes.ownedTupleIsFree (.ref z) >>= _) _ _ _
  refine wpAny_bind ?_
  unfold Builtin.SmallTypes.ownedTupleIsFree
  refine wpAny_bind (wpAny_field hz rfl (x := .none) rfl (wpAny_pure ?_))
  simp only [if_true]
  refine wpAny_bind (wpAny_rule ?_)
  refine wpAny_bind (wpAny_field hz rfl (x := .ref TO) rfl ?_)
  refine wpAny_bind (wpAny_setField_rec hz (by simp) fun h₁ hz₁ hs₁ => ?_)
  replace hz₁ : IsZip h₁ z TI TO .ellipsis := hz₁
  refine wpAny_bind ?_
  simp only [List.zipIdx_cons, List.zipIdx_nil, List.forIn_cons, List.forIn_nil]
  refine wpAny_bind (wpAny_bind (wpAny_onRaise ?_))
  show wpAny _ _ (Builtin.SmallTypes.nextOf (.ref i1) >>= _) _ _ _
  refine wpAny_bind (wpAny_nextOf_list_item (h1.extBut hs₁.extBut n3) (hl.extBut hs₁.extBut n4) hx fun h₂ h1₂ hs₂ => wpAny_pure ?_)
  have hTO₂ : IsPair h₂ TO v1 v2 := hs₂.extBut _ _ n5 (hs₁.extBut _ _ n2 hTO)
  refine wpAny_bind (wpAny_seqItems hTO₂ rfl ?_)
  refine wpAny_bind (wpAny_updateSeq_pair hTO₂ fun h₃ hTO₃ hs₃ => ?_)
  replace hTO₃ : IsPair h₃ TO a v2 := hTO₃
  refine wpAny_bind (wpAny_letGo (wpAny_pure ?_))
  refine wpAny_bind (wpAny_bind (wpAny_onRaise ?_))
  show wpAny _ _ (Builtin.SmallTypes.nextOf (.ref x) >>= _) _ _ _
  refine wpAny_bind (draw h₃ _ _ (fun c o c1 c2 c3 e => hs₃.extBut _ _ c2 (hs₂.extBut _ _ c3 (hs₁.extBut _ _ c1 e))) (by rw [hs₃.1, hs₂.1, hs₁.1]) fun h₄ tk b hs₄ hx₄ pb => wpAny_pure ?_)
  have hTO₄ : IsPair h₄ TO a v2 := hs₄ _ _ n7 hTO₃
  refine wpAny_bind (wpAny_seqItems hTO₄ rfl ?_)
  refine wpAny_bind (wpAny_updateSeq_pair hTO₄ fun h₅ hTO₅ hs₅ => ?_)
  replace hTO₅ : IsPair h₅ TO a b := hTO₅
  refine wpAny_bind (wpAny_letGo (wpAny_pure (wpAny_pure ?_)))
  refine wpAny_bind (wpAny_seqItems hTO₅ rfl ?_)
  refine wpAny_bind (wpAny_newTuple ?_)
  have hz₅ : IsZip h₅ z TI TO .ellipsis := hs₅.extBut _ _ n2.symm (hs₄ _ _ n8.symm (hs₃.extBut _ _ n2.symm (hs₂.extBut _ _ n3.symm hz₁)))
  have hk₅ : ∀ c o, c ≠ z → c ≠ TO → c ≠ i1 → c ≠ x → s.heap.get? c = some o → h₅.get? c = some o := fun c o c1 c2 c3 c4 e =>
    hs₅.extBut _ _ c2 (hs₄ _ _ c4 (hs₃.extBut _ _ c2 (hs₂.extBut _ _ c3 (hs₁.extBut _ _ c1 e))))
  have h1₅ : h₅.IsListIter i1 l (k + 1) := (((h1₂.extBut hs₃.extBut n5.symm)).at fun o e => hs₄ _ o n9.symm e).extBut hs₅.extBut n5.symm
  have pb₅ : PB b h₅ := hPB b h₄ h₅ pb fun c o c1 c2 e => hs₅.extBut _ _ c2 e
  have hlast : s.heap.get? h₅.objs.size = none := by
    cases e : s.heap.get? h₅.objs.size with
    | none => rfl
    | some o =>
      exfalso
      by_cases c1 : h₅.objs.size = z
      · rw [c1] at e; exact Nat.lt_irrefl _ (Nat.lt_of_lt_of_eq (Heap.lt_size hz₅) c1)
      by_cases c2 : h₅.objs.size = TO
      · exact Nat.lt_irrefl _ (Nat.lt_of_lt_of_eq (Heap.lt_size hTO₅) c2)
      by_cases c3 : h₅.objs.size = i1
      · obtain ⟨_, q, _⟩ := h1₅; exact Nat.lt_irrefl _ (Nat.lt_of_lt_of_eq (Heap.lt_size q) c3)
      by_cases c4 : h₅.objs.size = x
      · obtain ⟨o, q⟩ := hx₄
        exact Nat.lt_irrefl _ (Nat.lt_of_lt_of_eq (Heap.lt_size (hs₅.extBut _ _ n7.symm q)) c4)
      · exact Nat.lt_irrefl _ (Heap.lt_size (hk₅ _ _ c1 c2 c3 c4 e))
  have hzT : z ≠ h₅.objs.size := Nat.ne_of_lt (Heap.lt_size hz₅)
  show wpAny _ _ (Builtin.SmallTypes.ownedTupleHandOut (.ref z) (.ref h₅.objs.size) >>= _) _ _ _
  refine wpAny_bind ?_
  unfold Builtin.SmallTypes.ownedTupleHandOut
  have hz₆ : IsZip (h₅.push { cls := .type "tuple", data := .seq #[a, b] }) z TI TO .ellipsis := Heap.get?_push_of_some _ hz₅
  refine wpAny_bind (wpAny_setField_rec hz₆ (by simp) fun h₇ hz₇ hs₇ => ?_)
  replace hz₇ : IsZip h₇ z TI TO (rawInt h₅.objs.size) := hz₇
  refine wpAny_setField_rec hz₇ (by simp) fun h₈ hz₈ hs₈ => ?_
  replace hz₈ : IsZip h₈ z TI TO (rawInt h₅.objs.size) := hz₈
  have up : ∀ c o, c ≠ z → h₅.get? c = some o → h₈.get? c = some o := fun c o c1 e => hs₈.extBut _ _ c1 (hs₇.extBut _ _ c1 (Heap.get?_push_of_some _ e))
  have hT₈ : IsPair h₈ h₅.objs.size a b := hs₈.extBut _ _ hzT.symm (hs₇.extBut _ _ hzT.symm (Heap.get?_push_size _ rfl))
  refine wpAny_pure ⟨_, rfl, ?_⟩
  exact hQ h₈ _ b _ hz₈ (up _ _ n2 hTO₅) (h1₅.at fun o e => up _ o n3 e) hT₈ (hPB b h₅ h₈ pb₅ fun c o c1 _ e => up c o c1 e) hlast fun c o c1 c2 c3 c4 e => up c o c1 (hk₅ c o c1 c2 c3 c4 e)
  ))
end Z9
theorem hkT : hkS := no_implicit_lambda% (@hkapp _ _ hkK.2 (fun a b c d e f g h i j k l m n o p q r => @epsV Z9.hkP (by with_unfolding_all exact Z9.hkM) (⟨e9a, lk [m] d9b, lk [q] d9c, e9d, e9e, e9f, e9g, e9h, e9v, e9w, e9x, e9y, e9i, e9j, e9k, e9l, e9m, e9n, e9o, e9p, e9q, e9r, e9s, e9t, e9u, e9E, e9C, e9T, e9K, lk [c] d9A, e9X, e9S, e9G, lk [b] d9W, lk [a] d9P, lk [d, r] d9Q, lk [e] d9R, lk [n, o, p] d9V, e9Z, e9I, e9L, e9M, e9H, e9O, lk [f, g, h, i, j, k, l] d9N⟩)))
end zip_first_c
theorem zip_first : zip_first_c.hkS := @zip_first_c.hkT
section
variable {prog : Program} {w : World} {A : Around} {E : Value → Shared → Prop} {s : Shared}
noncomputable abbrev IsZipB (h : Heap) (z TI TO : Addr) (T₀ : Addr) (b : Bool) : Prop :=
  h.get? z = some { cls := .type "zip", dict := none, data := .fields #[rawInt T₀, .bool b, .bool false, .ref TI, .ref TO], slots := #[] }
theorem alive_look {a : Addr} {Q : Option Obj → Shared → Prop} (h : Q (s.heap.get? a) s) : wpAny (model prog w) A (loadIfAlive a) Q E s := fun Γ p hG => by
  show Sem.wp (model prog w) Γ (.loadIfAlive a pure) _ _ p s
  rw [Sem.wp_loadIfAlive]
  exact (wpAny_pure (M := model prog w) (A := A) (E := E) h : wpAny (model prog w) A (pure _) Q E s) Γ p hG
theorem zip_busy {z TI TO T₀ : Addr} {b : Bool} {o : Obj} {Q : Bool → Shared → Prop} (hz : IsZipB s.heap z TI TO T₀ b) (ho : s.heap.get? T₀ = some o)
    (h : ∀ h', IsZipB h' z TI TO T₀ true → Heap.SameBut z s.heap h' → Q false { s with heap := h' }) : wpAny (model prog w) A (Builtin.SmallTypes.ownedTupleIsFree (.ref z)) Q E s := by
  unfold Builtin.SmallTypes.ownedTupleIsFree
  refine wpAny_bind (wpAny_field hz rfl (x := rawInt T₀) rfl ?_)
  show wpAny (model prog w) A (loadIfAlive (Int.toNat (T₀ : Int)) >>= _) Q E s
  refine wpAny_bind (alive_look ?_)
  rw [Int.toNat_natCast, ho]
  refine wpAny_bind (wpAny_field hz rfl (x := .bool b) rfl ?_)
  cases b with
  | true => exact wpAny_pure (h s.heap hz ⟨rfl, fun _ _ => rfl⟩)
  | false => exact wpAny_bind (wpAny_setField_rec hz (by simp) fun h₁ hz₁ hs₁ => wpAny_pure (h h₁ hz₁ hs₁))
theorem zip_later {z TI TO T₀ i1 x l : Addr} {k : Nat} {xs : Array Value} {a : Value} {PB : Value → Heap → Prop} {Q : Value → Shared → Prop}
    {bb : Bool} {oT : Obj} (hz : IsZipB s.heap z TI TO T₀ bb) (ho : s.heap.get? T₀ = some oT) (hTI : IsPair s.heap TI (.ref i1) (.ref x)) (h1 : s.heap.IsListIter i1 l k) (hl : s.heap.IsList l xs) (hx : xs[k]? = some a)
    (n3 : i1 ≠ z) (n4 : l ≠ z) (n8 : x ≠ z) (n9 : x ≠ i1)
    (draw : ∀ h₁ (Q' E' : Value → Shared → Prop), (∀ c o, c ≠ z → c ≠ i1 → s.heap.get? c = some o → h₁.get? c = some o) → h₁.objs.size = s.heap.objs.size →
      (∀ h₂ tk b, (∀ c o, c ≠ x → h₁.get? c = some o → h₂.get? c = some o) → (∃ o, h₂.get? x = some o) → PB b h₂ → Q' b { s with heap := h₂, toks := tk }) → wpAny (model prog w) A (Builtin.SmallTypes.nextOf (.ref x)) Q' E' { s with heap := h₁ })
    (hPB : ∀ b h h', PB b h → (∀ c o, h.get? c = some o → h'.get? c = some o) → PB b h')
    (hQ : ∀ (h' : Heap) (tk : Nat) (b : Value) (T : Addr), IsZipB h' z TI TO T₀ true → h'.IsListIter i1 l (k + 1) → IsPair h' T a b → PB b h' → s.heap.get? T = none →
      (∀ c o, c ≠ z → c ≠ i1 → c ≠ x → s.heap.get? c = some o → h'.get? c = some o) → Q (.ref T) { s with heap := h', toks := tk }) :
    wpAny (model prog w) A (Builtin.«zip.__next__» ⟨[.ref z], []⟩) (fun fin s' => ∃ v, fin = .done (.ret v) ∧ Q v s') E s := by
  show wpAny _ _ (field (.ref z) 2 >>= _) _ _ _
  refine wpAny_bind (wpAny_field hz rfl (x := .bool false) rfl ?_)
  show wpAny _ _ (field (.ref z) 3 >>= _) _ _ _
  refine wpAny_bind (wpAny_field hz rfl (x := .ref TI) rfl ?_)
  refine wpAny_bind (wpAny_seqItems hTI rfl ?_)
  show wpAny _ _ (Builtin.SmallTypes.ownedTupleIsFree (.ref z) >>= _) _ _ _
  refine wpAny_bind (zip_busy hz ho fun h₁ hz₁ hs₁ => ?_)
  simp only [Bool.false_eq_true, if_false]
  refine wpAny_bind ?_
  rw [List.forIn_toArray, List.forIn_cons]
  refine wpAny_bind (wpAny_bind (wpAny_holding ?_))
  show wpAny _ _ (Builtin.SmallTypes.nextOf (.ref i1) >>= _) _ _ _
  refine wpAny_bind (wpAny_nextOf_list_item (h1.extBut hs₁.extBut n3) (hl.extBut hs₁.extBut n4) hx fun h₂ h1₂ hs₂ => wpAny_pure (wpAny_pure ?_))
  dsimp only
  rw [List.forIn_cons]
  refine wpAny_bind (wpAny_bind (wpAny_holding ?_))
  show wpAny _ _ (Builtin.SmallTypes.nextOf (.ref x) >>= _) _ _ _
  refine wpAny_bind (draw h₂ _ _ (fun c o c1 c3 e => hs₂.extBut _ _ c3 (hs₁.extBut _ _ c1 e)) (by rw [hs₂.1, hs₁.1]) fun h₄ tk b hs₄ hx₄ pb => wpAny_pure (wpAny_pure ?_))
  dsimp only
  rw [List.forIn_nil]
  refine wpAny_pure ?_
  dsimp only
  refine wpAny_bind (wpAny_newTuple ?_ (by show 2 ≤ _; rw [sizeLine_eq]; decide))
  have hz₄ : IsZipB h₄ z TI TO T₀ true := hs₄ _ _ n8.symm (hs₂.extBut _ _ n3.symm hz₁)
  have hk₄ : ∀ c o, c ≠ z → c ≠ i1 → c ≠ x → s.heap.get? c = some o → h₄.get? c = some o := fun c o c1 c3 c4 e => hs₄ _ _ c4 (hs₂.extBut _ _ c3 (hs₁.extBut _ _ c1 e))
  have h1₄ : h₄.IsListIter i1 l (k + 1) := h1₂.at fun o e => hs₄ _ o n9.symm e
  have hlast : s.heap.get? h₄.objs.size = none := by
    cases e : s.heap.get? h₄.objs.size with
    | none => rfl
    | some o =>
      exfalso
      by_cases c1 : h₄.objs.size = z
      · exact Nat.lt_irrefl _ (Nat.lt_of_lt_of_eq (Heap.lt_size hz₄) c1)
      by_cases c3 : h₄.objs.size = i1
      · obtain ⟨_, q, _⟩ := h1₄; exact Nat.lt_irrefl _ (Nat.lt_of_lt_of_eq (Heap.lt_size q) c3)
      by_cases c4 : h₄.objs.size = x
      · obtain ⟨o, q⟩ := hx₄
        exact Nat.lt_irrefl _ (Nat.lt_of_lt_of_eq (Heap.lt_size q) c4)
      · exact Nat.lt_irrefl _ (Heap.lt_size (hk₄ _ _ c1 c3 c4 e))
  refine wpAny_pure ⟨_, rfl, ?_⟩
  have up : ∀ c o, h₄.get? c = some o → (h₄.push { cls := .type "tuple", data := .seq #[a, b] }).get? c = some o := fun c o e => Heap.get?_push_of_some _ e
  exact hQ _ tk b h₄.objs.size (up _ _ hz₄) (h1₄.at fun o e => up _ o e) (Heap.get?_push_size _ rfl) (hPB b _ _ pb up) hlast fun c o c1 c3 c4 e => up _ _ (hk₄ c o c1 c3 c4 e)
theorem zip_over {z TI TO T₀ i1 x l : Addr} {k : Nat} {xs : Array Value} {bb : Bool} {oT : Obj} {Q : Fin → Shared → Prop} (hh : A.handled = none)
    (hz : IsZipB s.heap z TI TO T₀ bb) (ho : s.heap.get? T₀ = some oT) (hTI : IsPair s.heap TI (.ref i1) (.ref x)) (h1 : s.heap.IsListIter i1 l k) (hl : s.heap.IsList l xs) (hx : xs[k]? = none) (n3 : i1 ≠ z) (n4 : l ≠ z)
    (hE : ∀ h' e, (∀ c o, c ≠ z → c ≠ i1 → s.heap.get? c = some o → h'.get? c = some o) → (∃ o, h'.get? e = some o ∧ o.cls = .type "StopIteration") → E (.ref e) { s with heap := h' }) :
    wpAny (model prog w) A (Builtin.«zip.__next__» ⟨[.ref z], []⟩) Q E s := by
  show wpAny _ _ (field (.ref z) 2 >>= _) _ _ _
  refine wpAny_bind (wpAny_field hz rfl (x := .bool false) rfl ?_)
  show wpAny _ _ (field (.ref z) 3 >>= _) _ _ _
  refine wpAny_bind (wpAny_field hz rfl (x := .ref TI) rfl ?_)
  refine wpAny_bind (wpAny_seqItems hTI rfl ?_)
  show wpAny _ _ (Builtin.SmallTypes.ownedTupleIsFree (.ref z) >>= _) _ _ _
  refine wpAny_bind (zip_busy hz ho fun h₁ hz₁ hs₁ => ?_)
  simp only [Bool.false_eq_true, if_false]
  refine wpAny_bind ?_
  rw [List.forIn_toArray, List.forIn_cons]
  refine wpAny_bind (wpAny_bind (wpAny_holding ?_))
  show wpAny _ _ (Builtin.SmallTypes.nextOf (.ref i1) >>= _) _ _ _
  refine wpAny_bind (wpAny_nextOf_list_end hh (h1.extBut hs₁.extBut n3) (hl.extBut hs₁.extBut n4) hx fun h₂ e hs₂ he => ?_)
  exact hE h₂ e (fun c o c1 c3 q => hs₂ _ _ c3 (hs₁.extBut _ _ c1 q)) he
end
end
-- Tn
section
section
variable {prog : Program} {w : World} {A₀ A : Around} {s : Shared} {base h₀ : Heap} {outer : List Env} {L : Addr} {m : Str → Option Value} {env : Env} {K : Frag} {news : List (Addr × Obj)}
  {R : Result → Shared → Prop} {name qual : Str} {params : Arguments} {body : List Stmt} {scope : Scope} {dV kV doc pm cdv ct oc : Value} {an od : Option Addr} {osl : Array (Option Value)} {f : Addr} {args : Args} {binds : List (Str × Value)}
  {p : Program} {loose : List Str} {mean : ExcName → Option Value} {mg mb : Str → Option Value}
theorem frames_mem {b : Addr} (hf : env.frame = some L) (hm : b ∈ (env :: outer).filterMap (·.frame)) : b = L ∨ b ∈ outer.filterMap (·.frame) := by
  obtain ⟨env', he, hb⟩ := List.mem_filterMap.mp hm
  rcases List.mem_cons.mp he with rfl | he
  · exact .inl (Option.some.inj (hf.symm.trans hb)).symm
  · exact .inr (List.mem_filterMap.mpr ⟨env', he, hb⟩)
theorem hid_dicts (D : KtsDicts (outer.filterMap (·.frame)) h₀) (F : Fr h₀ L s.heap m) (N : News h₀ L s.heap news) (hf : env.frame = some L) :
    KtsDicts ((env :: outer).filterMap (·.frame)) (hideAll s.heap (news.map (·.1))) := fun b hb => by
  obtain ⟨st, nL⟩ := hid_keep F N
  rcases frames_mem hf hb with rfl | hb
  · obtain ⟨oL, es, ep, hL, hLd, _⟩ := F.ns
    exact ⟨oL, es, ep, hideAll_get _ hL nL, hLd⟩
  · obtain ⟨o, es, n, ho, hd⟩ := D b hb
    exact ⟨o, es, n, st b o ho, hd⟩
theorem call_turn (h : ∀ g L' h₁, g = hideAll s.heap (news.map (·.1)) → Fr g L' h₁ (fun y => binds.reverse.lookup y) → News g L' h₁ news → Below A base (env :: outer) g → K.In g → Top p loose mean mg mb g → KtsDicts ((env :: outer).filterMap (·.frame)) g →
      wpAny (model prog w) (A.deeper (envOf qual scope L' f cdv)) (execs body (envOf qual scope L' f cdv))
        (fun fl s' => R (.ok (.ret (match fl with | .ret v => v | _ => .none))) s')
        (fun e s' => wpAny (model prog w) (A.deeper (envOf qual scope L' f cdv)) (leaving (envOf qual scope L' f cdv) e) (fun _ s'' => R (.error e) s'') (fun e' s'' => R (.error e') s'') s')
        { s with heap := h₁, toks := s.toks + binds.length })
    (hA : A.frames = some (env :: outer) := by exact rfl) (hf : env.frame = some L := by exact rfl) (hke : env.scope.kind = .function := by assumption)
    (B : Below A₀ base outer h₀ := by k_asm) (F : Fr h₀ L s.heap m := by k_asm) (N : News h₀ L s.heap news := by k_asm) (XB : K.In base := by assumption) (TB : Top p loose mean mg mb base := by assumption) (D : KtsDicts (outer.filterMap (·.frame)) h₀ := by assumption)
    (ho : K.lookup f = some ⟨oc, od, .func (fnOf name qual params body scope dV kV doc pm an cdv ct), osl⟩ := by k_is) (hcd : codeIn K cdv qual = true := by k_is) (hroom : A.depth < recursionLimit := by ktr_room)
    (hbind : BindsTo s (fnOf name qual params body scope dV kV doc pm an cdv ct) args binds := by walk_at "fr_b") (hcell : ∀ x ∈ scope.names, x.2 ≠ .cell := by decide) (hloc : ∀ y ∈ binds, scope.names.lookup y.1 = some .local := by exact locs rfl)
    (hco : scope.isCoroutine = false := by exact rfl) (hgen : scope.isGenerator = false := by exact rfl) (hk : scope.kind = .function := by exact rfl) : codeAny (model prog w) A (.call (.ref f) args) R s := by
  have D' := hid_dicts (env := env) D F N hf
  refine call_mut (fun g L' h₁ eg F' N' B' X' T' => ?_) hA hf hke B F N (XB.keeps B.stays) (TB.keeps B.stays) ho hcd hroom hbind hcell hloc hco hgen hk
  exact h g L' h₁ eg F' N' B' X' T' (eg ▸ D')
theorem turn_back {h' g' : Heap} (B : Below A₀ base outer h₀) (F : Fr h₀ L s.heap m) (N : News h₀ L s.heap news) (D : KtsDicts (outer.filterMap (·.frame)) h₀) (hf : env.frame = some L)
    (T' : KtsTurn ((env :: outer).filterMap (·.frame)) (hideAll s.heap (news.map (·.1))) g') (S' : g'.StaysIn h') :
    ∃ h₀', KtsTurn (outer.filterMap (·.frame)) h₀ h₀' ∧ Fr h₀' L h' m ∧ Below A₀ base outer h₀' ∧ KtsDicts (outer.filterMap (·.frame)) h₀' ∧ (∀ b, h₀.get? b = none → h₀'.get? b = none) ∧
      (∀ b o, b ∉ news.map (·.1) → b ≠ L → h₀.get? b = none → s.heap.get? b = some o → h'.get? b = some o) := by
  obtain ⟨st, nL⟩ := hid_keep F N
  have nL₀ : h₀.get? L = none := kts_self F
  obtain ⟨oL, es, ep, hL, hLd, hLk, hLf⟩ := F.ns
  have hLg := hideAll_get _ hL nL
  obtain ⟨sl, hs⟩ := T'.up hLg
  obtain ⟨T₁, S₁⟩ := kts_turn_at (h := h') (fs := outer.filterMap (·.frame)) (g := h₀)
    (fun b hb => by
      obtain ⟨_, o, ho', _⟩ := B.frames.mem hb
      exact ⟨o, ho'⟩)
    (fun b o e nmem => S' b o (T'.other b o (st b o e) (fun q => by
      rcases frames_mem hf q with z | z
      · rw [z, nL₀] at e
        cases e
      · exact nmem z)))
    (fun b o e hm => by
      obtain ⟨sl', hs'⟩ := T'.up (st b o e)
      exact ⟨sl', S' _ _ hs'⟩)
  have B₃ : Below A₀ base outer (ktsHeap h' (outer.filterMap (·.frame)) h₀) := ⟨B.stack, fun b o e => T₁.other b o (B.stays b o e) (fun hm => by
    rw [(B.frames.mem hm).1] at e
    cases e), B.frames.of_keeps fun b o e _ => by
    obtain ⟨sl', hs'⟩ := T₁.up e
    exact ⟨_, hs', rfl⟩⟩
  refine ⟨_, T₁, ⟨⟨_, es, ep, S' _ _ hs, hLd, hLk, hLf⟩, S₁, by rw [T₁.size]; exact F.above⟩, B₃, D.turn T₁, T₁.none_, fun b o nb hbL hb0 e => ?_⟩
  refine S' b o (T'.other b o (hideAll_get _ e nb) fun q => ?_)
  rcases frames_mem hf q with z | z
  · exact hbL z
  · obtain ⟨_, o', ho', _⟩ := B.frames.mem z
    rw [hb0] at ho'; cases ho'
end
noncomputable def MutSC (w : World) (p : Program) (loose : List Str) (mean : ExcName → Option Value) (mg mb : Str → Option Value) (f : Addr) (args : List Value) (kw : List (Str × Value)) (s : Shared) (muts : List (Addr × Obj)) (dr ur : Nat) (Post : Heap → Value → Prop) (dp un : Nat) (gd : Option (List Code)) (cn : Str) (cs : Scope) (a : Addr) (ccd : Value) (cl : List (Str × Addr)) (outer : List Env) (A₀ : Around) (base h₀ : Heap) (L : Addr) (m : Str → Option Value) : Prop :=
  ∀ (Q E : Value → Shared → Prop),
    Below A₀ base outer h₀ → Fr h₀ L s.heap m → News h₀ L s.heap muts → (hd.heap_39 w.params).In base → Top p loose mean mg mb base → KtsDicts (outer.filterMap (·.frame)) h₀ → cs.kind = .function → dp + dr < recursionLimit → un + ur < cLine →
    (∀ v h' tk' g', KtsTurn ((envX cn cs L a ccd cl :: outer).filterMap (·.frame)) (hideAll s.heap (muts.map (·.1))) g' → g'.StaysIn h' → Post h' v → Q v { s with heap := h', toks := tk' }) →
    wpAny (model PG w) (ktrTop dp un gd cn cs L a ccd cl outer) (call (.ref f) args kw) Q E s
noncomputable def MutS (w : World) (p : Program) (loose : List Str) (mean : ExcName → Option Value) (mg mb : Str → Option Value) (f : Addr) (args : List Value) (kw : List (Str × Value)) (s : Shared) (muts : List (Addr × Obj)) (dr ur : Nat) (Post : Heap → Value → Prop) : Prop :=
  ∀ (dp un : Nat) (gd : Option (List Code)) (cn : Str) (cs : Scope) (a : Addr) (ccd : Value) (cl : List (Str × Addr)) (outer : List Env) (A₀ : Around) (base h₀ : Heap) (L : Addr) (m : Str → Option Value), MutSC w p loose mean mg mb f args kw s muts dr ur Post dp un gd cn cs a ccd cl outer A₀ base h₀ L m
theorem news_one {g h1 h' : Heap} {L D : Addr} {m : Str → Option Value} {o : Obj} (FC : Fr g L h1 m) (p2 : h1.get? D = none) (p4 : h'.get? D = some o) : News g L h' [(D, o)] := fun q hq => by
  rw [List.mem_singleton.mp hq]
  refine ⟨p4, fun z => ?_, ?_⟩
  · obtain ⟨oL, _, _, hL, _⟩ := FC.ns
    have z' : D = L := z
    rw [z', hL] at p2; cases p2
  · cases z : g.get? D with
    | none => rfl
    | some o => have z' := FC.keep _ _ z; rw [p2] at z'; cases z'
theorem turn_list {fs : List Addr} {g g' : Heap} {l : Addr} {vs : Array Value} (T : KtsTurn fs g g') (hl : g.IsList l vs) : g'.IsList l vs := by
  obtain ⟨o, e, hc, c, hd⟩ := hl
  obtain ⟨sl, hs⟩ := T.up e
  exact ⟨_, hs, hc, c, hd⟩
theorem sl3 {fs : List Addr} {g base h : Heap} {L l : Addr} {m : Str → Option Value} {vs : Array Value} (F : Fr base L h m := by assumption) (T : KtsTurn fs g base := by assumption) (hl : g.IsList l vs := by assumption) : h.IsList l vs := stays_list F.keep (turn_list T hl)
end
-- Tc
section
open PySem.Spec
section
variable {prog : Program} {w : World} {A₀ : Around} {E : Value → Shared → Prop} {s' : Shared} {base g g₀ h : Heap} {outer : List Env} {L a e : Addr} {m : Str → Option Value} {name : Str} {scope : Scope} {cd : Value}
  {b₀ : Stmt} {suite : List Stmt} {pos np : Pos} {rest : List ExceptHandler} {Q : Flow → Shared → Prop} {news : List (Addr × Obj)} {KF : Frag}
  {p : Program} {loose : List Str} {mean : ExcName → Option Value} {mg mb : Str → Option Value} {x : Str} {X T' : String}
theorem caught_new0 (hx : Heap.NewExc h s'.heap e X) (F : Fr g L h m) (N : News g L h news) (K : Below A₀ base outer g) (XB : KF.In base) (TB : Top p loose mean mg mb base)
    (D : KtsDicts (outer.filterMap (·.frame)) g) (T0 : KtsTurn (outer.filterMap (·.frame)) g₀ g)
    (ex : nsIn KF mainGlobals x = some none) (hv : bootBuiltins x = some (.type T')) (hn' : x ≠ "__name__")
    (hexc : isSubtype (.type T') (.type "BaseException") = pure true) (hnt : isSubtype (.type ((Manifest.find? T').elim "type" fun y => y.metatype)) (.type "tuple") = pure false) (hsub : isSubtype (.type X) (.type T') = pure true)
    (k : ∀ h' g', KtsTurn (outer.filterMap (·.frame)) g₀ g' → Fr g' L h' m → News g' L h' news → Below A₀ base outer g' → KF.In g' → Top p loose mean mg mb g' → KtsDicts (outer.filterMap (·.frame)) g' →
      wpAny (model prog w) ((A₀.deeper (envOf name scope L a cd)).mark (some (.ref e))) (execs (b₀ :: suite) (envOf name scope L a cd)) Q E { s' with heap := h' })
    (hk : scope.kind = .function := by rfl) (hxk : (envOf name scope L a cd).kindOf x = some .globalImplicit := by rfl) (hd : (x == ("__debug__" : Str)) = false := by decide)
    (hE : PassesOwnAt (model prog w) ((A₀.deeper (envOf name scope L a cd)).mark (some (.ref e))) (A₀.deeper (envOf name scope L a cd)) (envOf name scope L a cd) E := by passes_own) :
    wpAny (model prog w) (A₀.deeper (envOf name scope L a cd)) (noteFrame (.ref e) (envOf name scope L a cd))
      (fun _ s₂ => wpAny (model prog w) (A₀.deeper (envOf name scope L a cd)) (setFlight (.ref e) none) (fun _ s₃ =>
        wpAny (model prog w) (A₀.deeper (envOf name scope L a cd)) (handleBy (.ref e) (envOf name scope L a cd) (.ExceptHandler (some (.Name x np)) none (b₀ :: suite) pos :: rest)) Q E s₃) E s₂) E s' := by
  have K' := K.push (name := name) (a := a) (cd := cd) F hk
  have hin : ∀ env ∈ (envOf name scope L a cd :: outer), ∀ b, env.frame = some b → b ∈ (envOf name scope L a cd :: outer).filterMap (·.frame) := fun env he b hb => List.mem_filterMap.mpr ⟨env, he, hb⟩
  have st : base.StaysIn (hideAll h ((envOf name scope L a cd :: outer).filterMap (·.frame))) := fun b o q => hideAll_get _ (K'.stays b o q) fun hm => by
    rw [(K'.frames.mem hm).1] at q; cases q
  have hl : ∀ q ∈ news, (hideAll h ((envOf name scope L a cd :: outer).filterMap (·.frame))).get? q.1 = some q.2 ∧ g.get? q.1 = none := fun q hq => by
    refine ⟨hideAll_get _ (N q hq).1 fun hm => ?_, (N q hq).2.2⟩
    obtain ⟨env, he, hf⟩ := List.mem_filterMap.mp hm
    rcases List.mem_cons.mp he with rfl | he
    · exact (N q hq).2.1 (Option.some.inj hf).symm
    · obtain ⟨o, ho, _⟩ := (K.frames.mem (List.mem_filterMap.mpr ⟨env, he, hf⟩)).2
      rw [(N q hq).2.2] at ho; cases ho
  obtain ⟨ob, tp, he, hcls, hdd⟩ := hx.there
  have hen : (hideAll h ((envOf name scope L a cd :: outer).filterMap (·.frame))).get? e = none := by
    cases q : (hideAll h ((envOf name scope L a cd :: outer).filterMap (·.frame))).get? e with
    | none => rfl
    | some o => have := of_hideAll _ q; rw [hx.new] at this; cases this
  have hBG : ∀ b o, h.get? b = some o → b ∉ (envOf name scope L a cd :: outer).filterMap (·.frame) → (hideAll h ((envOf name scope L a cd :: outer).filterMap (·.frame))).get? b = some o := fun b o q nm => hideAll_get _ q nm
  unfold noteFrame
  simp only [show (envOf name scope L a cd).frame = some L from rfl]
  refine wpAny_bind (wpAny_field he hdd (i := 1) (x := Value.none) rfl ?_)
  rw [if_neg (by decide)]
  refine wpAny_newEntryW (a0 := tp) K'.stack ((funFrames_hide K'.frames hin).of_keeps fun b o hb _ => ⟨o, hx.keeps b o hb, rfl⟩) rfl he (fun b o hb => hx.keeps b o (of_hideAll _ hb)) hen hdd (by simp) rfl fun h₅ hL₅ => ?_
  obtain ⟨k1, k2, k3, k4⟩ := hL₅
  rw [hcls] at k3
  have hheld : Heap.FlyingW (hideAll h ((envOf name scope L a cd :: outer).filterMap (·.frame))) (envOf name scope L a cd :: outer) e (.type X) tp h₅ := ⟨k1, hen, k2, k3⟩
  have hLn : (hideAll h ((envOf name scope L a cd :: outer).filterMap (·.frame))).get? L = none := by
    obtain ⟨_, ⟨L', _, hf, hn', _⟩, _⟩ := k2
    obtain rfl : L = L' := Option.some.inj hf
    exact hn'
  have hsm : h.UpToSlots h₅ := (Heap.UpToSlots.of_keeps hx.keeps).trans k4
  obtain ⟨g₅, T₅, F₅, K₅⟩ := kts_ground K F hBG hheld.1 hsm
  have X₅ : KF.In g₅ := XB.keeps K₅.stays
  have P₅ : TopRead p loose mg mb g₅ := topRead_of (TB.keeps K₅.stays)
  obtain ⟨ob, hob, hobc⟩ := hheld.there
  refine wpAny_handleBy_builtin (X := X) (T := T') (b := true) hexc hnt hsub (name_B F₅ X₅ P₅ ex hv hn' ⟨rfl, ⟨ob, hob, hobc⟩, ?_⟩ hk hxk hd)
  refine lands_againW hheld fun h₆ hfl₆ hsm₆ => ?_
  obtain ⟨g₆, T₆, F₆, K₆⟩ := kts_ground K F hBG hfl₆.1 (hsm.trans hsm₆)
  have Nl : News g₆ L h₆ news := fun q hq => ⟨hfl₆.1 _ _ (hl q hq).1, (fun z => by have := (hl q hq).1; rw [z, hLn] at this; cases this), T₆.none_ _ (hl q hq).2⟩
  have X₆ : KF.In g₆ := XB.keeps K₆.stays
  have P₆ : Top p loose mean mg mb g₆ := TB.keeps K₆.stays
  have D₆ : KtsDicts (outer.filterMap (·.frame)) g₆ := D.turn T₆
  exact wpAny_passesOwnAt hE (k h₆ g₆ (T0.trans T₆) F₆ Nl K₆ X₆ P₆ D₆)
theorem caught_stop (k : ∀ h' g', KtsTurn (outer.filterMap (·.frame)) g₀ g' → Fr g' L h' m → News g' L h' news → Below A₀ base outer g' → KF.In g' → Top p loose mean mg mb g' → KtsDicts (outer.filterMap (·.frame)) g' →
      wpAny (model prog w) ((A₀.deeper (envOf name scope L a cd)).mark (some (.ref e))) (execs (b₀ :: suite) (envOf name scope L a cd)) Q E { s' with heap := h' })
    (hx : Heap.NewExc h s'.heap e "StopIteration" := by assumption) (F : Fr g L h m := by assumption) (N : News g L h news := by assumption) (K : Below A₀ base outer g := by assumption) (XB : KF.In base := by assumption) (TB : Top p loose mean mg mb base := by assumption)
    (D : KtsDicts (outer.filterMap (·.frame)) g := by assumption) (T0 : KtsTurn (outer.filterMap (·.frame)) g₀ g := by first | assumption | exact KtsTurn.refl)
    (ex : nsIn KF mainGlobals "StopIteration" = some none := by k_is) (hk : scope.kind = .function := by rfl) (hxk : (envOf name scope L a cd).kindOf "StopIteration" = some .globalImplicit := by rfl)
    (hE : PassesOwnAt (model prog w) ((A₀.deeper (envOf name scope L a cd)).mark (some (.ref e))) (A₀.deeper (envOf name scope L a cd)) (envOf name scope L a cd) E := by passes_own) :
    wpAny (model prog w) (A₀.deeper (envOf name scope L a cd)) (noteFrame (.ref e) (envOf name scope L a cd))
      (fun _ s₂ => wpAny (model prog w) (A₀.deeper (envOf name scope L a cd)) (setFlight (.ref e) none) (fun _ s₃ =>
        wpAny (model prog w) (A₀.deeper (envOf name scope L a cd)) (handleBy (.ref e) (envOf name scope L a cd) (.ExceptHandler (some (.Name "StopIteration" np)) none (b₀ :: suite) pos :: rest)) Q E s₃) E s₂) E s' :=
  caught_new0 (T' := "StopIteration") hx F N K XB TB D T0 ex PyProof.Rows.Boot.«StopIteration» (by decide) (by rw [isSubtype_type]; kernel_rfl) (by rw [isSubtype_type]; kernel_rfl) (by kts_sub) k hk hxk (by decide) hE
end
/-! list iterators in the ledger -/
noncomputable abbrev liObj (l : Addr) (i : Nat) : Obj := { cls := .type "list_iterator", data := .fields #[.ref l, .int i 0] }
noncomputable abbrev liEnd (i : Nat) : Obj := { cls := .type "list_iterator", data := .fields #[.none, .int i 0] }
section
variable {prog : Program} {w : World} {A : Around} {E : Value → Shared → Prop} {s : Shared} {h₀ : Heap} {L l it : Addr} {m : Str → Option Value} {news : List (Addr × Obj)} {g : Obj → List (Addr × Obj)} {vs : Array Value} {x : Value} {i : Nat}
theorem li_iter {Q : Value → Shared → Prop} (h : ∀ (I : Addr) h', Fr h₀ L h' m → News h₀ L h' ((I, liObj l 0) :: news) → (∀ p ∈ news, p.1 < I) → Q (.ref I) { s with heap := h' })
    (F : Fr h₀ L s.heap m := by k_asm) (N : News h₀ L s.heap news := by k_asm) (hl : s.heap.IsList l vs := by is_list) :
    wpAny (model prog w) A (call (.builtin "iter") [.ref l]) Q E s := by
  refine call_function_entry (by decide +kernel) (by decide +kernel) kdk_entry_iter (kdk_args_iter _) ?_
  unfold Builtin.«iter»
  refine wpAny_bind (m := someArgs "iter" 1 2 _) (wpAny_of_eq (a := [Value.ref l]) (by first | rfl | kernel_rfl!) ?_)
  show wpAny _ _ (pyIter (.ref l) >>= _) _ _ _
  refine wpAny_bind (wpAny_pyIter_list hl ?_)
  exact wpAny_pure ⟨_, rfl, h _ _ (F.push _) (News.push F N _ rfl) (fun q hq => Heap.lt_size (N q hq).1)⟩
theorem li_special {Q : Option Value → Shared → Prop} (ho : s.heap.get? it = some (liObj l i)) (hl : s.heap.IsList l vs) (hx : vs[i]? = some x)
    (hQ : ∀ h', h'.get? it = some (liObj l (i + 1)) → Heap.SameBut it s.heap h' → Q (some x) { s with heap := h' }) :
    wpAny (model prog w) A (callSpecial? (.ref it) (Str.ofString "__next__")) Q E s := by
  have hit : s.heap.IsListIter it l i := ⟨_, ho, rfl, rfl⟩
  obtain ⟨ol, hol, _, nl, hdl⟩ := hl
  refine wpAny_callSpecial?_slot (name := Str.ofString "__next__") hit.typeIs slot_listiter_next
    (wpAny_call_entry slot_listiter_next hit.typeIs entry_listiter_next ?_ (args_listiter_next _))
  show wpAny _ _ (field (.ref it) 0 >>= _) _ _ s
  refine wpAny_bind (wpAny_field ho rfl (x := .ref l) rfl ?_)
  show wpAny _ _ (if (Value.ref l == Value.none) = true then _ else _) _ _ s
  rw [if_neg (show ¬ ((Value.ref l == Value.none) = true) from Bool.false_ne_true)]
  show wpAny _ _ (field (.ref it) 1 >>= _) _ _ s
  refine wpAny_bind (wpAny_field ho rfl (x := .int i 0) rfl ?_)
  show wpAny _ _ (seqItems? (.ref l) >>= _) _ _ s
  refine wpAny_bind (wpAny_seqItems hol hdl ?_)
  simp only [Int.toNat_natCast, hx]
  refine wpAny_bind (wpAny_setField ho rfl (by simp) (wpAny_pure ⟨x, rfl, hQ _ ?_ (Heap.SameBut.update ..)⟩))
  rw [Heap.get?_update_self _ ho rfl]
  simp [Obj.mapFields, rawInt]
theorem li_next {Q : Value → Shared → Prop} {us : List Value} (h : ∀ h', Fr h₀ L h' m → News h₀ L h' (g (liObj l (i + 1))) → Q x { s with heap := h' })
    (F : Fr h₀ L s.heap m := by k_asm) (N : News h₀ L s.heap news := by k_asm) (U : UpdF it (liObj l i) news g := by k_updF) (hl : s.heap.IsList l us.toArray := by is_list) (hx : us[i]? = some x := by assumption) :
    wpAny (model prog w) A (call (.builtin "next") [.ref it]) Q E s := by
  obtain ⟨pre, post, hl', hg, a, b⟩ := U.split
  have hmem : (it, liObj l i) ∈ news := by rw [hl']; exact List.mem_append_right _ (.head _)
  have hm := N _ hmem
  have hit : s.heap.IsListIter it l i := ⟨_, hm.1, rfl, rfl⟩
  refine call_function_entry (by decide +kernel) (by decide +kernel) kdk_entry_next (kdk_args_next _) ?_
  unfold Builtin.«next»
  refine wpAny_bind (m := someArgs "next" 1 2 _) (wpAny_of_eq (a := [Value.ref it]) (by first | rfl | kernel_rfl!) ?_)
  dsimp only
  refine wpAny_bind (wpAny_specialOf (name := Str.ofString "__next__") hit.typeIs slot_listiter_next.lookup ?_)
  refine wpAny_ite_split (fun hab => absurd hab (by decide)) (fun _ => ?_)
  refine wpAny_bind (li_special hm.1 hl (by simpa using hx) fun h' ho' hs => ?_)
  exact wpAny_pure ⟨_, rfl, h h' (F.change hs hm.2.1 hm.2.2) (hg _ ▸ (show News h₀ L s.heap (pre ++ (it, liObj l i) :: post) from hl' ▸ N).setIn a b hs ho')⟩
theorem stop_raise {α : Type} {M : Model} {Q : α → Shared → Prop} (hh : A.handled = none) (h : ∀ h' e, Heap.NewExc s.heap h' e "StopIteration" → E (.ref e) { s with heap := h' }) :
    wpAny M A (Builtin.SmallTypes.stopIteration : Sem α) Q E s := by
  show wpAny _ _ (newExc (.type "StopIteration") [] >>= _) _ _ _
  refine wpAny_bind ?_
  simp only [newExc, newTuple]
  refine wpAny_bind (wpAny_newObj_type ?_ (by size_fits))
  refine wpAny_bind (m := firstArgMember _ _) (wpAny_of_eq (a := Value.none) (by first | rfl | (simp only [firstArgMember]; rfl)) ?_)
  refine wpAny_newObj_type ?_ (by size_fits)
  simp only [raiseNew]
  refine wpAny_bind (wpAny_handled ?_)
  rw [hh]
  refine wpAny_bind (wpAny_pure (wpAny_throw ?_))
  exact h _ _ ⟨fun b o hb => Heap.get?_push_of_some _ (Heap.get?_push_of_some _ hb), Heap.get?_none_of_le (by simp), _, .ref s.heap.objs.size, Heap.get?_push_size _ rfl, rfl, by first | rfl | simp⟩
theorem li_stop {Q : Value → Shared → Prop} {us : List Value} (h : ∀ h₁ h' e, Fr h₀ L h₁ m → News h₀ L h₁ (g (liEnd i)) → Heap.NewExc h₁ h' e "StopIteration" → E (.ref e) { s with heap := h' })
    (hh : A.handled = none := by exact rfl) (F : Fr h₀ L s.heap m := by k_asm) (N : News h₀ L s.heap news := by k_asm) (U : UpdF it (liObj l i) news g := by k_updF) (hl : s.heap.IsList l us.toArray := by is_list) (hx : us[i]? = none := by assumption) :
    wpAny (model prog w) A (call (.builtin "next") [.ref it]) Q E s := by
  obtain ⟨pre, post, hl', hg, a, b⟩ := U.split
  have hmem : (it, liObj l i) ∈ news := by rw [hl']; exact List.mem_append_right _ (.head _)
  have hm := N _ hmem
  have ho := hm.1
  have hit : s.heap.IsListIter it l i := ⟨_, hm.1, rfl, rfl⟩
  obtain ⟨ol, hol, _, nl, hdl⟩ := hl
  refine call_function_entry (by decide +kernel) (by decide +kernel) kdk_entry_next (kdk_args_next _) ?_
  unfold Builtin.«next»
  refine wpAny_bind (m := someArgs "next" 1 2 _) (wpAny_of_eq (a := [Value.ref it]) (by first | rfl | kernel_rfl!) ?_)
  dsimp only
  refine wpAny_bind (wpAny_specialOf (name := Str.ofString "__next__") hit.typeIs slot_listiter_next.lookup ?_)
  refine wpAny_ite_split (fun hab => absurd hab (by decide)) (fun _ => ?_)
  refine wpAny_bind (wpAny_callSpecial?_slot (name := Str.ofString "__next__") hit.typeIs slot_listiter_next
    (wpAny_call_entry slot_listiter_next hit.typeIs entry_listiter_next ?_ (args_listiter_next _)))
  show wpAny _ _ (field (.ref it) 0 >>= _) _ _ s
  refine wpAny_bind (wpAny_field ho rfl (x := .ref l) rfl ?_)
  show wpAny _ _ (if (Value.ref l == Value.none) = true then _ else _) _ _ s
  rw [if_neg (show ¬ ((Value.ref l == Value.none) = true) from Bool.false_ne_true)]
  show wpAny _ _ (field (.ref it) 1 >>= _) _ _ s
  refine wpAny_bind (wpAny_field ho rfl (x := .int i 0) rfl ?_)
  show wpAny _ _ (seqItems? (.ref l) >>= _) _ _ s
  refine wpAny_bind (wpAny_seqItems hol hdl ?_)
  have hx' : us.toArray[i]? = none := by simpa using hx
  simp only [Int.toNat_natCast, hx']
  refine wpAny_bind (wpAny_rule (wpAny_bind (wpAny_setField ho rfl (by simp) ?_)))
  refine stop_raise hh fun h' e hx => ?_
  have hs : Heap.SameBut it s.heap (s.heap.update it (Obj.mapFields fun x => x.setIfInBounds 0 Value.none)) := Heap.SameBut.update ..
  have ho' : (s.heap.update it (Obj.mapFields fun x => x.setIfInBounds 0 Value.none)).get? it = some (liEnd i) := by
    rw [Heap.get?_update_self _ ho rfl]
    simp [Obj.mapFields]
  exact h _ h' e (F.change hs hm.2.1 hm.2.2) (hg _ ▸ (show News h₀ L s.heap (pre ++ (it, liObj l i) :: post) from hl' ▸ N).setIn a b hs ho') hx
theorem li_stop2 {Q : Value → Shared → Prop} (hh : A.handled = none) (hm : s.heap.get? it = some (liEnd i))
    (h : ∀ h' e, Heap.NewExc s.heap h' e "StopIteration" → E (.ref e) { s with heap := h' }) :
    wpAny (model prog w) A (call (.builtin "next") [.ref it]) Q E s := by
  have ho := hm
  have hT : s.TypeIs (.ref it) "list_iterator" := (show ∃ o, s.heap.get? it = some o ∧ o.cls = .type "list_iterator" from ⟨_, hm, rfl⟩)
  refine call_function_entry (by decide +kernel) (by decide +kernel) kdk_entry_next (kdk_args_next _) ?_
  unfold Builtin.«next»
  refine wpAny_bind (m := someArgs "next" 1 2 _) (wpAny_of_eq (a := [Value.ref it]) (by first | rfl | kernel_rfl!) ?_)
  dsimp only
  refine wpAny_bind (wpAny_specialOf (name := Str.ofString "__next__") hT slot_listiter_next.lookup ?_)
  refine wpAny_ite_split (fun hab => absurd hab (by decide)) (fun _ => ?_)
  refine wpAny_bind (wpAny_callSpecial?_slot (name := Str.ofString "__next__") hT slot_listiter_next
    (wpAny_call_entry slot_listiter_next hT entry_listiter_next ?_ (args_listiter_next _)))
  show wpAny _ _ (field (.ref it) 0 >>= _) _ _ s
  refine wpAny_bind (wpAny_field ho rfl (x := .none) rfl ?_)
  show wpAny _ _ (if (Value.none == Value.none) = true then _ else _) _ _ s
  rw [if_pos (show ((Value.none == Value.none) = true) from by decide)]
  refine wpAny_bind (wpAny_rule ?_)
  exact wpAny_bind (stop_raise (A := A.in1.in1) hh h)
theorem li_over {Q : Value → Shared → Prop} {rest : List (Addr × Obj)} (h : ∀ h' e, Heap.NewExc s.heap h' e "StopIteration" → E (.ref e) { s with heap := h' }) (hh : A.handled = none := by exact rfl) (N : News h₀ L s.heap rest := by assumption) (hx : (it, liEnd i) ∈ rest := by k_mem) :
    wpAny (model prog w) A (call (.builtin "next") [.ref it]) Q E s := li_stop2 (i := i) hh (News.get N hx) h
end
end
-- Tg
section
open PySem.Spec
noncomputable def At (h : Heap) (l : List (Addr × Obj)) : Prop := ∀ p ∈ l, h.get? p.1 = some p.2
section
variable {M : Model} {A A₁ : Around} {E : Value → Shared → Prop} {s : Shared} {base G : Heap} {outer : List Env} {env : Env} {e : Addr} {news : List (Addr × Obj)} {X : String}
noncomputable def OStop (M : Model) (A : Around) (Q : Option Value → Shared → Prop) (E : Value → Shared → Prop) (e : Value) (s' : Shared) : Prop := OwitStop M A Q E e s'
theorem ostop {Q : Option Value → Shared → Prop} (R : RaisedSN base G (env :: outer) e (.type X) news s.heap) (hsm : G.UpToSlots s.heap) (B : Below A₁ base (env :: outer) G)
    (hsub : isSubtype (.type X) (.type "StopIteration") = pure true)
    (k : ∀ g', KtsTurn ((env :: outer).filterMap (·.frame)) G g' → g'.StaysIn s.heap → (∀ q ∈ news, s.heap.get? q.1 = some q.2 ∧ G.get? q.1 = none) → Q none s) : OStop M A Q E (.ref e) s := by
  obtain ⟨B', a0, hB, hBG, hl, hfl⟩ := R
  obtain ⟨T, S⟩ := kts_turn_at (h := s.heap) (fs := (env :: outer).filterMap (·.frame)) (g := G)
    (fun b hb => by obtain ⟨_, o, ho, _⟩ := B.frames.mem hb; exact ⟨o, ho⟩)
    (fun b o e nm => hfl.1 b o (hBG b o e nm))
    (fun b o e hm => by
      obtain ⟨_, o', ho', hd⟩ := B.frames.mem hm
      rw [e] at ho'
      cases ho'
      exact hsm b o e hd)
  obtain ⟨ob, hob, hobc⟩ := hfl.there
  have hT : s.TypeIs (.ref e) X := (show ∃ o, s.heap.get? e = some o ∧ o.cls = .type X from ⟨ob, hob, hobc⟩)
  unfold OStop OwitStop
  refine wpAny_isInstance hT hsub ?_
  show (if true = true then Q none s else E (.ref e) s)
  rw [if_pos rfl]
  exact k _ T S fun q hq => ⟨hfl.1 _ _ (hl q hq).1, (hl q hq).2.1⟩
theorem next_own {Q : Option Value → Shared → Prop} {h₀ : Heap} {L x C f : Addr} {m : Str → Option Value} {K : Frag} {ox : Obj} {od : Option Obj} (F : Fr h₀ L s.heap m) (X₀ : K.In h₀) (I : InstAt s.heap x ox C od) (hs : findIn K (.ref C) "__next__" = some (some (.ref f))) (hf : isFn K (.ref f) = true)
    (h : wpAny M A (call (.ref f) [.ref x]) (fun v s' => Q (some v) s') (OStop M A Q E) s) : wpAny M A (pyNext (.ref x)) Q E s := owit_next F X₀ I hs hf h
end
theorem meth_slot {prog : Program} {w : World} {A : Around} {E : Value → Shared → Prop} {s : Shared} {K : Frag} {x C L : Addr} {ox : Obj} {od : Option Obj} {name : Str} {h₀ : Heap} {m : Str → Option Value} {pl : Sem Bool} {Q : Value × List Value → Shared → Prop} {a t : Value}
    (h : wpAny (model prog w) A (getAttr (.ref x) name) (fun v => Q (v, [])) E s)
    (F : Fr h₀ L s.heap m := by k_asm) (X₀ : K.In h₀ := by k_asm) (I : InstAt s.heap x ox C od := by k_inst) (hg : plainGet K C name = true := by k_is) (hf : findIn K (.ref C) name = some (some a) := by k_is) (ht : typeIn K a = some t := by k_is)
    (hn : (t != .type "function" && t != .type "method_descriptor" && t != .type "wrapper_descriptor") = true := by decide +kernel) : wpAny (model prog w) A (getMethod (.ref x) name pl) Q E s :=
  method_usual (r := some a) (X₀.keeps F.keep) I (plainGet_of hg).1 (plainGet_of hg).2 hf (by simp only [Option.all_some, ht, Option.any_some]; exact hn) h
theorem turn_up (s0 : Shared) {A₀ : Around} {base g G G' : Heap} {outer : List Env} {env : Env} {L : Addr} {m : Str → Option Value} (T : KtsTurn ((env :: outer).filterMap (·.frame)) G G') (B : Below A₀ base outer g) (F : Fr g L G m)
    (D : KtsDicts (outer.filterMap (·.frame)) g) (hf : env.frame = some L) :
    ∃ g', KtsTurn (outer.filterMap (·.frame)) g g' ∧ Fr g' L G' m ∧ Below A₀ base outer g' ∧ KtsDicts (outer.filterMap (·.frame)) g' := by
  obtain ⟨h₀', a1, a2, a3, a4, _, _⟩ := turn_back (s := { s0 with heap := G }) B F News.nil D hf T (fun _ _ e => e)
  exact ⟨h₀', a1, a2, a3, a4⟩
noncomputable def NextSC (w : World) (p : Program) (loose : List Str) (mean : ExcName → Option Value) (mg mb : Str → Option Value) (I : Addr) (s : Shared) (muts : List (Addr × Obj)) (dr ur : Nat) (Item : Heap → Heap → Value → Prop) (Stop : Heap → Heap → Prop) (dp un : Nat) (gd : Option (List Code)) (cn : Str) (cs : Scope) (a : Addr) (ccd : Value) (cl : List (Str × Addr)) (outer : List Env) (A₀ : Around) (base h₀ : Heap) (L : Addr) (m : Str → Option Value) : Prop :=
  ∀ (Q : Option Value → Shared → Prop) (E : Value → Shared → Prop),
    Below A₀ base outer h₀ → Fr h₀ L s.heap m → News h₀ L s.heap muts → (hd.heap_39 w.params).In base → Top p loose mean mg mb base → KtsDicts (outer.filterMap (·.frame)) h₀ → cs.kind = .function → dp + dr < recursionLimit → un + ur < cLine →
    (∀ v h' tk' g', KtsTurn ((envX cn cs L a ccd cl :: outer).filterMap (·.frame)) (hideAll s.heap (muts.map (·.1))) g' → g'.StaysIn h' → Item g' h' v → Q (some v) { s with heap := h', toks := tk' }) →
    (∀ h' tk' g', KtsTurn ((envX cn cs L a ccd cl :: outer).filterMap (·.frame)) (hideAll s.heap (muts.map (·.1))) g' → g'.StaysIn h' → Stop g' h' → Q none { s with heap := h', toks := tk' }) →
    wpAny (model PG w) (ktrTop dp un gd cn cs L a ccd cl outer) (pyNext (.ref I)) Q E s
noncomputable def NextS (w : World) (p : Program) (loose : List Str) (mean : ExcName → Option Value) (mg mb : Str → Option Value) (I : Addr) (s : Shared) (muts : List (Addr × Obj)) (dr ur : Nat) (Item : Heap → Heap → Value → Prop) (Stop : Heap → Heap → Prop) : Prop :=
  ∀ (dp un : Nat) (gd : Option (List Code)) (cn : Str) (cs : Scope) (a : Addr) (ccd : Value) (cl : List (Str × Addr)) (outer : List Env) (A₀ : Around) (base h₀ : Heap) (L : Addr) (m : Str → Option Value), NextSC w p loose mean mg mb I s muts dr ur Item Stop dp un gd cn cs a ccd cl outer A₀ base h₀ L m
noncomputable abbrev gbObj (d ig li : Addr) (ht : Bool) (tk : Value) (hc : Bool) (ck : Value) (hv : Bool) (cv : Value) (cg : Int) (t1 : Tok) (sr : Int) (t2 : Tok) : Obj :=
  { cls := .ref 124, dict := some d, slots := #[some (.int cg t1), some ck, some cv, some (.bool hc), some (.bool hv), some (.bool ht), some (.ref li), some (.ref ig), some (.int sr t2), some tk] }
noncomputable abbrev igObj (d tp : Addr) : Obj := { cls := .ref 267, dict := some d, slots := #[some (.ref tp)] }
noncomputable abbrev grObj (d gb : Addr) (tk : Value) (n : Int) (t : Tok) : Obj := { cls := .ref 169, dict := some d, slots := #[some (.int n t), some (.ref gb), some tk] }
noncomputable abbrev tupO (vs : List Value) : Obj := { cls := .type "tuple", data := .seq vs.toArray }
theorem At.nil {h : Heap} : At h [] := fun _ hp => nomatch hp
theorem At.cons {h : Heap} {a : Addr} {o : Obj} {l : List (Addr × Obj)} (e : h.get? a = some o) (r : At h l) : At h ((a, o) :: l) := fun p hp => by
  rcases List.mem_cons.mp hp with rfl | hp
  · exact e
  · exact r p hp
noncomputable abbrev gLed (gb d ig dI tp li D : Addr) (t0 : Tok) (os : List Value) (e : Nat) (go lo : Obj) : List (Addr × Obj) :=
  [(gb, go), (d, dictOf [] 0), (ig, igObj dI tp), (dI, dictOf [] 0), (tp, tupO [.int 0 t0]), (li, lo), (D, W.listOf os.toArray e)]
noncomputable def GItem (gb d ig dI tp li D T : Addr) (t0 : Tok) (os : List Value) (e : Nat) (v q : Int) (tv tq : Tok) (j : Nat) (sr : Int) (g' h' : Heap) (r : Value) : Prop :=
  ∃ P gr dG t1 t2 t3, r = .ref P ∧ At h' ((P, tupO [.int v tv, .ref gr]) :: (gr, grObj dG gb (.int v tv) sr t1) :: (dG, dictOf [] 0) :: (T, tupO [.int v tv, .int q tq]) ::
      gLed gb d ig dI tp li D t0 os e (gbObj d ig li true (.int v tv) true (.int v tv) true (.ref T) sr t2 sr t3) (liObj D j)) ∧
    (∀ q ∈ [P, gr, dG], g'.get? q = none) ∧ @LT.lt Nat _ li dG ∧ @LT.lt Nat _ dG gr
end
-- Bis
theorem entry_bis_loop : entryFor table "_bisect.bisect_right.loop" = some Builtin.«_bisect.bisect_right.loop» := entryFor_of_tree (by kernel_rfl)
theorem plain_bis_loop : plainId "_bisect.bisect_right.loop" = true := by decide +kernel
theorem special_item {prog : Program} {w : World} {A : Around} {E : Value → Shared → Prop} {s : Shared} {l : Addr} {items : Array Value} {k : Int} {t : Tok} {x : Value} {Q : Option Value → Shared → Prop} (hl : s.heap.IsList l items)
    (h0 : 0 ≤ k) (hfit : k < 2 ^ 63) (hx : items[k.toNat]? = some x) (h : Q (some x) s) : wpAny (model prog w) A (callSpecial? (.ref l) (Str.ofString "__getitem__") [.int k t]) Q E s := by
  have H := hl
  obtain ⟨o, ho, hc, n, hd⟩ := H
  refine wpAny_callSpecial?_slot hl.typeIs slot_list_getitem (wpAny_call_entry slot_list_getitem hl.typeIs entry_list_getitem ?_ (args_list_getitem _ _))
  show wpAny _ _ (Builtin.List.listSubscript? (.int k t) >>= _) _ _ s
  refine wpAny_bind (wpAny_listSubscript_int (fitsIndex_of h0 hfit) ?_)
  obtain ⟨j, rfl⟩ := Int.eq_ofNat_of_zero_le h0
  have hx' : items[j]? = some x := hx
  show wpAny _ _ ((seqItemAt l j >>= fun r => pure (r.map (j, ·))) >>= _) _ _ s
  refine wpAny_bind (wpAny_bind (wpAny_seqItemAt ho hd (wpAny_pure ?_)))
  rw [hx']
  first
    | exact wpAny_bind (wpAny_pure (wpAny_pure h))
    | exact wpAny_pure h
    | exact wpAny_pure ⟨x, rfl, h⟩
theorem special_lt {prog : Program} {w : World} {A : Around} {E : Value → Shared → Prop} {s : Shared} {a b : Int} {t u : Tok} {Q : Option Value → Shared → Prop} (h : Q (some (.bool (decide (a < b)))) s) :
    wpAny (model prog w) A (callSpecialIfBound? (.int a t) (Str.ofString "__lt__") [.int b u]) Q E s :=
  wpAny_callSpecialIfBound?_slot (typeIs_int s a t) slot_int_lt (call_int_lt h)
noncomputable def bisP (right : Bool) (x y : Int) : Bool := if right then decide (y ≤ x) else decide (y < x)
theorem bis_loop {prog : Program} {w : World} {l : Addr} {vs : List Value} {d : List Int} {x : Int} {tx : Tok} {right : Bool} (hi_ : IntsAre vs d) {j : Nat} (lowP : ∀ i, i < j → bisP right x (d.getD i 0) = true) (highP : ∀ i, j ≤ i → i < d.length → bisP right x (d.getD i 0) = false) (hlen : d.length < 1000) :
    ∀ (k lo hi : Nat), hi - lo = k → lo ≤ j → j ≤ hi → hi ≤ d.length → ∀ (A : Around) (R : Result → Shared → Prop) (s : Shared), A.units + 8 < cLine → s.heap.IsList l vs.toArray → (∀ t tk', R (.ok (.ret (.int j t))) { s with toks := tk' }) →
      codeAny (model prog w) A (.builtin "_bisect.bisect_right.loop" ⟨[.ref l, .int x tx, rawInt lo, rawInt hi, .none, .bool right, .bool true, rawInt 0], []⟩) R s := by
  intro k
  induction k using Nat.strongRecOn with
  | ind k ih =>
  intro lo hi hk h1 h2 h3 A R s hu hl hR
  refine codeAny_builtin entry_bis_loop ?_
  rw [Around.under_plainId plain_bis_loop _]
  unfold Builtin.«_bisect.bisect_right.loop»
  by_cases hlt : lo < hi
  · have hlt' : (lo : Int) < (hi : Int) := by omega
    have hm : ((lo : Int) + (hi : Int)) / 2 = (((lo + hi) / 2 : Nat) : Int) := by omega
    obtain ⟨t9, hx9⟩ := ints_at hi_ (j := (lo + hi) / 2) (by omega)
    have hx8 : vs.toArray[(((lo : Int) + (hi : Int)) / 2).toNat]? = some (.int (d.getD ((lo + hi) / 2) 0) t9) := by rw [hm, Int.toNat_natCast, List.getElem?_toArray]; exact hx9
    repeat ((fail_if_success (with_reducible show wpAny _ _ (callSpecial? _ _ _ _) _ _ _)); first | with_reducible (first | refine wpAny_bind ?_ | refine wpAny_mkInt' ?_) | ((with_reducible refine wpAny_ite_true ?_ ?_); focus (simp [*]; done)) | wp_delta)
    refine special_item hl (by omega) (by omega) hx8 ?_
    cases right
    all_goals
      dsimp only
      repeat ((fail_if_success (with_reducible show wpAny _ _ (callSpecialIfBound? _ _ _) _ _ _)); first | refine wpAny_cRoomFor (by show A.units + 1 < cLine; omega) ?_ | with_reducible (first | refine wpAny_pure ?_ | refine wpAny_bind ?_ | refine wpAny_holding ?_) | ((with_reducible refine wpAny_ite_true ?_ ?_); focus (rfl; done)) | wp_delta)
      refine special_lt ?_
      dsimp only
    all_goals
      refine wpAny_bind (wpAny_truthy_bool (wpAny_bind (wpAny_pure ?_)))
      have hc1 : ((lo : Int) + (hi : Int)) / 2 + 1 = (((lo + hi) / 2 + 1 : Nat) : Int) := by omega
      rw [hm] at hc1 ⊢
      rw [hc1]
    · by_cases hP : d.getD ((lo + hi) / 2) 0 < x
      · have hj : (lo + hi) / 2 < j := Nat.lt_of_not_le fun hle => by
          have h9 : decide (d.getD ((lo + hi) / 2) 0 < x) = false := highP _ hle (by omega)
          rw [decide_eq_true hP] at h9; cases h9
        rw [decide_eq_true hP, if_neg (by decide)]
        exact wpAny_pure (M := model prog w) ⟨plainId_quiet plain_bis_loop _, ih (hi - ((lo + hi) / 2 + 1)) (by omega) ((lo + hi) / 2 + 1) hi rfl (by omega) h2 h3 A R _ hu hl fun t tk' => hR t tk'⟩
      · have hj : j ≤ (lo + hi) / 2 := Nat.le_of_not_lt fun hlt3 => by
          have h9 : decide (d.getD ((lo + hi) / 2) 0 < x) = true := lowP _ hlt3
          exact hP (of_decide_eq_true h9)
        rw [decide_eq_false hP, if_pos (by decide)]
        exact wpAny_pure (M := model prog w) ⟨plainId_quiet plain_bis_loop _, ih ((lo + hi) / 2 - lo) (by omega) lo ((lo + hi) / 2) rfl h1 hj (by omega) A R _ hu hl fun t tk' => hR t tk'⟩
    · by_cases hP : x < d.getD ((lo + hi) / 2) 0
      · have hj : j ≤ (lo + hi) / 2 := Nat.le_of_not_lt fun hlt3 => by
          have h9 : decide (d.getD ((lo + hi) / 2) 0 ≤ x) = true := lowP _ hlt3
          have := of_decide_eq_true h9
          omega
        rw [decide_eq_true hP, if_pos (by decide)]
        exact wpAny_pure (M := model prog w) ⟨plainId_quiet plain_bis_loop _, ih ((lo + hi) / 2 - lo) (by omega) lo ((lo + hi) / 2) rfl h1 hj (by omega) A R _ hu hl fun t tk' => hR t tk'⟩
      · have hj : (lo + hi) / 2 < j := Nat.lt_of_not_le fun hle => by
          have h9 : decide (d.getD ((lo + hi) / 2) 0 ≤ x) = false := highP _ hle (by omega)
          have := of_decide_eq_false h9
          omega
        rw [decide_eq_false hP, if_neg (by decide)]
        exact wpAny_pure (M := model prog w) ⟨plainId_quiet plain_bis_loop _, ih (hi - ((lo + hi) / 2 + 1)) (by omega) ((lo + hi) / 2 + 1) hi rfl (by omega) h2 h3 A R _ hu hl fun t tk' => hR t tk'⟩
  · repeat (first | with_reducible (first | refine wpAny_pure ?_ | refine wpAny_bind ?_ | refine wpAny_mkInt' ?_) | ((with_reducible refine wpAny_ite_false ?_ ?_); focus (simp [*]; done)) | wp_delta)
    have e : lo = j := by omega
    subst e
    exact hR _ _
theorem call_fn_again {prog : Program} {w : World} {A : Around} {E : Value → Shared → Prop} {s : Shared} {id : String} {b : Builtin} {args : List Value} {kw : List (Str × Value)} {Q : Value → Shared → Prop} (hk : builtinKind id = none) (hp : plainId id = true)
    (hb : entryFor table id = some b) (ha : argsOk id ⟨args, kw⟩)
    (hc : wpAny (model prog w) A.in1 (b ⟨args, kw⟩) (fun fin s' => match fin with
      | .done f => (match (Except.ok f : Result) with | .ok (.ret v) => Q v s' | .ok _ => False | .error e => E e s')
      | .again c' => c'.quiet = true ∧ codeAny (model prog w) A c' (fun r s' => match r with | .ok (.ret v) => Q v s' | .ok _ => False | .error e => E e s') s') E s) : wpAny (model prog w) A (call (.builtin id) args kw) Q E s := by
  refine wpAny_call (codeAny_call_builtin hp hb ?_)
  simp only [checkBuiltinCall, hk]
  cases hsig : Manifest.signature? id with
  | none => exact wpAny_pure hc
  | some sig =>
    have ha' : Bind.checkArgs id sig ⟨args, kw⟩ = pure () := by simpa only [argsOk, hsig] using ha
    simp only [ha']
    exact wpAny_pure hc
theorem kind_bl : builtinKind "_bisect.bisect_left" = none := by decide +kernel
theorem plain_bl : plainId "_bisect.bisect_left" = true := by decide +kernel
theorem entry_bl : entryFor table "_bisect.bisect_left" = some Builtin.«_bisect.bisect_left» := entryFor_of_tree (by kernel_rfl)
theorem args_bl (a b : Value) : argsOk "_bisect.bisect_left" ⟨[a, b], []⟩ := by unfold argsOk; kernel_rfl
namespace bis_left_c
noncomputable def hkS : Prop := ∀ {prog : Program} {w : World} {A : Around} {E : Value → Shared → Prop} {s : Shared} {l : Addr} {vs : List Value} {d : List Int} {x : Int} {tx : Tok} {Q : Value → Shared → Prop} (hi_ : IntsAre vs d) {j : Nat} (hj : j ≤ d.length) (lowP : ∀ i, i < j → d.getD i 0 < x) (highP : ∀ i, j ≤ i → i < d.length → x ≤ d.getD i 0) (hlen : d.length < 1000) (hu : A.units + 9 < cLine) (hl : s.heap.IsList l vs.toArray) (hQ : ∀ t tk', Q (.int j t) { s with toks := tk' }), wpAny (model prog w) A (call (.builtin "_bisect.bisect_left") [.ref l, .int x tx]) Q E s
noncomputable def hkK : Σ' P : Program → World → Around → tQ → Shared → Addr → tV → tI → Int → Tok → tQ → Nat → Prop, (∀ a b c d e f g h i j k l, P a b c d e f g h i j k l) → hkS := ⟨_, fun hk9 => by intro prog w A E s l vs d x tx Q hi_ j hj lowP highP hlen hu hl hQ; revert hQ; revert hl; revert hu; revert hlen; revert highP; revert lowP; revert hj; revert hi_; apply (hk9 prog w A E s l vs d x tx Q j)⟩
namespace Z9
noncomputable def hkP (y : VV) := hkK.1 (y.P 0) (y.W 0) (y.A 0) (y.Q 0) (y.R 0) (y.N 0) (y.L 0) (y.I 0) (y.Z 0) (y.N 1) (y.Q 1) (y.N 2)
@[irreducible] noncomputable def hkG1 := epsV0 hkP
@[irreducible] def s : Shared := hkG1.R 0
@[irreducible] def l : Addr := hkG1.N 0
@[irreducible] def vs : tV := hkG1.L 0
@[irreducible] def d : tI := hkG1.I 0
theorem hkM : hkP hkG1 := (by exact @wI _ _ : @wT (hkP hkG1) (by
  with_unfolding_all show hkK.1 (hkG1.P 0) (hkG1.W 0) (hkG1.A 0) (hkG1.Q 0) s l vs d (hkG1.Z 0) (hkG1.N 1) (hkG1.Q 1) (hkG1.N 2)
  intro hi_ hj lowP highP hlen hu hl hQ
  refine call_fn_again kind_bl plain_bl entry_bl (args_bl _ _) ?_
  have hT : s.TypeIs (.ref l) "list" := hl.typeIs
  have e1 := slot_list_len.lookup
  have e2 := slot_list_getitem.lookup
  repeat ((fail_if_success (with_reducible show wpAny _ _ (runValue _) _ _ _)); first | with_reducible (first | refine wpAny_pure ?_ | refine wpAny_bind ?_ | refine wpAny_holding ?_ | refine wpAny_of_eq (by assumption) ?_ | refine wpAny_typeOf (by assumption) ?_) | ((with_reducible refine wpAny_ite_false ?_ ?_); focus (rfl; done)) | ((with_reducible refine wpAny_ite_true ?_ ?_); focus (rfl; done)) | wp_delta)
  have hlv : vs.length = d.length := hi_.length
  refine wpAny_runValue (codeAny_builtin entry_len ?_)
  rw [Around.under_plainId (by decide +kernel) _]
  refine wpAny_mono (wpAny_len_body_list hl (by rw [List.size_toArray]; omega) (Q := fun r s' => r = .int d.length (s.toks + 1) ∧ s' = { s with toks := s.toks + 1 + 1 }) ⟨by rw [List.size_toArray, hlv], rfl⟩) (fun fin s' hf => ?_) (fun _ _ h => h)
  obtain ⟨r, rfl, rfl, rfl⟩ := hf
  have hT2 : ({ heap := s.heap, gens := s.gens, drawn := s.drawn, toks := s.toks + 1 + 1, os := s.os } : Shared).TypeIs (.ref l) "list" := hT
  dsimp only
  repeat (first | with_reducible (first | refine wpAny_pure ?_ | refine wpAny_bind ?_ | refine wpAny_of_eq (by assumption) ?_ | refine wpAny_typeOf (by assumption) ?_) | ((with_reducible refine wpAny_ite_false ?_ ?_); focus (rfl; done)) | wp_delta)
  refine ⟨plainId_quiet plain_bis_loop _, ?_⟩
  exact bis_loop (right := false) hi_ (fun i h => decide_eq_true (lowP i h)) (fun i h1 h2 => decide_eq_false (Int.not_lt.mpr (highP i h1 h2))) hlen _ 0 d.length rfl (Nat.zero_le _) hj (Nat.le_refl _) (hkG1.A 0) _ _ (by omega) hl (fun t tk' => hQ t tk')
  ))
end Z9
theorem hkT : hkS := no_implicit_lambda% (@hkapp _ _ hkK.2 (fun a b c d e f g h i j k l => @epsV Z9.hkP (by with_unfolding_all exact Z9.hkM) (vv e9E e9C e9T e9K (lk [c] d9A) e9X e9S e9G (lk [b] d9W) (lk [a] d9P) (lk [d, k] d9Q) (lk [e] d9R) e9V (lk [i] d9Z) (lk [h] d9I) (lk [g] d9L) e9M e9H e9O (lk [f, j, l] d9N))))
end bis_left_c
theorem bis_left : bis_left_c.hkS := @bis_left_c.hkT
theorem kind_br : builtinKind "_bisect.bisect_right" = none := by decide +kernel
theorem plain_br : plainId "_bisect.bisect_right" = true := by decide +kernel
theorem entry_br : entryFor table "_bisect.bisect_right" = some Builtin.«_bisect.bisect_right» := entryFor_of_tree (by kernel_rfl)
theorem args_br (a b c : Value) : argsOk "_bisect.bisect_right" ⟨[a, b], [(Str.ofString "lo", c)]⟩ := by unfold argsOk; kernel_rfl
namespace bis_right_c
noncomputable def hkS : Prop := ∀ {prog : Program} {w : World} {A : Around} {E : Value → Shared → Prop} {s : Shared} {l : Addr} {vs : List Value} {d : List Int} {x : Int} {tx ti : Tok} {i₀ : Nat} {Q : Value → Shared → Prop} (hi_ : IntsAre vs d) {j : Nat} (hj : j ≤ d.length) (hij : i₀ ≤ j) (lowP : ∀ i, i < j → d.getD i 0 ≤ x) (highP : ∀ i, j ≤ i → i < d.length → x < d.getD i 0) (hlen : d.length < 1000) (hu : A.units + 9 < cLine) (hl : s.heap.IsList l vs.toArray) (hQ : ∀ t tk', Q (.int j t) { s with toks := tk' }), wpAny (model prog w) A (call (.builtin "_bisect.bisect_right") [.ref l, .int x tx] [(Str.ofString "lo", .int i₀ ti)]) Q E s
noncomputable def hkK : Σ' P : Program → World → Around → tQ → Shared → Addr → tV → tI → Int → Tok → Tok → Nat → tQ → Nat → Prop, (∀ a b c d e f g h i j k l m n, P a b c d e f g h i j k l m n) → hkS := ⟨_, fun hk9 => by intro prog w A E s l vs d x tx ti i₀ Q hi_ j hj hij lowP highP hlen hu hl hQ; revert hQ; revert hl; revert hu; revert hlen; revert highP; revert lowP; revert hij; revert hj; revert hi_; apply (hk9 prog w A E s l vs d x tx ti i₀ Q j)⟩
namespace Z9
noncomputable def hkP (y : VV) := hkK.1 (y.P 0) (y.W 0) (y.A 0) (y.Q 0) (y.R 0) (y.N 0) (y.L 0) (y.I 0) (y.Z 0) (y.N 1) (y.N 2) (y.N 3) (y.Q 1) (y.N 4)
@[irreducible] noncomputable def hkG2 := epsV0 hkP
@[irreducible] def s : Shared := hkG2.R 0
@[irreducible] def l : Addr := hkG2.N 0
@[irreducible] def vs : tV := hkG2.L 0
@[irreducible] def d : tI := hkG2.I 0
@[irreducible] def i₀ : Nat := hkG2.N 3
theorem hkM : hkP hkG2 := (by exact @wI _ _ : @wT (hkP hkG2) (by
  with_unfolding_all show hkK.1 (hkG2.P 0) (hkG2.W 0) (hkG2.A 0) (hkG2.Q 0) s l vs d (hkG2.Z 0) (hkG2.N 1) (hkG2.N 2) i₀ (hkG2.Q 1) (hkG2.N 4)
  intro hi_ hj hij lowP highP hlen hu hl hQ
  have H := bis_loop (prog := (hkG2.P 0)) (w := (hkG2.W 0)) (l := l) (tx := (hkG2.N 1)) (right := true) hi_ (fun i h => decide_eq_true (lowP i h)) (fun i h1 h2 => decide_eq_false (Int.not_le.mpr (highP i h1 h2))) hlen _ i₀ d.length rfl hij hj (Nat.le_refl _)
  have hi9 : i₀ < 1000 := by omega
  clear lowP highP hij hj
  refine call_fn_again kind_br plain_br entry_br (args_br _ _ _) ?_
  have hT : s.TypeIs (.ref l) "list" := hl.typeIs
  have e1 := slot_list_len.lookup
  have e2 := slot_list_getitem.lookup
  wp_delta
  wp_delta
  refine wpAny_bind ?_
  refine wpAny_of_eq (a := (Value.ref l, Value.int (hkG2.Z 0) (hkG2.N 1), some (Value.int i₀ (hkG2.N 2)), none, none)) ?heq ?hgo
  case heq =>
    first
    | kernel_rfl
    | with_unfolding_all rfl
  case hgo =>
    dsimp only
    refine wpAny_bind ?_
    refine wpAny_of_eq (a := (i₀ : Int)) ?he ?_
    case he => rfl
    refine wpAny_ite ?_
    rw [if_neg ?hn]
    case hn =>
      show ¬ (!(decide (-(2 ^ 63 : Int) ≤ (i₀ : Int)) && decide ((i₀ : Int) < 2 ^ 63))) = true
      rw [decide_eq_true (show -(2 ^ 63 : Int) ≤ (i₀ : Int) by omega), decide_eq_true (show (i₀ : Int) < 2 ^ 63 by omega)]; decide
    refine wpAny_bind (wpAny_pure ?_)
    refine wpAny_bind (wpAny_pure ?_)
    have e3 : ¬ ((i₀ : Int) < 0) := by omega
    repeat ((fail_if_success (with_reducible show wpAny _ _ (runValue _) _ _ _)); first | with_reducible (first | refine wpAny_pure ?_ | refine wpAny_bind ?_ | refine wpAny_holding ?_ | refine wpAny_of_eq (by assumption) ?_ | refine wpAny_typeOf (by assumption) ?_) | ((with_reducible refine wpAny_ite_false ?_ ?_); focus (rfl; done)) | ((with_reducible refine wpAny_ite_true ?_ ?_); focus (rfl; done)) | wp_delta)
    have hlv : vs.length = d.length := hi_.length
    refine wpAny_runValue (codeAny_builtin entry_len ?_)
    rw [Around.under_plainId (by decide +kernel) _]
    refine wpAny_mono (wpAny_len_body_list hl (by rw [List.size_toArray]; omega) (Q := fun r s' => r = .int d.length (s.toks + 1) ∧ s' = { s with toks := s.toks + 1 + 1 }) ⟨by rw [List.size_toArray, hlv], rfl⟩) (fun fin s' hf => ?_) (fun _ _ h => h)
    obtain ⟨r, rfl, rfl, rfl⟩ := hf
    have hT2 : ({ heap := s.heap, gens := s.gens, drawn := s.drawn, toks := s.toks + 1 + 1, os := s.os } : Shared).TypeIs (.ref l) "list" := hT
    dsimp only
    repeat (first | with_reducible (first | refine wpAny_pure ?_ | refine wpAny_bind ?_ | refine wpAny_of_eq (by assumption) ?_ | refine wpAny_typeOf (by assumption) ?_) | ((with_reducible refine wpAny_ite_false ?_ ?_); focus (rfl; done)) | wp_delta)
    refine ⟨plainId_quiet plain_bis_loop _, ?_⟩
    exact H (hkG2.A 0) _ _ (by omega) hl (fun t tk' => hQ t tk')
  ))
end Z9
theorem hkT : hkS := no_implicit_lambda% (@hkapp _ _ hkK.2 (fun a b c d e f g h i j k l m n => @epsV Z9.hkP (by with_unfolding_all exact Z9.hkM) (vv e9E e9C e9T e9K (lk [c] d9A) e9X e9S e9G (lk [b] d9W) (lk [a] d9P) (lk [d, m] d9Q) (lk [e] d9R) e9V (lk [i] d9Z) (lk [h] d9I) (lk [g] d9L) e9M e9H e9O (lk [f, j, k, l, n] d9N))))
end bis_right_c
theorem bis_right : bis_right_c.hkS := @bis_right_c.hkT
theorem cut_point {p : Int → Bool} (mono : ∀ a b, a ≤ b → p b = true → p a = true) : ∀ {d : List Int}, d.Pairwise (· ≤ ·) →
    (∀ i, i < d.countP p → p (d.getD i 0) = true) ∧ (∀ i, d.countP p ≤ i → i < d.length → p (d.getD i 0) = false) ∧ d.countP p ≤ d.length
  | [], _ => ⟨fun i h => absurd h (Nat.not_lt_zero _), fun i _ h => absurd h (Nat.not_lt_zero _), Nat.le_refl _⟩
  | y :: r, hs => by
    obtain ⟨h1, h2⟩ := List.pairwise_cons.mp hs
    obtain ⟨a1, a2, a3⟩ := cut_point mono h2
    cases hy : p y with
    | true =>
      have e : (y :: r).countP p = r.countP p + 1 := List.countP_cons_of_pos hy
      rw [e]
      refine ⟨fun i hi => ?_, fun i hi hl => ?_, by rw [List.length_cons]; omega⟩
      · cases i with
        | zero => exact hy
        | succ i => exact a1 i (by omega)
      · cases i with
        | zero => omega
        | succ i => exact a2 i (by omega) (by simpa using hl)
    | false =>
      have hall : ∀ z ∈ r, p z = false := fun z hz => by
        cases hz' : p z with
        | false => rfl
        | true => have := mono y z (h1 z hz) hz'; rw [hy] at this; cases this
      have e : (y :: r).countP p = 0 := by
        rw [List.countP_eq_zero]
        intro z hz
        rcases List.mem_cons.mp hz with rfl | hz
        · rw [hy]; exact Bool.false_ne_true
        · rw [hall z hz]; exact Bool.false_ne_true
      rw [e]
      refine ⟨fun i h => absurd h (Nat.not_lt_zero _), fun i _ hl => ?_, Nat.zero_le _⟩
      cases i with
      | zero => exact hy
      | succ i =>
        have hl' : i < r.length := by simpa using hl
        have e2 : (y :: r).getD (i + 1) 0 = r[i] := by simp [hl']
        rw [e2]; exact hall _ (List.getElem_mem hl')
-- HL
theorem tr1 {tb : String → Option Builtin} {p : Program} {w : World} {n₀ n : Nat} {ann : Option Value} {s : Shared} {t : Thread} (h : through t = true) : topRun tb p w n₀ ann (n + 1) s t = some s := by
  rw [topRun, h]
theorem tr2 {tb : String → Option Builtin} {p : Program} {w : World} {n₀ n : Nat} {ann : Option Value} {s s₂ : Shared} {t t₂ : Thread} (h : through t = false) (h1 : stepOk n₀ ann t = true) (h2 : step (denote tb) p w s t = .go s₂ t₂) : topRun tb p w n₀ ann (n + 1) s t = topRun tb p w n₀ ann n s₂ t₂ := by
  rw [topRun, h, h1, h2]
noncomputable def topT (ok : Thread → Bool) (stp : SharedT → Thread → Option (SharedT × Thread)) (n : Nat) : SharedT → Thread → Option SharedT :=
  n.rec (fun _ _ => none) fun _ ih s t => (through t).rec ((ok t).rec none ((stp s t).bind fun r => ih r.1 r.2)) (some s)
theorem nn {α : Type} {z : α} {P : Prop} (h : (none : Option α) = some z) : P := nomatch h
theorem rec_some {α : Type} {b : Bool} {x y : Option α} {z : α} (h : (b.rec x y : Option α) = some z) : (b = false ∧ x = some z) ∨ (b = true ∧ y = some z) := match b, h with
  | false, h => .inl ⟨rfl, h⟩
  | true, h => .inr ⟨rfl, h⟩
theorem topT_of {tb : String → Option Builtin} {p : Program} {w : World} {n₀ : Nat} {ann : Option Value} {n : Nat} : ∀ {s s' : SharedT} {t : Thread}, topT (stepOk n₀ ann) (stepT (denote tb) p w) n s t = some s' → topRun tb p w n₀ ann n s.abs t = some s'.abs := by
  induction n with
  | zero => exact fun h => nn h
  | succ n ih =>
    intro s s' t h
    rcases rec_some h with ⟨a, h⟩ | ⟨a, h⟩
    · rcases rec_some h with ⟨_, h⟩ | ⟨b, h⟩
      · exact nn h
      · obtain ⟨r, e, h⟩ := Option.bind_eq_some_iff.mp h
        exact (tr2 a b (stepT_spec e)).trans (ih h)
    · cases h
      exact tr1 a
noncomputable def growT (l : List Obj) : BT → Nat → Option BT :=
  l.rec (fun t _ => some t) fun o _ ih t n => ((t.ins n o).get n).isSome.rec none (ih (t.ins n o) (n + 1))
theorem growT_of {life : Life} {l : List Obj} : ∀ {t t' : BT} {n : Nat} {a : Array Obj}, absHeap t n life = ⟨a, life⟩ → growT l t n = some t' → absHeap t' (n + l.length) life = ⟨a ++ l.toArray, life⟩ := by
  induction l with
  | nil =>
    intro t t' n a e h
    cases h
    rw [Array.append_empty]
    exact e
  | cons o r ih =>
    intro t t' n a e h
    rcases rec_some h with ⟨_, h⟩ | ⟨b, h⟩
    · exact nn h
    · have e2 : absHeap (t.ins n o) (n + 1) life = ⟨a.push o, life⟩ := (absHeap_ins b).trans (congrArg (fun z : Heap => z.push o) e)
      rw [List.length_cons, Nat.add_comm r.length 1, ← Nat.add_assoc, ih e2 h]
      exact congrArg (fun z => (⟨z, life⟩ : Heap)) (by simp)
noncomputable def endsT (imp : Option Shared) (ok : Nat → Option Value → Thread → Bool) (stp : SharedT → Thread → Option (SharedT × Thread)) (p : Program) (N : Nat) : Option (Shared × SharedT) :=
  imp.bind fun s₀ => (s₀.heap.isNs mainGlobals && s₀.gens.size == 0).rec none ((growT s₀.heap.objs.toList .nil 0).bind fun T => (topT (ok s₀.heap.objs.size (s₀.heap.nsMap mainGlobals "__annotations__")) stp N ⟨T, s₀.heap.objs.size, s₀.heap.life, s₀.gens, s₀.drawn, s₀.toks, s₀.os⟩ (topStub p)).map fun s => (s₀, s))
theorem grown {s₀ : Shared} {T : BT} (e : growT s₀.heap.objs.toList .nil 0 = some T) : SharedT.abs ⟨T, s₀.heap.objs.size, s₀.heap.life, s₀.gens, s₀.drawn, s₀.toks, s₀.os⟩ = s₀ := by
  have z := growT_of (show absHeap .nil 0 s₀.heap.life = ⟨#[], s₀.heap.life⟩ from rfl) e
  rw [Nat.zero_add, Array.length_toList, Array.empty_append, Array.toArray_toList] at z
  exact congrArg (fun h : Heap => (⟨h, s₀.gens, s₀.drawn, s₀.toks, s₀.os⟩ : Shared)) z
theorem endsT_of {imp : Option Shared} {p : Program} {w : World} {N : Nat} {s₀ : Shared} {sT : SharedT} (h : endsT imp stepOk (stepT (denote treeTable) p w) p N = some (s₀, sT)) :
    imp = some s₀ ∧ (s₀.heap.isNs mainGlobals && s₀.gens.size == 0) = true ∧ topRun treeTable p w s₀.heap.objs.size (s₀.heap.nsMap mainGlobals "__annotations__") N s₀ (topStub p) = some sT.abs := by
  obtain ⟨s₁, a, h⟩ := Option.bind_eq_some_iff.mp h
  rcases rec_some h with ⟨_, h⟩ | ⟨b, h⟩
  · exact nn h
  · obtain ⟨T, c, h⟩ := Option.bind_eq_some_iff.mp h
    obtain ⟨s', d, h⟩ := Option.map_eq_some_iff.mp h
    cases h
    exact ⟨a, b, (congrArg (fun s => topRun treeTable p w s₀.heap.objs.size (s₀.heap.nsMap mainGlobals "__annotations__") N s (topStub p)) (grown c)).symm.trans (topT_of d)⟩
theorem from_top {p : Program} {w : World} {N : Nat} {s₀ s₁ : Shared} (a : (s₀.heap.isNs mainGlobals && s₀.gens.size == 0) = true) (b : topRun treeTable p w s₀.heap.objs.size (s₀.heap.nsMap mainGlobals "__annotations__") N s₀ (topStub p) = some s₁)
    (c : (staticsOk (importedModules p.main.body) s₀.heap s₁.heap && namesBound p s₁.heap && gensDone s₁ && laidKept s₀.heap s₁.heap) = true) : topFrom treeTable p w N s₀ = some s₁ := by
  rw [topFrom, a, b]
  show (match staticsOk (importedModules p.main.body) s₀.heap s₁.heap && namesBound p s₁.heap && gensDone s₁ && laidKept s₀.heap s₁.heap with | true => some s₁ | false => none) = _
  rw [c]
theorem left_tree {p : Program} {β : Type} {f : Shared → β} {y : World → β} {N : Nat}
    (h : ∀ w, (endsT (fencedOpening treeTable p w N) stepOk (stepT (denote treeTable) p w) p N).map (fun r => ((staticsOk (importedModules p.main.body) r.1.heap r.2.abs.heap && namesBound p r.2.abs.heap && gensDone r.2.abs && laidKept r.1.heap r.2.abs.heap), f r.2.abs)) = some (true, y w)) (w : World) :
    (openEnds treeTable p w N).map f = some (y w) := by
  obtain ⟨r, e, e2⟩ := Option.map_eq_some_iff.mp (h w)
  obtain ⟨a, b, c⟩ := endsT_of (s₀ := r.1) (sT := r.2) e
  have t : openEnds treeTable p w N = some r.2.abs := (congrArg (fun z : Option Shared => z.bind (topFrom treeTable p w N)) a).trans (from_top b c (congrArg Prod.fst e2))
  rw [t]
  exact congrArg some (congrArg Prod.snd e2)
noncomputable def getT (s : SharedT) (a : Addr) : Option Obj := (Nat.blt a s.n).rec none ((s.tree.get a).rec (s.abs.heap.get? a) alive)
theorem getT_eq (s : SharedT) (a : Addr) : s.abs.heap.get? a = getT s a := by
  unfold getT
  cases e : Nat.blt a s.n with
  | false => exact abs_get_none fun q => absurd ((Nat.ble_eq_true_of_le q).symm.trans e) Bool.noConfusion
  | true =>
    cases g : s.tree.get a with
    | none => rfl
    | some o => exact abs_get (Nat.le_of_ble_eq_true e) g
noncomputable abbrev asl : List Addr := 2 :: 3 :: 43 :: 45 :: 46 :: 48 :: 49 :: 50 :: 57 :: 58 :: 59 :: 60 :: 63 :: 65 :: 66 :: 68 :: 69 :: 70 :: 72 :: 73 :: 75 :: 76 :: 77 :: 79 :: 80 :: 82 :: 83 :: 91 :: 92 :: 93 :: 95 :: 96 :: 98 :: 99 :: 100 :: 102 :: 103 :: 105 :: 106 :: 107 :: 109 :: 110 :: 112 :: 113 :: 114 :: 116 :: 117 :: 119 :: 120 :: 121 :: 123 :: 124 :: 125 :: 126 :: 127 :: 128 :: 129 :: 130 :: 131 :: 132 :: 133 :: 134 :: 144 :: 145 :: 147 :: 148 :: 150 :: 151 :: 152 :: 154 :: 155 :: 157 :: 158 :: 159 :: 161 :: 162 :: 164 :: 165 :: 166 :: 168 :: 169 :: 170 :: 171 :: 172 :: 175 :: 177 :: 178 :: 180 :: 181 :: 189 :: 190 :: 191 :: 193 :: 194 :: 196 :: 197 :: 198 :: 200 :: 201 :: 203 :: 204 :: 205 :: 207 :: 208 :: 210 :: 211 :: 212 :: 214 :: 215 :: 217 :: 218 :: 219 :: 221 :: 222 :: 223 :: 224 :: 225 :: 235 :: 236 :: 238 :: 239 :: 241 :: 242 :: 243 :: 245 :: 246 :: 248 :: 249 :: 250 :: 252 :: 253 :: 255 :: 256 :: 257 :: 259 :: 260 :: 262 :: 263 :: 264 :: 266 :: 267 :: 268 :: 271 :: 272 :: 274 :: 275 :: 277 :: 278 :: 279 :: 281 :: 282 :: 284 :: 285 :: 286 :: 288 :: 289 :: 291 :: 292 :: 293 :: 295 :: 296 :: 298 :: 299 :: 300 :: 301 :: 303 :: 304 :: 306 :: 307 :: 308 :: 309 :: 311 :: 312 :: 314 :: 315 :: 316 :: 318 :: 319 :: 321 :: 322 :: 323 :: 325 :: 326 :: 328 :: 329 :: 330 :: 333 :: 334 :: 335 :: 338 :: 339 :: 340 :: 342 :: 343 :: 345 :: 346 :: 347 :: 350 :: 351 :: 352 :: 355 :: 356 :: []
theorem asl_eq : ∀ P, asl = (hd.heap_39 P).map (·.1) := fun _ => by kernel_rfl
noncomputable abbrev looseL : List Str := [Str.ofString "groupby", Str.ofString "_grouper", Str.ofString "count", Str.ofString "itemgetter", Str.ofString "_rank", Str.ofString "median_grouped", Str.ofString "quantiles"]
theorem hd_left : LeftO PySem.Challenge.rw_ij0065_01.row.prog hd.view_39 looseL (fun s => xlAt hd.view_39 [] s && recOk (RowW.records PySem.Challenge.rw_ij0065_01.row.toRowW) s) (Hook.obs (kmHook hd.heap_39 asl asl_eq [353])) (Hook.val (kmHook hd.heap_39 asl asl_eq [353])) 4708 := by
  refine left_tree (y := fun w => (openGood hd.view_39 looseL, Hook.val (kmHook hd.heap_39 asl asl_eq [353]) w)) fun w => ?_
  unfold fencedOpening
  rw [show Hook.obs (kmHook hd.heap_39 asl asl_eq [353]) = fun s => (asl.map fun a => s.heap.get? a, [353].map fun a => s.heap.get? a) from rfl]
  simp only [getT_eq]
  rw [Fast.te10274390034422433532, Fast.te14289696077712309145, Fast.te6613529449190102663, Fast.te10156331382660048174, Fast.te11892475500146522536, Fast.te14364793385576792824, Fast.te4187177175401517315]
  kernel_rfl
-- Pf
section
open PySem.Float64
noncomputable def HK : Nat := 2 ^ 1073
theorem HK_pos : 0 < HK := Nat.two_pow_pos _
theorem HK_two : (2 : Nat) ^ 1074 = 2 * HK := by unfold HK; rw [Nat.pow_succ, Nat.mul_comm]
theorem HK_big : (2 : Nat) ^ 2045 = HK * 2 ^ 972 := by unfold HK; rw [← Nat.pow_add]
structure HV (x : UInt64) (k : Int) : Prop where
  fin : ∃ a m e, decode x = .fin a m e
  eq : val x = k * (HK : Int)
theorem v_half (j : Nat) (h : j < 2 ^ 53) : ∃ t, V t = j * HK := by
  by_cases hj : j = 0
  · exact ⟨0, by subst hj; simp [V]⟩
  · have h1 : 2 ^ j.log2 ≤ j := Nat.log2_self_le hj
    have h2 : j < 2 ^ (j.log2 + 1) := Nat.lt_log2_self
    have hl : j.log2 ≤ 52 := by
      have := (Nat.log2_lt hj).mpr h
      omega
    generalize j.log2 = l at *
    refine ⟨(1021 + l) * 2 ^ 52 + j * 2 ^ (52 - l), ?_⟩
    have e52 : (2 : Nat) ^ l * 2 ^ (52 - l) = 2 ^ 52 := by rw [← Nat.pow_add]; congr 1; omega
    have e53 : (2 : Nat) ^ (l + 1) * 2 ^ (52 - l) = 2 ^ 53 := by rw [← Nat.pow_add]; congr 1; omega
    rw [V_at ?_ (.inl ?_)]
    · unfold HK
      rw [Nat.mul_assoc, ← Nat.pow_add]
      congr 2
      omega
    · rw [← e53]; exact Nat.mul_le_mul_right _ (Nat.le_of_lt h2)
    · rw [← e52]; exact Nat.mul_le_mul_right _ h1
theorem right_half {r : UInt64} {neg : Bool} {W D j : Nat} (R : Right r neg W D) (hD : 0 < D) (hj : j < 2 ^ 53) (hW : W = D * (j * HK)) : (∃ a m e, decode r = .fin a m e) ∧ val r = sgn neg (j * HK) := by
  obtain ⟨t, rfl, hle, hinf, hnear⟩ := R
  have hlt : t < infMag := by
    refine Nat.lt_of_le_of_ne hle fun e => ?_
    have h1 := hinf.mp e
    rw [hW, HK_big] at h1
    have h2 : D * ((2 ^ 54 - 1) * (HK * 2 ^ 972)) ≤ D * (2 * (j * HK)) := by rw [Nat.mul_left_comm D 2]; exact h1
    have h3 := Nat.le_of_mul_le_mul_left h2 hD
    have h4 : (2 ^ 54 - 1) * HK ≤ (2 ^ 54 - 1) * (HK * 2 ^ 972) := Nat.mul_le_mul_left _ (Nat.le_mul_of_pos_right _ (Nat.two_pow_pos _))
    have h5 : (2 ^ 54 - 1) * HK ≤ (2 * j) * HK := by rw [Nat.mul_assoc 2 j HK]; exact Nat.le_trans h4 h3
    have h6 := Nat.le_of_mul_le_mul_right h5 HK_pos
    exact absurd h6 (Nat.not_le.mpr (Nat.lt_of_le_of_lt (Nat.mul_le_mul_left 2 (Nat.le_pred_of_lt hj)) (by decide)))
  obtain ⟨t', ht'⟩ := v_half j hj
  have h1 := (hnear hlt t').1
  rw [ht', ← hW] at h1
  have h2 : dist W W = 0 := by unfold dist; rw [Nat.sub_self]
  rw [h2] at h1
  have h3 : W = D * V t := by
    unfold dist at h1
    have z := Nat.add_eq_zero_iff.mp (Nat.le_zero.mp h1)
    exact Nat.le_antisymm (Nat.sub_eq_zero_iff_le.mp z.1) (Nat.sub_eq_zero_iff_le.mp z.2)
  rw [hW] at h3
  have h4 : V t = j * HK := (Nat.eq_of_mul_eq_mul_left hD h3).symm
  obtain ⟨m, e, hd, _⟩ := decode_pack neg hlt
  exact ⟨⟨_, _, _, hd⟩, by rw [val_pack neg hlt, h4]⟩
theorem sgn_half {neg : Bool} {k : Int} (h : k = 0 ∨ neg = decide (k < 0)) : sgn neg (k.natAbs * HK) = k * (HK : Int) := by
  rcases h with rfl | rfl
  · unfold sgn; simp
  · rw [sgn_mul]
    congr 1
    unfold sgn
    by_cases hk : k < 0
    · rw [decide_eq_true hk, if_pos rfl, Int.ofNat_natAbs_of_nonpos (Int.le_of_lt hk), Int.neg_neg]
    · rw [decide_eq_false hk, if_neg Bool.false_ne_true, Int.natAbs_of_nonneg (Int.not_lt.mp hk)]
theorem HV.of_right {r : UInt64} {neg : Bool} {W D : Nat} {k : Int} (R : Right r neg W D) (hD : 0 < D) (hk : k.natAbs < 2 ^ 53) (hW : W = D * (k.natAbs * HK)) (hn : k = 0 ∨ neg = decide (k < 0)) : HV r k := by
  obtain ⟨h1, h2⟩ := right_half R hD hk hW
  exact ⟨h1, by rw [h2, sgn_half hn]⟩
theorem HV.zero (b : Bool) : HV (Float64.zero b) 0 := by
  obtain ⟨m, e, hd, hv⟩ := decode_pack b (t := 0) (by decide)
  refine ⟨⟨_, _, _, hd⟩, ?_⟩
  show val (pack b 0) = _
  rw [val_pack b (by decide)]
  simp [V, sgn]
theorem HV.frac {a b k : Int} (hb : 0 < b) (h : 2 * a = k * b) (hk : k.natAbs < 2 ^ 53) : HV (fq a b) k := by
  have hb2 : 0 < b.natAbs := Int.natAbs_pos.mpr (Int.ne_of_gt hb)
  have hn : 2 * a.natAbs = k.natAbs * b.natAbs := by rw [← Int.natAbs_mul, ← h, Int.natAbs_mul]; rfl
  have R : Right (fq a b) (decide (a < 0) != decide (b < 0)) (a.natAbs * 2 ^ 1074) b.natAbs := ofFrac_right hb2 rfl hb2
  refine .of_right R hb2 hk ?_ ?_
  · rw [HK_two, ← Nat.mul_assoc, Nat.mul_comm a.natAbs 2, hn, ← Nat.mul_assoc, Nat.mul_comm b.natAbs]
  · have hb3 : decide (b < 0) = false := by simp; omega
    rw [hb3]
    by_cases hk0 : k = 0
    · exact .inl hk0
    · refine .inr ?_
      have : (a < 0) ↔ (k < 0) := by
        constructor
        · intro ha
          by_cases h1 : k < 0
          · exact h1
          · have := Int.mul_nonneg (a := k) (by omega) (Int.le_of_lt hb); omega
        · intro hk1
          have := Int.mul_neg_of_neg_of_pos hk1 hb
          omega
      simp [this]
theorem HV.int (i : Int) (h : (2 * i).natAbs < 2 ^ 53) : HV (Float64.ofInt i) (2 * i) := by
  refine .of_right (ofInt_right i) (by decide) h ?_ ?_
  · rw [HK_two, Nat.one_mul, Int.natAbs_mul, ← Nat.mul_assoc, Nat.mul_comm i.natAbs 2]; rfl
  · refine .inr ?_
    simp; omega
theorem hv_sum {k j : Int} : k * (HK : Int) + j * (HK : Int) = (k + j) * (HK : Int) := (Int.add_mul _ _ _).symm
theorem hv_zero {k : Int} : k * (HK : Int) = 0 ↔ k = 0 := by
  have := HK_pos
  constructor
  · intro h
    rcases Int.mul_eq_zero.mp h with h | h
    · exact h
    · omega
  · rintro rfl; simp
theorem hv_neg {k : Int} : k * (HK : Int) < 0 ↔ k < 0 := by
  have h := HK_pos
  have hp : (0 : Int) < (HK : Int) := by omega
  constructor
  · intro h1
    by_cases h2 : k < 0
    · exact h2
    · have := Int.mul_nonneg (a := k) (by omega) (Int.le_of_lt hp); omega
  · intro h1; exact Int.mul_neg_of_neg_of_pos h1 hp
theorem HV.add {x y : UInt64} {k j : Int} (hx : HV x k) (hy : HV y j) (h : (k + j).natAbs < 2 ^ 53) : HV (Float64.add x y) (k + j) := by
  obtain ⟨a, m, e, dx⟩ := hx.fin
  obtain ⟨b, n, f, dy⟩ := hy.fin
  obtain ⟨h1, h2⟩ := add_right dx dy
  rw [hx.eq, hy.eq, hv_sum] at h1 h2
  by_cases h0 : k + j = 0
  · rw [h1 (hv_zero.mpr h0), h0]; exact .zero _
  · refine .of_right (h2 fun z => h0 (hv_zero.mp z)) (by decide) h ?_ (.inr ?_)
    · rw [Int.natAbs_mul, Nat.one_mul]; rfl
    · simp only [hv_neg]
theorem HV.sub {x y : UInt64} {k j : Int} (hx : HV x k) (hy : HV y j) (h : (k - j).natAbs < 2 ^ 53) : HV (Float64.sub x y) (k - j) := by
  obtain ⟨a, m, e, dx⟩ := hx.fin
  obtain ⟨b, n, f, dy⟩ := hy.fin
  obtain ⟨h1, h2⟩ := sub_right dx dy
  rw [hx.eq, hy.eq, ← Int.sub_mul] at h1 h2
  by_cases h0 : k - j = 0
  · rw [h1 (hv_zero.mpr h0), h0]; exact .zero _
  · refine .of_right (h2 fun z => h0 (hv_zero.mp z)) (by decide) h ?_ (.inr ?_)
    · rw [Int.natAbs_mul, Nat.one_mul]; rfl
    · simp only [hv_neg]
theorem HV.sign {x : UInt64} {k : Int} {a : Bool} {m : Nat} {e : Int} (hx : HV x k) (dx : decode x = .fin a m e) : k = 0 ∨ a = decide (k < 0) := by
  have h1 := val_eq dx
  rw [hx.eq] at h1
  by_cases h0 : k = 0
  · exact .inl h0
  · refine .inr ?_
    generalize m * 2 ^ (e + 1074).toNat = M at h1
    have hz : k * (HK : Int) ≠ 0 := fun z => h0 (hv_zero.mp z)
    have hn := hv_neg (k := k)
    cases a with
    | true =>
      have : sgn true M = -(M : Int) := rfl
      rw [this] at h1
      have : k < 0 := hn.mp (by omega)
      simp [this]
    | false =>
      have : sgn false M = (M : Int) := rfl
      rw [this] at h1
      have : ¬ k < 0 := fun z => by have := hn.mpr z; omega
      simp [this]
theorem hv_abs {x : UInt64} {k : Int} (hx : HV x k) : (val x).natAbs = k.natAbs * HK := by rw [hx.eq, Int.natAbs_mul]; rfl
theorem sign_prod {a b : Bool} {k j q : Int} (ha : k = 0 ∨ a = decide (k < 0)) (hb : j = 0 ∨ b = decide (j < 0)) (hk : k ≠ 0) (hj : j ≠ 0) (h : (q < 0 ↔ (k < 0 ∧ 0 < j) ∨ (0 < k ∧ j < 0))) : (a != b) = decide (q < 0) := by
  rcases ha with ha | rfl
  · exact absurd ha hk
  rcases hb with hb | rfl
  · exact absurd hb hj
  by_cases h1 : k < 0 <;> by_cases h2 : j < 0
  · have : ¬ q < 0 := by rw [h]; omega
    simp [h1, h2, this]
  · have : q < 0 := by rw [h]; omega
    simp [h1, h2, this]
  · have : q < 0 := by rw [h]; omega
    simp [h1, h2, this]
  · have : ¬ q < 0 := by rw [h]; omega
    simp [h1, h2, this]
theorem prod_neg {k j : Int} (hk : k ≠ 0) (hj : j ≠ 0) : (k * j < 0 ↔ (k < 0 ∧ 0 < j) ∨ (0 < k ∧ j < 0)) := by
  constructor
  · intro h
    rcases Int.lt_or_gt_of_ne hk with h1 | h1 <;> rcases Int.lt_or_gt_of_ne hj with h2 | h2
    · have := Int.mul_pos_of_neg_of_neg h1 h2; omega
    · exact .inl ⟨h1, h2⟩
    · exact .inr ⟨h1, h2⟩
    · have := Int.mul_pos h1 h2; omega
  · rintro (⟨h1, h2⟩ | ⟨h1, h2⟩)
    · exact Int.mul_neg_of_neg_of_pos h1 h2
    · exact Int.mul_neg_of_pos_of_neg h1 h2
theorem HV.mul {x y : UInt64} {k j q : Int} (hx : HV x k) (hy : HV y j) (hq : k * j = 2 * q) (h : q.natAbs < 2 ^ 53) : HV (Float64.mul x y) q := by
  obtain ⟨a, m, e, dx⟩ := hx.fin
  obtain ⟨b, n, f, dy⟩ := hy.fin
  have R := mul_right dx dy
  rw [hv_abs hx, hv_abs hy] at R
  have hn : k.natAbs * j.natAbs = 2 * q.natAbs := by rw [← Int.natAbs_mul, hq, Int.natAbs_mul]; rfl
  refine .of_right R (Nat.two_pow_pos _) h ?_ ?_
  · rw [HK_two]
    calc k.natAbs * HK * (j.natAbs * HK) = (k.natAbs * j.natAbs) * (HK * HK) := by ac_rfl
      _ = 2 * HK * (q.natAbs * HK) := by rw [hn]; ac_rfl
  · by_cases h0 : q = 0
    · exact .inl h0
    · have hk : k ≠ 0 := fun z => by subst z; simp at hq; omega
      have hj : j ≠ 0 := fun z => by subst z; simp at hq; omega
      refine .inr (sign_prod (hx.sign dx) (hy.sign dy) hk hj ?_)
      rw [← prod_neg hk hj, hq]; omega
theorem quot_neg {k j q : Int} (hq : 2 * k = q * j) (hj : j ≠ 0) : (q < 0 ↔ (k < 0 ∧ 0 < j) ∨ (0 < k ∧ j < 0)) := by
  constructor
  · intro h
    rcases Int.lt_or_gt_of_ne hj with h2 | h2
    · have := Int.mul_pos_of_neg_of_neg h h2
      exact .inr ⟨by omega, h2⟩
    · have := Int.mul_neg_of_neg_of_pos h h2
      exact .inl ⟨by omega, h2⟩
  · rintro (⟨h1, h2⟩ | ⟨h1, h2⟩) <;> refine Int.not_le.mp fun h => ?_
    · have := Int.mul_nonneg h (Int.le_of_lt h2)
      omega
    · have := Int.mul_nonpos_of_nonneg_of_nonpos h (Int.le_of_lt h2)
      omega
theorem HV.div {x y : UInt64} {k j q : Int} (hx : HV x k) (hy : HV y j) (hj : j ≠ 0) (hq : 2 * k = q * j) (h : q.natAbs < 2 ^ 53) : HV (Float64.div x y) q := by
  obtain ⟨a, m, e, dx⟩ := hx.fin
  obtain ⟨b, n, f, dy⟩ := hy.fin
  have hva := hv_abs hy
  have hjp : 0 < j.natAbs * HK := Nat.mul_pos (Int.natAbs_pos.mpr hj) HK_pos
  have hn0 : n ≠ 0 := fun z => by
    have h1 := val_natAbs dy
    rw [z, hva, Nat.zero_mul] at h1
    omega
  have R := div_right dx dy hn0
  rw [hv_abs hx, hva] at R
  have hn : 2 * k.natAbs = q.natAbs * j.natAbs := by rw [← Int.natAbs_mul, ← hq, Int.natAbs_mul]; rfl
  refine .of_right R hjp h ?_ ?_
  · rw [HK_two]
    calc k.natAbs * HK * (2 * HK) = (2 * k.natAbs) * (HK * HK) := by ac_rfl
      _ = j.natAbs * HK * (q.natAbs * HK) := by rw [hn]; ac_rfl
  · by_cases h0 : q = 0
    · exact .inl h0
    · have hk : k ≠ 0 := fun z => by
        subst z
        have hq' : q * j = 0 := by omega
        rcases Int.mul_eq_zero.mp hq' with z | z
        · exact h0 z
        · exact hj z
      refine .inr (sign_prod (hx.sign dx) (hy.sign dy) hk hj ?_)
      exact quot_neg hq hj
theorem HV.cmpInt {x : UInt64} {k : Int} (hx : HV x k) (i : Int) : Float64.cmpInt x i = some (compare k (2 * i)) := by
  obtain ⟨a, m, e, dx⟩ := hx.fin
  rw [cmpInt_right dx, hx.eq]
  have e1 : i * (2 : Int) ^ 1074 = (2 * i) * (HK : Int) := by
    have : ((2 : Int) ^ 1074) = ((2 ^ 1074 : Nat) : Int) := by simp
    rw [this, HK_two, Int.natCast_mul, ← Int.mul_assoc]
    congr 1
    exact Int.mul_comm _ _
  rw [e1]
  congr 1
  have hp : (0 : Int) < (HK : Int) := by have := HK_pos; omega
  rcases Int.lt_trichotomy k (2 * i) with h | h | h
  · rw [Int.compare_eq_lt.mpr h, Int.compare_eq_lt.mpr (Int.mul_lt_mul_of_pos_right h hp)]
  · rw [h]; simp
  · rw [Int.compare_eq_gt.mpr h, Int.compare_eq_gt.mpr (Int.mul_lt_mul_of_pos_right h hp)]
theorem HV.cmp {x y : UInt64} {k j : Int} (hx : HV x k) (hy : HV y j) : Float64.cmp x y = some (compare k j) := by
  obtain ⟨a, m, e, dx⟩ := hx.fin
  obtain ⟨b, n, f, dy⟩ := hy.fin
  rw [cmp_right dx dy, hx.eq, hy.eq]
  congr 1
  have hp : (0 : Int) < (HK : Int) := by have := HK_pos; omega
  rcases Int.lt_trichotomy k j with h | h | h
  · rw [Int.compare_eq_lt.mpr h, Int.compare_eq_lt.mpr (Int.mul_lt_mul_of_pos_right h hp)]
  · rw [h]; simp
  · rw [Int.compare_eq_gt.mpr h, Int.compare_eq_gt.mpr (Int.mul_lt_mul_of_pos_right h hp)]
structure HB (x : UInt64) (k : Int) (n : Nat) : Prop where
  hv : HV x k
  le : k.natAbs ≤ n
theorem HB.mono {x : UInt64} {k : Int} {n m : Nat} (h : HB x k n) (l : n ≤ m) : HB x k m := ⟨h.hv, Nat.le_trans h.le l⟩
theorem HB.int {i : Int} {n : Nat} (hi : i.natAbs ≤ n) (h : 2 * n < 2 ^ 53) : HB (Float64.ofInt i) (2 * i) (2 * n) := by
  have e : (2 * i).natAbs ≤ 2 * n := by rw [Int.natAbs_mul]; exact Nat.mul_le_mul_left 2 hi
  exact ⟨.int i (Nat.lt_of_le_of_lt e h), e⟩
theorem HB.add {x y : UInt64} {k j : Int} {n m : Nat} (hx : HB x k n) (hy : HB y j m) (h : n + m < 2 ^ 53) : HB (Float64.add x y) (k + j) (n + m) := by
  have e : (k + j).natAbs ≤ n + m := Nat.le_trans (Int.natAbs_add_le k j) (Nat.add_le_add hx.le hy.le)
  exact ⟨.add hx.hv hy.hv (Nat.lt_of_le_of_lt e h), e⟩
theorem HB.sub {x y : UInt64} {k j : Int} {n m : Nat} (hx : HB x k n) (hy : HB y j m) (h : n + m < 2 ^ 53) : HB (Float64.sub x y) (k - j) (n + m) := by
  have e : (k - j).natAbs ≤ n + m := Nat.le_trans (Int.natAbs_sub_le k j) (Nat.add_le_add hx.le hy.le)
  exact ⟨.sub hx.hv hy.hv (Nat.lt_of_le_of_lt e h), e⟩
theorem HB.mul {x y : UInt64} {k j q : Int} {n : Nat} (hx : HV x k) (hy : HV y j) (hq : k * j = 2 * q) (hn : q.natAbs ≤ n) (h : n < 2 ^ 53) : HB (Float64.mul x y) q n := ⟨.mul hx hy hq (Nat.lt_of_le_of_lt hn h), hn⟩
theorem HB.div {x y : UInt64} {k j q : Int} {n : Nat} (hx : HV x k) (hy : HV y j) (hj : j ≠ 0) (hq : 2 * k = q * j) (hn : q.natAbs ≤ n) (h : n < 2 ^ 53) : HB (Float64.div x y) q n := ⟨.div hx hy hj hq (Nat.lt_of_le_of_lt hn h), hn⟩
theorem HB.frac {a b k : Int} {n : Nat} (hb : 0 < b) (hq : 2 * a = k * b) (hn : k.natAbs ≤ n) (h : n < 2 ^ 53) : HB (fq a b) k n := ⟨.frac hb hq (Nat.lt_of_le_of_lt hn h), hn⟩
theorem nab0 {x : Int} {n : Nat} (h1 : 0 ≤ x) (h2 : x ≤ (n : Int)) : x.natAbs ≤ n := nab (Int.le_trans (by omega) h1) h2
theorem cmp_lt (a b : Int) : (some (compare a b) == some Ordering.lt) = decide (a < b) := by
  by_cases h : a < b
  · rw [decide_eq_true h, Int.compare_eq_lt.mpr h]; rfl
  · rw [decide_eq_false h]
    exact beq_eq_false_iff_ne.mpr fun z => h (Int.compare_eq_lt.mp (Option.some.inj z))
theorem cmp_gt (a b : Int) : (some (compare a b) == some Ordering.gt) = decide (b < a) := by
  by_cases h : b < a
  · rw [decide_eq_true h, Int.compare_eq_gt.mpr h]; rfl
  · rw [decide_eq_false h]
    exact beq_eq_false_iff_ne.mpr fun z => h (Int.compare_eq_gt.mp (Option.some.inj z))
theorem HV.eqInt {x : UInt64} {k : Int} (hx : HV x (2 * k)) : (Float64.cmpInt x k == some Ordering.eq) = true := by rw [hx.cmpInt, Int.compare_eq_eq.mpr rfl]; rfl
end
section
local macro_rules | `(tactic| walk_at "fr_dflt") => `(tactic| (intro M9 A9 E9 Q9 hq9; (repeat (with_unfolding_all refine wp_nodeA ?_)); with_unfolding_all exact wpAny_pure hq9))
local macro_rules | `(tactic| walk_at "fr_b") => `(tactic| first | exact BindsTo.of_eq rfl | exact binds_K (by k_in) rfl (by k_is) rfl rfl rfl | (walk_at "fr_dflt"))
local macro_rules | `(tactic| walk_at "fr_enterC") => `(tactic| (refine call_frozenC ?_; k_whole; intro L' h' tk' cells' F' N' Y' B' X' T'; k_cells Y'; (try simp only [List.cons_append, List.nil_append] at N'); (try dsimp only); (try k_fold)))
local macro_rules | `(tactic| walk_at "step") => `(tactic| first | (k_unfold; (try dsimp only)) | (with_reducible refine at_whl ?_; refine whl_start 3 ?_) | (k_end; wrow_close) | ((fail_if_success (with_reducible refine at_whl ?_)); (fail_if_success (with_reducible refine at_iter ?_)); (fail_if_success (with_reducible refine at_lc ?_)); first | (walk1; (try dsimp only)) | (dsimp only; walk1)) | (leave1; try dsimp only))
local macro_rules | `(tactic| walk_at "go") => `(tactic| repeat' (walk_at "step"))
local macro_rules | `(tactic| mul_fits) => `(tactic| first | exact mulok_getD | exact mulok_sub | exact mulok_small (by omega) (by omega))
local macro_rules | `(tactic| walk_at "binaryOp Div int int") => `(tactic| (k_dflt (refine div_side ?_ (by omega) ?_)))
local macro_rules | `(tactic| walk_at "call type:type") => `(tactic| (k_dflt (first | refine type_list ?_ | refine type_int ?_ | refine type_float ?_)))
local macro_rules | `(tactic| walk_at "compareOp Is type type") => `(tactic| (k_dflt (refine wpAny_is_self (by rfl) ?_)))
local macro_rules | `(tactic| walk_at "eval Name") => `(tactic| (with_reducible refine at_cname ?_; k_dflt (first | refine nm_local ?_ | refine nm_cell ?_ | refine nm_free ?_)))
local macro_rules | `(tactic| walk_at "comp") => `(tactic| (k_dflt (refine wpAny_ListComp_free _ _ (by rfl) (by decide) (by rfl) (by decide) (by rfl) ?_)))
local macro_rules | `(tactic| walk_at "compareOp IsNot type type") => `(tactic| (k_dflt (refine wpAny_isNot_self (by rfl) ?_)))
local macro_rules | `(tactic| walk_at "call builtin:len") => `(tactic| (k_dflt (first | refine len_0 ?_ | refine len_1 ?_)))
local macro_rules | `(tactic| k_lt $h:ident) => `(tactic| (replace $h := allLt_of $h))
local macro_rules | `(tactic| k_ne) => `(tactic| first | (with_reducible first | assumption | exact al0 | exact al1 | exact al2 | exact al3 | exact al4 | exact al5 | exact al6 | exact al7 | exact al8 | exact al9 | exact al10 | exact al11 | exact al12 | exact al13) | (refine neN ?_; (try dsimp only); first | (refine Nat.ne_of_lt ?_; k_ne) | (refine Nat.ne_of_gt ?_; k_ne) | (refine Nat.ne_of_lt (lt_via ?_); k_ne) | (refine Nat.ne_of_gt (lt_via ?_); k_ne) | ((try simp only [AllLt, and_true] at *); omega)))
local macro_rules | `(tactic| ktr_room) => `(tactic| first | exact roomKk 1 | exact roomKk 2 | exact roomKk 3 | exact roomKk 4 | exact roomKk 0 | exact roomKk 5)
local macro_rules | `(tactic| news_mem) => `(tactic| k_mem)
-- Q1
namespace quant_x_c
noncomputable def hkS : Prop := ∀ (w p loose mean mg mb) (s : Shared) (l : Addr) (vs : List Value) (ns : List Int) (k : Int) (tk u : Tok) (hl : s.heap.IsList l vs.toArray) (hi : IntsAre vs ns) (h1 : 1 < ns.length) (h2 : ns.length < 6) (hk1 : 1 ≤ k) (hk2 : k ≤ 10) (hb : ∀ x ∈ ns, -100000 ≤ x ∧ x ≤ 100000), Pure w p loose mean mg mb 315 [.ref l] [("n", .int k tk), ("method", .str "exclusive" u)] s 4 60 (fun h v => ∃ (r : Addr) (fs : List Value) (c : Nat) (d : List Int), v = .ref r ∧ s.heap.get? r = none ∧ h.get? r = some (W.listOf fs.toArray c) ∧ d.Perm ns ∧ d.Pairwise (· ≤ ·) ∧ FlAre fs ((rangeKs 1 (k - 1).toNat).map (qex d k)))
noncomputable def hkK1 : Σ' P0 : World → Program → tS → tX → tM → tM → Shared → Addr → tV → tI → Tok → Tok → Nat → Nat → tC → Str → Scope → Addr → Value → tA → tE → Heap → Addr → tQ → tQ → Addr → Heap → Prop, (∀ a b c d e f g h i j k l m n o p q r s t u v w x y z xa, P0 a b c d e f g h i j k l m n o p q r s t u v w x y z xa) → hkS := ⟨_, fun hcA => by
  intro w p loose mean mg mb s l vs ns k tk u hl hi h1 h2 hk1 hk2 hb
  unfold Pure PureC PG
  k_fill
  intro dp un gd cn cs a ccd cl outer A₀ base h₀ L m Q E B F X T hk hd hu hret
  refine wpAny_call ?_
  k_dflt (refine call_frozen ?_; k_whole; intro _ _ _ _ _ _ _; (try dsimp only); (try k_fold))
  (with_reducible rename Fr _ _ _ _ => F9); have F10 : Fr s.heap _ _ (fun y => List.lookup y ([(Str.ofString "method", Value.str "exclusive" u), (Str.ofString "n", Value.int k tk), (Str.ofString "data", Value.ref l)] : List (Str × Value))) := F9; clear F9
  rename_i La1 ha2 Na3 _ Xa4 Ta5
  revert F10; revert Ta5; revert Xa4; revert Na3; revert hret; revert hu; revert hd; revert hk; revert T; revert X; revert hb; revert hk2; revert hk1; revert h2; revert h1; revert hi; revert hl; revert k; apply (hcA w p loose mean mg mb s l vs ns tk u dp un gd cn cs a ccd cl outer h₀ L Q E La1 ha2)⟩
namespace A
noncomputable def hkP (y : VV) := hkK1.1 (y.W 0) (y.P 0) (y.S 0) (y.X 0) (y.M 0) (y.M 1) (y.R 0) (y.N 0) (y.L 0) (y.I 0) (y.N 1) (y.N 2) (y.N 3) (y.N 4) (y.C 0) (y.G 0) (y.K 0) (y.N 5) (y.V 0) (y.T 0) (y.E 0) (y.H 0) (y.N 6) (y.Q 0) (y.Q 1) (y.N 7) (y.H 1)
@[irreducible] noncomputable def hkG1 := epsV0 hkP
@[irreducible] def p : Program := hkG1.P 0
noncomputable def hkK2 : Σ' P0 : Int → Addr → tV → tI → Nat → Nat → Nat → Addr → Heap → Nat → Heap → Nat → Tok → Tok → Tok → Prop, (∀ a b c d e f g h i j k l m n o, P0 a b c d e f g h i j k l m n o) → hkP hkG1 := ⟨_, fun hcB => by
  with_unfolding_all show hkK1.1 (hkG1.W 0) p (hkG1.S 0) (hkG1.X 0) (hkG1.M 0) (hkG1.M 1) (hkG1.R 0) (hkG1.N 0) (hkG1.L 0) (hkG1.I 0) (hkG1.N 1) (hkG1.N 2) (hkG1.N 3) (hkG1.N 4) (hkG1.C 0) (hkG1.G 0) (hkG1.K 0) (hkG1.N 5) (hkG1.V 0) (hkG1.T 0) (hkG1.E 0) (hkG1.H 0) (hkG1.N 6) (hkG1.Q 0) (hkG1.Q 1) (hkG1.N 7) (hkG1.H 1)
  intro k hl hi h1 h2 hk1 hk2 hb X T hk hd hu hret Na3 Xa4 Ta5 F10
  walk_at "go"
  rename List Int => n9
  rename List.Perm _ _ => p9
  rename IsRange _ _ _ _ _ _ _ _ => R9
  have hb9 : ∀ x ∈ n9, -100000 ≤ x ∧ x ≤ 100000 := fun x hx => hb x (p9.mem_iff.mp hx)
  clear hb
  have hg9 : ∀ j, -1000000 ≤ n9.getD j 0 ∧ n9.getD j 0 ≤ 1000000 := fun j => by have := getD_bnd (by decide) hb9 j; omega
  rename_i Db1 vb2 cb3 _ ib4 eb5 pb6 ob7 bb8 lb9 sb10 _ tkb11 _ _ _ _ tkb12 _ _ lb13 _ lb14 hb15 Fb16 Nb17 hb18 tkb19 tb20 ub21 vb22 ab23 ab24 ab25
  revert hg9; revert hb9; revert ab25; revert ab24; revert ab23; revert R9; revert Nb17; revert Fb16; revert lb14; revert sb10; revert lb9; revert p9; revert bb8; revert ob7; revert pb6; revert eb5; revert ib4; revert Ta5; revert Xa4; revert hret; revert hu; revert hd; revert hk; revert T; revert X; revert hk2; revert hk1; revert h2; revert h1; revert hi; revert hl; apply (hcB k Db1 vb2 n9 cb3 tkb11 tkb12 lb13 hb15 tk hb18 tkb19 tb20 ub21 vb22)⟩
namespace B
noncomputable def hkP (y : VV) := hkK2.1 (y.Z 0) (y.N 0) (y.L 0) (y.I 0) (y.N 1) (y.N 2) (y.N 3) (y.N 4) (y.H 0) (y.N 5) (y.H 1) (y.N 6) (y.N 7) (y.N 8) (y.N 9)
@[irreducible] noncomputable def hkG2 := epsV0 hkP
@[irreducible] def k : Int := hkG2.Z 0
@[irreducible] def n9 : tI := hkG2.I 0
theorem hkM : hkP hkG2 := (by exact @wI _ _ : @wT (hkP hkG2) (by
  with_unfolding_all show hkK2.1 k (hkG2.N 0) (hkG2.L 0) n9 (hkG2.N 1) (hkG2.N 2) (hkG2.N 3) (hkG2.N 4) (hkG2.H 0) (hkG2.N 5) (hkG2.H 1) (hkG2.N 6) (hkG2.N 7) (hkG2.N 8) (hkG2.N 9)
  intro hl hi h1 h2 hk1 hk2 X T hk hd hu hret Xa4 Ta5 ib4 eb5 pb6 ob7 bb8 p9 lb9 sb10 lb14 Fb16 Nb17 R9 ab23 ab24 ab25 hb9 hg9
  with_unfolding_all refine' range_push [Str.ofString "j", Str.ofString "delta", Str.ofString "interpolated"] (fun pre fs => FlAre fs (pre.map (qex n9 k))) (by rfl) R9 (by first | exact small_one (by omega) (by omega) (by omega) (by omega)) (rangeSize_nat _ _) (by assumption) (by assumption) FlAre.nil ?_ ?_
  · clear R9
    intro fs c pre i ti uu h tk8 own hik hlt hoff hP F7 N7
    have hlen : fs.length ≤ 20 := by have := hP.length; rw [List.length_map] at this; omega
    walk_at "go"
    all_goals first
      | exact num_side (hg9 _) (hg9 _) (by omega) (by omega) (by omega) (by omega) (by omega) (by omega) (by omega) (by omega)
      | (((rename News _ _ _ _ => N6); (try simp only [List.push_toArray] at N6); (refine PushEnd.intro2 (by assumption) N6 ?_ ?_ ?_); (focus (first | exact (fun _ hp => hp) | (subst_vars; intro p hp; simpa only [List.append_assoc, List.cons_append, List.nil_append] using hp))); (focus (intro z h1 h3; (try simp only [List.contains_cons, List.contains_nil, Bool.or_false, Bool.or_eq_false_iff, beq_eq_false_iff_ne, ne_eq] at h3); (simp [h1, h3]; done)))); refine FlAre.snoc' hP ?_; unfold qex dex jex; (repeat' split) <;> first | rfl | (exfalso; omega))
  · intro fs c uu h tk8 hP F7 N7
    walk_at "go"
    refine hret _ _ _ F7.keep ⟨_, fs, c, n9, rfl, ?_, (N7 _ (List.Mem.head _)).1, p9, by assumption, hP⟩
    exact (N7 _ (List.Mem.head _)).2.2
  ))
end B
theorem hkM : hkP hkG1 := no_implicit_lambda% (@hkapp _ _ hkK2.2 (fun a b c d e f g h i j k l m n o => @epsV B.hkP (by with_unfolding_all exact B.hkM) (vv e9E e9C e9T e9K e9A e9X e9S e9G e9W e9P e9Q e9R e9V (lk [a] d9Z) (lk [d] d9I) (lk [c] d9L) e9M (lk [i, k] d9H) e9O (lk [b, e, f, g, h, j, l, m, n, o] d9N))))
end A
theorem A_all : ∀ a b c d e f g h i j k l m n o p q r s t u v w x y z xa, hkK1.1 a b c d e f g h i j k l m n o p q r s t u v w x y z xa := fun a b c d e f g h i j k l m n o p q r s t u v w x y z xa => @epsV A.hkP (by with_unfolding_all exact A.hkM) (vv (lk [u] d9E) (lk [o] d9C) (lk [t] d9T) (lk [q] d9K) e9A (lk [d] d9X) (lk [c] d9S) (lk [p] d9G) (lk [a] d9W) (lk [b] d9P) (lk [x, y] d9Q) (lk [g] d9R) (lk [s] d9V) e9Z (lk [j] d9I) (lk [i] d9L) (lk [e, f] d9M) (lk [v, xa] d9H) e9O (lk [h, k, l, m, n, r, w, z] d9N))
theorem hkM : hkS := no_implicit_lambda% (@hkapp _ _ hkK1.2 A_all)
end quant_x_c
theorem quant_x : quant_x_c.hkS := @quant_x_c.hkM
-- Q2
namespace quant_i_c
noncomputable def hkS : Prop := ∀ (w p loose mean mg mb) (s : Shared) (l : Addr) (vs : List Value) (ns : List Int) (k : Int) (tk u : Tok) (hl : s.heap.IsList l vs.toArray) (hi : IntsAre vs ns) (h1 : 1 < ns.length) (h2 : ns.length < 6) (hk1 : 1 ≤ k) (hk2 : k ≤ 10) (hb : ∀ x ∈ ns, -100000 ≤ x ∧ x ≤ 100000), Pure w p loose mean mg mb 315 [.ref l] [("n", .int k tk), ("method", .str "inclusive" u)] s 4 60 (fun h v => ∃ (r : Addr) (fs : List Value) (c : Nat) (d : List Int), v = .ref r ∧ s.heap.get? r = none ∧ h.get? r = some (W.listOf fs.toArray c) ∧ d.Perm ns ∧ d.Pairwise (· ≤ ·) ∧ FlAre fs ((rangeKs 1 (k - 1).toNat).map (qin d k)))
noncomputable def hkK : Σ' P : World → Program → tS → tX → tM → tM → Shared → Addr → tV → tI → Tok → Tok → Nat → Nat → tC → Str → Scope → Addr → Value → tA → tE → Around → Heap → Heap → Addr → tM → Prop, (∀ a b c d e f g h i j k l m n o p q r s t u v w x y z, P a b c d e f g h i j k l m n o p q r s t u v w x y z) → hkS := ⟨_, fun hk9 => by intro w p loose mean mg mb s l vs ns k tk u hl hi h1 h2 hk1 hk2 hb dp un gd cn cs a ccd cl outer A₀ base h₀ L m; revert hb; revert hk2; revert hk1; revert h2; revert h1; revert hi; revert hl; revert k; apply (hk9 w p loose mean mg mb s l vs ns tk u dp un gd cn cs a ccd cl outer A₀ base h₀ L m)⟩
namespace Z9
noncomputable def hkP (y : VV) := hkK.1 (y.W 0) (y.P 0) (y.S 0) (y.X 0) (y.M 0) (y.M 1) (y.R 0) (y.N 0) (y.L 0) (y.I 0) (y.N 1) (y.N 2) (y.N 3) (y.N 4) (y.C 0) (y.G 0) (y.K 0) (y.N 5) (y.V 0) (y.T 0) (y.E 0) (y.A 0) (y.H 0) (y.H 1) (y.N 6) (y.M 2)
@[irreducible] noncomputable def hkG1 := epsV0 hkP
@[irreducible] def p : Program := hkG1.P 0
@[irreducible] def s : Shared := hkG1.R 0
@[irreducible] def u : Tok := hkG1.N 2
theorem hkM : hkP hkG1 := (by exact @wI _ _ : @wT (hkP hkG1) (by
  with_unfolding_all show hkK.1 (hkG1.W 0) p (hkG1.S 0) (hkG1.X 0) (hkG1.M 0) (hkG1.M 1) s (hkG1.N 0) (hkG1.L 0) (hkG1.I 0) (hkG1.N 1) u (hkG1.N 3) (hkG1.N 4) (hkG1.C 0) (hkG1.G 0) (hkG1.K 0) (hkG1.N 5) (hkG1.V 0) (hkG1.T 0) (hkG1.E 0) (hkG1.A 0) (hkG1.H 0) (hkG1.H 1) (hkG1.N 6) (hkG1.M 2)
  intro k hl hi h1 h2 hk1 hk2 hb
  unfold PureC PG
  k_fill
  intro Q E B F X T hk hd hu hret
  refine wpAny_call ?_
  k_dflt (refine call_frozen ?_; k_whole; intro _ _ _ _ _ _ _; (try dsimp only); (try k_fold))
  (with_reducible rename Fr _ _ _ _ => F9); have F10 : Fr s.heap _ _ (fun y => List.lookup y ([(Str.ofString "method", Value.str "inclusive" u), (Str.ofString "n", Value.int k (hkG1.N 1)), (Str.ofString "data", Value.ref (hkG1.N 0))] : List (Str × Value))) := F9; clear F9
  walk_at "go"
  rename List Int => n9
  rename List.Perm _ _ => p9
  rename IsRange _ _ _ _ _ _ _ _ => R9
  have hb9 : ∀ x ∈ n9, -100000 ≤ x ∧ x ≤ 100000 := fun x hx => hb x (p9.mem_iff.mp hx)
  clear hb
  have hg9 : ∀ j, -1000000 ≤ n9.getD j 0 ∧ n9.getD j 0 ≤ 1000000 := fun j => by have := getD_bnd (by decide) hb9 j; omega
  with_unfolding_all refine' range_push [Str.ofString "j", Str.ofString "delta", Str.ofString "interpolated"] (fun pre fs => FlAre fs (pre.map (qin n9 k))) (by rfl) R9 (by first | exact small_one (by omega) (by omega) (by omega) (by omega)) (rangeSize_nat _ _) (by assumption) (by assumption) FlAre.nil ?_ ?_
  · clear R9
    intro fs c pre i ti uu h tk8 own hik hlt hoff hP F7 N7
    have hlen : fs.length ≤ 20 := by have := hP.length; rw [List.length_map] at this; omega
    obtain ⟨hj1, hj2, hj3, hj4⟩ := jin_bnd (i := i) (k := k) (N := (n9.length : Int)) (by omega) (by omega) (by omega)
    have hlt9 := ltN (Heap.lt_size (N7 _ (List.Mem.head _)).1)
    walk_at "go"
    all_goals first
      | exact num_bnd (hg9 _) (hg9 _) (by omega) (by omega)
      | ((rename News _ _ _ _ => N8); (have N9 := kst_newsOf N8 (fun p hp => List.mem_cons_of_mem _ hp)); ((rename News _ _ _ _ => N6); (try simp only [List.push_toArray] at N6); (refine PushEnd.intro2 (by assumption) N6 ?_ ?_ ?_); (focus (first | exact (fun _ hp => hp) | (subst_vars; intro p hp; simpa only [List.append_assoc, List.cons_append, List.nil_append] using hp))); (focus (intro z h1 h3; (try simp only [List.contains_cons, List.contains_nil, Bool.or_false, Bool.or_eq_false_iff, beq_eq_false_iff_ne, ne_eq] at h3); (simp [h1, h3]; done)))); exact FlAre.snoc' hP rfl)
  · intro fs c uu h tk8 hP F7 N7
    walk_at "go"
    refine hret _ _ _ F7.keep ⟨_, fs, c, n9, rfl, ?_, (N7 _ (List.Mem.head _)).1, p9, by assumption, hP⟩
    exact (N7 _ (List.Mem.head _)).2.2
  ))
end Z9
theorem hkT : hkS := no_implicit_lambda% (@hkapp _ _ hkK.2 (fun a b c d e f g h i j k l m n o p q r s t u v w x y z => @epsV Z9.hkP (by with_unfolding_all exact Z9.hkM) (vv (lk [u] d9E) (lk [o] d9C) (lk [t] d9T) (lk [q] d9K) (lk [v] d9A) (lk [d] d9X) (lk [c] d9S) (lk [p] d9G) (lk [a] d9W) (lk [b] d9P) e9Q (lk [g] d9R) (lk [s] d9V) e9Z (lk [j] d9I) (lk [i] d9L) (lk [e, f, z] d9M) (lk [w, x] d9H) e9O (lk [h, k, l, m, n, r, y] d9N))))
end quant_i_c
theorem quant_i : quant_i_c.hkS := @quant_i_c.hkT
-- Q3
theorem quant_1 (w p loose mean mg mb) (s : Shared) (l : Addr) (vs : List Value) (ns : List Int) (k : Int) (tk u : Tok) (mth : Str) (hl : s.heap.IsList l vs.toArray) (hi : IntsAre vs ns) (h1 : ns.length = 1) (hk1 : 1 ≤ k) (hk2 : k ≤ 10) :
    Pure w p loose mean mg mb 315 [.ref l] [("n", .int k tk), ("method", .str mth u)] s 4 60 (fun h v => ∃ (r : Addr) (fs : List Value) (c : Nat), v = .ref r ∧ s.heap.get? r = none ∧ h.get? r = some (W.listOf fs.toArray c) ∧ IntsAre fs (List.replicate (k - 1).toNat (ns.getD 0 0))) := by
  unfold Pure PureC PG
  k_fill
  intro dp un gd cn cs a ccd cl outer A₀ base h₀ L m Q E B F X T hk hd hu hret
  refine wpAny_call ?_
  k_dflt (refine call_frozen ?_; k_whole; intro _ _ _ _ _ _ _; (try dsimp only); (try k_fold))
  (with_reducible rename Fr _ _ _ _ => F9); have F10 : Fr s.heap _ _ (fun y => List.lookup y ([(Str.ofString "method", Value.str mth u), (Str.ofString "n", Value.int k tk), (Str.ofString "data", Value.ref l)] : List (Str × Value))) := F9; clear F9
  walk_at "go"
  all_goals first
    | (exfalso; omega)
    | (show Q _ _
       (rename Fr _ _ _ _ => F6); (rename News _ _ _ _ => N6)
       refine hret _ _ _ F6.keep ⟨_, _, _, rfl, (N6 _ (List.Mem.head _)).2.2, (N6 _ (List.Mem.head _)).1, ?_⟩
       (rename List Int => n9); (rename List.Perm _ _ => p9); (rename IntsAre (List.flatten _) _ => i9)
       have e := perm_one p9 h1
       subst e
       have e2 : (List.replicate (k - 1).toNat [ns.getD 0 0]).flatten = List.replicate (k - 1).toNat (ns.getD 0 0) := by simp
       rw [← e2]; exact i9)
-- Q4
theorem quant_d (w p loose mean mg mb) (s : Shared) (l : Addr) (vs : List Value) (ns : List Int) (hl : s.heap.IsList l vs.toArray) (hi : IntsAre vs ns) (h1 : 1 < ns.length) (h2 : ns.length < 6) 
    (hb : ∀ x ∈ ns, -100000 ≤ x ∧ x ≤ 100000) :
    Pure w p loose mean mg mb 315 [.ref l] [] s 4 60 (fun h v => ∃ (r : Addr) (fs : List Value) (c : Nat) (d : List Int), v = .ref r ∧ s.heap.get? r = none ∧ h.get? r = some (W.listOf fs.toArray c) ∧ d.Perm ns ∧ d.Pairwise (· ≤ ·) ∧ FlAre fs ((rangeKs 1 3).map (qex d 4))) := by
  unfold Pure PureC PG
  k_fill
  intro dp un gd cn cs a ccd cl outer A₀ base h₀ L m Q E B F X T hk hd hu hret
  refine wpAny_call ?_
  k_dflt (refine call_frozen ?_; k_whole; intro _ _ _ _ _ _ _; (try dsimp only); (try k_fold))
  (with_reducible rename Fr _ _ _ _ => F9); (rename News _ _ _ _ => N9); (rename Frag.In _ _ => X9); (rename Top _ _ _ _ _ _ => T9)
  rename_i L9 h9 B9
  obtain ⟨u, tk, F10⟩ : ∃ u tk, Fr s.heap _ _ (fun y => List.lookup y ([(Str.ofString "method", Value.str "exclusive" u), (Str.ofString "n", Value.int 4 tk), (Str.ofString "data", Value.ref l)] : List (Str × Value))) := ⟨_, _, F9⟩
  have C : ∀ k : Int, _ := quant_x_c.A_all w p loose mean mg mb s l vs ns tk u dp un gd cn cs a ccd cl outer h₀ L Q E L9 h9
  exact C 4 hl hi h1 h2 (by decide) (by decide) hb X T hk hd hu hret N9 X9 T9 F10
-- Q5
namespace quant_1d_c
noncomputable def hkS : Prop := ∀ (w p loose mean mg mb) (s : Shared) (l : Addr) (vs : List Value) (ns : List Int) (hl : s.heap.IsList l vs.toArray) (hi : IntsAre vs ns) (h1 : ns.length = 1), Pure w p loose mean mg mb 315 [.ref l] [] s 4 60 (fun h v => ∃ (r : Addr) (fs : List Value) (c : Nat), v = .ref r ∧ s.heap.get? r = none ∧ h.get? r = some (W.listOf fs.toArray c) ∧ IntsAre fs (List.replicate 3 (ns.getD 0 0)))
noncomputable def hkK : Σ' P : World → Program → tS → tX → tM → tM → Shared → Addr → tV → tI → Nat → Nat → tC → Str → Scope → Addr → Value → tA → tE → Around → Heap → Heap → Addr → tM → Prop, (∀ a b c d e f g h i j k l m n o p q r s t u v w x, P a b c d e f g h i j k l m n o p q r s t u v w x) → hkS := ⟨_, fun hk9 => by intro w p loose mean mg mb s l vs ns hl hi h1 dp un gd cn cs a ccd cl outer A₀ base h₀ L m; revert h1; revert hi; revert hl; apply (hk9 w p loose mean mg mb s l vs ns dp un gd cn cs a ccd cl outer A₀ base h₀ L m)⟩
namespace Z9
noncomputable def hkP (y : VV) := hkK.1 (y.W 0) (y.P 0) (y.S 0) (y.X 0) (y.M 0) (y.M 1) (y.R 0) (y.N 0) (y.L 0) (y.I 0) (y.N 1) (y.N 2) (y.C 0) (y.G 0) (y.K 0) (y.N 3) (y.V 0) (y.T 0) (y.E 0) (y.A 0) (y.H 0) (y.H 1) (y.N 4) (y.M 2)
@[irreducible] noncomputable def hkG1 := epsV0 hkP
@[irreducible] def s : Shared := hkG1.R 0
theorem hkM : hkP hkG1 := (by exact @wI _ _ : @wT (hkP hkG1) (by
  with_unfolding_all show hkK.1 (hkG1.W 0) (hkG1.P 0) (hkG1.S 0) (hkG1.X 0) (hkG1.M 0) (hkG1.M 1) s (hkG1.N 0) (hkG1.L 0) (hkG1.I 0) (hkG1.N 1) (hkG1.N 2) (hkG1.C 0) (hkG1.G 0) (hkG1.K 0) (hkG1.N 3) (hkG1.V 0) (hkG1.T 0) (hkG1.E 0) (hkG1.A 0) (hkG1.H 0) (hkG1.H 1) (hkG1.N 4) (hkG1.M 2)
  intro hl hi h1
  obtain ⟨k, hk4⟩ : ∃ k : Int, k = 4 := ⟨4, rfl⟩
  have e3 : 3 = (k - 1).toNat := by omega
  rw [e3]
  unfold PureC PG
  k_fill
  intro Q E B F X T hk hd hu hret
  refine wpAny_call ?_
  k_dflt (refine call_frozen ?_; k_whole; intro _ _ _ _ _ _ _; (try dsimp only); (try k_fold))
  (with_reducible rename Fr _ _ _ _ => F9)
  obtain ⟨u, tk, F10⟩ : ∃ u tk, Fr s.heap _ _ (fun y => List.lookup y ([(Str.ofString "method", Value.str "exclusive" u), (Str.ofString "n", Value.int 4 tk), (Str.ofString "data", Value.ref (hkG1.N 0))] : List (Str × Value))) := ⟨_, _, F9⟩
  clear F9
  rw [← hk4] at F10
  walk_at "go"
  all_goals first
    | (exfalso; omega)
    | (show Q _ _
       (rename Fr _ _ _ _ => F6); (rename News _ _ _ _ => N6)
       refine hret _ _ _ F6.keep ⟨_, _, _, rfl, (N6 _ (List.Mem.head _)).2.2, (N6 _ (List.Mem.head _)).1, ?_⟩
       (rename List Int => n9); (rename List.Perm _ _ => p9); (rename IntsAre (List.flatten _) _ => i9)
       have e := perm_one p9 h1
       subst e
       have e2 : (List.replicate (k - 1).toNat [(hkG1.I 0).getD 0 0]).flatten = List.replicate (k - 1).toNat ((hkG1.I 0).getD 0 0) := by simp
       rw [← e2]; exact i9)
  ))
end Z9
theorem hkT : hkS := no_implicit_lambda% (@hkapp _ _ hkK.2 (fun a b c d e f g h i j k l m n o p q r s t u v w x => @epsV Z9.hkP (by with_unfolding_all exact Z9.hkM) (vv (lk [s] d9E) (lk [m] d9C) (lk [r] d9T) (lk [o] d9K) (lk [t] d9A) (lk [d] d9X) (lk [c] d9S) (lk [n] d9G) (lk [a] d9W) (lk [b] d9P) e9Q (lk [g] d9R) (lk [q] d9V) e9Z (lk [j] d9I) (lk [i] d9L) (lk [e, f, x] d9M) (lk [u, v] d9H) e9O (lk [h, k, l, p, w] d9N))))
end quant_1d_c
theorem quant_1d : quant_1d_c.hkS := @quant_1d_c.hkT
-- W1
namespace wide_t_c
noncomputable def hkS : Prop := ∀ (w p loose mean mg mb) (s : Shared) (l : Addr) (vs : List Value) (ns : List Int) (hl : s.heap.IsList l vs.toArray) (hi : IntsAre vs ns) (h1 : 1 < ns.length) (h2 : ns.length < 6) (hb : ∀ x ∈ ns, -100000 ≤ x ∧ x ≤ 100000), Pure w p loose mean mg mb 346 [.ref l] [] s 4 60 (fun h v => ∃ (r : Addr) (fs : List Value) (c : Nat), v = .ref r ∧ s.heap.get? r = none ∧ h.get? r = some (W.listOf fs.toArray c) ∧ IntsAre fs ([2 * ns.getD 0 0 - ns.getD 1 0] ++ ns ++ [2 * ns.getD (ns.length - 1) 0 - ns.getD (ns.length - 2) 0]))
noncomputable def hkK : Σ' P : World → Program → tS → tX → tM → tM → Shared → Addr → tV → tI → Nat → Nat → tC → Str → Scope → Addr → Value → tA → tE → Around → Heap → Heap → Addr → tM → Prop, (∀ a b c d e f g h i j k l m n o p q r s t u v w x, P a b c d e f g h i j k l m n o p q r s t u v w x) → hkS := ⟨_, fun hk9 => by intro w p loose mean mg mb s l vs ns hl hi h1 h2 hb dp un gd cn cs a ccd cl outer A₀ base h₀ L m; revert hb; revert h2; revert h1; revert hi; revert hl; apply (hk9 w p loose mean mg mb s l vs ns dp un gd cn cs a ccd cl outer A₀ base h₀ L m)⟩
namespace Z9
noncomputable def hkP (y : VV) := hkK.1 (y.W 0) (y.P 0) (y.S 0) (y.X 0) (y.M 0) (y.M 1) (y.R 0) (y.N 0) (y.L 0) (y.I 0) (y.N 1) (y.N 2) (y.C 0) (y.G 0) (y.K 0) (y.N 3) (y.V 0) (y.T 0) (y.E 0) (y.A 0) (y.H 0) (y.H 1) (y.N 4) (y.M 2)
@[irreducible] noncomputable def hkG1 := epsV0 hkP
@[irreducible] def s : Shared := hkG1.R 0
@[irreducible] def l : Addr := hkG1.N 0
@[irreducible] def ns : tI := hkG1.I 0
theorem hkM : hkP hkG1 := (by exact @wI _ _ : @wT (hkP hkG1) (by
  with_unfolding_all show hkK.1 (hkG1.W 0) (hkG1.P 0) (hkG1.S 0) (hkG1.X 0) (hkG1.M 0) (hkG1.M 1) s l (hkG1.L 0) ns (hkG1.N 1) (hkG1.N 2) (hkG1.C 0) (hkG1.G 0) (hkG1.K 0) (hkG1.N 3) (hkG1.V 0) (hkG1.T 0) (hkG1.E 0) (hkG1.A 0) (hkG1.H 0) (hkG1.H 1) (hkG1.N 4) (hkG1.M 2)
  intro hl hi h1 h2 hb
  unfold PureC PG
  k_fill
  intro Q E B F X T hk hd hu hret
  refine wpAny_call ?_
  k_dflt (refine call_frozen ?_; k_whole; intro _ _ _ _ _ _ _; (try dsimp only); (try k_fold))
  (with_reducible rename Fr _ _ _ _ => F9); have F10 : Fr s.heap _ _ (fun y => List.lookup y ([(Str.ofString "rise", Value.ref l)] : List (Str × Value))) := F9; clear F9
  have hg9 : ∀ j, -1000000 ≤ ns.getD j 0 ∧ ns.getD j 0 ≤ 1000000 := fun j => by have := getD_bnd (by decide) hb j; omega
  walk_at "go"
  all_goals first
    | (exfalso; omega)
    | (show Q _ _
       (rename Fr _ _ _ _ => F6); (rename News _ _ _ _ => N6)
       refine hret _ _ _ F6.keep ⟨_, _, _, rfl, (N6 _ (List.Mem.head _)).2.2, (N6 _ (List.Mem.head _)).1, ?_⟩
       (rename IntsAre _ _ => i9)
       have e1 : (-1 + (ns.length : Int)).toNat = ns.length - 1 := by omega
       have e2 : (-2 + (ns.length : Int)).toNat = ns.length - 2 := by omega
       simpa [e1, e2] using i9)
  ))
end Z9
theorem hkT : hkS := no_implicit_lambda% (@hkapp _ _ hkK.2 (fun a b c d e f g h i j k l m n o p q r s t u v w x => @epsV Z9.hkP (by with_unfolding_all exact Z9.hkM) (vv (lk [s] d9E) (lk [m] d9C) (lk [r] d9T) (lk [o] d9K) (lk [t] d9A) (lk [d] d9X) (lk [c] d9S) (lk [n] d9G) (lk [a] d9W) (lk [b] d9P) e9Q (lk [g] d9R) (lk [q] d9V) e9Z (lk [j] d9I) (lk [i] d9L) (lk [e, f, x] d9M) (lk [u, v] d9H) e9O (lk [h, k, l, p, w] d9N))))
end wide_t_c
theorem wide_t : wide_t_c.hkS := @wide_t_c.hkT
-- M1
namespace median_t_c
noncomputable def hkS : Prop := ∀ (w p loose mean mg mb) (s : Shared) (l : Addr) (vs : List Value) (ns : List Int) (hl : s.heap.IsList l vs.toArray) (hi : IntsAre vs ns) (h1 : 0 < ns.length) (h2 : ns.length < 6) (hb : ∀ x ∈ ns, -100000 ≤ x ∧ x ≤ 100000), Pure w p loose mean mg mb 285 [.ref l] [] s 4 60 (fun h v => ∃ d : List Int, d.Perm ns ∧ d.Pairwise (· ≤ ·) ∧ ∃ t, v = if ns.length % 2 = 1 then .int (d.getD (ns.length / 2) 0) t else .float (fq (d.getD (ns.length / 2 - 1) 0 + d.getD (ns.length / 2) 0) 2) t)
noncomputable def hkK : Σ' P : World → Program → tS → tX → tM → tM → Shared → Addr → tV → tI → Nat → Nat → tC → Str → Scope → Addr → Value → tA → tE → Around → Heap → Heap → Addr → tM → Prop, (∀ a b c d e f g h i j k l m n o p q r s t u v w x, P a b c d e f g h i j k l m n o p q r s t u v w x) → hkS := ⟨_, fun hk9 => by intro w p loose mean mg mb s l vs ns hl hi h1 h2 hb dp un gd cn cs a ccd cl outer A₀ base h₀ L m; revert hb; revert h2; revert h1; revert hi; revert hl; apply (hk9 w p loose mean mg mb s l vs ns dp un gd cn cs a ccd cl outer A₀ base h₀ L m)⟩
namespace Z9
noncomputable def hkP (y : VV) := hkK.1 (y.W 0) (y.P 0) (y.S 0) (y.X 0) (y.M 0) (y.M 1) (y.R 0) (y.N 0) (y.L 0) (y.I 0) (y.N 1) (y.N 2) (y.C 0) (y.G 0) (y.K 0) (y.N 3) (y.V 0) (y.T 0) (y.E 0) (y.A 0) (y.H 0) (y.H 1) (y.N 4) (y.M 2)
@[irreducible] noncomputable def hkG1 := epsV0 hkP
@[irreducible] def s : Shared := hkG1.R 0
@[irreducible] def l : Addr := hkG1.N 0
@[irreducible] def ns : tI := hkG1.I 0
theorem hkM : hkP hkG1 := (by exact @wI _ _ : @wT (hkP hkG1) (by
  with_unfolding_all show hkK.1 (hkG1.W 0) (hkG1.P 0) (hkG1.S 0) (hkG1.X 0) (hkG1.M 0) (hkG1.M 1) s l (hkG1.L 0) ns (hkG1.N 1) (hkG1.N 2) (hkG1.C 0) (hkG1.G 0) (hkG1.K 0) (hkG1.N 3) (hkG1.V 0) (hkG1.T 0) (hkG1.E 0) (hkG1.A 0) (hkG1.H 0) (hkG1.H 1) (hkG1.N 4) (hkG1.M 2)
  intro hl hi h1 h2 hb
  unfold PureC PG
  k_fill
  intro Q E B F X T hk hd hu hret
  refine wpAny_call ?_
  k_dflt (refine call_frozen ?_; k_whole; intro _ _ _ _ _ _ _; (try dsimp only); (try k_fold))
  (with_reducible rename Fr _ _ _ _ => F9); have F10 : Fr s.heap _ _ (fun y => List.lookup y ([(Str.ofString "data", Value.ref l)] : List (Str × Value))) := F9; clear F9
  walk_at "go"
  all_goals try (show Int.natAbs _ < _; (rename List.Perm _ _ => p9); (have hb9 := fun x hx => hb x (p9.mem_iff.mp hx)); (have hg9 : ∀ d : List Int, (∀ x ∈ d, -100000 ≤ x ∧ x ≤ 100000) → ∀ j, -1000000 ≤ d.getD j 0 ∧ d.getD j 0 ≤ 1000000 := fun d hd j => by have := getD_bnd (by decide) hd j; omega); exact sum_bnd (hg9 _ hb9 _) (hg9 _ hb9 _))
  all_goals first
    | (exfalso; omega)
    | (show Q _ _
       (rename Fr _ _ _ _ => F6); (rename List Int => n9); (rename List.Perm _ _ => p9); (rename List.Pairwise _ _ => o9)
       refine hret _ _ _ F6.keep ⟨n9, p9, o9, ?_⟩
       have el : n9.length = ns.length := p9.length_eq
       (try rename Int.fmod _ _ = _ => hq); (try rename Int.fmod _ _ ≠ _ => hq)
       rw [fdiv2, el]
       first
         | exact ⟨_, by rw [if_pos (odd_of el hq)]; rfl⟩
         | exact ⟨_, by rw [if_neg (by rw [even_of el hq]; decide), half_pred]; rfl⟩)
  ))
end Z9
theorem hkT : hkS := no_implicit_lambda% (@hkapp _ _ hkK.2 (fun a b c d e f g h i j k l m n o p q r s t u v w x => @epsV Z9.hkP (by with_unfolding_all exact Z9.hkM) (vv (lk [s] d9E) (lk [m] d9C) (lk [r] d9T) (lk [o] d9K) (lk [t] d9A) (lk [d] d9X) (lk [c] d9S) (lk [n] d9G) (lk [a] d9W) (lk [b] d9P) e9Q (lk [g] d9R) (lk [q] d9V) e9Z (lk [j] d9I) (lk [i] d9L) (lk [e, f, x] d9M) (lk [u, v] d9H) e9O (lk [h, k, l, p, w] d9N))))
end median_t_c
theorem median_t : median_t_c.hkS := @median_t_c.hkT
-- M2
namespace median_low_t_c
noncomputable def hkS : Prop := ∀ (w p loose mean mg mb) (s : Shared) (l : Addr) (vs : List Value) (ns : List Int) (hl : s.heap.IsList l vs.toArray) (hi : IntsAre vs ns) (h1 : 0 < ns.length) (h2 : ns.length < 6) (hb : ∀ x ∈ ns, -100000 ≤ x ∧ x ≤ 100000), Pure w p loose mean mg mb 292 [.ref l] [] s 4 60 (fun h v => ∃ d : List Int, d.Perm ns ∧ d.Pairwise (· ≤ ·) ∧ ∃ t, v = .int (d.getD ((ns.length - 1) / 2) 0) t)
noncomputable def hkK : Σ' P : World → Program → tS → tX → tM → tM → Shared → Addr → tV → tI → Nat → Nat → tC → Str → Scope → Addr → Value → tA → tE → Around → Heap → Heap → Addr → tM → Prop, (∀ a b c d e f g h i j k l m n o p q r s t u v w x, P a b c d e f g h i j k l m n o p q r s t u v w x) → hkS := ⟨_, fun hk9 => by intro w p loose mean mg mb s l vs ns hl hi h1 h2 hb dp un gd cn cs a ccd cl outer A₀ base h₀ L m; revert hb; revert h2; revert h1; revert hi; revert hl; apply (hk9 w p loose mean mg mb s l vs ns dp un gd cn cs a ccd cl outer A₀ base h₀ L m)⟩
namespace Z9
noncomputable def hkP (y : VV) := hkK.1 (y.W 0) (y.P 0) (y.S 0) (y.X 0) (y.M 0) (y.M 1) (y.R 0) (y.N 0) (y.L 0) (y.I 0) (y.N 1) (y.N 2) (y.C 0) (y.G 0) (y.K 0) (y.N 3) (y.V 0) (y.T 0) (y.E 0) (y.A 0) (y.H 0) (y.H 1) (y.N 4) (y.M 2)
@[irreducible] noncomputable def hkG1 := epsV0 hkP
@[irreducible] def s : Shared := hkG1.R 0
@[irreducible] def l : Addr := hkG1.N 0
@[irreducible] def ns : tI := hkG1.I 0
theorem hkM : hkP hkG1 := (by exact @wI _ _ : @wT (hkP hkG1) (by
  with_unfolding_all show hkK.1 (hkG1.W 0) (hkG1.P 0) (hkG1.S 0) (hkG1.X 0) (hkG1.M 0) (hkG1.M 1) s l (hkG1.L 0) ns (hkG1.N 1) (hkG1.N 2) (hkG1.C 0) (hkG1.G 0) (hkG1.K 0) (hkG1.N 3) (hkG1.V 0) (hkG1.T 0) (hkG1.E 0) (hkG1.A 0) (hkG1.H 0) (hkG1.H 1) (hkG1.N 4) (hkG1.M 2)
  intro hl hi h1 h2 hb
  unfold PureC PG
  k_fill
  intro Q E B F X T hk hd hu hret
  refine wpAny_call ?_
  k_dflt (refine call_frozen ?_; k_whole; intro _ _ _ _ _ _ _; (try dsimp only); (try k_fold))
  (with_reducible rename Fr _ _ _ _ => F9); have F10 : Fr s.heap _ _ (fun y => List.lookup y ([(Str.ofString "data", Value.ref l)] : List (Str × Value))) := F9; clear F9
  walk_at "go"
  all_goals first
    | (exfalso; omega)
    | (show Q _ _
       (rename Fr _ _ _ _ => F6); (rename List Int => n9); (rename List.Perm _ _ => p9); (rename List.Pairwise _ _ => o9)
       refine hret _ _ _ F6.keep ⟨n9, p9, o9, ?_⟩
       have el : n9.length = ns.length := p9.length_eq
       (try rename Int.fmod _ _ = _ => hq); (try rename Int.fmod _ _ ≠ _ => hq)
       rw [fdiv2, el]
       first
         | (rw [half_odd (odd_of el hq)]; exact ⟨_, rfl⟩)
         | (rw [half_even h1 (even_of el hq), half_pred]; exact ⟨_, rfl⟩))
  ))
end Z9
theorem hkT : hkS := no_implicit_lambda% (@hkapp _ _ hkK.2 (fun a b c d e f g h i j k l m n o p q r s t u v w x => @epsV Z9.hkP (by with_unfolding_all exact Z9.hkM) (vv (lk [s] d9E) (lk [m] d9C) (lk [r] d9T) (lk [o] d9K) (lk [t] d9A) (lk [d] d9X) (lk [c] d9S) (lk [n] d9G) (lk [a] d9W) (lk [b] d9P) e9Q (lk [g] d9R) (lk [q] d9V) e9Z (lk [j] d9I) (lk [i] d9L) (lk [e, f, x] d9M) (lk [u, v] d9H) e9O (lk [h, k, l, p, w] d9N))))
end median_low_t_c
theorem median_low_t : median_low_t_c.hkS := @median_low_t_c.hkT
-- M3
theorem median_high_t (w p loose mean mg mb) (s : Shared) (l : Addr) (vs : List Value) (ns : List Int) (hl : s.heap.IsList l vs.toArray) (hi : IntsAre vs ns) (h1 : 0 < ns.length) (h2 : ns.length < 6) (hb : ∀ x ∈ ns, -100000 ≤ x ∧ x ≤ 100000) :
    Pure w p loose mean mg mb 299 [.ref l] [] s 4 60 (fun h v => ∃ d : List Int, d.Perm ns ∧ d.Pairwise (· ≤ ·) ∧ ∃ t, v = .int (d.getD (ns.length / 2) 0) t) := by
  unfold Pure PureC PG
  k_fill
  intro dp un gd cn cs a ccd cl outer A₀ base h₀ L m Q E B F X T hk hd hu hret
  refine wpAny_call ?_
  k_dflt (refine call_frozen ?_; k_whole; intro _ _ _ _ _ _ _; (try dsimp only); (try k_fold))
  (with_reducible rename Fr _ _ _ _ => F9); have F10 : Fr s.heap _ _ (fun y => List.lookup y ([(Str.ofString "data", Value.ref l)] : List (Str × Value))) := F9; clear F9
  walk_at "go"
  all_goals first
    | (exfalso; omega)
    | (show Q _ _
       (rename Fr _ _ _ _ => F6); (rename List Int => n9); (rename List.Perm _ _ => p9); (rename List.Pairwise _ _ => o9)
       refine hret _ _ _ F6.keep ⟨n9, p9, o9, ?_⟩
       have el : n9.length = ns.length := p9.length_eq
       rw [fdiv2, el]
       exact ⟨_, rfl⟩)
-- C1
namespace cuts_t_c
noncomputable def hkS : Prop := ∀ (w p loose mean mg mb) (s : Shared) (l : Addr) (vs : List Value) (ns : List Int) (k : Int) (tk : Tok) (hl : s.heap.IsList l vs.toArray) (hi : IntsAre vs ns) (h1 : 0 < ns.length) (h2 : ns.length < 100) (hk1 : 1 ≤ k) (hk2 : k ≤ 10) (hb : ∀ x ∈ ns, -100000 ≤ x ∧ x ≤ 100000), Pure w p loose mean mg mb 339 [.ref l, .int k tk] [] s 4 60 (fun h v => ∃ (r : Addr) (fs : List Value) (c : Nat), v = .ref r ∧ s.heap.get? r = none ∧ h.get? r = some (W.listOf fs.toArray c) ∧ IntsAre fs (cutsOf ns k))
noncomputable def hkK : Σ' P : World → Program → tS → tX → tM → tM → Shared → Addr → tV → tI → Int → Tok → Nat → Nat → tC → Str → Scope → Addr → Value → tA → tE → Around → Heap → Heap → Addr → tM → tQ → tQ → Prop, (∀ a b c d e f g h i j k l m n o p q r s t u v w x y z xa xb, P a b c d e f g h i j k l m n o p q r s t u v w x y z xa xb) → hkS := ⟨_, fun hk9 => by intro w p loose mean mg mb s l vs ns k tk hl hi h1 h2 hk1 hk2 hb; unfold Pure PureC; intro dp un gd cn cs a ccd cl outer A₀ base h₀ L m Q E; revert hb; revert hk2; revert hk1; revert h2; revert h1; revert hi; revert hl; apply (hk9 w p loose mean mg mb s l vs ns k tk dp un gd cn cs a ccd cl outer A₀ base h₀ L m Q E)⟩
namespace Z9
noncomputable def hkP (y : VV) := hkK.1 (y.W 0) (y.P 0) (y.S 0) (y.X 0) (y.M 0) (y.M 1) (y.R 0) (y.N 0) (y.L 0) (y.I 0) (y.Z 0) (y.N 1) (y.N 2) (y.N 3) (y.C 0) (y.G 0) (y.K 0) (y.N 4) (y.V 0) (y.T 0) (y.E 0) (y.A 0) (y.H 0) (y.H 1) (y.N 5) (y.M 2) (y.Q 0) (y.Q 1)
@[irreducible] noncomputable def hkG1 := epsV0 hkP
@[irreducible] def p : Program := hkG1.P 0
@[irreducible] def s : Shared := hkG1.R 0
@[irreducible] def l : Addr := hkG1.N 0
@[irreducible] def vs : tV := hkG1.L 0
@[irreducible] def ns : tI := hkG1.I 0
@[irreducible] def k : Int := hkG1.Z 0
@[irreducible] def tk : Tok := hkG1.N 1
noncomputable def hkK1 : Σ' P0 : Addr → Nat → Obj → Obj → Addr → Heap → Obj → Heap → Nat → Tok → Tok → Tok → Prop, (∀ a b c d e f g h i j k l, P0 a b c d e f g h i j k l) → hkP hkG1 := ⟨_, fun hcA => by
  with_unfolding_all show hkK.1 (hkG1.W 0) p (hkG1.S 0) (hkG1.X 0) (hkG1.M 0) (hkG1.M 1) s l vs ns k tk (hkG1.N 2) (hkG1.N 3) (hkG1.C 0) (hkG1.G 0) (hkG1.K 0) (hkG1.N 4) (hkG1.V 0) (hkG1.T 0) (hkG1.E 0) (hkG1.A 0) (hkG1.H 0) (hkG1.H 1) (hkG1.N 5) (hkG1.M 2) (hkG1.Q 0) (hkG1.Q 1)
  intro hl hi h1 h2 hk1 hk2 hb
  unfold PG
  k_fill
  intro B F X T hk hd hu hret
  refine wpAny_call ?_
  k_dflt walk_at "fr_enterC"
  have hg9 : ∀ j, -1000000 ≤ ns.getD j 0 ∧ ns.getD j 0 ≤ 1000000 := fun j => by have := getD_bnd (by decide) hb j; omega
  (with_reducible rename Fr _ _ _ _ => F9)
  have F10 : Fr s.heap _ _ (fun y => if y = Str.ofString "parts" then some (Value.int k tk) else none) := F9
  clear F9
  rename_i d1 d2 N2
  have d10 : Obj.data _ = Data.cell (some (Value.ref l)) := d2
  have d9 : Obj.data _ = Data.cell none := d1
  clear d1 d2
  walk_at "go"
  rename IsRange _ _ _ _ _ _ _ _ => R9
  rename_i La1 _ tka2 Ba3 Xa4 Ta5 oa6 oa7 la8 _ la9 ha10 oa11 Fa12 Na13 da14 ha15 tka16 ta17 ua18 va19 aa20 aa21 aa22
  revert aa22; revert aa21; revert aa20; revert R9; revert da14; revert Na13; revert Fa12; revert la9; revert d9; revert d10; revert hg9; revert Ta5; revert Xa4; revert Ba3; revert hret; revert hu; revert hd; revert hk; revert T; revert X; revert F; revert B; revert hb; revert hk2; revert hk1; revert h2; revert h1; revert hi; revert hl; apply (hcA La1 tka2 oa6 oa7 la8 ha10 oa11 ha15 tka16 ta17 ua18 va19)⟩
namespace A
noncomputable def hkP (y : VV) := hkK1.1 (y.N 0) (y.N 1) (y.O 0) (y.O 1) (y.N 2) (y.H 0) (y.O 2) (y.H 1) (y.N 3) (y.N 4) (y.N 5) (y.N 6)
@[irreducible] noncomputable def hkG2 := epsV0 hkP
noncomputable def hkK2 : Σ' P0 : tV → Nat → tI → Int → Tok → tM → Heap → Nat → (List (Addr × Obj)) → Heap → Nat → Tok → Tok → Tok → Prop, (∀ a b c d e f g h i j k l m n, P0 a b c d e f g h i j k l m n) → hkP hkG2 := ⟨_, fun hcB => by
  with_unfolding_all show hkK1.1 (hkG2.N 0) (hkG2.N 1) (hkG2.O 0) (hkG2.O 1) (hkG2.N 2) (hkG2.H 0) (hkG2.O 2) (hkG2.H 1) (hkG2.N 3) (hkG2.N 4) (hkG2.N 5) (hkG2.N 6)
  intro hl hi h1 h2 hk1 hk2 hb B F X T hk hd hu hret Ba3 Xa4 Ta5 hg9 d10 d9 la9 Fa12 Na13 da14 R9 aa20 aa21 aa22
  k_dflt refine' range_push (l := _) [Str.ofString "step"] (fun pre fs => IntsAre fs (pre.flatMap (wayPart ns k))) (by rfl) R9 ?hs (rangeSize_nat _ _) ?hF ?hN IntsAre.nil ?_ ?_
  case hs => exact small_one (by omega) (by omega) (by omega) (by omega)
  case hF => assumption
  case hN => assumption
  · intro fs c pre i ti uu h tk8 own hik hlt hoff hP F7 N7
    walk_at "go"
    rename IsRange _ _ _ _ _ _ _ _ => R8
    rename_i Fb1 Nb2 hb3 tkb4 tb5 ub6 vb7 ab8 ab9 ab10
    revert ab10; revert ab9; revert ab8; revert R8; revert Nb2; revert Fb1; revert hP; revert hoff; revert hlt; revert hik; revert aa22; revert aa21; revert aa20; revert R9; revert da14; revert Na13; revert Fa12; revert la9; revert d9; revert d10; revert hg9; revert Ta5; revert Xa4; revert Ba3; revert hret; revert hu; revert hd; revert hk; revert T; revert X; revert F; revert B; revert hb; revert hk2; revert hk1; revert h2; revert h1; revert hi; revert hl; apply (hcB fs c pre i ti uu h tk8 own hb3 tkb4 tb5 ub6 vb7)
  · intro fs c uu h tk8 hP F7 N7
    have hlen : fs.length ≤ 2000 := by
      have e := hP.length
      rw [ways_length, rangeKs_length] at e
      have := Nat.mul_le_mul (show ns.length - 1 ≤ 100 by omega) (show k.toNat ≤ 10 by omega)
      have e2 : ((ns.length : Int) - 1).toNat = ns.length - 1 := by omega
      rw [e2] at e
      omega
    walk_at "go"
    k_dflt refine comp_free (fun _ => true) (fun v y => ∃ i t t', v = .int i t ∧ y = .int ((wayOf ns k).getD (i * ((ns.length : Int) - 1)).toNat 0) t') (by rfl) (by decide) (by rfl) (by decide) (by rfl) ?_
    walk_at "go"
    rename IsRange _ _ _ _ _ _ _ _ => R8
    (rename Fr _ _ _ _ => F5); (rename News _ _ _ _ => N5)
    have hP' := hP
    rw [show ((ns.length : Int) - 1).toNat = ns.length - 1 by omega] at hP'
    have hw5 := isList_push (N5 _ (List.Mem.head _)).1
    rw [show (-1 + (ns.length : Int)).toNat = ns.length - 1 by omega] at hw5
    have hi5 : IntsAre _ (wayOf ns k) := ints_of_list hw5 hP'
    have hwl : (wayOf ns k).length = (ns.length - 1) * k.toNat + 1 := by
      unfold wayOf; rw [List.length_append, ways_length, rangeKs_length, List.length_singleton]
    clear hP'
    k_dflt refine' comp_iter_range (L := _) (m := _) (news := _) ?hh ?hF ?hN R8 ?hs (rangeSize_nat _ _) ?hz ?ht ?he ?_
    case hh => rfl
    case hF => exact F5
    case hN => exact N5
    case hs => exact small_one (by omega) (by omega) (by omega) (by omega)
    case hz => exact Nat.le_trans (show _ ≤ 20 by omega) (by decide)
    case ht => intro C i t s₃ m₃ E' hi hn hm st; exact wpAny_tests_nil ⟨rfl, keeps_refl _⟩
    case he =>
      intro C i t s₃ m₃ E' hi _ hn hm st
      have F3 := F5.keeps st
      have N3 := N5.grown st
      walk_at "go"
      have hi2 := mul_bnds (a := 1 + (i : Int)) (A := k - 1) (b := (ns.length : Int) - 1) (B := (ns.length : Int) - 1) (by omega) (by omega) (by omega) (by omega)
      have hi3 : ((1 + (i : Int)) * ((ns.length : Int) - 1)).toNat < (wayOf ns k).length := by
        rw [hwl]
        have e1 : ((ns.length - 1 : Nat) : Int) = (ns.length : Int) - 1 := by omega
        have e2 : (k.toNat : Int) = k := by omega
        have e3 : (((ns.length - 1) * k.toNat : Nat) : Int) = ((ns.length : Int) - 1) * k := by rw [Int.natCast_mul, e1, e2]
        have e4 : (k - 1) * ((ns.length : Int) - 1) ≤ ((ns.length : Int) - 1) * k := by rw [Int.mul_comm]; exact Int.mul_le_mul_of_nonneg_left (by omega) (by omega)
        omega
      obtain ⟨t9, hx9⟩ := ints_at hi5 hi3
      k_dflt refine item_list (stays_list st hw5) hi2.1 ?_ hx9 ?_
      · have := mul_bnds (a := 1 + (i : Int)) (A := 10) (b := (ns.length : Int) - 1) (B := 100) (by omega) (by omega) (by omega) (by omega)
        omega
      exact ⟨⟨_, _, _, rfl, rfl⟩, keeps_toks _ _⟩
    · intro D h' tk vs ys n' hv F8 N8 hne st hP
      show (hkG1.Q 0) _ _
      refine hret _ _ _ F8.keep ⟨_, ys, n', rfl, (N8 _ (List.Mem.head _)).2.2, (N8 _ (List.Mem.head _)).1, ?_⟩
      rw [filter_true] at hP
      exact paired_intsF (f := fun i => (wayOf ns k).getD (i * ((ns.length : Int) - 1)).toNat 0) hv hP⟩
namespace B
noncomputable def hkP (y : VV) := hkK2.1 (y.L 0) (y.N 0) (y.I 0) (y.Z 0) (y.N 1) (y.M 0) (y.H 0) (y.N 2) (y.o 0) (y.H 1) (y.N 3) (y.N 4) (y.N 5) (y.N 6)
@[irreducible] noncomputable def hkG3 := epsV0 hkP
@[irreducible] def pre : tI := hkG3.I 0
@[irreducible] def own : (List (Addr × Obj)) := hkG3.o 0
noncomputable def hkK3 : Σ' P0 : tV → Nat → tI → Int → Tok → tM → Heap → Nat → (List (Addr × Obj)) → Prop, (∀ a b c d e f g h i, P0 a b c d e f g h i) → hkP hkG3 := ⟨_, fun hcC => by
  with_unfolding_all show hkK2.1 (hkG3.L 0) (hkG3.N 0) pre (hkG3.Z 0) (hkG3.N 1) (hkG3.M 0) (hkG3.H 0) (hkG3.N 2) own (hkG3.H 1) (hkG3.N 3) (hkG3.N 4) (hkG3.N 5) (hkG3.N 6)
  intro hl hi h1 h2 hk1 hk2 hb B F X T hk hd hu hret Ba3 Xa4 Ta5 hg9 d10 d9 la9 Fa12 Na13 da14 R9 aa20 aa21 aa22 hik hlt hoff hP Fb1 Nb2 R8 ab8 ab9 ab10
  k_dflt refine' range_push (l := _) [] (fun pre2 fs2 => IntsAre fs2 (pre.flatMap (wayPart ns k) ++ pre2.map (stepOf ns k (hkG3.Z 0)))) (by rfl) R8 ?hs (rangeSize_nat _ _) ?hF ?hN ?hp ?_ ?_
  case hs => exact small_one (by omega) (by omega) (by omega) (by omega)
  case hF => assumption
  case hN => assumption
  case hp => simpa using hP
  · intro fs2 c2 pre2 st ts2 uu2 h2 tk2 own2 hik2 hlt2 hoff2 hP2 F6 N6
    have hlen : fs2.length ≤ 2000 := by
      have e := hP2.length
      rw [List.length_append, ways_length, List.length_map] at e
      have := Nat.mul_le_mul (show pre.length ≤ 100 by omega) (show k.toNat ≤ 10 by omega)
      omega
    have hoff3 := ownOff_both hoff hoff2
    simp only [List.append_assoc, List.cons_append, List.nil_append] at N6
    rename_i hc1
    revert hoff3; revert hlen; revert N6; revert F6; revert hP2; revert hoff2; revert hlt2; revert hik2; revert ab10; revert ab9; revert ab8; revert R8; revert Nb2; revert Fb1; revert hP; revert hoff; revert hlt; revert hik; revert aa22; revert aa21; revert aa20; revert R9; revert da14; revert Na13; revert Fa12; revert la9; revert d9; revert d10; revert hg9; revert Ta5; revert Xa4; revert Ba3; revert hret; revert hu; revert hd; revert hk; revert T; revert X; revert F; revert B; revert hb; revert hk2; revert hk1; revert hc1; revert h1; revert hi; revert hl; apply (hcC fs2 c2 pre2 st ts2 uu2 h2 tk2 own2)
  · intro fs2 c2 uu2 h2 tk2 hP2 F6 N6
    walk_at "go"
    ((rename News _ _ _ _ => N6); (try simp only [List.push_toArray] at N6); (refine PushEnd.intro2 (by assumption) N6 ?_ ?_ ?_); (focus (first | exact (fun _ hp => hp) | (subst_vars; intro p hp; simpa only [List.append_assoc, List.cons_append, List.nil_append] using hp))); (focus (intro z h1 h3; (try simp only [List.contains_cons, List.contains_nil, Bool.or_false, Bool.or_eq_false_iff, beq_eq_false_iff_ne, ne_eq] at h3); (simp [h1, h3]; done))))
    rw [List.flatMap_append, List.flatMap_cons, List.flatMap_nil, List.append_nil]
    rw [show (k - 0).toNat = k.toNat by omega] at hP2
    exact hP2⟩
namespace C
noncomputable def hkP (y : VV) := hkK3.1 (y.L 0) (y.N 0) (y.I 0) (y.Z 0) (y.N 1) (y.M 0) (y.H 0) (y.N 2) (y.o 0)
@[irreducible] noncomputable def hkG4 := epsV0 hkP
@[irreducible] def own2 : (List (Addr × Obj)) := hkG4.o 0
theorem hkM : hkP hkG4 := (by exact @wI _ _ : @wT (hkP hkG4) (by
  with_unfolding_all show hkK3.1 (hkG4.L 0) (hkG4.N 0) (hkG4.I 0) (hkG4.Z 0) (hkG4.N 1) (hkG4.M 0) (hkG4.H 0) (hkG4.N 2) own2
  intro hl hi h1 hc1 hk1 hk2 hb B F X T hk hd hu hret Ba3 Xa4 Ta5 hg9 d10 d9 la9 Fa12 Na13 da14 R9 aa20 aa21 aa22 hik hlt hoff hP Fb1 Nb2 R8 ab8 ab9 ab10 hik2 hlt2 hoff2 hP2 F6 N6 hlen hoff3
  generalize hown : own ++ own2 = own3 at N6 hoff3
  walk_at "go"
  ((rename News _ _ _ _ => N6); (try simp only [List.push_toArray] at N6); (refine PushEnd.intro2 (by assumption) N6 ?_ ?_ ?_); (focus (first | exact (fun _ hp => hp) | (subst_vars; intro p hp; simpa only [List.append_assoc, List.cons_append, List.nil_append] using hp))); (focus (intro z h1 h3; (try simp only [List.contains_cons, List.contains_nil, Bool.or_false, Bool.or_eq_false_iff, beq_eq_false_iff_ne, ne_eq] at h3); (simp [h1, h3]; done))))
  rw [List.map_append, ← List.append_assoc]
  exact ints_snoc hP2 rfl
  ))
end C
theorem hkM : hkP hkG3 := no_implicit_lambda% (@hkapp _ _ hkK3.2 (fun a b c d e f g h i => @epsV C.hkP (by with_unfolding_all exact C.hkM) (⟨e9a, e9b, e9c, e9d, e9e, e9f, e9g, e9h, e9v, e9w, e9x, e9y, e9i, e9j, e9k, e9l, e9m, e9n, lk [i] d9o, e9p, e9q, e9r, e9s, e9t, e9u, e9E, e9C, e9T, e9K, e9A, e9X, e9S, e9G, e9W, e9P, e9Q, e9R, e9V, lk [d] d9Z, lk [c] d9I, lk [a] d9L, lk [f] d9M, lk [g] d9H, e9O, lk [b, e, h] d9N⟩)))
end B
theorem hkM : hkP hkG2 := no_implicit_lambda% (@hkapp _ _ hkK2.2 (fun a b c d e f g h i j k l m n => @epsV B.hkP (by with_unfolding_all exact B.hkM) (⟨e9a, e9b, e9c, e9d, e9e, e9f, e9g, e9h, e9v, e9w, e9x, e9y, e9i, e9j, e9k, e9l, e9m, e9n, lk [i] d9o, e9p, e9q, e9r, e9s, e9t, e9u, e9E, e9C, e9T, e9K, e9A, e9X, e9S, e9G, e9W, e9P, e9Q, e9R, e9V, lk [d] d9Z, lk [c] d9I, lk [a] d9L, lk [f] d9M, lk [g, j] d9H, e9O, lk [b, e, h, k, l, m, n] d9N⟩)))
end A
theorem hkM : hkP hkG1 := no_implicit_lambda% (@hkapp _ _ hkK1.2 (fun a b c d e f g h i j k l => @epsV A.hkP (by with_unfolding_all exact A.hkM) (vv e9E e9C e9T e9K e9A e9X e9S e9G e9W e9P e9Q e9R e9V e9Z e9I e9L e9M (lk [f, h] d9H) (lk [c, d, g] d9O) (lk [a, b, e, i, j, k, l] d9N))))
end Z9
theorem hkT : hkS := no_implicit_lambda% (@hkapp _ _ hkK.2 (fun a b c d e f g h i j k l m n o p q r s t u v w x y z xa xb => @epsV Z9.hkP (by with_unfolding_all exact Z9.hkM) (vv (lk [u] d9E) (lk [o] d9C) (lk [t] d9T) (lk [q] d9K) (lk [v] d9A) (lk [d] d9X) (lk [c] d9S) (lk [p] d9G) (lk [a] d9W) (lk [b] d9P) (lk [xa, xb] d9Q) (lk [g] d9R) (lk [s] d9V) (lk [k] d9Z) (lk [j] d9I) (lk [i] d9L) (lk [e, f, z] d9M) (lk [w, x] d9H) e9O (lk [h, l, m, n, r, y] d9N))))
end cuts_t_c
theorem cuts_t : cuts_t_c.hkS := @cuts_t_c.hkT
-- D1
namespace told_t_c
noncomputable def hkS : Prop := ∀ (w p loose mean mg mb) (s : Shared) (l1 l2 : Addr) (vs us : List Value) (kd : String) (hl : s.heap.IsList l1 vs.toArray) (hl2 : s.heap.IsList l2 us.toArray) (h1 : vs.length < 12) (ht : Told kd vs us), Pure w p loose mean mg mb 334 [.ref l1, .ref l2, .type kd] [] s 4 100 (fun h v => v = .bool true)
noncomputable def hkK : Σ' P : World → Program → tS → tX → tM → tM → Shared → Addr → Addr → tV → tV → Nat → Nat → tC → Str → Scope → Addr → Value → tA → tE → Around → Heap → Heap → Addr → tM → Prop, (∀ a b c d e f g h i j k l m n o p q r s t u v w x y, P a b c d e f g h i j k l m n o p q r s t u v w x y) → hkS := ⟨_, fun hk9 => by intro w p loose mean mg mb s l1 l2 vs us kd hl hl2 h1 ht dp un gd cn cs a ccd cl outer A₀ base h₀ L m; revert ht; revert h1; revert hl2; revert hl; revert kd; apply (hk9 w p loose mean mg mb s l1 l2 vs us dp un gd cn cs a ccd cl outer A₀ base h₀ L m)⟩
namespace Z9
noncomputable def hkP (y : VV) := hkK.1 (y.W 0) (y.P 0) (y.S 0) (y.X 0) (y.M 0) (y.M 1) (y.R 0) (y.N 0) (y.N 1) (y.L 0) (y.L 1) (y.N 2) (y.N 3) (y.C 0) (y.G 0) (y.K 0) (y.N 4) (y.V 0) (y.T 0) (y.E 0) (y.A 0) (y.H 0) (y.H 1) (y.N 5) (y.M 2)
@[irreducible] noncomputable def hkG1 := epsV0 hkP
@[irreducible] def l1 : Addr := hkG1.N 0
@[irreducible] def l2 : Addr := hkG1.N 1
@[irreducible] def vs : tV := hkG1.L 0
@[irreducible] def us : tV := hkG1.L 1
theorem hkM : hkP hkG1 := (by exact @wI _ _ : @wT (hkP hkG1) (by
  with_unfolding_all show hkK.1 (hkG1.W 0) (hkG1.P 0) (hkG1.S 0) (hkG1.X 0) (hkG1.M 0) (hkG1.M 1) (hkG1.R 0) l1 l2 vs us (hkG1.N 2) (hkG1.N 3) (hkG1.C 0) (hkG1.G 0) (hkG1.K 0) (hkG1.N 4) (hkG1.V 0) (hkG1.T 0) (hkG1.E 0) (hkG1.A 0) (hkG1.H 0) (hkG1.H 1) (hkG1.N 5) (hkG1.M 2)
  intro kd hl hl2 h1 ht
  unfold PureC PG
  k_fill
  intro Q E B F X T hk hd hu hret
  refine wpAny_call ?_
  k_dflt walk_at "fr_enterC"
  (with_reducible rename Fr _ _ _ _ => F9)
  (with_reducible rename News _ _ _ _ => N9)
  rename Obj.data _ = _ => d9
  have d10 : Obj.data _ = Data.cell (some (Value.type kd)) := d9
  have hla : Heap.IsList _ l1 vs.toArray := stays_list F9.keep hl
  have hlb : Heap.IsList _ l2 us.toArray := stays_list F9.keep hl2
  walk_at "go"
  · k_dflt refine told_eq hla hlb ht (by have := cLine_is; show (hkG1.N 3) + 3 < cLine; omega) ?_
    walk_at "go"
    refine comp_free (fun _ => false) (fun _ _ => False) (by rfl) (by decide) (by rfl) (by decide) (by rfl) ?_
    walk_at "go"
    k_dflt refine' comp_iter_list (L := _) (m := _) (news := _) ?hh ?hF ?hN ?hl ?hz ?_ ?he ?_
    case hF => exact F9
    case hN => exact N9
    case hh => rfl
    case hl => exact hla
    case hz => rw [List.size_toArray]; exact Nat.le_trans (Nat.le_of_lt h1) (by decide)
    case he => intro C v s₃ m₃ E' _ hp; cases hp
    · intro C v s₃ m₃ E' hv hn hm st
      have hcl : s₃.heap.get? _ = some _ := st _ _ (N9 _ (List.Mem.head _)).1
      refine wpAny_tests_one ?_
      have hk9 := ht.kind v (by simpa using hv)
      have F3 := F9.keeps st
      have N3 := N9.grown st
      rcases hk9 with ⟨e9, n9, t9, rfl⟩ | ⟨e9, n9, t9, rfl⟩
      all_goals subst e9
      all_goals walk_at "go"
      all_goals first | exact keeps_refl _ | exact keeps_toks _ _ | exact ⟨rfl, keeps_refl _⟩ | exact ⟨rfl, keeps_toks _ _⟩
    · intro D h' tk ys n F8 N8 hne st hP
      have e : ys = [] := by
        rw [List.filter_eq_nil_iff.mpr (by intro _ _; exact Bool.false_ne_true)] at hP
        cases hP; rfl
      subst e
      walk_at "go"
      (rename Fr _ _ _ _ => F6)
      exact hret _ _ _ F6.keep rfl
  ))
end Z9
theorem hkT : hkS := no_implicit_lambda% (@hkapp _ _ hkK.2 (fun a b c d e f g h i j k l m n o p q r s t u v w x y => @epsV Z9.hkP (by with_unfolding_all exact Z9.hkM) (vv (lk [t] d9E) (lk [n] d9C) (lk [s] d9T) (lk [p] d9K) (lk [u] d9A) (lk [d] d9X) (lk [c] d9S) (lk [o] d9G) (lk [a] d9W) (lk [b] d9P) e9Q (lk [g] d9R) (lk [r] d9V) e9Z e9I (lk [j, k] d9L) (lk [e, f, y] d9M) (lk [v, w] d9H) e9O (lk [h, i, l, m, q, x] d9N))))
end told_t_c
theorem told_t : told_t_c.hkS := @told_t_c.hkT
-- G1
namespace grouped_t_c
noncomputable def hkS : Prop := ∀ (w p loose mean mg mb) (s : Shared) (l : Addr) (vs : List Value) (ns : List Int) (tk : Tok) (hl : s.heap.IsList l vs.toArray) (hi : IntsAre vs ns) (h1 : 0 < ns.length) (h2 : ns.length < 6) (hb : ∀ x ∈ ns, -100000 ≤ x ∧ x ≤ 100000), Pure w p loose mean mg mb 307 [.ref l, .int 60 tk] [] s 4 60 (fun _ v => GroupedAt ns v)
noncomputable def hkK : Σ' P : World → Program → tS → tX → tM → tM → Shared → Addr → tV → tI → Tok → Nat → Nat → tC → Str → Scope → Addr → Value → tA → tE → Around → Heap → Heap → Addr → tM → Prop, (∀ a b c d e f g h i j k l m n o p q r s t u v w x y, P a b c d e f g h i j k l m n o p q r s t u v w x y) → hkS := ⟨_, fun hk9 => by intro w p loose mean mg mb s l vs ns tk hl hi h1 h2 hb dp un gd cn cs a ccd cl outer A₀ base h₀ L m; revert hb; revert h2; revert h1; revert hi; revert hl; apply (hk9 w p loose mean mg mb s l vs ns tk dp un gd cn cs a ccd cl outer A₀ base h₀ L m)⟩
namespace Z9
noncomputable def hkP (y : VV) := hkK.1 (y.W 0) (y.P 0) (y.S 0) (y.X 0) (y.M 0) (y.M 1) (y.R 0) (y.N 0) (y.L 0) (y.I 0) (y.N 1) (y.N 2) (y.N 3) (y.C 0) (y.G 0) (y.K 0) (y.N 4) (y.V 0) (y.T 0) (y.E 0) (y.A 0) (y.H 0) (y.H 1) (y.N 5) (y.M 2)
@[irreducible] noncomputable def hkG1 := epsV0 hkP
@[irreducible] def s : Shared := hkG1.R 0
@[irreducible] def tk : Tok := hkG1.N 1
@[irreducible] def un : Nat := hkG1.N 3
@[irreducible] def a : Addr := hkG1.N 4
theorem hkM : hkP hkG1 := (by exact @wI _ _ : @wT (hkP hkG1) (by
  with_unfolding_all show hkK.1 (hkG1.W 0) (hkG1.P 0) (hkG1.S 0) (hkG1.X 0) (hkG1.M 0) (hkG1.M 1) s (hkG1.N 0) (hkG1.L 0) (hkG1.I 0) tk (hkG1.N 2) un (hkG1.C 0) (hkG1.G 0) (hkG1.K 0) a (hkG1.V 0) (hkG1.T 0) (hkG1.E 0) (hkG1.A 0) (hkG1.H 0) (hkG1.H 1) (hkG1.N 5) (hkG1.M 2)
  intro hl hi h1 h2 hb
  unfold PureC PG
  k_fill
  intro Q E B F X T hk hd hu hret
  refine wpAny_call ?_
  k_dflt (refine call_frozen ?_; k_whole; intro _ _ _ _ _ _ _; (try dsimp only); (try k_fold))
  (with_reducible rename Fr _ _ _ _ => F9); have F10 : Fr s.heap _ _ (fun y => List.lookup y ([(Str.ofString "interval", Value.int 60 tk), (Str.ofString "data", Value.ref (hkG1.N 0))] : List (Str × Value))) := F9; clear F9
  walk_at "go"
  · rename List Int => n9
    rename List.Perm _ _ => p9
    rename List.Pairwise _ _ => o9
    rename News _ _ _ _ => N9
    have el := p9.length_eq
    have hL := isList_of (N9 _ (List.Mem.head _)).1
    let x := n9.getD (Int.fdiv (n9.length : Int) 2).toNat 0
    obtain ⟨a1, a2, a3⟩ := cut_point (p := fun y => decide (y < x)) (fun a b h1 h2 => decide_eq_true (Int.lt_of_le_of_lt h1 (of_decide_eq_true h2))) o9
    obtain ⟨b1, b2, b3⟩ := cut_point (p := fun y => decide (y ≤ x)) (fun a b h1 h2 => decide_eq_true (Int.le_trans h1 (of_decide_eq_true h2))) o9
    have ha1 : ∀ i, i < n9.countP (fun y => decide (y < x)) → n9.getD i 0 < x := fun i h => of_decide_eq_true (a1 i h)
    have ha2 : ∀ i, n9.countP (fun y => decide (y < x)) ≤ i → i < n9.length → x ≤ n9.getD i 0 := fun i h1 h2 => Int.not_lt.mp (of_decide_eq_false (a2 i h1 h2))
    have hb1 : ∀ i, i < n9.countP (fun y => decide (y ≤ x)) → n9.getD i 0 ≤ x := fun i h => of_decide_eq_true (b1 i h)
    have hb2 : ∀ i, n9.countP (fun y => decide (y ≤ x)) ≤ i → i < n9.length → x < n9.getD i 0 := fun i h1 h2 => Int.not_le.mp (of_decide_eq_false (b2 i h1 h2))
    clear a1 a2 b1 b2
    have ex : x = n9.getD (n9.length / 2) 0 := by show n9.getD (Int.fdiv (n9.length : Int) 2).toNat 0 = _; rw [fdiv2]; rfl
    have hi1 : n9.countP (fun y => decide (y < x)) ≤ n9.length / 2 := Nat.le_of_not_lt fun h => by have := ha1 _ h; rw [← ex] at this; exact absurd this (Int.lt_irrefl _)
    have hj1 : n9.length / 2 < n9.countP (fun y => decide (y ≤ x)) := Nat.lt_of_not_le fun h => by have := hb2 _ h (by omega); rw [← ex] at this; exact absurd this (Int.lt_irrefl _)
    have hb9 : ∀ x ∈ n9, -100000 ≤ x ∧ x ≤ 100000 := fun x hx => hb x (p9.mem_iff.mp hx)
    have hno : ¬ (2 ^ 1024 - 2 ^ 970 ≤ (n9.getD (Int.fdiv (n9.length : Int) 2).toNat 0).natAbs) := fun h => by
      have h1 := getD_bnd (by decide) hb9 (Int.fdiv (n9.length : Int) 2).toNat
      have h2 : (n9.getD (Int.fdiv (n9.length : Int) 2).toNat 0).natAbs ≤ 100000 := nab h1.1 h1.2
      exact absurd (Nat.le_trans h h2) (by decide)
    have hab : n9.countP (fun y => decide (y < x)) ≤ n9.countP (fun y => decide (y ≤ x)) := List.countP_mono_left fun y _ h => decide_eq_true (Int.le_of_lt (of_decide_eq_true h))
    have hu9 : un + 3 + 9 < cLine := by have := cLine_is; omega
    k_dflt refine bis_left (by assumption) a3 ha1 ha2 (by omega) hu9 hL ?_
    intro ti tki
    walk_at "go"
    (rename News _ _ _ _ => N8)
    k_dflt refine bis_right (by assumption) b3 hab hb1 hb2 (by omega) hu9 (isList_of (N8 _ (List.Mem.head _)).1) ?_
    intro tj tkj
    walk_at "go"
    all_goals first
      | exact absurd (by assumption) hno
      | (exfalso; omega)
      | (show Q _ _
         (rename Fr _ _ _ _ => F6)
         exact hret _ _ _ F6.keep ⟨n9, _, _, p9, o9, hi1, hj1, b3, by intro a h; rw [← ex]; exact ha1 a h, by intro a h h'; rw [← ex]; exact ha2 a h h', by intro a h; rw [← ex]; exact hb1 a h, by intro a h h'; rw [← ex]; exact hb2 a h h', _, by rw [← ex]; rfl⟩)
  all_goals (exfalso; omega)
  ))
end Z9
theorem hkT : hkS := no_implicit_lambda% (@hkapp _ _ hkK.2 (fun a b c d e f g h i j k l m n o p q r s t u v w x y => @epsV Z9.hkP (by with_unfolding_all exact Z9.hkM) (vv (lk [t] d9E) (lk [n] d9C) (lk [s] d9T) (lk [p] d9K) (lk [u] d9A) (lk [d] d9X) (lk [c] d9S) (lk [o] d9G) (lk [a] d9W) (lk [b] d9P) e9Q (lk [g] d9R) (lk [r] d9V) e9Z (lk [j] d9I) (lk [i] d9L) (lk [e, f, y] d9M) (lk [v, w] d9H) e9O (lk [h, k, l, m, q, x] d9N))))
end grouped_t_c
theorem grouped_t : grouped_t_c.hkS := @grouped_t_c.hkT
-- R1
namespace ranks_t_c
noncomputable def hkS : Prop := ∀ (w p loose mean mg mb) (s : Shared) (l : Addr) (vs : List Value) (ns : List Int) (k z : Int) (tk tz : Tok) (hl : s.heap.IsList l vs.toArray) (hi : IntsAre vs ns) (h1 : 0 < ns.length) (h2 : ns.length < 6) (hk1 : -2 ≤ k) (hk2 : k ≤ 2) (hz1 : -1 ≤ z) (hz2 : z ≤ 1) (hb : ∀ x ∈ ns, -100000 ≤ x ∧ x ≤ 100000), Pure w p loose mean mg mb 351 [.ref l, .int k tk, .int z tz] [] s 4 60 (fun h v => ∃ (r : Addr) (fs : List Value) (c : Nat), v = .ref r ∧ s.heap.get? r = none ∧ h.get? r = some (W.listOf fs.toArray c) ∧ FlAre fs (ns.map (rankOf ns k z)) ∧ ∀ v ∈ fs, ∃ a t, v = Value.float a t ∧ t ≠ 0)
noncomputable def hkK : Σ' P : World → Program → tS → tX → tM → tM → Shared → Addr → tV → tI → Int → Int → Tok → Tok → Nat → Nat → tC → Str → Scope → Addr → Value → tA → tE → Around → Heap → Heap → Addr → tM → Prop, (∀ a b c d e f g h i j k l m n o p q r s t u v w x y z xa xb, P a b c d e f g h i j k l m n o p q r s t u v w x y z xa xb) → hkS := ⟨_, fun hk9 => by intro w p loose mean mg mb s l vs ns k z tk tz hl hi h1 h2 hk1 hk2 hz1 hz2 hb dp un gd cn cs a ccd cl outer A₀ base h₀ L m; revert hb; revert hz2; revert hz1; revert hk2; revert hk1; revert h2; revert h1; revert hi; revert hl; apply (hk9 w p loose mean mg mb s l vs ns k z tk tz dp un gd cn cs a ccd cl outer A₀ base h₀ L m)⟩
namespace Z9
noncomputable def hkP (y : VV) := hkK.1 (y.W 0) (y.P 0) (y.S 0) (y.X 0) (y.M 0) (y.M 1) (y.R 0) (y.N 0) (y.L 0) (y.I 0) (y.Z 0) (y.Z 1) (y.N 1) (y.N 2) (y.N 3) (y.N 4) (y.C 0) (y.G 0) (y.K 0) (y.N 5) (y.V 0) (y.T 0) (y.E 0) (y.A 0) (y.H 0) (y.H 1) (y.N 6) (y.M 2)
@[irreducible] noncomputable def hkG1 := epsV0 hkP
@[irreducible] def w : World := hkG1.W 0
@[irreducible] def p : Program := hkG1.P 0
@[irreducible] def s : Shared := hkG1.R 0
@[irreducible] def ns : tI := hkG1.I 0
@[irreducible] def k : Int := hkG1.Z 0
@[irreducible] def z : Int := hkG1.Z 1
@[irreducible] def tk : Tok := hkG1.N 1
@[irreducible] def tz : Tok := hkG1.N 2
@[irreducible] def a : Addr := hkG1.N 5
theorem hkM : hkP hkG1 := (by exact @wI _ _ : @wT (hkP hkG1) (by
  with_unfolding_all show hkK.1 w p (hkG1.S 0) (hkG1.X 0) (hkG1.M 0) (hkG1.M 1) s (hkG1.N 0) (hkG1.L 0) ns k z tk tz (hkG1.N 3) (hkG1.N 4) (hkG1.C 0) (hkG1.G 0) (hkG1.K 0) a (hkG1.V 0) (hkG1.T 0) (hkG1.E 0) (hkG1.A 0) (hkG1.H 0) (hkG1.H 1) (hkG1.N 6) (hkG1.M 2)
  intro hl hi h1 h2 hk1 hk2 hz1 hz2 hb
  unfold PureC PG
  k_fill
  intro Q E B F X T hk hd hu hret
  refine wpAny_call ?_
  k_dflt walk_at "fr_enterC"
  (with_reducible rename Fr _ _ _ _ => F9)
  have F10 : Fr s.heap _ _ (fun y => if y = Str.ofString "start" then some (Value.int k tk) else if y = Str.ofString "row" then some (Value.ref (hkG1.N 0)) else none) := F9
  clear F9
  rename_i d1 d2 N2
  have d9 : Obj.data _ = Data.cell none := d1
  have d10 : Obj.data _ = Data.cell (some (Value.int z tz)) := d2
  clear d1 d2
  walk_at "go"
  k_dflt refine wpAny_For ?_
  walk_at "go"
  k_dflt refine' for_cell (r := _) (cv := _) (rest := _) [Str.ofString "ahead", Str.ofString "upto"] (fun pre fs => FlAre fs (pre.map (rankOf ns k z)) ∧ ∀ v ∈ fs, ∃ a t, v = Value.float a t ∧ t ≠ 0) ?hh ?hk ?hx ?hc hl hi ?hF ?hN d9 ?hrc ?hrest ⟨FlAre.nil, fun v hv => nomatch hv⟩ ?_ ?_
  case hh => rfl
  case hk => rfl
  case hx => rfl
  case hc => rfl
  case hF => assumption
  case hN => assumption
  case hrc => k_ne
  case hrest =>
    intro q hq
    rw [List.mem_singleton.mp hq]
    exact ⟨by k_ne, by k_ne⟩
  · intro fs c pre post n t uu h tk8 ov I oI E' hns hP hov hIr hIc hIrest F7 N7
    have hn9 : n ∈ ns := by rw [hns]; simp
    have hbn := hb n hn9
    have hlen : fs.length ≤ 20 := by
      have e := hP.1.length
      have e2 := congrArg List.length hns
      rw [List.length_map] at e
      rw [List.length_append, List.length_cons] at e2
      omega
    walk_at "go"
    k_dflt refine comp_free (intP fun w => decide (w * z < n * z)) (fun v y => y = v) (by rfl) (by decide) (by rfl) (by decide) (by rfl) ?_
    walk_at "go"
    (rename Fr _ _ _ _ => F5); (rename News _ _ _ _ => N5)
    k_dflt refine' comp_iter_list (L := _) (m := _) (news := _) ?hh ?hF ?hN ?hl ?hz ?_ ?_ ?_
    case hF => exact F5
    case hN => exact N5
    case hh => rfl
    case hl => exact stays_list F5.keep hl
    case hz => rw [List.size_toArray, hi.length]; exact Nat.le_trans (Nat.le_of_lt h2) (by decide)
    · intro C v s₃ m₃ E' hv hn hm st
      obtain ⟨w1, t1, hw1, rfl⟩ := ints_mem hi v (by simpa using hv)
      have hbw := hb w1 hw1
      have F3 := F5.keeps st
      have N3 := N5.grown st
      refine wpAny_tests_one ?_
      walk_at "go"
      all_goals first | exact keeps_toks _ _ | exact keeps_refl _ | exact ⟨rfl, keeps_toks _ _⟩ | exact ⟨rfl, keeps_refl _⟩ | exact rfl
    · intro C v s₃ m₃ E' hv _ hn hm st
      have F3 := F5.keeps st
      have N3 := N5.grown st
      walk_at "go"
      all_goals first | exact keeps_refl _ | exact ⟨rfl, keeps_refl _⟩ | exact ⟨rfl, keeps_toks _ _⟩
    intro aD h' tk' ays n' aF aN ane ast aP
    have ae := paired_eq aP
    have al : ays.length = (ns.filter fun w => decide (w * z < n * z)).length := by rw [ae]; exact filter_intP hi
    have ab : ays.length < 6 := by rw [al]; exact Nat.lt_of_le_of_lt (List.length_filter_le _ _) h2
    clear aP ae F5 N5
    have a1 := neN (ane _ (List.Mem.head _))
    walk_at "go"
    k_dflt refine comp_free (intP fun w => decide (w * z ≤ n * z)) (fun v y => y = v) (by rfl) (by decide) (by rfl) (by decide) (by rfl) ?_
    walk_at "go"
    (rename Fr _ _ _ _ => F5); (rename News _ _ _ _ => N5)
    k_dflt refine' comp_iter_list (L := _) (m := _) (news := _) ?hh ?hF ?hN ?hl ?hz ?_ ?_ ?_
    case hF => exact F5
    case hN => exact N5
    case hh => rfl
    case hl => exact stays_list F5.keep hl
    case hz => rw [List.size_toArray, hi.length]; exact Nat.le_trans (Nat.le_of_lt h2) (by decide)
    · intro C v s₃ m₃ E' hv hn hm st
      obtain ⟨w1, t1, hw1, rfl⟩ := ints_mem hi v (by simpa using hv)
      have hbw := hb w1 hw1
      have F3 := F5.keeps st
      have N3 := N5.grown st
      refine wpAny_tests_one ?_
      walk_at "go"
      all_goals first | exact keeps_toks _ _ | exact keeps_refl _ | exact ⟨rfl, keeps_toks _ _⟩ | exact ⟨rfl, keeps_refl _⟩ | exact rfl
    · intro C v s₃ m₃ E' hv _ hn hm st
      have F3 := F5.keeps st
      have N3 := N5.grown st
      walk_at "go"
      all_goals first | exact keeps_refl _ | exact ⟨rfl, keeps_refl _⟩ | exact ⟨rfl, keeps_toks _ _⟩
    intro bD h' tk' bys n' bF bN bne bst bP
    have be := paired_eq bP
    have bl : bys.length = (ns.filter fun w => decide (w * z ≤ n * z)).length := by rw [be]; exact filter_intP hi
    have bb : bys.length < 6 := by rw [bl]; exact Nat.lt_of_le_of_lt (List.length_filter_le _ _) h2
    clear bP be F5 N5
    have b1 := neN (bne _ (List.Mem.head _))
    have b2 := neN (bne _ (List.Mem.tail _ (List.Mem.head _)))
    walk_at "go"
    (rename Fr _ _ _ _ => F6); (rename News _ _ _ _ => N6)
    simp only [List.push_toArray] at N6
    have N7 := kst_newsOf N6 (fun p hp => List.mem_cons_of_mem _ (List.mem_cons_of_mem _ hp))
    refine ⟨_, _, _, _, _, _, _, rfl, F6, N7, hov, ?_, ?_⟩
    · intro y hy
      simp only [List.contains_cons, List.contains_nil, Bool.or_false, Bool.or_eq_false_iff, beq_eq_false_iff_ne, ne_eq] at hy
      simp [hy]
    · refine ⟨FlAre.snoc' hP.1 ?_, fun v hv => ?_⟩
      · rw [al, bl]
        rfl
      · rcases List.mem_append.mp hv with hv | hv
        · exact hP.2 v hv
        · rw [List.mem_singleton.mp hv]
          exact ⟨_, _, rfl, Nat.succ_ne_zero _⟩
  · intro fs c ov uu h tk8 hP F7 N7
    walk_at "go"
    refine hret _ _ _ F7.keep ⟨_, fs, c, rfl, ?_, (N7 _ (List.Mem.head _)).1, hP⟩
    exact (N7 _ (List.Mem.head _)).2.2
  ))
end Z9
theorem hkT : hkS := no_implicit_lambda% (@hkapp _ _ hkK.2 (fun a b c d e f g h i j k l m n o p q r s t u v w x y z xa xb => @epsV Z9.hkP (by with_unfolding_all exact Z9.hkM) (vv (lk [w] d9E) (lk [q] d9C) (lk [v] d9T) (lk [s] d9K) (lk [x] d9A) (lk [d] d9X) (lk [c] d9S) (lk [r] d9G) (lk [a] d9W) (lk [b] d9P) e9Q (lk [g] d9R) (lk [u] d9V) (lk [k, l] d9Z) (lk [j] d9I) (lk [i] d9L) (lk [e, f, xb] d9M) (lk [y, z] d9H) e9O (lk [h, m, n, o, p, t, xa] d9N))))
end ranks_t_c
theorem ranks_t : ranks_t_c.hkS := @ranks_t_c.hkT
-- W2
theorem wide_1 (w p loose mean mg mb) (s : Shared) (l : Addr) (vs : List Value) (ns : List Int) (hl : s.heap.IsList l vs.toArray) (hi : IntsAre vs ns) (h1 : ns.length = 1) :
    Pure w p loose mean mg mb 346 [.ref l] [] s 4 60 (fun h v => v = .ref l) := by
  unfold Pure PureC PG
  k_fill
  intro dp un gd cn cs a ccd cl outer A₀ base h₀ L m Q E B F X T hk hd hu hret
  refine wpAny_call ?_
  k_dflt (refine call_frozen ?_; k_whole; intro _ _ _ _ _ _ _; (try dsimp only); (try k_fold))
  (with_reducible rename Fr _ _ _ _ => F9); have F10 : Fr s.heap _ _ (fun y => List.lookup y ([(Str.ofString "rise", Value.ref l)] : List (Str × Value))) := F9; clear F9
  walk_at "go"
  all_goals first
    | (exfalso; omega)
    | (show Q _ _
       (rename Fr _ _ _ _ => F6)
       exact hret _ _ _ F6.keep rfl)
section
local macro_rules | `(tactic| k_room) => `(tactic| ktr_room)
-- K2
theorem count_next_t (w p loose mean mg mb) (s : Shared) (x d : Addr) (c : Int) (t t1 : Tok) (b : Bool) (hc1 : 0 ≤ c) (hc2 : c ≤ 100) (hx : x ≠ d) (hx' : d ≠ x) :
    Mut w p loose mean mg mb 211 [.ref x] [] s [(x, { cls := .ref 222, dict := some d, slots := #[some (.int c t), some (.bool b), some (.int 1 t1)] }), (d, dictOf [] 0)] 4 60 (fun h v => v = .int c t ∧ ∃ t', h.get? x = some { cls := .ref 222, dict := some d, slots := #[some (.int (c + 1) t'), some (.bool b), some (.int 1 t1)] } ∧ h.get? d = some (dictOf [] 0)) := by
  unfold Mut MutC PG
  k_fill
  intro dp un gd cn cs a ccd cl outer A₀ base h₀ L m Q E B F N X T hk hd hu hret
  refine wpAny_call ?_
  k_dflt (refine call_mut ?_; k_whole; intro _ _ _ _ _ _ _ _ _; (try dsimp only); (try k_fold))
  walk_at "go"
  show Q _ _
  (rename Fr _ _ _ _ => F6); (rename News _ _ _ _ => N6); (rename _ = hideAll _ _ => eG)
  subst eG
  exact hret _ _ _ F6.keep ⟨rfl, _, (N6 _ (List.Mem.head _)).1, (N6 _ (List.Mem.tail _ (List.Mem.head _))).1⟩
noncomputable abbrev cntObj (d : Addr) (c : Int) (t : Tok) (b : Bool) (t1 : Tok) : Obj := { cls := .ref 222, dict := some d, slots := #[some (.int c t), some (.bool b), some (.int 1 t1)] }
noncomputable def CountAt (h₀ : Heap) (L : Addr) (m : Str → Option Value) (x d : Addr) (b : Bool) (t1 : Tok) (c : Int) (h : Heap) : Prop :=
  ∃ t, Fr h₀ L h m ∧ News h₀ L h [(x, cntObj d c t b t1), (d, dictOf [] 0)]
theorem CountAt.keep {h₀ h h' : Heap} {L : Addr} {m : Str → Option Value} {x d : Addr} {b : Bool} {t1 : Tok} {c : Int} (C : CountAt h₀ L m x d b t1 c h) (bad : List Addr)
    (hb : ∀ y ∈ bad, y ≠ x ∧ y ≠ d ∧ y ≠ L ∧ h₀.get? y = none) (k : ∀ y o, y ∉ bad → h.get? y = some o → h'.get? y = some o) : CountAt h₀ L m x d b t1 c h' := by
  obtain ⟨t, F, N⟩ := C
  refine ⟨t, ⟨F.ns.at' fun o e => k _ o (fun q => (hb _ q).2.2.1 rfl) e, fun y o e => k _ _ (fun q => by rw [(hb _ q).2.2.2] at e; cases e) (F.keep y o e), F.above⟩, fun p hp => ⟨k _ _ (fun q => ?_) (N p hp).1, (N p hp).2⟩⟩
  rcases List.mem_cons.mp hp with rfl | hp
  · exact (hb _ q).1 rfl
  · rcases List.mem_cons.mp hp with rfl | hp
    · exact (hb _ q).2.1 rfl
    · cases hp
theorem draw_count {w : World} {p : Program} {loose : List Str} {mean : ExcName → Option Value} {mg mb : Str → Option Value} {s : Shared} {x d : Addr} {c : Int} {t1 : Tok} {b : Bool}
    {dp un : Nat} {gd : Option (List Code)} {cn : Str} {cs : Scope} {a : Addr} {ccd : Value} {cl : List (Str × Addr)} {outer : List Env} {A₀ : Around} {base h₀ : Heap} {L : Addr} {m : Str → Option Value} {Q E : Value → Shared → Prop}
    (B : Below A₀ base outer h₀) (X : (hd.heap_39 w.params).In h₀) (T : Top p loose mean mg mb h₀) (hk : cs.kind = .function) (hd : dp + 4 < recursionLimit) (hu : un + 60 < cLine)
    (hc1 : 0 ≤ c) (hc2 : c ≤ 100) (hx : x ≠ d) (C : CountAt h₀ L m x d b t1 c s.heap)
    (hret : ∀ h' tk' t, CountAt h₀ L m x d b t1 (c + 1) h' → (∀ y o, y ≠ x → s.heap.get? y = some o → h'.get? y = some o) → Q (.int c t) { s with heap := h', toks := tk' }) :
    wpAny (model PG w) (ktrTop dp un gd cn cs L a ccd cl outer) (Builtin.SmallTypes.nextOf (.ref x)) Q E s := by
  obtain ⟨t, F, N⟩ := C
  have I : InstAt s.heap x (cntObj d c t b t1) 222 (some (dictOf [] 0)) := InstAt.of_news N (List.Mem.head _) (List.Mem.tail _ (List.Mem.head _))
  refine nextOf_own F X I (f := 211) (by k_is) (by k_is) ?_
  have ct := count_next_t w p loose mean mg mb s x d c t t1 b hc1 hc2 hx hx.symm
  unfold Mut MutC PG at ct
  refine ct dp un gd cn cs a ccd cl outer A₀ base h₀ L m Q E B F N X T hk hd hu fun v h' tk' st po => ?_
  obtain ⟨rfl, t', g1, g2⟩ := po
  have kp : ∀ y o, y ≠ x → s.heap.get? y = some o → h'.get? y = some o := fun y o hy e => by
    by_cases hyd : y = d
    · subst hyd
      rw [(N _ (List.Mem.tail _ (List.Mem.head _))).1] at e
      cases e; exact g2
    · exact st _ _ (hideAll_get _ e (by simp [hy, hyd]))
  refine hret h' tk' t ⟨t', ?_, ?_⟩ kp
  · exact ⟨F.ns.at' fun o e => kp _ o (Ne.symm (N _ (List.Mem.head _)).2.1) e, fun y o e => kp _ _ (fun q => by subst q; rw [(N _ (List.Mem.head _)).2.2] at e; cases e) (F.keep y o e), F.above⟩
  · intro q hq
    rcases List.mem_cons.mp hq with rfl | hq
    · exact ⟨g1, (N _ (List.Mem.head _)).2⟩
    · rcases List.mem_cons.mp hq with rfl | hq
      · exact ⟨g2, (N _ (List.Mem.tail _ (List.Mem.head _))).2⟩
      · cases hq
-- Zs
section
theorem zip_no_len : typeLookup (.type "zip") "__len__" = pure none := by rw [typeLookup_type, builtinLookup_eq_fast]; kernel_rfl
theorem zip_no_hint : typeLookup (.type "zip") "__length_hint__" = pure none := by rw [typeLookup_type, builtinLookup_eq_fast]; kernel_rfl
section
variable {prog : Program} {w : World} {A : Around} {E : Value → Shared → Prop} {s : Shared}
theorem pyNext_zip {z : Addr} {o : Obj} {Q : Option Value → Shared → Prop} (ho : s.heap.get? z = some o) (hc : o.cls = .type "zip")
    (h : wpAny (model prog w) A.in1 (Builtin.«zip.__next__» ⟨[.ref z], []⟩) (fun fin s' => ∃ v, fin = .done (.ret v) ∧ Q (some v) s')
      (fun e s' => wpAny (model prog w) A (isInstance e (.type "StopIteration")) (fun b s₂ => if b = true then Q none s₂ else E e s₂) E s') s) :
    wpAny (model prog w) A (pyNext (.ref z)) Q E s := by
  have hT : s.TypeIs (.ref z) "zip" := ⟨_, ho, hc⟩
  unfold pyNext
  refine wpAny_bind (wpAny_attempt (wpAny_callSpecial?_slot (name := Str.ofString "__next__") hT PySem.F.slot_zip_next
    (wpAny_call_entry PySem.F.slot_zip_next hT PySem.F.entry_zip_next (wpAny_mono h (fun fin s' h' => ?_) (fun e s' h' => ?_)) (PySem.F.args_zip_next_1 _))))
  · obtain ⟨v, rfl, h'⟩ := h'
    exact ⟨v, rfl, wpAny_pure h'⟩
  · refine wpAny_bind (wpAny_mono h' (fun b s₂ hb => ?_) fun _ _ q => q)
    cases b with
    | true => exact wpAny_pure hb
    | false => exact wpAny_throw hb
end
structure ZipRun (h00 h₀ : Heap) (L : Addr) (m : Str → Option Value) (S z TI TO i1 x d l : Addr) (b : Bool) (t1 : Tok) (xs : Array Value) (i : Nat) (acc : Array Value) (h : Heap) : Prop where
  size : acc.size = i
  zip : (i = 0 ∧ IsZip h z TI TO .none) ∨ (0 < i ∧ ∃ T₀ bb o, T₀ ≠ S ∧ T₀ ≠ z ∧ T₀ ≠ i1 ∧ T₀ ≠ x ∧ IsZipB h z TI TO T₀ bb ∧ h.get? T₀ = some o)
  pair : IsPair h TI (.ref i1) (.ref x)
  iter : h.IsListIter i1 l i
  cnt : CountAt h₀ L m x d b t1 (i : Int) h
  po : ∃ v1 v2, IsPair h TO v1 v2
  tups : ∀ (j : Nat) (v : Value), acc[j]? = some v → ∃ T a t, v = .ref T ∧ h00.get? T = none ∧ T ≠ S ∧ xs[j]? = some a ∧ IsPair h T a (.int j t)
  keep : ∀ c o, c ≠ z → c ≠ TO → c ≠ i1 → c ≠ x → c ≠ S → h00.get? c = some o → h.get? c = some o
structure ZipApt (h00 h₀ : Heap) (L : Addr) (S z TI TO i1 x d l : Addr) (xs : Array Value) : Prop where
  n1 : TI ≠ z
  n2 : TO ≠ z
  n3 : i1 ≠ z
  n4 : l ≠ z
  n5 : TO ≠ i1
  n6 : l ≠ i1
  n7 : TO ≠ x
  n8 : x ≠ z
  n9 : x ≠ i1
  n10 : TI ≠ TO
  n11 : l ≠ TO
  n12 : l ≠ x
  n13 : TI ≠ i1
  n14 : TI ≠ x
  xd : x ≠ d
  s1 : S ≠ z
  s2 : S ≠ TI
  s3 : S ≠ TO
  s4 : S ≠ i1
  s5 : S ≠ x
  s6 : S ≠ l
  bad : ∀ y, y = z ∨ y = TO ∨ y = i1 ∨ y = S → y ≠ x ∧ y ≠ d ∧ y ≠ L ∧ h₀.get? y = none
  hl : h00.IsList l xs
  live : ∀ y, y = z ∨ y = TO ∨ y = i1 ∨ y = x → ∃ o, h00.get? y = some o
theorem ZipRun.frame {h00 h₀ h h' : Heap} {L : Addr} {m : Str → Option Value} {S z TI TO i1 x d l : Addr} {b : Bool} {t1 : Tok} {xs : Array Value} {i : Nat} {acc : Array Value} (D : ZipApt h00 h₀ L S z TI TO i1 x d l xs)
    (Z : ZipRun h00 h₀ L m S z TI TO i1 x d l b t1 xs i acc h) (k : Heap.SameBut S h h') : ZipRun h00 h₀ L m S z TI TO i1 x d l b t1 xs i acc h' := by
  have kp := k.extBut
  refine ⟨Z.size, ?_, kp _ _ D.s2.symm Z.pair, Z.iter.extBut kp D.s4.symm, Z.cnt.keep [S] (fun y hy => D.bad y (by simp at hy; simp [hy])) (fun y o hy e => kp _ _ (by simpa using hy) e), (by obtain ⟨v1, v2, q⟩ := Z.po; exact ⟨v1, v2, kp _ _ D.s3.symm q⟩), fun j v e => ?_, fun c o c1 c2 c3 c4 c5 e => kp _ _ c5 (Z.keep c o c1 c2 c3 c4 c5 e)⟩
  · rcases Z.zip with ⟨h1, h2⟩ | ⟨h1, T₀, bb, o, h2, h3, h4, h5, h6, h7⟩
    · exact .inl ⟨h1, kp _ _ D.s1.symm h2⟩
    · exact .inr ⟨h1, T₀, bb, o, h2, h3, h4, h5, kp _ _ D.s1.symm h6, kp _ _ h2 h7⟩
  · obtain ⟨T, a, t, e1, e2, e3, e4, e5⟩ := Z.tups j v e
    exact ⟨T, a, t, e1, e2, e3, e4, kp _ _ e3 e5⟩
theorem ZipRun.isZip {h00 h₀ h : Heap} {L : Addr} {m : Str → Option Value} {S z TI TO i1 x d l : Addr} {b : Bool} {t1 : Tok} {xs : Array Value} {i : Nat} {acc : Array Value}
    (Z : ZipRun h00 h₀ L m S z TI TO i1 x d l b t1 xs i acc h) : ∃ o, h.get? z = some o ∧ o.cls = .type "zip" := by
  rcases Z.zip with ⟨_, h2⟩ | ⟨_, _, _, _, _, _, _, _, h6, _⟩
  · exact ⟨_, h2, rfl⟩
  · exact ⟨_, h6, rfl⟩
theorem ZipRun.step {h00 h₀ h h' : Heap} {L : Addr} {m : Str → Option Value} {S z TI TO i1 x d l : Addr} {b : Bool} {t1 : Tok} {xs : Array Value} {i : Nat} {acc : Array Value} (D : ZipApt h00 h₀ L S z TI TO i1 x d l xs)
    (Z : ZipRun h00 h₀ L m S z TI TO i1 x d l b t1 xs i acc h) {a bv : Value} {T : Addr} {t : Tok} (ha : xs[i]? = some a) (hS : ∃ o, h.get? S = some o)
    (hz : ∃ T₀ bb o, T₀ ≠ S ∧ T₀ ≠ z ∧ T₀ ≠ i1 ∧ T₀ ≠ x ∧ IsZipB h' z TI TO T₀ bb ∧ h'.get? T₀ = some o) (hit : h'.IsListIter i1 l (i + 1)) (hT : IsPair h' T a bv) (hb : bv = .int i t) (hc : CountAt h₀ L m x d b t1 ((i : Int) + 1) h') (hn : h.get? T = none) (hpo : ∃ v1 v2, IsPair h' TO v1 v2)
    (kp : ∀ c o, c ≠ z → c ≠ TO → c ≠ i1 → c ≠ x → h.get? c = some o → h'.get? c = some o) : ZipRun h00 h₀ L m S z TI TO i1 x d l b t1 xs (i + 1) (acc.push (.ref T)) h' := by
  have alive : ∀ y, y = z ∨ y = TO ∨ y = i1 ∨ y = x ∨ y = S → ∃ o, h.get? y = some o := fun y q => by
    rcases q with rfl | rfl | rfl | rfl | rfl
    · obtain ⟨o, q, _⟩ := Z.isZip; exact ⟨o, q⟩
    · obtain ⟨_, _, q⟩ := Z.po; exact ⟨_, q⟩
    · obtain ⟨o, q, _⟩ := Z.iter; exact ⟨o, q⟩
    · obtain ⟨_, _, N⟩ := Z.cnt; exact ⟨_, (N _ (List.Mem.head _)).1⟩
    · exact hS
  have nT : ∀ y, y = z ∨ y = TO ∨ y = i1 ∨ y = x ∨ y = S → T ≠ y := fun y q e => by
    obtain ⟨o, e2⟩ := alive y q
    rw [← e, hn] at e2; cases e2
  have hn0 : h00.get? T = none := by
    cases e : h00.get? T with
    | none => rfl
    | some o =>
      have := Z.keep T o (nT z (by simp)) (nT TO (by simp)) (nT i1 (by simp)) (nT x (by simp)) (nT S (by simp)) e
      rw [hn] at this; cases this
  refine ⟨by rw [Array.size_push, Z.size], .inr ⟨Nat.succ_pos _, hz⟩, kp _ _ D.n1 D.n10 D.n13 D.n14 Z.pair, hit, (by simpa using hc), hpo, fun j v e => ?_, fun c o c1 c2 c3 c4 c5 e => kp _ _ c1 c2 c3 c4 (Z.keep c o c1 c2 c3 c4 c5 e)⟩
  rw [Array.getElem?_push, Z.size] at e
  by_cases hj : j = i
  · rw [if_pos hj] at e
    cases e
    subst hj
    exact ⟨T, a, t, rfl, hn0, nT S (by simp), ha, hb ▸ hT⟩
  · rw [if_neg hj] at e
    obtain ⟨T', a', t', e1, e2, e3, e4, e5⟩ := Z.tups j v e
    have ne : ∀ y, y = z ∨ y = TO ∨ y = i1 ∨ y = x → T' ≠ y := fun y q e => by
      obtain ⟨o, e6⟩ := D.live y q
      rw [← e, e2] at e6; cases e6
    exact ⟨T', a', t', e1, e2, e3, e4, kp _ _ (ne z (by simp)) (ne TO (by simp)) (ne i1 (by simp)) (ne x (by simp)) e5⟩
structure ZipDone (h00 h₀ : Heap) (L : Addr) (m : Str → Option Value) (S z TO i1 x d : Addr) (b : Bool) (t1 : Tok) (xs : Array Value) (acc : Array Value) (h : Heap) : Prop where
  size : acc.size = xs.size
  cnt : CountAt h₀ L m x d b t1 (xs.size : Int) h
  tups : ∀ (j : Nat) (v : Value), acc[j]? = some v → ∃ T a t, v = .ref T ∧ h00.get? T = none ∧ T ≠ S ∧ xs[j]? = some a ∧ IsPair h T a (.int j t)
  keep : ∀ c o, c ≠ z → c ≠ TO → c ≠ i1 → c ≠ x → c ≠ S → h00.get? c = some o → h.get? c = some o
theorem zip_feed {w : World} {p : Program} {loose : List Str} {mean : ExcName → Option Value} {mg mb : Str → Option Value}
    {dp un : Nat} {gd : Option (List Code)} {cn : Str} {cs : Scope} {a : Addr} {ccd : Value} {cl : List (Str × Addr)} {outer : List Env} {A₀ : Around} {base h₀ h00 : Heap} {L : Addr} {m : Str → Option Value}
    {S z TI TO i1 x d l : Addr} {b : Bool} {t1 : Tok} {xs : Array Value}
    (B : Below A₀ base outer h₀) (X : (hd.heap_39 w.params).In h₀) (T : Top p loose mean mg mb h₀) (hk : cs.kind = .function) (hd : dp + 4 < recursionLimit) (hu : un + 80 < cLine)
    (D : ZipApt h00 h₀ L S z TI TO i1 x d l xs) (hn : 0 < xs.size) (hn2 : xs.size ≤ 50) :
    Feed PG w (ktrTop dp un gd cn cs L a ccd cl outer) S z z xs.size (fun h => ZipRun h00 h₀ L m S z TI TO i1 x d l b t1 xs 0 #[] h ∧ ∃ o, h.get? S = some o)
      (fun i acc h => ZipRun h00 h₀ L m S z TI TO i1 x d l b t1 xs i acc h ∧ ∃ o, h.get? S = some o) (fun acc h => ZipDone h00 h₀ L m S z TO i1 x d b t1 xs acc h) where
  T := ⟨.type "zip", by decide, by decide, fun s Q E hs h => wpAny_typeOf (by obtain ⟨o, q, e⟩ := hs.1.isZip; exact ⟨o, q, e⟩) h⟩
  neJ := D.s1
  small := by omega
  size := fun i acc h Z => Z.1.size
  frame₀ := fun h h' Z k hS => ⟨Z.1.frame D k, hS⟩
  frame := fun i acc h h' Z k hS => ⟨Z.1.frame D k, hS⟩
  len := fun s Q E Z h => wpAny_specialOf (T := "zip") (by obtain ⟨o, q, e⟩ := Z.1.isZip; exact ⟨o, q, e⟩) zip_no_len h
  hint := fun s Q E Z h => wpAny_specialOf (T := "zip") (by obtain ⟨o, q, e⟩ := Z.1.isZip; exact ⟨o, q, e⟩) zip_no_hint h
  it := fun s Q E Z h => by
    have h' := h s.heap s.toks Z (fun _ e => e)
    rcases Z.1.zip with ⟨_, hz⟩ | ⟨h0, _⟩
    · exact wpAny_pyIter_zip hz h'
    · exact absurd h0 (Nat.lt_irrefl _)
  item := fun i acc s Q E hi Z hQ => by
    obtain ⟨Z, hS⟩ := Z
    obtain ⟨oz, hoz, hcz⟩ := Z.isZip
    refine pyNext_zip hoz hcz ?_
    have hlx : s.heap.IsList l xs := D.hl.at fun o e => Z.keep l o D.n4 D.n11 D.n6 D.n12 D.s6.symm e
    have hxi : xs[i]? = some xs[i] := by simp [hi]
    have bad3 : ∀ y ∈ [z, TO, i1], y ≠ x ∧ y ≠ d ∧ y ≠ L ∧ h₀.get? y = none := fun y hy => D.bad y (by simp at hy; rcases hy with h | h | h <;> simp [h])
    have bad2 : ∀ y ∈ [z, TO], y ≠ x ∧ y ≠ d ∧ y ≠ L ∧ h₀.get? y = none := fun y hy => D.bad y (by simp at hy; rcases hy with h | h <;> simp [h])
    rcases Z.zip with ⟨h0, hz⟩ | ⟨h0, T₀, bb, o, t2, t3, t4, t5, hz, hT₀⟩
    · obtain ⟨v1, v2, hTO⟩ := Z.po
      refine zip_first (PB := fun bv h => ∃ t, bv = .int i t ∧ CountAt h₀ L m x d b t1 ((i : Int) + 1) h) hz Z.pair hTO Z.iter hlx hxi D.n1 D.n2 D.n3 D.n4 D.n5 D.n6 D.n7 D.n8 D.n9 D.n10 D.n11 (fun h₁ Q' E' kp _ k => ?_) (fun bv h h' hp kp => ?_) (fun h' tk bv T' z1 z2 z3 z4 z5 z6 kp => ?_)
      · have C1 : CountAt h₀ L m x d b t1 (i : Int) h₁ := Z.cnt.keep [z, TO, i1] bad3 (fun y o hy e => kp y o (by simp at hy; exact hy.1) (by simp at hy; exact hy.2.1) (by simp at hy; exact hy.2.2) e)
        refine draw_count (s := { s with heap := h₁ }) B X T hk hd (by show un + 1 + 60 < cLine; omega) (by omega) (by omega) D.xd C1 fun h₂ tk t C2 kp2 => ?_
        exact k h₂ tk _ (fun c o hc e => kp2 c o hc e) (by obtain ⟨_, _, N⟩ := C2; exact ⟨_, (N _ (List.Mem.head _)).1⟩) ⟨t, rfl, C2⟩
      · obtain ⟨t, e, C⟩ := hp
        exact ⟨t, e, C.keep [z, TO] bad2 (fun y o hy e => kp y o (by simp at hy; exact hy.1) (by simp at hy; exact hy.2) e)⟩
      · obtain ⟨t, e, C⟩ := z5
        have nT : ∀ y o, s.heap.get? y = some o → T' ≠ y := fun y o e1 e2 => by rw [← e2, z6] at e1; cases e1
        obtain ⟨oS, hS'⟩ := hS
        obtain ⟨oi, hi1, _⟩ := Z.iter
        have hxx : ∃ o, s.heap.get? x = some o := by obtain ⟨_, _, N⟩ := Z.cnt; exact ⟨_, (N _ (List.Mem.head _)).1⟩
        obtain ⟨ox, hx⟩ := hxx
        refine hQ _ h' tk ⟨Z.step D hxi ⟨oS, hS'⟩ ⟨T', false, _, nT _ _ hS', nT _ _ hoz, nT _ _ hi1, nT _ _ hx, z1, z4⟩ z3 z4 e C z6 ⟨_, _, z2⟩ kp, ⟨oS, kp S _ D.s1 D.s3 D.s4 D.s5 hS'⟩⟩ fun o e => kp S _ D.s1 D.s3 D.s4 D.s5 e
    · refine zip_later (PB := fun bv h => ∃ t, bv = .int i t ∧ CountAt h₀ L m x d b t1 ((i : Int) + 1) h) hz hT₀ Z.pair Z.iter hlx hxi D.n3 D.n4 D.n8 D.n9 (fun h₁ Q' E' kp _ k => ?_) (fun bv h h' hp kp => ?_) (fun h' tk bv T' z1 z3 z4 z5 z6 kp => ?_)
      · have C1 : CountAt h₀ L m x d b t1 (i : Int) h₁ := Z.cnt.keep [z, TO, i1] bad3 (fun y o hy e => kp y o (by simp at hy; exact hy.1) (by simp at hy; exact hy.2.2) e)
        refine draw_count (s := { s with heap := h₁ }) B X T hk hd (by show un + 1 + 60 < cLine; omega) (by omega) (by omega) D.xd C1 fun h₂ tk t C2 kp2 => ?_
        exact k h₂ tk _ (fun c o hc e => kp2 c o hc e) (by obtain ⟨_, _, N⟩ := C2; exact ⟨_, (N _ (List.Mem.head _)).1⟩) ⟨t, rfl, C2⟩
      · obtain ⟨t, e, C⟩ := hp
        exact ⟨t, e, C.keep [] (by simp) (fun y o _ e => kp y o e)⟩
      · obtain ⟨t, e, C⟩ := z5
        obtain ⟨oS, hS'⟩ := hS
        obtain ⟨v1, v2, hTO⟩ := Z.po
        refine hQ _ h' tk ⟨Z.step D hxi ⟨oS, hS'⟩ ⟨T₀, true, o, t2, t3, t4, t5, z1, kp _ _ t3 t4 t5 hT₀⟩ z3 z4 e C z6 ⟨v1, v2, kp _ _ D.n2 D.n5 D.n7 hTO⟩ (fun c o c1 _ c3 c4 e => kp c o c1 c3 c4 e), ⟨oS, kp S _ D.s1 D.s4 D.s5 hS'⟩⟩ fun o e => kp S _ D.s1 D.s4 D.s5 e
  done := fun acc s Q E Z hQ => by
    obtain ⟨Z, hS⟩ := Z
    obtain ⟨oz, hoz, hcz⟩ := Z.isZip
    refine pyNext_zip hoz hcz ?_
    have hlx : s.heap.IsList l xs := D.hl.at fun o e => Z.keep l o D.n4 D.n11 D.n6 D.n12 D.s6.symm e
    rcases Z.zip with ⟨h0, hz⟩ | ⟨h0, T₀, bb, o, t2, t3, t4, t5, hz, hT₀⟩
    · omega
    · refine zip_over rfl hz hT₀ Z.pair Z.iter hlx (by simp) D.n3 D.n4 fun h' e kp he => ?_
      obtain ⟨o', ho', hc'⟩ := he
      refine wpAny_isInstance (T := "StopIteration") (b := true) ⟨o', ho', hc'⟩ isSubtype_stop ?_
      show (if true = true then Q none _ else _)
      rw [if_pos rfl]
      have hTn : ∀ T', h00.get? T' = none → T' ≠ z ∧ T' ≠ i1 := fun T' e => ⟨fun q => (by obtain ⟨o, e6⟩ := D.live z (by simp); rw [← q, e] at e6; cases e6), fun q => (by obtain ⟨o, e6⟩ := D.live i1 (by simp); rw [← q, e] at e6; cases e6)⟩
      refine hQ h' s.toks ⟨Z.size, Z.cnt.keep [z, i1] (fun y hy => D.bad y (by simp at hy; rcases hy with h | h <;> simp [h])) (fun y o hy e => kp y o (by simp at hy; exact hy.1) (by simp at hy; exact hy.2) e), fun j v e => ?_, fun c o c1 c2 c3 c4 c5 e => kp c o c1 c3 (Z.keep c o c1 c2 c3 c4 c5 e)⟩ fun o e => kp S o D.s1 D.s4 e
      obtain ⟨T', a', t', e1, e2, e3, e4, e5⟩ := Z.tups j v e
      exact ⟨T', a', t', e1, e2, e3, e4, kp _ _ (hTn T' e2).1 (hTn T' e2).2 e5⟩
end
-- St
section
section
variable {φ : Addr → Tok → Int → Prop}
noncomputable def krun {α : Type} (lt : Nat → Nat → Bool) : KasT α → α
  | .ret a => a
  | .ask i j k => krun lt (k (lt i j))
noncomputable def kasked {α : Type} (n : Nat) (lt : Nat → Nat → Bool) : KasT α → Bool
  | .ret _ => true
  | .ask i j k => decide (i < n) && decide (j < n) && kasked n lt (k (lt i j))
theorem krun_congr {α : Type} {n : Nat} {lt lt' : Nat → Nat → Bool} (h : ∀ i j, i < n → j < n → lt i j = lt' i j) : ∀ t : KasT α, kasked n lt' t = true → krun lt t = krun lt' t
  | .ret _, _ => rfl
  | .ask i j k, e => by
    unfold kasked at e
    simp only [Bool.and_eq_true, decide_eq_true_eq] at e
    show krun lt (k (lt i j)) = krun lt' (k (lt' i j))
    rw [h i j e.1.1 e.1.2]
    exact krun_congr h _ e.2
theorem kasked_congr {α : Type} {n : Nat} {lt lt' : Nat → Nat → Bool} (h : ∀ i j, i < n → j < n → lt i j = lt' i j) : ∀ t : KasT α, kasked n lt' t = true → kasked n lt t = true
  | .ret _, _ => rfl
  | .ask i j k, e => by
    unfold kasked at e ⊢
    simp only [Bool.and_eq_true, decide_eq_true_eq] at e ⊢
    rw [h i j e.1.1 e.1.2]
    exact ⟨e.1, kasked_congr h _ e.2⟩
theorem krun_wp {α : Type} {n : Nat} {lt : Nat → Nat → Bool} {cmp : Nat → Nat → (Bool → Shared → Prop) → Shared → Prop} {G : α → Shared → Prop} {s : Shared} (hc : ∀ i j (C : Bool → Shared → Prop), i < n → j < n → C (lt i j) s → cmp i j C s) :
    ∀ t : KasT α, kasked n lt t = true → G (krun lt t) s → t.kasWp cmp G s
  | .ret _, _, h => h
  | .ask i j k, e, h => by
    unfold kasked at e
    simp only [Bool.and_eq_true, decide_eq_true_eq] at e
    exact hc i j _ e.1.1 e.1.2 (krun_wp hc (k (lt i j)) e.2 h)
noncomputable def klists (n : Nat) : Nat → List (List Nat)
  | 0 => [[]]
  | k + 1 => (klists n k).flatMap fun l => (List.range n).map (· :: l)
theorem mem_klists {n : Nat} : ∀ {k : Nat} {l : List Nat}, l.length = k → (∀ x ∈ l, x < n) → l ∈ klists n k
  | 0, [], _, _ => by simp [klists]
  | k + 1, x :: l, h, hx => by
    unfold klists
    refine List.mem_flatMap.mpr ⟨l, mem_klists (by simpa using h) fun y hy => hx y (List.mem_cons_of_mem _ hy), ?_⟩
    exact List.mem_map.mpr ⟨x, List.mem_range.mpr (hx x (List.mem_cons_self ..)), rfl⟩
noncomputable def okSort (n : Nat) (r : List Nat) : Bool :=
  let p := (krun (fun i j => decide (r.getD i 0 < r.getD j 0)) (kas_sort n)).toList
  kasked n (fun i j => decide (r.getD i 0 < r.getD j 0)) (kas_sort n) && (p.map (fun i => r.getD i 0) == List.range n && p.all fun i => decide (i < n))
theorem ok_all : ∀ n ∈ [2, 3, 4, 5], ((klists n n).all fun r => !(decide r.Nodup) || okSort n r) = true := by decide +kernel
theorem countP_lt {α : Type} {p q : α → Bool} : ∀ {l : List α}, (∀ x ∈ l, p x = true → q x = true) → (∃ x ∈ l, q x = true ∧ p x = false) → l.countP p < l.countP q
  | [], _, ⟨_, h, _⟩ => by cases h
  | y :: l, h, ⟨x, hx, h1, h2⟩ => by
    have hm : l.countP p ≤ l.countP q := List.countP_mono_left fun z hz e => h z (List.mem_cons_of_mem _ hz) e
    rw [List.countP_cons, List.countP_cons]
    rcases List.mem_cons.mp hx with rfl | hx
    · rw [h1, h2]; simp; omega
    · have := countP_lt (l := l) (fun z hz e => h z (List.mem_cons_of_mem _ hz) e) ⟨x, hx, h1, h2⟩
      have hy := h y (List.mem_cons_self ..)
      by_cases e : p y = true
      · rw [if_pos e, if_pos (hy e)]; omega
      · rw [if_neg e]; split <;> omega
theorem sort_ok {n : Nat} (h2 : 2 ≤ n) (h5 : n < 6) {lt : Nat → Nat → Bool} (irr : ∀ i, lt i i = false) (tr : ∀ i j k, lt i j = true → lt j k = true → lt i k = true) (tot : ∀ i j, i < n → j < n → i ≠ j → lt i j = true ∨ lt j i = true)
    (p : List Nat) (hp : p = (krun lt (kas_sort n)).toList) : kasked n lt (kas_sort n) = true ∧ p.length = n ∧ (∀ i ∈ p, i < n) ∧ p.Pairwise (fun i j => lt i j = true) := by
  let rk : Nat → Nat := fun i => (List.range n).countP fun j => lt j i
  have mono : ∀ i j, i < n → lt i j = true → rk i < rk j := fun i j hi h => countP_lt (fun k _ e => tr k i j e h) ⟨i, List.mem_range.mpr hi, h, irr i⟩
  have bnd : ∀ i, i < n → rk i < n := fun i hi => by
    have := countP_lt (p := fun j => lt j i) (q := fun _ => true) (l := List.range n) (fun _ _ _ => rfl) ⟨i, List.mem_range.mpr hi, rfl, irr i⟩
    simpa using this
  have iff_ : ∀ i j, i < n → j < n → (lt i j = true ↔ rk i < rk j) := fun i j hi hj => ⟨mono i j hi, fun h => by
    by_cases e : i = j
    · subst e; exact absurd h (Nat.lt_irrefl _)
    rcases tot i j hi hj e with q | q
    · exact q
    · exact absurd (mono j i hj q) (Nat.lt_asymm h)⟩
  let r := (List.range n).map rk
  have gr : ∀ i, i < n → r.getD i 0 = rk i := fun i hi => by simp [r, List.getD, hi]
  have lr : r.length = n := by simp [r]
  have nd : r.Nodup := by
    refine List.pairwise_iff_getElem.mpr fun i j hi hj hij e => ?_
    have hi' : i < n := by simpa [r] using hi
    have hj' : j < n := by simpa [r] using hj
    have e' : rk i = rk j := by simpa [r] using e
    rcases tot i j hi' hj' (Nat.ne_of_lt hij) with q | q
    · exact absurd e' (Nat.ne_of_lt (mono i j hi' q))
    · exact absurd e'.symm (Nat.ne_of_lt (mono j i hj' q))
  have hr : r ∈ klists n n := mem_klists lr fun x hx => by
    obtain ⟨i, hi, rfl⟩ := List.mem_map.mp hx
    exact bnd i (List.mem_range.mp hi)
  have ok : okSort n r = true := by
    have := List.all_eq_true.mp (ok_all n (by simp; omega)) r hr
    simpa [nd] using this
  unfold okSort at ok
  simp only [Bool.and_eq_true, beq_iff_eq, List.all_eq_true, decide_eq_true_eq] at ok
  obtain ⟨o1, o2, o3⟩ := ok
  have agree : ∀ i j, i < n → j < n → lt i j = decide (r.getD i 0 < r.getD j 0) := fun i j hi hj => by
    rw [gr i hi, gr j hj]
    cases e : lt i j with
    | true => exact (decide_eq_true ((iff_ i j hi hj).mp e)).symm
    | false => exact (decide_eq_false fun q => by rw [(iff_ i j hi hj).mpr q] at e; cases e).symm
  have er : krun lt (kas_sort n) = krun (fun i j => decide (r.getD i 0 < r.getD j 0)) (kas_sort n) := krun_congr agree _ o1
  rw [← er, ← hp] at o2 o3
  have lp : p.length = n := by simpa using congrArg List.length o2
  refine ⟨kasked_congr agree _ o1, lp, o3, List.pairwise_iff_getElem.mpr fun i j hi hj hij => ?_⟩
  have g : ∀ k (hk : k < p.length), rk p[k] = k := fun k hk => by
    have e := congrArg (fun l => l[k]?) o2
    simp only [List.getElem?_map, List.getElem?_range (show k < n by omega), List.getElem?_eq_getElem hk, Option.map_some, Option.some.injEq] at e
    rw [gr _ (o3 _ (List.getElem_mem hk))] at e
    exact e
  rw [iff_ _ _ (o3 _ (List.getElem_mem hi)) (o3 _ (List.getElem_mem hj)), g i hi, g j hj]
  exact hij
noncomputable def PairsAre (φ : Addr → Tok → Int → Prop) (h : Heap) (vs : List Value) (ks : List (Int × Int)) : Prop := vs.length = ks.length ∧ ∀ (j : Nat) v k, vs[j]? = some v → ks[j]? = some k → ∃ T t u, v = .ref T ∧ IsPair h T (.int k.1 t) (.int k.2 u) ∧ φ T t k.1
noncomputable def plt (x y : Int × Int) : Bool := decide (x.1 < y.1) || (x.1 == y.1 && decide (x.2 < y.2))
section
variable {prog : Program} {w : World} {A : Around} {E : Value → Shared → Prop} {s : Shared}
theorem ask_pair {ws : List Value} {ks : List (Int × Int)} (hp : PairsAre φ s.heap ws ks) {i j : Nat} {C : Bool → Shared → Prop} (hi : i < ws.length) (hj : j < ws.length) (h : C (plt (ks.getD i (0, 0)) (ks.getD j (0, 0))) s) :
    kas_ask prog w A (tuples' true) ws i j C s := by
  unfold kas_ask
  obtain ⟨hl, hp⟩ := hp
  obtain ⟨T, t, u, e1, g1, _⟩ := hp i ws[i] (ks[i]'(by omega)) (by simp [hi]) (by simp [show i < ks.length by omega])
  obtain ⟨T', t', u', e1', g1', _⟩ := hp j ws[j] (ks[j]'(by omega)) (by simp [hj]) (by simp [show j < ks.length by omega])
  have k1 : ks.getD i (0, 0) = ks[i]'(by omega) := by simp [List.getD, show i < ks.length by omega]
  have k2 : ks.getD j (0, 0) = ks[j]'(by omega) := by simp [List.getD, show j < ks.length by omega]
  have w1 : ws.getD i Value.none = .ref T := by rw [← e1]; simp [List.getD, hi]
  have w2 : ws.getD j Value.none = .ref T' := by rw [← e1']; simp [List.getD, hj]
  rw [w1, w2]
  rw [k1, k2] at h
  generalize ks[i]'(by omega) = x at *
  generalize ks[j]'(by omega) = y at *
  refine kat_lt g1 rfl g1' rfl ?_
  refine kat_cons (wpAny_eqBool_int ?_)
  unfold plt at h
  cases e : x.1 == y.1 with
  | false =>
    simp only [e, Bool.false_and, Bool.or_false] at h
    refine kat_no ?_
    show wpAny _ _ (oneLt' true _ _) _ _ _
    exact oneLt_int h
  | true =>
    have eq : decide (x.1 < y.1) = false := by rw [beq_iff_eq.mp e]; simp
    simp only [e, eq, Bool.true_and, Bool.false_or] at h
    refine kat_yes (kat_cons (wpAny_eqBool_int ?_))
    cases e2 : x.2 == y.2 with
    | true =>
      have eq2 : decide (x.2 < y.2) = false := by rw [beq_iff_eq.mp e2]; simp
      rw [eq2] at h
      exact kat_yes (kat_nil h)
    | false =>
      refine kat_no ?_
      refine kat_one _ _ ?_
      walk_at "compareOp Lt int int"
      exact h
theorem plt_irr (x : Int × Int) : plt x x = false := by simp [plt]
theorem plt_tr {x y z : Int × Int} (h1 : plt x y = true) (h2 : plt y z = true) : plt x z = true := by
  simp only [plt, Bool.or_eq_true, Bool.and_eq_true, decide_eq_true_eq, beq_iff_eq] at *
  rcases h1 with h1 | ⟨e1, h1⟩ <;> rcases h2 with h2 | ⟨e2, h2⟩
  · exact .inl (Int.lt_trans h1 h2)
  · exact .inl (e2 ▸ h1)
  · exact .inl (e1 ▸ h2)
  · exact .inr ⟨e1.trans e2, Int.lt_trans h1 h2⟩
theorem plt_tot {x y : Int × Int} (h : x ≠ y) : plt x y = true ∨ plt y x = true := by
  simp only [plt, Bool.or_eq_true, Bool.and_eq_true, decide_eq_true_eq, beq_iff_eq]
  rcases Int.lt_trichotomy x.1 y.1 with a | a | a
  · exact .inl (.inl a)
  · rcases Int.lt_trichotomy x.2 y.2 with b | b | b
    · exact .inl (.inr ⟨a, b⟩)
    · exact absurd (Prod.ext a b) h
    · exact .inr (.inr ⟨a.symm, b⟩)
  · exact .inr (.inl a)
theorem runs_pairs {ws : List Value} {ks : List (Int × Int)} {Q : SortSt → Shared → Prop} (hp : PairsAre φ s.heap ws ks) (hnd : ks.Nodup) (h2 : 2 ≤ ws.length) (h5 : ws.length < 6)
    (h : ∀ (p : List Nat) st', p.length = ws.length → (∀ i ∈ p, i < ws.length) → (p.map fun i => ks.getD i (0, 0)).Pairwise (fun x y => plt x y = true) → (arrOf st').map (·.2) = (p.map fun i => ws.getD i Value.none).toArray → failedOf st' = none → Q st' s) :
    wpAny (model prog w) A ((sortRuns').run (SortSt.mk' (tuples' true) (ws.toArray.zip ws.toArray) #[] 7 none)) (fun r s' => Q r.2 s') E s := by
  have hl := hp.1
  let lt : Nat → Nat → Bool := fun i j => if i < ws.length ∧ j < ws.length then plt (ks.getD i (0, 0)) (ks.getD j (0, 0)) else false
  have ltd : ∀ i j, i < ws.length → j < ws.length → lt i j = plt (ks.getD i (0, 0)) (ks.getD j (0, 0)) := fun i j hi hj => by simp [lt, hi, hj]
  obtain ⟨o1, o2, o3, o4⟩ := sort_ok (n := ws.length) h2 h5 (lt := lt) (fun i => by simp only [lt]; split; exact plt_irr _; rfl)
    (fun i j k a b => by
      simp only [lt] at *
      split at a
      · split at b
        · rename_i q1 q2
          rw [if_pos ⟨q1.1, q2.2⟩]; exact plt_tr a b
        · cases b
      · cases a)
    (fun i j hi hj hij => by
      rw [ltd i j hi hj, ltd j i hj hi]
      refine plt_tot fun e => hij ?_
      have e' : ks[i]'(by omega) = ks[j]'(by omega) := by simpa [List.getD, show i < ks.length by omega, show j < ks.length by omega] using e
      have nd := List.pairwise_iff_getElem.mp hnd
      rcases Nat.lt_trichotomy i j with q | q | q
      · exact absurd e' (nd i j (by omega) (by omega) q)
      · exact q
      · exact absurd e'.symm (nd j i (by omega) (by omega) q)) _ rfl
  refine kat_run (vs := ws) (ks := ws) (G := fun p s' => p = krun lt (kas_sort ws.length) ∧ s' = s) rfl h2 (by omega) (fun p st' s' hz har hf hG => ?_) (krun_wp (n := ws.length) (lt := lt) (fun i j C hi hj hC => ?_) _ o1 ⟨rfl, rfl⟩)
  · obtain ⟨rfl, rfl⟩ := hG
    refine h (krun lt (kas_sort ws.length)).toList st' o2 o3 ?_ (kat_snds rfl har) hf
    rw [List.pairwise_map]
    refine List.Pairwise.imp_of_mem (fun {i j} hi hj e => ?_) o4
    rw [← ltd i j (o3 i hi) (o3 j hj)]; exact e
  · rw [ltd i j hi hj] at hC
    exact ask_pair hp hi hj hC
theorem PairsAre.tail {h : Heap} {v : Value} {vs : List Value} {k : Int × Int} {ks : List (Int × Int)} (p : PairsAre φ h (v :: vs) (k :: ks)) : PairsAre φ h vs ks := by
  obtain ⟨hl, hp⟩ := p
  exact ⟨by simpa using hl, fun j v k e1 e2 => hp (j + 1) v k (by simpa using e1) (by simpa using e2)⟩
theorem PairsAre.firsts {h : Heap} : ∀ {vs : List Value} {ks : List (Int × Int)}, PairsAre φ h vs ks → ∃ fs, KatTups h vs fs ∧ fs.length = vs.length ∧ ∀ v ∈ fs, ∃ a t, v = Value.int a t
  | [], [], _ => ⟨[], KatTups.nil, rfl, by simp⟩
  | [], _ :: _, p => by have := p.1; simp at this
  | _ :: _, [], p => by have := p.1; simp at this
  | v :: vs, k :: ks, p => by
    obtain ⟨fs, f1, f2, f3⟩ := PairsAre.firsts p.tail
    obtain ⟨T, t, u, rfl, g, _⟩ := p.2 0 v k rfl rfl
    refine ⟨.int k.1 t :: fs, KatTups.cons g rfl rfl rfl f1, by simp [f2], fun w hw => ?_⟩
    rcases List.mem_cons.mp hw with rfl | hw
    · exact ⟨_, _, rfl⟩
    · exact f3 w hw
theorem PairsAre.keep {h h' : Heap} {vs : List Value} {ks : List (Int × Int)} (p : PairsAre φ h vs ks) (k : ∀ T a b, IsPair h T a b → IsPair h' T a b) : PairsAre φ h' vs ks :=
  ⟨p.1, fun j v x e1 e2 => by obtain ⟨T, t, u, e, g, z⟩ := p.2 j v x e1 e2; exact ⟨T, t, u, e, k _ _ _ g, z⟩⟩
theorem PairsAre.reverse {h : Heap} {vs : List Value} {ks : List (Int × Int)} (p : PairsAre φ h vs ks) : PairsAre φ h vs.reverse ks.reverse := by
  have hl := p.1
  refine ⟨by simp [p.1], fun j v x e1 e2 => ?_⟩
  have hj : j < vs.length := by
    have := (List.getElem?_eq_some_iff.mp e1).1
    simpa using this
  rw [List.getElem?_reverse hj] at e1
  rw [List.getElem?_reverse (by omega)] at e2
  exact p.2 _ v x e1 (by rw [hl]; exact e2)
theorem PairsAre.pick {h : Heap} {vs : List Value} {ks : List (Int × Int)} (p : PairsAre φ h vs ks) {q : List Nat} (hq : ∀ i ∈ q, i < vs.length) : PairsAre φ h (q.map fun i => vs.getD i Value.none) (q.map fun i => ks.getD i (0, 0)) := by
  refine ⟨by simp, fun j v x e1 e2 => ?_⟩
  rw [List.getElem?_map] at e1 e2
  cases e : q[j]? with
  | none => rw [e] at e1; cases e1
  | some i =>
    rw [e] at e1 e2
    have hi := hq i (List.mem_of_getElem? e)
    have hl := p.1
    refine p.2 i v x ?_ ?_
    · rw [← Option.some.inj e1]; simp [List.getD, hi]
    · rw [← Option.some.inj e2]; simp [List.getD, show i < ks.length by omega]
end
end
end
-- Su
section
section
variable {φ : Addr → Tok → Int → Prop}
theorem perm_of_sub {α : Type} [DecidableEq α] : ∀ {l₁ l₂ : List α}, l₁.Nodup → (∀ x ∈ l₁, x ∈ l₂) → l₂.length ≤ l₁.length → l₁.Perm l₂
  | [], l₂, _, _, h => by
    have : l₂ = [] := List.length_eq_zero_iff.mp (Nat.le_zero.mp h)
    rw [this]
  | x :: l₁, l₂, nd, sub, h => by
    have hx : x ∈ l₂ := sub x (List.mem_cons_self ..)
    obtain ⟨n1, n2⟩ := List.nodup_cons.mp nd
    have hl : (l₂.erase x).length + 1 = l₂.length := by rw [List.length_erase_of_mem hx]; have := List.length_pos_of_mem hx; omega
    have ih := perm_of_sub (l₁ := l₁) (l₂ := l₂.erase x) n2 (fun y hy => (List.mem_erase_of_ne (fun e : y = x => n1 (by rw [← e]; exact hy))).mpr (sub y (List.mem_cons_of_mem _ hy))) (by simp at h; omega)
    exact (ih.cons x).trans (List.perm_cons_erase hx).symm
theorem zip_self {α : Type} : ∀ l : List α, l.zip l = l.map fun x => (x, x)
  | [] => rfl
  | x :: l => by rw [List.zip_cons_cons, zip_self l]; rfl
section
variable {prog : Program} {w : World} {A : Around} {E : Value → Shared → Prop} {s : Shared}
theorem list_sort_pairs {a : Addr} {vs : List Value} {ks : List (Int × Int)} {n : Nat} {b : Bool} {P : Fin → Shared → Prop} (ho : s.heap.get? a = some (seqObj "list" vs.toArray n))
    (hp : PairsAre φ s.heap vs ks) (hnd : ks.Nodup) (h1 : 1 ≤ vs.length) (h5 : vs.length < 6)
    (h : ∀ (out : Array Value) (kout : List (Int × Int)), PairsAre φ s.heap out.toList kout → kout.Perm ks → kout.Pairwise (fun x y => (if b then plt y x else plt x y) = true) → P (.done (.ret .none)) { s with heap := sortedHeap s.heap a vs out }) :
    wpAny (model prog w) A (Builtin.«list.sort» ⟨[.ref a], [(Str.ofString "reverse", .bool b)]⟩) P E s := by
  rw [list_sort_rev]
  have ha : a < s.heap.objs.size := Heap.lt_size ho
  have hsl := sizeLine_eq
  refine wpAny_bind (listItems_at ho rfl ?_)
  refine wpAny_bind (listUpdate_at ho rfl ?_ (by rw [List.size_toArray, sizeLine_eq]; omega) (Nat.zero_le _))
  obtain ⟨e1, ho1⟩ : ∃ e1, (s.heap.update a (Obj.mapSeq fun _ => #[])).get? a = some (seqObj "list" #[] e1) := ⟨_, get?_update_seq ho (fun _ => #[])⟩
  refine wpAny_bind (seqEpoch_at ho1 rfl ?_)
  refine wpAny_bind (wpAny_newTuple ?_ (by show vs.length ≤ _; rw [sizeLine_eq]; omega))
  refine wpAny_bind (wpAny_newList ?_ (Nat.zero_le _))
  refine wpAny_holding ?_
  have ho6 : (((s.heap.update a (Obj.mapSeq fun _ => #[])).push (seqObj "tuple" vs.toArray 0)).push (seqObj "list" #[] 0)).get? a = some (seqObj "list" #[] e1) := by
    rw [Heap.get?_push_ne _ _ _ (by rw [size_push', Heap.size_update]; exact Nat.ne_of_lt (Nat.lt_succ_of_lt ha)), Heap.get?_push_ne _ _ _ (by rw [Heap.size_update]; exact Nat.ne_of_lt ha)]
    exact ho1
  show wpAny (model prog w) A _ P E { s with heap := ((s.heap.update a (Obj.mapSeq fun _ => #[])).push (seqObj "tuple" vs.toArray 0)).push (seqObj "list" #[] 0) }
  have hsz : vs.toArray.size = vs.length := by simp
  have kp : ∀ T x y, IsPair s.heap T x y → IsPair (((s.heap.update a (Obj.mapSeq fun _ => #[])).push (seqObj "tuple" vs.toArray 0)).push (seqObj "list" #[] 0)) T x y := fun T x y g => by
    have ne : T ≠ a := fun e => by
      have g' : s.heap.get? T = _ := g
      rw [e, ho] at g'; simp [seqObj] at g'
    exact Heap.get?_push_of_some _ (Heap.get?_push_of_some _ ((Heap.get?_update_other _ _ (Ne.symm ne)).trans g))
  dsimp only
  have step : ∀ t : Sem Fin, wpAny (model prog w) A t P E { s with heap := ((s.heap.update a (Obj.mapSeq fun _ => #[])).push (seqObj "tuple" vs.toArray 0)).push (seqObj "list" #[] 0) } →
      wpAny (model prog w) A (if b = true then (do let _ ← rule "list.sort.reverse"; t) else t) P E { s with heap := ((s.heap.update a (Obj.mapSeq fun _ => #[])).push (seqObj "tuple" vs.toArray 0)).push (seqObj "list" #[] 0) } := by
    intro t ht
    split
    · exact wpAny_bind (wpAny_rule ht)
    · exact ht
  refine step _ ?_
  by_cases h2 : vs.toArray.size < 2
  · rw [if_pos h2, if_pos h2]
    refine wpAny_bind (wpAny_pure ?_)
    rw [StateT.run_pure]
    refine wpAny_bind (wpAny_pure ?_)
    dsimp only
    obtain ⟨v, rfl⟩ := List.length_eq_one_iff.mp (show vs.length = 1 by omega)
    obtain ⟨k, rfl⟩ := List.length_eq_one_iff.mp (show ks.length = 1 by have := hp.1; simp at this; omega)
    have er : (if b = true then ([v].toArray.zip [v].toArray).reverse else [v].toArray.zip [v].toArray) = #[(v, v)] := by cases b <;> simp
    have eo : (if b = true then (Array.map (fun x => x.snd) #[(v, v)]).reverse else Array.map (fun x => x.snd) #[(v, v)]) = #[v] := by cases b <;> simp
    rw [er]
    refine wpAny_bind (seqEpoch_at ho6 rfl ?_)
    refine wpAny_bind (listUpdate_at ho6 rfl ?_ (hsz2 := by
      show (if b = true then (Array.map (fun x => x.snd) #[(v, v)]).reverse else Array.map (fun x => x.snd) #[(v, v)]).size ≤ _
      rw [eo, sizeLine_eq]; simp))
    simp only [bne_self_eq_false, Bool.false_eq_true, if_false]
    refine wpAny_pure ?_
    have := h #[v] [k] hp (List.Perm.refl _) (List.pairwise_singleton ..)
    have eo' : (if b = true then (Array.map (fun x => x.snd) (arrOf (SortSt.mk' general' #[(v, v)] #[] 7 none))).reverse else Array.map (fun x => x.snd) (arrOf (SortSt.mk' general' #[(v, v)] #[] 7 none))) = #[v] := eo
    rw [← eo'] at this
    exact this
  · rw [if_neg h2, if_neg h2]
    have h22 : 2 ≤ vs.length := by rw [hsz] at h2; omega
    have hp6 := hp.keep kp
    obtain ⟨fs, f1, f2, f3⟩ := hp6.firsts
    refine wpAny_bind (kat_kind (T := .type "int") f1 (by omega) (fun v hv => by obtain ⟨x, t, rfl⟩ := f3 v hv; exact Looks.of_pure rfl) (by decide) ?_)
    have ez : (if b = true then (vs.toArray.zip vs.toArray).reverse else vs.toArray.zip vs.toArray) = (if b then vs.reverse else vs).toArray.zip (if b then vs.reverse else vs).toArray := by
      cases b with
      | false => rfl
      | true => simp [zip_self]
    rw [ez]
    have ep : PairsAre φ (((s.heap.update a (Obj.mapSeq fun _ => #[])).push (seqObj "tuple" vs.toArray 0)).push (seqObj "list" #[] 0)) (if b then vs.reverse else vs) (if b then ks.reverse else ks) := by
      cases b with
      | false => exact hp6
      | true => exact hp6.reverse
    have ep0 : PairsAre φ s.heap (if b then vs.reverse else vs) (if b then ks.reverse else ks) := by
      cases b with
      | false => exact hp
      | true => exact hp.reverse
    have el : (if b then vs.reverse else vs).length = vs.length := by cases b <;> simp
    have ek : (if b then ks.reverse else ks).Perm ks := by cases b with
      | false => exact List.Perm.refl _
      | true => exact List.reverse_perm _
    have end_ : (if b then ks.reverse else ks).Nodup := ek.nodup_iff.mpr hnd
    refine wpAny_bind (wpAny_mono (runs_pairs (s := { s with heap := ((s.heap.update a (Obj.mapSeq fun _ => #[])).push (seqObj "tuple" vs.toArray 0)).push (seqObj "list" #[] 0) })
      (Q := fun st' s' => s' = { s with heap := ((s.heap.update a (Obj.mapSeq fun _ => #[])).push (seqObj "tuple" vs.toArray 0)).push (seqObj "list" #[] 0) } ∧ failedOf st' = none ∧ ∃ out kout, (arrOf st').map (·.2) = out ∧ out.size = vs.length ∧ PairsAre φ s.heap out.toList kout ∧ kout.Perm ks ∧ kout.Pairwise (fun x y => plt x y = true))
      ep end_ (by omega) (by omega) fun p st' q1 q2 q3 q4 q5 => ⟨rfl, q5, _, _, q4, by simp [q1, el], ep0.pick q2, ?_, q3⟩) ?_ fun _ _ e => e)
    · have nd9 : (p.map fun i => (if b then ks.reverse else ks).getD i (0, 0)).Nodup := q3.imp fun {x y} e1 e2 => by rw [e2, plt_irr] at e1; cases e1
      have lk : (if b then ks.reverse else ks).length = vs.length := by rw [← ep.1, el]
      refine (perm_of_sub nd9 (fun x hx => ?_) (by rw [List.length_map, q1, el, lk]; exact Nat.le_refl _)).trans ek
      obtain ⟨i, hi, rfl⟩ := List.mem_map.mp hx
      have hi' := q2 i hi
      rw [el] at hi'
      generalize (if b then ks.reverse else ks) = kk at *
      simp [List.getD, show i < kk.length by omega]
    rintro ⟨⟨⟩, st'⟩ s' ⟨rfl, hf, out, kout, h3, h4, h6, h7, h8⟩
    dsimp only
    refine wpAny_bind (seqEpoch_at ho6 rfl ?_)
    refine wpAny_bind (listUpdate_at ho6 rfl ?_ (hsz2 := by
      rw [h3]
      have e : out.size ≤ sizeLine + 1 := by rw [h4, sizeLine_eq]; omega
      split
      · rw [Array.size_reverse]; exact e
      · exact e))
    rw [hf, h3]
    simp only [bne_self_eq_false, Bool.false_eq_true, if_false]
    refine wpAny_pure ?_
    cases b with
    | false => exact h out kout h6 h7 (by simpa using h8)
    | true =>
      have := h out.reverse kout.reverse (by simpa using h6.reverse) ((List.reverse_perm _).trans h7) (by simpa [List.pairwise_reverse] using h8)
      exact this
end
end
end
-- Sv
section
variable {φ : Addr → Tok → Int → Prop}
section
variable {prog : Program} {w : World} {A : Around} {E : Value → Shared → Prop} {s : Shared}
theorem sorted_feed {J I : Addr} {n : Nat} {Inv₀ : Heap → Prop} {Inv : Nat → Array Value → Heap → Prop} {Fin : Array Value → Heap → Prop} {b : Bool} {Q : Value → Shared → Prop}
    (W : Feed prog w A.in1.in1 s.heap.objs.size J I n Inv₀ Inv Fin) (hst : Inv₀ (s.heap.push { cls := .type "list", data := .seq ([] : List Value).toArray }))
    (hfin : ∀ acc h', Fin acc h' → ∃ ks, PairsAre φ h' acc.toList ks ∧ ks.Nodup ∧ 1 ≤ acc.size ∧ acc.size < 6)
    (hQ : ∀ acc h₁ h' tk' D e ks (out : Array Value) kout, Fin acc h₁ → PairsAre φ h₁ acc.toList ks → D = h₁.objs.size → h₁.StaysIn h' → h'.get? D = some (seqObj "list" out e) → PairsAre φ h₁ out.toList kout → kout.Perm ks →
      kout.Pairwise (fun x y => (if b then plt y x else plt x y) = true) → Q (.ref D) { s with heap := h', toks := tk' }) :
    wpAny (model prog w) A (call (.builtin "sorted") [.ref J] [(Str.ofString "reverse", .bool b)]) Q E s := by
  refine call_function_entry_kw kind_sorted plain_sorted entry_sorted (args_sorted_rev _ _) ?_
  unfold Builtin.«sorted»
  refine wpAny_bind (m := checkCount "sorted" 1 1 _) (wpAny_pure ?_)
  refine wpAny_bind (collect_feed W hst fun acc h₁ tk₁ hf => ?_)
  obtain ⟨ks, p1, p2, p3, p4⟩ := hfin acc h₁ hf
  refine wpAny_bind (wpAny_newList ?_ (by rw [Array.length_toList, sizeLine_eq]; omega))
  have hoL : (h₁.push (seqObj "list" acc 0)).get? h₁.objs.size = some (seqObj "list" acc.toList.toArray 0) := Heap.get?_push_size _ rfl
  have p5 : PairsAre φ (h₁.push (seqObj "list" acc 0)) acc.toList ks := p1.keep fun T x y g => Heap.get?_push_of_some _ g
  refine wpAny_bind (wpAny_holding (wpAny_call_entry_kw slot_list_sort ⟨_, hoL, rfl⟩ entry_list_sort (list_sort_pairs hoL p5 p2 (by simpa using p3) (by simpa using p4) fun out kout a1 a2 a3 => ⟨_, rfl, ?_⟩) (args_list_sort_rev _ _)))
  refine wpAny_pure ⟨_, rfl, ?_⟩
  obtain ⟨e, he⟩ := sortedHeap_at (h := h₁.push (seqObj "list" acc 0)) (a := h₁.objs.size) (vs := acc.toList) (out := out) (n := 0) hoL
  refine hQ acc h₁ _ _ h₁.objs.size e ks out kout hf p1 rfl (fun c o q => ?_) he (a1.keep fun T x y g => ?_) a2 a3
  · rw [sortedHeap_old (Nat.ne_of_lt (Heap.lt_size q)) (by rw [size_push']; exact Nat.lt_succ_of_lt (Heap.lt_size q))]
    exact Heap.get?_push_of_some _ q
  · have ne : T ≠ h₁.objs.size := fun e => by
      have g' : (h₁.push (seqObj "list" acc 0)).get? T = _ := g
      rw [e, hoL] at g'; simp [seqObj] at g'
    have g' : (h₁.push (seqObj "list" acc 0)).get? T = _ := g
    rw [Heap.get?_push_ne _ _ _ ne] at g'
    exact g'
end
end
-- K3
theorem count_iter_t (w p loose mean mg mb) (s : Shared) (x : Addr) :
    Pure w p loose mean mg mb 204 [.ref x] [] s 4 60 (fun _ v => v = .ref x) := by
  unfold Pure PureC PG
  k_fill
  intro dp un gd cn cs a ccd cl outer A₀ base h₀ L m Q E B F X T hk hd hu hret
  refine wpAny_call ?_
  k_dflt (refine call_frozen ?_; k_whole; intro _ _ _ _ _ _ _; (try dsimp only); (try k_fold))
  (with_reducible rename Fr _ _ _ _ => F9)
  have F10 : Fr s.heap _ _ (fun y => List.lookup y ([(Str.ofString "self", Value.ref x)] : List (Str × Value))) := F9
  clear F9
  walk_at "go"
  show Q _ _
  (rename Fr _ _ _ _ => F6)
  exact hret _ _ _ F6.keep rfl
theorem iter_count {w : World} {p : Program} {loose : List Str} {mean : ExcName → Option Value} {mg mb : Str → Option Value} {s : Shared} {x d : Addr} {c : Int} {t1 : Tok} {b : Bool}
    {dp un : Nat} {gd : Option (List Code)} {cn : Str} {cs : Scope} {a : Addr} {ccd : Value} {cl : List (Str × Addr)} {outer : List Env} {A₀ : Around} {base h₀ : Heap} {L : Addr} {m : Str → Option Value} {Q E : Value → Shared → Prop}
    (B : Below A₀ base outer h₀) (X : (hd.heap_39 w.params).In h₀) (T : Top p loose mean mg mb h₀) (hk : cs.kind = .function) (hd : dp + 4 < recursionLimit) (hu : un + 60 < cLine)
    (C : CountAt h₀ L m x d b t1 c s.heap) (hret : ∀ h' tk', s.heap.StaysIn h' → Q (.ref x) { s with heap := h', toks := tk' }) :
    wpAny (model PG w) (ktrTop dp un gd cn cs L a ccd cl outer) (pyIter (.ref x)) Q E s := by
  obtain ⟨t, F, N⟩ := C
  have I : InstAt s.heap x (cntObj d c t b t1) 222 (some (dictOf [] 0)) := InstAt.of_news N (List.Mem.head _) (List.Mem.tail _ (List.Mem.head _))
  refine owit_iter F X I (f := 204) (by k_is) (by k_is) ?_
  have ct := count_iter_t w p loose mean mg mb s x
  unfold Pure PureC PG at ct
  refine ct dp un gd cn cs a ccd cl outer A₀ base h₀ L m _ E B F X T hk hd hu fun v h' tk' st po => ?_
  subst po
  have I' : InstAt h' x (cntObj d c t b t1) 222 (some (dictOf [] 0)) := InstAt.of_news (N.grown st) (List.Mem.head _) (List.Mem.tail _ (List.Mem.head _))
  exact owit_it (F.keeps st) X I' (g := .ref 211) (by k_is) (hret h' tk' st)
-- Zt
section
variable {φ : Addr → Tok → Int → Prop}
theorem zip_ready {h h' h₀ : Heap} {L : Addr} {m : Str → Option Value} {x d l TI : Addr} {b : Bool} {t1 : Tok} {xs : Array Value} (C : CountAt h₀ L m x d b t1 0 h) (hl : h.IsList l xs) (st : h.StaysIn h') (lt : h.objs.size < TI)
    (hz : IsZip h' (TI + 2) TI (TI + 1) .none) (hTI : IsPair h' TI (.ref h.objs.size) (.ref x)) (hTO : IsPair h' (TI + 1) .none .none) (hit : h'.IsListIter h.objs.size l 0) (xd : x ≠ d) :
    ZipApt h' h₀ L h'.objs.size (TI + 2) TI (TI + 1) h.objs.size x d l xs ∧
    ZipRun h' h₀ L m h'.objs.size (TI + 2) TI (TI + 1) h.objs.size x d l b t1 xs 0 #[] (h'.push { cls := .type "list", data := .seq ([] : List Value).toArray }) := by
  obtain ⟨t, F, N⟩ := C
  obtain ⟨ol, hol, rl⟩ := id hl
  have lx : l ≠ x := fun e => by
    have q := (N _ (List.Mem.head _)).1
    dsimp only at q
    rw [← e, hol] at q
    rw [Option.some.inj q] at rl
    simp at rl
  have e1 : @LT.lt Nat instLTNat (x) h.objs.size := Heap.lt_size (N _ (List.Mem.head _)).1
  have e2 : @LT.lt Nat instLTNat (d) h.objs.size := Heap.lt_size (N _ (List.Mem.tail _ (List.Mem.head _))).1
  have e3 : @LT.lt Nat instLTNat (L) h.objs.size := F.ns.lt
  have e4 : @LT.lt Nat instLTNat (l) h.objs.size := Heap.lt_size hol
  have e5 : @LT.lt Nat instLTNat (TI + 2) h'.objs.size := Heap.lt_size hz
  have big : ∀ y, h.objs.size ≤ y → h₀.get? y = none := fun y hy => by
    cases e : h₀.get? y with
    | none => rfl
    | some o => exact absurd (Heap.lt_size (F.keep _ _ e)) (Nat.not_lt.mpr hy)
  obtain ⟨oi, hoi, _⟩ := id hit
  have up : ∀ c o, h'.get? c = some o → (h'.push { cls := .type "list", data := .seq ([] : List Value).toArray }).get? c = some o := fun c o e => Heap.get?_push_of_some _ e
  refine ⟨?_, ?_⟩
  · constructor <;> first | (exact xd) | (exact lx) | exact Nat.ne_of_lt (by lia) | exact Nat.ne_of_gt (by lia) | skip
    · intro y hy
      rcases hy with rfl | rfl | rfl | rfl
      · exact ⟨by first | exact Nat.ne_of_lt (by lia) | exact Nat.ne_of_gt (by lia), by first | exact Nat.ne_of_lt (by lia) | exact Nat.ne_of_gt (by lia), by first | exact Nat.ne_of_lt (by lia) | exact Nat.ne_of_gt (by lia), big _ (by lia)⟩
      · exact ⟨by first | exact Nat.ne_of_lt (by lia) | exact Nat.ne_of_gt (by lia), by first | exact Nat.ne_of_lt (by lia) | exact Nat.ne_of_gt (by lia), by first | exact Nat.ne_of_lt (by lia) | exact Nat.ne_of_gt (by lia), big _ (by lia)⟩
      · exact ⟨by first | exact Nat.ne_of_lt (by lia) | exact Nat.ne_of_gt (by lia), by first | exact Nat.ne_of_lt (by lia) | exact Nat.ne_of_gt (by lia), by first | exact Nat.ne_of_lt (by lia) | exact Nat.ne_of_gt (by lia), big _ (by lia)⟩
      · exact ⟨by first | exact Nat.ne_of_lt (by lia) | exact Nat.ne_of_gt (by lia), by first | exact Nat.ne_of_lt (by lia) | exact Nat.ne_of_gt (by lia), by first | exact Nat.ne_of_lt (by lia) | exact Nat.ne_of_gt (by lia), big _ (by lia)⟩
    · exact hl.at fun o e => st _ _ e
    · intro y hy
      rcases hy with rfl | rfl | rfl | rfl
      · exact ⟨_, hz⟩
      · exact ⟨_, hTO⟩
      · exact ⟨_, hoi⟩
      · exact ⟨_, st _ _ (N _ (List.Mem.head _)).1⟩
  · exact ⟨rfl, .inl ⟨rfl, up _ _ hz⟩, up _ _ hTI, hit.at fun o e => up _ _ e, ⟨t, F.keeps (fun c o e => up _ _ (st _ _ e)), N.grown (fun c o e => up _ _ (st _ _ e))⟩, ⟨_, _, up _ _ hTO⟩, fun j v e => by simp at e, fun c o _ _ _ _ _ e => up _ _ e⟩
noncomputable def Coh (φ : Tok → Int) (vs : List Value) : Prop := ∀ v ∈ vs, ∃ n t, v = .int n t ∧ t ≠ 0 ∧ φ t = n
noncomputable def kpairs (ns : List Int) : List (Int × Int) := ns.zipIdx.map fun p => (p.1, (p.2 : Int))
theorem kpairs_len (ns : List Int) : (kpairs ns).length = ns.length := by simp [kpairs]
theorem kpairs_get (ns : List Int) (j : Nat) (h : j < ns.length) : (kpairs ns)[j]? = some (ns[j], (j : Int)) := by simp [kpairs, h]
theorem kpairs_nodup (ns : List Int) : (kpairs ns).Nodup := by
  refine List.pairwise_iff_getElem.mpr fun i j hi hj hij e => ?_
  rw [kpairs_len] at hi hj
  have a := kpairs_get ns i hi
  have b := kpairs_get ns j hj
  rw [List.getElem?_eq_getElem (by rw [kpairs_len]; exact hi), Option.some.injEq] at a
  rw [List.getElem?_eq_getElem (by rw [kpairs_len]; exact hj), Option.some.injEq] at b
  rw [a, b] at e
  have := congrArg Prod.snd e
  simp at this
  lia
theorem zip_pairs {h00 h₀ h : Heap} {L : Addr} {m : Str → Option Value} {S z TO i1 x d : Addr} {b : Bool} {t1 : Tok} {vs : List Value} {ns : List Int} {acc : Array Value} (Z : ZipDone h00 h₀ L m S z TO i1 x d b t1 vs.toArray acc h) (hi : IntsAre vs ns) (hc : ∀ n t T, Value.int n t ∈ vs → h00.get? T = none → φ T t n) :
    PairsAre φ h acc.toList (kpairs ns) := by
  have hl := hi.length
  have hs := Z.size
  simp at hs
  refine ⟨by rw [kpairs_len, Array.length_toList, hs, hl], fun j v k e1 e2 => ?_⟩
  have hj : j < ns.length := by
    have := (List.getElem?_eq_some_iff.mp e2).1
    rwa [kpairs_len] at this
  obtain ⟨T, a, t, q1, q0, _, q2, q3⟩ := Z.tups j v (by simpa using e1)
  rw [kpairs_get ns j hj] at e2
  obtain ⟨t', q4⟩ := hi.get j ns[j] (by simp [hj])
  have q5 : a = .int ns[j] t' := by
    have : vs[j]? = some a := by simpa using q2
    rw [q4] at this; exact (Option.some.inj this).symm
  subst q5
  cases e2
  exact ⟨T, _, _, q1, q3, hc _ _ _ (List.mem_of_getElem? q4) q0⟩
theorem PairsAre.unique {h : Heap} {vs : List Value} {ks ks' : List (Int × Int)} (p : PairsAre φ h vs ks) (q : PairsAre φ h vs ks') : ks = ks' := by
  refine List.ext_getElem (p.1.symm.trans q.1) fun j h1 h2 => ?_
  have hv : j < vs.length := by rw [p.1]; exact h1
  obtain ⟨T, t, u, e1, g1, _⟩ := p.2 j vs[j] ks[j] (List.getElem?_eq_getElem hv) (List.getElem?_eq_getElem h1)
  obtain ⟨T', t', u', e2, g2, _⟩ := q.2 j vs[j] ks'[j] (List.getElem?_eq_getElem hv) (List.getElem?_eq_getElem h2)
  rw [e1] at e2
  cases e2
  have g : some _ = some _ := (show h.get? T = _ from g1).symm.trans (show h.get? T = _ from g2)
  simp at g
  exact Prod.ext g.1.1 g.2.1
end
section
local macro_rules | `(tactic| is_list) => `(tactic| first | exact sl1 | exact sl2 | exact sl3)
-- U1
namespace unknown_t_c
noncomputable def hkS : Prop := ∀ (w p loose mean mg mb) (s : Shared) (l : Addr) (vs : List Value) (ns : List Int) (hl : s.heap.IsList l vs.toArray) (hi : IntsAre vs ns) (h1 : 0 < ns.length) (h2 : ns.length < 6), MutS w p loose mean mg mb 329 [.ref l] [] s [] 8 200 (fun h v => v = .bool true)
noncomputable def hkK : Σ' P : World → Program → tS → tX → tM → tM → Shared → Addr → tV → tI → Nat → Nat → tC → Str → Scope → Addr → Value → tA → tE → Around → Heap → Heap → Addr → tM → Prop, (∀ a b c d e f g h i j k l m n o p q r s t u v w x, P a b c d e f g h i j k l m n o p q r s t u v w x) → hkS := ⟨_, fun hk9 => by intro w p loose mean mg mb s l vs ns hl hi h1 h2 dp un gd cn cs a ccd cl outer A₀ base h₀ L m; revert h2; revert h1; revert hi; revert hl; apply (hk9 w p loose mean mg mb s l vs ns dp un gd cn cs a ccd cl outer A₀ base h₀ L m)⟩
namespace Z9
noncomputable def hkP (y : VV) := hkK.1 (y.W 0) (y.P 0) (y.S 0) (y.X 0) (y.M 0) (y.M 1) (y.R 0) (y.N 0) (y.L 0) (y.I 0) (y.N 1) (y.N 2) (y.C 0) (y.G 0) (y.K 0) (y.N 3) (y.V 0) (y.T 0) (y.E 0) (y.A 0) (y.H 0) (y.H 1) (y.N 4) (y.M 2)
@[irreducible] noncomputable def hkG1 := epsV0 hkP
@[irreducible] def l : Addr := hkG1.N 0
theorem hkM : hkP hkG1 := (by exact @wI _ _ : @wT (hkP hkG1) (by
  with_unfolding_all show hkK.1 (hkG1.W 0) (hkG1.P 0) (hkG1.S 0) (hkG1.X 0) (hkG1.M 0) (hkG1.M 1) (hkG1.R 0) l (hkG1.L 0) (hkG1.I 0) (hkG1.N 1) (hkG1.N 2) (hkG1.C 0) (hkG1.G 0) (hkG1.K 0) (hkG1.N 3) (hkG1.V 0) (hkG1.T 0) (hkG1.E 0) (hkG1.A 0) (hkG1.H 0) (hkG1.H 1) (hkG1.N 4) (hkG1.M 2)
  intro hl hi h1 h2
  unfold MutSC PG
  k_fill
  intro Q E B F N X T D hk hd hu hret
  refine wpAny_call ?_
  k_dflt (refine call_turn ?_; k_whole; intro _ _ _ _ _ _ _ _ _ _; (try dsimp only); (try k_fold))
  (rename _ = hideAll _ _ => eg)
  (have hl0 := hl; change Heap.IsList (hideAll (hkG1.R 0).heap (([] : List (Addr × Obj)).map (·.1))) l (hkG1.L 0).toArray at hl; rw [← eg] at hl; rw [← eg] at hret; clear eg)
  (with_reducible rename Fr _ _ _ _ => F9)
  have F10 : Fr _ _ _ (fun y => List.lookup y ([(Str.ofString "row", Value.ref l)] : List (Str × Value))) := F9
  clear F9
  walk_at "go"
  all_goals first
    | (exfalso; omega)
    | skip
  all_goals first
    | (have er : reprText (Str.ofString "middle") = Str.ofString "'middle'" := by decide +kernel
       k_dflt refine pyReprObj_str (hx := by rw [er, sizeLine_eq]; decide +kernel) ?_
       rw [er]
       dsimp only
       walk_at "go")
    | skip
  · show Q _ _
    (rename Fr _ _ _ _ => F6)
    refine hret _ _ _ _ KtsTurn.refl F6.keep ?_
    show Value.bool _ = Value.bool true
    congr 1; simp; omega
  · walk_at "go"
    show Q _ _
    (rename Fr _ _ _ _ => F6)
    (rename KtsTurn _ _ _ => T6)
    refine hret _ _ _ _ T6 F6.keep ?_
    show Value.bool _ = Value.bool true
    congr 1; simp; omega
  ))
end Z9
theorem hkT : hkS := no_implicit_lambda% (@hkapp _ _ hkK.2 (fun a b c d e f g h i j k l m n o p q r s t u v w x => @epsV Z9.hkP (by with_unfolding_all exact Z9.hkM) (vv (lk [s] d9E) (lk [m] d9C) (lk [r] d9T) (lk [o] d9K) (lk [t] d9A) (lk [d] d9X) (lk [c] d9S) (lk [n] d9G) (lk [a] d9W) (lk [b] d9P) e9Q (lk [g] d9R) (lk [q] d9V) e9Z (lk [j] d9I) (lk [i] d9L) (lk [e, f, x] d9M) (lk [u, v] d9H) e9O (lk [h, k, l, p, w] d9N))))
end unknown_t_c
theorem unknown_t : unknown_t_c.hkS := @unknown_t_c.hkT
end
section
local macro_rules | `(tactic| walk_at "call builtin:iter") => `(tactic| (k_here; k_dflt (refine li_iter ?_); intro D' h' F' N' l1; (try k_lt l1)))
local macro_rules | `(tactic| walk_at "call builtin:next") => `(tactic| (k_here; k_dflt (refine li_next ?_); intro h' F' N'; (try dsimp only at N')))
local macro_rules | `(tactic| walk_at "getMethod ref") => `(tactic| (k_here; k_dflt (refine meth_slot ?_; k_whole)))
-- Sm
section
section
variable {M : Model} {A : Around} {E : Value → Shared → Prop} {s : Shared} {K : Frag} {Q : Value → Shared → Prop} {p q : Int} {t u : Tok}
theorem is_int (X : K.In s.heap) (e : nsIn K cStatics sharingNotToldKey = some none) (ht : t ≠ 0) (hu : u ≠ 0) (hne : t = u → p = q) (h : ∀ b : Bool, (b = true → p = q) → Q (.bool b) s) :
    wpAny M A (compareOp .Is (.int p t) (.int q u)) Q E s := by
  show wpAny M A (do return .bool (← isSame (.int p t) (.int q u))) Q E s
  refine wpAny_bind ?_
  have h0 : (t == 0 || u == 0) = false := by simp [ht, hu]
  have nt : ∀ (v : Tok) (R : Bool → Shared → Prop) , R false s → wpAny M A (sharingNotTold v) R E s := fun v R hr => by
    unfold sharingNotTold
    refine wpAny_bind ((looks_nsIn X e).here ?_)
    exact wpAny_pure hr
  show wpAny M A (if (p == q && smallInt p) = true then isSame.cachedInt t u else isSame.created (p == q) t u) _ E s
  split
  · rename_i hs
    have hpq : p = q := by simp at hs; exact hs.1
    unfold isSame.cachedInt
    rw [h0, if_neg Bool.false_ne_true]
    exact wpAny_bind (wpAny_rule (wpAny_pure (wpAny_pure (h true fun _ => hpq))))
  · show wpAny M A (isSame.created (p == q) t u) _ E s
    unfold isSame.created
    refine wpAny_ite ?_
    split
    · rename_i h; rw [h0] at h; exact absurd h Bool.false_ne_true
    refine wpAny_ite ?_
    split
    · rename_i htu
      exact wpAny_pure (wpAny_pure (h true fun _ => hne (by simpa using htu)))
    refine wpAny_ite ?_
    split
    · exact wpAny_pure (wpAny_pure (h false fun x => by cases x))
    rename_i hpq
    have hpq' : p = q := by simpa using hpq
    refine wpAny_bind (nt t _ ?_)
    rw [if_neg Bool.false_ne_true]
    refine wpAny_bind (nt u _ ?_)
    rw [if_neg Bool.false_ne_true]
    exact wpAny_bind (wpAny_rule (wpAny_bind (wpAny_askSetting (wpAny_pure (wpAny_pure (h _ fun _ => hpq'))))))
end
local macro_rules | `(tactic| walk_at "compareOp Is int int") => `(tactic| (k_dflt (refine' is_int ?X ?e ?t ?u ?n ?_; (case X => exact Frag.In.keeps (by assumption) (Fr.keep (by assumption))); (case e => k_is); (case t => assumption); (case u => assumption); (case n => assumption); intro b9 hb9; cases b9)))
theorem same_t (w p loose mean mg mb) (s : Shared) (x y : Int) (t u : Tok) (ht : t ≠ 0) (hu : u ≠ 0) (hne : t = u → x = y) :
    Pure w p loose mean mg mb 83 [.int x t, .int y u] [] s 2 20 (fun h v => v = .bool (decide (x = y))) := by
  unfold Pure PureC PG
  k_fill
  intro dp un gd cn cs a ccd cl outer A₀ base h₀ L m Q E B F X T hk hd hu' hret
  refine wpAny_call ?_
  k_dflt (refine call_frozen ?_; k_whole; intro _ _ _ _ _ _ _; (try dsimp only); (try k_fold))
  walk_at "go"
  all_goals (show Q _ _; (rename Fr _ _ _ _ => F6); refine hret _ _ _ F6.keep ?_)
  all_goals (congr 1; symm; first | (refine decide_eq_true ?_; first | assumption | (rename (_ → x = y) => g; exact g rfl)) | exact decide_eq_false (by assumption))
theorem same_call {w : World} {p : Program} {loose : List Str} {mean : ExcName → Option Value} {mg mb : Str → Option Value} {s : Shared} {x y : Int} {t u : Tok} {news : List (Addr × Obj)}
    {dp un : Nat} {gd : Option (List Code)} {cn : Str} {cs : Scope} {a : Addr} {ccd : Value} {cl : List (Str × Addr)} {outer : List Env} {A₀ : Around} {base h₀ : Heap} {L : Addr} {m : Str → Option Value} {Q E : Value → Shared → Prop}
    (h : ∀ h' tk', Fr h₀ L h' m → News h₀ L h' news → Q (.bool (decide (x = y))) { s with heap := h', toks := tk' })
    (B : Below A₀ base outer h₀ := by assumption) (F : Fr h₀ L s.heap m := by k_asm) (N : News h₀ L s.heap news := by k_asm) (X : (hd.heap_39 w.params).In h₀ := by k_asm) (T : Top p loose mean mg mb h₀ := by k_asm) (ht : t ≠ 0 := by assumption) (hu : u ≠ 0 := by assumption) (hne : t = u → x = y := by first | assumption | exact fun _ => rfl) (hk : cs.kind = .function := by rfl) (hd : dp + 2 < recursionLimit := by ktr_room) (hun : un + 20 < cLine := by ktr_units) :
    wpAny (model PG w) (ktrTop dp un gd cn cs L a ccd cl outer) (call (.ref 83) [.int x t, .int y u]) Q E s := by
  have ct := same_t w p loose mean mg mb s x y t u ht hu hne
  unfold Pure PureC PG at ct
  refine ct dp un gd cn cs a ccd cl outer A₀ base h₀ L m Q E B F X T hk hd hun fun v h' tk' st po => ?_
  subst po
  exact h h' tk' (F.keeps st) (N.grown st)
end
section
local macro_rules | `(tactic| walk_at "call ref") => `(tactic| (k_dflt (refine same_call ?_); intro h' tk' F' N'))
-- GB1
namespace gb_first_c
noncomputable def hkS : Prop := ∀ (w p loose mean mg mb) (s : Shared) (gb d ig dI tp li D T : Addr) (t0 t1 t2 tv tq : Tok) (os : List Value) (e : Nat) (v q : Int) (h0 : os[0]? = some (.ref T)) (o1 : @LT.lt Nat _ T D) (o2 : @LT.lt Nat _ D dI) (o3 : @LT.lt Nat _ dI ig) (o4 : @LT.lt Nat _ ig tp) (o5 : @LT.lt Nat _ tp d) (o6 : @LT.lt Nat _ d gb) (o7 : @LT.lt Nat _ gb li), NextS w p loose mean mg mb gb s [(gb, gbObj d ig li false .none false .none false .none 0 t1 0 t2), (d, dictOf [] 0), (ig, igObj dI tp), (dI, dictOf [] 0), (tp, tupO [.int 0 t0]), (li, liObj D 0), (D, W.listOf os.toArray e), (T, tupO [.int v tv, .int q tq])] 6 80
      (GItem gb d ig dI tp li D T t0 os e v q tv tq 1 1) (fun _ _ => False)
noncomputable def hkK : Σ' P : World → Program → tS → tX → tM → tM → Shared → Addr → Addr → Addr → Addr → Addr → Addr → Addr → Addr → Tok → Tok → Tok → Tok → Tok → tV → Nat → Int → Int → Nat → Nat → tC → Str → Scope → Addr → Value → tA → tE → Around → Heap → Heap → Addr → tM → (Option Value → Shared → Prop) → tQ → Prop, (∀ a b c d e f g h i j k l m n o p q r s t u v w x y z xa xb xc xd xe xf xg xh xi xj xk xl xm xn, P a b c d e f g h i j k l m n o p q r s t u v w x y z xa xb xc xd xe xf xg xh xi xj xk xl xm xn) → hkS := ⟨_, fun hk9 => by intro w p loose mean mg mb s gb d ig dI tp li D T t0 t1 t2 tv tq os e v q h0 o1 o2 o3 o4 o5 o6 o7; unfold NextS NextSC; intro dp un gd cn cs a ccd cl outer A₀ base h₀ L m Q E; revert o7; revert o6; revert o5; revert o4; revert o3; revert o2; revert o1; revert h0; apply (hk9 w p loose mean mg mb s gb d ig dI tp li D T t0 t1 t2 tv tq os e v q dp un gd cn cs a ccd cl outer A₀ base h₀ L m Q E)⟩
namespace Z9
noncomputable def hkP (y : VV) := hkK.1 (y.W 0) (y.P 0) (y.S 0) (y.X 0) (y.M 0) (y.M 1) (y.R 0) (y.N 0) (y.N 1) (y.N 2) (y.N 3) (y.N 4) (y.N 5) (y.N 6) (y.N 7) (y.N 8) (y.N 9) (y.N 10) (y.N 11) (y.N 12) (y.L 0) (y.N 13) (y.Z 0) (y.Z 1) (y.N 14) (y.N 15) (y.C 0) (y.G 0) (y.K 0) (y.N 16) (y.V 0) (y.T 0) (y.E 0) (y.A 0) (y.H 0) (y.H 1) (y.N 17) (y.M 2) (y.d 0) (y.Q 0)
@[irreducible] noncomputable def hkG1 := epsV0 hkP
@[irreducible] def w : World := hkG1.W 0
@[irreducible] def s : Shared := hkG1.R 0
@[irreducible] def gb : Addr := hkG1.N 0
@[irreducible] def d : Addr := hkG1.N 1
@[irreducible] def ig : Addr := hkG1.N 2
@[irreducible] def dI : Addr := hkG1.N 3
@[irreducible] def tp : Addr := hkG1.N 4
@[irreducible] def li : Addr := hkG1.N 5
@[irreducible] def D : Addr := hkG1.N 6
@[irreducible] def T : Addr := hkG1.N 7
@[irreducible] def t1 : Tok := hkG1.N 9
@[irreducible] def t2 : Tok := hkG1.N 10
@[irreducible] def m : tM := hkG1.M 2
noncomputable def hkK1 : Σ' P0 : Heap → Addr → Nat → Heap → Addr → Heap → Addr → Heap → Nat → Prop, (∀ a b c d e f g h i, P0 a b c d e f g h i) → hkP hkG1 := ⟨_, fun hcA => by
  with_unfolding_all show hkK.1 w (hkG1.P 0) (hkG1.S 0) (hkG1.X 0) (hkG1.M 0) (hkG1.M 1) s gb d ig dI tp li D T (hkG1.N 8) t1 t2 (hkG1.N 11) (hkG1.N 12) (hkG1.L 0) (hkG1.N 13) (hkG1.Z 0) (hkG1.Z 1) (hkG1.N 14) (hkG1.N 15) (hkG1.C 0) (hkG1.G 0) (hkG1.K 0) (hkG1.N 16) (hkG1.V 0) (hkG1.T 0) (hkG1.E 0) (hkG1.A 0) (hkG1.H 0) (hkG1.H 1) (hkG1.N 17) m (hkG1.d 0) (hkG1.Q 0)
  intro h0 o1 o2 o3 o4 o5 o6 o7
  have c02 : @LT.lt Nat _ T dI := Nat.lt_trans o1 o2
  have c13 : @LT.lt Nat _ D ig := Nat.lt_trans o2 o3
  have c24 : @LT.lt Nat _ dI tp := Nat.lt_trans o3 o4
  have c35 : @LT.lt Nat _ ig d := Nat.lt_trans o4 o5
  have c46 : @LT.lt Nat _ tp gb := Nat.lt_trans o5 o6
  have c57 : @LT.lt Nat _ d li := Nat.lt_trans o6 o7
  have c03 : @LT.lt Nat _ T ig := Nat.lt_trans c02 o3
  have c14 : @LT.lt Nat _ D tp := Nat.lt_trans c13 o4
  have c25 : @LT.lt Nat _ dI d := Nat.lt_trans c24 o5
  have c36 : @LT.lt Nat _ ig gb := Nat.lt_trans c35 o6
  have c47 : @LT.lt Nat _ tp li := Nat.lt_trans c46 o7
  have c04 : @LT.lt Nat _ T tp := Nat.lt_trans c03 o4
  have c15 : @LT.lt Nat _ D d := Nat.lt_trans c14 o5
  have c26 : @LT.lt Nat _ dI gb := Nat.lt_trans c25 o6
  have c37 : @LT.lt Nat _ ig li := Nat.lt_trans c36 o7
  have c05 : @LT.lt Nat _ T d := Nat.lt_trans c04 o5
  have c16 : @LT.lt Nat _ D gb := Nat.lt_trans c15 o6
  have c27 : @LT.lt Nat _ dI li := Nat.lt_trans c26 o7
  have c06 : @LT.lt Nat _ T gb := Nat.lt_trans c05 o6
  have c17 : @LT.lt Nat _ D li := Nat.lt_trans c16 o7
  have c07 : @LT.lt Nat _ T li := Nat.lt_trans c06 o7
  unfold PG
  k_fill
  intro B F N X T' D' hk hd hu hret hstop
  have X0 : (Mine.hd.heap_39 w.params).In (hkG1.H 1) := X.keeps B.stays
  have I : InstAt s.heap gb (gbObj d ig li false .none false .none false .none 0 t1 0 t2) 124 (some (dictOf [] 0)) := InstAt.of_news N (List.Mem.head _) (List.Mem.tail _ (List.Mem.head _))
  refine next_own F X0 I (f := 120) (by k_is) (by k_is) ?_
  refine wpAny_call ?_
  k_dflt (refine call_turn ?_; k_whole; intro _ _ _ _ _ _ _ _ _ _; (try dsimp only); (try k_fold))
  clear I N F
  (with_reducible rename Fr _ _ _ _ => F9)
  (rename _ = hideAll _ _ => eG)
  (try rw [← eG] at hret)
  (try rw [← eG] at hstop)
  clear eG
  iterate 75 (walk_at "step")
  (try dsimp only)
  rename_i ga1 La2 _ aa3 aa4 aa5 aa6 _ _ tka7 _ _ _ _ _ ga8 La9 _ FGa10 Ba11 Xa12 Ta13 _ _ _ ga14 _ _ Ba15 Xa16 Ta17 _ _ Da18 _ _ _ la19 Tca20 kXa21 _ _ ha22 Fa23 Na24
  revert Na24; revert Fa23; revert kXa21; revert Tca20; revert la19; revert Ta17; revert Xa16; revert Ba15; revert Ta13; revert Xa12; revert Ba11; revert FGa10; revert aa6; revert aa5; revert aa4; revert aa3; revert hret; revert hstop; revert X0; revert hu; revert hd; revert hk; revert D'; revert T'; revert X; revert B; revert c07; revert c17; revert c06; revert c27; revert c16; revert c05; revert c37; revert c26; revert c15; revert c04; revert c47; revert c36; revert c25; revert c14; revert c03; revert c57; revert c46; revert c35; revert c24; revert c13; revert c02; revert o7; revert o6; revert o5; revert o4; revert o3; revert o2; revert o1; revert h0; apply (hcA ga1 La2 tka7 ga8 La9 ga14 Da18 ha22 tk)⟩
namespace A
noncomputable def hkP (y : VV) := hkK1.1 (y.H 0) (y.N 0) (y.N 1) (y.H 1) (y.N 2) (y.H 2) (y.N 3) (y.H 3) (y.N 4)
@[irreducible] noncomputable def hkG2 := epsV0 hkP
noncomputable def hkK2 : Σ' P0 : Heap → Heap → Nat → Prop, (∀ a b c, P0 a b c) → hkP hkG2 := ⟨_, fun hcB => by
  with_unfolding_all show hkK1.1 (hkG2.H 0) (hkG2.N 0) (hkG2.N 1) (hkG2.H 1) (hkG2.N 2) (hkG2.H 2) (hkG2.N 3) (hkG2.H 3) (hkG2.N 4)
  intro h0 o1 o2 o3 o4 o5 o6 o7 c02 c13 c24 c35 c46 c57 c03 c14 c25 c36 c47 c04 c15 c26 c37 c05 c16 c27 c06 c17 c07 B X T' D' hk hd hu X0 hstop hret aa3 aa4 aa5 aa6 FGa10 Ba11 Xa12 Ta13 Ba15 Xa16 Ta17 la19 Tca20 kXa21 Fa23 Na24
  iterate 75 (walk_at "step")
  (try dsimp only)
  rename_i gb1 _ _ Bb2 Xb3 Tb4 _ _ _ _ _ _ Tcb5 kXb6 _ _ hb7 Fb8 Nb9
  revert Nb9; revert Fb8; revert kXb6; revert Tcb5; revert Tb4; revert Xb3; revert Bb2; revert kXa21; revert Tca20; revert la19; revert Ta17; revert Xa16; revert Ba15; revert Ta13; revert Xa12; revert Ba11; revert FGa10; revert aa6; revert aa5; revert aa4; revert aa3; revert hret; revert hstop; revert X0; revert hu; revert hd; revert hk; revert D'; revert T'; revert X; revert B; revert c07; revert c17; revert c06; revert c27; revert c16; revert c05; revert c37; revert c26; revert c15; revert c04; revert c47; revert c36; revert c25; revert c14; revert c03; revert c57; revert c46; revert c35; revert c24; revert c13; revert c02; revert o7; revert o6; revert o5; revert o4; revert o3; revert o2; revert o1; revert h0; apply (hcB gb1 hb7 tk)⟩
namespace B
noncomputable def hkP (y : VV) := hkK2.1 (y.H 0) (y.H 1) (y.N 0)
@[irreducible] noncomputable def hkG3 := epsV0 hkP
noncomputable def hkK3 : Σ' P0 : Addr → Addr → Heap → Addr → Heap → Nat → Prop, (∀ a b c d e f, P0 a b c d e f) → hkP hkG3 := ⟨_, fun hcC => by
  with_unfolding_all show hkK2.1 (hkG3.H 0) (hkG3.H 1) (hkG3.N 0)
  intro h0 o1 o2 o3 o4 o5 o6 o7 c02 c13 c24 c35 c46 c57 c03 c14 c25 c36 c47 c04 c15 c26 c37 c05 c16 c27 c06 c17 c07 B X T' D' hk hd hu X0 hstop hret aa3 aa4 aa5 aa6 FGa10 Ba11 Xa12 Ta13 Ba15 Xa16 Ta17 la19 Tca20 kXa21 Bb2 Xb3 Tb4 Tcb5 kXb6 Fb8 Nb9
  iterate 75 (walk_at "step")
  (try dsimp only)
  rename_i Tcc1 kXc2 _ _ _ _ _ _ xc3 dc4 _ _ _ lc5 lc6 gc7 Lc8 hc9 FGc10 Fc11 Nc12 Bc13 Xc14 Tc15
  revert Tc15; revert Xc14; revert Bc13; revert Nc12; revert Fc11; revert FGc10; revert lc6; revert lc5; revert kXc2; revert Tcc1; revert kXb6; revert Tcb5; revert Tb4; revert Xb3; revert Bb2; revert kXa21; revert Tca20; revert la19; revert Ta17; revert Xa16; revert Ba15; revert Ta13; revert Xa12; revert Ba11; revert aa6; revert aa5; revert aa4; revert aa3; revert hret; revert hstop; revert X0; revert hu; revert hd; revert hk; revert D'; revert T'; revert X; revert B; revert c07; revert c17; revert c06; revert c27; revert c16; revert c05; revert c37; revert c26; revert c15; revert c04; revert c47; revert c36; revert c25; revert c14; revert c03; revert c57; revert c46; revert c35; revert c24; revert c13; revert c02; revert o7; revert o6; revert o5; revert o4; revert o3; revert o2; revert o1; revert h0; apply (hcC xc3 dc4 gc7 Lc8 hc9 tk)⟩
namespace C
noncomputable def hkP (y : VV) := hkK3.1 (y.N 0) (y.N 1) (y.H 0) (y.N 2) (y.H 1) (y.N 3)
@[irreducible] noncomputable def hkG4 := epsV0 hkP
theorem hkM : hkP hkG4 := (by exact @wI _ _ : @wT (hkP hkG4) (by
  with_unfolding_all show hkK3.1 (hkG4.N 0) (hkG4.N 1) (hkG4.H 0) (hkG4.N 2) (hkG4.H 1) (hkG4.N 3)
  intro h0 o1 o2 o3 o4 o5 o6 o7 c02 c13 c24 c35 c46 c57 c03 c14 c25 c36 c47 c04 c15 c26 c37 c05 c16 c27 c06 c17 c07 B X T' D' hk hd hu X0 hstop hret aa3 aa4 aa5 aa6 Ba11 Xa12 Ta13 Ba15 Xa16 Ta17 la19 Tca20 kXa21 Bb2 Xb3 Tb4 Tcb5 kXb6 Tcc1 kXc2 lc5 lc6 FGc10 Fc11 Nc12 Bc13 Xc14 Tc15
  walk_at "go"
  · show (hkG1.d 0) _ _
    (rename Fr _ _ _ _ => F6); (rename News _ _ _ _ => N6)
    refine' hret _ _ _ _ KtsTurn.refl F6.keep ⟨_, _, _, _, _, _, rfl, ?h1, ?h2, ?h3, ?h4⟩
    case h1 => (repeat (first | exact At.nil | refine At.cons (News.get (by assumption) (by k_mem)) ?_))
    case h2 => (repeat (first | exact List.forall_mem_nil _ | refine List.forall_mem_cons.mpr ⟨News.fresh (by assumption) (by k_mem), ?_⟩))
    case h3 => first | k_ne | omega
    case h4 => first | k_ne | (refine Nat.lt_trans (m := ?m9) ?a9 ?b9; (case b9 => with_reducible assumption); (case a9 => k_ne)) | omega
  ))
end C
theorem hkM : hkP hkG3 := no_implicit_lambda% (@hkapp _ _ hkK3.2 (fun a b c d e f => @epsV C.hkP (by with_unfolding_all exact C.hkM) (vv e9E e9C e9T e9K e9A e9X e9S e9G e9W e9P e9Q e9R e9V e9Z e9I e9L e9M (lk [c, e] d9H) e9O (lk [a, b, d, f] d9N))))
end B
theorem hkM : hkP hkG2 := no_implicit_lambda% (@hkapp _ _ hkK2.2 (fun a b c => @epsV B.hkP (by with_unfolding_all exact B.hkM) (vv e9E e9C e9T e9K e9A e9X e9S e9G e9W e9P e9Q e9R e9V e9Z e9I e9L e9M (lk [a, b] d9H) e9O (lk [c] d9N))))
end A
theorem hkM : hkP hkG1 := no_implicit_lambda% (@hkapp _ _ hkK1.2 (fun a b c d e f g h i => @epsV A.hkP (by with_unfolding_all exact A.hkM) (vv e9E e9C e9T e9K e9A e9X e9S e9G e9W e9P e9Q e9R e9V e9Z e9I e9L e9M (lk [a, d, f, h] d9H) e9O (lk [b, c, e, g, i] d9N))))
end Z9
theorem hkT : hkS := no_implicit_lambda% (@hkapp _ _ hkK.2 (fun a b c d e f g h i j k l m n o p q r s t u v w x y z xa xb xc xd xe xf xg xh xi xj xk xl xm xn => @epsV Z9.hkP (by with_unfolding_all exact Z9.hkM) (⟨e9a, e9b, e9c, lk [xm] d9d, e9e, e9f, e9g, e9h, e9v, e9w, e9x, e9y, e9i, e9j, e9k, e9l, e9m, e9n, e9o, e9p, e9q, e9r, e9s, e9t, e9u, lk [xg] d9E, lk [xa] d9C, lk [xf] d9T, lk [xc] d9K, lk [xh] d9A, lk [d] d9X, lk [c] d9S, lk [xb] d9G, lk [a] d9W, lk [b] d9P, lk [xn] d9Q, lk [g] d9R, lk [xe] d9V, lk [w, x] d9Z, e9I, lk [u] d9L, lk [e, f, xl] d9M, lk [xi, xj] d9H, e9O, lk [h, i, j, k, l, m, n, o, p, q, r, s, t, v, y, z, xd, xk] d9N⟩)))
end gb_first_c
theorem gb_first : gb_first_c.hkS := @gb_first_c.hkT
-- GB2
namespace gb_next_c
noncomputable def hkS : Prop := ∀ (w p loose mean mg mb) (s : Shared) (gb d ig dI tp li D T : Addr) (t0 t1 t2 tu tv tq : Tok) (os : List Value) (e j : Nat) (u v q cg sr : Int) (hne : u ≠ v) (hs1 : 0 ≤ sr) (hs2 : sr ≤ 100) (o1 : @LT.lt Nat _ T D) (htu : tu ≠ 0) (htv : tv ≠ 0) (htn : tu = tv → u = v) (o2 : @LT.lt Nat _ D dI) (o3 : @LT.lt Nat _ dI ig) (o4 : @LT.lt Nat _ ig tp) (o5 : @LT.lt Nat _ tp d) (o6 : @LT.lt Nat _ d gb) (o7 : @LT.lt Nat _ gb li), NextS w p loose mean mg mb gb s [(gb, gbObj d ig li true (.int u tu) true (.int v tv) true (.ref T) cg t1 sr t2), (d, dictOf [] 0), (ig, igObj dI tp), (dI, dictOf [] 0), (tp, tupO [.int 0 t0]), (li, liObj D j), (D, W.listOf os.toArray e), (T, tupO [.int v tv, .int q tq])] 6 80
      (GItem gb d ig dI tp li D T t0 os e v q tv tq j (sr + 1)) (fun _ _ => False)
noncomputable def hkK : Σ' P : World → Program → tS → tX → tM → tM → Shared → Addr → Addr → Addr → Addr → Addr → Addr → Addr → Addr → Tok → Tok → Tok → Tok → Tok → Tok → tV → Nat → Nat → Int → Int → Int → Int → Nat → Nat → tC → Str → Scope → Addr → Value → tA → tE → Around → Heap → Heap → Addr → tM → Prop, (∀ a b c d e f g h i j k l m n o p q r s t u v w x y z xa xb xc xd xe xf xg xh xi xj xk xl xm xn xo xp, P a b c d e f g h i j k l m n o p q r s t u v w x y z xa xb xc xd xe xf xg xh xi xj xk xl xm xn xo xp) → hkS := ⟨_, fun hk9 => by intro w p loose mean mg mb s gb d ig dI tp li D T t0 t1 t2 tu tv tq os e j u v q cg sr hne hs1 hs2 o1 htu htv htn o2 o3 o4 o5 o6 o7 dp un gd cn cs a ccd cl outer A₀ base h₀ L m; revert o7; revert o6; revert o5; revert o4; revert o3; revert o2; revert htn; revert htv; revert htu; revert o1; revert hs2; revert hs1; revert hne; revert u; apply (hk9 w p loose mean mg mb s gb d ig dI tp li D T t0 t1 t2 tu tv tq os e j v q cg sr dp un gd cn cs a ccd cl outer A₀ base h₀ L m)⟩
namespace Z9
noncomputable def hkP (y : VV) := hkK.1 (y.W 0) (y.P 0) (y.S 0) (y.X 0) (y.M 0) (y.M 1) (y.R 0) (y.N 0) (y.N 1) (y.N 2) (y.N 3) (y.N 4) (y.N 5) (y.N 6) (y.N 7) (y.N 8) (y.N 9) (y.N 10) (y.N 11) (y.N 12) (y.N 13) (y.L 0) (y.N 14) (y.N 15) (y.Z 0) (y.Z 1) (y.Z 2) (y.Z 3) (y.N 16) (y.N 17) (y.C 0) (y.G 0) (y.K 0) (y.N 18) (y.V 0) (y.T 0) (y.E 0) (y.A 0) (y.H 0) (y.H 1) (y.N 19) (y.M 2)
@[irreducible] noncomputable def hkG1 := epsV0 hkP
@[irreducible] def w : World := hkG1.W 0
@[irreducible] def s : Shared := hkG1.R 0
@[irreducible] def gb : Addr := hkG1.N 0
@[irreducible] def d : Addr := hkG1.N 1
@[irreducible] def ig : Addr := hkG1.N 2
@[irreducible] def dI : Addr := hkG1.N 3
@[irreducible] def tp : Addr := hkG1.N 4
@[irreducible] def li : Addr := hkG1.N 5
@[irreducible] def D : Addr := hkG1.N 6
@[irreducible] def T : Addr := hkG1.N 7
@[irreducible] def tu : Tok := hkG1.N 11
@[irreducible] def m : tM := hkG1.M 2
theorem hkM : hkP hkG1 := (by exact @wI _ _ : @wT (hkP hkG1) (by
  with_unfolding_all show hkK.1 w (hkG1.P 0) (hkG1.S 0) (hkG1.X 0) (hkG1.M 0) (hkG1.M 1) s gb d ig dI tp li D T (hkG1.N 8) (hkG1.N 9) (hkG1.N 10) tu (hkG1.N 12) (hkG1.N 13) (hkG1.L 0) (hkG1.N 14) (hkG1.N 15) (hkG1.Z 0) (hkG1.Z 1) (hkG1.Z 2) (hkG1.Z 3) (hkG1.N 16) (hkG1.N 17) (hkG1.C 0) (hkG1.G 0) (hkG1.K 0) (hkG1.N 18) (hkG1.V 0) (hkG1.T 0) (hkG1.E 0) (hkG1.A 0) (hkG1.H 0) (hkG1.H 1) (hkG1.N 19) m
  intro u hne hs1 hs2 o1 htu htv htn o2 o3 o4 o5 o6 o7
  have c02 : @LT.lt Nat _ T dI := Nat.lt_trans o1 o2
  have c13 : @LT.lt Nat _ D ig := Nat.lt_trans o2 o3
  have c24 : @LT.lt Nat _ dI tp := Nat.lt_trans o3 o4
  have c35 : @LT.lt Nat _ ig d := Nat.lt_trans o4 o5
  have c46 : @LT.lt Nat _ tp gb := Nat.lt_trans o5 o6
  have c57 : @LT.lt Nat _ d li := Nat.lt_trans o6 o7
  have c03 : @LT.lt Nat _ T ig := Nat.lt_trans c02 o3
  have c14 : @LT.lt Nat _ D tp := Nat.lt_trans c13 o4
  have c25 : @LT.lt Nat _ dI d := Nat.lt_trans c24 o5
  have c36 : @LT.lt Nat _ ig gb := Nat.lt_trans c35 o6
  have c47 : @LT.lt Nat _ tp li := Nat.lt_trans c46 o7
  have c04 : @LT.lt Nat _ T tp := Nat.lt_trans c03 o4
  have c15 : @LT.lt Nat _ D d := Nat.lt_trans c14 o5
  have c26 : @LT.lt Nat _ dI gb := Nat.lt_trans c25 o6
  have c37 : @LT.lt Nat _ ig li := Nat.lt_trans c36 o7
  have c05 : @LT.lt Nat _ T d := Nat.lt_trans c04 o5
  have c16 : @LT.lt Nat _ D gb := Nat.lt_trans c15 o6
  have c27 : @LT.lt Nat _ dI li := Nat.lt_trans c26 o7
  have c06 : @LT.lt Nat _ T gb := Nat.lt_trans c05 o6
  have c17 : @LT.lt Nat _ D li := Nat.lt_trans c16 o7
  have c07 : @LT.lt Nat _ T li := Nat.lt_trans c06 o7
  unfold NextSC PG
  k_fill
  intro Q E B F N X T' D' hk hd hu hret hstop
  have X0 : (Mine.hd.heap_39 w.params).In (hkG1.H 1) := X.keeps B.stays
  have I : InstAt s.heap gb (gbObj d ig li true (.int u tu) true (.int (hkG1.Z 0) (hkG1.N 12)) true (.ref T) (hkG1.Z 2) (hkG1.N 9) (hkG1.Z 3) (hkG1.N 10)) 124 (some (dictOf [] 0)) := InstAt.of_news N (List.Mem.head _) (List.Mem.tail _ (List.Mem.head _))
  refine next_own F X0 I (f := 120) (by k_is) (by k_is) ?_
  refine wpAny_call ?_
  k_dflt (refine call_turn ?_; k_whole; intro _ _ _ _ _ _ _ _ _ _; (try dsimp only); (try k_fold))
  clear I N F
  (with_reducible rename Fr _ _ _ _ => F9)
  (rename _ = hideAll _ _ => eG)
  (try rw [← eG] at hret)
  (try rw [← eG] at hstop)
  clear eG
  walk_at "go"
  · show Q _ _
    (rename Fr _ _ _ _ => F6); (rename News _ _ _ _ => N6)
    refine' hret _ _ _ _ KtsTurn.refl F6.keep ⟨_, _, _, _, _, _, rfl, ?h1, ?h2, ?h3, ?h4⟩
    case h1 => (repeat (first | exact At.nil | refine At.cons (News.get (by assumption) (by k_mem)) ?_))
    case h2 => (repeat (first | exact List.forall_mem_nil _ | refine List.forall_mem_cons.mpr ⟨News.fresh (by assumption) (by k_mem), ?_⟩))
    case h3 => first | k_ne | omega
    case h4 => first | k_ne | (refine Nat.lt_trans (m := ?m9) ?a9 ?b9; (case b9 => with_reducible assumption); (case a9 => k_ne)) | omega
  ))
end Z9
theorem hkT : hkS := no_implicit_lambda% (@hkapp _ _ hkK.2 (fun a b c d e f g h i j k l m n o p q r s t u v w x y z xa xb xc xd xe xf xg xh xi xj xk xl xm xn xo xp => @epsV Z9.hkP (by with_unfolding_all exact Z9.hkM) (vv (lk [xk] d9E) (lk [xe] d9C) (lk [xj] d9T) (lk [xg] d9K) (lk [xl] d9A) (lk [d] d9X) (lk [c] d9S) (lk [xf] d9G) (lk [a] d9W) (lk [b] d9P) e9Q (lk [g] d9R) (lk [xi] d9V) (lk [y, z, xa, xb] d9Z) e9I (lk [v] d9L) (lk [e, f, xp] d9M) (lk [xm, xn] d9H) e9O (lk [h, i, j, k, l, m, n, o, p, q, r, s, t, u, w, x, xc, xd, xh, xo] d9N))))
end gb_next_c
theorem gb_next : gb_next_c.hkS := @gb_next_c.hkT
-- GR1
namespace gr_held_c
noncomputable def hkS : Prop := ∀ (w p loose mean mg mb) (s : Shared) (gr dG gb d ig dI tp li D T : Addr) (t0 t1 t2 tn tv : Tok) (os : List Value) (e j : Nat) (v sr : Int) (htv : tv ≠ 0) (o2 : @LT.lt Nat _ D dI) (o3 : @LT.lt Nat _ dI ig) (o4 : @LT.lt Nat _ ig tp) (o5 : @LT.lt Nat _ tp d) (o6 : @LT.lt Nat _ d gb) (o7 : @LT.lt Nat _ gb li) (o8 : @LT.lt Nat _ li dG) (o9 : @LT.lt Nat _ dG gr), NextS w p loose mean mg mb gr s [(gr, grObj dG gb (.int v tv) sr tn), (dG, dictOf [] 0), (gb, gbObj d ig li true (.int v tv) true (.int v tv) true (.ref T) sr t1 sr t2), (d, dictOf [] 0), (ig, igObj dI tp), (dI, dictOf [] 0), (tp, tupO [.int 0 t0]), (li, liObj D j), (D, W.listOf os.toArray e)] 6 80
      (fun g' h' r => r = .ref T ∧ At h' ((gr, grObj dG gb (.int v tv) sr tn) :: (dG, dictOf [] 0) :: gLed gb d ig dI tp li D t0 os e (gbObj d ig li true (.int v tv) false .none false .none sr t1 sr t2) (liObj D j))) (fun _ _ => False)
noncomputable def hkK : Σ' P : World → Program → tS → tX → tM → tM → Shared → Addr → Addr → Addr → Addr → Addr → Addr → Addr → Addr → Addr → Addr → Tok → Tok → Tok → Tok → Tok → tV → Nat → Nat → Int → Int → Nat → Nat → tC → Str → Scope → Addr → Value → tA → tE → Around → Heap → Heap → Addr → tM → Prop, (∀ a b c d e f g h i j k l m n o p q r s t u v w x y z xa xb xc xd xe xf xg xh xi xj xk xl xm xn xo, P a b c d e f g h i j k l m n o p q r s t u v w x y z xa xb xc xd xe xf xg xh xi xj xk xl xm xn xo) → hkS := ⟨_, fun hk9 => by intro w p loose mean mg mb s gr dG gb d ig dI tp li D T t0 t1 t2 tn tv os e j v sr htv o2 o3 o4 o5 o6 o7 o8 o9 dp un gd cn cs a ccd cl outer A₀ base h₀ L m; revert o9; revert o8; revert o7; revert o6; revert o5; revert o4; revert o3; revert o2; revert htv; apply (hk9 w p loose mean mg mb s gr dG gb d ig dI tp li D T t0 t1 t2 tn tv os e j v sr dp un gd cn cs a ccd cl outer A₀ base h₀ L m)⟩
namespace Z9
noncomputable def hkP (y : VV) := hkK.1 (y.W 0) (y.P 0) (y.S 0) (y.X 0) (y.M 0) (y.M 1) (y.R 0) (y.N 0) (y.N 1) (y.N 2) (y.N 3) (y.N 4) (y.N 5) (y.N 6) (y.N 7) (y.N 8) (y.N 9) (y.N 10) (y.N 11) (y.N 12) (y.N 13) (y.N 14) (y.L 0) (y.N 15) (y.N 16) (y.Z 0) (y.Z 1) (y.N 17) (y.N 18) (y.C 0) (y.G 0) (y.K 0) (y.N 19) (y.V 0) (y.T 0) (y.E 0) (y.A 0) (y.H 0) (y.H 1) (y.N 20) (y.M 2)
@[irreducible] noncomputable def hkG1 := epsV0 hkP
@[irreducible] def w : World := hkG1.W 0
@[irreducible] def s : Shared := hkG1.R 0
@[irreducible] def gr : Addr := hkG1.N 0
@[irreducible] def dG : Addr := hkG1.N 1
@[irreducible] def gb : Addr := hkG1.N 2
@[irreducible] def d : Addr := hkG1.N 3
@[irreducible] def ig : Addr := hkG1.N 4
@[irreducible] def dI : Addr := hkG1.N 5
@[irreducible] def tp : Addr := hkG1.N 6
@[irreducible] def li : Addr := hkG1.N 7
@[irreducible] def D : Addr := hkG1.N 8
@[irreducible] def tv : Tok := hkG1.N 14
@[irreducible] def v : Int := hkG1.Z 0
theorem hkM : hkP hkG1 := (by exact @wI _ _ : @wT (hkP hkG1) (by
  with_unfolding_all show hkK.1 w (hkG1.P 0) (hkG1.S 0) (hkG1.X 0) (hkG1.M 0) (hkG1.M 1) s gr dG gb d ig dI tp li D (hkG1.N 9) (hkG1.N 10) (hkG1.N 11) (hkG1.N 12) (hkG1.N 13) tv (hkG1.L 0) (hkG1.N 15) (hkG1.N 16) v (hkG1.Z 1) (hkG1.N 17) (hkG1.N 18) (hkG1.C 0) (hkG1.G 0) (hkG1.K 0) (hkG1.N 19) (hkG1.V 0) (hkG1.T 0) (hkG1.E 0) (hkG1.A 0) (hkG1.H 0) (hkG1.H 1) (hkG1.N 20) (hkG1.M 2)
  intro htv o2 o3 o4 o5 o6 o7 o8 o9
  have c02 : @LT.lt Nat _ D ig := Nat.lt_trans o2 o3
  have c13 : @LT.lt Nat _ dI tp := Nat.lt_trans o3 o4
  have c24 : @LT.lt Nat _ ig d := Nat.lt_trans o4 o5
  have c35 : @LT.lt Nat _ tp gb := Nat.lt_trans o5 o6
  have c46 : @LT.lt Nat _ d li := Nat.lt_trans o6 o7
  have c57 : @LT.lt Nat _ gb dG := Nat.lt_trans o7 o8
  have c68 : @LT.lt Nat _ li gr := Nat.lt_trans o8 o9
  have c03 : @LT.lt Nat _ D tp := Nat.lt_trans c02 o4
  have c14 : @LT.lt Nat _ dI d := Nat.lt_trans c13 o5
  have c25 : @LT.lt Nat _ ig gb := Nat.lt_trans c24 o6
  have c36 : @LT.lt Nat _ tp li := Nat.lt_trans c35 o7
  have c47 : @LT.lt Nat _ d dG := Nat.lt_trans c46 o8
  have c58 : @LT.lt Nat _ gb gr := Nat.lt_trans c57 o9
  have c04 : @LT.lt Nat _ D d := Nat.lt_trans c03 o5
  have c15 : @LT.lt Nat _ dI gb := Nat.lt_trans c14 o6
  have c26 : @LT.lt Nat _ ig li := Nat.lt_trans c25 o7
  have c37 : @LT.lt Nat _ tp dG := Nat.lt_trans c36 o8
  have c48 : @LT.lt Nat _ d gr := Nat.lt_trans c47 o9
  have c05 : @LT.lt Nat _ D gb := Nat.lt_trans c04 o6
  have c16 : @LT.lt Nat _ dI li := Nat.lt_trans c15 o7
  have c27 : @LT.lt Nat _ ig dG := Nat.lt_trans c26 o8
  have c38 : @LT.lt Nat _ tp gr := Nat.lt_trans c37 o9
  have c06 : @LT.lt Nat _ D li := Nat.lt_trans c05 o7
  have c17 : @LT.lt Nat _ dI dG := Nat.lt_trans c16 o8
  have c28 : @LT.lt Nat _ ig gr := Nat.lt_trans c27 o9
  have c07 : @LT.lt Nat _ D dG := Nat.lt_trans c06 o8
  have c18 : @LT.lt Nat _ dI gr := Nat.lt_trans c17 o9
  have c08 : @LT.lt Nat _ D gr := Nat.lt_trans c07 o9
  unfold NextSC PG
  k_fill
  intro Q E B F N X T' D' hk hd hu hret hstop
  have X0 : (Mine.hd.heap_39 w.params).In (hkG1.H 1) := X.keeps B.stays
  have I : InstAt s.heap gr (grObj dG gb (.int v tv) (hkG1.Z 1) (hkG1.N 13)) 169 (some (dictOf [] 0)) := InstAt.of_news N (List.Mem.head _) (List.Mem.tail _ (List.Mem.head _))
  refine next_own F X0 I (f := 165) (by k_is) (by k_is) ?_
  refine wpAny_call ?_
  k_dflt (refine call_turn ?_; k_whole; intro _ _ _ _ _ _ _ _ _ _; (try dsimp only); (try k_fold))
  clear I N F
  (with_reducible rename Fr _ _ _ _ => F9)
  (rename _ = hideAll _ _ => eG)
  (try rw [← eG] at hret)
  (try rw [← eG] at hstop)
  clear eG
  walk_at "go"
  · (rename (hkG1.Z 1) ≠ (hkG1.Z 1) => z6); exact absurd rfl z6
  · show Q _ _
    (rename Fr _ _ _ _ => F6); (rename News _ _ _ _ => N6)
    refine hret _ _ _ _ KtsTurn.refl F6.keep ⟨rfl, ?_⟩
    (repeat (first | exact At.nil | refine At.cons (News.get (by assumption) (by k_mem)) ?_))
  · (rename ¬ v = v => z6); exact absurd rfl z6
  ))
end Z9
theorem hkT : hkS := no_implicit_lambda% (@hkapp _ _ hkK.2 (fun a b c d e f g h i j k l m n o p q r s t u v w x y z xa xb xc xd xe xf xg xh xi xj xk xl xm xn xo => @epsV Z9.hkP (by with_unfolding_all exact Z9.hkM) (vv (lk [xj] d9E) (lk [xd] d9C) (lk [xi] d9T) (lk [xf] d9K) (lk [xk] d9A) (lk [d] d9X) (lk [c] d9S) (lk [xe] d9G) (lk [a] d9W) (lk [b] d9P) e9Q (lk [g] d9R) (lk [xh] d9V) (lk [z, xa] d9Z) e9I (lk [w] d9L) (lk [e, f, xo] d9M) (lk [xl, xm] d9H) e9O (lk [h, i, j, k, l, m, n, o, p, q, r, s, t, u, v, x, y, xb, xc, xg, xn] d9N))))
end gr_held_c
theorem gr_held : gr_held_c.hkS := @gr_held_c.hkT
-- GR2
namespace gr_mid_c
noncomputable def hkS : Prop := ∀ (w p loose mean mg mb) (s : Shared) (gr dG gb d ig dI tp li D T : Addr) (t0 t1 t2 tn tv tu tq : Tok) (os : List Value) (e j : Nat) (v u q sr : Int) (h0 : os[j]? = some (.ref T)) (o1 : @LT.lt Nat _ T D) (htv : tv ≠ 0) (htu : tu ≠ 0) (htn : tv = tu → v = u) (o2 : @LT.lt Nat _ D dI) (o3 : @LT.lt Nat _ dI ig) (o4 : @LT.lt Nat _ ig tp) (o5 : @LT.lt Nat _ tp d) (o6 : @LT.lt Nat _ d gb) (o7 : @LT.lt Nat _ gb li) (o8 : @LT.lt Nat _ li dG) (o9 : @LT.lt Nat _ dG gr), NextS w p loose mean mg mb gr s [(gr, grObj dG gb (.int v tv) sr tn), (dG, dictOf [] 0), (gb, gbObj d ig li true (.int v tv) false .none false .none sr t1 sr t2), (d, dictOf [] 0), (ig, igObj dI tp), (dI, dictOf [] 0), (tp, tupO [.int 0 t0]), (li, liObj D j), (D, W.listOf os.toArray e), (T, tupO [.int u tu, .int q tq])] 6 80
      (fun g' h' r => u = v ∧ r = .ref T ∧ At h' ((gr, grObj dG gb (.int v tv) sr tn) :: (dG, dictOf [] 0) :: (T, tupO [.int u tu, .int q tq]) :: gLed gb d ig dI tp li D t0 os e (gbObj d ig li true (.int v tv) false .none false .none sr t1 sr t2) (liObj D (j + 1)))) (fun g' h' => u ≠ v ∧ At h' ((gr, grObj dG gb (.int v tv) sr tn) :: (dG, dictOf [] 0) :: (T, tupO [.int u tu, .int q tq]) :: gLed gb d ig dI tp li D t0 os e (gbObj d ig li true (.int v tv) true (.int u tu) true (.ref T) sr t1 sr t2) (liObj D (j + 1))))
noncomputable def hkK : Σ' P : World → Program → tS → tX → tM → tM → Shared → Addr → Addr → Addr → Addr → Addr → Addr → Addr → Addr → Addr → Addr → Tok → Tok → Tok → Tok → Tok → Tok → Tok → tV → Nat → Nat → Int → Int → Int → Int → Nat → Nat → tC → Str → Scope → Addr → Value → tA → tE → Around → Heap → Heap → Addr → tM → Prop, (∀ a b c d e f g h i j k l m n o p q r s t u v w x y z xa xb xc xd xe xf xg xh xi xj xk xl xm xn xo xp xq xr xs, P a b c d e f g h i j k l m n o p q r s t u v w x y z xa xb xc xd xe xf xg xh xi xj xk xl xm xn xo xp xq xr xs) → hkS := ⟨_, fun hk9 => by intro w p loose mean mg mb s gr dG gb d ig dI tp li D T t0 t1 t2 tn tv tu tq os e j v u q sr h0 o1 htv htu htn o2 o3 o4 o5 o6 o7 o8 o9 dp un gd cn cs a ccd cl outer A₀ base h₀ L m; revert o9; revert o8; revert o7; revert o6; revert o5; revert o4; revert o3; revert o2; revert htn; revert htu; revert htv; revert o1; revert h0; apply (hk9 w p loose mean mg mb s gr dG gb d ig dI tp li D T t0 t1 t2 tn tv tu tq os e j v u q sr dp un gd cn cs a ccd cl outer A₀ base h₀ L m)⟩
namespace Z9
noncomputable def hkP (y : VV) := hkK.1 (y.W 0) (y.P 0) (y.S 0) (y.X 0) (y.M 0) (y.M 1) (y.R 0) (y.N 0) (y.N 1) (y.N 2) (y.N 3) (y.N 4) (y.N 5) (y.N 6) (y.N 7) (y.N 8) (y.N 9) (y.N 10) (y.N 11) (y.N 12) (y.N 13) (y.N 14) (y.N 15) (y.N 16) (y.L 0) (y.N 17) (y.N 18) (y.Z 0) (y.Z 1) (y.Z 2) (y.Z 3) (y.N 19) (y.N 20) (y.C 0) (y.G 0) (y.K 0) (y.N 21) (y.V 0) (y.T 0) (y.E 0) (y.A 0) (y.H 0) (y.H 1) (y.N 22) (y.M 2)
@[irreducible] noncomputable def hkG1 := epsV0 hkP
@[irreducible] def w : World := hkG1.W 0
@[irreducible] def s : Shared := hkG1.R 0
@[irreducible] def gr : Addr := hkG1.N 0
@[irreducible] def dG : Addr := hkG1.N 1
@[irreducible] def gb : Addr := hkG1.N 2
@[irreducible] def d : Addr := hkG1.N 3
@[irreducible] def ig : Addr := hkG1.N 4
@[irreducible] def dI : Addr := hkG1.N 5
@[irreducible] def tp : Addr := hkG1.N 6
@[irreducible] def li : Addr := hkG1.N 7
@[irreducible] def D : Addr := hkG1.N 8
@[irreducible] def T : Addr := hkG1.N 9
@[irreducible] def tv : Tok := hkG1.N 14
@[irreducible] def v : Int := hkG1.Z 0
theorem hkM : hkP hkG1 := (by exact @wI _ _ : @wT (hkP hkG1) (by
  with_unfolding_all show hkK.1 w (hkG1.P 0) (hkG1.S 0) (hkG1.X 0) (hkG1.M 0) (hkG1.M 1) s gr dG gb d ig dI tp li D T (hkG1.N 10) (hkG1.N 11) (hkG1.N 12) (hkG1.N 13) tv (hkG1.N 15) (hkG1.N 16) (hkG1.L 0) (hkG1.N 17) (hkG1.N 18) v (hkG1.Z 1) (hkG1.Z 2) (hkG1.Z 3) (hkG1.N 19) (hkG1.N 20) (hkG1.C 0) (hkG1.G 0) (hkG1.K 0) (hkG1.N 21) (hkG1.V 0) (hkG1.T 0) (hkG1.E 0) (hkG1.A 0) (hkG1.H 0) (hkG1.H 1) (hkG1.N 22) (hkG1.M 2)
  intro h0 o1 htv htu htn o2 o3 o4 o5 o6 o7 o8 o9
  have c02 : @LT.lt Nat _ T dI := Nat.lt_trans o1 o2
  have c13 : @LT.lt Nat _ D ig := Nat.lt_trans o2 o3
  have c24 : @LT.lt Nat _ dI tp := Nat.lt_trans o3 o4
  have c35 : @LT.lt Nat _ ig d := Nat.lt_trans o4 o5
  have c46 : @LT.lt Nat _ tp gb := Nat.lt_trans o5 o6
  have c57 : @LT.lt Nat _ d li := Nat.lt_trans o6 o7
  have c68 : @LT.lt Nat _ gb dG := Nat.lt_trans o7 o8
  have c79 : @LT.lt Nat _ li gr := Nat.lt_trans o8 o9
  have c03 : @LT.lt Nat _ T ig := Nat.lt_trans c02 o3
  have c14 : @LT.lt Nat _ D tp := Nat.lt_trans c13 o4
  have c25 : @LT.lt Nat _ dI d := Nat.lt_trans c24 o5
  have c36 : @LT.lt Nat _ ig gb := Nat.lt_trans c35 o6
  have c47 : @LT.lt Nat _ tp li := Nat.lt_trans c46 o7
  have c58 : @LT.lt Nat _ d dG := Nat.lt_trans c57 o8
  have c69 : @LT.lt Nat _ gb gr := Nat.lt_trans c68 o9
  have c04 : @LT.lt Nat _ T tp := Nat.lt_trans c03 o4
  have c15 : @LT.lt Nat _ D d := Nat.lt_trans c14 o5
  have c26 : @LT.lt Nat _ dI gb := Nat.lt_trans c25 o6
  have c37 : @LT.lt Nat _ ig li := Nat.lt_trans c36 o7
  have c48 : @LT.lt Nat _ tp dG := Nat.lt_trans c47 o8
  have c59 : @LT.lt Nat _ d gr := Nat.lt_trans c58 o9
  have c05 : @LT.lt Nat _ T d := Nat.lt_trans c04 o5
  have c16 : @LT.lt Nat _ D gb := Nat.lt_trans c15 o6
  have c27 : @LT.lt Nat _ dI li := Nat.lt_trans c26 o7
  have c38 : @LT.lt Nat _ ig dG := Nat.lt_trans c37 o8
  have c49 : @LT.lt Nat _ tp gr := Nat.lt_trans c48 o9
  have c06 : @LT.lt Nat _ T gb := Nat.lt_trans c05 o6
  have c17 : @LT.lt Nat _ D li := Nat.lt_trans c16 o7
  have c28 : @LT.lt Nat _ dI dG := Nat.lt_trans c27 o8
  have c39 : @LT.lt Nat _ ig gr := Nat.lt_trans c38 o9
  have c07 : @LT.lt Nat _ T li := Nat.lt_trans c06 o7
  have c18 : @LT.lt Nat _ D dG := Nat.lt_trans c17 o8
  have c29 : @LT.lt Nat _ dI gr := Nat.lt_trans c28 o9
  have c08 : @LT.lt Nat _ T dG := Nat.lt_trans c07 o8
  have c19 : @LT.lt Nat _ D gr := Nat.lt_trans c18 o9
  have c09 : @LT.lt Nat _ T gr := Nat.lt_trans c08 o9
  unfold NextSC PG
  k_fill
  intro Q E B F N X T' D' hk hd hu hret hstop
  have X0 : (Mine.hd.heap_39 w.params).In (hkG1.H 1) := X.keeps B.stays
  have I : InstAt s.heap gr (grObj dG gb (.int v tv) (hkG1.Z 3) (hkG1.N 13)) 169 (some (dictOf [] 0)) := InstAt.of_news N (List.Mem.head _) (List.Mem.tail _ (List.Mem.head _))
  refine next_own F X0 I (f := 165) (by k_is) (by k_is) ?_
  refine wpAny_call ?_
  k_dflt (refine call_turn ?_; k_whole; intro _ _ _ _ _ _ _ _ _ _; (try dsimp only); (try k_fold))
  clear I N F
  (with_reducible rename Fr _ _ _ _ => F9)
  (rename _ = hideAll _ _ => eG)
  (try rw [← eG] at hret)
  (try rw [← eG] at hstop)
  clear eG
  walk_at "go"
  · (rename (hkG1.Z 3) ≠ (hkG1.Z 3) => z6); exact absurd rfl z6
  · show Q _ _
    (rename Fr _ _ _ _ => F6); (rename News _ _ _ _ => N6)
    refine hret _ _ _ _ KtsTurn.refl F6.keep ⟨by symm; assumption, rfl, ?_⟩
    (repeat (first | exact At.nil | refine At.cons (News.get (by assumption) (by k_mem)) ?_))
  · (rename RaisedS _ _ _ _ _ _ _ _ _ => R6)
    refine ostop R6.toSN (by assumption) (by assumption) (by kts_sub) fun g6 T6 S6 N6 => ?_
    refine hstop _ _ _ T6 S6 ⟨fun z6 => absurd z6.symm (by assumption), ?_⟩
    repeat (first | exact At.nil | refine At.cons (N6 (_, _) (by k_mem)).1 ?_)
  ))
end Z9
theorem hkT : hkS := no_implicit_lambda% (@hkapp _ _ hkK.2 (fun a b c d e f g h i j k l m n o p q r s t u v w x y z xa xb xc xd xe xf xg xh xi xj xk xl xm xn xo xp xq xr xs => @epsV Z9.hkP (by with_unfolding_all exact Z9.hkM) (vv (lk [xn] d9E) (lk [xh] d9C) (lk [xm] d9T) (lk [xj] d9K) (lk [xo] d9A) (lk [d] d9X) (lk [c] d9S) (lk [xi] d9G) (lk [a] d9W) (lk [b] d9P) e9Q (lk [g] d9R) (lk [xl] d9V) (lk [xb, xc, xd, xe] d9Z) e9I (lk [y] d9L) (lk [e, f, xs] d9M) (lk [xp, xq] d9H) e9O (lk [h, i, j, k, l, m, n, o, p, q, r, s, t, u, v, w, x, z, xa, xf, xg, xk, xr] d9N))))
end gr_mid_c
theorem gr_mid : gr_mid_c.hkS := @gr_mid_c.hkT
-- D2
section
section
variable {M : Model} {A : Around} {E : Value → Shared → Prop} {s : Shared} {K : Frag}
theorem same_float {a b : UInt64} {t u : Tok} {Q : Bool → Shared → Prop} (X : K.In s.heap) (e : nsIn K cStatics sharingNotToldKey = some none) (ht : t ≠ 0) (hu : u ≠ 0) (h : ∀ b : Bool, Q b s) :
    wpAny M A (isSame (.float a t) (.float b u)) Q E s := by
  have h0 : (t == 0 || u == 0) = false := by simp [ht, hu]
  have nt : ∀ (v : Tok) (R : Bool → Shared → Prop) , R false s → wpAny M A (sharingNotTold v) R E s := fun v R hr => by
    unfold sharingNotTold
    refine wpAny_bind ((looks_nsIn X e).here ?_)
    exact wpAny_pure hr
  show wpAny M A (isSame.created _ t u) _ E s
  unfold isSame.created
  refine wpAny_ite ?_
  split
  · rename_i h; rw [h0] at h; exact absurd h Bool.false_ne_true
  refine wpAny_ite ?_
  split
  · exact wpAny_pure (h true)
  refine wpAny_ite ?_
  split
  · exact wpAny_pure (h false)
  refine wpAny_bind (nt t _ ?_)
  rw [if_neg Bool.false_ne_true]
  refine wpAny_bind (nt u _ ?_)
  rw [if_neg Bool.false_ne_true]
  exact wpAny_bind (wpAny_rule (wpAny_bind (wpAny_askSetting (wpAny_pure (h _)))))
end
open SeqAt in
theorem eqAt_ff {K : Frag} {A : Around} {s : Shared} {a b : UInt64} {t u : Tok} (X : K.In s.heap) (e : nsIn K cStatics sharingNotToldKey = some none) (ht : t ≠ 0) (hu : u ≠ 0) (h : (Float64.cmp a b == some Ordering.eq) = true) : EqAt A s (.float a t) (.float b u) true := fun prog w E Q hq => by
  unfold eqBool
  refine wpAny_holding ?_
  refine wpAny_ite_split (fun hab => ?_) (fun _ => ?_)
  · exact wpAny_bind (wpAny_rule (wpAny_pure hq))
  · refine wpAny_bind (same_float X e ht hu fun b => ?_)
    cases b with
    | true => exact wpAny_pure hq
    | false => exact wpAny_bind (show wpAny _ _ (compareOp .Eq (.float a t) (.float b u)) _ _ _ from AutoFloatOps.eq_0 (by rw [h]; exact wpAny_truthy_bool hq))
structure ToldF (vs us : List Value) : Prop where
  len : vs.length = us.length
  at_ : ∀ j (h1 : j < vs.length) (h2 : j < us.length), ∃ a b t u, vs[j] = .float a t ∧ us[j] = .float b u ∧ t ≠ 0 ∧ u ≠ 0 ∧ (Float64.cmp a b == some Ordering.eq) = true
open SeqAt in
theorem toldF_eq {prog : Program} {w : World} {K : Frag} {A : Around} {E : Value → Shared → Prop} {s : Shared} {Q : Value → Shared → Prop} {l b : Addr} {vs us : List Value} (X : K.In s.heap) (e9 : nsIn K cStatics sharingNotToldKey = some none) (hl : s.heap.IsList l vs.toArray) (hb : s.heap.IsList b us.toArray) (h : ToldF vs us) (hu : A.units < cLine) (hq : Q (.bool true) s) :
    wpAny (model prog w) A (compareOp .Eq (.ref l) (.ref b)) Q E s := by
  have e : ((List.range vs.toArray.size).all fun _ => true) = true := by simp
  exact RcAt.lists (e := fun _ => true) hl hb (by simpa using h.len) hu (fun j h1 h2 => by
    obtain ⟨a, b, t, u, e1, e2, e4, e5, e3⟩ := h.at_ j (by simpa using h1) (by simpa using h2)
    simp only [List.getElem_toArray, e1, e2]
    exact eqAt_ff X e9 e4 e5 e3) prog w E Q (by rw [e]; exact hq)
theorem ToldF.kind {vs us : List Value} (h : ToldF vs us) : ∀ v ∈ vs, ∃ a t, v = .float a t := fun v hv => by
  obtain ⟨j, h1, rfl⟩ := List.getElem_of_mem hv
  obtain ⟨a, b, t, u, e1, _⟩ := h.at_ j h1 (h.len ▸ h1)
  exact ⟨a, t, e1⟩
theorem told_f (w p loose mean mg mb) (s : Shared) (l1 l2 : Addr) (vs us : List Value) (hl : s.heap.IsList l1 vs.toArray) (hl2 : s.heap.IsList l2 us.toArray) (h1 : vs.length < 12) (ht : ToldF vs us) :
    Pure w p loose mean mg mb 334 [.ref l1, .ref l2, .type "float"] [] s 4 100 (fun h v => v = .bool true) := by
  unfold Pure PureC PG
  k_fill
  intro dp un gd cn cs a ccd cl outer A₀ base h₀ L m Q E B F X T hk hd hu hret
  refine wpAny_call ?_
  k_dflt walk_at "fr_enterC"
  (with_reducible rename Fr _ _ _ _ => F9)
  (with_reducible rename News _ _ _ _ => N9)
  rename Obj.data _ = _ => d9
  have d10 : Obj.data _ = Data.cell (some (Value.type "float")) := d9
  have hla : Heap.IsList _ l1 vs.toArray := stays_list F9.keep hl
  have hlb : Heap.IsList _ l2 us.toArray := stays_list F9.keep hl2
  walk_at "go"
  · k_dflt refine toldF_eq (Frag.In.keeps (Frag.In.keeps X F.keep) F9.keep) (by k_is) hla hlb ht (by have := cLine_is; show un + 3 < cLine; omega) ?_
    walk_at "go"
    refine comp_free (fun _ => false) (fun _ _ => False) (by rfl) (by decide) (by rfl) (by decide) (by rfl) ?_
    walk_at "go"
    k_dflt refine' comp_iter_list (L := _) (m := _) (news := _) ?hh ?hF ?hN ?hl ?hz ?_ ?he ?_
    case hF => exact F9
    case hN => exact N9
    case hh => rfl
    case hl => exact hla
    case hz => rw [List.size_toArray]; exact Nat.le_trans (Nat.le_of_lt h1) (by decide)
    case he => intro C v s₃ m₃ E' _ hp; cases hp
    · intro C v s₃ m₃ E' hv hn hm st
      have hcl : s₃.heap.get? _ = some _ := st _ _ (N9 _ (List.Mem.head _)).1
      refine wpAny_tests_one ?_
      have hk9 := ht.kind v (by simpa using hv)
      have F3 := F9.keeps st
      have N3 := N9.grown st
      obtain ⟨n9, t9, rfl⟩ := hk9
      all_goals walk_at "go"
      all_goals first | exact keeps_refl _ | exact keeps_toks _ _ | exact ⟨rfl, keeps_refl _⟩ | exact ⟨rfl, keeps_toks _ _⟩
    · intro D h' tk ys n F8 N8 hne st hP
      have e : ys = [] := by
        rw [List.filter_eq_nil_iff.mpr (by intro _ _; exact Bool.false_ne_true)] at hP
        cases hP; rfl
      subst e
      walk_at "go"
      (rename Fr _ _ _ _ => F6)
      exact hret _ _ _ F6.keep rfl
end
section
local macro_rules | `(tactic| walk_at "call builtin:next") => `(tactic| (k_here; k_dflt (refine li_stop ?_); intro h1' h' e' F' N' x'; (try dsimp only at N'); (try dsimp only)))
local macro_rules | `(tactic| walk_at "call builtin:next") => `(tactic| (k_here; k_dflt (refine li_over ?_); intro h' e' x'; (try dsimp only)))
local macro_rules | `(tactic| walk_at "noteFrame ref") => `(tactic| (k_here; k_dflt (refine caught_stop ?_; k_whole); intro h' g' T' F' N' K' X' P' D'; (try k_lift K'); (try k_sweep)))
local macro_rules | `(tactic| k_enter) => `(tactic| kts_go)
local macro_rules | `(tactic| walk_at "call ref") => `(tactic| (k_here; k_dflt (refine wpAny_call ?_; kts_go)))
-- GB3
namespace gb_end_c
noncomputable def hkS : Prop := ∀ (w p loose mean mg mb) (s : Shared) (gb d ig dI tp li D : Addr) (t0 t1 t2 tu : Tok) (os : List Value) (e j : Nat) (u cg sr : Int) (o2 : @LT.lt Nat _ D dI) (o3 : @LT.lt Nat _ dI ig) (o4 : @LT.lt Nat _ ig tp) (o5 : @LT.lt Nat _ tp d) (o6 : @LT.lt Nat _ d gb) (o7 : @LT.lt Nat _ gb li), NextS w p loose mean mg mb gb s [(gb, gbObj d ig li true (.int u tu) false .none false .none cg t1 sr t2), (d, dictOf [] 0), (ig, igObj dI tp), (dI, dictOf [] 0), (tp, tupO [.int 0 t0]), (li, liEnd j), (D, W.listOf os.toArray e)] 6 80
      (fun _ _ _ => False) (fun _ _ => True)
noncomputable def hkK : Σ' P : World → Program → tS → tX → tM → tM → Shared → Addr → Addr → Addr → Addr → Addr → Addr → Addr → Tok → Tok → Tok → Tok → tV → Nat → Nat → Int → Int → Int → Nat → Nat → tC → Str → Scope → Addr → Value → tA → tE → Around → Heap → Heap → Addr → tM → Prop, (∀ a b c d e f g h i j k l m n o p q r s t u v w x y z xa xb xc xd xe xf xg xh xi xj xk xl, P a b c d e f g h i j k l m n o p q r s t u v w x y z xa xb xc xd xe xf xg xh xi xj xk xl) → hkS := ⟨_, fun hk9 => by intro w p loose mean mg mb s gb d ig dI tp li D t0 t1 t2 tu os e j u cg sr o2 o3 o4 o5 o6 o7 dp un gd cn cs a ccd cl outer A₀ base h₀ L m; revert o7; revert o6; revert o5; revert o4; revert o3; revert o2; apply (hk9 w p loose mean mg mb s gb d ig dI tp li D t0 t1 t2 tu os e j u cg sr dp un gd cn cs a ccd cl outer A₀ base h₀ L m)⟩
namespace Z9
noncomputable def hkP (y : VV) := hkK.1 (y.W 0) (y.P 0) (y.S 0) (y.X 0) (y.M 0) (y.M 1) (y.R 0) (y.N 0) (y.N 1) (y.N 2) (y.N 3) (y.N 4) (y.N 5) (y.N 6) (y.N 7) (y.N 8) (y.N 9) (y.N 10) (y.L 0) (y.N 11) (y.N 12) (y.Z 0) (y.Z 1) (y.Z 2) (y.N 13) (y.N 14) (y.C 0) (y.G 0) (y.K 0) (y.N 15) (y.V 0) (y.T 0) (y.E 0) (y.A 0) (y.H 0) (y.H 1) (y.N 16) (y.M 2)
@[irreducible] noncomputable def hkG1 := epsV0 hkP
@[irreducible] def w : World := hkG1.W 0
@[irreducible] def s : Shared := hkG1.R 0
@[irreducible] def gb : Addr := hkG1.N 0
@[irreducible] def d : Addr := hkG1.N 1
@[irreducible] def ig : Addr := hkG1.N 2
@[irreducible] def dI : Addr := hkG1.N 3
@[irreducible] def tp : Addr := hkG1.N 4
@[irreducible] def li : Addr := hkG1.N 5
@[irreducible] def D : Addr := hkG1.N 6
@[irreducible] def tu : Tok := hkG1.N 10
@[irreducible] def u : Int := hkG1.Z 0
theorem hkM : hkP hkG1 := (by exact @wI _ _ : @wT (hkP hkG1) (by
  with_unfolding_all show hkK.1 w (hkG1.P 0) (hkG1.S 0) (hkG1.X 0) (hkG1.M 0) (hkG1.M 1) s gb d ig dI tp li D (hkG1.N 7) (hkG1.N 8) (hkG1.N 9) tu (hkG1.L 0) (hkG1.N 11) (hkG1.N 12) u (hkG1.Z 1) (hkG1.Z 2) (hkG1.N 13) (hkG1.N 14) (hkG1.C 0) (hkG1.G 0) (hkG1.K 0) (hkG1.N 15) (hkG1.V 0) (hkG1.T 0) (hkG1.E 0) (hkG1.A 0) (hkG1.H 0) (hkG1.H 1) (hkG1.N 16) (hkG1.M 2)
  intro o2 o3 o4 o5 o6 o7
  have c02 : @LT.lt Nat _ D ig := Nat.lt_trans o2 o3
  have c13 : @LT.lt Nat _ dI tp := Nat.lt_trans o3 o4
  have c24 : @LT.lt Nat _ ig d := Nat.lt_trans o4 o5
  have c35 : @LT.lt Nat _ tp gb := Nat.lt_trans o5 o6
  have c46 : @LT.lt Nat _ d li := Nat.lt_trans o6 o7
  have c03 : @LT.lt Nat _ D tp := Nat.lt_trans c02 o4
  have c14 : @LT.lt Nat _ dI d := Nat.lt_trans c13 o5
  have c25 : @LT.lt Nat _ ig gb := Nat.lt_trans c24 o6
  have c36 : @LT.lt Nat _ tp li := Nat.lt_trans c35 o7
  have c04 : @LT.lt Nat _ D d := Nat.lt_trans c03 o5
  have c15 : @LT.lt Nat _ dI gb := Nat.lt_trans c14 o6
  have c26 : @LT.lt Nat _ ig li := Nat.lt_trans c25 o7
  have c05 : @LT.lt Nat _ D gb := Nat.lt_trans c04 o6
  have c16 : @LT.lt Nat _ dI li := Nat.lt_trans c15 o7
  have c06 : @LT.lt Nat _ D li := Nat.lt_trans c05 o7
  unfold NextSC PG
  k_fill
  intro Q E B F N X T' D' hk hd hu hret hstop
  have X0 : (Mine.hd.heap_39 w.params).In (hkG1.H 1) := X.keeps B.stays
  have I : InstAt s.heap gb (gbObj d ig li true (.int u tu) false .none false .none (hkG1.Z 1) (hkG1.N 8) (hkG1.Z 2) (hkG1.N 9)) 124 (some (dictOf [] 0)) := InstAt.of_news N (List.Mem.head _) (List.Mem.tail _ (List.Mem.head _))
  refine next_own F X0 I (f := 120) (by k_is) (by k_is) ?_
  refine wpAny_call ?_
  k_dflt (refine call_turn ?_; k_whole; intro _ _ _ _ _ _ _ _ _ _; (try dsimp only); (try k_fold))
  clear I N F
  (with_reducible rename Fr _ _ _ _ => F9)
  walk_at "go"
  · (rename RaisedS _ _ _ _ _ _ _ _ _ => R6); (rename Heap.UpToSlots _ _ => U6); (rename KtsTurn _ _ _ => T6); (rename _ = hideAll _ _ => eG)
    obtain ⟨g7, T7, F7, B7, D7⟩ := turn_up s T6 (by assumption) (by assumption) (by assumption) rfl
    refine leave_onS B7 F7 R6 U6 fun h8 S8 R8 U8 => ?_
    show OStop _ _ _ _ _ _
    refine ostop S8.toSN U8 B7 (by kts_sub) fun g9 T9 S9 N9 => ?_
    subst eG
    refine hstop _ _ _ (T7.trans T9) S9 trivial
  ))
end Z9
theorem hkT : hkS := no_implicit_lambda% (@hkapp _ _ hkK.2 (fun a b c d e f g h i j k l m n o p q r s t u v w x y z xa xb xc xd xe xf xg xh xi xj xk xl => @epsV Z9.hkP (by with_unfolding_all exact Z9.hkM) (vv (lk [xg] d9E) (lk [xa] d9C) (lk [xf] d9T) (lk [xc] d9K) (lk [xh] d9A) (lk [d] d9X) (lk [c] d9S) (lk [xb] d9G) (lk [a] d9W) (lk [b] d9P) e9Q (lk [g] d9R) (lk [xe] d9V) (lk [v, w, x] d9Z) e9I (lk [s] d9L) (lk [e, f, xl] d9M) (lk [xi, xj] d9H) e9O (lk [h, i, j, k, l, m, n, o, p, q, r, t, u, y, z, xd, xk] d9N))))
end gb_end_c
theorem gb_end : gb_end_c.hkS := @gb_end_c.hkT
-- GR3
namespace gr_end_c
noncomputable def hkS : Prop := ∀ (w p loose mean mg mb) (s : Shared) (gr dG gb d ig dI tp li D : Addr) (t0 t1 t2 tn tv : Tok) (os : List Value) (e j : Nat) (v sr : Int) (h0 : os[j]? = none) (o2 : @LT.lt Nat _ D dI) (o3 : @LT.lt Nat _ dI ig) (o4 : @LT.lt Nat _ ig tp) (o5 : @LT.lt Nat _ tp d) (o6 : @LT.lt Nat _ d gb) (o7 : @LT.lt Nat _ gb li) (o8 : @LT.lt Nat _ li dG) (o9 : @LT.lt Nat _ dG gr), NextS w p loose mean mg mb gr s [(gr, grObj dG gb (.int v tv) sr tn), (dG, dictOf [] 0), (gb, gbObj d ig li true (.int v tv) false .none false .none sr t1 sr t2), (d, dictOf [] 0), (ig, igObj dI tp), (dI, dictOf [] 0), (tp, tupO [.int 0 t0]), (li, liObj D j), (D, W.listOf os.toArray e)] 6 80
      (fun _ _ _ => False) (fun g' h' => At h' ((gr, grObj dG gb (.int v tv) sr tn) :: (dG, dictOf [] 0) :: gLed gb d ig dI tp li D t0 os e (gbObj d ig li true (.int v tv) false .none false .none sr t1 sr t2) (liEnd j)))
noncomputable def hkK : Σ' P : World → Program → tS → tX → tM → tM → Shared → Addr → Addr → Addr → Addr → Addr → Addr → Addr → Addr → Addr → Tok → Tok → Tok → Tok → Tok → tV → Nat → Nat → Int → Int → Nat → Nat → tC → Str → Scope → Addr → Value → tA → tE → Around → Heap → Heap → Addr → tM → Prop, (∀ a b c d e f g h i j k l m n o p q r s t u v w x y z xa xb xc xd xe xf xg xh xi xj xk xl xm xn, P a b c d e f g h i j k l m n o p q r s t u v w x y z xa xb xc xd xe xf xg xh xi xj xk xl xm xn) → hkS := ⟨_, fun hk9 => by intro w p loose mean mg mb s gr dG gb d ig dI tp li D t0 t1 t2 tn tv os e j v sr h0 o2 o3 o4 o5 o6 o7 o8 o9 dp un gd cn cs a ccd cl outer A₀ base h₀ L m; revert o9; revert o8; revert o7; revert o6; revert o5; revert o4; revert o3; revert o2; revert h0; apply (hk9 w p loose mean mg mb s gr dG gb d ig dI tp li D t0 t1 t2 tn tv os e j v sr dp un gd cn cs a ccd cl outer A₀ base h₀ L m)⟩
namespace Z9
noncomputable def hkP (y : VV) := hkK.1 (y.W 0) (y.P 0) (y.S 0) (y.X 0) (y.M 0) (y.M 1) (y.R 0) (y.N 0) (y.N 1) (y.N 2) (y.N 3) (y.N 4) (y.N 5) (y.N 6) (y.N 7) (y.N 8) (y.N 9) (y.N 10) (y.N 11) (y.N 12) (y.N 13) (y.L 0) (y.N 14) (y.N 15) (y.Z 0) (y.Z 1) (y.N 16) (y.N 17) (y.C 0) (y.G 0) (y.K 0) (y.N 18) (y.V 0) (y.T 0) (y.E 0) (y.A 0) (y.H 0) (y.H 1) (y.N 19) (y.M 2)
@[irreducible] noncomputable def hkG1 := epsV0 hkP
@[irreducible] def w : World := hkG1.W 0
@[irreducible] def s : Shared := hkG1.R 0
@[irreducible] def gr : Addr := hkG1.N 0
@[irreducible] def dG : Addr := hkG1.N 1
@[irreducible] def gb : Addr := hkG1.N 2
@[irreducible] def d : Addr := hkG1.N 3
@[irreducible] def ig : Addr := hkG1.N 4
@[irreducible] def dI : Addr := hkG1.N 5
@[irreducible] def tp : Addr := hkG1.N 6
@[irreducible] def li : Addr := hkG1.N 7
@[irreducible] def D : Addr := hkG1.N 8
@[irreducible] def tv : Tok := hkG1.N 13
@[irreducible] def v : Int := hkG1.Z 0
theorem hkM : hkP hkG1 := (by exact @wI _ _ : @wT (hkP hkG1) (by
  with_unfolding_all show hkK.1 w (hkG1.P 0) (hkG1.S 0) (hkG1.X 0) (hkG1.M 0) (hkG1.M 1) s gr dG gb d ig dI tp li D (hkG1.N 9) (hkG1.N 10) (hkG1.N 11) (hkG1.N 12) tv (hkG1.L 0) (hkG1.N 14) (hkG1.N 15) v (hkG1.Z 1) (hkG1.N 16) (hkG1.N 17) (hkG1.C 0) (hkG1.G 0) (hkG1.K 0) (hkG1.N 18) (hkG1.V 0) (hkG1.T 0) (hkG1.E 0) (hkG1.A 0) (hkG1.H 0) (hkG1.H 1) (hkG1.N 19) (hkG1.M 2)
  intro h0 o2 o3 o4 o5 o6 o7 o8 o9
  have c02 : @LT.lt Nat _ D ig := Nat.lt_trans o2 o3
  have c13 : @LT.lt Nat _ dI tp := Nat.lt_trans o3 o4
  have c24 : @LT.lt Nat _ ig d := Nat.lt_trans o4 o5
  have c35 : @LT.lt Nat _ tp gb := Nat.lt_trans o5 o6
  have c46 : @LT.lt Nat _ d li := Nat.lt_trans o6 o7
  have c57 : @LT.lt Nat _ gb dG := Nat.lt_trans o7 o8
  have c68 : @LT.lt Nat _ li gr := Nat.lt_trans o8 o9
  have c03 : @LT.lt Nat _ D tp := Nat.lt_trans c02 o4
  have c14 : @LT.lt Nat _ dI d := Nat.lt_trans c13 o5
  have c25 : @LT.lt Nat _ ig gb := Nat.lt_trans c24 o6
  have c36 : @LT.lt Nat _ tp li := Nat.lt_trans c35 o7
  have c47 : @LT.lt Nat _ d dG := Nat.lt_trans c46 o8
  have c58 : @LT.lt Nat _ gb gr := Nat.lt_trans c57 o9
  have c04 : @LT.lt Nat _ D d := Nat.lt_trans c03 o5
  have c15 : @LT.lt Nat _ dI gb := Nat.lt_trans c14 o6
  have c26 : @LT.lt Nat _ ig li := Nat.lt_trans c25 o7
  have c37 : @LT.lt Nat _ tp dG := Nat.lt_trans c36 o8
  have c48 : @LT.lt Nat _ d gr := Nat.lt_trans c47 o9
  have c05 : @LT.lt Nat _ D gb := Nat.lt_trans c04 o6
  have c16 : @LT.lt Nat _ dI li := Nat.lt_trans c15 o7
  have c27 : @LT.lt Nat _ ig dG := Nat.lt_trans c26 o8
  have c38 : @LT.lt Nat _ tp gr := Nat.lt_trans c37 o9
  have c06 : @LT.lt Nat _ D li := Nat.lt_trans c05 o7
  have c17 : @LT.lt Nat _ dI dG := Nat.lt_trans c16 o8
  have c28 : @LT.lt Nat _ ig gr := Nat.lt_trans c27 o9
  have c07 : @LT.lt Nat _ D dG := Nat.lt_trans c06 o8
  have c18 : @LT.lt Nat _ dI gr := Nat.lt_trans c17 o9
  have c08 : @LT.lt Nat _ D gr := Nat.lt_trans c07 o9
  unfold NextSC PG
  k_fill
  intro Q E B F N X T' D' hk hd hu hret hstop
  have X0 : (Mine.hd.heap_39 w.params).In (hkG1.H 1) := X.keeps B.stays
  have I : InstAt s.heap gr (grObj dG gb (.int v tv) (hkG1.Z 1) (hkG1.N 12)) 169 (some (dictOf [] 0)) := InstAt.of_news N (List.Mem.head _) (List.Mem.tail _ (List.Mem.head _))
  refine next_own F X0 I (f := 165) (by k_is) (by k_is) ?_
  refine wpAny_call ?_
  k_dflt (refine call_turn ?_; k_whole; intro _ _ _ _ _ _ _ _ _ _; (try dsimp only); (try k_fold))
  clear I N F
  (with_reducible rename Fr _ _ _ _ => F9)
  walk_at "go"
  · (rename (hkG1.Z 1) ≠ (hkG1.Z 1) => z6); exact absurd rfl z6
  · (rename RaisedS _ _ _ _ _ _ _ _ _ => R6); (rename Heap.UpToSlots _ _ => U6); (rename KtsTurn _ _ _ => T6); (rename _ = hideAll _ _ => eG)
    obtain ⟨g7, T7, F7, B7, D7⟩ := turn_up s T6 (by assumption) (by assumption) (by assumption) rfl
    refine leave_onS B7 F7 R6 U6 fun h8 S8 R8 U8 => ?_
    show OStop _ _ _ _ _ _
    refine ostop S8.toSN U8 B7 (by kts_sub) fun g9 T9 S9 N9 => ?_
    subst eG
    refine hstop _ _ _ (T7.trans T9) S9 ?_
    repeat (first | exact At.nil | refine At.cons (N9 (_, _) (by k_mem)).1 ?_)
  ))
end Z9
theorem hkT : hkS := no_implicit_lambda% (@hkapp _ _ hkK.2 (fun a b c d e f g h i j k l m n o p q r s t u v w x y z xa xb xc xd xe xf xg xh xi xj xk xl xm xn => @epsV Z9.hkP (by with_unfolding_all exact Z9.hkM) (vv (lk [xi] d9E) (lk [xc] d9C) (lk [xh] d9T) (lk [xe] d9K) (lk [xj] d9A) (lk [d] d9X) (lk [c] d9S) (lk [xd] d9G) (lk [a] d9W) (lk [b] d9P) e9Q (lk [g] d9R) (lk [xg] d9V) (lk [y, z] d9Z) e9I (lk [v] d9L) (lk [e, f, xn] d9M) (lk [xk, xl] d9H) e9O (lk [h, i, j, k, l, m, n, o, p, q, r, s, t, u, w, x, xa, xb, xf, xm] d9N))))
end gr_end_c
theorem gr_end : gr_end_c.hkS := @gr_end_c.hkT
-- Gs
section
noncomputable def Stands (A₀ : Around) (base : Heap) (outer : List Env) (h₀ : Heap) (L : Addr) (m : Str → Option Value) (led : List (Addr × Obj)) (h : Heap) : Prop :=
  ∃ h₁, KtsTurn (outer.filterMap (·.frame)) h₀ h₁ ∧ Fr h₁ L h m ∧ Below A₀ base outer h₁ ∧ KtsDicts (outer.filterMap (·.frame)) h₁ ∧ News h₁ L h led
section
variable {A₀ : Around} {base h₀ h h' : Heap} {outer : List Env} {L : Addr} {m : Str → Option Value} {led : List (Addr × Obj)}
theorem Stands.turn {h₁ : Heap} (T : KtsTurn (outer.filterMap (·.frame)) h₀ h₁) (x : Stands A₀ base outer h₁ L m led h) : Stands A₀ base outer h₀ L m led h := by
  obtain ⟨h₂, a, r⟩ := x
  exact ⟨h₂, T.trans a, r⟩
theorem Stands.sub {led' : List (Addr × Obj)} (x : Stands A₀ base outer h₀ L m led h) (s : ∀ p ∈ led', p ∈ led) : Stands A₀ base outer h₀ L m led' h := by
  obtain ⟨h₁, a, b, c, d, N⟩ := x
  exact ⟨h₁, a, b, c, d, fun p hp => N p (s p hp)⟩
theorem Stands.but {S : Addr} (x : Stands A₀ base outer h₀ L m led h) (hs : Heap.SameBut S h h') (hL : S ≠ L) (h0 : h₀.get? S = none) (hn : ∀ p ∈ led, p.1 ≠ S) : Stands A₀ base outer h₀ L m led h' := by
  obtain ⟨h₁, a, F, c, d, N⟩ := x
  exact ⟨h₁, a, F.change hs hL (a.none_ _ h0), c, d, fun p hp => ⟨(hs.2 _ (hn p hp)).trans (N p hp).1, (N p hp).2⟩⟩
theorem Stands.grow (x : Stands A₀ base outer h₀ L m led h) (hk : h.StaysIn h') : Stands A₀ base outer h₀ L m led h' := by
  obtain ⟨h₁, a, F, c, d, N⟩ := x
  exact ⟨h₁, a, F.keeps hk, c, d, N.grown hk⟩
end
section
variable {w : World} {p : Program} {loose : List Str} {mean : ExcName → Option Value} {mg mb : Str → Option Value} {s : Shared} {I : Addr} {muts led : List (Addr × Obj)} {dr ur : Nat} {Item : Heap → Heap → Value → Prop} {Stop : Heap → Heap → Prop}
    {dp un : Nat} {gd : Option (List Code)} {cn : Str} {cs : Scope} {a : Addr} {ccd : Value} {cl : List (Str × Addr)} {outer : List Env} {A₀ : Around} {base h₀ : Heap} {L : Addr} {m : Str → Option Value} {Q : Option Value → Shared → Prop} {E : Value → Shared → Prop}
structure After (A₀ : Around) (base : Heap) (outer : List Env) (h₀ : Heap) (L : Addr) (m : Str → Option Value) (muts : List (Addr × Obj)) (h h' h₂ : Heap) : Prop where
  T : KtsTurn (outer.filterMap (·.frame)) h₀ h₂
  F : Fr h₂ L h' m
  B : Below A₀ base outer h₂
  D : KtsDicts (outer.filterMap (·.frame)) h₂
  chg : ∀ q ∈ muts.map (·.1), q ≠ L ∧ h₂.get? q = none
  keep : ∀ b o, b ∉ muts.map (·.1) → b ≠ L → h₀.get? b = none → h.get? b = some o → h'.get? b = some o
  none_ : ∀ b, h₀.get? b = none → h₂.get? b = none
theorem next_use (C : NextS w p loose mean mg mb I s muts dr ur Item Stop) (St : Stands A₀ base outer h₀ L m led s.heap) (hm : ∀ q ∈ muts, q ∈ led) (X : (hd.heap_39 w.params).In base) (T : Top p loose mean mg mb base)
    (hk : cs.kind = .function) (hd : dp + dr < recursionLimit) (hu : un + ur < cLine)
    (item : ∀ v h' tk' g' h₂, After A₀ base outer h₀ L m muts s.heap h' h₂ → (∀ q, g'.get? q = none → q ≠ L ∧ h₂.get? q = none ∧ (q ∉ muts.map (·.1) → s.heap.get? q = none)) → Item g' h' v → Q (some v) { s with heap := h', toks := tk' })
    (stop : ∀ h' tk' g' h₂, After A₀ base outer h₀ L m muts s.heap h' h₂ → Stop g' h' → Q none { s with heap := h', toks := tk' }) :
    wpAny (model PG w) (ktrTop dp un gd cn cs L a ccd cl outer) (pyNext (.ref I)) Q E s := by
  obtain ⟨h₁, T₁, F, B, D, N0⟩ := St
  have N : News h₁ L s.heap muts := fun q hq => N0 q (hm q hq)
  have key : ∀ h' g', KtsTurn ((envX cn cs L a ccd cl :: outer).filterMap (·.frame)) (hideAll s.heap (muts.map (·.1))) g' → g'.StaysIn h' →
      ∃ h₂, After A₀ base outer h₀ L m muts s.heap h' h₂ ∧ (∀ q, g'.get? q = none → q ≠ L ∧ h₂.get? q = none ∧ (q ∉ muts.map (·.1) → s.heap.get? q = none)) := by
    intro h' g' T' S'
    obtain ⟨h₂, b1, b2, b3, b4, b5, b6⟩ := turn_back B F N D rfl T' S'
    refine ⟨h₂, ⟨T₁.trans b1, b2, b3, b4, fun q hq => ?_, fun b o c1 c2 c3 c4 => b6 b o c1 c2 (T₁.none_ _ c3) c4, fun b e => b5 _ (T₁.none_ _ e)⟩, fun q hq => ?_⟩
    · obtain ⟨p, hp, rfl⟩ := List.mem_map.mp hq
      exact ⟨(N p hp).2.1, b5 _ (N p hp).2.2⟩
    · obtain ⟨st, nL⟩ := hid_keep F N
      have up : ∀ o, (hideAll s.heap (muts.map (·.1))).get? q ≠ some o := fun o e => by
        obtain ⟨sl, hs⟩ := T'.up e
        rw [hq] at hs; cases hs
      refine ⟨fun z => ?_, b5 _ ?_, fun nm => ?_⟩
      · obtain ⟨oL, _, _, hL, _⟩ := F.ns
        exact up oL (z ▸ hideAll_get _ hL nL)
      · cases z : h₁.get? q with
        | none => rfl
        | some o => exact absurd (st _ _ z) (up o)
      · cases z : s.heap.get? q with
        | none => rfl
        | some o => exact absurd (hideAll_get _ z nm) (up o)
  unfold NextS NextSC PG at C
  refine C dp un gd cn cs a ccd cl outer A₀ base h₁ L m Q E B F N X T D hk hd hu (fun v h' tk' g' T' S' it => ?_) fun h' tk' g' T' S' st => ?_
  · obtain ⟨h₂, z1, z2⟩ := key h' g' T' S'
    exact item v h' tk' g' h₂ z1 z2 it
  · obtain ⟨h₂, z1, _⟩ := key h' g' T' S'
    exact stop h' tk' g' h₂ z1 st
end
noncomputable abbrev It.obj (i : It) : Obj := tupO [.int i.v i.tv, .int i.q i.tq]
noncomputable abbrev It.ent (i : It) : Addr × Obj := (i.T, i.obj)
noncomputable abbrev It.key (i : It) : Value := .int i.v i.tv
noncomputable abbrev GP.os (P : GP) : List Value := P.its.map fun i => .ref i.T
noncomputable abbrev GP.led (P : GP) (go lo : Obj) : List (Addr × Obj) := gLed P.gb P.d P.ig P.dI P.tp P.li P.D P.t0 P.os P.e go lo
noncomputable abbrev GP.tl (P : GP) : List (Addr × Obj) := P.its.map It.ent
structure GP.Ok (P : GP) (φ : Tok → Int) : Prop where
  o1 : ∀ i ∈ P.its, @LT.lt Nat _ i.T P.D
  o2 : @LT.lt Nat _ P.D P.dI
  o3 : @LT.lt Nat _ P.dI P.ig
  o4 : @LT.lt Nat _ P.ig P.tp
  o5 : @LT.lt Nat _ P.tp P.d
  o6 : @LT.lt Nat _ P.d P.gb
  o7 : @LT.lt Nat _ P.gb P.li
  tok : ∀ i ∈ P.its, i.tv ≠ 0 ∧ φ i.tv = i.v
noncomputable abbrev GP.fresh (P : GP) (t1 t2 : Tok) : Obj := gbObj P.d P.ig P.li false .none false .none false .none 0 t1 0 t2
noncomputable abbrev GP.held (P : GP) (x : It) (sr : Int) (t1 t2 : Tok) : Obj := gbObj P.d P.ig P.li true x.key true x.key true (.ref x.T) sr t1 sr t2
noncomputable abbrev GP.mid (P : GP) (x : It) (sr : Int) (t1 t2 : Tok) : Obj := gbObj P.d P.ig P.li true x.key false .none false .none sr t1 sr t2
noncomputable abbrev GP.ahead (P : GP) (x y : It) (sr : Int) (t1 t2 : Tok) : Obj := gbObj P.d P.ig P.li true x.key true y.key true (.ref y.T) sr t1 sr t2
noncomputable abbrev GP.gr (P : GP) (gr dG : Addr) (x : It) (sr : Int) (tn : Tok) : List (Addr × Obj) := [(gr, grObj dG P.gb x.key sr tn), (dG, dictOf [] 0)]
section
variable {P : GP} {φ : Tok → Int}
theorem GP.os_get {j : Nat} {x : It} (h : P.its[j]? = some x) : P.os[j]? = some (.ref x.T) := by
  show (P.its.map fun i => Value.ref i.T)[j]? = _
  rw [List.getElem?_map, h]; rfl
theorem GP.os_none {j : Nat} (h : P.its[j]? = none) : P.os[j]? = none := by
  show (P.its.map fun i => Value.ref i.T)[j]? = _
  rw [List.getElem?_map, h]; rfl
theorem GP.ent_mem {j : Nat} {x : It} (h : P.its[j]? = some x) : x.ent ∈ P.tl := List.mem_map_of_mem (List.mem_of_getElem? h)
theorem Stands.was {A₀ : Around} {base h₀ h : Heap} {outer : List Env} {L : Addr} {m : Str → Option Value} {led : List (Addr × Obj)} (x : Stands A₀ base outer h₀ L m led h) : ∀ q ∈ led, h.get? q.1 = some q.2 ∧ q.1 ≠ L ∧ h₀.get? q.1 = none := fun q hq => by
  obtain ⟨h₁, T, _, _, _, N⟩ := x
  refine ⟨(N q hq).1, (N q hq).2.1, ?_⟩
  cases z : h₀.get? q.1 with
  | none => rfl
  | some o =>
    obtain ⟨sl, hs⟩ := T.up z
    have := (N q hq).2.2
    rw [hs] at this; cases this
theorem After.stands {A₀ : Around} {base h₀ h h' h₂ : Heap} {outer : List Env} {L : Addr} {m : Str → Option Value} {muts led : List (Addr × Obj)} (Z : After A₀ base outer h₀ L m muts h h' h₂) (N : News h₂ L h' led) : Stands A₀ base outer h₀ L m led h' :=
  ⟨h₂, Z.T, Z.F, Z.B, Z.D, N⟩
theorem After.news {A₀ : Around} {base h₀ h h' h₂ : Heap} {outer : List Env} {L : Addr} {m : Str → Option Value} {muts led : List (Addr × Obj)} (Z : After A₀ base outer h₀ L m muts h h' h₂) (N : ∀ q ∈ led, h.get? q.1 = some q.2 ∧ q.1 ≠ L ∧ h₀.get? q.1 = none)
    (new : ∀ q ∈ led, q.1 ∈ muts.map (·.1) → h'.get? q.1 = some q.2) : News h₂ L h' led := fun q hq => by
  obtain ⟨n1, n2, n3⟩ := N q hq
  by_cases hm : q.1 ∈ muts.map (·.1)
  · exact ⟨new q hq hm, n2, Z.none_ _ n3⟩
  · exact ⟨Z.keep _ _ hm n2 n3 n1, n2, Z.none_ _ n3⟩
end
end
-- Gf
section
theorem after_led {A₀ : Around} {base h₀ h h' h₂ : Heap} {outer : List Env} {L : Addr} {m : Str → Option Value} {muts led ch un : List (Addr × Obj)} (Z : After A₀ base outer h₀ L m muts h h' h₂) (St : Stands A₀ base outer h₀ L m led h)
    (hc : At h' ch) (hcm : ∀ q ∈ ch, q.1 ∈ muts.map (·.1)) (hu : ∀ q ∈ un, q ∈ led) (hun : ∀ q ∈ un, q.1 ∈ muts.map (·.1) → h'.get? q.1 = some q.2) : Stands A₀ base outer h₀ L m (ch ++ un) h' := by
  refine Z.stands fun q hq => ?_
  rcases List.mem_append.mp hq with hq | hq
  · exact ⟨hc q hq, Z.chg _ (hcm q hq)⟩
  · exact (After.news Z (fun p hp => St.was p (hu p hp)) hun) q hq
noncomputable abbrev GP.grp (P : GP) (gr dG : Addr) (x : It) (sr : Int) (tn : Tok) (more : List (Addr × Obj)) (go lo : Obj) : List (Addr × Obj) := P.gr gr dG x sr tn ++ P.led go lo ++ (P.tl ++ more)
noncomputable def GP.adr (P : GP) (gr dG : Addr) (more : List (Addr × Obj)) : List Addr := [gr, dG, P.gb, P.d, P.ig, P.dI, P.tp, P.li, P.D] ++ (P.its.map It.T ++ more.map (·.1))
theorem GP.grp_adr (P : GP) (gr dG : Addr) (x : It) (sr : Int) (tn : Tok) (more : List (Addr × Obj)) (go lo : Obj) : (P.grp gr dG x sr tn more go lo).map (·.1) = P.adr gr dG more := by
  simp [GP.adr]
theorem GP.grp_ne {P : GP} {gr dG S : Addr} {x : It} {sr : Int} {tn : Tok} {more : List (Addr × Obj)} {go lo : Obj} (h : S ∉ P.adr gr dG more) : ∀ p ∈ P.grp gr dG x sr tn more go lo, p.1 ≠ S := fun p hp e => by
  refine h ?_
  rw [← P.grp_adr gr dG x sr tn more go lo, ← e]
  exact List.mem_map_of_mem hp
noncomputable def GrInv (P : GP) (A₀ : Around) (base : Heap) (outer : List Env) (h₀ : Heap) (L : Addr) (m : Str → Option Value) (gr dG : Addr) (x : It) (sr : Int) (tn t1 t2 : Tok) (more : List (Addr × Obj)) (j : Nat) (S : Addr) (i : Nat) (acc : Array Value) (h : Heap) : Prop :=
  acc.size = i ∧ acc.toList = (P.os.drop j).take i ∧ (i = 0 → Stands A₀ base outer h₀ L m (P.grp gr dG x sr tn more (P.held x sr t1 t2) (liObj P.D (j + 1))) h) ∧
    (0 < i → Stands A₀ base outer h₀ L m (P.grp gr dG x sr tn more (P.mid x sr t1 t2) (liObj P.D (j + i))) h) ∧ ∃ o, h.get? S = some o
noncomputable def GrFin (P : GP) (A₀ : Around) (base : Heap) (outer : List Env) (h₀ : Heap) (L : Addr) (m : Str → Option Value) (gr dG : Addr) (x : It) (sr : Int) (tn t1 t2 : Tok) (more : List (Addr × Obj)) (j n : Nat) (acc : Array Value) (h : Heap) : Prop :=
  acc.toList = (P.os.drop j).take n ∧ (∀ y, P.its[j + n]? = some y → Stands A₀ base outer h₀ L m (P.grp gr dG x sr tn more (P.ahead x y sr t1 t2) (liObj P.D (j + n + 1))) h) ∧
    (P.its[j + n]? = none → Stands A₀ base outer h₀ L m (P.grp gr dG x sr tn more (P.mid x sr t1 t2) (liEnd (j + n))) h)
theorem take_snoc {α : Type} {l : List α} {i : Nat} {x : α} (h : l[i]? = some x) : l.take (i + 1) = l.take i ++ [x] := by rw [List.take_add_one, h]; rfl
section
variable {φ : Tok → Int} {w : World} {p : Program} {loose : List Str} {mean : ExcName → Option Value} {mg mb : Str → Option Value}
    {dp un : Nat} {gd : Option (List Code)} {cn : Str} {cs : Scope} {a : Addr} {ccd : Value} {cl : List (Str × Addr)} {outer : List Env} {A₀ : Around} {base h₀ : Heap} {L : Addr} {m : Str → Option Value}
    {P : GP} {gr dG S : Addr} {x : It} {sr : Int} {tn t1 t2 : Tok} {more : List (Addr × Obj)} {j n : Nat}
theorem nmc {a b : Addr} {l : List Addr} (h : @LT.lt Nat _ a b) (t : a ∉ l) : a ∉ b :: l := List.not_mem_cons_of_ne_of_not_mem (Nat.ne_of_lt h) t
theorem mem_adr_order (ok : P.Ok φ) (o8 : @LT.lt Nat _ P.li dG) (o9 : @LT.lt Nat _ dG gr) {i : It} (hi : i ∈ P.its) : i.T ∉ [gr, dG, P.gb, P.d, P.ig, P.dI, P.tp, P.li, P.D] := by
  have h1 := ok.o1 i hi
  have h2 := ok.o2
  have h3 := ok.o3
  have h4 := ok.o4
  have h5 := ok.o5
  have h6 := ok.o6
  have h7 := ok.o7
  have c2 := Nat.lt_trans h1 h2
  have c3 := Nat.lt_trans c2 h3
  have c4 := Nat.lt_trans c3 h4
  have c5 := Nat.lt_trans c4 h5
  have c6 := Nat.lt_trans c5 h6
  have c7 := Nat.lt_trans c6 h7
  have c8 := Nat.lt_trans c7 o8
  have c9 := Nat.lt_trans c8 o9
  exact nmc c9 (nmc c8 (nmc c6 (nmc c5 (nmc c3 (nmc c2 (nmc c4 (nmc c7 (nmc h1 List.not_mem_nil))))))))
theorem un_more (ok : P.Ok φ) (o8 : @LT.lt Nat _ P.li dG) (o9 : @LT.lt Nat _ dG gr) (hmore : ∀ q ∈ more, q.1 ∉ [gr, dG, P.gb, P.d, P.ig, P.dI, P.tp, P.li, P.D] ∧ q.1 ∉ P.its.map It.T) {muts : List (Addr × Obj)} {h h' : Heap} {y : Option It}
    (hy : ∀ z, y = some z → z ∈ P.its ∧ h'.get? z.T = some z.obj ∧ h.get? z.T = some z.obj) (hold : ∀ q ∈ P.tl, h.get? q.1 = some q.2)
    (hmu : ∀ b ∈ muts.map (·.1), b ∈ [gr, dG, P.gb, P.d, P.ig, P.dI, P.tp, P.li, P.D] ∨ ∃ z, y = some z ∧ b = z.T) : ∀ q ∈ P.tl ++ more, q.1 ∈ muts.map (·.1) → h'.get? q.1 = some q.2 := by
  intro q hq hqm
  rcases List.mem_append.mp hq with hq | hq
  · obtain ⟨i, hi, rfl⟩ := List.mem_map.mp hq
    rcases hmu _ hqm with z | ⟨z, hz, e⟩
    · exact absurd z (mem_adr_order ok o8 o9 hi)
    · obtain ⟨_, b1, b2⟩ := hy z hz
      have e' : i.T = z.T := e
      have := hold _ hq
      show h'.get? i.T = some i.obj
      have g : h.get? i.T = some i.obj := this
      rw [e'] at g ⊢
      rw [b2] at g
      rw [b1]; exact g
  · obtain ⟨c1, c2⟩ := hmore q hq
    rcases hmu _ hqm with z | ⟨z, hz, e⟩
    · exact absurd z c1
    · exact absurd (e ▸ List.mem_map_of_mem (hy z hz).1) c2
theorem sub_ent {α : Type} {X tl more : List α} {e : α} (h : e ∈ tl) : ∀ q ∈ X ++ [e], q ∈ X ++ (tl ++ more) := fun q hq => by
  rcases List.mem_append.mp hq with hq | hq
  · exact List.mem_append_left _ hq
  · rw [List.mem_singleton.mp hq]; exact List.mem_append_right _ (List.mem_append_left _ h)
theorem keep_o {x y : Option Obj} {o : Obj} (h : x = some o) (h' : y = some o) : ∀ o', x = some o' → y = some o' := fun o' e => h'.trans (h.symm.trans e)
theorem front_after (ok : P.Ok φ) (o8 : @LT.lt Nat _ P.li dG) (o9 : @LT.lt Nat _ dG gr) (hmore : ∀ q ∈ more, q.1 ∉ [gr, dG, P.gb, P.d, P.ig, P.dI, P.tp, P.li, P.D] ∧ q.1 ∉ P.its.map It.T) {h h' h₂ : Heap} {go0 lo0 go lo : Obj}
    (Z : After A₀ base outer h₀ L m (P.gr gr dG x sr tn ++ P.led go0 lo0) h h' h₂) (St : Stands A₀ base outer h₀ L m (P.grp gr dG x sr tn more go0 lo0) h) (hat : At h' (P.gr gr dG x sr tn ++ P.led go lo)) : Stands A₀ base outer h₀ L m (P.grp gr dG x sr tn more go lo) h' :=
  after_led Z St hat (fun q hq => List.mem_map_of_mem (f := (·.1)) hq) (fun q hq => List.mem_append_right _ hq) (un_more (y := none) ok o8 o9 hmore (fun z e => by cases e) (fun q hq => (St.was q (List.mem_append_right _ (List.mem_append_left _ hq))).1) fun b hb => .inl hb)
theorem mid_after (ok : P.Ok φ) (o8 : @LT.lt Nat _ P.li dG) (o9 : @LT.lt Nat _ dG gr) (hmore : ∀ q ∈ more, q.1 ∉ [gr, dG, P.gb, P.d, P.ig, P.dI, P.tp, P.li, P.D] ∧ q.1 ∉ P.its.map It.T) {h h' h₂ : Heap} {go0 lo0 go lo : Obj} {y : It} (hym : y ∈ P.its)
    (Z : After A₀ base outer h₀ L m ((P.gr gr dG x sr tn ++ P.led go0 lo0) ++ [y.ent]) h h' h₂) (St : Stands A₀ base outer h₀ L m (P.grp gr dG x sr tn more go0 lo0) h) (hat : At h' (P.gr gr dG x sr tn ++ (y.ent :: P.led go lo))) : Stands A₀ base outer h₀ L m (P.grp gr dG x sr tn more go lo) h' := by
  have hyt : y.ent ∈ P.tl := List.mem_map_of_mem hym
  refine after_led Z St (fun q hq => ?_) (fun q hq => ?_) (fun q hq => List.mem_append_right _ hq) (un_more (y := some y) ok o8 o9 hmore (fun z e => ?_) (fun q hq => (St.was q (List.mem_append_right _ (List.mem_append_left _ hq))).1) fun b hb => ?_)
  · refine hat q ?_
    rcases List.mem_append.mp hq with hq | hq
    · exact List.mem_append_left _ hq
    · exact List.mem_append_right _ (List.mem_cons_of_mem _ hq)
  · rw [List.map_append]
    exact List.mem_append_left _ (List.mem_map_of_mem (f := (·.1)) hq)
  · cases e
    exact ⟨hym, hat (y.T, y.obj) (List.mem_append_right _ (List.mem_cons_self ..)), (St.was _ (List.mem_append_right _ (List.mem_append_left _ hyt))).1⟩
  · rcases List.mem_append.mp (show b ∈ [gr, dG, P.gb, P.d, P.ig, P.dI, P.tp, P.li, P.D] ++ [y.T] from hb) with hb | hb
    · exact .inl hb
    · exact .inr ⟨y, rfl, List.mem_singleton.mp hb⟩
end
namespace gr_item_c
noncomputable def hkS : Prop := ∀ {φ : Tok → Int} {w : World} {p : Program} {loose : List Str} {mean : ExcName → Option Value} {mg : Str → Option Value} {mb : Str → Option Value} {dp : Nat} {un : Nat} {gd : Option (List Code)} {cn : Str} {cs : Scope} {a : Addr} {ccd : Value} {cl : List (Str × Addr)} {outer : List Env} {A₀ : Around} {base : Heap} {h₀ : Heap} {L : Addr} {m : Str → Option Value} {P : GP} {gr : Addr} {dG : Addr} {S : Addr} {x : It} {sr : Int} {tn : Tok} {t1 : Tok} {t2 : Tok} {more : List (Addr × Obj)} {j : Nat} {n : Nat} (ok : P.Ok φ) (o8 : @LT.lt Nat _ P.li dG) (o9 : @LT.lt Nat _ dG gr) (hmore : ∀ q ∈ more, q.1 ∉ [gr, dG, P.gb, P.d, P.ig, P.dI, P.tp, P.li, P.D] ∧ q.1 ∉ P.its.map It.T) (hx : P.its[j]? = some x) (hrun : ∀ i, i < n → ∃ y, P.its[j + i]? = some y ∧ y.v = x.v) (hS : S ∉ P.adr gr dG more) (hSL : S ≠ L) (hS0 : h₀.get? S = none) (X : (hd.heap_39 w.params).In base) (T : Top p loose mean mg mb base) (hk : cs.kind = .function) (hd : dp + 6 < recursionLimit) (hu : un + 80 < cLine) (i : Nat) (acc : Array Value) (s : Shared) (Q : Option Value → Shared → Prop) (E : Value → Shared → Prop) (hi : i < n) (I : GrInv P A₀ base outer h₀ L m gr dG x sr tn t1 t2 more j S i acc s.heap) (hQ : ∀ v h' tk, GrInv P A₀ base outer h₀ L m gr dG x sr tn t1 t2 more j S (i + 1) (acc.push v) h' → (∀ o, s.heap.get? S = some o → h'.get? S = some o) → Q (some v) { s with heap := h', toks := tk }), wpAny (model PG w) (ktrTop dp un gd cn cs L a ccd cl outer) (pyNext (.ref gr)) Q E s
noncomputable def hkK : Σ' P : (Tok → Int) → World → Program → tS → tX → tM → tM → Nat → Nat → tC → Str → Scope → Addr → Value → tA → tE → Around → Heap → Heap → Addr → tM → GP → Addr → Addr → Addr → It → Int → Tok → Tok → Tok → (List (Addr × Obj)) → Nat → Nat → (Array Value) → Shared → (Option Value → Shared → Prop) → tQ → Prop, (∀ a b c d e f g h i j k l m n o p q r s t u v w x y z xa xb xc xd xe xf xg xh xi xj xk, P a b c d e f g h i j k l m n o p q r s t u v w x y z xa xb xc xd xe xf xg xh xi xj xk) → hkS := ⟨_, fun hk9 => by intro φ w p loose mean mg mb dp un gd cn cs a ccd cl outer A₀ base h₀ L m P gr dG S x sr tn t1 t2 more j n ok o8 o9 hmore hx hrun hS hSL hS0 X T hk hd hu i acc s Q E hi I hQ; revert hQ; revert I; revert hi; revert i; revert hu; revert hd; revert hk; revert T; revert X; revert hS0; revert hSL; revert hS; revert hrun; revert hx; revert hmore; revert o9; revert o8; revert ok; apply (hk9 φ w p loose mean mg mb dp un gd cn cs a ccd cl outer A₀ base h₀ L m P gr dG S x sr tn t1 t2 more j n acc s Q E)⟩
namespace Z9
noncomputable def hkP (y : VV) := hkK.1 (y.l 0) (y.W 0) (y.P 0) (y.S 0) (y.X 0) (y.M 0) (y.M 1) (y.N 0) (y.N 1) (y.C 0) (y.G 0) (y.K 0) (y.N 2) (y.V 0) (y.T 0) (y.E 0) (y.A 0) (y.H 0) (y.H 1) (y.N 3) (y.M 2) (y.g 0) (y.N 4) (y.N 5) (y.N 6) (y.w 0) (y.Z 0) (y.N 7) (y.N 8) (y.N 9) (y.o 0) (y.N 10) (y.N 11) (y.b 0) (y.R 0) (y.d 0) (y.Q 0)
@[irreducible] noncomputable def hkG1 := epsV0 hkP
@[irreducible] def S : Addr := hkG1.N 6
@[irreducible] def x : It := hkG1.w 0
@[irreducible] def acc : (Array Value) := hkG1.b 0
theorem hkM : hkP hkG1 := (by exact @wI _ _ : @wT (hkP hkG1) (by
  with_unfolding_all show hkK.1 (hkG1.l 0) (hkG1.W 0) (hkG1.P 0) (hkG1.S 0) (hkG1.X 0) (hkG1.M 0) (hkG1.M 1) (hkG1.N 0) (hkG1.N 1) (hkG1.C 0) (hkG1.G 0) (hkG1.K 0) (hkG1.N 2) (hkG1.V 0) (hkG1.T 0) (hkG1.E 0) (hkG1.A 0) (hkG1.H 0) (hkG1.H 1) (hkG1.N 3) (hkG1.M 2) (hkG1.g 0) (hkG1.N 4) (hkG1.N 5) S x (hkG1.Z 0) (hkG1.N 7) (hkG1.N 8) (hkG1.N 9) (hkG1.o 0) (hkG1.N 10) (hkG1.N 11) acc (hkG1.R 0) (hkG1.d 0) (hkG1.Q 0)
  intro ok o8 o9 hmore hx hrun hS hSL hS0 X T hk hd hu i hi I hQ
  obtain ⟨i1, i2, i3, i4, o, ho⟩ := I
  obtain ⟨y, hy, hyv⟩ := hrun i hi
  have hxm := List.mem_of_getElem? hx
  have hym := List.mem_of_getElem? hy
  have nS : ∀ muts : List (Addr × Obj), (∀ q ∈ muts.map (·.1), q ∈ (hkG1.g 0).adr (hkG1.N 4) (hkG1.N 5) (hkG1.o 0)) → S ∉ muts.map (·.1) := fun muts h hm => hS (h S hm)
  have acc' : ∀ v, v = .ref y.T → (acc.push v).size = i + 1 ∧ (acc.push v).toList = ((hkG1.g 0).os.drop (hkG1.N 10)).take (i + 1) := fun v hv => by
    subst hv
    refine ⟨by rw [Array.size_push, i1], ?_⟩
    rw [Array.toList_push, i2, take_snoc (x := .ref y.T) (by rw [List.getElem?_drop]; exact GP.os_get hy)]
  by_cases h0 : i = 0
  · subst h0
    have St := i3 rfl
    have C := gr_held (hkG1.W 0) (hkG1.P 0) (hkG1.S 0) (hkG1.X 0) (hkG1.M 0) (hkG1.M 1) (hkG1.R 0) (hkG1.N 4) (hkG1.N 5) (hkG1.g 0).gb (hkG1.g 0).d (hkG1.g 0).ig (hkG1.g 0).dI (hkG1.g 0).tp (hkG1.g 0).li (hkG1.g 0).D x.T (hkG1.g 0).t0 (hkG1.N 8) (hkG1.N 9) (hkG1.N 7) x.tv (hkG1.g 0).os (hkG1.g 0).e ((hkG1.N 10) + 1) x.v (hkG1.Z 0) (ok.tok x hxm).1 ok.o2 ok.o3 ok.o4 ok.o5 ok.o6 ok.o7 o8 o9
    refine next_use C St (fun q hq => List.mem_append_left _ hq) X T hk hd hu (fun v h' tk' g' h₂ Z hf it => ?_) (fun h' tk' g' h₂ Z st => st.elim)
    obtain ⟨rfl, hat⟩ := it
    have exy : y = x := by rw [Nat.add_zero, hx] at hy; exact (Option.some.inj hy).symm
    subst exy
    have Sk := Z.keep S o (nS _ fun q hq => List.mem_append_left _ hq) hSL hS0 ho
    exact hQ _ h' tk' ⟨(acc' _ rfl).1, (acc' _ rfl).2, fun z => absurd z (Nat.succ_ne_zero _), fun _ => front_after ok o8 o9 hmore Z St hat, o, Sk⟩ (keep_o ho Sk)
  · have St := i4 (Nat.pos_of_ne_zero h0)
    have tk := ok.tok y hym
    have C := gr_mid (hkG1.W 0) (hkG1.P 0) (hkG1.S 0) (hkG1.X 0) (hkG1.M 0) (hkG1.M 1) (hkG1.R 0) (hkG1.N 4) (hkG1.N 5) (hkG1.g 0).gb (hkG1.g 0).d (hkG1.g 0).ig (hkG1.g 0).dI (hkG1.g 0).tp (hkG1.g 0).li (hkG1.g 0).D y.T (hkG1.g 0).t0 (hkG1.N 8) (hkG1.N 9) (hkG1.N 7) x.tv y.tv y.tq (hkG1.g 0).os (hkG1.g 0).e ((hkG1.N 10) + i) x.v y.v y.q (hkG1.Z 0) (GP.os_get hy) (ok.o1 y hym) (ok.tok x hxm).1 tk.1 (fun e => by rw [← (ok.tok x hxm).2, ← tk.2, e]) ok.o2 ok.o3 ok.o4 ok.o5 ok.o6 ok.o7 o8 o9
    refine next_use C St (sub_ent (X := (hkG1.g 0).gr (hkG1.N 4) (hkG1.N 5) x (hkG1.Z 0) (hkG1.N 7) ++ (hkG1.g 0).led ((hkG1.g 0).mid x (hkG1.Z 0) (hkG1.N 8) (hkG1.N 9)) (liObj (hkG1.g 0).D ((hkG1.N 10) + i))) (GP.ent_mem hy)) X T hk hd hu (fun v h' tk' g' h₂ Z hf it => ?_) (fun h' tk' g' h₂ Z st => absurd hyv st.1)
    obtain ⟨_, rfl, hat⟩ := it
    have Sk := Z.keep S o (nS _ fun q hq => sub_ent (X := [(hkG1.N 4), (hkG1.N 5), (hkG1.g 0).gb, (hkG1.g 0).d, (hkG1.g 0).ig, (hkG1.g 0).dI, (hkG1.g 0).tp, (hkG1.g 0).li, (hkG1.g 0).D]) (List.mem_map_of_mem hym) q hq) hSL hS0 ho
    exact hQ _ h' tk' ⟨(acc' _ rfl).1, (acc' _ rfl).2, fun z => absurd z (Nat.succ_ne_zero _), fun _ => mid_after ok o8 o9 hmore hym Z St hat, o, Sk⟩ (keep_o ho Sk)
  ))
end Z9
theorem hkT : hkS := no_implicit_lambda% (@hkapp _ _ hkK.2 (fun a b c d e f g h i j k l m n o p q r s t u v w x y z xa xb xc xd xe xf xg xh xi xj xk => @epsV Z9.hkP (by with_unfolding_all exact Z9.hkM) (⟨e9a, lk [xh] d9b, e9c, lk [xj] d9d, e9e, e9f, lk [v] d9g, e9h, e9v, lk [z] d9w, e9x, e9y, e9i, e9j, e9k, lk [a] d9l, e9m, e9n, lk [xe] d9o, e9p, e9q, e9r, e9s, e9t, e9u, lk [p] d9E, lk [j] d9C, lk [o] d9T, lk [l] d9K, lk [q] d9A, lk [e] d9X, lk [d] d9S, lk [k] d9G, lk [b] d9W, lk [c] d9P, lk [xk] d9Q, lk [xi] d9R, lk [n] d9V, lk [xa] d9Z, e9I, e9L, lk [f, g, u] d9M, lk [r, s] d9H, e9O, lk [h, i, m, t, w, x, y, xb, xc, xd, xf, xg] d9N⟩)))
end gr_item_c
theorem gr_item : gr_item_c.hkS := @gr_item_c.hkT
section
variable {φ : Tok → Int} {w : World} {p : Program} {loose : List Str} {mean : ExcName → Option Value} {mg mb : Str → Option Value}
    {dp un : Nat} {gd : Option (List Code)} {cn : Str} {cs : Scope} {a : Addr} {ccd : Value} {cl : List (Str × Addr)} {outer : List Env} {A₀ : Around} {base h₀ : Heap} {L : Addr} {m : Str → Option Value}
    {P : GP} {gr dG S : Addr} {x : It} {sr : Int} {tn t1 t2 : Tok} {more : List (Addr × Obj)} {j n : Nat}
theorem gr_done (ok : P.Ok φ) (o8 : @LT.lt Nat _ P.li dG) (o9 : @LT.lt Nat _ dG gr) (hmore : ∀ q ∈ more, q.1 ∉ [gr, dG, P.gb, P.d, P.ig, P.dI, P.tp, P.li, P.D] ∧ q.1 ∉ P.its.map It.T)
    (hx : P.its[j]? = some x) (hn : 0 < n) (hend : ∀ y, P.its[j + n]? = some y → y.v ≠ x.v) (hS : S ∉ P.adr gr dG more) (hSL : S ≠ L) (hS0 : h₀.get? S = none)
    (X : (hd.heap_39 w.params).In base) (T : Top p loose mean mg mb base) (hk : cs.kind = .function) (hd : dp + 6 < recursionLimit) (hu : un + 80 < cLine)
    (acc : Array Value) (s : Shared) (Q : Option Value → Shared → Prop) (E : Value → Shared → Prop) (I : GrInv P A₀ base outer h₀ L m gr dG x sr tn t1 t2 more j S n acc s.heap)
    (hQ : ∀ h' tk, GrFin P A₀ base outer h₀ L m gr dG x sr tn t1 t2 more j n acc h' → (∀ o, s.heap.get? S = some o → h'.get? S = some o) → Q none { s with heap := h', toks := tk }) :
    wpAny (model PG w) (ktrTop dp un gd cn cs L a ccd cl outer) (pyNext (.ref gr)) Q E s := by
  obtain ⟨i1, i2, i3, i4, o, ho⟩ := I
  have hxm := List.mem_of_getElem? hx
  have nS : ∀ muts : List (Addr × Obj), (∀ q ∈ muts.map (·.1), q ∈ P.adr gr dG more) → S ∉ muts.map (·.1) := fun muts h hm => hS (h S hm)
  have St := i4 hn
  cases hy : P.its[j + n]? with
  | some y =>
    have hym := List.mem_of_getElem? hy
    have hyv := hend y hy
    have tk := ok.tok y hym
    have C := gr_mid w p loose mean mg mb s gr dG P.gb P.d P.ig P.dI P.tp P.li P.D y.T P.t0 t1 t2 tn x.tv y.tv y.tq P.os P.e (j + n) x.v y.v y.q sr (GP.os_get hy) (ok.o1 y hym) (ok.tok x hxm).1 tk.1 (fun e => by rw [← (ok.tok x hxm).2, ← tk.2, e]) ok.o2 ok.o3 ok.o4 ok.o5 ok.o6 ok.o7 o8 o9
    refine next_use C St (sub_ent (X := P.gr gr dG x sr tn ++ P.led (P.mid x sr t1 t2) (liObj P.D (j + n))) (GP.ent_mem hy)) X T hk hd hu (fun v h' tk' g' h₂ Z hf it => absurd it.1 hyv) (fun h' tk' g' h₂ Z st => ?_)
    obtain ⟨_, hat⟩ := st
    have Sk := Z.keep S o (nS _ fun q hq => sub_ent (X := [gr, dG, P.gb, P.d, P.ig, P.dI, P.tp, P.li, P.D]) (List.mem_map_of_mem hym) q hq) hSL hS0 ho
    refine hQ h' tk' ⟨i2, fun y' e => ?_, fun e => ?_⟩ (keep_o ho Sk)
    · cases Option.some.inj (hy.symm.trans e)
      exact mid_after ok o8 o9 hmore hym Z St hat
    · rw [hy] at e; cases e
  | none =>
    have C := gr_end w p loose mean mg mb s gr dG P.gb P.d P.ig P.dI P.tp P.li P.D P.t0 t1 t2 tn x.tv P.os P.e (j + n) x.v sr (GP.os_none hy) ok.o2 ok.o3 ok.o4 ok.o5 ok.o6 ok.o7 o8 o9
    refine next_use C St (fun q hq => List.mem_append_left _ hq) X T hk hd hu (fun v h' tk' g' h₂ Z hf it => it.elim) (fun h' tk' g' h₂ Z hat => ?_)
    have Sk := Z.keep S o (nS _ fun q hq => List.mem_append_left _ hq) hSL hS0 ho
    exact hQ h' tk' ⟨i2, fun y' e => (by rw [hy] at e; cases e), fun e => front_after ok o8 o9 hmore Z St hat⟩ (keep_o ho Sk)
end
end
end
-- Gg
section
theorem gr_iter_t (w p loose mean mg mb) (s : Shared) (x : Addr) :
    Pure w p loose mean mg mb 158 [.ref x] [] s 4 60 (fun _ v => v = .ref x) := by
  unfold Pure PureC PG
  k_fill
  intro dp un gd cn cs a ccd cl outer A₀ base h₀ L m Q E B F X T hk hd hu hret
  refine wpAny_call ?_
  k_dflt (refine call_frozen ?_; k_whole; intro _ _ _ _ _ _ _; (try dsimp only); (try k_fold))
  walk_at "go"
  show Q _ _
  (rename Fr _ _ _ _ => F6)
  exact hret _ _ _ F6.keep rfl
theorem gb_iter_t (w p loose mean mg mb) (s : Shared) (x : Addr) :
    Pure w p loose mean mg mb 106 [.ref x] [] s 4 60 (fun _ v => v = .ref x) := by
  unfold Pure PureC PG
  k_fill
  intro dp un gd cn cs a ccd cl outer A₀ base h₀ L m Q E B F X T hk hd hu hret
  refine wpAny_call ?_
  k_dflt (refine call_frozen ?_; k_whole; intro _ _ _ _ _ _ _; (try dsimp only); (try k_fold))
  walk_at "go"
  show Q _ _
  (rename Fr _ _ _ _ => F6)
  exact hret _ _ _ F6.keep rfl
section
variable {φ : Tok → Int} {w : World} {p : Program} {loose : List Str} {mean : ExcName → Option Value} {mg mb : Str → Option Value}
    {dp un : Nat} {gd : Option (List Code)} {cn : Str} {cs : Scope} {a : Addr} {ccd : Value} {cl : List (Str × Addr)} {outer : List Env} {A₀ : Around} {base h₀ : Heap} {L : Addr} {m : Str → Option Value}
    {P : GP} {gr dG S : Addr} {x : It} {sr : Int} {tn t1 t2 : Tok} {more : List (Addr × Obj)} {j n : Nat} {s : Shared} {E : Value → Shared → Prop}
theorem iter_gr {led : List (Addr × Obj)} {Q : Value → Shared → Prop} (St : Stands A₀ base outer h₀ L m (P.gr gr dG x sr tn ++ led) s.heap) (X : (hd.heap_39 w.params).In base) (T : Top p loose mean mg mb base)
    (hk : cs.kind = .function) (hd : dp + 6 < recursionLimit) (hu : un + 80 < cLine) (h : ∀ h' tk', s.heap.StaysIn h' → Q (.ref gr) { s with heap := h', toks := tk' }) :
    wpAny (model PG w) (ktrTop dp un gd cn cs L a ccd cl outer) (pyIter (.ref gr)) Q E s := by
  obtain ⟨h₁, T₁, F, B, D, N⟩ := St
  have I : InstAt s.heap gr (grObj dG P.gb x.key sr tn) 169 (some (dictOf [] 0)) := InstAt.of_news N (List.Mem.head _) (List.Mem.tail _ (List.Mem.head _))
  have X1 := X.keeps B.stays
  have T1 := T.keeps B.stays
  unfold PG
  k_fill
  refine owit_iter F X1 I (f := 158) (by k_is) (by k_is) ?_
  have ct := gr_iter_t w p loose mean mg mb s gr
  unfold Pure PureC PG at ct
  refine ct dp un gd cn cs a ccd cl outer A₀ base h₁ L m _ E B F X1 T1 hk (by omega) (by omega) fun v h' tk' st po => ?_
  subst po
  have I' : InstAt h' gr (grObj dG P.gb x.key sr tn) 169 (some (dictOf [] 0)) := InstAt.of_news (N.grown st) (List.Mem.head _) (List.Mem.tail _ (List.Mem.head _))
  exact owit_it (F.keeps st) X1 I' (g := .ref 165) (by k_is) (h h' tk' st)
theorem iter_gb {led : List (Addr × Obj)} {cg csr : Int} {u1 u2 : Tok} {b1 b2 b3 : Bool} {v1 v2 v3 : Value} {Q : Value → Shared → Prop} (St : Stands A₀ base outer h₀ L m ((P.gb, gbObj P.d P.ig P.li b1 v1 b2 v2 b3 v3 cg u1 csr u2) :: (P.d, dictOf [] 0) :: led) s.heap) (X : (hd.heap_39 w.params).In base) (T : Top p loose mean mg mb base)
    (hk : cs.kind = .function) (hd : dp + 6 < recursionLimit) (hu : un + 80 < cLine) (h : ∀ h' tk', s.heap.StaysIn h' → Q (.ref P.gb) { s with heap := h', toks := tk' }) :
    wpAny (model PG w) (ktrTop dp un gd cn cs L a ccd cl outer) (pyIter (.ref P.gb)) Q E s := by
  obtain ⟨h₁, T₁, F, B, D, N⟩ := St
  have I : InstAt s.heap P.gb (gbObj P.d P.ig P.li b1 v1 b2 v2 b3 v3 cg u1 csr u2) 124 (some (dictOf [] 0)) := InstAt.of_news N (List.Mem.head _) (List.Mem.tail _ (List.Mem.head _))
  have X1 := X.keeps B.stays
  have T1 := T.keeps B.stays
  unfold PG
  k_fill
  refine owit_iter F X1 I (f := 106) (by k_is) (by k_is) ?_
  have ct := gb_iter_t w p loose mean mg mb s P.gb
  unfold Pure PureC PG at ct
  refine ct dp un gd cn cs a ccd cl outer A₀ base h₁ L m _ E B F X1 T1 hk (by omega) (by omega) fun v h' tk' st po => ?_
  subst po
  have I' : InstAt h' P.gb (gbObj P.d P.ig P.li b1 v1 b2 v2 b3 v3 cg u1 csr u2) 124 (some (dictOf [] 0)) := InstAt.of_news (N.grown st) (List.Mem.head _) (List.Mem.tail _ (List.Mem.head _))
  exact owit_it (F.keeps st) X1 I' (g := .ref 120) (by k_is) (h h' tk' st)
theorem gr_feed (ok : P.Ok φ) (o8 : @LT.lt Nat _ P.li dG) (o9 : @LT.lt Nat _ dG gr) (hmore : ∀ q ∈ more, q.1 ∉ [gr, dG, P.gb, P.d, P.ig, P.dI, P.tp, P.li, P.D] ∧ q.1 ∉ P.its.map It.T)
    (hx : P.its[j]? = some x) (hrun : ∀ i, i < n → ∃ y, P.its[j + i]? = some y ∧ y.v = x.v) (hn : 0 < n) (hn2 : n ≤ 100) (hend : ∀ y, P.its[j + n]? = some y → y.v ≠ x.v)
    (hS : S ∉ P.adr gr dG more) (hSL : S ≠ L) (hS0 : h₀.get? S = none)
    (X : (hd.heap_39 w.params).In base) (T : Top p loose mean mg mb base) (hk : cs.kind = .function) (hd : dp + 6 < recursionLimit) (hu : un + 80 < cLine) :
    Feed PG w (ktrTop dp un gd cn cs L a ccd cl outer) S gr gr n (GrInv P A₀ base outer h₀ L m gr dG x sr tn t1 t2 more j S 0 #[])
      (fun i acc h => GrInv P A₀ base outer h₀ L m gr dG x sr tn t1 t2 more j S i acc h) (fun acc h => GrFin P A₀ base outer h₀ L m gr dG x sr tn t1 t2 more j n acc h) where
  T := ⟨.ref 169, by decide, by decide, fun s Q E hs h => by
    obtain ⟨h₁, T₁, F, B, D, N⟩ := hs.2.2.1 rfl
    have I : InstAt s.heap gr (grObj dG P.gb x.key sr tn) 169 (some (dictOf [] 0)) := InstAt.of_news N (List.Mem.head _) (List.Mem.tail _ (List.Mem.head _))
    exact I.type.here h⟩
  neJ := fun e => hS (by rw [e]; simp [GP.adr])
  small := by omega
  size := fun i acc h Z => Z.1
  frame₀ := fun h h' Z k hS' => ⟨Z.1, Z.2.1, fun e => (Z.2.2.1 e).but k hSL hS0 (GP.grp_ne hS), fun e => (Z.2.2.2.1 e).but k hSL hS0 (GP.grp_ne hS), hS'⟩
  frame := fun i acc h h' Z k hS' => ⟨Z.1, Z.2.1, fun e => (Z.2.2.1 e).but k hSL hS0 (GP.grp_ne hS), fun e => (Z.2.2.2.1 e).but k hSL hS0 (GP.grp_ne hS), hS'⟩
  len := fun s Q E Z h => by
    obtain ⟨h₁, T₁, F, B, D, N⟩ := Z.2.2.1 rfl
    have I : InstAt s.heap gr (grObj dG P.gb x.key sr tn) 169 (some (dictOf [] 0)) := InstAt.of_news N (List.Mem.head _) (List.Mem.tail _ (List.Mem.head _))
    have X1 := (X.keeps B.stays).keeps F.keep
    unfold PG
    k_fill
    unfold specialOf
    exact wpAny_bind (I.type.here ((looks_findIn (r := none) X1 (by k_is)).here h))
  hint := fun s Q E Z h => by
    obtain ⟨h₁, T₁, F, B, D, N⟩ := Z.2.2.1 rfl
    have I : InstAt s.heap gr (grObj dG P.gb x.key sr tn) 169 (some (dictOf [] 0)) := InstAt.of_news N (List.Mem.head _) (List.Mem.tail _ (List.Mem.head _))
    have X1 := (X.keeps B.stays).keeps F.keep
    unfold PG
    k_fill
    unfold specialOf
    exact wpAny_bind (I.type.here ((looks_findIn (r := none) X1 (by k_is)).here h))
  it := fun s Q E Z h => iter_gr (led := P.led (P.held x sr t1 t2) (liObj P.D (j + 1)) ++ (P.tl ++ more)) (Z.2.2.1 rfl) X T hk hd hu fun h' tk' st => h h' tk' ⟨Z.1, Z.2.1, fun e => (Z.2.2.1 e).grow st, fun e => (Z.2.2.2.1 e).grow st, Z.2.2.2.2.elim fun o ho => ⟨o, st _ _ ho⟩⟩ fun o ho => st _ _ ho
  item := fun i acc s Q E hi I hQ => gr_item ok o8 o9 hmore hx hrun hS hSL hS0 X T hk hd hu i acc s Q E hi I hQ
  done := fun acc s Q E I hQ => gr_done ok o8 o9 hmore hx hn hend hS hSL hS0 X T hk hd hu acc s Q E I hQ
end
end
-- Gh
section
section
variable {φ : Tok → Int} {w : World} {p : Program} {loose : List Str} {mean : ExcName → Option Value} {mg mb : Str → Option Value}
    {dp un : Nat} {gd : Option (List Code)} {cn : Str} {cs : Scope} {a : Addr} {ccd : Value} {cl : List (Str × Addr)} {outer : List Env} {A₀ : Around} {base h₀ : Heap} {L : Addr} {m : Str → Option Value}
    {P : GP} {more : List (Addr × Obj)} {J : Nat} {s : Shared} {Q : Option Value → Shared → Prop} {E : Value → Shared → Prop}
noncomputable def Head (P : GP) (A₀ : Around) (base : Heap) (outer : List Env) (h₀ : Heap) (L : Addr) (m : Str → Option Value) (more : List (Addr × Obj)) (J : Nat) (h : Heap) : Prop :=
  (J = 0 ∧ ∃ t1 t2, Stands A₀ base outer h₀ L m (P.led (P.fresh t1 t2) (liObj P.D 0) ++ (P.tl ++ more)) h) ∨
  (∃ x y sr t1 t2, P.its[J]? = some y ∧ x ∈ P.its ∧ x.v ≠ y.v ∧ (∃ z, P.its[J - 1]? = some z ∧ z.v = x.v) ∧ (0 : Int) ≤ sr ∧ sr ≤ J ∧ Stands A₀ base outer h₀ L m (P.led (P.ahead x y sr t1 t2) (liObj P.D (J + 1)) ++ (P.tl ++ more)) h) ∨
  (J = P.its.length ∧ ∃ x sr t1 t2 j, Stands A₀ base outer h₀ L m (P.led (P.mid x sr t1 t2) (liEnd j) ++ (P.tl ++ more)) h)
end
namespace gitem_stands_c
noncomputable def hkS : Prop := ∀ {φ : Tok → Int} {outer : List Env} {A₀ : Around} {base : Heap} {h₀ : Heap} {L : Addr} {m : Str → Option Value} {P : GP} {more : List (Addr × Obj)} {s : Shared} {h' h₂ g' : Heap} {go lo : Obj} {y : It} {j : Nat} {sr : Int} {v : Value} (ok : P.Ok φ) (hmore : ∀ q ∈ more, q.1 ∉ [P.gb, P.d, P.ig, P.dI, P.tp, P.li, P.D] ∧ q.1 ∉ P.its.map It.T) (hy : y ∈ P.its) (St : Stands A₀ base outer h₀ L m (P.led go lo ++ (P.tl ++ more)) s.heap) (Z : After A₀ base outer h₀ L m (P.led go lo ++ [y.ent]) s.heap h' h₂) (hf : ∀ q, g'.get? q = none → q ≠ L ∧ h₂.get? q = none ∧ (q ∉ (P.led go lo ++ [y.ent]).map (·.1) → s.heap.get? q = none)) (it : GItem P.gb P.d P.ig P.dI P.tp P.li P.D y.T P.t0 P.os P.e y.v y.q y.tv y.tq j sr g' h' v), ∃ Pt gr dG tn t1 t2, v = .ref Pt ∧ Stands A₀ base outer h₀ L m ((Pt, tupO [y.key, .ref gr]) :: P.grp gr dG y sr tn more (P.held y sr t1 t2) (liObj P.D j)) h' ∧ @LT.lt Nat _ P.li dG ∧ @LT.lt Nat _ dG gr ∧
      (∀ q ∈ more, q.1 ∉ [gr, dG, P.gb, P.d, P.ig, P.dI, P.tp, P.li, P.D] ∧ q.1 ∉ P.its.map It.T)
noncomputable def hkK : Σ' P : (Tok → Int) → tE → Around → Heap → Heap → Addr → tM → GP → (List (Addr × Obj)) → Shared → Heap → Heap → Heap → Obj → Obj → It → Nat → Int → Prop, (∀ a b c d e f g h i j k l m n o p q r, P a b c d e f g h i j k l m n o p q r) → hkS := ⟨_, fun hk9 => by intro φ outer A₀ base h₀ L m P more s h' h₂ g' go lo y j sr v ok hmore hy St Z hf it; revert it; revert hf; revert Z; revert St; revert hy; revert hmore; revert ok; revert v; apply (hk9 φ outer A₀ base h₀ L m P more s h' h₂ g' go lo y j sr)⟩
namespace Z9
noncomputable def hkP (y : VV) := hkK.1 (y.l 0) (y.E 0) (y.A 0) (y.H 0) (y.H 1) (y.N 0) (y.M 0) (y.g 0) (y.o 0) (y.R 0) (y.H 2) (y.H 3) (y.H 4) (y.O 0) (y.O 1) (y.w 0) (y.N 1) (y.Z 0)
@[irreducible] noncomputable def hkG1 := epsV0 hkP
@[irreducible] def P : GP := hkG1.g 0
@[irreducible] def s : Shared := hkG1.R 0
@[irreducible] def h' : Heap := hkG1.H 2
@[irreducible] def go : Obj := hkG1.O 0
@[irreducible] def lo : Obj := hkG1.O 1
@[irreducible] def y : It := hkG1.w 0
theorem hkM : hkP hkG1 := (by exact @wI _ _ : @wT (hkP hkG1) (by
  with_unfolding_all show hkK.1 (hkG1.l 0) (hkG1.E 0) (hkG1.A 0) (hkG1.H 0) (hkG1.H 1) (hkG1.N 0) (hkG1.M 0) P (hkG1.o 0) s h' (hkG1.H 3) (hkG1.H 4) go lo y (hkG1.N 1) (hkG1.Z 0)
  intro v ok hmore hy St Z hf it
  obtain ⟨Pt, gr, dG, tn, t1, t2, rfl, hat, hfr, q1, q2⟩ := it
  have yt : y.ent ∈ P.tl := List.mem_map_of_mem hy
  refine ⟨Pt, gr, dG, tn, t1, t2, rfl, ?_, q1, q2, fun q hq => ?_⟩
  · refine Z.stands fun q hq => ?_
    rcases List.mem_append.mp (show q ∈ [(Pt, tupO [y.key, .ref gr]), (gr, grObj dG P.gb y.key (hkG1.Z 0) tn), (dG, dictOf [] 0)] ++ (P.led (P.held y (hkG1.Z 0) t1 t2) (liObj P.D (hkG1.N 1)) ++ (P.tl ++ (hkG1.o 0))) from hq) with c | c
    · have z := hf q.1 (hfr _ (List.mem_map_of_mem (f := (·.1)) c))
      exact ⟨hat q (List.mem_append_left (as := [(Pt, tupO [y.key, .ref gr]), (gr, grObj dG P.gb y.key (hkG1.Z 0) tn), (dG, dictOf [] 0)]) (y.ent :: P.led (P.held y (hkG1.Z 0) t1 t2) (liObj P.D (hkG1.N 1))) c), z.1, z.2.1⟩
    · rcases List.mem_append.mp c with c | c
      · refine ⟨hat q ?_, Z.chg _ ?_⟩
        · exact List.Mem.tail _ (List.Mem.tail _ (List.Mem.tail _ (List.Mem.tail _ c)))
        · rw [List.map_append]
          exact List.mem_append_left _ (List.mem_map_of_mem (f := (·.1)) c)
      · refine (After.news (led := P.tl ++ (hkG1.o 0)) Z (fun p hp => St.was p (List.mem_append_right _ hp)) fun q' hq' hm => ?_) q c
        have hold : ∀ i ∈ P.its, s.heap.get? i.T = some i.obj := fun i hi => (St.was i.ent (List.mem_append_right _ (List.mem_append_left _ (List.mem_map_of_mem hi)))).1
        rw [List.map_append] at hm
        have hat' : h'.get? y.T = some y.obj := hat (y.T, y.obj) (List.Mem.tail _ (List.Mem.tail _ (List.Mem.tail _ (List.Mem.head _))))
        have hn : ∀ i ∈ P.its, i.T ∉ (P.led go lo).map (·.1) := fun i hi hm => by
          exact mem_adr_order (gr := gr) (dG := dG) ok q1 q2 hi (List.Mem.tail _ (List.Mem.tail _ hm))
        rcases List.mem_append.mp hq' with c | c
        · obtain ⟨i, hi, rfl⟩ := List.mem_map.mp c
          rcases List.mem_append.mp hm with z | z
          · exact absurd z (hn i hi)
          · have e : i.T = y.T := List.mem_singleton.mp z
            have g1 := hold i hi
            rw [e, hold y hy] at g1
            show h'.get? i.T = some i.obj
            rw [e, hat']; exact g1
        · obtain ⟨c1, c2⟩ := hmore q' c
          rcases List.mem_append.mp hm with z | z
          · exact absurd z c1
          · have e : q'.1 = y.T := List.mem_singleton.mp z
            exact absurd (e ▸ List.mem_map_of_mem hy) c2
  · obtain ⟨c1, c2⟩ := hmore q hq
    have old := (St.was q (List.mem_append_right _ (List.mem_append_right _ hq))).1
    have ne : ∀ b ∈ [Pt, gr, dG], q.1 ≠ b := fun b hb e => by
      have z := (hf b (hfr b hb)).2.2
      rw [← e] at z
      have := z (fun hm => by
        rw [List.map_append] at hm
        rcases List.mem_append.mp hm with z | z
        · exact c1 z
        · have e : q.1 = y.T := List.mem_singleton.mp z
          exact c2 (e ▸ List.mem_map_of_mem hy))
      rw [old] at this; cases this
    refine ⟨fun hm => ?_, c2⟩
    rcases List.mem_cons.mp hm with z | hm
    · exact ne gr (List.Mem.tail _ (List.Mem.head _)) z
    · rcases List.mem_cons.mp hm with z | hm
      · exact ne dG (List.Mem.tail _ (List.Mem.tail _ (List.Mem.head _))) z
      · exact c1 hm
  ))
end Z9
theorem hkT : hkS := no_implicit_lambda% (@hkapp _ _ hkK.2 (fun a b c d e f g h i j k l m n o p q r => @epsV Z9.hkP (by with_unfolding_all exact Z9.hkM) (⟨e9a, e9b, e9c, e9d, e9e, e9f, lk [h] d9g, e9h, e9v, lk [p] d9w, e9x, e9y, e9i, e9j, e9k, lk [a] d9l, e9m, e9n, lk [i] d9o, e9p, e9q, e9r, e9s, e9t, e9u, lk [b] d9E, e9C, e9T, e9K, lk [c] d9A, e9X, e9S, e9G, e9W, e9P, e9Q, lk [j] d9R, e9V, lk [r] d9Z, e9I, e9L, lk [g] d9M, lk [d, e, k, l, m] d9H, lk [n, o] d9O, lk [f, q] d9N⟩)))
end gitem_stands_c
theorem gitem_stands : gitem_stands_c.hkS := @gitem_stands_c.hkT
section
variable {φ : Tok → Int} {w : World} {p : Program} {loose : List Str} {mean : ExcName → Option Value} {mg mb : Str → Option Value}
    {dp un : Nat} {gd : Option (List Code)} {cn : Str} {cs : Scope} {a : Addr} {ccd : Value} {cl : List (Str × Addr)} {outer : List Env} {A₀ : Around} {base h₀ : Heap} {L : Addr} {m : Str → Option Value}
    {P : GP} {more : List (Addr × Obj)} {J : Nat} {s : Shared} {Q : Option Value → Shared → Prop} {E : Value → Shared → Prop}
end
namespace head_next_c
noncomputable def hkS : Prop := ∀ {φ : Tok → Int} {w : World} {p : Program} {loose : List Str} {mean : ExcName → Option Value} {mg : Str → Option Value} {mb : Str → Option Value} {dp : Nat} {un : Nat} {gd : Option (List Code)} {cn : Str} {cs : Scope} {a : Addr} {ccd : Value} {cl : List (Str × Addr)} {outer : List Env} {A₀ : Around} {base : Heap} {h₀ : Heap} {L : Addr} {m : Str → Option Value} {P : GP} {more : List (Addr × Obj)} {J : Nat} {s : Shared} {Q : Option Value → Shared → Prop} {E : Value → Shared → Prop} (ok : P.Ok φ) (hmore : ∀ q ∈ more, q.1 ∉ [P.gb, P.d, P.ig, P.dI, P.tp, P.li, P.D] ∧ q.1 ∉ P.its.map It.T) (hlen : 0 < P.its.length) (hlen2 : P.its.length ≤ 50) (H : Head P A₀ base outer h₀ L m more J s.heap) (X : (hd.heap_39 w.params).In base) (T : Top p loose mean mg mb base) (hk : cs.kind = .function) (hd : dp + 6 < recursionLimit) (hu : un + 80 < cLine) (item : ∀ y Pt gr dG sr tn t1 t2 h' tk', P.its[J]? = some y → (∀ z, 0 < J → P.its[J - 1]? = some z → z.v ≠ y.v) → (0 : Int) ≤ sr → sr ≤ J + 1 →
      Stands A₀ base outer h₀ L m ((Pt, tupO [y.key, .ref gr]) :: P.grp gr dG y sr tn more (P.held y sr t1 t2) (liObj P.D (J + 1))) h' → @LT.lt Nat _ P.li dG → @LT.lt Nat _ dG gr →
      (∀ q ∈ more, q.1 ∉ [gr, dG, P.gb, P.d, P.ig, P.dI, P.tp, P.li, P.D] ∧ q.1 ∉ P.its.map It.T) → Q (some (.ref Pt)) { s with heap := h', toks := tk' }) (stop : ∀ h' tk', J = P.its.length → Stands A₀ base outer h₀ L m more h' → Q none { s with heap := h', toks := tk' }), wpAny (model PG w) (ktrTop dp un gd cn cs L a ccd cl outer) (pyNext (.ref P.gb)) Q E s
noncomputable def hkK : Σ' P : (Tok → Int) → World → Program → tS → tX → tM → tM → Nat → Nat → tC → Str → Scope → Addr → Value → tA → tE → Around → Heap → Heap → Addr → tM → GP → (List (Addr × Obj)) → Shared → (Option Value → Shared → Prop) → tQ → Prop, (∀ a b c d e f g h i j k l m n o p q r s t u v w x y z, P a b c d e f g h i j k l m n o p q r s t u v w x y z) → hkS := ⟨_, fun hk9 => by intro φ w p loose mean mg mb dp un gd cn cs a ccd cl outer A₀ base h₀ L m P more J s Q E ok hmore hlen hlen2 H X T hk hd hu item stop; revert stop; revert item; revert hu; revert hd; revert hk; revert T; revert X; revert H; revert hlen2; revert hlen; revert hmore; revert ok; revert J; apply (hk9 φ w p loose mean mg mb dp un gd cn cs a ccd cl outer A₀ base h₀ L m P more s Q E)⟩
namespace Z9
noncomputable def hkP (y : VV) := hkK.1 (y.l 0) (y.W 0) (y.P 0) (y.S 0) (y.X 0) (y.M 0) (y.M 1) (y.N 0) (y.N 1) (y.C 0) (y.G 0) (y.K 0) (y.N 2) (y.V 0) (y.T 0) (y.E 0) (y.A 0) (y.H 0) (y.H 1) (y.N 3) (y.M 2) (y.g 0) (y.o 0) (y.R 0) (y.d 0) (y.Q 0)
@[irreducible] noncomputable def hkG2 := epsV0 hkP
@[irreducible] def p : Program := hkG2.P 0
@[irreducible] def P : GP := hkG2.g 0
theorem hkM : hkP hkG2 := (by exact @wI _ _ : @wT (hkP hkG2) (by
  with_unfolding_all show hkK.1 (hkG2.l 0) (hkG2.W 0) p (hkG2.S 0) (hkG2.X 0) (hkG2.M 0) (hkG2.M 1) (hkG2.N 0) (hkG2.N 1) (hkG2.C 0) (hkG2.G 0) (hkG2.K 0) (hkG2.N 2) (hkG2.V 0) (hkG2.T 0) (hkG2.E 0) (hkG2.A 0) (hkG2.H 0) (hkG2.H 1) (hkG2.N 3) (hkG2.M 2) P (hkG2.o 0) (hkG2.R 0) (hkG2.d 0) (hkG2.Q 0)
  intro J ok hmore hlen hlen2 H X T hk hd hu item stop
  rcases H with ⟨rfl, t1, t2, St⟩ | ⟨x, y, sr, t1, t2, hy, hxm, hne, ⟨z, hz, hzv⟩, hs1, hs2, St⟩ | ⟨hJ, x, sr, t1, t2, j, St⟩
  · obtain ⟨y, hy⟩ : ∃ y, P.its[0]? = some y := ⟨_, List.getElem?_eq_getElem hlen⟩
    have hym := List.mem_of_getElem? hy
    have yt : y.ent ∈ P.tl := List.mem_map_of_mem hym
    have C := gb_first (hkG2.W 0) p (hkG2.S 0) (hkG2.X 0) (hkG2.M 0) (hkG2.M 1) (hkG2.R 0) P.gb P.d P.ig P.dI P.tp P.li P.D y.T P.t0 t1 t2 y.tv y.tq P.os P.e y.v y.q (GP.os_get hy) (ok.o1 y hym) ok.o2 ok.o3 ok.o4 ok.o5 ok.o6 ok.o7
    refine next_use C St (sub_ent (X := P.led (P.fresh t1 t2) (liObj P.D 0)) yt) X T hk hd hu (fun v h' tk' g' h₂ Z hf it => ?_) (fun h' tk' g' h₂ Z st => st.elim)
    obtain ⟨Pt, gr, dG, tn, u1, u2, rfl, St', q1, q2, hm'⟩ := gitem_stands (go := P.fresh t1 t2) (lo := liObj P.D 0) ok hmore hym St Z hf it
    exact item y Pt gr dG 1 tn u1 u2 h' tk' hy (fun z h0 _ => absurd h0 (Nat.lt_irrefl _)) (by decide) (by decide) St' q1 q2 hm'
  · have hym := List.mem_of_getElem? hy
    have yt : y.ent ∈ P.tl := List.mem_map_of_mem hym
    have hJ : J < P.its.length := (List.getElem?_eq_some_iff.mp hy).1
    have tx := ok.tok x hxm
    have ty := ok.tok y hym
    have C := gb_next (hkG2.W 0) p (hkG2.S 0) (hkG2.X 0) (hkG2.M 0) (hkG2.M 1) (hkG2.R 0) P.gb P.d P.ig P.dI P.tp P.li P.D y.T P.t0 t1 t2 x.tv y.tv y.tq P.os P.e (J + 1) x.v y.v y.q sr sr hne hs1 (by omega) (ok.o1 y hym) tx.1 ty.1 (fun e => by rw [← tx.2, ← ty.2, e]) ok.o2 ok.o3 ok.o4 ok.o5 ok.o6 ok.o7
    refine next_use C St (sub_ent (X := P.led (P.ahead x y sr t1 t2) (liObj P.D (J + 1))) yt) X T hk hd hu (fun v h' tk' g' h₂ Z hf it => ?_) (fun h' tk' g' h₂ Z st => st.elim)
    obtain ⟨Pt, gr, dG, tn, u1, u2, rfl, St', q1, q2, hm'⟩ := gitem_stands (go := P.ahead x y sr t1 t2) (lo := liObj P.D (J + 1)) ok hmore hym St Z hf it
    refine item y Pt gr dG (sr + 1) tn u1 u2 h' tk' hy (fun z' h0 hz' => ?_) (by omega) (by omega) St' q1 q2 hm'
    rw [hz] at hz'
    cases hz'
    rw [hzv]; exact hne
  · have C := gb_end (hkG2.W 0) p (hkG2.S 0) (hkG2.X 0) (hkG2.M 0) (hkG2.M 1) (hkG2.R 0) P.gb P.d P.ig P.dI P.tp P.li P.D P.t0 t1 t2 x.tv P.os P.e j x.v sr sr ok.o2 ok.o3 ok.o4 ok.o5 ok.o6 ok.o7
    refine next_use C St (fun q hq => List.mem_append_left _ hq) X T hk hd hu (fun v h' tk' g' h₂ Z hf it => it.elim) (fun h' tk' g' h₂ Z _ => ?_)
    refine stop h' tk' hJ (Z.stands (After.news Z (fun p hp => St.was p (List.mem_append_right _ (List.mem_append_right _ hp))) fun q hq hm => ?_))
    exact absurd hm (hmore q hq).1
  ))
end Z9
theorem hkT : hkS := no_implicit_lambda% (@hkapp _ _ hkK.2 (fun a b c d e f g h i j k l m n o p q r s t u v w x y z => @epsV Z9.hkP (by with_unfolding_all exact Z9.hkM) (⟨e9a, e9b, e9c, lk [y] d9d, e9e, e9f, lk [v] d9g, e9h, e9v, e9w, e9x, e9y, e9i, e9j, e9k, lk [a] d9l, e9m, e9n, lk [w] d9o, e9p, e9q, e9r, e9s, e9t, e9u, lk [p] d9E, lk [j] d9C, lk [o] d9T, lk [l] d9K, lk [q] d9A, lk [e] d9X, lk [d] d9S, lk [k] d9G, lk [b] d9W, lk [c] d9P, lk [z] d9Q, lk [x] d9R, lk [n] d9V, e9Z, e9I, e9L, lk [f, g, u] d9M, lk [r, s] d9H, e9O, lk [h, i, m, t] d9N⟩)))
end head_next_c
theorem head_next : head_next_c.hkS := @head_next_c.hkT
section
variable {φ : Tok → Int} {w : World} {p : Program} {loose : List Str} {mean : ExcName → Option Value} {mg mb : Str → Option Value}
    {dp un : Nat} {gd : Option (List Code)} {cn : Str} {cs : Scope} {a : Addr} {ccd : Value} {cl : List (Str × Addr)} {outer : List Env} {A₀ : Around} {base h₀ : Heap} {L : Addr} {m : Str → Option Value}
    {P : GP} {more : List (Addr × Obj)} {J : Nat} {s : Shared} {Q : Option Value → Shared → Prop} {E : Value → Shared → Prop}
end
end
-- Gl
section
section
variable {prog : Program} {w : World} {A : Around} {s : Shared} {R : Result → Shared → Prop}
theorem letOwned_no {M : Model} {E : Value → Shared → Prop} {target : Expr} {r : Addr} {v : Value} {o : Obj} {Q : Unit → Shared → Prop} (ho : s.heap.get? r = some o)
    (hc : ∀ n, o.cls = .type n → ["enumerate", "zip", "dict_itemiterator", "dict_reverseitemiterator", "odict_iterator", "itertools.zip_longest", "itertools.pairwise"].contains n = false) (h : Q () s) : wpAny M A (letOwnedTupleGo target (.ref r) v) Q E s := by
  have key : wpAny M A (match (Value.ref r, v) with
    | (.ref r, .ref a) => do
      let o ← load r
      match o.cls, o.data with
      | .type n, .fields vs =>
        if ["enumerate", "zip", "dict_itemiterator", "dict_reverseitemiterator", "odict_iterator", "itertools.zip_longest", "itertools.pairwise"].contains n && vs[0]? == some (rawInt a) then
          rule "for.unpacks-the-owned-tuple"
          updateField r 0 .none
      | _, _ => pure ()
    | _ => pure ()) Q E s := by
    cases v with
    | ref a =>
      refine wpAny_bind (wpAny_load ho ?_)
      split
      · rename_i n vs e1 e2
        rw [hc n e1, Bool.false_and]
        exact wpAny_pure h
      · exact wpAny_pure h
    | _ => exact wpAny_pure h
  cases target <;> first | exact key | exact wpAny_pure h
noncomputable def TurnEnd (I : Nat → Shared → Prop) (n : Nat) (s : Shared) : Prop := ∃ m, m < n ∧ I m s
theorem codeFor {target it body orelse env} (I : Nat → Shared → Prop)
    (turn : ∀ n s, I n s → wpAny (model prog w) A (pyNext it) (fun r s₁ => match r with
      | none => wpAny (model prog w) A (execs orelse env) (fun f s₃ => R (.ok f) s₃) (notedBy (model prog w) A env fun e s' => R (.error e) s') s₁
      | some v => wpAny (model prog w) A (letOwnedTupleGo target it v) (fun _ s₁' => wpAny (model prog w) A (assign target env v) (fun _ s₂ => wpAny (model prog w) A (execs body env) (fun f s₃ => match f with
          | .next | .cont => TurnEnd I n s₃
          | .brk => R (.ok .next) s₃
          | .ret v => R (.ok (.ret v)) s₃) (notedBy (model prog w) A env fun e s' => R (.error e) s') s₂) (notedBy (model prog w) A env fun e s' => R (.error e) s') s₁') (notedBy (model prog w) A env fun e s' => R (.error e) s') s₁) (notedBy (model prog w) A env fun e s' => R (.error e) s') s)
    (n : Nat) (h : I n s) : codeAny (model prog w) A (.forLoop target it body orelse env) R s := by
  refine codeAny_loop' rfl I (fun n s hI => ?_) n h
  show wpAny _ _ ((forTurn target it body orelse env).onRaise (fun x => do noteFrame x env; theTreesLotGoes x)) _ _ s
  refine wpAny_noted ?_
  simp only [forTurn]
  refine wpAny_bind (wpAny_standAt (wpAny_bind (wpAny_onRaise (wpAny_mono (turn n s hI) (fun r s₁ h₁ => ?_) fun _ _ h' => wpAny_standAt h'))))
  cases r with
  | none => exact wpAny_pure (.inr ⟨rfl, codeAny_block h₁⟩)
  | some v =>
    refine wpAny_bind (wpAny_mono h₁ (fun _ s₁' h₁' => ?_) fun _ _ h' => h')
    refine wpAny_bind (wpAny_mono h₁' (fun _ s₂ h₂ => wpAny_bind (wpAny_mono h₂ (fun f s₃ h₃ => ?_) fun _ _ h' => h')) fun _ _ h' => h')
    cases f with
    | next => exact wpAny_pure (.inl ⟨rfl, h₃⟩)
    | cont => exact wpAny_pure (.inl ⟨rfl, h₃⟩)
    | brk => exact wpAny_pure h₃
    | ret v => exact wpAny_pure h₃
end
section
variable {prog : Program} {w : World} {A : Around} {E : Value → Shared → Prop} {s : Shared} {env : Env} {h₁ : Heap} {L : Addr} {Q : Flow → Shared → Prop}
noncomputable def LedEnd {σ : Type} (h₁ : Heap) (L : Addr) (led : σ → List (Addr × Obj)) (Inv : Nat → σ → (Str → Option Value) → Prop) (I : Addr) (oI : Obj) (i : Nat) (s₁ : Shared) (f : Flow) (s₂ : Shared) : Prop :=
  match f with
  | .ret _ => False
  | .brk => False
  | _ => ∃ h' tk' m' c', s₂ = { s₁ with heap := h', toks := tk' } ∧ Fr h₁ L h' m' ∧ News h₁ L h' ((I, oI) :: led c') ∧ Inv (i + 1) c' m'
theorem LedEnd.intro {σ : Type} {led : σ → List (Addr × Obj)} {Inv : Nat → σ → (Str → Option Value) → Prop} {I : Addr} {oI : Obj} {i : Nat} {s₁ : Shared} {h' : Heap} {tk' : Nat} {m' : Str → Option Value} (c' : σ)
    (F : Fr h₁ L h' m') (N : News h₁ L h' ((I, oI) :: led c')) (j : Inv (i + 1) c' m') : LedEnd h₁ L led Inv I oI i s₁ .next { s₁ with heap := h', toks := tk' } := ⟨h', tk', m', c', rfl, F, N, j⟩
end
namespace for_led_c
noncomputable def hkS : Prop := ∀ {prog : Program} {w : World} {A : Around} {E : Value → Shared → Prop} {s : Shared} {env : Env} {h₁ : Heap} {L : Addr} {Q : Flow → Shared → Prop} {σ : Type} {l : Addr} {vs : List Value} {target : Expr} {body : List Stmt} {m₀ : Str → Option Value} (led : σ → List (Addr × Obj)) (Inv : Nat → σ → (Str → Option Value) → Prop) (c₀ : σ) (hh : A.handled = none) (hlist : ∀ c h, News h₁ L h (led c) → h.IsList l vs.toArray) (hadr : ∀ c, (led c).map (·.1) = (led c₀).map (·.1)) (F : Fr h₁ L s.heap m₀) (N : News h₁ L s.heap (led c₀)) (i0 : Inv 0 c₀ m₀) (turn : ∀ i v c m h tk I oI (E' : Value → Shared → Prop), vs[i]? = some v → Inv i c m → Fr h₁ L h m → News h₁ L h ((I, oI) :: led c) → (∀ p ∈ led c, p.1 ≠ I) →
      wpAny (model prog w) A (assign target env v) (fun _ s₂ => wpAny (model prog w) A (execs body env) (LedEnd h₁ L led Inv I oI i { s with heap := h, toks := tk }) E' s₂) E' { s with heap := h, toks := tk }) (done : ∀ c m h tk, Inv vs.length c m → Fr h₁ L h m → News h₁ L h (led c) → Q .next { s with heap := h, toks := tk }), wpAny (model prog w) A (pyIter (.ref l)) (fun it s₂ => codeAny (model prog w) A (.forLoop target it body [] env) (fun r s' => match r with | .ok f => Q f s' | .error e => cameBackBy (model prog w) A env E e s') s₂) E s
noncomputable def hkK : Σ' P : Program → World → Around → tQ → Shared → Env → Heap → Addr → (Flow → Shared → Prop) → Addr → tV → Expr → (List Stmt) → tM → Prop, (∀ a b c d e f g h i j k l m n, P a b c d e f g h i j k l m n) → hkS := ⟨_, fun hk9 => by intro prog w A E s env h₁ L Q σ l vs target body m₀ led Inv c₀ hh hlist hadr F N i0 turn done; revert done; revert turn; revert i0; revert N; revert F; revert hadr; revert hlist; revert hh; revert c₀; revert Inv; revert led; revert σ; apply (hk9 prog w A E s env h₁ L Q l vs target body m₀)⟩
namespace Z9
noncomputable def hkP (y : VV) := hkK.1 (y.P 0) (y.W 0) (y.A 0) (y.Q 0) (y.R 0) (y.s 0) (y.H 0) (y.N 0) (y.r 0) (y.N 1) (y.L 0) (y.t 0) (y.k 0) (y.M 0)
@[irreducible] noncomputable def hkG1 := epsV0 hkP
@[irreducible] def s : Shared := hkG1.R 0
@[irreducible] def h₁ : Heap := hkG1.H 0
@[irreducible] def L : Addr := hkG1.N 0
@[irreducible] def l : Addr := hkG1.N 1
@[irreducible] def vs : tV := hkG1.L 0
theorem hkM : hkP hkG1 := (by exact @wI _ _ : @wT (hkP hkG1) (by
  with_unfolding_all show hkK.1 (hkG1.P 0) (hkG1.W 0) (hkG1.A 0) (hkG1.Q 0) s (hkG1.s 0) h₁ L (hkG1.r 0) l vs (hkG1.t 0) (hkG1.k 0) (hkG1.M 0)
  intro σ led Inv c₀ hh hlist hadr F N i0 turn done
  have hls : s.heap.IsList l vs.toArray := hlist c₀ _ N
  obtain ⟨ol, hol, _⟩ := id hls
  have hlt : l < s.heap.objs.size := Heap.lt_size hol
  refine wpAny_pyIter_list hls ?_
  have Wk := Walks.list (prog := (hkG1.P 0)) (w := (hkG1.W 0)) hh s.heap.objs.size l (Nat.ne_of_lt hlt) vs.toArray
  have hlen : vs.toArray.size = vs.length := by simp
  rw [hlen] at Wk
  have hI₀ : h₁.get? s.heap.objs.size = none := by
    cases e : h₁.get? s.heap.objs.size with
    | none => rfl
    | some o => exact absurd (Heap.lt_size (F.keep _ _ e)) (Nat.lt_irrefl _)
  have hIL : s.heap.objs.size ≠ L := Nat.ne_of_gt F.ns.lt
  have hIN : ∀ c, ∀ q ∈ led c, q.1 ≠ s.heap.objs.size := fun c q hq => by
    have : q.1 ∈ (led c₀).map (·.1) := by rw [← hadr c]; exact List.mem_map_of_mem hq
    obtain ⟨p, hp, e⟩ := List.mem_map.mp this
    rw [← e]
    exact Nat.ne_of_lt (Heap.lt_size (N p hp).1)
  refine codeFor (fun k s' => ∃ h tk i m c, s' = { s with heap := h, toks := tk } ∧ i ≤ vs.length ∧ k = vs.length + 1 - i ∧ (h.IsListIter s.heap.objs.size l i ∧ h.IsList l vs.toArray) ∧ Fr h₁ L h m ∧ News h₁ L h (led c) ∧ Inv i c m) ?_ (vs.length + 1)
    ⟨_, s.toks, 0, (hkG1.M 0), c₀, rfl, Nat.zero_le _, rfl, ⟨⟨_, Heap.get?_push_size _ rfl, rfl, rfl⟩, hls.push _⟩, F.push _, (fun p hp => ⟨Heap.get?_push_of_some _ (N p hp).1, (N p hp).2⟩), i0⟩
  rintro k s' ⟨h, tk, i, m, c, rfl, hi', rfl, hst, F', N', hp'⟩
  by_cases hlt' : i < vs.length
  · refine Wk.item i _ _ _ hlt' hst fun v1 h₂ tk₂ hPv hst₂ hk₂ => ?_
    have hv : vs[i]? = some v1 := by simpa using hPv
    have F₂ : Fr h₁ L h₂ m := PyProof.Rows.LCg.fr_but F' hk₂ (Ne.symm hIL) hI₀
    have N₂ : News h₁ L h₂ (led c) := PyProof.Rows.LCg.news_but N' hk₂ fun p hp => hIN c p hp
    obtain ⟨oI, hoI, hoI2⟩ := hst₂.1
    have N₃ : News h₁ L h₂ ((s.heap.objs.size, oI) :: led c) := fun p hp => by
      rcases List.mem_cons.mp hp with rfl | hp
      · exact ⟨hoI, hIL, hI₀⟩
      · exact N₂ p hp
    dsimp only
    refine letOwned_no hoI (fun n e => by rw [hoI2.1] at e; cases e; decide) ?_
    refine wpAny_mono (turn i v1 c m h₂ tk₂ s.heap.objs.size oI _ hv hp' F₂ N₃ (hIN c)) (fun _ s₃ h₃ => wpAny_mono h₃ (fun f s₄ p => ?_) fun _ _ x => x) fun _ _ x => x
    have fin : LedEnd h₁ L led Inv s.heap.objs.size oI i { s with heap := h₂, toks := tk₂ } .next s₄ → ∃ k', k' < vs.length + 1 - i ∧ ∃ h tk i m c, s₄ = { s with heap := h, toks := tk } ∧ i ≤ vs.length ∧ k' = vs.length + 1 - i ∧ (h.IsListIter s.heap.objs.size l i ∧ h.IsList l vs.toArray) ∧ Fr h₁ L h m ∧ News h₁ L h (led c) ∧ Inv i c m := by
      rintro ⟨h', tk', m', c', rfl, F4, N4, hp4⟩
      have zI := N4 (s.heap.objs.size, oI) (List.Mem.head _)
      have N5 : News h₁ L h' (led c') := fun p hp => N4 p (List.Mem.tail _ hp)
      exact ⟨vs.length + 1 - (i + 1), dec_lt hlt', h', tk', i + 1, m', c', rfl, hlt', rfl, ⟨⟨oI, zI.1, hoI2⟩, hlist c' _ N5⟩, F4, N5, hp4⟩
    cases f with
    | ret v => exact p.elim
    | brk => exact p.elim
    | next => exact fin p
    | cont => exact fin p
  · obtain rfl : i = vs.length := Nat.le_antisymm hi' (Nat.not_lt.mp hlt')
    refine Wk.done _ _ _ hst fun h₂ tk₂ hk₂ => ?_
    refine wpAny_execs_nil ?_
    refine done c m h₂ tk₂ hp' ?_ ?_
    · exact PyProof.Rows.LCg.fr_but F' hk₂ (Ne.symm hIL) hI₀
    · exact PyProof.Rows.LCg.news_but N' hk₂ fun p hp => hIN c p hp
  ))
end Z9
theorem hkT : hkS := no_implicit_lambda% (@hkapp _ _ hkK.2 (fun a b c d e f g h i j k l m n => @epsV Z9.hkP (by with_unfolding_all exact Z9.hkM) (⟨e9a, e9b, e9c, e9d, e9e, e9f, e9g, e9h, e9v, e9w, e9x, e9y, e9i, e9j, lk [m] d9k, e9l, e9m, e9n, e9o, e9p, e9q, lk [i] d9r, lk [f] d9s, lk [l] d9t, e9u, e9E, e9C, e9T, e9K, lk [c] d9A, e9X, e9S, e9G, lk [b] d9W, lk [a] d9P, lk [d] d9Q, lk [e] d9R, e9V, e9Z, e9I, lk [k] d9L, lk [n] d9M, lk [g] d9H, e9O, lk [h, j] d9N⟩)))
end for_led_c
theorem for_led : for_led_c.hkS := @for_led_c.hkT
section
variable {prog : Program} {w : World} {A : Around} {E : Value → Shared → Prop} {s : Shared} {env : Env} {h₁ : Heap} {L : Addr} {Q : Flow → Shared → Prop}
end
section
variable {prog : Program} {w : World} {A : Around} {E : Value → Shared → Prop} {s : Shared} {h₁ : Heap} {L : Addr} {m : Str → Option Value}
theorem set_list {r : Addr} {fs : List Value} {c : Nat} {pre post : List (Addr × Obj)} {k : Int} {u : Tok} {v : Value} {Q : Unit → Shared → Prop} (F : Fr h₁ L s.heap m) (N : News h₁ L s.heap (pre ++ (r, W.listOf fs.toArray c) :: post))
    (h1 : ∀ p ∈ pre, p.1 ≠ r) (h2 : ∀ p ∈ post, p.1 ≠ r) (h0 : 0 ≤ k) (hk : k.toNat < fs.length) (hs : fs.length < 1000)
    (h : ∀ h' c', Fr h₁ L h' m → News h₁ L h' (pre ++ (r, W.listOf (fs.set k.toNat v).toArray c') :: post) → Q () { s with heap := h' }) : wpAny (model prog w) A (PySem.setItem (.ref r) (.int k u) v) Q E s := by
  have z := N (r, W.listOf fs.toArray c) (List.mem_append.mpr (.inr (.head _)))
  refine ki_setAt z.1 h0 (by omega) (by rw [List.size_toArray]; omega) (h _ c (F.change (Heap.SameBut.update ..) z.2.1 z.2.2) (ki_turn _ N h1 h2 ?_ ?_))
  · show fs.toArray.setIfInBounds k.toNat v = (fs.set k.toNat v).toArray
    apply Array.toList_inj.mp
    simp
  · simp
end
theorem tail_ne {its : List It} {D a : Addr} (h : ∀ i ∈ its, @LT.lt Nat _ i.T D) (l : @LT.lt Nat _ D a) : ∀ p ∈ its.map It.ent, p.1 ≠ a := fun p hp e => by
  obtain ⟨i, hi, rfl⟩ := List.mem_map.mp hp
  have := h i hi
  have e' : @Eq Nat i.T a := e
  omega
theorem its_of {χ : Addr → Tok → Int → Prop} {h : Heap} : ∀ {vs : List Value} {ks : List (Int × Int)}, PairsAre χ h vs ks → ∃ its : List It, vs = its.map (fun i => .ref i.T) ∧ ks = its.map (fun i => (i.v, i.q)) ∧ ∀ i ∈ its, h.get? i.T = some i.obj ∧ χ i.T i.tv i.v
  | [], [], _ => ⟨[], rfl, rfl, fun _ hi => nomatch hi⟩
  | [], _ :: _, p => by have := p.1; simp at this
  | _ :: _, [], p => by have := p.1; simp at this
  | v :: vs, k :: ks, p => by
    obtain ⟨its, e1, e2, e3⟩ := its_of p.tail
    obtain ⟨T, t, u, rfl, g, z⟩ := p.2 0 v k rfl rfl
    refine ⟨⟨T, k.1, k.2, t, u⟩ :: its, by rw [List.map_cons, ← e1], by rw [List.map_cons, ← e2], fun i hi => ?_⟩
    rcases List.mem_cons.mp hi with rfl | hi
    · exact ⟨g, z⟩
    · exact e3 i hi
theorem news_tail {g h00 h1 h' : Heap} {L D : Addr} {m : Str → Option Value} {o : Obj} {its : List It} (FC : Fr g L h1 m) (p2 : D = h1.objs.size) (p3 : h1.StaysIn h') (p4 : h'.get? D = some o) (hg : g.StaysIn h00) (hL : ∃ oL, h00.get? L = some oL)
    (hi : ∀ i ∈ its, h1.get? i.T = some i.obj ∧ h00.get? i.T = none) : News g L h' ((D, o) :: its.map It.ent) := fun q hq => by
  rcases List.mem_cons.mp hq with rfl | hq
  · exact news_one FC (Heap.get?_none_of_le (Nat.le_of_eq p2.symm)) p4 _ (List.Mem.head _)
  · obtain ⟨i, him, rfl⟩ := List.mem_map.mp hq
    obtain ⟨g1, g2⟩ := hi i him
    refine ⟨p3 _ _ g1, fun z => ?_, ?_⟩
    · obtain ⟨oL, hL⟩ := hL
      have z' : i.T = L := z
      rw [z', hL] at g2; cases g2
    · cases z : g.get? i.T with
      | none => rfl
      | some o => have := hg _ _ z; rw [g2] at this; cases this
end
-- Rk
section
noncomputable def rkF (i : Int) (n : Nat) : UInt64 := Float64.add (Float64.ofInt i) (fq ((n : Int) + 1) 2)
noncomputable def RkOk (its : List It) (k : Int) (J : Nat) (fs : List Value) : Prop := fs.length = its.length ∧ ∀ (j : Nat) (x : It), j < J → its[j]? = some x → ∃ (a n : Nat) (t : Tok), t ≠ 0 ∧ fs[x.q.toNat]? = some (.float (rkF (k - 1 + a) n) t) ∧ a ≤ j ∧ j < a + n ∧ a + n ≤ J ∧
  (∀ i, a ≤ i → i < a + n → ∃ y, its[i]? = some y ∧ y.v = x.v) ∧ (∀ z, 0 < a → its[a - 1]? = some z → z.v ≠ x.v) ∧ (∀ z, its[a + n]? = some z → z.v ≠ x.v)
structure Qs (its : List It) : Prop where
  bnd : ∀ (j : Nat) (x : It), its[j]? = some x → 0 ≤ x.q ∧ x.q < its.length
  inj : ∀ (j j' : Nat) (x x' : It), its[j]? = some x → its[j']? = some x' → x.q = x'.q → j = j'
noncomputable def Inner (its : List It) (J : Nat) (fs₀ : List Value) (b : UInt64) (t : Tok) (i : Nat) (fs : List Value) : Prop := fs.length = its.length ∧ ∀ (j : Nat) (x : It), its[j]? = some x →
  (j < J ∨ J + i ≤ j → fs[x.q.toNat]? = fs₀[x.q.toNat]?) ∧ (J ≤ j → j < J + i → fs[x.q.toNat]? = some (.float b t))
theorem inner_zero {its : List It} {J : Nat} {fs : List Value} {b : UInt64} {t : Tok} (h : fs.length = its.length) : Inner its J fs b t 0 fs := ⟨h, fun j x _ => ⟨fun _ => rfl, fun h1 h2 => by omega⟩⟩
theorem inner_step {its : List It} {J i : Nat} {fs₀ fs : List Value} {b : UInt64} {t : Tok} {x : It} (hq : Qs its) (h : Inner its J fs₀ b t i fs) (hx : its[J + i]? = some x) : Inner its J fs₀ b t (i + 1) (fs.set x.q.toNat (.float b t)) := by
  obtain ⟨h1, h2⟩ := h
  refine ⟨by simp [h1], fun j y hy => ?_⟩
  have hb := hq.bnd _ _ hx
  have hb' := hq.bnd _ _ hy
  by_cases hj : j = J + i
  · subst hj
    rw [hx] at hy
    cases hy
    refine ⟨fun z => by omega, fun _ _ => ?_⟩
    rw [List.getElem?_set_self (by omega)]
  · have ne : x.q.toNat ≠ y.q.toNat := fun e => hj (hq.inj _ _ _ _ hy hx (by omega))
    rw [List.getElem?_set_ne ne]
    exact ⟨fun z => (h2 j y hy).1 (by omega), fun a1 a2 => (h2 j y hy).2 a1 (by omega)⟩
theorem rk_zero {its : List It} {k : Int} {fs : List Value} (h : fs.length = its.length) : RkOk its k 0 fs := ⟨h, fun j x hj => absurd hj (Nat.not_lt_zero _)⟩
theorem rk_step {its : List It} {k : Int} {J n : Nat} {fs₀ fs : List Value} {t : Tok} {x : It} (h0 : RkOk its k J fs₀) (ht : t ≠ 0) (hi : Inner its J fs₀ (rkF (k - 1 + J) n) t n fs) (hx : its[J]? = some x)
    (hrun : ∀ i, i < n → ∃ y, its[J + i]? = some y ∧ y.v = x.v) (hend : ∀ y, its[J + n]? = some y → y.v ≠ x.v) (hpre : ∀ z, 0 < J → its[J - 1]? = some z → z.v ≠ x.v) : RkOk its k (J + n) fs := by
  refine ⟨hi.1, fun j y hj hy => ?_⟩
  by_cases hjJ : j < J
  · obtain ⟨a, m, u, e0, e1, e2, e3, e4, e5, e6, e7⟩ := h0.2 j y hjJ hy
    exact ⟨a, m, u, e0, by rw [(hi.2 j y hy).1 (.inl hjJ)]; exact e1, e2, e3, by omega, e5, e6, e7⟩
  · obtain ⟨y', hy', hv⟩ := hrun (j - J) (by omega)
    rw [show J + (j - J) = j by omega, hy] at hy'
    cases hy'
    refine ⟨J, n, t, ht, (hi.2 j y hy).2 (by omega) hj, by omega, hj, Nat.le_refl _, fun i h1 h2 => ?_, fun z h1 h2 => ?_, fun z h1 => ?_⟩
    · obtain ⟨z, hz, hzv⟩ := hrun (i - J) (by omega)
      rw [show J + (i - J) = i by omega] at hz
      exact ⟨z, hz, hzv.trans hv.symm⟩
    · rw [hv]; exact hpre z h1 h2
    · rw [hv]; exact hend z h1
theorem run_end {its : List It} {J : Nat} {x : It} (hx : its[J]? = some x) : ∃ n, 0 < n ∧ J + n ≤ its.length ∧ (∀ i, i < n → ∃ y, its[J + i]? = some y ∧ y.v = x.v) ∧ ∀ y, its[J + n]? = some y → y.v ≠ x.v := by
  have key : ∀ d J, its.length - J = d → ∀ v, (∃ n, J + n ≤ its.length ∨ its.length < J) → J ≤ its.length → ∃ n, J + n ≤ its.length ∧ (∀ i, i < n → ∃ y, its[J + i]? = some y ∧ y.v = v) ∧ ∀ y, its[J + n]? = some y → y.v ≠ v := by
    intro d
    induction d with
    | zero =>
      intro J hd v _ hJ
      refine ⟨0, hJ, fun i hi => absurd hi (Nat.not_lt_zero _), fun y hy => ?_⟩
      exact absurd (List.getElem?_eq_some_iff.mp hy).1 (Nat.not_lt.mpr (Nat.sub_eq_zero_iff_le.mp hd))
    | succ d ih =>
      intro J hd v _ hJ
      have hlt : J < its.length := dec_pos hd
      by_cases hv : its[J].v = v
      · obtain ⟨n, n1, n2, n3⟩ := ih (J + 1) (dec_eq hd) v ⟨0, by omega⟩ (by omega)
        refine ⟨n + 1, by omega, fun i hi => ?_, fun y hy => n3 y (by rw [← hy]; congr 1; omega)⟩
        cases i with
        | zero => exact ⟨its[J], List.getElem?_eq_getElem hlt, hv⟩
        | succ i =>
          obtain ⟨y, hy, hyv⟩ := n2 i (by omega)
          exact ⟨y, by rw [← hy]; congr 1; omega, hyv⟩
      · refine ⟨0, hJ, fun i hi => absurd hi (Nat.not_lt_zero _), fun y hy => ?_⟩
        rw [Nat.add_zero, List.getElem?_eq_getElem hlt] at hy
        cases hy
        exact hv
  have hlt := (List.getElem?_eq_some_iff.mp hx).1
  obtain ⟨n, n1, n2, n3⟩ := key _ (J + 1) rfl x.v ⟨0, by omega⟩ (by omega)
  refine ⟨n + 1, by omega, by omega, fun i hi => ?_, fun y hy => n3 y (by rw [← hy]; congr 1; omega)⟩
  cases i with
  | zero => exact ⟨x, hx, rfl⟩
  | succ i =>
    obtain ⟨y, hy, hyv⟩ := n2 i (by omega)
    exact ⟨y, by rw [← hy]; congr 1; omega, hyv⟩
theorem fin_head {P : GP} {A₀ : Around} {base h₀ h : Heap} {outer : List Env} {L : Addr} {m : Str → Option Value} {gr dG : Addr} {x : It} {sr : Int} {tn t1 t2 : Tok} {more : List (Addr × Obj)} {J n : Nat} {acc : Array Value}
    (H : GrFin P A₀ base outer h₀ L m gr dG x sr tn t1 t2 more J n acc h) (hx : P.its[J]? = some x) (hn : 0 < n) (hle : J + n ≤ P.its.length) (hrun : ∀ i, i < n → ∃ y, P.its[J + i]? = some y ∧ y.v = x.v) (hend : ∀ y, P.its[J + n]? = some y → y.v ≠ x.v)
    (hs1 : (0 : Int) ≤ sr) (hs2 : sr ≤ J + 1) :
    ∃ go lo, Stands A₀ base outer h₀ L m (P.grp gr dG x sr tn more go lo) h ∧ ∀ m' more' h', Stands A₀ base outer h₀ L m' (P.led go lo ++ (P.tl ++ more')) h' → Head P A₀ base outer h₀ L m' more' (J + n) h' := by
  obtain ⟨_, H1, H2⟩ := H
  cases hy : P.its[J + n]? with
  | some y =>
    refine ⟨_, _, H1 y hy, fun m' more' h' S => .inr (.inl ⟨x, y, sr, t1, t2, hy, List.mem_of_getElem? hx, Ne.symm (hend y hy), ?_, hs1, by omega, S⟩)⟩
    obtain ⟨z, hz, hzv⟩ := hrun (n - 1) (by omega)
    exact ⟨z, by rw [← hz]; congr 1; omega, hzv⟩
  | none =>
    refine ⟨_, _, H2 hy, fun m' more' h' S => .inr (.inr ⟨?_, x, sr, t1, t2, _, S⟩)⟩
    have := List.getElem?_eq_none_iff.mp hy
    omega
theorem Stands.new {A₀ : Around} {base h₀ h : Heap} {outer : List Env} {L S : Addr} {m : Str → Option Value} {led : List (Addr × Obj)} (x : Stands A₀ base outer h₀ L m led h) (hS : S = h.objs.size) : S ≠ L ∧ h₀.get? S = none ∧ ∀ p ∈ led, p.1 ≠ S := by
  subst hS
  have w := x.was
  obtain ⟨h₁, T, F, _, _, N⟩ := x
  refine ⟨Ne.symm (Nat.ne_of_lt F.ns.lt), ?_, fun p hp => Nat.ne_of_lt (Heap.lt_size (N p hp).1)⟩
  cases z : h₀.get? h.objs.size with
  | none => rfl
  | some o =>
    obtain ⟨sl, hs⟩ := T.up z
    exact absurd (Heap.lt_size (F.keep _ _ hs)) (Nat.lt_irrefl _)
theorem Stands.newgrp {A₀ : Around} {base h₀ h : Heap} {outer : List Env} {L S : Addr} {m : Str → Option Value} {P : GP} {gr dG : Addr} {x : It} {sr : Int} {tn : Tok} {more : List (Addr × Obj)} {go lo : Obj} (St : Stands A₀ base outer h₀ L m (P.grp gr dG x sr tn more go lo) h) (hS : S = h.objs.size) : S ∉ P.adr gr dG more := fun hm => by
  rw [← P.grp_adr gr dG x sr tn more go lo] at hm
  obtain ⟨q, hq, e⟩ := List.mem_map.mp hm
  exact (St.new hS).2.2 q hq e
theorem news_cons {h₁ h : Heap} {L a : Addr} {o : Obj} {led : List (Addr × Obj)} (N : News h₁ L h led) (e : h.get? a = some o) (hL : a ≠ L) (h0 : h₁.get? a = none) : News h₁ L h ((a, o) :: led) := fun q hq => by
  rcases List.mem_cons.mp hq with rfl | hq
  · exact ⟨e, hL, h0⟩
  · exact N q hq
section
variable {φ : Tok → Int} {w : World} {p : Program} {loose : List Str} {mean : ExcName → Option Value} {mg mb : Str → Option Value}
    {dp un : Nat} {gd : Option (List Code)} {cn : Str} {cs : Scope} {a : Addr} {ccd : Value} {cl : List (Str × Addr)} {outer : List Env} {A₀ : Around} {base h₀ : Heap} {L : Addr} {m : Str → Option Value}
    {P : GP} {gr dG : Addr} {x : It} {sr : Int} {tn t1 t2 : Tok} {more : List (Addr × Obj)} {J : Nat} {s : Shared} {E : Value → Shared → Prop} {Q : Value → Shared → Prop}
theorem list_group (ok : P.Ok φ) (o8 : @LT.lt Nat _ P.li dG) (o9 : @LT.lt Nat _ dG gr) (hmore : ∀ q ∈ more, q.1 ∉ [gr, dG, P.gb, P.d, P.ig, P.dI, P.tp, P.li, P.D] ∧ q.1 ∉ P.its.map It.T) (hlen : P.its.length ≤ 50)
    (hx : P.its[J]? = some x) (hs1 : (0 : Int) ≤ sr) (hs2 : sr ≤ J + 1) (St : Stands A₀ base outer h₀ L m (P.grp gr dG x sr tn more (P.held x sr t1 t2) (liObj P.D (J + 1))) s.heap)
    (X : (hd.heap_39 w.params).In base) (T : Top p loose mean mg mb base) (hk : cs.kind = .function) (hd : dp + 6 < recursionLimit) (hu : un + 82 < cLine)
    (hQ : ∀ S n (acc : List Value) c go lo h' tk', 0 < n → J + n ≤ P.its.length → (∀ i, i < n → ∃ y, P.its[J + i]? = some y ∧ y.v = x.v) → (∀ y, P.its[J + n]? = some y → y.v ≠ x.v) → acc.length = n → acc = (P.os.drop J).take n →
      Stands A₀ base outer h₀ L m ((S, W.listOf acc.toArray c) :: P.grp gr dG x sr tn more go lo) h' → S ∉ P.adr gr dG more → (∀ m' more' h'', Stands A₀ base outer h₀ L m' (P.led go lo ++ (P.tl ++ more')) h'' → Head P A₀ base outer h₀ L m' more' (J + n) h'') → Q (.ref S) { s with heap := h', toks := tk' }) :
    wpAny (model PG w) (ktrTop dp un gd cn cs L a ccd cl outer) (call (.type "list") [.ref gr]) Q E s := by
  obtain ⟨n, hn1, hn2, hrun, hend⟩ := run_end hx
  obtain ⟨n1, n2, _⟩ := St.new rfl
  have n3 := St.newgrp rfl
  refine list_feed (gr_feed (S := s.heap.objs.size) (n := n) ok o8 o9 hmore hx hrun hn1 (by omega) hend n3 n1 n2 X T hk hd (by omega)) ⟨rfl, by simp, fun _ => St.grow (fun b o e => Heap.get?_push_of_some _ e), fun z => absurd z (Nat.lt_irrefl _), _, Heap.get?_push_size _ rfl⟩ (fun acc c3 h4 tk4 hf hS4 => ?_)
  have hacc := hf.1
  have hl4 : acc.toList.length = n := by rw [hacc]; simp; omega
  obtain ⟨go, lo, ⟨h₄, T4, F4, B4, D4, N4⟩, hh4⟩ := fin_head hf hx hn1 hn2 hrun hend hs1 hs2
  exact hQ _ n acc.toList c3 go lo h4 tk4 hn1 hn2 hrun hend hl4 hacc ⟨h₄, T4, F4, B4, D4, news_cons N4 hS4 n1 (T4.none_ _ n2)⟩ n3 hh4
end
theorem os_it {P : GP} {acc : List Value} {J i : Nat} {v : Value} (h : acc = (P.os.drop J).take acc.length) (hv : acc[i]? = some v) : ∃ x, P.its[J + i]? = some x ∧ v = .ref x.T := by
  have hi : i < acc.length := (List.getElem?_eq_some_iff.mp hv).1
  rw [h, List.getElem?_take_of_lt hi, List.getElem?_drop] at hv
  have hv' : (P.its.map fun i => Value.ref i.T)[J + i]? = some v := hv
  rw [List.getElem?_map] at hv'
  cases e : P.its[J + i]? with
  | none => rw [e] at hv'; cases hv'
  | some x => rw [e] at hv'; exact ⟨x, rfl, (Option.some.inj hv').symm⟩
theorem names4 {m : Str → Option Value} {n1 n2 n3 n4 : Str} {v1 v2 v3 v4 : Value} (h1 : m n1 = some v1) (h2 : m n2 = some v2) (h3 : m n3 = some v3) (h4 : m n4 = some v4) :
    m = fun z => if z = n1 then some v1 else if z = n2 then some v2 else if z = n3 then some v3 else if z = n4 then some v4 else m z := by
  funext z
  by_cases e1 : z = n1
  · subst e1; rw [if_pos rfl]; exact h1
  by_cases e2 : z = n2
  · subst e2; rw [if_neg e1, if_pos rfl]; exact h2
  by_cases e3 : z = n3
  · subst e3; rw [if_neg e1, if_neg e2, if_pos rfl]; exact h3
  by_cases e4 : z = n4
  · subst e4; rw [if_neg e1, if_neg e2, if_neg e3, if_pos rfl]; exact h4
  rw [if_neg e1, if_neg e2, if_neg e3, if_neg e4]
theorem to_stands {φ : Tok → Int} {A : Around} {base g h : Heap} {outer : List Env} {L : Addr} {m : Str → Option Value} {gb d ig dI tp li D r e0 l0 : Addr} {x0 y0 : Obj} {t0 t1 t2 : Tok} {zs os : List Value} {c e : Nat} {its : List It}
    (B : Below A base outer g) (Dd : KtsDicts (outer.filterMap (·.frame)) g) (F : Fr g L h m)
    (N : News g L h ((li, liObj D 0) :: (gb, gbObj d ig li false .none false .none false .none 0 t1 0 t2) :: (d, dictOf [] 0) :: (tp, tupO [.int 0 t0]) :: (e0, x0) :: (ig, igObj dI tp) :: (dI, dictOf [] 0) :: (r, W.listOf zs.toArray c) :: (l0, y0) :: (D, W.listOf os.toArray e) :: its.map It.ent))
    (h1 : m (Str.ofString "result") = some (.ref r)) {k1 : Int} {ti : Tok} (h2 : m (Str.ofString "i") = some (.int k1 ti)) (hz : zs.length = its.length) (hos : os = its.map fun i => .ref i.T) (hits : ∀ i ∈ its, @LT.lt Nat _ i.T D) (htok : ∀ i ∈ its, i.tv ≠ 0 ∧ φ i.tv = i.v) (r1 : @LT.lt Nat _ D r) (r2 : @LT.lt Nat _ r dI) (o3 : @LT.lt Nat _ dI ig) (o4 : @LT.lt Nat _ ig tp) (o5 : @LT.lt Nat _ tp d) (o6 : @LT.lt Nat _ d gb) (o7 : @LT.lt Nat _ gb li) :
    ∃ (P : GP) (r : Addr) (zs : List Value) (c : Nat) (t1 t2 ti : Tok) (m : Str → Option Value), P.gb = gb ∧ P.its = its ∧ P.Ok φ ∧ zs.length = its.length ∧ m (Str.ofString "result") = some (.ref r) ∧ m (Str.ofString "i") = some (.int k1 ti) ∧
      (∀ q ∈ [(r, W.listOf zs.toArray c)], q.1 ∉ [P.gb, P.d, P.ig, P.dI, P.tp, P.li, P.D] ∧ q.1 ∉ P.its.map It.T) ∧
      Stands A base outer g L m (P.led (P.fresh t1 t2) (liObj P.D 0) ++ (P.tl ++ [(r, W.listOf zs.toArray c)])) h := by
  subst hos
  refine ⟨⟨gb, d, ig, dI, tp, li, D, t0, e, its⟩, r, zs, c, t1, t2, ti, m, rfl, rfl, ⟨hits, (show @LT.lt Nat _ D dI by omega), o3, o4, o5, o6, o7, htok⟩, hz, h1, h2, fun q hq => ?_, g, KtsTurn.refl, F, B, Dd, fun q hq => N q ?_⟩
  · rw [List.mem_singleton.mp hq]
    have ne : ∀ {a b : Nat}, a < b → a = b → False := fun h1 h2 => Nat.lt_irrefl _ (h2 ▸ h1)
    have ne' : ∀ {a b : Nat}, b < a → a = b → False := fun h1 h2 => Nat.lt_irrefl _ (h2 ▸ h1)
    refine ⟨fun hm => ?_, fun hm => ?_⟩
    · simp only [List.mem_cons, List.not_mem_nil, or_false] at hm
      rcases hm with z | z | z | z | z | z | z
      · exact ne (show @LT.lt Nat _ r gb by omega) z
      · exact ne (show @LT.lt Nat _ r d by omega) z
      · exact ne (show @LT.lt Nat _ r ig by omega) z
      · exact ne r2 z
      · exact ne (show @LT.lt Nat _ r tp by omega) z
      · exact ne (show @LT.lt Nat _ r li by omega) z
      · exact ne' r1 z
    · obtain ⟨i, hi, e⟩ := List.mem_map.mp hm
      have h1 := hits i hi
      exact ne (show @LT.lt Nat _ i.T r by omega) e
  · simp only [List.mem_append, List.mem_cons, List.not_mem_nil, or_false] at hq ⊢
    rcases hq with (z | z | z | z | z | z | z) | z | z
    · exact .inr (.inl z)
    · exact .inr (.inr (.inl z))
    · exact .inr (.inr (.inr (.inr (.inr (.inl z)))))
    · exact .inr (.inr (.inr (.inr (.inr (.inr (.inl z))))))
    · exact .inr (.inr (.inr (.inl z)))
    · exact .inl z
    · exact .inr (.inr (.inr (.inr (.inr (.inr (.inr (.inr (.inr (.inl z)))))))))
    · exact .inr (.inr (.inr (.inr (.inr (.inr (.inr (.inr (.inr (.inr z)))))))))
    · exact .inr (.inr (.inr (.inr (.inr (.inr (.inr (.inl z)))))))
theorem qs_of {its : List It} {ns : List Int} (hp : (its.map fun i => (i.v, i.q)).Perm (kpairs ns)) : Qs its := by
  have hl : its.length = ns.length := by have := hp.length_eq; rwa [List.length_map, kpairs_len] at this
  have hq : (its.map It.q).Perm ((kpairs ns).map Prod.snd) := by
    have := hp.map Prod.snd
    rwa [List.map_map] at this
  have hr : (kpairs ns).map Prod.snd = (List.range ns.length).map fun (i : Nat) => (i : Int) := by
    refine List.ext_getElem (by simp [kpairs_len]) fun j h1 h2 => ?_
    have hj : j < ns.length := by simpa [kpairs_len] using h1
    have := kpairs_get ns j hj
    rw [List.getElem?_eq_getElem (by rw [kpairs_len]; exact hj), Option.some.injEq] at this
    simp [this]
  rw [hr] at hq
  refine ⟨fun j x hx => ?_, fun j j' x x' hx hx' e => ?_⟩
  · have : x.q ∈ its.map It.q := List.mem_map_of_mem (List.mem_of_getElem? hx)
    obtain ⟨i, hi, e⟩ := List.mem_map.mp (hq.mem_iff.mp this)
    have := List.mem_range.mp hi
    omega
  · have nd : (its.map It.q).Nodup := hq.nodup_iff.mpr (by unfold List.Nodup; rw [List.pairwise_map]; exact List.nodup_range.imp (fun h e => h (by omega)))
    have h1 := (List.getElem?_eq_some_iff.mp hx).1
    have h2 := (List.getElem?_eq_some_iff.mp hx').1
    have e1 : (its.map It.q)[j]'(by simpa using h1) = x.q := by rw [List.getElem_map]; congr 1; exact (List.getElem?_eq_some_iff.mp hx).2
    have e2 : (its.map It.q)[j']'(by simpa using h2) = x'.q := by rw [List.getElem_map]; congr 1; exact (List.getElem?_eq_some_iff.mp hx').2
    have pw := List.pairwise_iff_getElem.mp nd
    rcases Nat.lt_trichotomy j j' with q | q | q
    · exact absurd (by rw [e1, e2, e]) (pw j j' (by simpa using h1) (by simpa using h2) q)
    · exact q
    · exact absurd (by rw [e1, e2, e]) (pw j' j (by simpa using h2) (by simpa using h1) q)
end
-- Lx
section
section
variable {prog : Program} {w : World} {A : Around} {E : Value → Shared → Prop} {Q : Value → Shared → Prop} {h₀ : Heap} {L l : Addr} {m : Str → Option Value} {news : List (Addr × Obj)} {vs : List Value} {ns ms : List Int} {lo hi : Option Int} {vl vu : Value} {value slice : PySem.Expr}
theorem slice_own {hp : Heap} {g : Array GenState} {d : Drawn} {tk : Nat} {os : OsState} (F : Fr h₀ L hp m) (N : News h₀ L hp news) (hl : hp.IsList l vs.toArray) (pl : IsPart vl lo) (pu : IsPart vu hi) (hi' : IntsAre vs ns) (hm : IntsAre (slicePick vs.toArray lo hi none).toList ms)
    (hz : ns.length ≤ 1000)
    (h : ∀ D ws h', Fr h₀ L h' m → News h₀ L h' ((D, W.listOf (List.toArray ws) 0) :: news) → (∀ p ∈ news, p.1 < D) → IntsAre ws ms → Q (.ref D) ⟨h', g, d, tk, os⟩)
    {ops : List Value} (hs : subscripted slice false (.ref l) (.ref hp.objs.size) = operate ops (getItem (.ref l) (.ref hp.objs.size)) := by with_unfolding_all rfl) :
    wpAny (model prog w) A (subscriptTail value slice (.ref l) (.ref hp.objs.size)) Q E ⟨hp.push { cls := .type "slice", data := .fields #[vl, vu, .none] }, g, d, tk, os⟩ := by
  have hsz : vs.toArray.size ≤ sizeLine := by rw [List.size_toArray, sizeLine_eq, hi'.length]; omega
  refine tail_any (T := "list") (Heap.IsList.typeIs (s := ⟨hp.push { cls := .type "slice", data := .fields #[vl, vu, .none] }, g, d, tk, os⟩) (hl.push _)) list_getitem_lookup
    (wpAny_getItem_list_slice (s := ⟨hp.push { cls := .type "slice", data := .fields #[vl, vu, .none] }, g, d, tk, os⟩) (hl.push _) (Heap.IsSliceOf.new ..) pl pu .none (by simp) ?_ hsz) hs
  have N1 := News.push (F.push { cls := .type "slice", data := .fields #[vl, vu, .none] }) (N.grown fun _ _ e => Heap.get?_push_of_some _ e) { cls := .type "list", data := .seq (slicePick vs.toArray lo hi none) }
  refine h _ (slicePick vs.toArray lo hi none).toList _ ((F.push _).push _) ?_ (fun p hp' => ?_) hm
  · exact N1
  · rw [Heap.size_push]; exact Nat.lt_succ_of_lt (Heap.lt_size (N p hp').1)
end
theorem news_fresh {h₀ h h' : Heap} {L D : Addr} {o : Obj} {m : Str → Option Value} {news : List (Addr × Obj)} (F : Fr h₀ L h m) (N : News h₀ L h news) (st : h.StaysIn h') (hD : h.objs.size ≤ D) (e : h'.get? D = some o) : News h₀ L h' ((D, o) :: news) := by
  have hn : h.get? D = none := Heap.get?_none_of_le hD
  refine news_cons (N.grown st) e (fun z => ?_) ?_
  · obtain ⟨oL, _, _, hL, _⟩ := F.ns
    rw [z, hL] at hn; cases hn
  · cases z : h₀.get? D with
    | none => rfl
    | some o => have := F.keep _ _ z; rw [hn] at this; cases this
theorem news_lt {h₀ h : Heap} {L D : Addr} {news : List (Addr × Obj)} (N : News h₀ L h news) (hD : h.objs.size ≤ D) : ∀ p ∈ news, p.1 < D := fun p hp => Nat.lt_of_lt_of_le (Heap.lt_size (N p hp).1) hD
theorem cell_get {h₀ h : Heap} {L a : Addr} {o : Obj} {d : Data} {news : List (Addr × Obj)} (N : News h₀ L h news) (_ : o.data = d) (hm : (a, o) ∈ news) : h.get? a = some o := N.get hm
end
-- Ct
section
noncomputable def TokUp (tk : Nat) : List Value → Prop
  | [] => True
  | y :: ys => (∃ n t, y = .int n t ∧ t ≠ 0 ∧ t ≤ tk ∧ ∀ z ∈ ys, ∀ n' t', z = Value.int n' t' → t < t') ∧ TokUp tk ys
theorem TokUp.up {a b : Nat} (h : a ≤ b) : ∀ {ys : List Value}, TokUp a ys → TokUp b ys
  | [], _ => trivial
  | _ :: _, ⟨⟨n, t, e, h0, h1, h2⟩, r⟩ => ⟨⟨n, t, e, h0, Nat.le_trans h1 h, h2⟩, r.up h⟩
theorem TokUp.snoc {a b t : Nat} {n : Int} (h0 : t ≠ 0) (h1 : a < t) (h2 : t ≤ b) : ∀ {ys : List Value}, TokUp a ys → TokUp b (ys ++ [.int n t])
  | [], _ => ⟨⟨n, t, rfl, h0, h2, fun z hz => nomatch hz⟩, trivial⟩
  | y :: ys, ⟨⟨m, u, e, u0, u1, u2⟩, r⟩ => by
    refine ⟨⟨m, u, e, u0, Nat.le_trans (Nat.le_of_lt (Nat.lt_of_le_of_lt u1 h1)) h2, fun z hz n' t' e' => ?_⟩, r.snoc h0 h1 h2⟩
    rcases List.mem_append.mp hz with hz | hz
    · exact u2 z hz n' t' e'
    · rw [List.mem_singleton.mp hz] at e'
      cases e'
      exact Nat.lt_of_le_of_lt u1 h1
theorem TokUp.coh {a : Nat} : ∀ {ys : List Value}, TokUp a ys → ∃ φ, Coh φ ys
  | [], _ => ⟨fun _ => 0, fun _ h => nomatch h⟩
  | y :: ys, ⟨⟨n, t, e, h0, _, h2⟩, r⟩ => by
    obtain ⟨φ, hφ⟩ := r.coh
    refine ⟨fun u => if u = t then n else φ u, fun v hv => ?_⟩
    rcases List.mem_cons.mp hv with rfl | hv
    · exact ⟨n, t, e, h0, if_pos rfl⟩
    · obtain ⟨n', t', e', h0', hv'⟩ := hφ v hv
      refine ⟨n', t', e', h0', ?_⟩
      have := h2 v hv n' t' e'
      show (if t' = t then n else φ t') = n'
      rw [if_neg (fun q => by rw [q] at this; exact Nat.lt_irrefl _ this)]
      exact hv'
section
variable {prog : Program} {w : World} {A : Around} {E : Value → Shared → Prop} {env : Env} {s : Shared}
noncomputable def CompToks (prog : Program) (w : World) (A : Around) (env : Env) (elt : Expr) (x : Str) (scope : Scope) (cl : List (Str × Addr)) (g : Int → Int) (Q : Value → Shared → Prop) (xv : Value) (s₁ : Shared) : Prop :=
  ∃ l us ms, xv = .ref l ∧ s₁.heap.IsList l us.toArray ∧ IntsAre us ms ∧ ms.length ≤ 1000 ∧
    (∀ C n t s₃ m₃ E', n ∈ ms → s₃.heap.Ns C m₃ → m₃ x = some (.int n t) → s₁.heap.StaysIn s₃.heap →
      wpAny (model prog w) A (eval elt (compEnvC scope cl C env)) (fun y s₄ => (∃ t', y = .int (g n) t' ∧ s₃.toks < t' ∧ t' ≤ s₄.toks) ∧ Keeps s₃ s₄) E' s₃) ∧
    (∀ D h' tk k (ys : List Value), s₁.heap.objs.size ≤ D → h'.get? D = some (W.listOf ys.toArray k) → IntsAre ys (ms.map g) → TokUp tk ys → s₁.heap.StaysIn h' → Q (.ref D) { s₁ with heap := h', toks := tk })
end
namespace comp_toks_c
noncomputable def hkS : Prop := ∀ {prog : Program} {w : World} {A : Around} {E : Value → Shared → Prop} {env : Env} {s : Shared} {elt iter : Expr} {x : Str} {px : Pos} {scope : Scope} {cl : List (Str × Addr)} {pos : Pos} {Q : Value → Shared → Prop} (g : Int → Int) (hh : A.handled = none) (hclos : closureFor scope env = pure cl) (hcell : ∀ y ∈ scope.names, y.2 ≠ .cell) (hkind : scope.kind = .function) (hnames : ∀ y ∈ scope.names, y.2 = .local → scope.names.lookup y.1 = some .local) (hx : scope.names.lookup x = some .local) (h : wpAny (model prog w) A (eval iter env) (CompToks prog w A env elt x scope cl g Q) E s) (hs : ∀ x, foldedSetIterable iter env x = pure x), wpAny (model prog w) A (eval (.ListComp elt [⟨.Name x px, iter, [], 0⟩] scope pos) env) Q E s
noncomputable def hkK : Σ' P : Program → World → Around → tQ → Env → Shared → Expr → Expr → Str → Pos → Scope → tA → Pos → tQ → (Int → Int) → Prop, (∀ a b c d e f g h i j k l m n o, P a b c d e f g h i j k l m n o) → hkS := ⟨_, fun hk9 => by intro prog w A E env s elt iter x px scope cl pos Q g hh hclos hcell hkind hnames hx h hs; revert hs; revert h; revert hx; revert hnames; revert hkind; revert hcell; revert hclos; revert hh; apply (hk9 prog w A E env s elt iter x px scope cl pos Q g)⟩
namespace Z9
noncomputable def hkP (y : VV) := hkK.1 (y.P 0) (y.W 0) (y.A 0) (y.Q 0) (y.s 0) (y.R 0) (y.t 0) (y.t 1) (y.G 0) (y.u 0) (y.K 0) (y.T 0) (y.u 1) (y.Q 1) (y.h 0)
@[irreducible] noncomputable def hkG1 := epsV0 hkP
@[irreducible] def g : (Int → Int) := hkG1.h 0
noncomputable def hkK1 : Σ' P0 : Shared → Addr → tV → tI → Heap → Nat → Nat → Prop, (∀ a b c d e f g, P0 a b c d e f g) → hkP hkG1 := ⟨_, fun hcA => by
  with_unfolding_all show hkK.1 (hkG1.P 0) (hkG1.W 0) (hkG1.A 0) (hkG1.Q 0) (hkG1.s 0) (hkG1.R 0) (hkG1.t 0) (hkG1.t 1) (hkG1.G 0) (hkG1.u 0) (hkG1.K 0) (hkG1.T 0) (hkG1.u 1) (hkG1.Q 1) g
  intro hh hclos hcell hkind hnames hx h hs
  rw [eval_ListComp]
  refine wpAny_comprehension_free (use := none) rfl hs hclos hkind hnames (wpAny_mono h (fun xv s₁ h₁ => ?_) fun _ _ e => e)
  obtain ⟨l, us, ms, rfl, hl, hi, hlen, helt, hdone⟩ := h₁
  have hlt : @LT.lt Nat _ l s₁.heap.objs.size := by obtain ⟨_, e, _⟩ := hl; exact Heap.lt_size e
  refine wpAny_pyIter_list hl ?_
  have fresh : ∀ a, s₁.heap.objs.size ≤ a → s₁.heap.get? a = none := fun a ha => Heap.get?_none_of_le ha
  refine wpAny_newObj_type (wpAny_newFunctionEnv hcell (by intro y hy; simp at hy) (fun h₁ hns₁ hsb₁ => ?_) hkind)
  dsimp only at hns₁ hsb₁ ⊢
  generalize hH1 : s₁.heap.push { cls := .type "list_iterator", dict := none, data := .fields #[.ref l, .int 0 0] } = H1 at hns₁ hsb₁ ⊢
  generalize hH2 : H1.push { cls := .type "list", dict := none, data := .seq ([] : List Value).toArray } = H2 at hns₁ hsb₁ ⊢
  have hDe : @Eq Nat H1.objs.size (s₁.heap.objs.size + 1) := by rw [← hH1, Heap.size_push]
  have hCe : @Eq Nat H2.objs.size (s₁.heap.objs.size + 1 + 1) := by rw [← hH2, Heap.size_push, hDe]
  generalize hDn : H1.objs.size = D at *
  generalize hCn : H2.objs.size = C at *
  have nIC : s₁.heap.objs.size ≠ C := fun e => by have e' : @Eq Nat _ C := e; lia
  have nID : s₁.heap.objs.size ≠ D := fun e => by have e' : @Eq Nat _ D := e; lia
  have nDC : D ≠ C := fun e => by have e' : @Eq Nat D C := e; lia
  have below : ∀ b o, s₁.heap.get? b = some o → b ≠ s₁.heap.objs.size ∧ b ≠ D ∧ b ≠ C := fun b o e => by
    have hb : @LT.lt Nat _ b s₁.heap.objs.size := Heap.lt_size e
    refine ⟨fun q => ?_, fun q => ?_, fun q => ?_⟩
    · have q' : @Eq Nat b _ := q; lia
    · have q' : @Eq Nat b D := q; lia
    · have q' : @Eq Nat b C := q; lia
  have old : ∀ b o, s₁.heap.get? b = some o → h₁.get? b = some o := fun b o e =>
    hsb₁.extBut b o (below b o e).2.2 (Heap.get?_push_of_some _ (hH2 ▸ Heap.get?_push_of_some _ (hH1 ▸ Heap.get?_push_of_some _ e)))
  have hI : h₁.get? s₁.heap.objs.size = some { cls := .type "list_iterator", data := .fields #[.ref l, .int 0 0] } :=
    hsb₁.extBut _ _ nIC (Heap.get?_push_of_some _ (hH2 ▸ Heap.get?_push_of_some _ (hH1 ▸ Heap.get?_push_size _ rfl)))
  have hD : h₁.get? D = some { cls := .type "list", data := .seq ([] : List Value).toArray } :=
    hsb₁.extBut _ _ nDC (Heap.get?_push_of_some _ (by rw [← hH2, ← hDn]; exact Heap.get?_push_size _ rfl))
  have Wk := Walks.list (prog := (hkG1.P 0)) (w := (hkG1.W 0)) hh s₁.heap.objs.size l (Nat.ne_of_lt hlt) us.toArray
  have hsz : us.toArray.size = us.length := by simp
  rw [hsz] at Wk
  have hul : us.length = ms.length := hi.length
  have nlC : l ≠ C := fun q => by have q' : @Eq Nat l C := q; lia
  have nlD : l ≠ D := fun q => by have q' : @Eq Nat l D := q; lia
  have nw : ∀ b, b ≠ s₁.heap.objs.size → b ∉ [s₁.heap.objs.size] := fun b h hm => h (List.mem_singleton.mp hm)
  revert nw; revert nlD; revert nlC; revert hul; revert hsz; revert Wk; revert hD; revert hI; revert old; revert below; revert nDC; revert nID; revert nIC; revert hCe; revert hns₁; revert hDe; revert fresh; revert hlt; revert hdone; revert helt; revert hlen; revert hi; revert hl; revert hs; revert h; revert hx; revert hnames; revert hkind; revert hcell; revert hclos; revert hh; apply (hcA s₁ l us ms h₁ D C)⟩
namespace A
noncomputable def hkP (y : VV) := hkK1.1 (y.R 0) (y.N 0) (y.L 0) (y.I 0) (y.H 0) (y.N 1) (y.N 2)
@[irreducible] noncomputable def hkG2 := epsV0 hkP
@[irreducible] def s₁ : Shared := hkG2.R 0
@[irreducible] def l : Addr := hkG2.N 0
@[irreducible] def us : tV := hkG2.L 0
@[irreducible] def ms : tI := hkG2.I 0
@[irreducible] def h₁ : Heap := hkG2.H 0
@[irreducible] def D : Nat := hkG2.N 1
noncomputable def hkK2 : Σ' P0 : Heap → Nat → tM → tV → Nat → Nat → Prop, (∀ a b c d e f, P0 a b c d e f) → hkP hkG2 := ⟨_, fun hcB => by
  with_unfolding_all show hkK1.1 s₁ l us ms h₁ D (hkG2.N 2)
  intro hh hclos hcell hkind hnames hx h hs hl hi hlen helt hdone hlt fresh hDe hns₁ hCe nIC nID nDC below old hI hD Wk hsz hul nlC nlD nw
  have loop : ∀ s₃ : Shared, s₃ = { s₁ with heap := h₁, toks := s₁.toks + ([] : List (Str × Value)).length } →
      codeAny (model (hkG1.P 0) (hkG1.W 0)) (hkG1.A 0) (.compLoop (.ListComp (hkG1.t 0) [⟨.Name (hkG1.G 0) (hkG1.u 0), (hkG1.t 1), [], 0⟩] (hkG1.K 0) (hkG1.u 1)) 0 (.ref s₁.heap.objs.size) (.ref D) (compEnvC (hkG1.K 0) (hkG1.T 0) (hkG2.N 2) (hkG1.s 0)))
        (compPost (model (hkG1.P 0) (hkG1.W 0)) (hkG1.A 0) (hkG1.Q 0) none (hkG1.Q 1) (.ref D) (hkG2.N 2)) s₃ := by
    rintro s₃ rfl
    refine codeAny_compLoop_tests (fun k s' => ∃ H tk m' ys k' i, s' = { s₁ with heap := H, toks := tk } ∧ i ≤ us.length ∧ k = us.length + 1 - i ∧ (H.IsListIter s₁.heap.objs.size l i ∧ H.IsList l us.toArray) ∧ H.get? D = some (W.listOf (List.toArray ys) k') ∧
        H.Ns (hkG2.N 2) m' ∧ IntsAre ys ((ms.take i).map g) ∧ TokUp tk ys ∧ (∀ b o, s₁.heap.get? b = some o → H.get? b = some o)) ?_ (us.length + 1)
      ⟨h₁, _, _, [], 0, 0, rfl, Nat.zero_le _, rfl, ⟨⟨_, hI, rfl, rfl⟩, hl.at fun o e => old l o e⟩, hD, hns₁, by simpa using IntsAre.nil, trivial, old⟩
    rintro k s' ⟨H, tk, m', ys, k', i, rfl, hi', rfl, hst, hacc, hn', hys, htu, hk⟩
    by_cases hlt' : i < us.length
    · skip
      revert hlt'; revert hk; revert htu; revert hys; revert hn'; revert hacc; revert hst; revert hi'; revert nw; revert nlD; revert nlC; revert hul; revert hsz; revert Wk; revert hD; revert hI; revert old; revert below; revert nDC; revert nID; revert nIC; revert hCe; revert hns₁; revert hDe; revert fresh; revert hlt; revert hdone; revert helt; revert hlen; revert hi; revert hl; revert hs; revert h; revert hx; revert hnames; revert hkind; revert hcell; revert hclos; revert hh; apply (hcB H tk m' ys k' i)
    · obtain rfl : i = us.length := Nat.le_antisymm hi' (Nat.not_lt.mp hlt')
      refine wpAny_with_toks (n := tk) (Nat.le_refl _) (Wk.done _ _ _ hst fun h₂ tk₂ hk₂ htk₂ => ?_)
      show ∃ m, Heap.Ns h₂ (hkG2.N 2) m ∧ ∀ h', Heap.SameBut (hkG2.N 2) h₂ h' → (hkG1.Q 1) (.ref D) { s₁ with heap := h', toks := tk₂ }
      refine ⟨m', hn'.at' fun o e => hk₂ _ o (nw _ (Ne.symm nIC)) e, fun h₆ hs₆ => ?_⟩
      have htk₂ : TokUp tk₂ ys := htu.up htk₂
      rw [hul, List.take_length] at hys
      exact hdone D h₆ tk₂ k' ys (by show @LE.le Nat _ _ _; lia) (hs₆.extBut D _ nDC (hk₂ D _ (nw _ (Ne.symm nID)) hacc)) hys htk₂ fun b o e => hs₆.extBut b o (below b o e).2.2 (hk₂ b o (nw _ (below b o e).1) (hk b o e))
  exact codeAny_compStart_list (loop _ rfl) (Wk.self 0 _ _ _ ⟨⟨_, hI, rfl, rfl⟩, hl.at fun o e => old l o e⟩ (loop _ rfl))⟩
namespace B
noncomputable def hkP (y : VV) := hkK2.1 (y.H 0) (y.N 0) (y.M 0) (y.L 0) (y.N 1) (y.N 2)
@[irreducible] noncomputable def hkG3 := epsV0 hkP
@[irreducible] def ys : tV := hkG3.L 0
@[irreducible] def i : Nat := hkG3.N 2
noncomputable def hkK3 : Σ' P0 : Heap → Nat → Tok → Heap → Tok → Heap → Nat → Prop, (∀ a b c d e f g, P0 a b c d e f g) → hkP hkG3 := ⟨_, fun hcC => by
  with_unfolding_all show hkK2.1 (hkG3.H 0) (hkG3.N 0) (hkG3.M 0) ys (hkG3.N 1) i
  intro hh hclos hcell hkind hnames hx h hs hl hi hlen helt hdone hlt fresh hDe hns₁ hCe nIC nID nDC below old hI hD Wk hsz hul nlC nlD nw hi' hst hacc hn' hys htu hk hlt'
  refine wpAny_with_toks (n := (hkG3.N 0)) (Nat.le_refl _) (Wk.item i _ _ _ hlt' hst fun v h₂ tk₂ hPv hst₂ hk₂ htk₂ => ?_)
  have hv : us[i]? = some v := by simpa using hPv
  obtain ⟨t, hx1⟩ := hi.get i (ms[i]'(by omega)) (by simp [show i < ms.length by omega])
  rw [hv] at hx1
  cases hx1
  refine wpAny_assign_Name (wpAny_storeName_local (s := { s₁ with heap := h₂, toks := tk₂ }) (env := compEnvC (hkG1.K 0) (hkG1.T 0) (hkG2.N 2) (hkG1.s 0)) (lookup_relabel_local hx) (hn'.at' fun o e => hk₂ _ o (nw _ (Ne.symm nIC)) e) (fun h₃ hn₃ hs₃ => ?_) (by simp [compEnvC, relabel, hkind]))
  have o3 : ∀ b o, s₁.heap.get? b = some o → h₃.get? b = some o := fun b o e => hs₃.extBut b o (below b o e).2.2 (hk₂ b o (nw _ (below b o e).1) (hk b o e))
  have hD₃ := hs₃.extBut D _ nDC (hk₂ D _ (nw _ (Ne.symm nID)) hacc)
  have hst₃ : h₃.IsListIter s₁.heap.objs.size l (i + 1) ∧ h₃.IsList l us.toArray := ⟨hst₂.1.at fun o e => hs₃.extBut _ o nIC e, hst₂.2.at fun o e => hs₃.extBut _ o nlC e⟩
  refine wpAny_pure ?_
  rw [if_pos rfl]
  refine wpAny_mono (wpAny_toks_of (n := tk₂) (Nat.le_succ _) (helt (hkG2.N 2) (ms[i]'(by omega)) t _ _ _ (List.getElem_mem _) hn₃ (by simp) o3)) (fun y s₄ h₄ => ?_) fun _ _ e => e.2
  obtain ⟨htk₄, ⟨t', rfl, ht1, ht2⟩, h₄, tk₄, rfl, hk₄⟩ := h₄
  revert ht2; revert htk₄; revert hk₄; revert ht1; revert hst₃; revert hD₃; revert o3; revert hs₃; revert hn₃; revert hv; revert hPv; revert htk₂; revert hk₂; revert hst₂; revert hlt'; revert hk; revert htu; revert hys; revert hn'; revert hacc; revert hst; revert hi'; revert nw; revert nlD; revert nlC; revert hul; revert hsz; revert Wk; revert hD; revert hI; revert old; revert below; revert nDC; revert nID; revert nIC; revert hCe; revert hns₁; revert hDe; revert fresh; revert hlt; revert hdone; revert helt; revert hlen; revert hi; revert hl; revert hs; revert h; revert hx; revert hnames; revert hkind; revert hcell; revert hclos; revert hh; apply (hcC h₂ tk₂ t h₃ t' h₄ tk₄)⟩
namespace C
noncomputable def hkP (y : VV) := hkK3.1 (y.H 0) (y.N 0) (y.N 1) (y.H 1) (y.N 2) (y.H 2) (y.N 3)
@[irreducible] noncomputable def hkG4 := epsV0 hkP
@[irreducible] def h₃ : Heap := hkG4.H 1
@[irreducible] def t' : Tok := hkG4.N 2
@[irreducible] def tk₄ : Nat := hkG4.N 3
theorem hkM : hkP hkG4 := (by exact @wI _ _ : @wT (hkP hkG4) (by
  with_unfolding_all show hkK3.1 (hkG4.H 0) (hkG4.N 0) (hkG4.N 1) h₃ t' (hkG4.H 2) tk₄
  intro hh hclos hcell hkind hnames hx h hs hl hi hlen helt hdone hlt fresh hDe hns₁ hCe nIC nID nDC below old hI hD Wk hsz hul nlC nlD nw hi' hst hacc hn' hys htu hk hlt' hst₂ hk₂ htk₂ hPv hv hn₃ hs₃ o3 hD₃ hst₃ ht1 hk₄ htk₄ ht2
  have hyl : ys.length ≤ 1000 := by have := hys.length; rw [List.length_map, List.length_take] at this; omega
  refine wpAny_list_append_plain (hsz := by rw [List.size_toArray, sizeLine_eq]; omega) ⟨_, hk₄ _ _ hD₃⟩ fun h₅ hl₅ hs₅ => ?_
  obtain ⟨k₅, hk₅⟩ := hl₅
  have up5 : ∀ b o, b ≠ D → h₃.get? b = some o → h₅.get? b = some o := fun b o hb e => hs₅.extBut b o hb (hk₄ b o e)
  refine ⟨us.length + 1 - (i + 1), dec_lt (by first | assumption | omega), h₅, tk₄, _, ys ++ [.int (g (ms[i]'(by omega))) t'], k₅, i + 1, rfl, hlt', rfl, ⟨hst₃.1.at fun o e => up5 _ o nID e, hst₃.2.at fun o e => up5 _ o nlD e⟩, ?_,
    (hn₃.keeps hk₄).sameBut hs₅ (Ne.symm nDC), ?_, htu.snoc ?_ ?_ ht2, fun b o e => up5 b o (below b o e).2.1 (o3 b o e)⟩
  · rw [hk₅, List.push_toArray]
  · rw [List.take_add_one, List.getElem?_eq_getElem (show i < ms.length by omega), List.map_append]
    exact IntsAre.append hys (.cons _ _ .nil)
  · intro e; rw [e] at ht1; exact Nat.not_lt_zero _ ht1
  · exact Nat.lt_of_le_of_lt (Nat.le_trans htk₂ (Nat.le_succ _)) ht1
  ))
end C
theorem hkM : hkP hkG3 := no_implicit_lambda% (@hkapp _ _ hkK3.2 (fun a b c d e f g => @epsV C.hkP (by with_unfolding_all exact C.hkM) (vv e9E e9C e9T e9K e9A e9X e9S e9G e9W e9P e9Q e9R e9V e9Z e9I e9L e9M (lk [a, d, f] d9H) e9O (lk [b, c, e, g] d9N))))
end B
theorem hkM : hkP hkG2 := no_implicit_lambda% (@hkapp _ _ hkK2.2 (fun a b c d e f => @epsV B.hkP (by with_unfolding_all exact B.hkM) (vv e9E e9C e9T e9K e9A e9X e9S e9G e9W e9P e9Q e9R e9V e9Z e9I (lk [d] d9L) (lk [c] d9M) (lk [a] d9H) e9O (lk [b, e, f] d9N))))
end A
theorem hkM : hkP hkG1 := no_implicit_lambda% (@hkapp _ _ hkK1.2 (fun a b c d e f g => @epsV A.hkP (by with_unfolding_all exact A.hkM) (vv e9E e9C e9T e9K e9A e9X e9S e9G e9W e9P e9Q (lk [a] d9R) e9V e9Z (lk [d] d9I) (lk [c] d9L) e9M (lk [e] d9H) e9O (lk [b, f, g] d9N))))
end Z9
theorem hkT : hkS := no_implicit_lambda% (@hkapp _ _ hkK.2 (fun a b c d e f g h i j k l m n o => @epsV Z9.hkP (by with_unfolding_all exact Z9.hkM) (⟨e9a, e9b, e9c, e9d, e9e, e9f, e9g, lk [o] d9h, e9v, e9w, e9x, e9y, e9i, e9j, e9k, e9l, e9m, e9n, e9o, e9p, e9q, e9r, lk [e] d9s, lk [g, h] d9t, lk [j, m] d9u, e9E, e9C, lk [l] d9T, lk [k] d9K, lk [c] d9A, e9X, e9S, lk [i] d9G, lk [b] d9W, lk [a] d9P, lk [d, n] d9Q, lk [f] d9R, e9V, e9Z, e9I, e9L, e9M, e9H, e9O, e9N⟩)))
end comp_toks_c
theorem comp_toks {prog : Program} {w : World} {A : Around} {E : Value → Shared → Prop} {env : Env} {s : Shared} {elt iter : Expr} {x : Str} {px : Pos} {scope : Scope} {cl : List (Str × Addr)} {pos : Pos} {Q : Value → Shared → Prop} (g : Int → Int) (hh : A.handled = none) (hclos : closureFor scope env = pure cl) (hcell : ∀ y ∈ scope.names, y.2 ≠ .cell) (hkind : scope.kind = .function) (hnames : ∀ y ∈ scope.names, y.2 = .local → scope.names.lookup y.1 = some .local) (hx : scope.names.lookup x = some .local) (h : wpAny (model prog w) A (eval iter env) (CompToks prog w A env elt x scope cl g Q) E s) (hs : ∀ x, foldedSetIterable iter env x = pure x := by intro _; rfl) : wpAny (model prog w) A (eval (.ListComp elt [⟨.Name x px, iter, [], 0⟩] scope pos) env) Q E s := @comp_toks_c.hkT prog w A E env s elt iter x px scope cl pos Q g hh hclos hcell hkind hnames hx h hs
section
variable {prog : Program} {w : World} {A : Around} {E : Value → Shared → Prop} {env : Env} {s : Shared}
end
end
-- C2
section
section
variable {prog : Program} {w : World} {A : Around} {E : Value → Shared → Prop} {R : Result → Shared → Prop} {s : Shared}
theorem compTurn_in (elt : Expr) (g0 : Comprehension) (target iter : Expr) (ifs : List Expr) (scope : Scope) (pos : Pos) (it acc : Value) (env : Env) :
    compTurn (.ListComp elt [g0, ⟨target, iter, ifs, 0⟩] scope pos) 1 it acc env = (do
      standAt iter.pos
      match ← pyNext it with
      | none => pure (.done .next)
      | some v =>
        letOwnedTupleGo target it v
        assign target env v
        let mut ok := true
        for c in ifs do
          if ok then ok ← isTrue c env (eval c env)
        if ok then
          (do let _ ← call (.builtin "list.append") [acc, ← eval elt env])
        again (.compLoop (.ListComp elt [g0, ⟨target, iter, ifs, 0⟩] scope pos) 1 it acc env)) := by rfl
theorem compTurn_out (elt : Expr) (target iter t1 i1 : Expr) (ifs : List Expr) (scope : Scope) (pos : Pos) (it acc : Value) (env : Env) :
    compTurn (.ListComp elt [⟨target, iter, [], 0⟩, ⟨t1, i1, ifs, 0⟩] scope pos) 0 it acc env = (do
      standAt iter.pos
      match ← pyNext it with
      | none => pure (.done .next)
      | some v =>
        letOwnedTupleGo target it v
        assign target env v
        let x ← eval i1 env
        standAt i1.pos
        let x ← foldedSetIterable i1 env x
        let _ ← runOwn (.compStart (.ListComp elt [⟨target, iter, [], 0⟩, ⟨t1, i1, ifs, 0⟩] scope pos) 1 (← holding [x] (pyIter x)) acc env) env
        again (.compLoop (.ListComp elt [⟨target, iter, [], 0⟩, ⟨t1, i1, ifs, 0⟩] scope pos) 0 it acc env)) := by rfl
theorem codeAny_compIn {elt target iter : Expr} {g0 : Comprehension} {ifs : List Expr} {scope : Scope} {pos : Pos} {it acc : Value} {env : Env} (I : Nat → Shared → Prop)
    (turn : ∀ n s, I n s → wpAny (model prog w) A (pyNext it) (fun r s₁ => match r with
      | none => R (.ok .next) s₁
      | some v => wpAny (model prog w) A (assign target env v) (fun _ s₂ =>
          wpAny (model prog w) A (forIn ifs true fun c r => if r = true then do let ok ← isTrue c env (eval c env); pure (ForInStep.yield ok) else pure (ForInStep.yield r)) (fun ok s₃ =>
            if ok = true then wpAny (model prog w) A (eval elt env) (fun x s₄ =>
              wpAny (model prog w) A (call (.builtin "list.append") [acc, x]) (fun _ s₅ => ∃ m, m < n ∧ I m s₅) (notedBy (model prog w) A env fun e s' => R (.error e) s') s₄) (notedBy (model prog w) A env fun e s' => R (.error e) s') s₃
            else ∃ m, m < n ∧ I m s₃) (notedBy (model prog w) A env fun e s' => R (.error e) s') s₂) (notedBy (model prog w) A env fun e s' => R (.error e) s') s₁) (notedBy (model prog w) A env fun e s' => R (.error e) s') s)
    (n : Nat) (h : I n s) (ht : ∀ v, letOwnedTupleGo target it v = pure () := by intro _; rfl) :
    codeAny (model prog w) A (.compLoop (.ListComp elt [g0, ⟨target, iter, ifs, 0⟩] scope pos) 1 it acc env) R s := by
  refine codeAny_loop rfl I (fun n s hI => ?_) n h
  show wpAny _ A ((compTurn (.ListComp elt [g0, ⟨target, iter, ifs, 0⟩] scope pos) 1 it acc env).onRaise (fun x => do noteFrame x env; theTreesLotGoes x)) _ _ s
  refine wpAny_noted ?_
  rw [compTurn_in]
  refine wpAny_bind (wpAny_standAt (wpAny_bind (wpAny_mono (turn n s hI) (fun r s₁ h₁ => ?_) fun _ _ h' => h')))
  cases r with
  | none => exact wpAny_pure h₁
  | some v =>
    refine wpAny_bind (wpAny_of_eq (ht v) ?_)
    refine wpAny_bind (wpAny_mono h₁ (fun _ s₂ h₂ => wpAny_bind (wpAny_mono h₂ (fun ok s₃ h₃ => ?_) fun _ _ h' => h')) fun _ _ h' => h')
    cases ok with
    | false => exact wpAny_pure ⟨rfl, h₃⟩
    | true =>
      exact wpAny_bind (wpAny_bind (wpAny_mono h₃ (fun x s₄ h₄ => wpAny_bind (wpAny_mono h₄ (fun _ s₅ h₅ => wpAny_pure (wpAny_pure ⟨rfl, h₅⟩)) fun _ _ h' => h')) fun _ _ h' => h'))
theorem codeAny_startIn {elt target iter : Expr} {g0 : Comprehension} {ifs : List Expr} {scope : Scope} {pos : Pos} {it acc : Value} {env : Env}
    (h0 : codeAny (model prog w) A (.compLoop (.ListComp elt [g0, ⟨target, iter, ifs, 0⟩] scope pos) 1 it acc env) R s)
    (h : wpAny (model prog w) A (pyIter it) (fun it' s' => codeAny (model prog w) A (.compLoop (.ListComp elt [g0, ⟨target, iter, ifs, 0⟩] scope pos) 1 it' acc env) R s')
      (notedBy (model prog w) A env fun x s' => R (.error x) s') s) :
    codeAny (model prog w) A (.compStart (.ListComp elt [g0, ⟨target, iter, ifs, 0⟩] scope pos) 1 it acc env) R s := by
  refine codeAny_of_tree ?_
  show wpAny _ _ ((compStart (.ListComp elt [g0, ⟨target, iter, ifs, 0⟩] scope pos) 1 it acc env).onRaise (fun x => do noteFrame x env; standAt theWindowsPlace)) _ _ s
  refine wpAny_notedAt ?_
  unfold compStart
  show wpAny _ _ (ask >>= _) _ _ s
  refine wpAny_bind (wpAny_askSetting (wpAny_ite ?_))
  split
  · first
      | exact wpAny_bind (wpAny_pure (wpAny_pure (And.intro rfl h0)))
      | exact wpAny_pure (And.intro rfl h0)
  · first
      | exact wpAny_bind (wpAny_rule (wpAny_bind (wpAny_standAt (wpAny_bind (wpAny_mono h (fun it' s' h' => wpAny_pure (And.intro rfl h')) fun _ _ x => x)))))
      | (refine wpAny_bind (wpAny_rule ?_); show wpAny _ _ (standAt iter.pos >>= _) _ _ s; exact wpAny_bind (wpAny_standAt (wpAny_bind (wpAny_mono h (fun it' s' h' => wpAny_pure (And.intro rfl h')) fun _ _ x => x))))
theorem codeAny_compOut {elt target iter t1 i1 : Expr} {ifs : List Expr} {scope : Scope} {pos : Pos} {it acc : Value} {env : Env} (I : Nat → Shared → Prop)
    (turn : ∀ n s, I n s → wpAny (model prog w) A (pyNext it) (fun r s₁ => match r with
      | none => R (.ok .next) s₁
      | some v => wpAny (model prog w) A (assign target env v) (fun _ s₂ =>
          wpAny (model prog w) A (eval i1 env) (fun x s₃ => wpAny (model prog w) A (pyIter x) (fun j s₄ =>
            codeAny (model prog w) A (.compStart (.ListComp elt [⟨target, iter, [], 0⟩, ⟨t1, i1, ifs, 0⟩] scope pos) 1 j acc env) (fun r s' => match r with | .ok _ => ∃ m, m < n ∧ I m s' | .error _ => False) s₄)
            (notedBy (model prog w) A env fun e s' => R (.error e) s') s₃) (notedBy (model prog w) A env fun e s' => R (.error e) s') s₂) (notedBy (model prog w) A env fun e s' => R (.error e) s') s₁) (notedBy (model prog w) A env fun e s' => R (.error e) s') s)
    (n : Nat) (h : I n s) (ht : ∀ v, letOwnedTupleGo target it v = pure () := by intro _; rfl) (hf : ∀ x, foldedSetIterable i1 env x = pure x := by intro _; rfl) :
    codeAny (model prog w) A (.compLoop (.ListComp elt [⟨target, iter, [], 0⟩, ⟨t1, i1, ifs, 0⟩] scope pos) 0 it acc env) R s := by
  refine codeAny_loop rfl I (fun n s hI => ?_) n h
  show wpAny _ A ((compTurn (.ListComp elt [⟨target, iter, [], 0⟩, ⟨t1, i1, ifs, 0⟩] scope pos) 0 it acc env).onRaise (fun x => do noteFrame x env; theTreesLotGoes x)) _ _ s
  refine wpAny_noted ?_
  rw [compTurn_out]
  refine wpAny_bind (wpAny_standAt (wpAny_bind (wpAny_mono (turn n s hI) (fun r s₁ h₁ => ?_) fun _ _ h' => h')))
  cases r with
  | none => exact wpAny_pure h₁
  | some v =>
    refine wpAny_bind (wpAny_of_eq (ht v) ?_)
    refine wpAny_bind (wpAny_mono h₁ (fun _ s₂ h₂ => ?_) fun _ _ h' => h')
    refine wpAny_bind (wpAny_mono h₂ (fun x s₃ h₃ => wpAny_bind (wpAny_standAt (wpAny_bind (wpAny_of_eq (hf x) ?_)))) fun _ _ h' => h')
    refine wpAny_bind (wpAny_holding (wpAny_mono h₃ (fun j s₄ h₄ => ?_) fun _ _ h' => h'))
    refine wpAny_bind (wpAny_runOwn (codeAny_mono h₄ fun r s' hr => ?_))
    cases r with
    | ok f => exact wpAny_pure ⟨rfl, hr⟩
    | error x => exact hr.elim
end
theorem rangeKs_succ (a : Int) (n : Nat) : rangeKs a (n + 1) = rangeKs a n ++ [a + (n : Int)] := by
  unfold rangeKs; rw [List.range_succ, List.map_append]; rfl
section
variable {prog : Program} {w : World} {A : Around} {E : Value → Shared → Prop} {env : Env} {s : Shared}
noncomputable def CompTwo (prog : Program) (w : World) (A : Around) (env : Env) (elt i1 c : Expr) (x0 x1 : Str) (scope : Scope) (cl : List (Str × Addr)) (a : Int) (n : Nat) (g : Int → Int → Bool) (RR : Shared → Addr → Addr → Result → Shared → Prop) (xv : Value) (s₁ : Shared) : Prop :=
  ∃ r b t u v l us ms, xv = .ref r ∧ IsRange s₁.heap r a b 1 t u v ∧ Builtin.Range.small a b 1 = true ∧ Builtin.Range.rangeSize a b 1 = ((n : Nat) : Int) ∧
    s₁.heap.IsList l us.toArray ∧ IntsAre us ms ∧ n * ms.length ≤ 1000 ∧
    (∀ C s₃ m₃ E', s₃.heap.Ns C m₃ → s₁.heap.StaysIn s₃.heap → wpAny (model prog w) A (eval i1 (compEnvC scope cl C env)) (fun y s₄ => y = .ref l ∧ Keeps s₃ s₄) E' s₃) ∧
    (∀ C p k t' u' s₃ m₃ E', a ≤ p → p < a + (n : Int) → k ∈ ms → s₃.heap.Ns C m₃ → m₃ x0 = some (.int p t') → m₃ x1 = some (.int k u') → s₁.heap.StaysIn s₃.heap →
      wpAny (model prog w) A (isTrue c (compEnvC scope cl C env) (eval c (compEnvC scope cl C env))) (fun ok s₄ => ok = g p k ∧ Keeps s₃ s₄) E' s₃) ∧
    (∀ C k u' s₃ m₃ E', k ∈ ms → s₃.heap.Ns C m₃ → m₃ x1 = some (.int k u') → s₁.heap.StaysIn s₃.heap →
      wpAny (model prog w) A (eval elt (compEnvC scope cl C env)) (fun y s₄ => (∃ z, y = .int k z) ∧ Keeps s₃ s₄) E' s₃) ∧
    (∀ D C h' tk k m' (ys : List Value), s₁.heap.objs.size ≤ D → s₁.heap.objs.size ≤ C → D ≠ C → h'.Ns C m' → h'.get? D = some (W.listOf ys.toArray k) → IntsAre ys ((rangeKs a n).flatMap fun p => ms.filter (g p)) → s₁.heap.StaysIn h' → RR s₁ D C (.ok .next) { s₁ with heap := h', toks := tk })
end
namespace block_two_c
noncomputable def hkS : Prop := ∀ {prog : Program} {w : World} {A : Around} {E : Value → Shared → Prop} {env : Env} {elt i0 i1 c : Expr} {x0 x1 : Str} {p0 p1 : Pos} {scope : Scope} {cl : List (Str × Addr)} {pos : Pos} {RR : Shared → Addr → Addr → Result → Shared → Prop} (a : Int) (n : Nat) (g : Int → Int → Bool) {xv : Value} {s₁ : Shared} (hh : A.handled = none) (hcell : ∀ y ∈ scope.names, y.2 ≠ .cell) (hkind : scope.kind = .function) (hx0 : scope.names.lookup x0 = some .local) (hx1 : scope.names.lookup x1 = some .local) (hne : x0 ≠ x1) (hs1 : ∀ C x, foldedSetIterable i1 (compEnvC scope cl C env) x = pure x) (h₁ : CompTwo prog w A env elt i1 c x0 x1 scope cl a n g RR xv s₁), wpAny (model prog w) A (pyIter xv) (fun it s₂ => wpAny (model prog w) A (newList []) (fun acc s₃ =>
      wpAny (model prog w) A (newFunctionEnv scope env.globals cl [] env.qual none .none (some env)) (fun cenv s₄ =>
        codeAny (model prog w) A (.compStart (.ListComp elt [⟨.Name x0 p0, i0, [], 0⟩, ⟨.Name x1 p1, i1, [c], 0⟩] scope pos) 0 it acc { cenv with scope := relabel scope env }) (fun r s' => ∃ D, acc = .ref D ∧ RR s₁ D cenv.locals r s') s₄) E s₃) E s₂) E s₁
noncomputable def hkK : Σ' P : Program → World → Around → tQ → Env → Expr → Expr → Expr → Expr → Str → Str → Pos → Pos → Scope → tA → Pos → (Shared → Addr → Addr → Result → Shared → Prop) → Int → Nat → (Int → Int → Bool) → Shared → Prop, (∀ a b c d e f g h i j k l m n o p q r s t u, P a b c d e f g h i j k l m n o p q r s t u) → hkS := ⟨_, fun hk9 => by intro prog w A E env elt i0 i1 c x0 x1 p0 p1 scope cl pos RR a n g xv s₁ hh hcell hkind hx0 hx1 hne hs1 h₁; revert h₁; revert hs1; revert hne; revert hx1; revert hx0; revert hkind; revert hcell; revert hh; revert xv; apply (hk9 prog w A E env elt i0 i1 c x0 x1 p0 p1 scope cl pos RR a n g s₁)⟩
namespace Z9
noncomputable def hkP (y : VV) := hkK.1 (y.P 0) (y.W 0) (y.A 0) (y.Q 0) (y.s 0) (y.t 0) (y.t 1) (y.t 2) (y.t 3) (y.G 0) (y.G 1) (y.u 0) (y.u 1) (y.K 0) (y.T 0) (y.u 2) (y.i 0) (y.Z 0) (y.N 0) (y.m 0) (y.R 0)
@[irreducible] noncomputable def hkG1 := epsV0 hkP
@[irreducible] def prog : Program := hkG1.P 0
@[irreducible] def w : World := hkG1.W 0
@[irreducible] def x0 : Str := hkG1.G 0
@[irreducible] def x1 : Str := hkG1.G 1
@[irreducible] def RR : (Shared → Addr → Addr → Result → Shared → Prop) := hkG1.i 0
@[irreducible] def a : Int := hkG1.Z 0
@[irreducible] def n : Nat := hkG1.N 0
@[irreducible] def g : (Int → Int → Bool) := hkG1.m 0
@[irreducible] def s₁ : Shared := hkG1.R 0
noncomputable def hkK1 : Σ' P0 : Addr → tV → tI → Heap → Nat → Nat → Nat → Prop, (∀ a b c d e f g, P0 a b c d e f g) → hkP hkG1 := ⟨_, fun hcA => by
  with_unfolding_all show hkK.1 prog w (hkG1.A 0) (hkG1.Q 0) (hkG1.s 0) (hkG1.t 0) (hkG1.t 1) (hkG1.t 2) (hkG1.t 3) x0 x1 (hkG1.u 0) (hkG1.u 1) (hkG1.K 0) (hkG1.T 0) (hkG1.u 2) RR a n g s₁
  intro xv hh hcell hkind hx0 hx1 hne hs1 h₁
  obtain ⟨r, b, t₀, u₀, v₀, l, us, ms, rfl, hr, hsm, hn, hl, hi, hlen, hin, htest, helt, hdone⟩ := h₁
  have hlt : @LT.lt Nat _ l s₁.heap.objs.size := by obtain ⟨_, e, _⟩ := hl; exact Heap.lt_size e
  refine wpAny_pyIter_range hr hsm ?_
  refine wpAny_newObj_type (wpAny_newFunctionEnv hcell (by intro y hy; simp at hy) (fun h₁ hns₁ hsb₁ => ?_) hkind)
  dsimp only at hns₁ hsb₁ ⊢
  generalize hH1 : s₁.heap.push { cls := .type "range_iterator", data := .fields #[rawInt a, rawInt (Builtin.Range.rangeSize a b 1), rawInt 1] } = H1 at hns₁ hsb₁ ⊢
  generalize hH2 : H1.push { cls := .type "list", dict := none, data := .seq ([] : List Value).toArray } = H2 at hns₁ hsb₁ ⊢
  have hDe : @Eq Nat H1.objs.size (s₁.heap.objs.size + 1) := by rw [← hH1, Heap.size_push]
  have hCe : @Eq Nat H2.objs.size (s₁.heap.objs.size + 1 + 1) := by rw [← hH2, Heap.size_push, hDe]
  generalize hDn : H1.objs.size = D at *
  generalize hCn : H2.objs.size = C at *
  generalize hIn : s₁.heap.objs.size = I at *
  have nIC : I ≠ C := fun e => by have e' : @Eq Nat I C := e; omega
  have nID : I ≠ D := fun e => by have e' : @Eq Nat I D := e; omega
  have nDC : D ≠ C := fun e => by have e' : @Eq Nat D C := e; omega
  have below : ∀ b o, s₁.heap.get? b = some o → b ≠ I ∧ b ≠ D ∧ b ≠ C := fun b o e => by
    have hb : @LT.lt Nat _ b I := by rw [← hIn]; exact Heap.lt_size e
    refine ⟨fun q => ?_, fun q => ?_, fun q => ?_⟩
    · have q' : @Eq Nat b I := q; omega
    · have q' : @Eq Nat b D := q; omega
    · have q' : @Eq Nat b C := q; omega
  have old : ∀ b o, s₁.heap.get? b = some o → h₁.get? b = some o := fun b o e =>
    hsb₁.extBut b o (below b o e).2.2 (Heap.get?_push_of_some _ (hH2 ▸ Heap.get?_push_of_some _ (hH1 ▸ Heap.get?_push_of_some _ e)))
  have hI : IsRangeIter h₁ I (a + ((0 : Nat) : Int) * 1) ((n : Int) - ((0 : Nat) : Int)) 1 := by
    have e0 : H1.get? I = some { cls := .type "range_iterator", data := .fields #[rawInt a, rawInt (Builtin.Range.rangeSize a b 1), rawInt 1] } := by
      rw [← hH1, ← hIn]; exact Heap.get?_push_size _ rfl
    have e1 := hsb₁.extBut _ _ nIC (Heap.get?_push_of_some _ (hH2 ▸ Heap.get?_push_of_some _ e0))
    show IsRangeIter _ _ _ _ _
    unfold IsRangeIter
    rw [hn] at e1
    simpa using e1
  have hD : h₁.get? D = some { cls := .type "list", data := .seq ([] : List Value).toArray } :=
    hsb₁.extBut _ _ nDC (Heap.get?_push_of_some _ (by rw [← hH2, ← hDn]; exact Heap.get?_push_size _ rfl))
  have Wk := Walks.range (prog := prog) (w := w) hh I a 1 n
  have nw : ∀ {J : Nat} {b : Nat}, b ≠ J → b ∉ [J] := fun h hm => h (List.mem_singleton.mp hm)
  have hul : us.length = ms.length := hi.length
  have nlC : l ≠ C := fun q => by have q' : @Eq Nat l C := q; omega
  have nlD : l ≠ D := fun q => by have q' : @Eq Nat l D := q; omega
  have flen : ∀ (ps : List Int), ps.length ≤ n → (ps.flatMap fun p => ms.filter (g p)).length ≤ n * ms.length := by
    intro ps
    have : ∀ (ps : List Int), (ps.flatMap fun p => ms.filter (g p)).length ≤ ps.length * ms.length := by
      intro ps
      induction ps with
      | nil => simp
      | cons p ps ih =>
        rw [List.flatMap_cons, List.length_append, List.length_cons, Nat.add_mul, Nat.one_mul]
        have := List.length_filter_le (g p) ms
        omega
    intro h
    exact Nat.le_trans (this ps) (Nat.mul_le_mul_right _ h)
  revert flen; revert nlD; revert nlC; revert hul; revert nw; revert Wk; revert hD; revert hI; revert old; revert below; revert nDC; revert nID; revert nIC; revert hCe; revert hDe; revert hlt; revert hdone; revert hIn; revert hns₁; revert helt; revert htest; revert hin; revert hlen; revert hi; revert hl; revert hs1; revert hne; revert hx1; revert hx0; revert hkind; revert hcell; revert hh; apply (hcA l us ms h₁ D C I)⟩
namespace A
noncomputable def hkP (y : VV) := hkK1.1 (y.N 0) (y.L 0) (y.I 0) (y.H 0) (y.N 1) (y.N 2) (y.N 3)
noncomputable def hkG2 := epsV0 hkP
@[irreducible] def l : Addr := hkG2.N 0
@[irreducible] def us : tV := hkG2.L 0
@[irreducible] def ms : tI := hkG2.I 0
@[irreducible] def h₁ : Heap := hkG2.H 0
@[irreducible] def D : Nat := hkG2.N 1
@[irreducible] def C : Nat := hkG2.N 2
@[irreducible] def I : Nat := hkG2.N 3
noncomputable def hkK2 : Σ' P0 : Heap → Nat → tM → tV → Nat → Nat → Prop, (∀ a b c d e f, P0 a b c d e f) → hkP hkG2 := ⟨_, fun hcB => by
  with_unfolding_all show hkK1.1 l us ms h₁ D C I
  intro hh hcell hkind hx0 hx1 hne hs1 hl hi hlen hin htest helt hns₁ hIn hdone hlt hDe hCe nIC nID nDC below old hI hD Wk nw hul nlC nlD flen
  have loop : ∀ s₃ : Shared, s₃ = { s₁ with heap := h₁, toks := s₁.toks + ([] : List (Str × Value)).length } →
      codeAny (model prog w) (hkG1.A 0) (.compLoop (.ListComp (hkG1.t 0) [⟨.Name x0 (hkG1.u 0), (hkG1.t 1), [], 0⟩, ⟨.Name x1 (hkG1.u 1), (hkG1.t 2), [(hkG1.t 3)], 0⟩] (hkG1.K 0) (hkG1.u 2)) 0 (.ref I) (.ref D) (compEnvC (hkG1.K 0) (hkG1.T 0) C (hkG1.s 0)))
        (fun r s' => ∃ D', Value.ref D = .ref D' ∧ RR s₁ D' C r s') s₃ := by
    rintro s₃ rfl
    refine codeAny_compOut (fun k s' => ∃ H tk m' ys k' i, s' = { s₁ with heap := H, toks := tk } ∧ i ≤ n ∧ k = n + 1 - i ∧ IsRangeIter H I (a + (i : Nat) * 1) ((n : Int) - (i : Nat)) 1 ∧ H.get? D = some (W.listOf (List.toArray ys) k') ∧
        H.Ns C m' ∧ IntsAre ys ((rangeKs a i).flatMap fun p => ms.filter (g p)) ∧ (∀ b o, s₁.heap.get? b = some o → H.get? b = some o)) ?_ (n + 1)
      ⟨h₁, _, _, [], 0, 0, rfl, Nat.zero_le _, rfl, hI, hD, hns₁, IntsAre.nil, old⟩ (hf := hs1 C)
    rintro k s' ⟨H, tk, m', ys, k', i, rfl, hi', rfl, hst, hacc, hn', hys, hk⟩
    by_cases hlt' : i < n
    · skip
      revert hlt'; revert hk; revert hys; revert hn'; revert hacc; revert hst; revert hi'; revert flen; revert nlD; revert nlC; revert hul; revert nw; revert Wk; revert hD; revert hI; revert old; revert below; revert nDC; revert nID; revert nIC; revert hCe; revert hDe; revert hlt; revert hdone; revert hIn; revert hns₁; revert helt; revert htest; revert hin; revert hlen; revert hi; revert hl; revert hs1; revert hne; revert hx1; revert hx0; revert hkind; revert hcell; revert hh; apply (hcB H tk m' ys k' i)
    · obtain rfl : i = n := Nat.le_antisymm hi' (Nat.not_lt.mp hlt')
      refine Wk.done _ _ _ hst fun h₂ tk₂ hk₂ => ?_
      refine ⟨D, rfl, hdone D C h₂ tk₂ k' m' ys (by show @LE.le Nat _ _ _; omega) (by show @LE.le Nat _ _ _; omega) nDC (hn'.at' fun o e => hk₂ _ o (nw (Ne.symm nIC)) e) (hk₂ D _ (nw (Ne.symm nID)) hacc) hys fun b o e => hk₂ b o (nw (below b o e).1) (hk b o e)⟩
  exact codeAny_compStart_list (loop _ rfl) (Wk.self 0 _ _ _ hI (loop _ rfl))⟩
namespace B
noncomputable def hkP (y : VV) := hkK2.1 (y.H 0) (y.N 0) (y.M 0) (y.L 0) (y.N 1) (y.N 2)
noncomputable def hkG3 := epsV0 hkP
@[irreducible] def H : Heap := hkG3.H 0
@[irreducible] def tk : Nat := hkG3.N 0
@[irreducible] def m' : tM := hkG3.M 0
@[irreducible] def ys : tV := hkG3.L 0
@[irreducible] def k' : Nat := hkG3.N 1
@[irreducible] def i : Nat := hkG3.N 2
noncomputable def hkK3 : Σ' P0 : Heap → Nat → Tok → Heap → Heap → Nat → Heap → Nat → Prop, (∀ a b c d e f g h, P0 a b c d e f g h) → hkP hkG3 := ⟨_, fun hcC => by
  with_unfolding_all show hkK2.1 H tk m' ys k' i
  intro hh hcell hkind hx0 hx1 hne hs1 hl hi hlen hin htest helt hns₁ hIn hdone hlt hDe hCe nIC nID nDC below old hI hD Wk nw hul nlC nlD flen hi' hst hacc hn' hys hk hlt'
  refine Wk.item i _ _ _ hlt' hst fun v h₂ tk₂ hPv hst₂ hk₂ => ?_
  obtain ⟨t, rfl⟩ := hPv
  rw [Int.mul_one]
  refine wpAny_assign_Name (wpAny_storeName_local (s := { s₁ with heap := h₂, toks := tk₂ }) (env := compEnvC (hkG1.K 0) (hkG1.T 0) C (hkG1.s 0)) (lookup_relabel_local hx0) (hn'.at' fun o e => hk₂ _ o (nw (Ne.symm nIC)) e) (fun h₃ hn₃ hs₃ => ?_) (by simp [compEnvC, relabel, hkind]))
  have o3 : ∀ b o, s₁.heap.get? b = some o → h₃.get? b = some o := fun b o e => hs₃.extBut b o (below b o e).2.2 (hk₂ b o (nw (below b o e).1) (hk b o e))
  have hD₃ := hs₃.extBut D _ nDC (hk₂ D _ (nw (Ne.symm nID)) hacc)
  have hst₃ : IsRangeIter h₃ I (a + ((i + 1 : Nat) : Int) * 1) ((n : Int) - ((i + 1 : Nat) : Int)) 1 := hs₃.extBut _ _ nIC hst₂
  refine wpAny_mono (hin C _ _ _ hn₃ o3) (fun y s₄ h₄ => ?_) fun _ _ e => e
  obtain ⟨rfl, h₄, tk₄, rfl, hk₄⟩ := h₄
  have o4 : ∀ b o, s₁.heap.get? b = some o → h₄.get? b = some o := fun b o e => hk₄ b o (o3 b o e)
  have l4 : h₄.IsList l us.toArray := hl.at fun o e => o4 l o e
  refine wpAny_pyIter_list l4 ?_
  dsimp only
  generalize hH5 : h₄.push { cls := .type "list_iterator", dict := none, data := .fields #[.ref l, .int 0 0] } = h₅
  have o5 : ∀ b o, h₄.get? b = some o → h₅.get? b = some o := fun b o e => hH5 ▸ Heap.get?_push_of_some _ e
  have hJ : h₅.get? h₄.objs.size = some { cls := .type "list_iterator", data := .fields #[.ref l, .int 0 0] } := hH5 ▸ Heap.get?_push_size _ rfl
  have jlt : ∀ b o, h₄.get? b = some o → b ≠ h₄.objs.size := fun b o e q => by
    have := Heap.lt_size e
    rw [q] at this; exact Nat.lt_irrefl _ this
  have nIJ := jlt I _ (hk₄ _ _ hst₃)
  have nDJ := jlt D _ (hk₄ _ _ hD₃)
  have nCJ : C ≠ h₄.objs.size := by
    obtain ⟨oC, _, _, eC, _⟩ := hn₃
    exact jlt C _ (hk₄ _ _ eC)
  have nlJ : l ≠ h₄.objs.size := by
    obtain ⟨_, e, _⟩ := hl
    exact jlt l _ (o4 _ _ e)
  have n5 : h₅.Ns C _ := (hn₃.keeps hk₄).keeps o5
  have W5 := Walks.list (prog := prog) (w := w) hh h₄.objs.size l nlJ us.toArray
  have hsz : us.toArray.size = us.length := by simp
  rw [hsz] at W5
  generalize hJn : h₄.objs.size = J at *
  revert W5; revert nlJ; revert nCJ; revert nDJ; revert nIJ; revert jlt; revert hJ; revert hJn; revert hsz; revert n5; revert o5; revert hH5; revert l4; revert o4; revert hk₄; revert hst₃; revert hD₃; revert o3; revert hs₃; revert hn₃; revert hk₂; revert hst₂; revert hlt'; revert hk; revert hys; revert hn'; revert hacc; revert hst; revert hi'; revert flen; revert nlD; revert nlC; revert hul; revert nw; revert Wk; revert hD; revert hI; revert old; revert below; revert nDC; revert nID; revert nIC; revert hCe; revert hDe; revert hlt; revert hdone; revert hIn; revert hns₁; revert helt; revert htest; revert hin; revert hlen; revert hi; revert hl; revert hs1; revert hne; revert hx1; revert hx0; revert hkind; revert hcell; revert hh; apply (hcC h₂ tk₂ t h₃ h₄ tk₄ h₅ J)⟩
namespace C
noncomputable def hkP (y : VV) := hkK3.1 (y.H 0) (y.N 0) (y.N 1) (y.H 1) (y.H 2) (y.N 2) (y.H 3) (y.N 3)
@[irreducible] noncomputable def hkG4 := epsV0 hkP
@[irreducible] def t : Tok := hkG4.N 1
@[irreducible] def tk₄ : Nat := hkG4.N 2
@[irreducible] def h₅ : Heap := hkG4.H 3
@[irreducible] def J : Nat := hkG4.N 3
noncomputable def hkK4 : Σ' P0 : Heap → Nat → tM → tV → Nat → Nat → Tok → Prop, (∀ a b c d e f g, P0 a b c d e f g) → hkP hkG4 := ⟨_, fun hcD => by
  with_unfolding_all show hkK3.1 (hkG4.H 0) (hkG4.N 0) t (hkG4.H 1) (hkG4.H 2) tk₄ h₅ J
  intro hh hcell hkind hx0 hx1 hne hs1 hl hi hlen hin htest helt hns₁ hIn hdone hlt hDe hCe nIC nID nDC below old hI hD Wk nw hul nlC nlD flen hi' hst hacc hn' hys hk hlt' hst₂ hk₂ hn₃ hs₃ o3 hD₃ hst₃ hk₄ o4 l4 hH5 o5 n5 hsz hJn hJ jlt nIJ nDJ nCJ nlJ W5
  have inn : ∀ s₅ : Shared, s₅ = { s₁ with heap := h₅, toks := tk₄ } → codeAny (model prog w) (hkG1.A 0) (.compLoop (.ListComp (hkG1.t 0) [⟨.Name x0 (hkG1.u 0), (hkG1.t 1), [], 0⟩, ⟨.Name x1 (hkG1.u 1), (hkG1.t 2), [(hkG1.t 3)], 0⟩] (hkG1.K 0) (hkG1.u 2)) 1 (.ref J) (.ref D) (compEnvC (hkG1.K 0) (hkG1.T 0) C (hkG1.s 0)))
      (fun r s' => match r with
        | .ok _ => ∃ m, m < n + 1 - i ∧ ∃ H tk m' ys k' i, s' = { s₁ with heap := H, toks := tk } ∧ i ≤ n ∧ m = n + 1 - i ∧ IsRangeIter H I (a + (i : Nat) * 1) ((n : Int) - (i : Nat)) 1 ∧ H.get? D = some (W.listOf (List.toArray ys) k') ∧
            H.Ns C m' ∧ IntsAre ys ((rangeKs a i).flatMap fun p => ms.filter (g p)) ∧ (∀ b o, s₁.heap.get? b = some o → H.get? b = some o)
        | .error _ => False) s₅ := by
    rintro s₅ rfl
    refine codeAny_compIn (fun k s' => ∃ H tk m' ys k' q t, s' = { s₁ with heap := H, toks := tk } ∧ q ≤ us.length ∧ k = us.length + 1 - q ∧ (H.IsListIter J l q ∧ H.IsList l us.toArray) ∧ IsRangeIter H I (a + ((i + 1 : Nat) : Int) * 1) ((n : Int) - ((i + 1 : Nat) : Int)) 1 ∧
        H.get? D = some (W.listOf (List.toArray ys) k') ∧ H.Ns C m' ∧ m' x0 = some (.int (a + (i : Int)) t) ∧ IntsAre ys (((rangeKs a i).flatMap fun p => ms.filter (g p)) ++ (ms.take q).filter (g (a + (i : Int)))) ∧ (∀ b o, s₁.heap.get? b = some o → H.get? b = some o)) ?_ (us.length + 1)
      ⟨h₅, _, _, ys, k', 0, t, rfl, Nat.zero_le _, rfl, ⟨⟨_, hJ, rfl, rfl⟩, l4.at fun o e => o5 l o e⟩, o5 _ _ (hk₄ _ _ hst₃), o5 _ _ (hk₄ _ _ hD₃), n5, if_pos rfl, by simpa using hys, fun b o e => o5 b o (o4 b o e)⟩
    rintro k s' ⟨H, tk, m', ys, k', q, t, rfl, hq', rfl, hst, hri, hacc, hn', hm0, hys, hk⟩
    by_cases hqt : q < us.length
    · skip
      rename_i hstd1 haccd2 hnd3 hysd4 hkd5
      revert hqt; revert hk; revert hys; revert hm0; revert hn'; revert hacc; revert hri; revert hst; revert hq'; revert W5; revert nlJ; revert nCJ; revert nDJ; revert nIJ; revert jlt; revert hJ; revert hJn; revert hsz; revert n5; revert o5; revert hH5; revert l4; revert o4; revert hk₄; revert hst₃; revert hD₃; revert o3; revert hs₃; revert hn₃; revert hk₂; revert hst₂; revert hlt'; revert hkd5; revert hysd4; revert hnd3; revert haccd2; revert hstd1; revert hi'; revert flen; revert nlD; revert nlC; revert hul; revert nw; revert Wk; revert hD; revert hI; revert old; revert below; revert nDC; revert nID; revert nIC; revert hCe; revert hDe; revert hlt; revert hdone; revert hIn; revert hns₁; revert helt; revert htest; revert hin; revert hlen; revert hi; revert hl; revert hs1; revert hne; revert hx1; revert hx0; revert hkind; revert hcell; revert hh; apply (hcD H tk m' ys k' q t)
    · obtain rfl : q = us.length := Nat.le_antisymm hq' (Nat.not_lt.mp hqt)
      refine W5.done _ _ _ hst fun h₆ tk₆ hk₆ => ?_
      refine ⟨n + 1 - (i + 1), dec_lt hlt', h₆, tk₆, m', ys, k', i + 1, rfl, hlt', rfl, hk₆ I _ (nw nIJ) hri, hk₆ D _ (nw nDJ) hacc, hn'.at' fun o e => hk₆ _ o (nw nCJ) e, ?_, fun b o e => hk₆ b o (nw (jlt b o (o4 b o e))) (hk b o e)⟩
      rw [rangeKs_succ, List.flatMap_append, List.flatMap_cons, List.flatMap_nil, List.append_nil]
      rw [hul, List.take_length] at hys
      exact hys
  exact codeAny_startIn (inn _ rfl) (W5.self 0 _ _ _ ⟨⟨_, hJ, rfl, rfl⟩, l4.at fun o e => o5 l o e⟩ (inn _ rfl))⟩
namespace D
noncomputable def hkP (y : VV) := hkK4.1 (y.H 0) (y.N 0) (y.M 0) (y.L 0) (y.N 1) (y.N 2) (y.N 3)
@[irreducible] noncomputable def hkG5 := epsV0 hkP
@[irreducible] def ys : tV := hkG5.L 0
@[irreducible] def k' : Nat := hkG5.N 1
@[irreducible] def q : Nat := hkG5.N 2
@[irreducible] def t : Tok := hkG5.N 3
noncomputable def hkK5 : Σ' P0 : Heap → Nat → Tok → Heap → Heap → Nat → Prop, (∀ a b c d e f, P0 a b c d e f) → hkP hkG5 := ⟨_, fun hcE => by
  with_unfolding_all show hkK4.1 (hkG5.H 0) (hkG5.N 0) (hkG5.M 0) ys k' q t
  intro hh hcell hkind hx0 hx1 hne hs1 hl hi hlen hin htest helt hns₁ hIn hdone hlt hDe hCe nIC nID nDC below old hI hD Wk nw hul nlC nlD flen hi' hstd1 haccd2 hnd3 hysd4 hkd5 hlt' hst₂ hk₂ hn₃ hs₃ o3 hD₃ hst₃ hk₄ o4 l4 hH5 o5 n5 hsz hJn hJ jlt nIJ nDJ nCJ nlJ W5 hq' hst hri hacc hn' hm0 hys hk hqt
  refine W5.item q _ _ _ hqt hst fun v h₆ tk₆ hPv hst₆ hk₆ => ?_
  have hv : us[q]? = some v := by simpa using hPv
  obtain ⟨t', hx1'⟩ := hi.get q (ms[q]'(by omega)) (by simp [show q < ms.length by omega])
  rw [hv] at hx1'
  cases hx1'
  refine wpAny_assign_Name (wpAny_storeName_local (s := { s₁ with heap := h₆, toks := tk₆ }) (env := compEnvC (hkG1.K 0) (hkG1.T 0) C (hkG1.s 0)) (lookup_relabel_local hx1) (hn'.at' fun o e => hk₆ _ o (nw nCJ) e) (fun h₇ hn₇ hs₇ => ?_) (by simp [compEnvC, relabel, hkind]))
  have jl1 : ∀ b o, s₁.heap.get? b = some o → b ≠ J := fun b o e => jlt b o (o4 b o e)
  have o7 : ∀ b o, s₁.heap.get? b = some o → h₇.get? b = some o := fun b o e => hs₇.extBut b o (below b o e).2.2 (hk₆ b o (nw (jl1 b o e)) (hk b o e))
  have hD₇ := hs₇.extBut D _ nDC (hk₆ D _ (nw nDJ) hacc)
  have hI₇ := hs₇.extBut I _ nIC (hk₆ I _ (nw nIJ) hri)
  have hst₇ : h₇.IsListIter J l (q + 1) ∧ h₇.IsList l us.toArray := ⟨hst₆.1.at fun o e => hs₇.extBut _ o (Ne.symm nCJ) e, hst₆.2.at fun o e => hs₇.extBut _ o nlC e⟩
  have hmem : ms[q]'(by omega) ∈ ms := List.getElem_mem _
  have mx0 : (if x0 = x1 then some (Value.int (ms[q]'(by omega)) t') else (hkG5.M 0) x0) = some (.int (a + (i : Int)) t) := by rw [if_neg hne]; exact hm0
  refine wpAny_tests_one (wpAny_mono (htest C (a + (i : Int)) (ms[q]'(by omega)) t t' _ _ _ (by omega) (by omega) hmem hn₇ mx0 (if_pos rfl) o7) (fun ok s₈ h₈ => ?_) fun _ _ e => e)
  obtain ⟨rfl, h₈, tk₈, rfl, hk₈⟩ := h₈
  revert hk₈; revert mx0; revert hmem; revert hst₇; revert hI₇; revert hD₇; revert o7; revert jl1; revert hs₇; revert hn₇; revert hv; revert hPv; revert hk₆; revert hst₆; revert hqt; revert hk; revert hys; revert hm0; revert hn'; revert hacc; revert hri; revert hst; revert hq'; revert W5; revert nlJ; revert nCJ; revert nDJ; revert nIJ; revert jlt; revert hJ; revert hJn; revert hsz; revert n5; revert o5; revert hH5; revert l4; revert o4; revert hk₄; revert hst₃; revert hD₃; revert o3; revert hs₃; revert hn₃; revert hk₂; revert hst₂; revert hlt'; revert hkd5; revert hysd4; revert hnd3; revert haccd2; revert hstd1; revert hi'; revert flen; revert nlD; revert nlC; revert hul; revert nw; revert Wk; revert hD; revert hI; revert old; revert below; revert nDC; revert nID; revert nIC; revert hCe; revert hDe; revert hlt; revert hdone; revert hIn; revert hns₁; revert helt; revert htest; revert hin; revert hlen; revert hi; revert hl; revert hs1; revert hne; revert hx1; revert hx0; revert hkind; revert hcell; revert hh; apply (hcE h₆ tk₆ t' h₇ h₈ tk₈)⟩
namespace E
noncomputable def hkP (y : VV) := hkK5.1 (y.H 0) (y.N 0) (y.N 1) (y.H 1) (y.H 2) (y.N 2)
@[irreducible] noncomputable def hkG6 := epsV0 hkP
@[irreducible] def h₇ : Heap := hkG6.H 1
@[irreducible] def h₈ : Heap := hkG6.H 2
@[irreducible] def tk₈ : Nat := hkG6.N 2
theorem hkM : hkP hkG6 := (by exact @wI _ _ : @wT (hkP hkG6) (by
  with_unfolding_all show hkK5.1 (hkG6.H 0) (hkG6.N 0) (hkG6.N 1) h₇ h₈ tk₈
  intro hh hcell hkind hx0 hx1 hne hs1 hl hi hlen hin htest helt hns₁ hIn hdone hlt hDe hCe nIC nID nDC below old hI hD Wk nw hul nlC nlD flen hi' hstd1 haccd2 hnd3 hysd4 hkd5 hlt' hst₂ hk₂ hn₃ hs₃ o3 hD₃ hst₃ hk₄ o4 l4 hH5 o5 n5 hsz hJn hJ jlt nIJ nDJ nCJ nlJ W5 hq' hst hri hacc hn' hm0 hys hk hqt hst₆ hk₆ hPv hv hn₇ hs₇ jl1 o7 hD₇ hI₇ hst₇ hmem mx0 hk₈
  have etake : (ms.take (q + 1)).filter (g (a + (i : Int))) = (ms.take q).filter (g (a + (i : Int))) ++ if g (a + (i : Int)) (ms[q]'(by omega)) = true then [ms[q]'(by omega)] else [] := by
    rw [List.take_add_one, List.getElem?_eq_getElem (show q < ms.length by omega), List.filter_append]
    congr 1
    cases hgg : g (a + (i : Int)) (ms[q]'(by omega)) <;> simp [hgg]
  cases hg : g (a + (i : Int)) (ms[q]'(by omega)) with
  | false =>
    rw [if_neg (by simp)]
    refine ⟨us.length + 1 - (q + 1), dec_lt (by first | assumption | omega), h₈, tk₈, _, ys, k', q + 1, t, rfl, hqt, rfl, ⟨hst₇.1.at fun o e => hk₈ _ o e, hst₇.2.at fun o e => hk₈ _ o e⟩, hk₈ _ _ hI₇, hk₈ _ _ hD₇, hn₇.keeps hk₈, mx0, ?_, fun b o e => hk₈ b o (o7 b o e)⟩
    rw [etake, hg]
    simpa using hys
  | true =>
    rw [if_pos rfl]
    refine wpAny_mono (helt C (ms[q]'(by omega)) (hkG6.N 1) _ _ _ hmem (hn₇.keeps hk₈) (if_pos rfl) (fun b o e => hk₈ b o (o7 b o e))) (fun y s₉ h₉ => ?_) fun _ _ e => e
    obtain ⟨⟨z, rfl⟩, h₉, tk₉, rfl, hk₉⟩ := h₉
    have hyl : ys.length ≤ 2000 := by
      have e1 := hys.length
      rw [List.length_append] at e1
      have e2 := flen (rangeKs a i) (by rw [rangeKs_length]; omega)
      have e3 := List.length_filter_le (g (a + (i : Int))) (ms.take q)
      rw [List.length_take] at e3
      have e4 : ms.length ≤ n * ms.length := Nat.le_mul_of_pos_left _ (by omega)
      omega
    have u9 : ∀ b o, h₇.get? b = some o → h₉.get? b = some o := fun b o e => hk₉ b o (hk₈ b o e)
    refine wpAny_list_append_plain (hsz := by rw [List.size_toArray, sizeLine_eq]; omega) ⟨_, u9 _ _ hD₇⟩ fun h10 hl10 hs10 => ?_
    obtain ⟨k10, hk10⟩ := hl10
    have u10 : ∀ b o, b ≠ D → h₇.get? b = some o → h10.get? b = some o := fun b o hb e => hs10.extBut b o hb (u9 b o e)
    refine ⟨us.length + 1 - (q + 1), dec_lt (by first | assumption | omega), h10, tk₉, _, ys ++ [.int (ms[q]'(by omega)) z], k10, q + 1, t, rfl, hqt, rfl, ⟨hst₇.1.at fun o e => u10 _ o (Ne.symm nDJ) e, hst₇.2.at fun o e => u10 _ o nlD e⟩, u10 _ _ nID hI₇, ?_,
      (hn₇.keeps u9).sameBut hs10 (Ne.symm nDC), mx0, ?_, fun b o e => u10 b o (below b o e).2.1 (o7 b o e)⟩
    · rw [hk10, List.push_toArray]
    · rw [etake, hg, if_pos rfl, ← List.append_assoc]
      exact IntsAre.append hys (.cons _ _ .nil)
  ))
end E
theorem hkM : hkP hkG5 := no_implicit_lambda% (@hkapp _ _ hkK5.2 (fun a b c d e f => @epsV E.hkP (by with_unfolding_all exact E.hkM) (vv e9E e9C e9T e9K e9A e9X e9S e9G e9W e9P e9Q e9R e9V e9Z e9I e9L e9M (lk [a, d, e] d9H) e9O (lk [b, c, f] d9N))))
end D
theorem hkM : hkP hkG4 := no_implicit_lambda% (@hkapp _ _ hkK4.2 (fun a b c d e f g => @epsV D.hkP (by with_unfolding_all exact D.hkM) (vv e9E e9C e9T e9K e9A e9X e9S e9G e9W e9P e9Q e9R e9V e9Z e9I (lk [d] d9L) (lk [c] d9M) (lk [a] d9H) e9O (lk [b, e, f, g] d9N))))
end C
theorem hkM : hkP hkG3 := no_implicit_lambda% (@hkapp _ _ hkK3.2 (fun a b c d e f g h => @epsV C.hkP (by with_unfolding_all exact C.hkM) (vv e9E e9C e9T e9K e9A e9X e9S e9G e9W e9P e9Q e9R e9V e9Z e9I e9L e9M (lk [a, d, e, g] d9H) e9O (lk [b, c, f, h] d9N))))
end B
theorem hkM : hkP hkG2 := no_implicit_lambda% (@hkapp _ _ hkK2.2 (fun a b c d e f => @epsV B.hkP (by with_unfolding_all exact B.hkM) (vv e9E e9C e9T e9K e9A e9X e9S e9G e9W e9P e9Q e9R e9V e9Z e9I (lk [d] d9L) (lk [c] d9M) (lk [a] d9H) e9O (lk [b, e, f] d9N))))
end A
theorem hkM : hkP hkG1 := no_implicit_lambda% (@hkapp _ _ hkK1.2 (fun a b c d e f g => @epsV A.hkP (by with_unfolding_all exact A.hkM) (vv e9E e9C e9T e9K e9A e9X e9S e9G e9W e9P e9Q e9R e9V e9Z (lk [c] d9I) (lk [b] d9L) e9M (lk [d] d9H) e9O (lk [a, e, f, g] d9N))))
end Z9
theorem hkT : hkS := no_implicit_lambda% (@hkapp _ _ hkK.2 (fun a b c d e f g h i j k l m n o p q r s t u => @epsV Z9.hkP (by with_unfolding_all exact Z9.hkM) (⟨e9a, e9b, e9c, e9d, e9e, e9f, e9g, e9h, e9v, e9w, e9x, e9y, lk [q] d9i, e9j, e9k, e9l, lk [t] d9m, e9n, e9o, e9p, e9q, e9r, lk [e] d9s, lk [f, g, h, i] d9t, lk [l, m, p] d9u, e9E, e9C, lk [o] d9T, lk [n] d9K, lk [c] d9A, e9X, e9S, lk [j, k] d9G, lk [b] d9W, lk [a] d9P, lk [d] d9Q, lk [u] d9R, e9V, lk [r] d9Z, e9I, e9L, e9M, e9H, e9O, lk [s] d9N⟩)))
end block_two_c
theorem block_two : block_two_c.hkS := @block_two_c.hkT
section
variable {prog : Program} {w : World} {A : Around} {E : Value → Shared → Prop} {env : Env} {s : Shared}
end
namespace assign_two_c
noncomputable def hkS : Prop := ∀ {prog : Program} {w : World} {A : Around} {E : Value → Shared → Prop} {env : Env} {s : Shared} {h₀ : Heap} {L : Addr} {m : Str → Option Value} {elt i0 i1 c : Expr} {x0 x1 y : Str} {p0 p1 py : Pos} {scope : Scope} {cl : List (Str × Addr)} {pos spos : Pos} {Q : Flow → Shared → Prop} (a : Int) (n : Nat) (g : Int → Int → Bool) (F₀ : Fr h₀ L s.heap m) (hLe : env.locals = L) (hsw : swapsWith (.ListComp elt [⟨.Name x0 p0, i0, [], 0⟩, ⟨.Name x1 p1, i1, [c], 0⟩] scope pos) (some (.Name y py)) spos.line env = pure true) (hh : A.handled = none) (hclos : closureFor scope env = pure cl) (hcell : ∀ y ∈ scope.names, y.2 ≠ .cell) (hkind : scope.kind = .function) (hnames : ∀ y ∈ scope.names, y.2 = .local → scope.names.lookup y.1 = some .local) (hx0 : scope.names.lookup x0 = some .local) (hx1 : scope.names.lookup x1 = some .local) (hne : x0 ≠ x1) (hy : env.kindOf y = some .local) (hp : (env.scope.kind == .class || (env.scope.kind == .module && env.locals != env.globals)) = false) (h : wpAny (model prog w) A (eval i0 env) (CompTwo prog w A env elt i1 c x0 x1 scope cl a n g (fun s₁ D C r s' => ∃ ys k news, Fr h₀ L s₁.heap m ∧ News h₀ L s₁.heap news ∧ s₁.heap.objs.size ≤ C ∧ D ≠ C ∧ s₁.heap.objs.size ≤ D ∧ r = .ok .next ∧ s₁.heap.StaysIn s'.heap ∧ (∃ m', s'.heap.Ns C m') ∧ s'.heap.get? D = some (W.listOf (List.toArray ys) k) ∧
      ∀ h' tk, Fr h₀ L h' (fun z => if z = y then some (.ref D) else m z) → News h₀ L h' ((D, W.listOf ys.toArray k) :: news) → (∀ p ∈ news, p.1 < D) → Q .next { s' with heap := h', toks := tk })) E s) (hs : ∀ x, foldedSetIterable i0 env x = pure x) (hs1 : ∀ C x, foldedSetIterable i1 (compEnvC scope cl C env) x = pure x), wpAny (model prog w) A (exec (.Assign [.Name y py] (.ListComp elt [⟨.Name x0 p0, i0, [], 0⟩, ⟨.Name x1 p1, i1, [c], 0⟩] scope pos) spos) env) Q E s
noncomputable def hkK : Σ' P : Program → World → Around → tQ → Env → Shared → Heap → tM → Expr → Expr → Expr → Expr → Str → Str → Str → Pos → Pos → Pos → Scope → tA → Pos → Pos → (Flow → Shared → Prop) → Int → Nat → (Int → Int → Bool) → Prop, (∀ a b c d e f g h i j k l m n o p q r s t u v w x y z, P a b c d e f g h i j k l m n o p q r s t u v w x y z) → hkS := ⟨_, fun hk9 => by intro prog w A E env s h₀ L m elt i0 i1 c x0 x1 y p0 p1 py scope cl pos spos Q a n g F₀ hLe hsw hh hclos hcell hkind hnames hx0 hx1 hne hy hp h hs hs1; revert hs1; revert hs; revert h; revert hp; revert hy; revert hne; revert hx1; revert hx0; revert hnames; revert hkind; revert hcell; revert hclos; revert hh; revert hsw; revert hLe; revert F₀; revert L; apply (hk9 prog w A E env s h₀ m elt i0 i1 c x0 x1 y p0 p1 py scope cl pos spos Q a n g)⟩
namespace Z9
noncomputable def hkP (y : VV) := hkK.1 (y.P 0) (y.W 0) (y.A 0) (y.Q 0) (y.s 0) (y.R 0) (y.H 0) (y.M 0) (y.t 0) (y.t 1) (y.t 2) (y.t 3) (y.G 0) (y.G 1) (y.G 2) (y.u 0) (y.u 1) (y.u 2) (y.K 0) (y.T 0) (y.u 3) (y.u 4) (y.r 0) (y.Z 0) (y.N 0) (y.m 0)
@[irreducible] noncomputable def hkG7 := epsV0 hkP
@[irreducible] def env : Env := hkG7.s 0
@[irreducible] def h₀ : Heap := hkG7.H 0
@[irreducible] def elt : Expr := hkG7.t 0
@[irreducible] def i0 : Expr := hkG7.t 1
@[irreducible] def i1 : Expr := hkG7.t 2
@[irreducible] def c : Expr := hkG7.t 3
@[irreducible] def x0 : Str := hkG7.G 0
@[irreducible] def x1 : Str := hkG7.G 1
@[irreducible] def p0 : Pos := hkG7.u 0
@[irreducible] def p1 : Pos := hkG7.u 1
@[irreducible] def scope : Scope := hkG7.K 0
@[irreducible] def pos : Pos := hkG7.u 3
@[irreducible] def Q : (Flow → Shared → Prop) := hkG7.r 0
@[irreducible] def a : Int := hkG7.Z 0
@[irreducible] def n : Nat := hkG7.N 0
@[irreducible] def g : (Int → Int → Bool) := hkG7.m 0
theorem hkM : hkP hkG7 := (by exact @wI _ _ : @wT (hkP hkG7) (by
  with_unfolding_all show hkK.1 (hkG7.P 0) (hkG7.W 0) (hkG7.A 0) (hkG7.Q 0) env (hkG7.R 0) h₀ (hkG7.M 0) elt i0 i1 c x0 x1 (hkG7.G 2) p0 p1 (hkG7.u 2) scope (hkG7.T 0) pos (hkG7.u 4) Q a n g
  intro L F₀ hLe hsw hh hclos hcell hkind hnames hx0 hx1 hne hy hp h hs hs1
  subst hLe
  rw [exec_Assign_Name_used _ _ _ _ hsw]
  refine wpAny_bind (wpAny_standAt (wpAny_bind ?_))
  show wpAny _ (hkG7.A 0) (do let _ ← comprehension (.ListComp elt [⟨.Name x0 p0, i0, [], 0⟩, ⟨.Name x1 p1, i1, [c], 0⟩] scope pos) scope env _ (newList []) false (eval i0 env) (some (assign (.Name (hkG7.G 2) (hkG7.u 2)) env))) _ _ (hkG7.R 0)
  refine wpAny_bind (wpAny_mono (wpAny_comprehension_free (use := some (assign (.Name (hkG7.G 2) (hkG7.u 2)) env)) (Q := fun _ s' => Q .next s') rfl hs hclos hkind hnames
    (wpAny_mono h (fun xv s₁ h₁ => wpAny_mono (block_two a n g hh hcell hkind hx0 hx1 hne hs1 h₁) (fun it s₂ h₂ => wpAny_mono h₂ (fun acc s₃ h₃ => wpAny_mono h₃ (fun cenv s₄ h₄ => codeAny_mono h₄ fun r s' hr => ?_) fun _ _ e => e) fun _ _ e => e) fun _ _ e => e) fun _ _ e => e)) (fun _ s' hq => wpAny_pure (wpAny_pure hq)) fun _ _ e => e)
  obtain ⟨D, rfl, ys, k, news, F, N, hC, nDC, hD, rfl, st, ⟨m', hn⟩, eD, fin⟩ := hr
  have hL1 : @LT.lt Nat _ env.locals s₁.heap.objs.size := F.ns.lt
  have nLC : env.locals ≠ cenv.locals := fun e => Nat.lt_irrefl _ (Nat.lt_of_lt_of_le (e ▸ hL1) hC)
  have nLD : env.locals ≠ D := fun e => Nat.lt_irrefl _ (Nat.lt_of_lt_of_le (e ▸ hL1) hD)
  have F' := F.keeps st
  have none0 : ∀ b, s₁.heap.objs.size ≤ b → h₀.get? b = none := fun b hb => by
    cases e : h₀.get? b with
    | none => rfl
    | some o => exact absurd (Heap.lt_size (F.keep _ _ e)) (Nat.not_lt.mpr hb)
  refine wpAny_assign_Name (wpAny_storeName_local hy F'.ns (fun h₂ hn₂ hs₂ => ?_) hp)
  refine ⟨m', hn.sameBut hs₂ (Ne.symm nLC), fun h₃ hs₃ => ?_⟩
  have F₂ := F'.set hn₂ hs₂
  have u3 : ∀ b o, b ≠ env.locals → b ≠ cenv.locals → s'.heap.get? b = some o → h₃.get? b = some o := fun b o h1 h2 e => hs₃.extBut b o h2 (hs₂.extBut b o h1 e)
  refine fin h₃ _ (F₂.change hs₃ (Ne.symm nLC) (none0 _ hC)) (fun p hp => ?_) fun p hp => Nat.lt_of_lt_of_le (Heap.lt_size (N p hp).1) hD
  rcases List.mem_cons.mp hp with rfl | hp
  · exact ⟨u3 _ _ (Ne.symm nLD) nDC eD, Ne.symm nLD, none0 _ hD⟩
  · obtain ⟨e1, e2, e3⟩ := N p hp
    exact ⟨u3 _ _ e2 (fun q => by have := Heap.lt_size e1; rw [q] at this; exact Nat.lt_irrefl _ (Nat.lt_of_lt_of_le this hC)) (st _ _ e1), e2, e3⟩
  ))
end Z9
theorem hkT : hkS := no_implicit_lambda% (@hkapp _ _ hkK.2 (fun a b c d e f g h i j k l m n o p q r s t u v w x y z => @epsV Z9.hkP (by with_unfolding_all exact Z9.hkM) (⟨e9a, e9b, e9c, e9d, e9e, e9f, e9g, e9h, e9v, e9w, e9x, e9y, e9i, e9j, e9k, e9l, lk [z] d9m, e9n, e9o, e9p, e9q, lk [w] d9r, lk [e] d9s, lk [i, j, k, l] d9t, lk [p, q, r, u, v] d9u, e9E, e9C, lk [t] d9T, lk [s] d9K, lk [c] d9A, e9X, e9S, lk [m, n, o] d9G, lk [b] d9W, lk [a] d9P, lk [d] d9Q, lk [f] d9R, e9V, lk [x] d9Z, e9I, e9L, lk [h] d9M, lk [g] d9H, e9O, lk [y] d9N⟩)))
end assign_two_c
theorem assign_two {prog : Program} {w : World} {A : Around} {E : Value → Shared → Prop} {env : Env} {s : Shared} {h₀ : Heap} {L : Addr} {m : Str → Option Value} {elt i0 i1 c : Expr} {x0 x1 y : Str} {p0 p1 py : Pos} {scope : Scope} {cl : List (Str × Addr)} {pos spos : Pos} {Q : Flow → Shared → Prop} (a : Int) (n : Nat) (g : Int → Int → Bool) (F₀ : Fr h₀ L s.heap m) (hLe : env.locals = L) (hsw : swapsWith (.ListComp elt [⟨.Name x0 p0, i0, [], 0⟩, ⟨.Name x1 p1, i1, [c], 0⟩] scope pos) (some (.Name y py)) spos.line env = pure true) (hh : A.handled = none) (hclos : closureFor scope env = pure cl) (hcell : ∀ y ∈ scope.names, y.2 ≠ .cell) (hkind : scope.kind = .function) (hnames : ∀ y ∈ scope.names, y.2 = .local → scope.names.lookup y.1 = some .local) (hx0 : scope.names.lookup x0 = some .local) (hx1 : scope.names.lookup x1 = some .local) (hne : x0 ≠ x1) (hy : env.kindOf y = some .local) (hp : (env.scope.kind == .class || (env.scope.kind == .module && env.locals != env.globals)) = false) (h : wpAny (model prog w) A (eval i0 env) (CompTwo prog w A env elt i1 c x0 x1 scope cl a n g (fun s₁ D C r s' => ∃ ys k news, Fr h₀ L s₁.heap m ∧ News h₀ L s₁.heap news ∧ s₁.heap.objs.size ≤ C ∧ D ≠ C ∧ s₁.heap.objs.size ≤ D ∧ r = .ok .next ∧ s₁.heap.StaysIn s'.heap ∧ (∃ m', s'.heap.Ns C m') ∧ s'.heap.get? D = some (W.listOf (List.toArray ys) k) ∧
      ∀ h' tk, Fr h₀ L h' (fun z => if z = y then some (.ref D) else m z) → News h₀ L h' ((D, W.listOf ys.toArray k) :: news) → (∀ p ∈ news, p.1 < D) → Q .next { s' with heap := h', toks := tk })) E s) (hs : ∀ x, foldedSetIterable i0 env x = pure x := by intro _; rfl) (hs1 : ∀ C x, foldedSetIterable i1 (compEnvC scope cl C env) x = pure x := by intro _ _; rfl) : wpAny (model prog w) A (exec (.Assign [.Name y py] (.ListComp elt [⟨.Name x0 p0, i0, [], 0⟩, ⟨.Name x1 p1, i1, [c], 0⟩] scope pos) spos) env) Q E s := @assign_two_c.hkT prog w A E env s h₀ L m elt i0 i1 c x0 x1 y p0 p1 py scope cl pos spos Q a n g F₀ hLe hsw hh hclos hcell hkind hnames hx0 hx1 hne hy hp h hs hs1
section
variable {prog : Program} {w : World} {A : Around} {E : Value → Shared → Prop} {env : Env} {s : Shared}
end
end
-- LB
noncomputable def lawBody : List Stmt := (fdp ["law"]).2.1
noncomputable def lawScope : Scope := (fdp ["law"]).2.2
noncomputable def lawStmt (i : Nat) : Stmt := lawBody.getD i (.Pass default)
noncomputable abbrev lawEnv (L fa : Addr) : Env := envOfC (Str.ofString "law") lawScope L fa (.ref 355)
noncomputable abbrev lawA (L fa : Addr) : Around := callerA.deeper (lawEnv L fa)
structure LawG (w : World) (p : Program) (loose : List Str) (mean : ExcName → Option Value) (mg mb : Str → Option Value) (g : Heap) : Prop where
  B : Below callerA g [] g
  X : (hd.heap_39 w.params).In g
  T : Top p loose mean mg mb g
theorem turn_nil {s : Shared} {g h' g' : Heap} {L fa : Addr} {m : Str → Option Value} {led : List (Addr × Obj)} (B : Below callerA g [] g) (F : Fr g L s.heap m) (N : News g L s.heap led)
    (T' : KtsTurn (([lawEnv L fa] : List Env).filterMap (·.frame)) (hideAll s.heap []) g') (S' : g'.StaysIn h') : Fr g L h' m ∧ News g L h' led ∧ (∀ b o, b ≠ L → g.get? b = none → s.heap.get? b = some o → h'.get? b = some o) := by
  obtain ⟨h₀', a1, a2, a3, a4, a5, a6⟩ := turn_back (env := lawEnv L fa) (outer := []) B F News.nil ktsDicts_nil rfl T' S'
  have up : ∀ b o, b ≠ L → g.get? b = none → s.heap.get? b = some o → h'.get? b = some o := fun b o h1 h2 e => a6 b o (fun q => nomatch q) h1 h2 e
  refine ⟨⟨a2.ns, fun b o e => a2.keep b o (a1.other b o e (fun q => nomatch q)), F.above⟩, fun p hp => ?_, up⟩
  obtain ⟨e1, e2, e3⟩ := N p hp
  exact ⟨up _ _ e2 e3 e1, e2, e3⟩
noncomputable abbrev lawLed (L Dr Dk Dw : Addr) (ys vs : List Value) (kr kk kw : Nat) (o1 o2 o3 o4 o5 o6 oP : Obj) : List (Addr × Obj) :=
  [(Dr, W.listOf ys.toArray kr), (Dk, W.listOf vs.toArray kk), (Dw, W.listOf vs.toArray kw), (L + 1 + 1 + 1 + 1 + 1 + 1, o6), (L + 1 + 1 + 1 + 1 + 1, o5), (L + 1 + 1 + 1 + 1, o4), (L + 1 + 1 + 1, o3), (L + 1 + 1, o2), (L + 1, o1), (353, oP)]
theorem news_add {g h h' : Heap} {L r : Addr} {o : Obj} {m : Str → Option Value} {news : List (Addr × Obj)} (F : Fr g L h m) (N : News g L h news) (st : h.StaysIn h') (hr0 : h.get? r = none) (hr : h'.get? r = some o) : News g L h' ((r, o) :: news) := by
  refine fun p hp => ?_
  rcases List.mem_cons.mp hp with rfl | hp
  · refine ⟨hr, fun z => ?_, ?_⟩
    · obtain ⟨oL, _, _, hL, _⟩ := F.ns
      have z' : r = L := z
      rw [z', hL] at hr0; cases hr0
    · cases z : g.get? r with
      | none => rfl
      | some o2 => have := F.keep _ _ z; rw [hr0] at this; cases this
  · exact N.grown st p hp
theorem fr_eq {g h : Heap} {L : Addr} {m m' : Str → Option Value} (F : Fr g L h m) (e : ∀ z, m z = m' z) : Fr g L h m' := (funext e : m = m') ▸ F
theorem fr_know {g h : Heap} {L : Addr} {m : Str → Option Value} {x : Str} {v : Value} (F : Fr g L h m) (e : m x = some v) : Fr g L h (fun z => if z = x then some v else m z) :=
  fr_eq F fun z => by by_cases q : z = x <;> simp [q, e]
-- Un
noncomputable def CodeOk (qual : Str) (o : Obj) : Prop := ∃ (vs : Array Value) (t : Tok), o.data = .fields vs ∧ vs[1]? = some (.str qual t)
noncomputable def lamOf : Expr → Arguments × Expr × Scope
  | .Lambda ps b sc _ => (ps, b, sc)
  | e => (default, e, default)
noncomputable def lamIn : Expr → Arguments × Expr × Scope
  | .UnaryOp _ (.Call _ [l] _ _) _ => lamOf l
  | e => (default, e, default)
noncomputable def lam9 : Arguments × Expr × Scope := match lawStmt 9 with
  | .For _ _ [.If _ [.If t _ _ _] _ _] _ _ => lamIn t
  | _ => (default, default, default)
noncomputable def lam18 : Arguments × Expr × Scope := match lawStmt 18 with
  | .For _ _ [.If t _ _ _] _ _ => lamIn t
  | _ => (default, default, default)
noncomputable abbrev lamQual : Str := (lawEnv 0 0).qual ++ Str.ofString "<lambda>"
noncomputable def madeLed : Option (Addr × Obj) → List (Addr × Obj)
  | none => []
  | some q => [q]
noncomputable def madeTab (a b : Int) (ps : Array Value) : Option (Addr × Obj) → Obj
  | none => tabObj ps
  | some q => tabObj (ps ++ #[rawInt a, rawInt b, .ref q.1])
noncomputable def UnEnd {σ : Type} (h₀ : Heap) (L : Addr) (led : σ → List (Addr × Obj)) (Inv : σ → (Str → Option Value) → Prop) (p : Addr × Obj) (s₁ : Shared) (f : Flow) (s₂ : Shared) : Prop :=
  (f = .next ∨ f = .cont) ∧ ∃ h' tk' m' c', s₂ = { s₁ with heap := h', toks := tk' } ∧ Fr h₀ L h' m' ∧ News h₀ L h' (p :: led c') ∧ Inv c' m'
theorem UnEnd.intro {σ : Type} {h₀ h' : Heap} {L : Addr} {led : σ → List (Addr × Obj)} {Inv : σ → (Str → Option Value) → Prop} {p : Addr × Obj} {s₁ : Shared} {tk' : Nat} {m' : Str → Option Value} (c' : σ)
    (F : Fr h₀ L h' m') (N : News h₀ L h' (p :: led c')) (I : Inv c' m') : UnEnd h₀ L led Inv p s₁ .next { s₁ with heap := h', toks := tk' } := ⟨.inl rfl, _, _, _, c', rfl, F, N, I⟩
theorem items_led {prog : Program} {w : World} {A : Around} {E : Value → Shared → Prop} {h₀ : Heap} {env : Env} {target : Expr} {body : List Stmt} {Q : Flow → Shared → Prop} {s : Shared} {I ax : Addr} {lo : Obj} {vs : List Value}
    {σ : Type} (led : σ → List (Addr × Obj)) (Inv : List Value → σ → (Str → Option Value) → Prop) (off : ∀ us c m, Inv us c m → ∀ p ∈ led c, p.1 ≠ I) (hax : ∀ c, (ax, lo) ∈ led c)
    (turn : ∀ c m v r h tk o, v ∈ vs → Inv (v :: r) c m → Fr h₀ env.locals h m → News h₀ env.locals h ((I, o) :: led c) →
      wpAny (model prog w) A (assign target env v) (fun _ s₂ => wpAny (model prog w) A (execs body env) (UnEnd h₀ env.locals led (Inv r) (I, o) { s with heap := h, toks := tk }) E s₂) E { s with heap := h, toks := tk })
    (done : ∀ c m h tk, Inv [] c m → Fr h₀ env.locals h m → News h₀ env.locals h (led c) → Q .next { s with heap := h, toks := tk }) :
    ∀ (us : List Value) (c : σ) (m : Str → Option Value), (∀ v ∈ us, v ∈ vs) → Inv us c m → ItemsRest prog w A E h₀ env target body Q s [(I, "tuple_iterator")] [(ax, lo)] (us.map .val) m (led c) := by
  intro us
  induction us with
  | nil =>
    intro c m _ hI
    exact ItemsRest.zero fun h tk F N => done c m h tk hI F N
  | cons v r ih =>
    intro c m hv hI
    refine ItemsRest.val fun h tk F o ho N => ?_
    refine wpAny_mono (turn c m v r h tk o (hv v (List.mem_cons_self ..)) hI F N) (fun _ s₂ h₂ => wpAny_mono h₂ (fun f s₃ h₃ => ?_) fun _ _ e => e) fun _ _ e => e
    obtain ⟨hf, h', tk', m', c', rfl, F', N', hI'⟩ := h₃
    have fin : UnrEndW h₀ env.locals { s with heap := h, toks := tk } [(I, o)] (fun m' n' => SubL [(ax, lo)] n' ∧ ItemsRest prog w A E h₀ env target body Q s [(I, "tuple_iterator")] [(ax, lo)] (r.map .val) m' n') { s with heap := h', toks := tk' } :=
      ⟨h', tk', m', led c', rfl, F', N', fun p hp q hq => by rw [List.mem_singleton.mp hq]; exact off r c' m' hI' p hp, ⟨hax c', trivial⟩, ih c' m' (fun u hu => hv u (List.mem_cons_of_mem _ hu)) hI'⟩
    rcases hf with rfl | rfl
    · exact fin
    · exact fin
-- Lf
theorem dicts_of {h₀ g : Heap} {L : Addr} {m : Str → Option Value} {env : Env} {outer : List Env} (F : Fr h₀ L g m) (D : KtsDicts (outer.filterMap (·.frame)) h₀) (hf : env.frame = some L) : KtsDicts ((env :: outer).filterMap (·.frame)) g := fun b hb => by
  obtain ⟨v, hv, e⟩ := List.mem_filterMap.mp hb
  rcases List.mem_cons.mp hv with rfl | hv
  · have e' : L = b := by rw [hf] at e; exact Option.some.inj e
    subst e'
    obtain ⟨o, es, n, h1, h2, _⟩ := F.ns
    exact ⟨o, es, n, h1, h2⟩
  · obtain ⟨o, es, n, h1, h2⟩ := D b (List.mem_filterMap.mpr ⟨v, hv, e⟩)
    exact ⟨o, es, n, F.keep _ _ h1, h2⟩
theorem dicts_ofB {A : Around} {base h₀ g : Heap} {L : Addr} {m : Str → Option Value} {env : Env} {outer : List Env} (_B : Below A base (env :: outer) g) (F : Fr h₀ L g m) (D : KtsDicts (outer.filterMap (·.frame)) h₀) (hf : env.frame = some L) : KtsDicts ((env :: outer).filterMap (·.frame)) g := dicts_of F D hf
theorem turn_muts {s : Shared} {g h' g' : Heap} {L fa : Addr} {m : Str → Option Value} {led muts : List (Addr × Obj)} (B : Below callerA g [] g) (F : Fr g L s.heap m) (N : News g L s.heap led) (sub : ∀ p ∈ muts, p ∈ led)
    (T' : KtsTurn (([lawEnv L fa] : List Env).filterMap (·.frame)) (hideAll s.heap (muts.map (·.1))) g') (S' : g'.StaysIn h') (A : At h' muts) : Fr g L h' m ∧ News g L h' led := by
  obtain ⟨h₀', a1, a2, a3, a4, a5, a6⟩ := turn_back (env := lawEnv L fa) (outer := []) B F (N.perm sub) ktsDicts_nil rfl T' S'
  refine ⟨⟨a2.ns, fun b o e => a2.keep b o (a1.other b o e (fun q => nomatch q)), F.above⟩, fun p hp => ?_⟩
  obtain ⟨e1, e2, e3⟩ := N p hp
  refine ⟨?_, e2, e3⟩
  by_cases hm : p.1 ∈ muts.map (·.1)
  · obtain ⟨q, hq, e⟩ := List.mem_map.mp hm
    have z := (N q (sub q hq)).1
    rw [e, e1] at z
    have zz := A q hq
    rw [e] at zz
    rw [zz]
    exact z.symm
  · exact a6 _ _ hm e2 e3 e1
theorem leave_onSX {M : Model} {A : Around} {E : Value → Shared → Prop} {s' : Shared} {base g g₂ : Heap} {outer : List Env} {L e t : Addr} {m : Str → Option Value} {env : Env} {Q : Unit → Shared → Prop} {news : List (Addr × Obj)} {cls : Value} {vs : List Value}
    (hf : env.frame = some L) (K : Below A base outer g) (F : Fr g L g₂ m) (R : RaisedS base g₂ (env :: outer) e cls t vs news s'.heap) (hsm : g₂.UpToSlots s'.heap)
    (hQ : ∀ h', RaisedS base g outer e cls t vs news h' → g.UpToSlots h' → Q () { s' with heap := h' }) :
    wpAny M (A.deeper env) (leaving env (.ref e)) Q E s' := by
  obtain ⟨⟨B, hB, hBG, hl, hfl, hnew⟩, htup⟩ := R
  refine wpAny_leaves_onW (Around.frames_deeper K.stack) hf hfl fun h' x1 x2 => ?_
  have upG : g.UpToSlots h' := (Heap.UpToSlots.of_keeps F.keep).trans (hsm.trans x2)
  refine hQ h' ⟨⟨B, hB, fun b o q nm => hBG b o (F.keep b o q) (fun hm => ?_), fun q hq => ⟨(hl q hq).1, kts_none F.keep (hl q hq).2.1, (hl q hq).2.2⟩, x1, hnew⟩, htup.of_slots x2⟩ upG
  obtain ⟨v, hv, ev⟩ := List.mem_filterMap.mp hm
  rcases List.mem_cons.mp hv with rfl | hv
  · have eb : L = b := by rw [hf] at ev; exact Option.some.inj ev
    rw [← eb, kts_self F] at q
    cases q
  · exact nm (List.mem_filterMap.mpr ⟨v, hv, ev⟩)
-- Cc
section
section
variable {M : Model} {A : Around} {E : Value → Shared → Prop} {s : Shared}
theorem newEnv_cell {scope : Scope} {globals : Addr} {cl : List (Str × Addr)} {qual : Str} {env : Env} {Q : Env → Shared → Prop} {x : Str}
    (hc : ∀ n, cellsFrom n scope.names cl = (x, n) :: cl) (hp : ∀ h, pushCells h scope.names = h.push { cls := .type "cell", data := .cell none })
    (h : Q { scope, locals := s.heap.objs.size, globals, cells := (x, s.heap.objs.size + 1) :: cl, qual, func := none, code := env.code, frame := env.frame, builtins := env.builtins }
      { s with heap := (s.heap.push { cls := .type "dict", data := .dict #[] }).push { cls := .type "cell", data := .cell none } }) :
    wpAny M A (newFunctionEnv scope globals cl [] qual none .none (some env)) Q E s := by
  simp only [newFunctionEnv, Option.isSome_some, if_true]
  refine wpAny_bind (wpAny_alloc ?_)
  refine wpAny_bind (wpAny_layCells _ (fun name kind cells => by cases hkc : kind == NameKind.cell <;> simp [hkc]) _ _ _ _ ?_)
  rw [hp, hc]
  rw [show ({ s with heap := s.heap.push { cls := .type "dict", data := .dict #[] } } : Shared).heap.objs.size = s.heap.objs.size + 1 from Heap.size_push ..]
  simp only [List.forIn_nil]
  exact wpAny_bind (wpAny_pure (wpAny_pure h))
end
section
variable {prog : Program} {w : World} {A : Around} {E : Value → Shared → Prop} {env : Env} {s : Shared}
noncomputable def CompCell (prog : Program) (w : World) (A : Around) (env : Env) (test : Expr) (x : Str) (scope : Scope) (cl : List (Str × Addr)) (p : Int → Bool) (Q : Value → Shared → Prop) (xv : Value) (s₁ : Shared) : Prop :=
  ∃ l us ms, xv = .ref l ∧ s₁.heap.IsList l us.toArray ∧ IntsAre us ms ∧ ms.length ≤ 1000 ∧
    (∀ C c o n t s₃ m₃ E', n ∈ ms → s₃.heap.Ns C m₃ → s₁.heap.objs.size ≤ C → s₁.heap.objs.size ≤ c → s₃.heap.get? c = some o → o.data = .cell (some (.int n t)) → s₁.heap.StaysIn s₃.heap →
      wpAny (model prog w) A (isTrue test (compEnvC scope ((x, c) :: cl) C env) (eval test (compEnvC scope ((x, c) :: cl) C env))) (fun ok s₄ => ok = p n ∧ Keeps s₃ s₄) E' s₃) ∧
    (∀ D h' tk k (ys : List Value), s₁.heap.objs.size ≤ D → h'.get? D = some (W.listOf ys.toArray k) → IntsAre ys (ms.filter p) → s₁.heap.StaysIn h' → Q (.ref D) { s₁ with heap := h', toks := tk })
end
namespace comp_cell_c
noncomputable def hkS : Prop := ∀ {prog : Program} {w : World} {A : Around} {E : Value → Shared → Prop} {env : Env} {s : Shared} {iter test : Expr} {x : Str} {px pe : Pos} {scope : Scope} {cl : List (Str × Addr)} {pos : Pos} {Q : Value → Shared → Prop} (p : Int → Bool) (hh : A.handled = none) (hclos : closureFor scope env = pure cl) (hc : ∀ n, cellsFrom n scope.names cl = (x, n) :: cl) (hp : ∀ h, pushCells h scope.names = h.push { cls := .type "cell", data := .cell none }) (hkind : scope.kind = .function) (hnames : ∀ y ∈ scope.names, y.2 = .local → scope.names.lookup y.1 = some .local) (hx : ∀ C c, (compEnvC scope ((x, c) :: cl) C env).kindOf x = some .cell) (hb : (x == ("__debug__" : Str)) = false) (h : wpAny (model prog w) A (eval iter env) (CompCell prog w A env test x scope cl p Q) E s) (hs : ∀ x, foldedSetIterable iter env x = pure x), wpAny (model prog w) A (eval (.ListComp (.Name x pe) [⟨.Name x px, iter, [test], 0⟩] scope pos) env) Q E s
noncomputable def hkK : Σ' P : Program → World → Around → tQ → Env → Shared → Expr → Expr → Str → Pos → Pos → Scope → tA → Pos → tQ → (Int → Bool) → Prop, (∀ a b c d e f g h i j k l m n o p, P a b c d e f g h i j k l m n o p) → hkS := ⟨_, fun hk9 => by intro prog w A E env s iter test x px pe scope cl pos Q p hh hclos hc hp hkind hnames hx hb h hs; revert hs; revert h; revert hb; revert hx; revert hnames; revert hkind; revert hp; revert hc; revert hclos; revert hh; apply (hk9 prog w A E env s iter test x px pe scope cl pos Q p)⟩
namespace Z9
noncomputable def hkP (y : VV) := hkK.1 (y.P 0) (y.W 0) (y.A 0) (y.Q 0) (y.s 0) (y.R 0) (y.t 0) (y.t 1) (y.G 0) (y.u 0) (y.u 1) (y.K 0) (y.T 0) (y.u 2) (y.Q 1) (y.j 0)
@[irreducible] noncomputable def hkG1 := epsV0 hkP
@[irreducible] def p : (Int → Bool) := hkG1.j 0
noncomputable def hkK1 : Σ' P0 : Shared → Addr → tV → tI → Heap → Nat → Nat → Nat → Nat → Prop, (∀ a b c d e f g h i, P0 a b c d e f g h i) → hkP hkG1 := ⟨_, fun hcA => by
  with_unfolding_all show hkK.1 (hkG1.P 0) (hkG1.W 0) (hkG1.A 0) (hkG1.Q 0) (hkG1.s 0) (hkG1.R 0) (hkG1.t 0) (hkG1.t 1) (hkG1.G 0) (hkG1.u 0) (hkG1.u 1) (hkG1.K 0) (hkG1.T 0) (hkG1.u 2) (hkG1.Q 1) p
  intro hh hclos hc hp hkind hnames hx hb h hs
  rw [eval_ListComp]
  refine wpAny_comprehension_free (use := none) rfl hs hclos hkind hnames (wpAny_mono h (fun xv s₁ h₁ => ?_) fun _ _ e => e)
  obtain ⟨l, us, ms, rfl, hl, hi, hlen, htest, hdone⟩ := h₁
  have hlt : @LT.lt Nat _ l s₁.heap.objs.size := by obtain ⟨_, e, _⟩ := hl; exact Heap.lt_size e
  refine wpAny_pyIter_list hl ?_
  refine wpAny_newObj_type (newEnv_cell hc hp ?_)
  dsimp only
  generalize hH1 : s₁.heap.push { cls := .type "list_iterator", dict := none, data := .fields #[.ref l, .int 0 0] } = H1
  generalize hH2 : H1.push { cls := .type "list", dict := none, data := .seq ([] : List Value).toArray } = H2
  generalize hH3 : H2.push { cls := .type "dict", data := .dict #[] } = H3
  generalize hH4 : H3.push { cls := .type "cell", data := .cell none } = h₁
  have hDe : @Eq Nat H1.objs.size (s₁.heap.objs.size + 1) := by rw [← hH1, Heap.size_push]
  have hCe : @Eq Nat H2.objs.size (s₁.heap.objs.size + 1 + 1) := by rw [← hH2, Heap.size_push, hDe]
  have hce : @Eq Nat H3.objs.size (H2.objs.size + 1) := by rw [← hH3, Heap.size_push]
  rw [← hce]
  generalize hDn : H1.objs.size = D at *
  generalize hCn : H2.objs.size = C at *
  generalize hcn : H3.objs.size = c at *
  generalize hIn : s₁.heap.objs.size = I at *
  have nIC : I ≠ C := fun e => by have e' : @Eq Nat I C := e; omega
  have nID : I ≠ D := fun e => by have e' : @Eq Nat I D := e; omega
  have nDC : D ≠ C := fun e => by have e' : @Eq Nat D C := e; omega
  have nIc : I ≠ c := fun e => by have e' : @Eq Nat I c := e; omega
  have nDc : D ≠ c := fun e => by have e' : @Eq Nat D c := e; omega
  have nCc : C ≠ c := fun e => by have e' : @Eq Nat C c := e; omega
  have below : ∀ b o, s₁.heap.get? b = some o → b ≠ I ∧ b ≠ D ∧ b ≠ C ∧ b ≠ c := fun b o e => by
    have hb : @LT.lt Nat _ b I := by rw [← hIn]; exact Heap.lt_size e
    refine ⟨fun q => ?_, fun q => ?_, fun q => ?_, fun q => ?_⟩
    · have q' : @Eq Nat b I := q; omega
    · have q' : @Eq Nat b D := q; omega
    · have q' : @Eq Nat b C := q; omega
    · have q' : @Eq Nat b c := q; omega
  have u4 : ∀ b o, H3.get? b = some o → h₁.get? b = some o := fun b o e => hH4 ▸ Heap.get?_push_of_some _ e
  have u3 : ∀ b o, H2.get? b = some o → h₁.get? b = some o := fun b o e => u4 b o (hH3 ▸ Heap.get?_push_of_some _ e)
  have old : ∀ b o, s₁.heap.get? b = some o → h₁.get? b = some o := fun b o e => u3 b o (hH2 ▸ Heap.get?_push_of_some _ (hH1 ▸ Heap.get?_push_of_some _ e))
  have hI : h₁.get? I = some { cls := .type "list_iterator", data := .fields #[.ref l, .int 0 0] } :=
    u3 _ _ (hH2 ▸ Heap.get?_push_of_some _ (by rw [← hH1, ← hIn]; exact Heap.get?_push_size _ rfl))
  have hD : h₁.get? D = some { cls := .type "list", data := .seq ([] : List Value).toArray } := u3 _ _ (by rw [← hH2, ← hDn]; exact Heap.get?_push_size _ rfl)
  have hC : h₁.Ns C (fun _ => none) := by
    have e := Heap.Ns.new H2 (.type "dict")
    rw [hH3, hCn] at e
    exact e.keeps u4
  have hcell : h₁.IsCell c none := ⟨_, by rw [← hH4, ← hcn]; exact Heap.get?_push_size _ rfl, rfl⟩
  have nl : l ≠ I ∧ l ≠ D ∧ l ≠ C ∧ l ≠ c := by obtain ⟨o, e, _⟩ := hl; exact below l o e
  have Wk := Walks.list (prog := (hkG1.P 0)) (w := (hkG1.W 0)) hh I l nl.1 us.toArray
  have hsz : us.toArray.size = us.length := by simp
  rw [hsz] at Wk
  have hul : us.length = ms.length := hi.length
  have nw : ∀ {J b : Nat}, b ≠ J → b ∉ [J] := fun h hm => h (List.mem_singleton.mp hm)
  revert nw; revert hul; revert hsz; revert Wk; revert nl; revert hcell; revert hC; revert hD; revert hI; revert old; revert below; revert nCc; revert nDc; revert nIc; revert nDC; revert nID; revert nIC; revert hCe; revert hDe; revert hlt; revert hdone; revert htest; revert hIn; revert hce; revert hlen; revert hi; revert hl; revert hs; revert h; revert hb; revert hx; revert hnames; revert hkind; revert hp; revert hc; revert hclos; revert hh; apply (hcA s₁ l us ms h₁ D C c I)⟩
namespace A
noncomputable def hkP (y : VV) := hkK1.1 (y.R 0) (y.N 0) (y.L 0) (y.I 0) (y.H 0) (y.N 1) (y.N 2) (y.N 3) (y.N 4)
noncomputable def hkG2 := epsV0 hkP
@[irreducible] def s₁ : Shared := hkG2.R 0
@[irreducible] def l : Addr := hkG2.N 0
@[irreducible] def us : tV := hkG2.L 0
@[irreducible] def ms : tI := hkG2.I 0
@[irreducible] def h₁ : Heap := hkG2.H 0
@[irreducible] def D : Nat := hkG2.N 1
@[irreducible] def C : Nat := hkG2.N 2
@[irreducible] def c : Nat := hkG2.N 3
@[irreducible] def I : Nat := hkG2.N 4
noncomputable def hkK2 : Σ' P0 : Heap → Nat → tM → tV → Nat → Nat → (Option Value) → Prop, (∀ a b c d e f g, P0 a b c d e f g) → hkP hkG2 := ⟨_, fun hcB => by
  with_unfolding_all show hkK1.1 s₁ l us ms h₁ D C c I
  intro hh hclos hc hp hkind hnames hx hb h hs hl hi hlen hce hIn htest hdone hlt hDe hCe nIC nID nDC nIc nDc nCc below old hI hD hC hcell nl Wk hsz hul nw
  have loop : ∀ s₃ : Shared, s₃ = { s₁ with heap := h₁ } →
      codeAny (model (hkG1.P 0) (hkG1.W 0)) (hkG1.A 0) (.compLoop (.ListComp (.Name (hkG1.G 0) (hkG1.u 1)) [⟨.Name (hkG1.G 0) (hkG1.u 0), (hkG1.t 0), [(hkG1.t 1)], 0⟩] (hkG1.K 0) (hkG1.u 2)) 0 (.ref I) (.ref D) (compEnvC (hkG1.K 0) (((hkG1.G 0), c) :: (hkG1.T 0)) C (hkG1.s 0)))
        (compPost (model (hkG1.P 0) (hkG1.W 0)) (hkG1.A 0) (hkG1.Q 0) none (hkG1.Q 1) (.ref D) C) s₃ := by
    rintro s₃ rfl
    refine codeAny_compLoop_tests (fun k s' => ∃ H tk m' ys k' i, s' = { s₁ with heap := H, toks := tk } ∧ i ≤ us.length ∧ k = us.length + 1 - i ∧ (H.IsListIter I l i ∧ H.IsList l us.toArray) ∧ H.get? D = some (W.listOf (List.toArray ys) k') ∧
        H.Ns C m' ∧ (∃ v, H.IsCell c v) ∧ IntsAre ys ((ms.take i).filter p) ∧ (∀ b o, s₁.heap.get? b = some o → H.get? b = some o)) ?_ (us.length + 1)
      ⟨h₁, s₁.toks, _, [], 0, 0, rfl, Nat.zero_le _, rfl, ⟨⟨_, hI, rfl, rfl⟩, hl.at fun o e => old l o e⟩, hD, hC, ⟨_, hcell⟩, by simpa using IntsAre.nil, old⟩
    rintro k s' ⟨H, tk, m', ys, k', i, rfl, hi', rfl, hst, hacc, hn', ⟨v0, hcv⟩, hys, hk⟩
    by_cases hlt' : i < us.length
    · skip
      revert hlt'; revert hk; revert hys; revert hcv; revert hn'; revert hacc; revert hst; revert hi'; revert nw; revert hul; revert hsz; revert Wk; revert nl; revert hcell; revert hC; revert hD; revert hI; revert old; revert below; revert nCc; revert nDc; revert nIc; revert nDC; revert nID; revert nIC; revert hCe; revert hDe; revert hlt; revert hdone; revert htest; revert hIn; revert hce; revert hlen; revert hi; revert hl; revert hs; revert h; revert hb; revert hx; revert hnames; revert hkind; revert hp; revert hc; revert hclos; revert hh; apply (hcB H tk m' ys k' i v0)
    · obtain rfl : i = us.length := Nat.le_antisymm hi' (Nat.not_lt.mp hlt')
      refine Wk.done _ _ _ hst fun h₂ tk₂ hk₂ => ?_
      show ∃ m, Heap.Ns h₂ C m ∧ ∀ h', Heap.SameBut C h₂ h' → (hkG1.Q 1) (.ref D) { s₁ with heap := h', toks := tk₂ }
      refine ⟨m', hn'.at' fun o e => hk₂ _ o (nw (Ne.symm nIC)) e, fun h₆ hs₆ => ?_⟩
      rw [hul, List.take_length] at hys
      exact hdone D h₆ tk₂ k' ys (by show @LE.le Nat _ _ _; omega) (hs₆.extBut D _ nDC (hk₂ D _ (nw (Ne.symm nID)) hacc)) hys fun b o e => hs₆.extBut b o (below b o e).2.2.1 (hk₂ b o (nw (below b o e).1) (hk b o e))
  exact codeAny_compStart_list (loop _ rfl) (Wk.self 0 _ _ _ ⟨⟨_, hI, rfl, rfl⟩, hl.at fun o e => old l o e⟩ (loop _ rfl))⟩
namespace B
noncomputable def hkP (y : VV) := hkK2.1 (y.H 0) (y.N 0) (y.M 0) (y.L 0) (y.N 1) (y.N 2) (y.q 0)
@[irreducible] noncomputable def hkG3 := epsV0 hkP
@[irreducible] def m' : tM := hkG3.M 0
@[irreducible] def ys : tV := hkG3.L 0
@[irreducible] def k' : Nat := hkG3.N 1
@[irreducible] def i : Nat := hkG3.N 2
@[irreducible] def v0 : (Option Value) := hkG3.q 0
noncomputable def hkK3 : Σ' P0 : Heap → Nat → Tok → Heap → Obj → Heap → Nat → Prop, (∀ a b c d e f g, P0 a b c d e f g) → hkP hkG3 := ⟨_, fun hcC => by
  with_unfolding_all show hkK2.1 (hkG3.H 0) (hkG3.N 0) m' ys k' i v0
  intro hh hclos hc hp hkind hnames hx hb h hs hl hi hlen hce hIn htest hdone hlt hDe hCe nIC nID nDC nIc nDc nCc below old hI hD hC hcell nl Wk hsz hul nw hi' hst hacc hn' hcv hys hk hlt'
  refine Wk.item i _ _ _ hlt' hst fun v h₂ tk₂ hPv hst₂ hk₂ => ?_
  have hv : us[i]? = some v := by simpa using hPv
  obtain ⟨t, hx1⟩ := hi.get i (ms[i]'(by omega)) (by simp [show i < ms.length by omega])
  rw [hv] at hx1
  cases hx1
  have hcv₂ : h₂.IsCell c v0 := by obtain ⟨o, e, d⟩ := hcv; exact ⟨o, hk₂ _ _ (nw (Ne.symm nIc)) e, d⟩
  refine wpAny_assign_Name (wpAny_storeName_cell (s := { s₁ with heap := h₂, toks := tk₂ }) (env := compEnvC (hkG1.K 0) (((hkG1.G 0), c) :: (hkG1.T 0)) C (hkG1.s 0)) (by simp [compEnvC, relabel, hkind]) (hx C c) (by simp [compEnvC]) hcv₂ (fun h₃ hv3 hs₃ => ?_))
  have o3 : ∀ b o, s₁.heap.get? b = some o → h₃.get? b = some o := fun b o e => hs₃.extBut b o (below b o e).2.2.2 (hk₂ b o (nw (below b o e).1) (hk b o e))
  have hD₃ := hs₃.extBut D _ nDc (hk₂ D _ (nw (Ne.symm nID)) hacc)
  have hst₃ : h₃.IsListIter I l (i + 1) ∧ h₃.IsList l us.toArray := ⟨hst₂.1.at fun o e => hs₃.extBut _ o nIc e, hst₂.2.at fun o e => hs₃.extBut _ o nl.2.2.2 e⟩
  have hn₃ : h₃.Ns C m' := (hn'.at' fun o e => hk₂ _ o (nw (Ne.symm nIC)) e).at' fun o e => hs₃.extBut _ o nCc e
  obtain ⟨oc, hoc, hdc⟩ := hv3
  have hmem : ms[i]'(by omega) ∈ ms := List.getElem_mem _
  have etake : (ms.take (i + 1)).filter p = (ms.take i).filter p ++ if p (ms[i]'(by omega)) = true then [ms[i]'(by omega)] else [] := by
    rw [List.take_add_one, List.getElem?_eq_getElem (show i < ms.length by omega), List.filter_append]
    congr 1
    cases hgg : p (ms[i]'(by omega)) <;> simp [hgg]
  refine wpAny_tests_one (wpAny_mono (htest C c oc (ms[i]'(by omega)) t _ _ _ hmem hn₃ (by omega) (by omega) hoc hdc o3) (fun ok s₈ h₈ => ?_) fun _ _ e => e)
  obtain ⟨rfl, h₈, tk₈, rfl, hk₈⟩ := h₈
  revert hk₈; revert etake; revert hmem; revert hdc; revert hoc; revert hn₃; revert hst₃; revert hD₃; revert o3; revert hs₃; revert hcv₂; revert hv; revert hPv; revert hk₂; revert hst₂; revert hlt'; revert hk; revert hys; revert hcv; revert hn'; revert hacc; revert hst; revert hi'; revert nw; revert hul; revert hsz; revert Wk; revert nl; revert hcell; revert hC; revert hD; revert hI; revert old; revert below; revert nCc; revert nDc; revert nIc; revert nDC; revert nID; revert nIC; revert hCe; revert hDe; revert hlt; revert hdone; revert htest; revert hIn; revert hce; revert hlen; revert hi; revert hl; revert hs; revert h; revert hb; revert hx; revert hnames; revert hkind; revert hp; revert hc; revert hclos; revert hh; apply (hcC h₂ tk₂ t h₃ oc h₈ tk₈)⟩
namespace C
noncomputable def hkP (y : VV) := hkK3.1 (y.H 0) (y.N 0) (y.N 1) (y.H 1) (y.O 0) (y.H 2) (y.N 2)
@[irreducible] noncomputable def hkG4 := epsV0 hkP
@[irreducible] def t : Tok := hkG4.N 1
@[irreducible] def h₃ : Heap := hkG4.H 1
@[irreducible] def oc : Obj := hkG4.O 0
@[irreducible] def h₈ : Heap := hkG4.H 2
@[irreducible] def tk₈ : Nat := hkG4.N 2
theorem hkM : hkP hkG4 := (by exact @wI _ _ : @wT (hkP hkG4) (by
  with_unfolding_all show hkK3.1 (hkG4.H 0) (hkG4.N 0) t h₃ oc h₈ tk₈
  intro hh hclos hc hp hkind hnames hx hb h hs hl hi hlen hce hIn htest hdone hlt hDe hCe nIC nID nDC nIc nDc nCc below old hI hD hC hcell nl Wk hsz hul nw hi' hst hacc hn' hcv hys hk hlt' hst₂ hk₂ hPv hv hcv₂ hs₃ o3 hD₃ hst₃ hn₃ hoc hdc hmem etake hk₈
  cases hg : p (ms[i]'(by omega)) with
  | false =>
    rw [if_neg (by simp)]
    refine ⟨us.length + 1 - (i + 1), dec_lt (by first | assumption | omega), h₈, tk₈, _, ys, k', i + 1, rfl, hlt', rfl, ⟨hst₃.1.at fun o e => hk₈ _ o e, hst₃.2.at fun o e => hk₈ _ o e⟩, hk₈ _ _ hD₃, hn₃.keeps hk₈, ⟨_, oc, hk₈ _ _ hoc, hdc⟩, ?_, fun b o e => hk₈ b o (o3 b o e)⟩
    rw [etake, hg]
    simpa using hys
  | true =>
    rw [if_pos rfl]
    refine nm_cell ?_ (by simp [List.lookup]) (hk₈ _ _ hoc) hdc (by simp [compEnvC, relabel, hkind]) (hx C c) hb
    have hyl : ys.length ≤ 1000 := by
      have e1 := hys.length
      have e3 := List.length_filter_le p (ms.take i)
      rw [List.length_take] at e3
      omega
    refine wpAny_list_append_plain (hsz := by rw [List.size_toArray, sizeLine_eq]; omega) ⟨_, hk₈ _ _ hD₃⟩ fun h10 hl10 hs10 => ?_
    obtain ⟨k10, hk10⟩ := hl10
    have u10 : ∀ b o, b ≠ D → h₃.get? b = some o → h10.get? b = some o := fun b o hb e => hs10.extBut b o hb (hk₈ b o e)
    refine ⟨us.length + 1 - (i + 1), dec_lt (by first | assumption | omega), h10, tk₈, _, ys ++ [.int (ms[i]'(by omega)) t], k10, i + 1, rfl, hlt', rfl, ⟨hst₃.1.at fun o e => u10 _ o nID e, hst₃.2.at fun o e => u10 _ o nl.2.1 e⟩, ?_,
      (hn₃.keeps hk₈).sameBut hs10 (Ne.symm nDC), ⟨_, oc, u10 _ _ (Ne.symm nDc) hoc, hdc⟩, ?_, fun b o e => u10 b o (below b o e).2.1 (o3 b o e)⟩
    · rw [hk10, List.push_toArray]
    · rw [etake, hg, if_pos rfl]
      exact IntsAre.append hys (.cons _ _ .nil)
  ))
end C
theorem hkM : hkP hkG3 := no_implicit_lambda% (@hkapp _ _ hkK3.2 (fun a b c d e f g => @epsV C.hkP (by with_unfolding_all exact C.hkM) (vv e9E e9C e9T e9K e9A e9X e9S e9G e9W e9P e9Q e9R e9V e9Z e9I e9L e9M (lk [a, d, f] d9H) (lk [e] d9O) (lk [b, c, g] d9N))))
end B
theorem hkM : hkP hkG2 := no_implicit_lambda% (@hkapp _ _ hkK2.2 (fun a b c d e f g => @epsV B.hkP (by with_unfolding_all exact B.hkM) (⟨e9a, e9b, e9c, e9d, e9e, e9f, e9g, e9h, e9v, e9w, e9x, e9y, e9i, e9j, e9k, e9l, e9m, e9n, e9o, e9p, lk [g] d9q, e9r, e9s, e9t, e9u, e9E, e9C, e9T, e9K, e9A, e9X, e9S, e9G, e9W, e9P, e9Q, e9R, e9V, e9Z, e9I, lk [d] d9L, lk [c] d9M, lk [a] d9H, e9O, lk [b, e, f] d9N⟩)))
end A
theorem hkM : hkP hkG1 := no_implicit_lambda% (@hkapp _ _ hkK1.2 (fun a b c d e f g h i => @epsV A.hkP (by with_unfolding_all exact A.hkM) (vv e9E e9C e9T e9K e9A e9X e9S e9G e9W e9P e9Q (lk [a] d9R) e9V e9Z (lk [d] d9I) (lk [c] d9L) e9M (lk [e] d9H) e9O (lk [b, f, g, h, i] d9N))))
end Z9
theorem hkT : hkS := no_implicit_lambda% (@hkapp _ _ hkK.2 (fun a b c d e f g h i j k l m n o p => @epsV Z9.hkP (by with_unfolding_all exact Z9.hkM) (⟨e9a, e9b, e9c, e9d, e9e, e9f, e9g, e9h, e9v, e9w, e9x, e9y, e9i, lk [p] d9j, e9k, e9l, e9m, e9n, e9o, e9p, e9q, e9r, lk [e] d9s, lk [g, h] d9t, lk [j, k, n] d9u, e9E, e9C, lk [m] d9T, lk [l] d9K, lk [c] d9A, e9X, e9S, lk [i] d9G, lk [b] d9W, lk [a] d9P, lk [d, o] d9Q, lk [f] d9R, e9V, e9Z, e9I, e9L, e9M, e9H, e9O, e9N⟩)))
end comp_cell_c
theorem comp_cell {prog : Program} {w : World} {A : Around} {E : Value → Shared → Prop} {env : Env} {s : Shared} {iter test : Expr} {x : Str} {px pe : Pos} {scope : Scope} {cl : List (Str × Addr)} {pos : Pos} {Q : Value → Shared → Prop} (p : Int → Bool) (hh : A.handled = none) (hclos : closureFor scope env = pure cl) (hc : ∀ n, cellsFrom n scope.names cl = (x, n) :: cl) (hp : ∀ h, pushCells h scope.names = h.push { cls := .type "cell", data := .cell none }) (hkind : scope.kind = .function) (hnames : ∀ y ∈ scope.names, y.2 = .local → scope.names.lookup y.1 = some .local) (hx : ∀ C c, (compEnvC scope ((x, c) :: cl) C env).kindOf x = some .cell) (hb : (x == ("__debug__" : Str)) = false) (h : wpAny (model prog w) A (eval iter env) (CompCell prog w A env test x scope cl p Q) E s) (hs : ∀ x, foldedSetIterable iter env x = pure x := by intro _; rfl) : wpAny (model prog w) A (eval (.ListComp (.Name x pe) [⟨.Name x px, iter, [test], 0⟩] scope pos) env) Q E s := @comp_cell_c.hkT prog w A E env s iter test x px pe scope cl pos Q p hh hclos hc hp hkind hnames hx hb h hs
section
variable {prog : Program} {w : World} {A : Around} {E : Value → Shared → Prop} {env : Env} {s : Shared}
end
end
-- Cp
section
noncomputable def clipW (x : UInt64) : WData := if (Float64.cmpInt x 0 == some .lt) = true then .int 0 else if (Float64.cmpInt x 60 == some .gt) = true then .int 60 else .float x
noncomputable def clipAt (pt : UInt64) (v : Int) : WData := clipW (Float64.add (Float64.sub pt (Float64.ofInt v)) (Float64.ofInt 30))
noncomputable def NumEq : WData → Int → Prop
  | .int n, k => n = k
  | .float b, k => (Float64.cmpInt b k == some .eq) = true
  | _, _ => False
section
variable {prog : Program} {w : World} {A : Around} {E : Value → Shared → Prop} {s : Shared} {Q : Value → Shared → Prop}
theorem max_clip {x : UInt64} {t u : Tok} (hh : A.handled = none) (h : ∀ y h' tk', y = (if Flt.ltV (.float x t) (.int 0 u) then Value.int 0 u else .float x t) → s.heap.StaysIn h' → Q y { s with heap := h', toks := tk' }) :
    wpAny (model prog w) A (call (.builtin "max") [.float x t, .int 0 u]) Q E s :=
  Flt.max_two_num hh (.float _ _) (.int _ _) fun h' tk hk => h _ h' tk rfl hk
theorem min_clip {x : UInt64} {t u u' : Tok} {y : Value} (hh : A.handled = none) (e : y = (if Flt.ltV (.float x t) (.int 0 u) then Value.int 0 u else .float x t)) (h : ∀ z h' tk', Flt.NumIs z (clipW x) → s.heap.StaysIn h' → Q z { s with heap := h', toks := tk' }) :
    wpAny (model prog w) A (call (.builtin "min") [y, .int 60 u']) Q E s := by
  have hn : Flt.NumV y := by rw [e]; split <;> constructor
  refine Flt.min_two_num hh hn (.int _ _) fun h' tk hk => h _ h' tk ?_ hk
  rw [e, show Flt.ltV (.float x t) (.int 0 u) = (Float64.cmpInt x 0 == some .lt) from rfl]
  unfold clipW
  by_cases c : (Float64.cmpInt x 0 == some .lt) = true
  · simp only [if_pos c]
    rw [show Flt.ltV (.int 60 u') (.int 0 u) = false from rfl]
    exact .int _ _
  · simp only [if_neg c]
    rw [show Flt.ltV (.int 60 u') (.float x t) = (Float64.cmpInt x 60 == some .gt) from rfl]
    by_cases c2 : (Float64.cmpInt x 60 == some .gt) = true
    · rw [if_pos c2, if_pos c2]; exact .int _ _
    · rw [if_neg c2, if_neg c2]; exact .float _ _
inductive NumsAre : List Value → List WData → Prop
  | nil : NumsAre [] []
  | cons {v : Value} {d : WData} {vs : List Value} {ds : List WData} : Flt.NumIs v d → NumsAre vs ds → NumsAre (v :: vs) (d :: ds)
theorem NumsAre.length {vs : List Value} {ds : List WData} (h : NumsAre vs ds) : vs.length = ds.length := by
  induction h with
  | nil => rfl
  | cons _ _ ih => rw [List.length_cons, List.length_cons, ih]
theorem NumsAre.at {vs : List Value} {ds : List WData} (h : NumsAre vs ds) : ∀ (i : Nat) (v : Value), vs[i]? = some v → ∃ d, ds[i]? = some d ∧ Flt.NumIs v d := by
  induction h with
  | nil => intro i v e; simp at e
  | cons h1 _ ih =>
    intro i v e
    cases i with
    | zero => simp at e; subst e; exact ⟨_, by simp, h1⟩
    | succ i => simpa using ih i v (by simpa using e)
theorem nums_of {f : Int → WData} {vs ys : List Value} {ns : List Int} (hv : IntsAre vs ns) (hP : Paired (fun v y => ∃ i t, v = Value.int i t ∧ Flt.NumIs y (f i)) vs ys) : NumsAre ys (ns.map f) := by
  induction hv generalizing ys with
  | nil => cases hP; exact .nil
  | cons n t _ ih =>
    cases hP with
    | cons h r =>
      obtain ⟨i, t1, e1, h2⟩ := h
      cases e1
      exact .cons h2 (ih r)
theorem sum_nums {g : Heap} {L l : Addr} {m : Str → Option Value} {news : List (Addr × Obj)} {vs : List Value} {ds : List WData} {r : WData} (hh : A.handled = none) (F : Fr g L s.heap m) (N : News g L s.heap news) (hl : s.heap.IsList l vs.toArray) (hn : NumsAre vs ds) (hr : Num.sumInts 0 ds = some r)
    (h : ∀ v h' tk', Flt.NumIs v r → Fr g L h' m → News g L h' news → Q v { s with heap := h', toks := tk' }) : wpAny (model prog w) A (call (.builtin "sum") [.ref l]) Q E s := by
  refine Flt.call_sum_walkF hr (Flt.iter_list_ hl fun s₂ e st hfp hlI => ?_)
  subst e
  have W := (Walks.list (prog := prog) (w := w) (A := A.in1) hh _ l hlI vs.toArray).toS
  have hlen : vs.toArray.size = ds.length := by simp [hn.length]
  rw [hlen] at W
  refine ⟨_, _, _, _, _, _, rfl, W, st, hfp, fun i v hP => hn.at i v (by simpa using hP), fun s' v hv hm => ?_⟩
  obtain ⟨hp, g9, d9, tk, os9⟩ := s'
  have kp := Flt.kept_iter hm.heap
  have := h v hp tk hv (F.grownK kp) (N.grown kp)
  have e1 : g9 = s.gens := hm.gens
  have e2 : d9 = s.drawn := hm.drawn
  have e3 : os9 = s.os := hm.os
  subst e1 e2 e3
  exact this
end
end
-- S7
theorem st7 {w p loose mean mg mb} {g : Heap} {L fa Dr Dk Dw : Addr} {ys vs : List Value} {kr kk kw : Nat} {o1 o2 o3 o4 o5 o6 oP : Obj} {s : Shared} {m : Str → Option Value} {size : Int} {t : Tok} {Q : Flow → Shared → Prop} {E : Value → Shared → Prop}
    (G : LawG w p loose mean mg mb g) (F : Fr g L s.heap m) (N : News g L s.heap (lawLed L Dr Dk Dw ys vs kr kk kw o1 o2 o3 o4 o5 o6 oP)) (d1 : o1.data = .cell (some (.int size t)))
    (hq : ∀ h' tk', Fr g L h' (fun z => if z = Str.ofString "kind" then some (.type (if size = 1 then "int" else "float")) else m z) → News g L h' (lawLed L Dr Dk Dw ys vs kr kk kw o1 o2 o3 o4 o5 o6 oP) → Q .next { s with heap := h', toks := tk' }) :
    wpAny (model PG w) (lawA L fa) (exec (lawStmt 7) (lawEnv L fa)) Q E s := by
  obtain ⟨B, X, T⟩ := G
  revert X
  unfold PG
  k_fill
  intro X
  unfold lawLed at *
  ((unfold lawA lawEnv); (conv in (lawStmt _) => whnf); (conv in (occs := *) lawScope => all_goals whnf))
  (repeat' ((fail_if_success (with_reducible show CompToks _ _ _ _ _ _ _ _ _ _ _ _)); (fail_if_success (with_reducible show CompTwo _ _ _ _ _ _ _ _ _ _ _ _ _ _ _ _ _)); (fail_if_success (with_reducible show CompIt _ _ _ _ _ _ _ _ _ _ _ _ _ _)); first | ((with_reducible show wpAny _ _ (subscriptTail _ (PySem.Expr.Slice _ _ none _) (Value.ref _) (Value.ref _)) _ _ _); walk_at "lw_slice") | (walk_at "step")))
  · rename Fr _ _ _ _ => F8
    refine hq _ _ (fr_eq F8 fun z => ?_) (by assumption)
    have hz1 : size = 1 := by first | assumption | omega
    rw [hz1]; rfl
  · rename Fr _ _ _ _ => F8
    refine hq _ _ (fr_eq F8 fun z => ?_) (by assumption)
    have hz1 : ¬ size = 1 := by first | assumption | omega
    rw [if_neg hz1]
section
local macro_rules | `(tactic| walk_at "ls") => `(tactic| repeat' ((fail_if_success (with_reducible refine at_call ?_)); (fail_if_success (with_reducible show CompToks _ _ _ _ _ _ _ _ _ _ _ _)); (fail_if_success (with_reducible show CompIt _ _ _ _ _ _ _ _ _ _ _ _ _ _)); (walk_at "step")))
-- S8
namespace st8a_c
noncomputable def hkS : Prop := ∀ {w p loose mean mg mb} {g : Heap} {L fa Dr Dk Dw : Addr} {ys vs : List Value} {rs rise : List Int} {kr kk kw : Nat} {o1 o2 o3 o4 o5 o6 oP : Obj} {s : Shared} {m : Str → Option Value} {Q : Flow → Shared → Prop} {E : Value → Shared → Prop} (G : LawG w p loose mean mg mb g) (F : Fr g L s.heap m) (N : News g L s.heap (lawLed L Dr Dk Dw ys vs kr kk kw o1 o2 o3 o4 o5 o6 oP)) (d6 : o6.data = .cell (some (.ref Dw))) (hi : IntsAre vs rs) (hy : IntsAre ys rise) (h1 : 1 < rs.length) (h2 : rs.length < 6) (hrl : rise.length = rs.length) (hb : ∀ x ∈ rs, -100000 ≤ x ∧ x ≤ 100000) (hbr : ∀ x ∈ rise, -10000 ≤ x ∧ x ≤ 10000) (mr : m (Str.ofString "rise") = some (.ref Dr)) (mk : m (Str.ofString "kind") = some (.type "float")) (hlaw : ∀ d fs us, d.Perm rs → d.Pairwise (· ≤ ·) → FlAre fs ((rangeKs 1 3).map (qex d 4)) → IntsAre us (cutsOf ([2 * rise.getD 0 0 - rise.getD 1 0] ++ rise ++ [2 * rise.getD (rise.length - 1) 0 - rise.getD (rise.length - 2) 0]) 4) → Told "float" fs us) (hq : ∀ h' tk', Fr g L h' m → News g L h' (lawLed L Dr Dk Dw ys vs kr kk kw o1 o2 o3 o4 o5 o6 oP) → Q .next { s with heap := h', toks := tk' }), wpAny (model PG w) (lawA L fa) (exec (lawStmt 8) (lawEnv L fa)) Q E s
noncomputable def hkK : Σ' P : World → Program → tS → tX → tM → tM → Heap → Addr → Addr → Addr → Addr → Addr → tV → tV → tI → tI → Nat → Nat → Nat → Obj → Obj → Obj → Obj → Obj → Obj → Obj → Shared → tM → Prop, (∀ a b c d e f g h i j k l m n o p q r s t u v w x y z xa xb, P a b c d e f g h i j k l m n o p q r s t u v w x y z xa xb) → hkS := ⟨_, fun hk9 => by intro w p loose mean mg mb g L fa Dr Dk Dw ys vs rs rise kr kk kw o1 o2 o3 o4 o5 o6 oP s m Q E G F N d6 hi hy h1 h2 hrl hb hbr mr mk hlaw hq; revert hq; revert hlaw; revert mk; revert mr; revert hbr; revert hb; revert hrl; revert h2; revert h1; revert hy; revert hi; revert d6; revert N; revert F; revert G; revert E; revert Q; apply (hk9 w p loose mean mg mb g L fa Dr Dk Dw ys vs rs rise kr kk kw o1 o2 o3 o4 o5 o6 oP s m)⟩
namespace Z9
noncomputable def hkP (y : VV) := hkK.1 (y.W 0) (y.P 0) (y.S 0) (y.X 0) (y.M 0) (y.M 1) (y.H 0) (y.N 0) (y.N 1) (y.N 2) (y.N 3) (y.N 4) (y.L 0) (y.L 1) (y.I 0) (y.I 1) (y.N 5) (y.N 6) (y.N 7) (y.O 0) (y.O 1) (y.O 2) (y.O 3) (y.O 4) (y.O 5) (y.O 6) (y.R 0) (y.M 2)
@[irreducible] noncomputable def hkG1 := epsV0 hkP
@[irreducible] def p : Program := hkG1.P 0
@[irreducible] def rise : tI := hkG1.I 1
theorem hkM : hkP hkG1 := (by exact @wI _ _ : @wT (hkP hkG1) (by
  with_unfolding_all show hkK.1 (hkG1.W 0) p (hkG1.S 0) (hkG1.X 0) (hkG1.M 0) (hkG1.M 1) (hkG1.H 0) (hkG1.N 0) (hkG1.N 1) (hkG1.N 2) (hkG1.N 3) (hkG1.N 4) (hkG1.L 0) (hkG1.L 1) (hkG1.I 0) rise (hkG1.N 5) (hkG1.N 6) (hkG1.N 7) (hkG1.O 0) (hkG1.O 1) (hkG1.O 2) (hkG1.O 3) (hkG1.O 4) (hkG1.O 5) (hkG1.O 6) (hkG1.R 0) (hkG1.M 2)
  intro Q E G F N d6 hi hy h1 h2 hrl hb hbr mr mk hlaw hq
  have F1 := fr_know (fr_know F mk) (show (fun z => if z = Str.ofString "kind" then some (Value.type "float") else (hkG1.M 2) z) (Str.ofString "rise") = some (.ref (hkG1.N 2)) from mr)
  clear F
  obtain ⟨B9, X9, T9⟩ := G
  revert X9
  unfold PG
  k_fill
  intro X9
  unfold lawLed at *
  ((unfold lawA lawEnv); (conv in (lawStmt _) => whnf); (conv in (occs := *) lawScope => all_goals whnf))
  walk_at "ls"
  k_dflt refine quant_d (hkG1.W 0) p (hkG1.S 0) (hkG1.X 0) (hkG1.M 0) (hkG1.M 1) _ (hkG1.N 4) (hkG1.L 1) (hkG1.I 0) (isList_of (N.get (by k_mem))) hi h1 h2 hb _ _ _ _ _ _ _ _ _ callerA (hkG1.H 0) (hkG1.H 0) (hkG1.N 0) _ _ _ B9 F1 X9 T9 (by rfl) (by ktr_room) (by ktr_units) ?_
  rintro v h3 tk3 st3 ⟨r3, fs, c3, d, rfl, hr0, hr3, hd1, hd2, hf⟩
  have F3 := F1.keeps st3
  have N3 := news_add F1 N st3 hr0 hr3
  clear F1 N
  walk_at "ls"
  k_dflt refine wide_t (hkG1.W 0) p (hkG1.S 0) (hkG1.X 0) (hkG1.M 0) (hkG1.M 1) _ (hkG1.N 2) (hkG1.L 0) rise (isList_of (N3.get (by k_mem))) hy (by omega) (by omega) (fun x hx => by have := hbr x hx; omega) _ _ _ _ _ _ _ _ _ callerA (hkG1.H 0) (hkG1.H 0) (hkG1.N 0) _ _ _ B9 F3 X9 T9 (by rfl) (by ktr_room) (by ktr_units) ?_
  rintro v h4 tk4 st4 ⟨r4, ws, c4, rfl, hr0', hr4, hw⟩
  have F4 := F3.keeps st4
  have N4 := news_add F3 N3 st4 hr0' hr4
  clear F3 N3
  walk_at "ls"
  have hwb : ∀ x ∈ [2 * rise.getD 0 0 - rise.getD 1 0] ++ rise ++ [2 * rise.getD (rise.length - 1) 0 - rise.getD (rise.length - 2) 0], -100000 ≤ x ∧ x ≤ 100000 := by
    have hg : ∀ j, -10000 ≤ rise.getD j 0 ∧ rise.getD j 0 ≤ 10000 := fun j => getD_bnd (by decide) hbr j
    intro x hx
    rcases List.mem_append.mp hx with hx | hx
    · rcases List.mem_append.mp hx with hx | hx
      · rw [List.mem_singleton.mp hx]; have := hg 0; have := hg 1; omega
      · have := hbr x hx; omega
    · rw [List.mem_singleton.mp hx]; have := hg (rise.length - 1); have := hg (rise.length - 2); omega
  k_dflt refine cuts_t (hkG1.W 0) p (hkG1.S 0) (hkG1.X 0) (hkG1.M 0) (hkG1.M 1) _ r4 ws _ 4 _ (isList_of (N4.get (by k_mem))) hw ?_ ?_ (by decide) (by decide) hwb _ _ _ _ _ _ _ _ _ callerA (hkG1.H 0) (hkG1.H 0) (hkG1.N 0) _ _ _ B9 F4 X9 T9 (by rfl) (by ktr_room) (by ktr_units) ?_
  · simp only [List.length_append, List.length_cons, List.length_nil]; omega
  · simp only [List.length_append, List.length_cons, List.length_nil]; omega
  rintro v h5 tk5 st5 ⟨r5, us, c5, rfl, hr0', hr5, hu⟩
  have F5 := F4.keeps st5
  have N5 := news_add F4 N4 st5 hr0' hr5
  clear F4 N4
  walk_at "ls"
  k_dflt refine told_t (hkG1.W 0) p (hkG1.S 0) (hkG1.X 0) (hkG1.M 0) (hkG1.M 1) _ r3 r5 fs us "float" (isList_of (N5.get (by k_mem))) (isList_of (N5.get (by k_mem))) ?_ (hlaw d fs us hd1 hd2 hf hu) _ _ _ _ _ _ _ _ _ callerA (hkG1.H 0) (hkG1.H 0) (hkG1.N 0) _ _ _ B9 F5 X9 T9 (by rfl) (by ktr_room) (by ktr_units) ?_
  · rw [hf.length]; simp [rangeKs_length]
  rintro v h6 tk6 st6 rfl
  have F6 := F5.keeps st6
  have N6 := N5.grown st6
  clear F5 N5
  walk_at "ls"
  k_dflt refine unknown_t (hkG1.W 0) p (hkG1.S 0) (hkG1.X 0) (hkG1.M 0) (hkG1.M 1) _ (hkG1.N 4) (hkG1.L 1) (hkG1.I 0) (isList_of (N6.get (by k_mem))) hi (by omega) h2 _ _ _ _ _ _ _ _ [] callerA (hkG1.H 0) (hkG1.H 0) (hkG1.N 0) _ _ _ B9 F6 News.nil X9 T9 ktsDicts_nil (by rfl) (by ktr_room) (by ktr_units) ?_
  rintro v h7 tk7 g7 T7 S7 rfl
  obtain ⟨F7, N7, up7⟩ := turn_nil (fa := (hkG1.N 1)) B9 F6 N6 T7 S7
  clear F6 N6
  walk_at "ls"
  refine hq _ _ (fr_eq F7 ?_) (N7.perm fun p hp => .tail _ (.tail _ (.tail _ hp)))
  (intro z; (try dsimp only); repeat' split; all_goals first | rfl | (subst_vars; (try simp only [if_true]); first | rfl | assumption | (symm; assumption) | simp_all) | simp_all)
  ))
end Z9
theorem hkT : hkS := no_implicit_lambda% (@hkapp _ _ hkK.2 (fun a b c d e f g h i j k l m n o p q r s t u v w x y z xa xb => @epsV Z9.hkP (by with_unfolding_all exact Z9.hkM) (vv e9E e9C e9T e9K e9A (lk [d] d9X) (lk [c] d9S) e9G (lk [a] d9W) (lk [b] d9P) e9Q (lk [xa] d9R) e9V e9Z (lk [o, p] d9I) (lk [m, n] d9L) (lk [e, f, xb] d9M) (lk [g] d9H) (lk [t, u, v, w, x, y, z] d9O) (lk [h, i, j, k, l, q, r, s] d9N))))
end st8a_c
theorem st8a : st8a_c.hkS := @st8a_c.hkT
-- S8b
namespace st8b_c
noncomputable def hkS : Prop := ∀ {w p loose mean mg mb} {g : Heap} {L fa Dr Dk Dw : Addr} {ys vs : List Value} {rs rise : List Int} {kr kk kw : Nat} {o1 o2 o3 o4 o5 o6 oP : Obj} {s : Shared} {m : Str → Option Value} {Q : Flow → Shared → Prop} {E : Value → Shared → Prop} (G : LawG w p loose mean mg mb g) (F : Fr g L s.heap m) (N : News g L s.heap (lawLed L Dr Dk Dw ys vs kr kk kw o1 o2 o3 o4 o5 o6 oP)) (d6 : o6.data = .cell (some (.ref Dw))) (hi : IntsAre vs rs) (hy : IntsAre ys rise) (h1 : rs.length = 1) (hrl : rise.length = rs.length) (hb : ∀ x ∈ rs, -100000 ≤ x ∧ x ≤ 100000) (hbr : ∀ x ∈ rise, -10000 ≤ x ∧ x ≤ 10000) (mr : m (Str.ofString "rise") = some (.ref Dr)) (mk : m (Str.ofString "kind") = some (.type "int")) (hlaw : ∀ fs us, IntsAre fs (List.replicate 3 (rs.getD 0 0)) → IntsAre us (cutsOf rise 4) → Told "int" fs us) (hq : ∀ h' tk', Fr g L h' m → News g L h' (lawLed L Dr Dk Dw ys vs kr kk kw o1 o2 o3 o4 o5 o6 oP) → Q .next { s with heap := h', toks := tk' }), wpAny (model PG w) (lawA L fa) (exec (lawStmt 8) (lawEnv L fa)) Q E s
noncomputable def hkK : Σ' P : World → Program → tS → tX → tM → tM → Heap → Addr → Addr → Addr → Addr → Addr → tV → tV → tI → tI → Nat → Nat → Nat → Obj → Obj → Obj → Obj → Obj → Obj → Obj → Shared → tM → Prop, (∀ a b c d e f g h i j k l m n o p q r s t u v w x y z xa xb, P a b c d e f g h i j k l m n o p q r s t u v w x y z xa xb) → hkS := ⟨_, fun hk9 => by intro w p loose mean mg mb g L fa Dr Dk Dw ys vs rs rise kr kk kw o1 o2 o3 o4 o5 o6 oP s m Q E G F N d6 hi hy h1 hrl hb hbr mr mk hlaw hq; revert hq; revert hlaw; revert mk; revert mr; revert hbr; revert hb; revert hrl; revert h1; revert hy; revert hi; revert d6; revert N; revert F; revert G; revert E; revert Q; apply (hk9 w p loose mean mg mb g L fa Dr Dk Dw ys vs rs rise kr kk kw o1 o2 o3 o4 o5 o6 oP s m)⟩
namespace Z9
noncomputable def hkP (y : VV) := hkK.1 (y.W 0) (y.P 0) (y.S 0) (y.X 0) (y.M 0) (y.M 1) (y.H 0) (y.N 0) (y.N 1) (y.N 2) (y.N 3) (y.N 4) (y.L 0) (y.L 1) (y.I 0) (y.I 1) (y.N 5) (y.N 6) (y.N 7) (y.O 0) (y.O 1) (y.O 2) (y.O 3) (y.O 4) (y.O 5) (y.O 6) (y.R 0) (y.M 2)
@[irreducible] noncomputable def hkG1 := epsV0 hkP
@[irreducible] def p : Program := hkG1.P 0
theorem hkM : hkP hkG1 := (by exact @wI _ _ : @wT (hkP hkG1) (by
  with_unfolding_all show hkK.1 (hkG1.W 0) p (hkG1.S 0) (hkG1.X 0) (hkG1.M 0) (hkG1.M 1) (hkG1.H 0) (hkG1.N 0) (hkG1.N 1) (hkG1.N 2) (hkG1.N 3) (hkG1.N 4) (hkG1.L 0) (hkG1.L 1) (hkG1.I 0) (hkG1.I 1) (hkG1.N 5) (hkG1.N 6) (hkG1.N 7) (hkG1.O 0) (hkG1.O 1) (hkG1.O 2) (hkG1.O 3) (hkG1.O 4) (hkG1.O 5) (hkG1.O 6) (hkG1.R 0) (hkG1.M 2)
  intro Q E G F N d6 hi hy h1 hrl hb hbr mr mk hlaw hq
  have F1 := fr_know (fr_know F mk) (show (fun z => if z = Str.ofString "kind" then some (Value.type "int") else (hkG1.M 2) z) (Str.ofString "rise") = some (.ref (hkG1.N 2)) from mr)
  clear F
  obtain ⟨B9, X9, T9⟩ := G
  revert X9
  unfold PG
  k_fill
  intro X9
  unfold lawLed at *
  ((unfold lawA lawEnv); (conv in (lawStmt _) => whnf); (conv in (occs := *) lawScope => all_goals whnf))
  walk_at "ls"
  k_dflt refine quant_1d (hkG1.W 0) p (hkG1.S 0) (hkG1.X 0) (hkG1.M 0) (hkG1.M 1) _ (hkG1.N 4) (hkG1.L 1) (hkG1.I 0) (isList_of (N.get (by k_mem))) hi h1 _ _ _ _ _ _ _ _ _ callerA (hkG1.H 0) (hkG1.H 0) (hkG1.N 0) _ _ _ B9 F1 X9 T9 (by rfl) (by ktr_room) (by ktr_units) ?_
  rintro v h3 tk3 st3 ⟨r3, fs, c3, rfl, hr0, hr3, hf⟩
  have F3 := F1.keeps st3
  have N3 := news_add F1 N st3 hr0 hr3
  clear F1 N
  walk_at "ls"
  k_dflt refine wide_1 (hkG1.W 0) p (hkG1.S 0) (hkG1.X 0) (hkG1.M 0) (hkG1.M 1) _ (hkG1.N 2) (hkG1.L 0) (hkG1.I 1) (isList_of (N3.get (by k_mem))) hy (by omega) _ _ _ _ _ _ _ _ _ callerA (hkG1.H 0) (hkG1.H 0) (hkG1.N 0) _ _ _ B9 F3 X9 T9 (by rfl) (by ktr_room) (by ktr_units) ?_
  rintro v h4 tk4 st4 rfl
  have F4 := F3.keeps st4
  have N4 := N3.grown st4
  clear F3 N3
  walk_at "ls"
  k_dflt refine cuts_t (hkG1.W 0) p (hkG1.S 0) (hkG1.X 0) (hkG1.M 0) (hkG1.M 1) _ (hkG1.N 2) (hkG1.L 0) _ 4 _ (isList_of (N4.get (by k_mem))) hy (by omega) (by omega) (by decide) (by decide) (fun x hx => by have := hbr x hx; omega) _ _ _ _ _ _ _ _ _ callerA (hkG1.H 0) (hkG1.H 0) (hkG1.N 0) _ _ _ B9 F4 X9 T9 (by rfl) (by ktr_room) (by ktr_units) ?_
  rintro v h5 tk5 st5 ⟨r5, us, c5, rfl, hr0', hr5, hu⟩
  have F5 := F4.keeps st5
  have N5 := news_add F4 N4 st5 hr0' hr5
  clear F4 N4
  walk_at "ls"
  k_dflt refine told_t (hkG1.W 0) p (hkG1.S 0) (hkG1.X 0) (hkG1.M 0) (hkG1.M 1) _ r3 r5 fs us "int" (isList_of (N5.get (by k_mem))) (isList_of (N5.get (by k_mem))) ?_ (hlaw fs us hf hu) _ _ _ _ _ _ _ _ _ callerA (hkG1.H 0) (hkG1.H 0) (hkG1.N 0) _ _ _ B9 F5 X9 T9 (by rfl) (by ktr_room) (by ktr_units) ?_
  · rw [hf.length]; simp
  rintro v h6 tk6 st6 rfl
  have F6 := F5.keeps st6
  have N6 := N5.grown st6
  clear F5 N5
  walk_at "ls"
  k_dflt refine unknown_t (hkG1.W 0) p (hkG1.S 0) (hkG1.X 0) (hkG1.M 0) (hkG1.M 1) _ (hkG1.N 4) (hkG1.L 1) (hkG1.I 0) (isList_of (N6.get (by k_mem))) hi (by omega) (by omega) _ _ _ _ _ _ _ _ [] callerA (hkG1.H 0) (hkG1.H 0) (hkG1.N 0) _ _ _ B9 F6 News.nil X9 T9 ktsDicts_nil (by rfl) (by ktr_room) (by ktr_units) ?_
  rintro v h7 tk7 g7 T7 S7 rfl
  obtain ⟨F7, N7, up7⟩ := turn_nil (fa := (hkG1.N 1)) B9 F6 N6 T7 S7
  clear F6 N6
  walk_at "ls"
  refine hq _ _ (fr_eq F7 ?_) (N7.perm fun p hp => .tail _ (.tail _ hp))
  (intro z; (try dsimp only); repeat' split; all_goals first | rfl | (subst_vars; (try simp only [if_true]); first | rfl | assumption | (symm; assumption) | simp_all) | simp_all)
  ))
end Z9
theorem hkT : hkS := no_implicit_lambda% (@hkapp _ _ hkK.2 (fun a b c d e f g h i j k l m n o p q r s t u v w x y z xa xb => @epsV Z9.hkP (by with_unfolding_all exact Z9.hkM) (vv e9E e9C e9T e9K e9A (lk [d] d9X) (lk [c] d9S) e9G (lk [a] d9W) (lk [b] d9P) e9Q (lk [xa] d9R) e9V e9Z (lk [o, p] d9I) (lk [m, n] d9L) (lk [e, f, xb] d9M) (lk [g] d9H) (lk [t, u, v, w, x, y, z] d9O) (lk [h, i, j, k, l, q, r, s] d9N))))
end st8b_c
theorem st8b : st8b_c.hkS := @st8b_c.hkT
-- RF
namespace refused_q_c
noncomputable def hkS : Prop := ∀ (w p loose mean mg mb) (s : Shared) (f a c4 c6 l : Addr) (oc o4 o6 : Obj) (pm ctv : Value) (qual : Str) (k : Int) (tv : Tok) (hk : k < 1) (d4 : o4.data = .cell (some (.int k tv))) (d6 : o6.data = .cell (some (.ref l))) (hoc : CodeOk qual oc) {g9 : Heap} (C9 : CodeHd g9 355 353) (e1 : @LT.lt Nat _ c4 c6) (e2 : @LT.lt Nat _ c6 a) (e3 : @LT.lt Nat _ a f), MutS w p loose mean mg mb 322 [.ref f] [] s [(f, kla_obj (Str.ofString "<lambda>") qual lam9.1 lam9.2.1 lam9.2.2 [(Str.ofString "row", c6), (Str.ofString "parts", c4)] pm a ctv), (a, oc), (c4, o4), (c6, o6)] 16 300
      (fun h v => v = .bool true ∧ At h [(f, kla_obj (Str.ofString "<lambda>") qual lam9.1 lam9.2.1 lam9.2.2 [(Str.ofString "row", c6), (Str.ofString "parts", c4)] pm a ctv), (a, oc), (c4, o4), (c6, o6)])
noncomputable def hkK : Σ' P : World → Program → tS → tX → tM → tM → Shared → Addr → Addr → Addr → Addr → Addr → Obj → Obj → Obj → Value → Value → Str → Tok → Heap → Nat → Nat → tC → Str → Scope → Addr → Value → tA → tE → Around → Heap → Heap → Addr → tM → Prop, (∀ a b c d e f g h i j k l m n o p q r s t u v w x y z xa xb xc xd xe xf xg xh, P a b c d e f g h i j k l m n o p q r s t u v w x y z xa xb xc xd xe xf xg xh) → hkS := ⟨_, fun hk9 => by intro w p loose mean mg mb s f a c4 c6 l oc o4 o6 pm ctv qual k tv hk d4 d6 hoc g9 C9 e1 e2 e3 dp un gd cn cs a9 ccd cl outer A₀ base h₀ L m; revert e3; revert e2; revert e1; revert C9; revert hoc; revert d6; revert d4; revert hk; revert k; apply (hk9 w p loose mean mg mb s f a c4 c6 l oc o4 o6 pm ctv qual tv g9 dp un gd cn cs a9 ccd cl outer A₀ base h₀ L m)⟩
namespace Z9
noncomputable def hkP (y : VV) := hkK.1 (y.W 0) (y.P 0) (y.S 0) (y.X 0) (y.M 0) (y.M 1) (y.R 0) (y.N 0) (y.N 1) (y.N 2) (y.N 3) (y.N 4) (y.O 0) (y.O 1) (y.O 2) (y.V 0) (y.V 1) (y.G 0) (y.N 5) (y.H 0) (y.N 6) (y.N 7) (y.C 0) (y.G 1) (y.K 0) (y.N 8) (y.V 2) (y.T 0) (y.E 0) (y.A 0) (y.H 1) (y.H 2) (y.N 9) (y.M 2)
@[irreducible] noncomputable def hkG1 := epsV0 hkP
@[irreducible] def f : Addr := hkG1.N 0
@[irreducible] def c4 : Addr := hkG1.N 2
theorem hkM : hkP hkG1 := (by exact @wI _ _ : @wT (hkP hkG1) (by
  with_unfolding_all show hkK.1 (hkG1.W 0) (hkG1.P 0) (hkG1.S 0) (hkG1.X 0) (hkG1.M 0) (hkG1.M 1) (hkG1.R 0) f (hkG1.N 1) c4 (hkG1.N 3) (hkG1.N 4) (hkG1.O 0) (hkG1.O 1) (hkG1.O 2) (hkG1.V 0) (hkG1.V 1) (hkG1.G 0) (hkG1.N 5) (hkG1.H 0) (hkG1.N 6) (hkG1.N 7) (hkG1.C 0) (hkG1.G 1) (hkG1.K 0) (hkG1.N 8) (hkG1.V 2) (hkG1.T 0) (hkG1.E 0) (hkG1.A 0) (hkG1.H 1) (hkG1.H 2) (hkG1.N 9) (hkG1.M 2)
  intro k hk d4 d6 hoc C9 e1 e2 e3
  unfold MutSC PG
  k_fill
  (conv in (occs := *) lam9 => all_goals whnf)
  (try dsimp only)
  intro Q E B F N X T D hk9 hd hu hret
  refine wpAny_call ?_
  k_dflt (refine call_turn ?_; k_whole; intro _ _ _ _ _ _ _ _ _ _; (try dsimp only); (try k_fold))
  obtain ⟨vs9, t9, d7, d8⟩ := hoc
  (rename _ = hideAll _ _ => eg)
  rw [← eg] at hret; clear eg
  (with_reducible rename Fr _ _ _ _ => F9)
  have F10 : Fr _ _ _ (fun y => List.lookup y ([(Str.ofString "ask", Value.ref f)] : List (Str × Value))) := F9
  clear F9
  (repeat' ((fail_if_success (with_reducible show wpAny _ _ (callWith _ (Value.ref _) _ _ _) _ _ _)); (walk_at "step")))
  (rename KtsDicts _ _ => D9)
  walk_at "callWith ref"
  k_dflt (refine wpAny_call ?_)
  k_dflt (refine' kla_code ?k1 ?k2 ?k3 ?k4 ?k5 ?kA ?kF ?kK ?k6 ?k7 ?k8 ?k9 ?kB ?_ ?c2 ?c3 ?c4 ?c5; (case kA => exact rfl); (case kF => exact rfl); (case kK => exact rfl); (case k1 => k_asm); (case k2 => k_asm); (case k3 => k_asm); (case k4 => k_asm); (case k5 => k_asm); (case k6 => k_mem); (case k7 => exact codeRec_news (by k_asm) (by k_mem) (by assumption) (by assumption)); (case k8 => k_room); (case k9 => exact rfl); (case c5 => decide); (case kB => exact locs rfl); (case c2 => exact rfl); (case c3 => exact rfl); (case c4 => exact rfl); k_whole; intro g5 L5 h5 FG5 F5 N5 B5 X5 T5; (try dsimp only); (try k_lift B5); (try k_fold))
  have D5 := dicts_ofB B5 FG5 D9 rfl
  walk_at "go"
  (with_reducible rename RaisedK _ _ _ _ _ _ _ _ => R7); clear R7
  (with_reducible rename RaisedS _ _ _ _ _ _ _ _ _ => S7); (with_reducible rename Heap.UpToSlots _ _ => U7)
  k_dflt (refine' leave_onSX ?f ?K ?F S7 U7 ?_; (case f => exact rfl); (case K => exact B5); (case F => assumption))
  intro h8 S8 U8
  clear S7 U7
  (try dsimp only at S8 U8 ⊢)
  walk_at "go"
  show Q _ _
  (rename News _ _ _ _ => N8); (rename Fr _ _ _ _ => F8); (rename KtsTurn _ _ _ => T8)
  exact hret _ _ _ _ T8 F8.keep ⟨rfl, fun q hq => (N8 q hq).1⟩
  ))
end Z9
theorem hkT : hkS := no_implicit_lambda% (@hkapp _ _ hkK.2 (fun a b c d e f g h i j k l m n o p q r s t u v w x y z xa xb xc xd xe xf xg xh => @epsV Z9.hkP (by with_unfolding_all exact Z9.hkM) (vv (lk [xc] d9E) (lk [w] d9C) (lk [xb] d9T) (lk [y] d9K) (lk [xd] d9A) (lk [d] d9X) (lk [c] d9S) (lk [r, x] d9G) (lk [a] d9W) (lk [b] d9P) e9Q (lk [g] d9R) (lk [p, q, xa] d9V) e9Z e9I e9L (lk [e, f, xh] d9M) (lk [t, xe, xf] d9H) (lk [m, n, o] d9O) (lk [h, i, j, k, l, s, u, v, z, xg] d9N))))
end refused_q_c
theorem refused_q : refused_q_c.hkS := @refused_q_c.hkT
-- S10
namespace st10_c
noncomputable def hkS : Prop := ∀ {w p loose mean mg mb} {g : Heap} {L fa Dr Dk Dw : Addr} {ys vs : List Value} {rs rise : List Int} {kr kk kw : Nat} {o1 o2 o3 o4 o5 o6 oP : Obj} {s : Shared} {m : Str → Option Value} {Q : Flow → Shared → Prop} {E : Value → Shared → Prop} (G : LawG w p loose mean mg mb g) (F : Fr g L s.heap m) (N : News g L s.heap (lawLed L Dr Dk Dw ys vs kr kk kw o1 o2 o3 o4 o5 o6 oP)) (d6 : o6.data = .cell (some (.ref Dw))) {size : Int} {ts : Tok} (d1 : o1.data = .cell (some (.int size ts))) (hi : IntsAre vs rs) (h1 : 0 < rs.length) (h2 : rs.length < 6) (hsz : size = rs.length) (hb : ∀ x ∈ rs, -100000 ≤ x ∧ x ≤ 100000) (hne : 0 < (rs.filter (fun v => decide (size ≤ 2 * ((rs.filter fun w => decide (w ≤ v)).length : Int)))).length) (hq : ∀ h' tk' (M : Int) (t : Tok), M ∈ rs.filter (fun v => decide (size ≤ 2 * ((rs.filter fun w => decide (w ≤ v)).length : Int))) → (∀ a ∈ rs.filter (fun v => decide (size ≤ 2 * ((rs.filter fun w => decide (w ≤ v)).length : Int))), M ≤ a) → Fr g L h' (fun z => if z = Str.ofString "low" then some (.int M t) else m z) → News g L h' (lawLed L Dr Dk Dw ys vs kr kk kw o1 o2 o3 o4 o5 o6 oP) → Q .next { s with heap := h', toks := tk' }), wpAny (model PG w) (lawA L fa) (exec (lawStmt 10) (lawEnv L fa)) Q E s
noncomputable def hkK : Σ' P : World → Program → tS → tX → tM → tM → Heap → Addr → Addr → Addr → Addr → Addr → tV → tV → tI → tI → Nat → Nat → Nat → Obj → Obj → Obj → Obj → Obj → Obj → Obj → Shared → tM → Int → Tok → Prop, (∀ a b c d e f g h i j k l m n o p q r s t u v w x y z xa xb xc xd, P a b c d e f g h i j k l m n o p q r s t u v w x y z xa xb xc xd) → hkS := ⟨_, fun hk9 => by intro w p loose mean mg mb g L fa Dr Dk Dw ys vs rs rise kr kk kw o1 o2 o3 o4 o5 o6 oP s m Q E G F N d6 size ts d1 hi h1 h2 hsz hb hne hq; revert hq; revert hne; revert hb; revert hsz; revert h2; revert h1; revert hi; revert d1; revert d6; revert N; revert F; revert G; revert E; revert Q; apply (hk9 w p loose mean mg mb g L fa Dr Dk Dw ys vs rs rise kr kk kw o1 o2 o3 o4 o5 o6 oP s m size ts)⟩
namespace Z9
noncomputable def hkP (y : VV) := hkK.1 (y.W 0) (y.P 0) (y.S 0) (y.X 0) (y.M 0) (y.M 1) (y.H 0) (y.N 0) (y.N 1) (y.N 2) (y.N 3) (y.N 4) (y.L 0) (y.L 1) (y.I 0) (y.I 1) (y.N 5) (y.N 6) (y.N 7) (y.O 0) (y.O 1) (y.O 2) (y.O 3) (y.O 4) (y.O 5) (y.O 6) (y.R 0) (y.M 2) (y.Z 0) (y.N 8)
@[irreducible] noncomputable def hkG1 := epsV0 hkP
@[irreducible] def w : World := hkG1.W 0
@[irreducible] def p : Program := hkG1.P 0
@[irreducible] def Dw : Addr := hkG1.N 4
@[irreducible] def vs : tV := hkG1.L 1
@[irreducible] def rs : tI := hkG1.I 0
@[irreducible] def size : Int := hkG1.Z 0
theorem hkM : hkP hkG1 := (by exact @wI _ _ : @wT (hkP hkG1) (by
  with_unfolding_all show hkK.1 w p (hkG1.S 0) (hkG1.X 0) (hkG1.M 0) (hkG1.M 1) (hkG1.H 0) (hkG1.N 0) (hkG1.N 1) (hkG1.N 2) (hkG1.N 3) Dw (hkG1.L 0) vs rs (hkG1.I 1) (hkG1.N 5) (hkG1.N 6) (hkG1.N 7) (hkG1.O 0) (hkG1.O 1) (hkG1.O 2) (hkG1.O 3) (hkG1.O 4) (hkG1.O 5) (hkG1.O 6) (hkG1.R 0) (hkG1.M 2) size (hkG1.N 8)
  intro Q E G F N d6 d1 hi h1 h2 hsz hb hne hq
  obtain ⟨B9, X9, T9⟩ := G
  revert X9
  unfold PG
  k_fill
  intro X9
  unfold lawLed at *
  ((unfold lawA lawEnv); (conv in (lawStmt _) => whnf); (conv in (occs := *) lawScope => all_goals whnf))
  walk_at "ls"
  k_dflt refine comp_cell (fun v => decide (size ≤ 2 * ((rs.filter fun w => decide (w ≤ v)).length : Int))) (by rfl) (by rfl) (by intro n; rfl) (by intro h; rfl) (by rfl) (by decide) (by intro C c; rfl) (by decide) ?_
  walk_at "ls"
  refine ⟨Dw, vs, rs, rfl, isList_of (N.get (by k_mem)), hi, by omega, ?_, ?_⟩
  · intro C c o n t s₃ m₃ E' hn hns hC hc ho hd st
    have F3 := F.keeps st
    have N3 := N.grown st
    have grow := st _ _ (N.get (a := (hkG1.N 0) + 1 + 1 + 1 + 1 + 1 + 1) (o := (hkG1.O 5)) (by k_mem))
    have gsz := st _ _ (N.get (a := (hkG1.N 0) + 1) (o := (hkG1.O 0)) (by k_mem))
    have hlr : s₃.heap.IsList Dw vs.toArray := isList_of (N3.get (by k_mem))
    walk_at "ls"
    k_dflt refine comp_free (intP fun w => decide (w ≤ n)) (fun v y => y = v) (by rfl) (by decide) (by rfl) (by decide) (by rfl) ?_
    walk_at "ls"
    k_dflt refine' comp_iter_list (L := (hkG1.N 0)) (m := (hkG1.M 2)) (news := _) ?hh ?hF ?hN ?hl ?hz ?_ ?_ ?_
    case hF => exact F3
    case hN => exact N3
    case hh => rfl
    case hl => exact hlr
    case hz => rw [List.size_toArray, hi.length]; exact Nat.le_trans (Nat.le_of_lt h2) (by decide)
    · intro C v s₄ m₄ E' hv hn4 hm st4
      obtain ⟨w1, t1, hw1, rfl⟩ := ints_mem hi v (by simpa using hv)
      have hbw := hb w1 hw1
      have gv := st4 _ _ ho
      refine wpAny_tests_one ?_
      walk_at "ls"
      all_goals first | exact keeps_toks _ _ | exact keeps_refl _ | exact ⟨rfl, keeps_toks _ _⟩ | exact ⟨rfl, keeps_refl _⟩ | exact rfl
    · intro C v s₄ m₄ E' hv _ hn4 hm st4
      walk_at "ls"
      all_goals first | exact keeps_refl _ | exact ⟨rfl, keeps_refl _⟩ | exact ⟨rfl, keeps_toks _ _⟩
    intro aD h' tk' ays n' aF aN ane ast aP
    have ae := paired_eq aP
    have al : ays.length = (rs.filter fun w => decide (w ≤ n)).length := by rw [ae]; exact filter_intP hi
    have ab : ays.length < 6 := by rw [al]; exact Nat.lt_of_le_of_lt (List.length_filter_le _ _) h2
    have gsz4 := ast _ _ gsz
    clear aP ae F3 N3
    walk_at "ls"
    · rw [al]
    · exact ⟨_, _, rfl, ast⟩
  · intro D h' tk k ys' hD eD hys st
    have F4 := F.keeps st
    have N4 := news_fresh F N st hD eD
    clear F N
    walk_at "ls"
    (rename Fr _ _ _ _ => F6); (rename News _ _ _ _ => N6)
    exact hq _ _ _ _ (by assumption) (by assumption) F6 (N6.perm fun p hp => .tail _ hp)
  ))
end Z9
theorem hkT : hkS := no_implicit_lambda% (@hkapp _ _ hkK.2 (fun a b c d e f g h i j k l m n o p q r s t u v w x y z xa xb xc xd => @epsV Z9.hkP (by with_unfolding_all exact Z9.hkM) (vv e9E e9C e9T e9K e9A (lk [d] d9X) (lk [c] d9S) e9G (lk [a] d9W) (lk [b] d9P) e9Q (lk [xa] d9R) e9V (lk [xc] d9Z) (lk [o, p] d9I) (lk [m, n] d9L) (lk [e, f, xb] d9M) (lk [g] d9H) (lk [t, u, v, w, x, y, z] d9O) (lk [h, i, j, k, l, q, r, s, xd] d9N))))
end st10_c
theorem st10 : st10_c.hkS := @st10_c.hkT
-- S11
namespace st11_c
noncomputable def hkS : Prop := ∀ {w p loose mean mg mb} {g : Heap} {L fa Dr Dk Dw : Addr} {ys vs : List Value} {rs rise : List Int} {kr kk kw : Nat} {o1 o2 o3 o4 o5 o6 oP : Obj} {s : Shared} {m : Str → Option Value} {Q : Flow → Shared → Prop} {E : Value → Shared → Prop} (G : LawG w p loose mean mg mb g) (F : Fr g L s.heap m) (N : News g L s.heap (lawLed L Dr Dk Dw ys vs kr kk kw o1 o2 o3 o4 o5 o6 oP)) (d6 : o6.data = .cell (some (.ref Dw))) {size : Int} {ts : Tok} (d1 : o1.data = .cell (some (.int size ts))) (hi : IntsAre vs rs) (h1 : 0 < rs.length) (h2 : rs.length < 6) (hsz : size = rs.length) (hb : ∀ x ∈ rs, -100000 ≤ x ∧ x ≤ 100000) (hne : 0 < (rs.filter (fun v => decide (size ≤ 2 * ((rs.filter fun w => decide (v ≤ w)).length : Int)))).length) (hq : ∀ h' tk' (M : Int) (t : Tok), M ∈ rs.filter (fun v => decide (size ≤ 2 * ((rs.filter fun w => decide (v ≤ w)).length : Int))) → (∀ a ∈ rs.filter (fun v => decide (size ≤ 2 * ((rs.filter fun w => decide (v ≤ w)).length : Int))), a ≤ M) → Fr g L h' (fun z => if z = Str.ofString "high" then some (.int M t) else m z) → News g L h' (lawLed L Dr Dk Dw ys vs kr kk kw o1 o2 o3 o4 o5 o6 oP) → Q .next { s with heap := h', toks := tk' }), wpAny (model PG w) (lawA L fa) (exec (lawStmt 11) (lawEnv L fa)) Q E s
noncomputable def hkK : Σ' P : World → Program → tS → tX → tM → tM → Heap → Addr → Addr → Addr → Addr → Addr → tV → tV → tI → tI → Nat → Nat → Nat → Obj → Obj → Obj → Obj → Obj → Obj → Obj → Shared → tM → Int → Tok → Prop, (∀ a b c d e f g h i j k l m n o p q r s t u v w x y z xa xb xc xd, P a b c d e f g h i j k l m n o p q r s t u v w x y z xa xb xc xd) → hkS := ⟨_, fun hk9 => by intro w p loose mean mg mb g L fa Dr Dk Dw ys vs rs rise kr kk kw o1 o2 o3 o4 o5 o6 oP s m Q E G F N d6 size ts d1 hi h1 h2 hsz hb hne hq; revert hq; revert hne; revert hb; revert hsz; revert h2; revert h1; revert hi; revert d1; revert d6; revert N; revert F; revert G; revert E; revert Q; apply (hk9 w p loose mean mg mb g L fa Dr Dk Dw ys vs rs rise kr kk kw o1 o2 o3 o4 o5 o6 oP s m size ts)⟩
namespace Z9
noncomputable def hkP (y : VV) := hkK.1 (y.W 0) (y.P 0) (y.S 0) (y.X 0) (y.M 0) (y.M 1) (y.H 0) (y.N 0) (y.N 1) (y.N 2) (y.N 3) (y.N 4) (y.L 0) (y.L 1) (y.I 0) (y.I 1) (y.N 5) (y.N 6) (y.N 7) (y.O 0) (y.O 1) (y.O 2) (y.O 3) (y.O 4) (y.O 5) (y.O 6) (y.R 0) (y.M 2) (y.Z 0) (y.N 8)
@[irreducible] noncomputable def hkG1 := epsV0 hkP
@[irreducible] def w : World := hkG1.W 0
@[irreducible] def p : Program := hkG1.P 0
@[irreducible] def Dw : Addr := hkG1.N 4
@[irreducible] def vs : tV := hkG1.L 1
@[irreducible] def rs : tI := hkG1.I 0
@[irreducible] def size : Int := hkG1.Z 0
theorem hkM : hkP hkG1 := (by exact @wI _ _ : @wT (hkP hkG1) (by
  with_unfolding_all show hkK.1 w p (hkG1.S 0) (hkG1.X 0) (hkG1.M 0) (hkG1.M 1) (hkG1.H 0) (hkG1.N 0) (hkG1.N 1) (hkG1.N 2) (hkG1.N 3) Dw (hkG1.L 0) vs rs (hkG1.I 1) (hkG1.N 5) (hkG1.N 6) (hkG1.N 7) (hkG1.O 0) (hkG1.O 1) (hkG1.O 2) (hkG1.O 3) (hkG1.O 4) (hkG1.O 5) (hkG1.O 6) (hkG1.R 0) (hkG1.M 2) size (hkG1.N 8)
  intro Q E G F N d6 d1 hi h1 h2 hsz hb hne hq
  obtain ⟨B9, X9, T9⟩ := G
  revert X9
  unfold PG
  k_fill
  intro X9
  unfold lawLed at *
  ((unfold lawA lawEnv); (conv in (lawStmt _) => whnf); (conv in (occs := *) lawScope => all_goals whnf))
  walk_at "ls"
  k_dflt refine comp_cell (fun v => decide (size ≤ 2 * ((rs.filter fun w => decide (v ≤ w)).length : Int))) (by rfl) (by rfl) (by intro n; rfl) (by intro h; rfl) (by rfl) (by decide) (by intro C c; rfl) (by decide) ?_
  walk_at "ls"
  refine ⟨Dw, vs, rs, rfl, isList_of (N.get (by k_mem)), hi, by omega, ?_, ?_⟩
  · intro C c o n t s₃ m₃ E' hn hns hC hc ho hd st
    have F3 := F.keeps st
    have N3 := N.grown st
    have grow := st _ _ (N.get (a := (hkG1.N 0) + 1 + 1 + 1 + 1 + 1 + 1) (o := (hkG1.O 5)) (by k_mem))
    have gsz := st _ _ (N.get (a := (hkG1.N 0) + 1) (o := (hkG1.O 0)) (by k_mem))
    have hlr : s₃.heap.IsList Dw vs.toArray := isList_of (N3.get (by k_mem))
    walk_at "ls"
    k_dflt refine comp_free (intP fun w => decide (n ≤ w)) (fun v y => y = v) (by rfl) (by decide) (by rfl) (by decide) (by rfl) ?_
    walk_at "ls"
    k_dflt refine' comp_iter_list (L := (hkG1.N 0)) (m := (hkG1.M 2)) (news := _) ?hh ?hF ?hN ?hl ?hz ?_ ?_ ?_
    case hF => exact F3
    case hN => exact N3
    case hh => rfl
    case hl => exact hlr
    case hz => rw [List.size_toArray, hi.length]; exact Nat.le_trans (Nat.le_of_lt h2) (by decide)
    · intro C v s₄ m₄ E' hv hn4 hm st4
      obtain ⟨w1, t1, hw1, rfl⟩ := ints_mem hi v (by simpa using hv)
      have hbw := hb w1 hw1
      have gv := st4 _ _ ho
      refine wpAny_tests_one ?_
      walk_at "ls"
      all_goals first | exact keeps_toks _ _ | exact keeps_refl _ | exact ⟨rfl, keeps_toks _ _⟩ | exact ⟨rfl, keeps_refl _⟩ | exact rfl
    · intro C v s₄ m₄ E' hv _ hn4 hm st4
      walk_at "ls"
      all_goals first | exact keeps_refl _ | exact ⟨rfl, keeps_refl _⟩ | exact ⟨rfl, keeps_toks _ _⟩
    intro aD h' tk' ays n' aF aN ane ast aP
    have ae := paired_eq aP
    have al : ays.length = (rs.filter fun w => decide (n ≤ w)).length := by rw [ae]; exact filter_intP hi
    have ab : ays.length < 6 := by rw [al]; exact Nat.lt_of_le_of_lt (List.length_filter_le _ _) h2
    have gsz4 := ast _ _ gsz
    clear aP ae F3 N3
    walk_at "ls"
    · rw [al]
    · exact ⟨_, _, rfl, ast⟩
  · intro D h' tk k ys' hD eD hys st
    have F4 := F.keeps st
    have N4 := news_fresh F N st hD eD
    clear F N
    walk_at "ls"
    (rename Fr _ _ _ _ => F6); (rename News _ _ _ _ => N6)
    exact hq _ _ _ _ (by assumption) (by assumption) F6 (N6.perm fun p hp => .tail _ hp)
  ))
end Z9
theorem hkT : hkS := no_implicit_lambda% (@hkapp _ _ hkK.2 (fun a b c d e f g h i j k l m n o p q r s t u v w x y z xa xb xc xd => @epsV Z9.hkP (by with_unfolding_all exact Z9.hkM) (vv e9E e9C e9T e9K e9A (lk [d] d9X) (lk [c] d9S) e9G (lk [a] d9W) (lk [b] d9P) e9Q (lk [xa] d9R) e9V (lk [xc] d9Z) (lk [o, p] d9I) (lk [m, n] d9L) (lk [e, f, xb] d9M) (lk [g] d9H) (lk [t, u, v, w, x, y, z] d9O) (lk [h, i, j, k, l, q, r, s, xd] d9N))))
end st11_c
theorem st11 : st11_c.hkS := @st11_c.hkT
-- S12
namespace st12_c
noncomputable def hkS : Prop := ∀ {w p loose mean mg mb} {g : Heap} {L fa Dr Dk Dw : Addr} {ys vs : List Value} {rs rise : List Int} {kr kk kw : Nat} {o1 o2 o3 o4 o5 o6 oP : Obj} {s : Shared} {m : Str → Option Value} {Q : Flow → Shared → Prop} {E : Value → Shared → Prop} (G : LawG w p loose mean mg mb g) (F : Fr g L s.heap m) (N : News g L s.heap (lawLed L Dr Dk Dw ys vs kr kk kw o1 o2 o3 o4 o5 o6 oP)) (d6 : o6.data = .cell (some (.ref Dw))) (hi : IntsAre vs rs) (h1 : 0 < rs.length) (h2 : rs.length < 6) (hb : ∀ x ∈ rs, -100000 ≤ x ∧ x ≤ 100000) {low high : Int} {tl th : Tok} (ml : m (Str.ofString "low") = some (.int low tl)) (mh : m (Str.ofString "high") = some (.int high th)) (hlaw : ∀ d : List Int, d.Perm rs → d.Pairwise (· ≤ ·) → d.getD ((rs.length - 1) / 2) 0 = low ∧ d.getD (rs.length / 2) 0 = high) (hq : ∀ h' tk', Fr g L h' m → News g L h' (lawLed L Dr Dk Dw ys vs kr kk kw o1 o2 o3 o4 o5 o6 oP) → Q .next { s with heap := h', toks := tk' }), wpAny (model PG w) (lawA L fa) (exec (lawStmt 12) (lawEnv L fa)) Q E s
noncomputable def hkK : Σ' P : World → Program → tS → tX → tM → tM → Heap → Addr → Addr → Addr → Addr → Addr → tV → tV → tI → tI → Nat → Nat → Nat → Obj → Obj → Obj → Obj → Obj → Obj → Obj → Shared → tM → Int → Int → Tok → Tok → Prop, (∀ a b c d e f g h i j k l m n o p q r s t u v w x y z xa xb xc xd xe xf, P a b c d e f g h i j k l m n o p q r s t u v w x y z xa xb xc xd xe xf) → hkS := ⟨_, fun hk9 => by intro w p loose mean mg mb g L fa Dr Dk Dw ys vs rs rise kr kk kw o1 o2 o3 o4 o5 o6 oP s m Q E G F N d6 hi h1 h2 hb low high tl th ml mh hlaw hq; revert hq; revert hlaw; revert mh; revert ml; revert hb; revert h2; revert h1; revert hi; revert d6; revert N; revert F; revert G; revert E; revert Q; apply (hk9 w p loose mean mg mb g L fa Dr Dk Dw ys vs rs rise kr kk kw o1 o2 o3 o4 o5 o6 oP s m low high tl th)⟩
namespace Z9
noncomputable def hkP (y : VV) := hkK.1 (y.W 0) (y.P 0) (y.S 0) (y.X 0) (y.M 0) (y.M 1) (y.H 0) (y.N 0) (y.N 1) (y.N 2) (y.N 3) (y.N 4) (y.L 0) (y.L 1) (y.I 0) (y.I 1) (y.N 5) (y.N 6) (y.N 7) (y.O 0) (y.O 1) (y.O 2) (y.O 3) (y.O 4) (y.O 5) (y.O 6) (y.R 0) (y.M 2) (y.Z 0) (y.Z 1) (y.N 8) (y.N 9)
@[irreducible] noncomputable def hkG1 := epsV0 hkP
@[irreducible] def p : Program := hkG1.P 0
@[irreducible] def low : Int := hkG1.Z 0
@[irreducible] def tl : Tok := hkG1.N 8
theorem hkM : hkP hkG1 := (by exact @wI _ _ : @wT (hkP hkG1) (by
  with_unfolding_all show hkK.1 (hkG1.W 0) p (hkG1.S 0) (hkG1.X 0) (hkG1.M 0) (hkG1.M 1) (hkG1.H 0) (hkG1.N 0) (hkG1.N 1) (hkG1.N 2) (hkG1.N 3) (hkG1.N 4) (hkG1.L 0) (hkG1.L 1) (hkG1.I 0) (hkG1.I 1) (hkG1.N 5) (hkG1.N 6) (hkG1.N 7) (hkG1.O 0) (hkG1.O 1) (hkG1.O 2) (hkG1.O 3) (hkG1.O 4) (hkG1.O 5) (hkG1.O 6) (hkG1.R 0) (hkG1.M 2) low (hkG1.Z 1) tl (hkG1.N 9)
  intro Q E G F N d6 hi h1 h2 hb ml mh hlaw hq
  have F1 := fr_know (fr_know F ml) (show (fun z => if z = Str.ofString "low" then some (Value.int low tl) else (hkG1.M 2) z) (Str.ofString "high") = some (.int (hkG1.Z 1) (hkG1.N 9)) from mh)
  clear F
  obtain ⟨B9, X9, T9⟩ := G
  revert X9
  unfold PG
  k_fill
  intro X9
  unfold lawLed at *
  ((unfold lawA lawEnv); (conv in (lawStmt _) => whnf); (conv in (occs := *) lawScope => all_goals whnf))
  walk_at "ls"
  k_dflt refine median_low_t (hkG1.W 0) p (hkG1.S 0) (hkG1.X 0) (hkG1.M 0) (hkG1.M 1) _ (hkG1.N 4) (hkG1.L 1) (hkG1.I 0) (isList_of (N.get (by k_mem))) hi h1 h2 hb _ _ _ _ _ _ _ _ _ callerA (hkG1.H 0) (hkG1.H 0) (hkG1.N 0) _ _ _ B9 F1 X9 T9 (by rfl) (by ktr_room) (by ktr_units) ?_
  rintro v h3 tk3 st3 ⟨d, hd1, hd2, t3, rfl⟩
  rw [(hlaw d hd1 hd2).1]
  have F3 := F1.keeps st3
  have N3 := N.grown st3
  clear F1 N
  walk_at "ls"
  k_dflt refine median_high_t (hkG1.W 0) p (hkG1.S 0) (hkG1.X 0) (hkG1.M 0) (hkG1.M 1) _ (hkG1.N 4) (hkG1.L 1) (hkG1.I 0) (isList_of (N3.get (by k_mem))) hi h1 h2 hb _ _ _ _ _ _ _ _ _ callerA (hkG1.H 0) (hkG1.H 0) (hkG1.N 0) _ _ _ B9 F3 X9 T9 (by rfl) (by ktr_room) (by ktr_units) ?_
  rintro v h4 tk4 st4 ⟨d', hd1', hd2', t4, rfl⟩
  rw [(hlaw d' hd1' hd2').2]
  have F4 := F3.keeps st4
  have N4 := N3.grown st4
  clear F3 N3
  walk_at "ls"
  (rename News _ _ _ _ => N5); (rename Fr _ _ _ _ => F5)
  k_dflt refine told_t (hkG1.W 0) p (hkG1.S 0) (hkG1.X 0) (hkG1.M 0) (hkG1.M 1) _ _ _ [.int low t3, .int (hkG1.Z 1) t4] [.int low tl, .int (hkG1.Z 1) (hkG1.N 9)] "int" (isList_of (N5.get (List.Mem.tail _ (List.Mem.head _)))) (isList_of (N5.get (List.Mem.head _))) (by simp) (.int _ _ _ (.int _ _ _ .nil)) _ _ _ _ _ _ _ _ _ callerA (hkG1.H 0) (hkG1.H 0) (hkG1.N 0) _ _ _ B9 F5 X9 T9 (by rfl) (by ktr_room) (by ktr_units) ?_
  rintro v h6 tk6 st6 rfl
  have F6 := F5.keeps st6
  have N6 := N5.grown st6
  clear F5 N5
  walk_at "ls"
  refine hq _ _ (fr_eq F6 ?_) (N6.perm fun p hp => .tail _ (.tail _ hp))
  (intro z; (try dsimp only); repeat' split; all_goals first | rfl | (subst_vars; (try simp only [if_true]); first | rfl | assumption | (symm; assumption) | simp_all) | simp_all)
  ))
end Z9
theorem hkT : hkS := no_implicit_lambda% (@hkapp _ _ hkK.2 (fun a b c d e f g h i j k l m n o p q r s t u v w x y z xa xb xc xd xe xf => @epsV Z9.hkP (by with_unfolding_all exact Z9.hkM) (vv e9E e9C e9T e9K e9A (lk [d] d9X) (lk [c] d9S) e9G (lk [a] d9W) (lk [b] d9P) e9Q (lk [xa] d9R) e9V (lk [xc, xd] d9Z) (lk [o, p] d9I) (lk [m, n] d9L) (lk [e, f, xb] d9M) (lk [g] d9H) (lk [t, u, v, w, x, y, z] d9O) (lk [h, i, j, k, l, q, r, s, xe, xf] d9N))))
end st12_c
theorem st12 : st12_c.hkS := @st12_c.hkT
-- S13
namespace st13a_c
noncomputable def hkS : Prop := ∀ {w p loose mean mg mb} {g : Heap} {L fa Dr Dk Dw : Addr} {ys vs : List Value} {rs rise : List Int} {kr kk kw : Nat} {o1 o2 o3 o4 o5 o6 oP : Obj} {s : Shared} {m : Str → Option Value} {Q : Flow → Shared → Prop} {E : Value → Shared → Prop} (G : LawG w p loose mean mg mb g) (F : Fr g L s.heap m) (N : News g L s.heap (lawLed L Dr Dk Dw ys vs kr kk kw o1 o2 o3 o4 o5 o6 oP)) (d6 : o6.data = .cell (some (.ref Dw))) {size : Int} {ts : Tok} (d1 : o1.data = .cell (some (.int size ts))) (hi : IntsAre vs rs) (h1 : 0 < rs.length) (h2 : rs.length < 6) (hb : ∀ x ∈ rs, -100000 ≤ x ∧ x ≤ 100000) {low high : Int} {tl th : Tok} (hsz : size = rs.length) (hodd : rs.length % 2 = 1) (ml : m (Str.ofString "low") = some (.int low tl)) (mh : m (Str.ofString "high") = some (.int high th)) (hl1 : -100000 ≤ low ∧ low ≤ 100000) (hl2 : -100000 ≤ high ∧ high ≤ 100000) (hlaw : ∀ d : List Int, d.Perm rs → d.Pairwise (· ≤ ·) → d.getD (rs.length / 2) 0 = Int.fdiv (low + high) 2) (hq : ∀ h' tk', Fr g L h' m → News g L h' (lawLed L Dr Dk Dw ys vs kr kk kw o1 o2 o3 o4 o5 o6 oP) → Q .next { s with heap := h', toks := tk' }), wpAny (model PG w) (lawA L fa) (exec (lawStmt 13) (lawEnv L fa)) Q E s
noncomputable def hkK : Σ' P : World → Program → tS → tX → tM → tM → Heap → Addr → Addr → Addr → Addr → Addr → tV → tV → tI → tI → Nat → Nat → Nat → Obj → Obj → Obj → Obj → Obj → Obj → Obj → Shared → tM → Int → Tok → Int → Int → Tok → Tok → Prop, (∀ a b c d e f g h i j k l m n o p q r s t u v w x y z xa xb xc xd xe xf xg xh, P a b c d e f g h i j k l m n o p q r s t u v w x y z xa xb xc xd xe xf xg xh) → hkS := ⟨_, fun hk9 => by intro w p loose mean mg mb g L fa Dr Dk Dw ys vs rs rise kr kk kw o1 o2 o3 o4 o5 o6 oP s m Q E G F N d6 size ts d1 hi h1 h2 hb low high tl th hsz hodd ml mh hl1 hl2 hlaw hq; revert hq; revert hlaw; revert hl2; revert hl1; revert mh; revert ml; revert hodd; revert hsz; revert hb; revert h2; revert h1; revert hi; revert d1; revert d6; revert N; revert F; revert G; revert E; revert Q; apply (hk9 w p loose mean mg mb g L fa Dr Dk Dw ys vs rs rise kr kk kw o1 o2 o3 o4 o5 o6 oP s m size ts low high tl th)⟩
namespace Z9
noncomputable def hkP (y : VV) := hkK.1 (y.W 0) (y.P 0) (y.S 0) (y.X 0) (y.M 0) (y.M 1) (y.H 0) (y.N 0) (y.N 1) (y.N 2) (y.N 3) (y.N 4) (y.L 0) (y.L 1) (y.I 0) (y.I 1) (y.N 5) (y.N 6) (y.N 7) (y.O 0) (y.O 1) (y.O 2) (y.O 3) (y.O 4) (y.O 5) (y.O 6) (y.R 0) (y.M 2) (y.Z 0) (y.N 8) (y.Z 1) (y.Z 2) (y.N 9) (y.N 10)
@[irreducible] noncomputable def hkG1 := epsV0 hkP
@[irreducible] def p : Program := hkG1.P 0
@[irreducible] def size : Int := hkG1.Z 0
@[irreducible] def low : Int := hkG1.Z 1
@[irreducible] def tl : Tok := hkG1.N 9
theorem hkM : hkP hkG1 := (by exact @wI _ _ : @wT (hkP hkG1) (by
  with_unfolding_all show hkK.1 (hkG1.W 0) p (hkG1.S 0) (hkG1.X 0) (hkG1.M 0) (hkG1.M 1) (hkG1.H 0) (hkG1.N 0) (hkG1.N 1) (hkG1.N 2) (hkG1.N 3) (hkG1.N 4) (hkG1.L 0) (hkG1.L 1) (hkG1.I 0) (hkG1.I 1) (hkG1.N 5) (hkG1.N 6) (hkG1.N 7) (hkG1.O 0) (hkG1.O 1) (hkG1.O 2) (hkG1.O 3) (hkG1.O 4) (hkG1.O 5) (hkG1.O 6) (hkG1.R 0) (hkG1.M 2) size (hkG1.N 8) low (hkG1.Z 2) tl (hkG1.N 10)
  intro Q E G F N d6 d1 hi h1 h2 hb hsz hodd ml mh hl1 hl2 hlaw hq
  have hfm : Int.fmod size 2 = 1 := by rw [Int.fmod_eq_emod_of_nonneg _ (by decide)]; omega
  have F1 := fr_know (fr_know F ml) (show (fun z => if z = Str.ofString "low" then some (Value.int low tl) else (hkG1.M 2) z) (Str.ofString "high") = some (.int (hkG1.Z 2) (hkG1.N 10)) from mh)
  clear F
  obtain ⟨B9, X9, T9⟩ := G
  revert X9
  unfold PG
  k_fill
  intro X9
  unfold lawLed at *
  ((unfold lawA lawEnv); (conv in (lawStmt _) => whnf); (conv in (occs := *) lawScope => all_goals whnf))
  walk_at "ls"
  k_dflt refine median_t (hkG1.W 0) p (hkG1.S 0) (hkG1.X 0) (hkG1.M 0) (hkG1.M 1) _ (hkG1.N 4) (hkG1.L 1) (hkG1.I 0) (isList_of (N.get (by k_mem))) hi h1 h2 hb _ _ _ _ _ _ _ _ _ callerA (hkG1.H 0) (hkG1.H 0) (hkG1.N 0) _ _ _ B9 F1 X9 T9 (by rfl) (by ktr_room) (by ktr_units) ?_
  rintro v h3 tk3 st3 ⟨d, hd1, hd2, t3, rfl⟩
  rw [if_pos hodd, hlaw d hd1 hd2]
  have F3 := F1.keeps st3
  have N3 := N.grown st3
  clear F1 N
  walk_at "ls"
  all_goals first
    | (exfalso; omega)
    | skip
  (rename News _ _ _ _ => N5); (rename Fr _ _ _ _ => F5)
  k_dflt refine told_t (hkG1.W 0) p (hkG1.S 0) (hkG1.X 0) (hkG1.M 0) (hkG1.M 1) _ _ _ [.int (Int.fdiv (low + (hkG1.Z 2)) 2) t3] [.int (Int.fdiv (low + (hkG1.Z 2)) 2) _] "int" (isList_of (N5.get (List.Mem.tail _ (List.Mem.head _)))) (isList_of (N5.get (List.Mem.head _))) (by simp) (.int _ _ _ .nil) _ _ _ _ _ _ _ _ _ callerA (hkG1.H 0) (hkG1.H 0) (hkG1.N 0) _ _ _ B9 F5 X9 T9 (by rfl) (by ktr_room) (by ktr_units) ?_
  rintro v h6 tk6 st6 rfl
  have F6 := F5.keeps st6
  have N6 := N5.grown st6
  clear F5 N5
  walk_at "ls"
  refine hq _ _ (fr_eq F6 ?_) (N6.perm fun p hp => .tail _ (.tail _ hp))
  (intro z; (try dsimp only); repeat' split; all_goals first | rfl | (subst_vars; (try simp only [if_true]); first | rfl | assumption | (symm; assumption) | simp_all) | simp_all)
  ))
end Z9
theorem hkT : hkS := no_implicit_lambda% (@hkapp _ _ hkK.2 (fun a b c d e f g h i j k l m n o p q r s t u v w x y z xa xb xc xd xe xf xg xh => @epsV Z9.hkP (by with_unfolding_all exact Z9.hkM) (vv e9E e9C e9T e9K e9A (lk [d] d9X) (lk [c] d9S) e9G (lk [a] d9W) (lk [b] d9P) e9Q (lk [xa] d9R) e9V (lk [xc, xe, xf] d9Z) (lk [o, p] d9I) (lk [m, n] d9L) (lk [e, f, xb] d9M) (lk [g] d9H) (lk [t, u, v, w, x, y, z] d9O) (lk [h, i, j, k, l, q, r, s, xd, xg, xh] d9N))))
end st13a_c
theorem st13a : st13a_c.hkS := @st13a_c.hkT
namespace st13b_c
noncomputable def hkS : Prop := ∀ {w p loose mean mg mb} {g : Heap} {L fa Dr Dk Dw : Addr} {ys vs : List Value} {rs rise : List Int} {kr kk kw : Nat} {o1 o2 o3 o4 o5 o6 oP : Obj} {s : Shared} {m : Str → Option Value} {Q : Flow → Shared → Prop} {E : Value → Shared → Prop} (G : LawG w p loose mean mg mb g) (F : Fr g L s.heap m) (N : News g L s.heap (lawLed L Dr Dk Dw ys vs kr kk kw o1 o2 o3 o4 o5 o6 oP)) (d6 : o6.data = .cell (some (.ref Dw))) {size : Int} {ts : Tok} (d1 : o1.data = .cell (some (.int size ts))) (hi : IntsAre vs rs) (h1 : 0 < rs.length) (h2 : rs.length < 6) (hb : ∀ x ∈ rs, -100000 ≤ x ∧ x ≤ 100000) {low high : Int} {tl th : Tok} (hsz : size = rs.length) (hodd : rs.length % 2 = 0) (ml : m (Str.ofString "low") = some (.int low tl)) (mh : m (Str.ofString "high") = some (.int high th)) (hl1 : -100000 ≤ low ∧ low ≤ 100000) (hl2 : -100000 ≤ high ∧ high ≤ 100000) (hlaw : ∀ d : List Int, d.Perm rs → d.Pairwise (· ≤ ·) → (Float64.cmpInt (fq (d.getD (rs.length / 2 - 1) 0 + d.getD (rs.length / 2) 0) 2) (Int.fdiv (low + high) 2) == some Ordering.eq) = true) (hq : ∀ h' tk', Fr g L h' m → News g L h' (lawLed L Dr Dk Dw ys vs kr kk kw o1 o2 o3 o4 o5 o6 oP) → Q .next { s with heap := h', toks := tk' }), wpAny (model PG w) (lawA L fa) (exec (lawStmt 13) (lawEnv L fa)) Q E s
noncomputable def hkK : Σ' P : World → Program → tS → tX → tM → tM → Heap → Addr → Addr → Addr → Addr → Addr → tV → tV → tI → tI → Nat → Nat → Nat → Obj → Obj → Obj → Obj → Obj → Obj → Obj → Shared → tM → Int → Tok → Int → Int → Tok → Tok → Prop, (∀ a b c d e f g h i j k l m n o p q r s t u v w x y z xa xb xc xd xe xf xg xh, P a b c d e f g h i j k l m n o p q r s t u v w x y z xa xb xc xd xe xf xg xh) → hkS := ⟨_, fun hk9 => by intro w p loose mean mg mb g L fa Dr Dk Dw ys vs rs rise kr kk kw o1 o2 o3 o4 o5 o6 oP s m Q E G F N d6 size ts d1 hi h1 h2 hb low high tl th hsz hodd ml mh hl1 hl2 hlaw hq; revert hq; revert hlaw; revert hl2; revert hl1; revert mh; revert ml; revert hodd; revert hsz; revert hb; revert h2; revert h1; revert hi; revert d1; revert d6; revert N; revert F; revert G; revert E; revert Q; apply (hk9 w p loose mean mg mb g L fa Dr Dk Dw ys vs rs rise kr kk kw o1 o2 o3 o4 o5 o6 oP s m size ts low high tl th)⟩
namespace Z9
noncomputable def hkP (y : VV) := hkK.1 (y.W 0) (y.P 0) (y.S 0) (y.X 0) (y.M 0) (y.M 1) (y.H 0) (y.N 0) (y.N 1) (y.N 2) (y.N 3) (y.N 4) (y.L 0) (y.L 1) (y.I 0) (y.I 1) (y.N 5) (y.N 6) (y.N 7) (y.O 0) (y.O 1) (y.O 2) (y.O 3) (y.O 4) (y.O 5) (y.O 6) (y.R 0) (y.M 2) (y.Z 0) (y.N 8) (y.Z 1) (y.Z 2) (y.N 9) (y.N 10)
@[irreducible] noncomputable def hkG2 := epsV0 hkP
@[irreducible] def p : Program := hkG2.P 0
@[irreducible] def size : Int := hkG2.Z 0
@[irreducible] def low : Int := hkG2.Z 1
@[irreducible] def tl : Tok := hkG2.N 9
theorem hkM : hkP hkG2 := (by exact @wI _ _ : @wT (hkP hkG2) (by
  with_unfolding_all show hkK.1 (hkG2.W 0) p (hkG2.S 0) (hkG2.X 0) (hkG2.M 0) (hkG2.M 1) (hkG2.H 0) (hkG2.N 0) (hkG2.N 1) (hkG2.N 2) (hkG2.N 3) (hkG2.N 4) (hkG2.L 0) (hkG2.L 1) (hkG2.I 0) (hkG2.I 1) (hkG2.N 5) (hkG2.N 6) (hkG2.N 7) (hkG2.O 0) (hkG2.O 1) (hkG2.O 2) (hkG2.O 3) (hkG2.O 4) (hkG2.O 5) (hkG2.O 6) (hkG2.R 0) (hkG2.M 2) size (hkG2.N 8) low (hkG2.Z 2) tl (hkG2.N 10)
  intro Q E G F N d6 d1 hi h1 h2 hb hsz hodd ml mh hl1 hl2 hlaw hq
  have hfm : Int.fmod size 2 = 0 := by rw [Int.fmod_eq_emod_of_nonneg _ (by decide)]; omega
  have F1 := fr_know (fr_know F ml) (show (fun z => if z = Str.ofString "low" then some (Value.int low tl) else (hkG2.M 2) z) (Str.ofString "high") = some (.int (hkG2.Z 2) (hkG2.N 10)) from mh)
  clear F
  obtain ⟨B9, X9, T9⟩ := G
  revert X9
  unfold PG
  k_fill
  intro X9
  unfold lawLed at *
  ((unfold lawA lawEnv); (conv in (lawStmt _) => whnf); (conv in (occs := *) lawScope => all_goals whnf))
  walk_at "ls"
  k_dflt refine median_t (hkG2.W 0) p (hkG2.S 0) (hkG2.X 0) (hkG2.M 0) (hkG2.M 1) _ (hkG2.N 4) (hkG2.L 1) (hkG2.I 0) (isList_of (N.get (by k_mem))) hi h1 h2 hb _ _ _ _ _ _ _ _ _ callerA (hkG2.H 0) (hkG2.H 0) (hkG2.N 0) _ _ _ B9 F1 X9 T9 (by rfl) (by ktr_room) (by ktr_units) ?_
  rintro v h3 tk3 st3 ⟨d, hd1, hd2, t3, rfl⟩
  rw [if_neg (by omega)]
  have F3 := F1.keeps st3
  have N3 := N.grown st3
  clear F1 N
  walk_at "ls"
  all_goals first
    | (exfalso; omega)
    | skip
  (rename News _ _ _ _ => N5); (rename Fr _ _ _ _ => F5)
  k_dflt refine told_t (hkG2.W 0) p (hkG2.S 0) (hkG2.X 0) (hkG2.M 0) (hkG2.M 1) _ _ _ [.float (fq (d.getD ((hkG2.I 0).length / 2 - 1) 0 + d.getD ((hkG2.I 0).length / 2) 0) 2) t3] [.int (Int.fdiv (low + (hkG2.Z 2)) 2) _] "float" (isList_of (N5.get (List.Mem.tail _ (List.Mem.head _)))) (isList_of (N5.get (List.Mem.head _))) (by simp) (.flt _ _ _ _ (hlaw d hd1 hd2) .nil) _ _ _ _ _ _ _ _ _ callerA (hkG2.H 0) (hkG2.H 0) (hkG2.N 0) _ _ _ B9 F5 X9 T9 (by rfl) (by ktr_room) (by ktr_units) ?_
  rintro v h6 tk6 st6 rfl
  have F6 := F5.keeps st6
  have N6 := N5.grown st6
  clear F5 N5
  walk_at "ls"
  refine hq _ _ (fr_eq F6 ?_) (N6.perm fun p hp => .tail _ (.tail _ hp))
  (intro z; (try dsimp only); repeat' split; all_goals first | rfl | (subst_vars; (try simp only [if_true]); first | rfl | assumption | (symm; assumption) | simp_all) | simp_all)
  ))
end Z9
theorem hkT : hkS := no_implicit_lambda% (@hkapp _ _ hkK.2 (fun a b c d e f g h i j k l m n o p q r s t u v w x y z xa xb xc xd xe xf xg xh => @epsV Z9.hkP (by with_unfolding_all exact Z9.hkM) (vv e9E e9C e9T e9K e9A (lk [d] d9X) (lk [c] d9S) e9G (lk [a] d9W) (lk [b] d9P) e9Q (lk [xa] d9R) e9V (lk [xc, xe, xf] d9Z) (lk [o, p] d9I) (lk [m, n] d9L) (lk [e, f, xb] d9M) (lk [g] d9H) (lk [t, u, v, w, x, y, z] d9O) (lk [h, i, j, k, l, q, r, s, xd, xg, xh] d9N))))
end st13b_c
theorem st13b : st13b_c.hkS := @st13b_c.hkT
-- S14
namespace st14_c
noncomputable def hkS : Prop := ∀ {w p loose mean mg mb} {g : Heap} {L fa Dr Dk Dw : Addr} {ys vs : List Value} {rs rise : List Int} {kr kk kw : Nat} {o1 o2 o3 o4 o5 o6 oP : Obj} {s : Shared} {m : Str → Option Value} {Q : Flow → Shared → Prop} {E : Value → Shared → Prop} (G : LawG w p loose mean mg mb g) (F : Fr g L s.heap m) (N : News g L s.heap (lawLed L Dr Dk Dw ys vs kr kk kw o1 o2 o3 o4 o5 o6 oP)) (d6 : o6.data = .cell (some (.ref Dw))) (d3 : o3.data = .cell none) (lP : @LT.lt Nat _ 353 L) (l0 : @LT.lt Nat _ (L + 1 + 1 + 1 + 1 + 1 + 1) Dw) (l1 : @LT.lt Nat _ Dw Dk) (l2 : @LT.lt Nat _ Dk Dr) (hi : IntsAre vs rs) (h1 : 0 < rs.length) (h2 : rs.length < 6) (hb : ∀ x ∈ rs, -100000 ≤ x ∧ x ≤ 100000) (hq : ∀ h' tk' o3' v, GroupedAt rs v → o3'.data = .cell (some v) → Fr g L h' m → News g L h' (lawLed L Dr Dk Dw ys vs kr kk kw o1 o2 o3' o4 o5 o6 oP) → Q .next { s with heap := h', toks := tk' }), wpAny (model PG w) (lawA L fa) (exec (lawStmt 14) (lawEnv L fa)) Q E s
noncomputable def hkK : Σ' P : World → Program → tS → tX → tM → tM → Heap → Addr → Addr → Addr → Addr → Addr → tV → tV → tI → tI → Nat → Nat → Nat → Obj → Obj → Obj → Obj → Obj → Obj → Obj → Shared → tM → Prop, (∀ a b c d e f g h i j k l m n o p q r s t u v w x y z xa xb, P a b c d e f g h i j k l m n o p q r s t u v w x y z xa xb) → hkS := ⟨_, fun hk9 => by intro w p loose mean mg mb g L fa Dr Dk Dw ys vs rs rise kr kk kw o1 o2 o3 o4 o5 o6 oP s m Q E G F N d6 d3 lP l0 l1 l2 hi h1 h2 hb hq; revert hq; revert hb; revert h2; revert h1; revert hi; revert l2; revert l1; revert l0; revert lP; revert d3; revert d6; revert N; revert F; revert G; revert E; revert Q; apply (hk9 w p loose mean mg mb g L fa Dr Dk Dw ys vs rs rise kr kk kw o1 o2 o3 o4 o5 o6 oP s m)⟩
namespace Z9
noncomputable def hkP (y : VV) := hkK.1 (y.W 0) (y.P 0) (y.S 0) (y.X 0) (y.M 0) (y.M 1) (y.H 0) (y.N 0) (y.N 1) (y.N 2) (y.N 3) (y.N 4) (y.L 0) (y.L 1) (y.I 0) (y.I 1) (y.N 5) (y.N 6) (y.N 7) (y.O 0) (y.O 1) (y.O 2) (y.O 3) (y.O 4) (y.O 5) (y.O 6) (y.R 0) (y.M 2)
@[irreducible] noncomputable def hkG1 := epsV0 hkP
theorem hkM : hkP hkG1 := (by exact @wI _ _ : @wT (hkP hkG1) (by
  with_unfolding_all show hkK.1 (hkG1.W 0) (hkG1.P 0) (hkG1.S 0) (hkG1.X 0) (hkG1.M 0) (hkG1.M 1) (hkG1.H 0) (hkG1.N 0) (hkG1.N 1) (hkG1.N 2) (hkG1.N 3) (hkG1.N 4) (hkG1.L 0) (hkG1.L 1) (hkG1.I 0) (hkG1.I 1) (hkG1.N 5) (hkG1.N 6) (hkG1.N 7) (hkG1.O 0) (hkG1.O 1) (hkG1.O 2) (hkG1.O 3) (hkG1.O 4) (hkG1.O 5) (hkG1.O 6) (hkG1.R 0) (hkG1.M 2)
  intro Q E G F N d6 d3 lP l0 l1 l2 hi h1 h2 hb hq
  obtain ⟨B9, X9, T9⟩ := G
  revert X9
  unfold PG
  k_fill
  intro X9
  unfold lawLed at *
  ((unfold lawA lawEnv); (conv in (lawStmt _) => whnf); (conv in (occs := *) lawScope => all_goals whnf))
  walk_at "ls"
  k_dflt refine grouped_t (hkG1.W 0) (hkG1.P 0) (hkG1.S 0) (hkG1.X 0) (hkG1.M 0) (hkG1.M 1) _ (hkG1.N 4) (hkG1.L 1) (hkG1.I 0) _ ?hl hi h1 h2 hb _ _ _ _ _ _ _ _ _ callerA (hkG1.H 0) (hkG1.H 0) (hkG1.N 0) (hkG1.M 2) _ _ B9 ?hF X9 T9 (by rfl) (by ktr_room) (by ktr_units) ?_
  case hF => exact F
  case hl => exact isList_of (N.get (by k_mem))
  rintro v h3 tk3 st3 hv
  have F3 := F.keeps st3
  have N3 := N.grown st3
  clear F N
  walk_at "ls"
  (rename Obj.data _ = Data.cell (some v) => d9); (rename News _ _ _ _ => N4); (rename Fr _ _ _ _ => F4)
  exact hq _ _ _ v hv d9 F4 N4
  ))
end Z9
theorem hkT : hkS := no_implicit_lambda% (@hkapp _ _ hkK.2 (fun a b c d e f g h i j k l m n o p q r s t u v w x y z xa xb => @epsV Z9.hkP (by with_unfolding_all exact Z9.hkM) (vv e9E e9C e9T e9K e9A (lk [d] d9X) (lk [c] d9S) e9G (lk [a] d9W) (lk [b] d9P) e9Q (lk [xa] d9R) e9V e9Z (lk [o, p] d9I) (lk [m, n] d9L) (lk [e, f, xb] d9M) (lk [g] d9H) (lk [t, u, v, w, x, y, z] d9O) (lk [h, i, j, k, l, q, r, s] d9N))))
end st14_c
theorem st14 : st14_c.hkS := @st14_c.hkT
-- S15
theorem st15 {w p loose mean mg mb} {g : Heap} {L fa Dr Dk Dw : Addr} {ys vs : List Value} {rs rise : List Int} {kr kk kw : Nat} {o1 o2 o3 o4 o5 o6 oP : Obj} {s : Shared} {m : Str → Option Value} {Q : Flow → Shared → Prop} {E : Value → Shared → Prop}
    (G : LawG w p loose mean mg mb g) (F : Fr g L s.heap m) (N : News g L s.heap (lawLed L Dr Dk Dw ys vs kr kk kw o1 o2 o3 o4 o5 o6 oP)) {pt : UInt64} {tp : Tok} (d3 : o3.data = .cell (some (.float pt tp))) {high : Int} {th : Tok} (hh1 : -100000 ≤ high) (hh2 : high ≤ 100000)
    (hg1 : (Float64.cmpInt pt (high - 30) == some Ordering.gt || Float64.cmpInt pt (high - 30) == some Ordering.eq) = true) (hg2 : (Float64.cmpInt pt (high + 30) == some Ordering.lt) = true)
    (mh : m (Str.ofString "high") = some (.int high th))
    (hq : ∀ h' tk', Fr g L h' m → News g L h' (lawLed L Dr Dk Dw ys vs kr kk kw o1 o2 o3 o4 o5 o6 oP) → Q .next { s with heap := h', toks := tk' }) :
    wpAny (model PG w) (lawA L fa) (exec (lawStmt 15) (lawEnv L fa)) Q E s := by
  have F1 := fr_know F mh
  obtain ⟨B9, X9, T9⟩ := G
  revert X9
  unfold PG
  k_fill
  intro X9
  unfold lawLed at *
  ((unfold lawA lawEnv); (conv in (lawStmt _) => whnf); (conv in (occs := *) lawScope => all_goals whnf))
  clear F
  walk_at "ls"
  all_goals first
    | (refine hq _ _ (fr_eq F1 ?_) N
       (intro z; (try dsimp only); repeat' split; all_goals first | rfl | (subst_vars; (try simp only [if_true]); first | rfl | assumption | (symm; assumption) | simp_all) | simp_all))
    | (exfalso; rename _ = false => q9; rw [hg2] at q9; cases q9)
    | (exfalso; rename _ = false => q9; rw [hg1] at q9; cases q9)
-- S16
namespace st16_c
noncomputable def hkS : Prop := ∀ {w p loose mean mg mb} {g : Heap} {L fa Dr Dk Dw : Addr} {ys vs : List Value} {rs rise : List Int} {kr kk kw : Nat} {o1 o2 o3 o4 o5 o6 oP : Obj} {s : Shared} {m : Str → Option Value} {Q : Flow → Shared → Prop} {E : Value → Shared → Prop} (G : LawG w p loose mean mg mb g) (F : Fr g L s.heap m) (N : News g L s.heap (lawLed L Dr Dk Dw ys vs kr kk kw o1 o2 o3 o4 o5 o6 oP)) (d6 : o6.data = .cell (some (.ref Dw))) {size : Int} {ts : Tok} (d1 : o1.data = .cell (some (.int size ts))) {pt : UInt64} {tp : Tok} (d3 : o3.data = .cell (some (.float pt tp))) (hi : IntsAre vs rs) (h1 : 0 < rs.length) (h2 : rs.length < 6) (hb : ∀ x ∈ rs, -100000 ≤ x ∧ x ≤ 100000) (hsz : size = rs.length) {r : WData} (hr : Num.sumInts 0 (rs.map (clipAt pt)) = some r) (hr2 : NumEq r (30 * size)) (hq : ∀ h' tk', Fr g L h' m → News g L h' (lawLed L Dr Dk Dw ys vs kr kk kw o1 o2 o3 o4 o5 o6 oP) → Q .next { s with heap := h', toks := tk' }), wpAny (model PG w) (lawA L fa) (exec (lawStmt 16) (lawEnv L fa)) Q E s
noncomputable def hkK : Σ' P : World → Program → tS → tX → tM → tM → Heap → Addr → Addr → Addr → Addr → Addr → tV → tV → tI → tI → Nat → Nat → Nat → Obj → Obj → Obj → Obj → Obj → Obj → Obj → Shared → tM → Int → Tok → Tok → Prop, (∀ a b c d e f g h i j k l m n o p q r s t u v w x y z xa xb xc xd xe, P a b c d e f g h i j k l m n o p q r s t u v w x y z xa xb xc xd xe) → hkS := ⟨_, fun hk9 => by intro w p loose mean mg mb g L fa Dr Dk Dw ys vs rs rise kr kk kw o1 o2 o3 o4 o5 o6 oP s m Q E G F N d6 size ts d1 pt tp d3 hi h1 h2 hb hsz r hr hr2 hq; revert hq; revert hr2; revert hr; revert r; revert hsz; revert hb; revert h2; revert h1; revert hi; revert d3; revert pt; revert d1; revert d6; revert N; revert F; revert G; revert E; revert Q; apply (hk9 w p loose mean mg mb g L fa Dr Dk Dw ys vs rs rise kr kk kw o1 o2 o3 o4 o5 o6 oP s m size ts tp)⟩
namespace Z9
noncomputable def hkP (y : VV) := hkK.1 (y.W 0) (y.P 0) (y.S 0) (y.X 0) (y.M 0) (y.M 1) (y.H 0) (y.N 0) (y.N 1) (y.N 2) (y.N 3) (y.N 4) (y.L 0) (y.L 1) (y.I 0) (y.I 1) (y.N 5) (y.N 6) (y.N 7) (y.O 0) (y.O 1) (y.O 2) (y.O 3) (y.O 4) (y.O 5) (y.O 6) (y.R 0) (y.M 2) (y.Z 0) (y.N 8) (y.N 9)
@[irreducible] noncomputable def hkG1 := epsV0 hkP
@[irreducible] def p : Program := hkG1.P 0
@[irreducible] def size : Int := hkG1.Z 0
theorem hkM : hkP hkG1 := (by exact @wI _ _ : @wT (hkP hkG1) (by
  with_unfolding_all show hkK.1 (hkG1.W 0) p (hkG1.S 0) (hkG1.X 0) (hkG1.M 0) (hkG1.M 1) (hkG1.H 0) (hkG1.N 0) (hkG1.N 1) (hkG1.N 2) (hkG1.N 3) (hkG1.N 4) (hkG1.L 0) (hkG1.L 1) (hkG1.I 0) (hkG1.I 1) (hkG1.N 5) (hkG1.N 6) (hkG1.N 7) (hkG1.O 0) (hkG1.O 1) (hkG1.O 2) (hkG1.O 3) (hkG1.O 4) (hkG1.O 5) (hkG1.O 6) (hkG1.R 0) (hkG1.M 2) size (hkG1.N 8) (hkG1.N 9)
  intro Q E G F N d6 d1 pt d3 hi h1 h2 hb hsz r hr hr2 hq
  obtain ⟨B9, X9, T9⟩ := G
  revert X9
  unfold PG
  k_fill
  intro X9
  unfold lawLed at *
  ((unfold lawA lawEnv); (conv in (lawStmt _) => whnf); (conv in (occs := *) lawScope => all_goals whnf))
  walk_at "ls"
  k_dflt refine comp_free (fun _ => true) (fun v y => ∃ i t, v = Value.int i t ∧ Flt.NumIs y (clipAt pt i)) (by rfl) (by decide) (by rfl) (by decide) (by rfl) ?_
  walk_at "ls"
  k_dflt refine' comp_iter_list (L := (hkG1.N 0)) (m := (hkG1.M 2)) (news := _) ?hh ?hF ?hN ?hl ?hz ?_ ?_ ?_
  case hF => exact F
  case hN => exact N
  case hh => rfl
  case hl => exact isList_of (N.get (by k_mem))
  case hz => rw [List.size_toArray, hi.length]; exact Nat.le_trans (Nat.le_of_lt h2) (by decide)
  · intro C v s₃ m₃ E' hv hn hm st; exact wpAny_tests_nil ⟨rfl, keeps_refl _⟩
  · intro C v s₃ m₃ E' hv _ hn hm st
    obtain ⟨w1, t1, hw1, rfl⟩ := ints_mem hi v (by simpa using hv)
    have hbw := hb w1 hw1
    have gpt := st _ _ (N.get (a := (hkG1.N 0) + 1 + 1 + 1) (o := (hkG1.O 2)) (by k_mem))
    have F3 := F.keeps st
    have N3 := N.grown st
    (repeat' ((fail_if_success (with_reducible show wpAny _ _ (call (Value.builtin "max") _ _) _ _ _)); (fail_if_success (with_reducible show wpAny _ _ (call (Value.builtin "min") _ _) _ _ _)); (fail_if_success (with_reducible show wpAny _ _ (call (Value.builtin "sum") _ _) _ _ _)); (walk_at "step")))
    k_dflt refine max_clip (by rfl) fun y h7 tk7 ey st7 => ?_
    (repeat' ((fail_if_success (with_reducible show wpAny _ _ (call (Value.builtin "max") _ _) _ _ _)); (fail_if_success (with_reducible show wpAny _ _ (call (Value.builtin "min") _ _) _ _ _)); (fail_if_success (with_reducible show wpAny _ _ (call (Value.builtin "sum") _ _) _ _ _)); (walk_at "step")))
    k_dflt refine min_clip (by rfl) ey fun z h8 tk8 hz st8 => ?_
    exact ⟨⟨w1, t1, rfl, hz⟩, ⟨_, _, rfl, fun b o e => st8 _ _ (st7 _ _ e)⟩⟩
  · intro D h' tk ys' n' F8 N8 hne st hP
    rw [filter_true] at hP
    have hN8 := nums_of hi hP
    (repeat' ((fail_if_success (with_reducible show wpAny _ _ (call (Value.builtin "max") _ _) _ _ _)); (fail_if_success (with_reducible show wpAny _ _ (call (Value.builtin "min") _ _) _ _ _)); (fail_if_success (with_reducible show wpAny _ _ (call (Value.builtin "sum") _ _) _ _ _)); (walk_at "step")))
    k_dflt refine sum_nums (by rfl) F8 N8 (isList_of (N8.get (by k_mem))) hN8 hr fun v h7 tk7 hv F7 N7 => ?_
    clear F8 N8 F N hP hN8
    cases hv with
    | int n9 t9 =>
      have e9 : n9 = 30 * size := hr2
      walk_at "ls"
      all_goals first | exact hq _ _ F7 (N7.perm fun p hp => .tail _ hp) | ((rename _ ≠ _ => z9); exact absurd e9 z9)
    | float b9 t9 =>
      have e9 : (Float64.cmpInt b9 (30 * size) == some .eq) = true := hr2
      walk_at "ls"
      all_goals first | exact hq _ _ F7 (N7.perm fun p hp => .tail _ hp) | ((rename (_ != _) = true => z9); rw [bne, e9] at z9; cases z9)
  ))
end Z9
theorem hkT : hkS := no_implicit_lambda% (@hkapp _ _ hkK.2 (fun a b c d e f g h i j k l m n o p q r s t u v w x y z xa xb xc xd xe => @epsV Z9.hkP (by with_unfolding_all exact Z9.hkM) (vv e9E e9C e9T e9K e9A (lk [d] d9X) (lk [c] d9S) e9G (lk [a] d9W) (lk [b] d9P) e9Q (lk [xa] d9R) e9V (lk [xc] d9Z) (lk [o, p] d9I) (lk [m, n] d9L) (lk [e, f, xb] d9M) (lk [g] d9H) (lk [t, u, v, w, x, y, z] d9O) (lk [h, i, j, k, l, q, r, s, xd, xe] d9N))))
end st16_c
theorem st16 : st16_c.hkS := @st16_c.hkT
-- RG285
namespace refused_285_c
noncomputable def hkS : Prop := ∀ (w p loose mean mg mb) (s : Shared) (f a c5 : Addr) (oc o5 : Obj) (pm ctv : Value) (qual : Str) (d5 : o5.data = .cell (some (.ref 285))) (hoc : CodeOk qual oc) {g9 : Heap} (C9 : CodeHd g9 355 353) (e2 : @LT.lt Nat _ c5 a) (e3 : @LT.lt Nat _ a f), MutS w p loose mean mg mb 322 [.ref f] [] s [(f, kla_obj (Str.ofString "<lambda>") qual lam18.1 lam18.2.1 lam18.2.2 [(Str.ofString "reader", c5)] pm a ctv), (a, oc), (c5, o5)] 16 300
      (fun h v => v = .bool true ∧ At h [(f, kla_obj (Str.ofString "<lambda>") qual lam18.1 lam18.2.1 lam18.2.2 [(Str.ofString "reader", c5)] pm a ctv), (a, oc), (c5, o5)])
noncomputable def hkK : Σ' P : World → Program → tS → tX → tM → tM → Shared → Addr → Addr → Addr → Obj → Obj → Value → Value → Str → Heap → Nat → Nat → tC → Str → Scope → Addr → Value → tA → tE → Around → Heap → Heap → Addr → tM → Prop, (∀ a b c d e f g h i j k l m n o p q r s t u v w x y z xa xb xc xd, P a b c d e f g h i j k l m n o p q r s t u v w x y z xa xb xc xd) → hkS := ⟨_, fun hk9 => by intro w p loose mean mg mb s f a c5 oc o5 pm ctv qual d5 hoc g9 C9 e2 e3 dp un gd cn cs a9 ccd cl outer A₀ base h₀ L m; revert e3; revert e2; revert C9; revert hoc; revert d5; apply (hk9 w p loose mean mg mb s f a c5 oc o5 pm ctv qual g9 dp un gd cn cs a9 ccd cl outer A₀ base h₀ L m)⟩
namespace Z9
noncomputable def hkP (y : VV) := hkK.1 (y.W 0) (y.P 0) (y.S 0) (y.X 0) (y.M 0) (y.M 1) (y.R 0) (y.N 0) (y.N 1) (y.N 2) (y.O 0) (y.O 1) (y.V 0) (y.V 1) (y.G 0) (y.H 0) (y.N 3) (y.N 4) (y.C 0) (y.G 1) (y.K 0) (y.N 5) (y.V 2) (y.T 0) (y.E 0) (y.A 0) (y.H 1) (y.H 2) (y.N 6) (y.M 2)
@[irreducible] noncomputable def hkG1 := epsV0 hkP
@[irreducible] def f : Addr := hkG1.N 0
@[irreducible] def c5 : Addr := hkG1.N 2
theorem hkM : hkP hkG1 := (by exact @wI _ _ : @wT (hkP hkG1) (by
  with_unfolding_all show hkK.1 (hkG1.W 0) (hkG1.P 0) (hkG1.S 0) (hkG1.X 0) (hkG1.M 0) (hkG1.M 1) (hkG1.R 0) f (hkG1.N 1) c5 (hkG1.O 0) (hkG1.O 1) (hkG1.V 0) (hkG1.V 1) (hkG1.G 0) (hkG1.H 0) (hkG1.N 3) (hkG1.N 4) (hkG1.C 0) (hkG1.G 1) (hkG1.K 0) (hkG1.N 5) (hkG1.V 2) (hkG1.T 0) (hkG1.E 0) (hkG1.A 0) (hkG1.H 1) (hkG1.H 2) (hkG1.N 6) (hkG1.M 2)
  intro d5 hoc C9 e2 e3
  unfold MutSC PG
  k_fill
  (conv in (occs := *) lam18 => all_goals whnf)
  (try dsimp only)
  intro Q E B F N X T D hk9 hd hu hret
  refine wpAny_call ?_
  k_dflt (refine call_turn ?_; k_whole; intro _ _ _ _ _ _ _ _ _ _; (try dsimp only); (try k_fold))
  obtain ⟨vs9, t9, d7, d8⟩ := hoc
  (rename _ = hideAll _ _ => eg)
  rw [← eg] at hret; clear eg
  (with_reducible rename Fr _ _ _ _ => F9)
  have F10 : Fr _ _ _ (fun y => List.lookup y ([(Str.ofString "ask", Value.ref f)] : List (Str × Value))) := F9
  clear F9
  (repeat' ((fail_if_success (with_reducible show wpAny _ _ (callWith _ (Value.ref _) _ _ _) _ _ _)); (walk_at "step")))
  (rename KtsDicts _ _ => D9)
  walk_at "callWith ref"
  k_dflt (refine wpAny_call ?_)
  k_dflt (refine' kla_code ?k1 ?k2 ?k3 ?k4 ?k5 ?kA ?kF ?kK ?k6 ?k7 ?k8 ?k9 ?kB ?_ ?c2 ?c3 ?c4 ?c5; (case kA => exact rfl); (case kF => exact rfl); (case kK => exact rfl); (case k1 => k_asm); (case k2 => k_asm); (case k3 => k_asm); (case k4 => k_asm); (case k5 => k_asm); (case k6 => k_mem); (case k7 => exact codeRec_news (by k_asm) (by k_mem) (by assumption) (by assumption)); (case k8 => k_room); (case k9 => exact rfl); (case c5 => decide); (case kB => exact locs rfl); (case c2 => exact rfl); (case c3 => exact rfl); (case c4 => exact rfl); k_whole; intro g5 L5 h5 FG5 F5 N5 B5 X5 T5; (try dsimp only); (try k_lift B5); (try k_fold))
  have D5 := dicts_ofB B5 FG5 D9 rfl
  walk_at "go"
  all_goals first | (exfalso; omega) | skip
  (with_reducible rename RaisedK _ _ _ _ _ _ _ _ => R7); clear R7
  (with_reducible rename RaisedS _ _ _ _ _ _ _ _ _ => S7); (with_reducible rename Heap.UpToSlots _ _ => U7)
  k_dflt (refine' leave_onSX ?f ?K ?F S7 U7 ?_; (case f => exact rfl); (case K => exact B5); (case F => assumption))
  intro h8 S8 U8
  clear S7 U7
  (try dsimp only at S8 U8 ⊢)
  walk_at "go"
  show Q _ _
  (rename News _ _ _ _ => N8); (rename Fr _ _ _ _ => F8); (rename KtsTurn _ _ _ => T8)
  exact hret _ _ _ _ T8 F8.keep ⟨rfl, by (repeat (first | exact At.nil | refine At.cons (News.get (by assumption) (by k_mem)) ?_))⟩
  ))
end Z9
theorem hkT : hkS := no_implicit_lambda% (@hkapp _ _ hkK.2 (fun a b c d e f g h i j k l m n o p q r s t u v w x y z xa xb xc xd => @epsV Z9.hkP (by with_unfolding_all exact Z9.hkM) (vv (lk [y] d9E) (lk [s] d9C) (lk [x] d9T) (lk [u] d9K) (lk [z] d9A) (lk [d] d9X) (lk [c] d9S) (lk [o, t] d9G) (lk [a] d9W) (lk [b] d9P) e9Q (lk [g] d9R) (lk [m, n, w] d9V) e9Z e9I e9L (lk [e, f, xd] d9M) (lk [p, xa, xb] d9H) (lk [k, l] d9O) (lk [h, i, j, q, r, v, xc] d9N))))
end refused_285_c
theorem refused_285 : refused_285_c.hkS := @refused_285_c.hkT
-- RG292
namespace refused_292_c
noncomputable def hkS : Prop := ∀ (w p loose mean mg mb) (s : Shared) (f a c5 : Addr) (oc o5 : Obj) (pm ctv : Value) (qual : Str) (d5 : o5.data = .cell (some (.ref 292))) (hoc : CodeOk qual oc) {g9 : Heap} (C9 : CodeHd g9 355 353) (e2 : @LT.lt Nat _ c5 a) (e3 : @LT.lt Nat _ a f), MutS w p loose mean mg mb 322 [.ref f] [] s [(f, kla_obj (Str.ofString "<lambda>") qual lam18.1 lam18.2.1 lam18.2.2 [(Str.ofString "reader", c5)] pm a ctv), (a, oc), (c5, o5)] 16 300
      (fun h v => v = .bool true ∧ At h [(f, kla_obj (Str.ofString "<lambda>") qual lam18.1 lam18.2.1 lam18.2.2 [(Str.ofString "reader", c5)] pm a ctv), (a, oc), (c5, o5)])
noncomputable def hkK : Σ' P : World → Program → tS → tX → tM → tM → Shared → Addr → Addr → Addr → Obj → Obj → Value → Value → Str → Heap → Nat → Nat → tC → Str → Scope → Addr → Value → tA → tE → Around → Heap → Heap → Addr → tM → Prop, (∀ a b c d e f g h i j k l m n o p q r s t u v w x y z xa xb xc xd, P a b c d e f g h i j k l m n o p q r s t u v w x y z xa xb xc xd) → hkS := ⟨_, fun hk9 => by intro w p loose mean mg mb s f a c5 oc o5 pm ctv qual d5 hoc g9 C9 e2 e3 dp un gd cn cs a9 ccd cl outer A₀ base h₀ L m; revert e3; revert e2; revert C9; revert hoc; revert d5; apply (hk9 w p loose mean mg mb s f a c5 oc o5 pm ctv qual g9 dp un gd cn cs a9 ccd cl outer A₀ base h₀ L m)⟩
namespace Z9
noncomputable def hkP (y : VV) := hkK.1 (y.W 0) (y.P 0) (y.S 0) (y.X 0) (y.M 0) (y.M 1) (y.R 0) (y.N 0) (y.N 1) (y.N 2) (y.O 0) (y.O 1) (y.V 0) (y.V 1) (y.G 0) (y.H 0) (y.N 3) (y.N 4) (y.C 0) (y.G 1) (y.K 0) (y.N 5) (y.V 2) (y.T 0) (y.E 0) (y.A 0) (y.H 1) (y.H 2) (y.N 6) (y.M 2)
@[irreducible] noncomputable def hkG1 := epsV0 hkP
@[irreducible] def f : Addr := hkG1.N 0
@[irreducible] def c5 : Addr := hkG1.N 2
theorem hkM : hkP hkG1 := (by exact @wI _ _ : @wT (hkP hkG1) (by
  with_unfolding_all show hkK.1 (hkG1.W 0) (hkG1.P 0) (hkG1.S 0) (hkG1.X 0) (hkG1.M 0) (hkG1.M 1) (hkG1.R 0) f (hkG1.N 1) c5 (hkG1.O 0) (hkG1.O 1) (hkG1.V 0) (hkG1.V 1) (hkG1.G 0) (hkG1.H 0) (hkG1.N 3) (hkG1.N 4) (hkG1.C 0) (hkG1.G 1) (hkG1.K 0) (hkG1.N 5) (hkG1.V 2) (hkG1.T 0) (hkG1.E 0) (hkG1.A 0) (hkG1.H 1) (hkG1.H 2) (hkG1.N 6) (hkG1.M 2)
  intro d5 hoc C9 e2 e3
  unfold MutSC PG
  k_fill
  (conv in (occs := *) lam18 => all_goals whnf)
  (try dsimp only)
  intro Q E B F N X T D hk9 hd hu hret
  refine wpAny_call ?_
  k_dflt (refine call_turn ?_; k_whole; intro _ _ _ _ _ _ _ _ _ _; (try dsimp only); (try k_fold))
  obtain ⟨vs9, t9, d7, d8⟩ := hoc
  (rename _ = hideAll _ _ => eg)
  rw [← eg] at hret; clear eg
  (with_reducible rename Fr _ _ _ _ => F9)
  have F10 : Fr _ _ _ (fun y => List.lookup y ([(Str.ofString "ask", Value.ref f)] : List (Str × Value))) := F9
  clear F9
  (repeat' ((fail_if_success (with_reducible show wpAny _ _ (callWith _ (Value.ref _) _ _ _) _ _ _)); (walk_at "step")))
  (rename KtsDicts _ _ => D9)
  walk_at "callWith ref"
  k_dflt (refine wpAny_call ?_)
  k_dflt (refine' kla_code ?k1 ?k2 ?k3 ?k4 ?k5 ?kA ?kF ?kK ?k6 ?k7 ?k8 ?k9 ?kB ?_ ?c2 ?c3 ?c4 ?c5; (case kA => exact rfl); (case kF => exact rfl); (case kK => exact rfl); (case k1 => k_asm); (case k2 => k_asm); (case k3 => k_asm); (case k4 => k_asm); (case k5 => k_asm); (case k6 => k_mem); (case k7 => exact codeRec_news (by k_asm) (by k_mem) (by assumption) (by assumption)); (case k8 => k_room); (case k9 => exact rfl); (case c5 => decide); (case kB => exact locs rfl); (case c2 => exact rfl); (case c3 => exact rfl); (case c4 => exact rfl); k_whole; intro g5 L5 h5 FG5 F5 N5 B5 X5 T5; (try dsimp only); (try k_lift B5); (try k_fold))
  have D5 := dicts_ofB B5 FG5 D9 rfl
  walk_at "go"
  all_goals first | (exfalso; omega) | skip
  (with_reducible rename RaisedK _ _ _ _ _ _ _ _ => R7); clear R7
  (with_reducible rename RaisedS _ _ _ _ _ _ _ _ _ => S7); (with_reducible rename Heap.UpToSlots _ _ => U7)
  k_dflt (refine' leave_onSX ?f ?K ?F S7 U7 ?_; (case f => exact rfl); (case K => exact B5); (case F => assumption))
  intro h8 S8 U8
  clear S7 U7
  (try dsimp only at S8 U8 ⊢)
  walk_at "go"
  show Q _ _
  (rename News _ _ _ _ => N8); (rename Fr _ _ _ _ => F8); (rename KtsTurn _ _ _ => T8)
  exact hret _ _ _ _ T8 F8.keep ⟨rfl, by (repeat (first | exact At.nil | refine At.cons (News.get (by assumption) (by k_mem)) ?_))⟩
  ))
end Z9
theorem hkT : hkS := no_implicit_lambda% (@hkapp _ _ hkK.2 (fun a b c d e f g h i j k l m n o p q r s t u v w x y z xa xb xc xd => @epsV Z9.hkP (by with_unfolding_all exact Z9.hkM) (vv (lk [y] d9E) (lk [s] d9C) (lk [x] d9T) (lk [u] d9K) (lk [z] d9A) (lk [d] d9X) (lk [c] d9S) (lk [o, t] d9G) (lk [a] d9W) (lk [b] d9P) e9Q (lk [g] d9R) (lk [m, n, w] d9V) e9Z e9I e9L (lk [e, f, xd] d9M) (lk [p, xa, xb] d9H) (lk [k, l] d9O) (lk [h, i, j, q, r, v, xc] d9N))))
end refused_292_c
theorem refused_292 : refused_292_c.hkS := @refused_292_c.hkT
-- RG299
namespace refused_299_c
noncomputable def hkS : Prop := ∀ (w p loose mean mg mb) (s : Shared) (f a c5 : Addr) (oc o5 : Obj) (pm ctv : Value) (qual : Str) (d5 : o5.data = .cell (some (.ref 299))) (hoc : CodeOk qual oc) {g9 : Heap} (C9 : CodeHd g9 355 353) (e2 : @LT.lt Nat _ c5 a) (e3 : @LT.lt Nat _ a f), MutS w p loose mean mg mb 322 [.ref f] [] s [(f, kla_obj (Str.ofString "<lambda>") qual lam18.1 lam18.2.1 lam18.2.2 [(Str.ofString "reader", c5)] pm a ctv), (a, oc), (c5, o5)] 16 300
      (fun h v => v = .bool true ∧ At h [(f, kla_obj (Str.ofString "<lambda>") qual lam18.1 lam18.2.1 lam18.2.2 [(Str.ofString "reader", c5)] pm a ctv), (a, oc), (c5, o5)])
noncomputable def hkK : Σ' P : World → Program → tS → tX → tM → tM → Shared → Addr → Addr → Addr → Obj → Obj → Value → Value → Str → Heap → Nat → Nat → tC → Str → Scope → Addr → Value → tA → tE → Around → Heap → Heap → Addr → tM → Prop, (∀ a b c d e f g h i j k l m n o p q r s t u v w x y z xa xb xc xd, P a b c d e f g h i j k l m n o p q r s t u v w x y z xa xb xc xd) → hkS := ⟨_, fun hk9 => by intro w p loose mean mg mb s f a c5 oc o5 pm ctv qual d5 hoc g9 C9 e2 e3 dp un gd cn cs a9 ccd cl outer A₀ base h₀ L m; revert e3; revert e2; revert C9; revert hoc; revert d5; apply (hk9 w p loose mean mg mb s f a c5 oc o5 pm ctv qual g9 dp un gd cn cs a9 ccd cl outer A₀ base h₀ L m)⟩
namespace Z9
noncomputable def hkP (y : VV) := hkK.1 (y.W 0) (y.P 0) (y.S 0) (y.X 0) (y.M 0) (y.M 1) (y.R 0) (y.N 0) (y.N 1) (y.N 2) (y.O 0) (y.O 1) (y.V 0) (y.V 1) (y.G 0) (y.H 0) (y.N 3) (y.N 4) (y.C 0) (y.G 1) (y.K 0) (y.N 5) (y.V 2) (y.T 0) (y.E 0) (y.A 0) (y.H 1) (y.H 2) (y.N 6) (y.M 2)
@[irreducible] noncomputable def hkG1 := epsV0 hkP
@[irreducible] def f : Addr := hkG1.N 0
@[irreducible] def c5 : Addr := hkG1.N 2
theorem hkM : hkP hkG1 := (by exact @wI _ _ : @wT (hkP hkG1) (by
  with_unfolding_all show hkK.1 (hkG1.W 0) (hkG1.P 0) (hkG1.S 0) (hkG1.X 0) (hkG1.M 0) (hkG1.M 1) (hkG1.R 0) f (hkG1.N 1) c5 (hkG1.O 0) (hkG1.O 1) (hkG1.V 0) (hkG1.V 1) (hkG1.G 0) (hkG1.H 0) (hkG1.N 3) (hkG1.N 4) (hkG1.C 0) (hkG1.G 1) (hkG1.K 0) (hkG1.N 5) (hkG1.V 2) (hkG1.T 0) (hkG1.E 0) (hkG1.A 0) (hkG1.H 1) (hkG1.H 2) (hkG1.N 6) (hkG1.M 2)
  intro d5 hoc C9 e2 e3
  unfold MutSC PG
  k_fill
  (conv in (occs := *) lam18 => all_goals whnf)
  (try dsimp only)
  intro Q E B F N X T D hk9 hd hu hret
  refine wpAny_call ?_
  k_dflt (refine call_turn ?_; k_whole; intro _ _ _ _ _ _ _ _ _ _; (try dsimp only); (try k_fold))
  obtain ⟨vs9, t9, d7, d8⟩ := hoc
  (rename _ = hideAll _ _ => eg)
  rw [← eg] at hret; clear eg
  (with_reducible rename Fr _ _ _ _ => F9)
  have F10 : Fr _ _ _ (fun y => List.lookup y ([(Str.ofString "ask", Value.ref f)] : List (Str × Value))) := F9
  clear F9
  (repeat' ((fail_if_success (with_reducible show wpAny _ _ (callWith _ (Value.ref _) _ _ _) _ _ _)); (walk_at "step")))
  (rename KtsDicts _ _ => D9)
  walk_at "callWith ref"
  k_dflt (refine wpAny_call ?_)
  k_dflt (refine' kla_code ?k1 ?k2 ?k3 ?k4 ?k5 ?kA ?kF ?kK ?k6 ?k7 ?k8 ?k9 ?kB ?_ ?c2 ?c3 ?c4 ?c5; (case kA => exact rfl); (case kF => exact rfl); (case kK => exact rfl); (case k1 => k_asm); (case k2 => k_asm); (case k3 => k_asm); (case k4 => k_asm); (case k5 => k_asm); (case k6 => k_mem); (case k7 => exact codeRec_news (by k_asm) (by k_mem) (by assumption) (by assumption)); (case k8 => k_room); (case k9 => exact rfl); (case c5 => decide); (case kB => exact locs rfl); (case c2 => exact rfl); (case c3 => exact rfl); (case c4 => exact rfl); k_whole; intro g5 L5 h5 FG5 F5 N5 B5 X5 T5; (try dsimp only); (try k_lift B5); (try k_fold))
  have D5 := dicts_ofB B5 FG5 D9 rfl
  walk_at "go"
  all_goals first | (exfalso; omega) | skip
  (with_reducible rename RaisedK _ _ _ _ _ _ _ _ => R7); clear R7
  (with_reducible rename RaisedS _ _ _ _ _ _ _ _ _ => S7); (with_reducible rename Heap.UpToSlots _ _ => U7)
  k_dflt (refine' leave_onSX ?f ?K ?F S7 U7 ?_; (case f => exact rfl); (case K => exact B5); (case F => assumption))
  intro h8 S8 U8
  clear S7 U7
  (try dsimp only at S8 U8 ⊢)
  walk_at "go"
  show Q _ _
  (rename News _ _ _ _ => N8); (rename Fr _ _ _ _ => F8); (rename KtsTurn _ _ _ => T8)
  exact hret _ _ _ _ T8 F8.keep ⟨rfl, by (repeat (first | exact At.nil | refine At.cons (News.get (by assumption) (by k_mem)) ?_))⟩
  ))
end Z9
theorem hkT : hkS := no_implicit_lambda% (@hkapp _ _ hkK.2 (fun a b c d e f g h i j k l m n o p q r s t u v w x y z xa xb xc xd => @epsV Z9.hkP (by with_unfolding_all exact Z9.hkM) (vv (lk [y] d9E) (lk [s] d9C) (lk [x] d9T) (lk [u] d9K) (lk [z] d9A) (lk [d] d9X) (lk [c] d9S) (lk [o, t] d9G) (lk [a] d9W) (lk [b] d9P) e9Q (lk [g] d9R) (lk [m, n, w] d9V) e9Z e9I e9L (lk [e, f, xd] d9M) (lk [p, xa, xb] d9H) (lk [k, l] d9O) (lk [h, i, j, q, r, v, xc] d9N))))
end refused_299_c
theorem refused_299 : refused_299_c.hkS := @refused_299_c.hkT
-- RG307
namespace refused_307_c
noncomputable def hkS : Prop := ∀ (w p loose mean mg mb) (s : Shared) (f a c5 : Addr) (oc o5 : Obj) (pm ctv : Value) (qual : Str) (d5 : o5.data = .cell (some (.ref 307))) (hoc : CodeOk qual oc) {g9 : Heap} (C9 : CodeHd g9 355 353) (e2 : @LT.lt Nat _ c5 a) (e3 : @LT.lt Nat _ a f), MutS w p loose mean mg mb 322 [.ref f] [] s [(f, kla_obj (Str.ofString "<lambda>") qual lam18.1 lam18.2.1 lam18.2.2 [(Str.ofString "reader", c5)] pm a ctv), (a, oc), (c5, o5)] 16 300
      (fun h v => v = .bool true ∧ At h [(f, kla_obj (Str.ofString "<lambda>") qual lam18.1 lam18.2.1 lam18.2.2 [(Str.ofString "reader", c5)] pm a ctv), (a, oc), (c5, o5)])
noncomputable def hkK : Σ' P : World → Program → tS → tX → tM → tM → Shared → Addr → Addr → Addr → Obj → Obj → Value → Value → Str → Heap → Nat → Nat → tC → Str → Scope → Addr → Value → tA → tE → Around → Heap → Heap → Addr → tM → Prop, (∀ a b c d e f g h i j k l m n o p q r s t u v w x y z xa xb xc xd, P a b c d e f g h i j k l m n o p q r s t u v w x y z xa xb xc xd) → hkS := ⟨_, fun hk9 => by intro w p loose mean mg mb s f a c5 oc o5 pm ctv qual d5 hoc g9 C9 e2 e3 dp un gd cn cs a9 ccd cl outer A₀ base h₀ L m; revert e3; revert e2; revert C9; revert hoc; revert d5; apply (hk9 w p loose mean mg mb s f a c5 oc o5 pm ctv qual g9 dp un gd cn cs a9 ccd cl outer A₀ base h₀ L m)⟩
namespace Z9
noncomputable def hkP (y : VV) := hkK.1 (y.W 0) (y.P 0) (y.S 0) (y.X 0) (y.M 0) (y.M 1) (y.R 0) (y.N 0) (y.N 1) (y.N 2) (y.O 0) (y.O 1) (y.V 0) (y.V 1) (y.G 0) (y.H 0) (y.N 3) (y.N 4) (y.C 0) (y.G 1) (y.K 0) (y.N 5) (y.V 2) (y.T 0) (y.E 0) (y.A 0) (y.H 1) (y.H 2) (y.N 6) (y.M 2)
@[irreducible] noncomputable def hkG1 := epsV0 hkP
@[irreducible] def f : Addr := hkG1.N 0
@[irreducible] def c5 : Addr := hkG1.N 2
theorem hkM : hkP hkG1 := (by exact @wI _ _ : @wT (hkP hkG1) (by
  with_unfolding_all show hkK.1 (hkG1.W 0) (hkG1.P 0) (hkG1.S 0) (hkG1.X 0) (hkG1.M 0) (hkG1.M 1) (hkG1.R 0) f (hkG1.N 1) c5 (hkG1.O 0) (hkG1.O 1) (hkG1.V 0) (hkG1.V 1) (hkG1.G 0) (hkG1.H 0) (hkG1.N 3) (hkG1.N 4) (hkG1.C 0) (hkG1.G 1) (hkG1.K 0) (hkG1.N 5) (hkG1.V 2) (hkG1.T 0) (hkG1.E 0) (hkG1.A 0) (hkG1.H 1) (hkG1.H 2) (hkG1.N 6) (hkG1.M 2)
  intro d5 hoc C9 e2 e3
  unfold MutSC PG
  k_fill
  (conv in (occs := *) lam18 => all_goals whnf)
  (try dsimp only)
  intro Q E B F N X T D hk9 hd hu hret
  refine wpAny_call ?_
  k_dflt (refine call_turn ?_; k_whole; intro _ _ _ _ _ _ _ _ _ _; (try dsimp only); (try k_fold))
  obtain ⟨vs9, t9, d7, d8⟩ := hoc
  (rename _ = hideAll _ _ => eg)
  rw [← eg] at hret; clear eg
  (with_reducible rename Fr _ _ _ _ => F9)
  have F10 : Fr _ _ _ (fun y => List.lookup y ([(Str.ofString "ask", Value.ref f)] : List (Str × Value))) := F9
  clear F9
  (repeat' ((fail_if_success (with_reducible show wpAny _ _ (callWith _ (Value.ref _) _ _ _) _ _ _)); (walk_at "step")))
  (rename KtsDicts _ _ => D9)
  walk_at "callWith ref"
  k_dflt (refine wpAny_call ?_)
  k_dflt (refine' kla_code ?k1 ?k2 ?k3 ?k4 ?k5 ?kA ?kF ?kK ?k6 ?k7 ?k8 ?k9 ?kB ?_ ?c2 ?c3 ?c4 ?c5; (case kA => exact rfl); (case kF => exact rfl); (case kK => exact rfl); (case k1 => k_asm); (case k2 => k_asm); (case k3 => k_asm); (case k4 => k_asm); (case k5 => k_asm); (case k6 => k_mem); (case k7 => exact codeRec_news (by k_asm) (by k_mem) (by assumption) (by assumption)); (case k8 => k_room); (case k9 => exact rfl); (case c5 => decide); (case kB => exact locs rfl); (case c2 => exact rfl); (case c3 => exact rfl); (case c4 => exact rfl); k_whole; intro g5 L5 h5 FG5 F5 N5 B5 X5 T5; (try dsimp only); (try k_lift B5); (try k_fold))
  have D5 := dicts_ofB B5 FG5 D9 rfl
  walk_at "go"
  all_goals first | (exfalso; omega) | skip
  (with_reducible rename RaisedK _ _ _ _ _ _ _ _ => R7); clear R7
  (with_reducible rename RaisedS _ _ _ _ _ _ _ _ _ => S7); (with_reducible rename Heap.UpToSlots _ _ => U7)
  k_dflt (refine' leave_onSX ?f ?K ?F S7 U7 ?_; (case f => exact rfl); (case K => exact B5); (case F => assumption))
  intro h8 S8 U8
  clear S7 U7
  (try dsimp only at S8 U8 ⊢)
  walk_at "go"
  show Q _ _
  (rename News _ _ _ _ => N8); (rename Fr _ _ _ _ => F8); (rename KtsTurn _ _ _ => T8)
  exact hret _ _ _ _ T8 F8.keep ⟨rfl, by (repeat (first | exact At.nil | refine At.cons (News.get (by assumption) (by k_mem)) ?_))⟩
  ))
end Z9
theorem hkT : hkS := no_implicit_lambda% (@hkapp _ _ hkK.2 (fun a b c d e f g h i j k l m n o p q r s t u v w x y z xa xb xc xd => @epsV Z9.hkP (by with_unfolding_all exact Z9.hkM) (vv (lk [y] d9E) (lk [s] d9C) (lk [x] d9T) (lk [u] d9K) (lk [z] d9A) (lk [d] d9X) (lk [c] d9S) (lk [o, t] d9G) (lk [a] d9W) (lk [b] d9P) e9Q (lk [g] d9R) (lk [m, n, w] d9V) e9Z e9I e9L (lk [e, f, xd] d9M) (lk [p, xa, xb] d9H) (lk [k, l] d9O) (lk [h, i, j, q, r, v, xc] d9N))))
end refused_307_c
theorem refused_307 : refused_307_c.hkS := @refused_307_c.hkT
-- RG315
namespace refused_315_c
noncomputable def hkS : Prop := ∀ (w p loose mean mg mb) (s : Shared) (f a c5 : Addr) (oc o5 : Obj) (pm ctv : Value) (qual : Str) (d5 : o5.data = .cell (some (.ref 315))) (hoc : CodeOk qual oc) {g9 : Heap} (C9 : CodeHd g9 355 353) (e2 : @LT.lt Nat _ c5 a) (e3 : @LT.lt Nat _ a f), MutS w p loose mean mg mb 322 [.ref f] [] s [(f, kla_obj (Str.ofString "<lambda>") qual lam18.1 lam18.2.1 lam18.2.2 [(Str.ofString "reader", c5)] pm a ctv), (a, oc), (c5, o5)] 16 300
      (fun h v => v = .bool true ∧ At h [(f, kla_obj (Str.ofString "<lambda>") qual lam18.1 lam18.2.1 lam18.2.2 [(Str.ofString "reader", c5)] pm a ctv), (a, oc), (c5, o5)])
noncomputable def hkK : Σ' P : World → Program → tS → tX → tM → tM → Shared → Addr → Addr → Addr → Obj → Obj → Value → Value → Str → Heap → Nat → Nat → tC → Str → Scope → Addr → Value → tA → tE → Around → Heap → Heap → Addr → tM → Prop, (∀ a b c d e f g h i j k l m n o p q r s t u v w x y z xa xb xc xd, P a b c d e f g h i j k l m n o p q r s t u v w x y z xa xb xc xd) → hkS := ⟨_, fun hk9 => by intro w p loose mean mg mb s f a c5 oc o5 pm ctv qual d5 hoc g9 C9 e2 e3 dp un gd cn cs a9 ccd cl outer A₀ base h₀ L m; revert e3; revert e2; revert C9; revert hoc; revert d5; apply (hk9 w p loose mean mg mb s f a c5 oc o5 pm ctv qual g9 dp un gd cn cs a9 ccd cl outer A₀ base h₀ L m)⟩
namespace Z9
noncomputable def hkP (y : VV) := hkK.1 (y.W 0) (y.P 0) (y.S 0) (y.X 0) (y.M 0) (y.M 1) (y.R 0) (y.N 0) (y.N 1) (y.N 2) (y.O 0) (y.O 1) (y.V 0) (y.V 1) (y.G 0) (y.H 0) (y.N 3) (y.N 4) (y.C 0) (y.G 1) (y.K 0) (y.N 5) (y.V 2) (y.T 0) (y.E 0) (y.A 0) (y.H 1) (y.H 2) (y.N 6) (y.M 2)
@[irreducible] noncomputable def hkG1 := epsV0 hkP
@[irreducible] def f : Addr := hkG1.N 0
@[irreducible] def c5 : Addr := hkG1.N 2
theorem hkM : hkP hkG1 := (by exact @wI _ _ : @wT (hkP hkG1) (by
  with_unfolding_all show hkK.1 (hkG1.W 0) (hkG1.P 0) (hkG1.S 0) (hkG1.X 0) (hkG1.M 0) (hkG1.M 1) (hkG1.R 0) f (hkG1.N 1) c5 (hkG1.O 0) (hkG1.O 1) (hkG1.V 0) (hkG1.V 1) (hkG1.G 0) (hkG1.H 0) (hkG1.N 3) (hkG1.N 4) (hkG1.C 0) (hkG1.G 1) (hkG1.K 0) (hkG1.N 5) (hkG1.V 2) (hkG1.T 0) (hkG1.E 0) (hkG1.A 0) (hkG1.H 1) (hkG1.H 2) (hkG1.N 6) (hkG1.M 2)
  intro d5 hoc C9 e2 e3
  unfold MutSC PG
  k_fill
  (conv in (occs := *) lam18 => all_goals whnf)
  (try dsimp only)
  intro Q E B F N X T D hk9 hd hu hret
  refine wpAny_call ?_
  k_dflt (refine call_turn ?_; k_whole; intro _ _ _ _ _ _ _ _ _ _; (try dsimp only); (try k_fold))
  obtain ⟨vs9, t9, d7, d8⟩ := hoc
  (rename _ = hideAll _ _ => eg)
  rw [← eg] at hret; clear eg
  (with_reducible rename Fr _ _ _ _ => F9)
  have F10 : Fr _ _ _ (fun y => List.lookup y ([(Str.ofString "ask", Value.ref f)] : List (Str × Value))) := F9
  clear F9
  (repeat' ((fail_if_success (with_reducible show wpAny _ _ (callWith _ (Value.ref _) _ _ _) _ _ _)); (walk_at "step")))
  (rename KtsDicts _ _ => D9)
  walk_at "callWith ref"
  k_dflt (refine wpAny_call ?_)
  k_dflt (refine' kla_code ?k1 ?k2 ?k3 ?k4 ?k5 ?kA ?kF ?kK ?k6 ?k7 ?k8 ?k9 ?kB ?_ ?c2 ?c3 ?c4 ?c5; (case kA => exact rfl); (case kF => exact rfl); (case kK => exact rfl); (case k1 => k_asm); (case k2 => k_asm); (case k3 => k_asm); (case k4 => k_asm); (case k5 => k_asm); (case k6 => k_mem); (case k7 => exact codeRec_news (by k_asm) (by k_mem) (by assumption) (by assumption)); (case k8 => k_room); (case k9 => exact rfl); (case c5 => decide); (case kB => exact locs rfl); (case c2 => exact rfl); (case c3 => exact rfl); (case c4 => exact rfl); k_whole; intro g5 L5 h5 FG5 F5 N5 B5 X5 T5; (try dsimp only); (try k_lift B5); (try k_fold))
  have D5 := dicts_ofB B5 FG5 D9 rfl
  walk_at "go"
  all_goals first | (exfalso; omega) | skip
  (with_reducible rename RaisedK _ _ _ _ _ _ _ _ => R7); clear R7
  (with_reducible rename RaisedS _ _ _ _ _ _ _ _ _ => S7); (with_reducible rename Heap.UpToSlots _ _ => U7)
  k_dflt (refine' leave_onSX ?f ?K ?F S7 U7 ?_; (case f => exact rfl); (case K => exact B5); (case F => assumption))
  intro h8 S8 U8
  clear S7 U7
  (try dsimp only at S8 U8 ⊢)
  walk_at "go"
  show Q _ _
  (rename News _ _ _ _ => N8); (rename Fr _ _ _ _ => F8); (rename KtsTurn _ _ _ => T8)
  exact hret _ _ _ _ T8 F8.keep ⟨rfl, by (repeat (first | exact At.nil | refine At.cons (News.get (by assumption) (by k_mem)) ?_))⟩
  ))
end Z9
theorem hkT : hkS := no_implicit_lambda% (@hkapp _ _ hkK.2 (fun a b c d e f g h i j k l m n o p q r s t u v w x y z xa xb xc xd => @epsV Z9.hkP (by with_unfolding_all exact Z9.hkM) (vv (lk [y] d9E) (lk [s] d9C) (lk [x] d9T) (lk [u] d9K) (lk [z] d9A) (lk [d] d9X) (lk [c] d9S) (lk [o, t] d9G) (lk [a] d9W) (lk [b] d9P) e9Q (lk [g] d9R) (lk [m, n, w] d9V) e9Z e9I e9L (lk [e, f, xd] d9M) (lk [p, xa, xb] d9H) (lk [k, l] d9O) (lk [h, i, j, q, r, v, xc] d9N))))
end refused_315_c
theorem refused_315 : refused_315_c.hkS := @refused_315_c.hkT
-- RG
theorem refused_r (w p loose mean mg mb) (s : Shared) (f a c5 : Addr) (oc o5 : Obj) (pm ctv : Value) (qual : Str) (R : Addr) (hR : R = 285 ∨ R = 292 ∨ R = 299 ∨ R = 307 ∨ R = 315) (d5 : o5.data = .cell (some (.ref R))) (hoc : CodeOk qual oc) {g9 : Heap} (C9 : CodeHd g9 355 353)
    (e2 : @LT.lt Nat _ c5 a) (e3 : @LT.lt Nat _ a f) :
    MutS w p loose mean mg mb 322 [.ref f] [] s [(f, kla_obj (Str.ofString "<lambda>") qual lam18.1 lam18.2.1 lam18.2.2 [(Str.ofString "reader", c5)] pm a ctv), (a, oc), (c5, o5)] 16 300
      (fun h v => v = .bool true ∧ At h [(f, kla_obj (Str.ofString "<lambda>") qual lam18.1 lam18.2.1 lam18.2.2 [(Str.ofString "reader", c5)] pm a ctv), (a, oc), (c5, o5)]) := by
  rcases hR with rfl | rfl | rfl | rfl | rfl
  · exact refused_285 w p loose mean mg mb s f a c5 oc o5 pm ctv qual d5 hoc C9 e2 e3
  · exact refused_292 w p loose mean mg mb s f a c5 oc o5 pm ctv qual d5 hoc C9 e2 e3
  · exact refused_299 w p loose mean mg mb s f a c5 oc o5 pm ctv qual d5 hoc C9 e2 e3
  · exact refused_307 w p loose mean mg mb s f a c5 oc o5 pm ctv qual d5 hoc C9 e2 e3
  · exact refused_315 w p loose mean mg mb s f a c5 oc o5 pm ctv qual d5 hoc C9 e2 e3
-- S18
namespace st18_c
noncomputable def hkS : Prop := ∀ {w p loose mean mg mb} {g : Heap} {L fa Dr Dk Dw : Addr} {ys vs : List Value} {rs rise : List Int} {kr kk kw : Nat} {o1 o2 o3 o4 o5 o6 oP : Obj} {s : Shared} {m : Str → Option Value} {Q : Flow → Shared → Prop} {E : Value → Shared → Prop} (G : LawG w p loose mean mg mb g) (F : Fr g L s.heap m) (N : News g L s.heap (lawLed L Dr Dk Dw ys vs kr kk kw o1 o2 o3 o4 o5 o6 oP)) (d5 : o5.data = .cell none) (lP : @LT.lt Nat _ 353 L) (l0 : @LT.lt Nat _ (L + 1 + 1 + 1 + 1 + 1 + 1) Dw) (l1 : @LT.lt Nat _ Dw Dk) (l2 : @LT.lt Nat _ Dk Dr) {ps : Array Value} (hP : oP = tabObj ps) (hps : ∃ b : Addr, ps = #[rawInt 294, rawInt 32, .ref b]) (C9 : CodeHd g 355 353) (hE : PassesOwn (model PG w) (lawA L fa) (lawEnv L fa) E) (hq : ∀ h' tk' o5' q, Fr g L h' m → News g L h' (lawLed L Dr Dk Dw ys vs kr kk kw o1 o2 o3 o4 o5' o6 (madeTab 315 28 ps q)) → Q .next { s with heap := h', toks := tk' }), wpAny (model PG w) (lawA L fa) (exec (lawStmt 18) (lawEnv L fa)) Q E s
noncomputable def hkK : Σ' P : World → Program → tS → tX → tM → tM → Heap → Addr → Addr → Addr → Addr → Addr → tV → tV → tI → tI → Nat → Nat → Nat → Obj → Obj → Obj → Obj → Obj → Obj → Shared → tM → Prop, (∀ a b c d e f g h i j k l m n o p q r s t u v w x y z xa, P a b c d e f g h i j k l m n o p q r s t u v w x y z xa) → hkS := ⟨_, fun hk9 => by intro w p loose mean mg mb g L fa Dr Dk Dw ys vs rs rise kr kk kw o1 o2 o3 o4 o5 o6 oP s m Q E G F N d5 lP l0 l1 l2 ps hP hps C9 hE hq; revert hq; revert hE; revert C9; revert hps; revert hP; revert ps; revert l2; revert l1; revert l0; revert lP; revert d5; revert N; revert F; revert G; revert E; revert Q; revert oP; apply (hk9 w p loose mean mg mb g L fa Dr Dk Dw ys vs rs rise kr kk kw o1 o2 o3 o4 o5 o6 s m)⟩
namespace Z9
noncomputable def hkP (y : VV) := hkK.1 (y.W 0) (y.P 0) (y.S 0) (y.X 0) (y.M 0) (y.M 1) (y.H 0) (y.N 0) (y.N 1) (y.N 2) (y.N 3) (y.N 4) (y.L 0) (y.L 1) (y.I 0) (y.I 1) (y.N 5) (y.N 6) (y.N 7) (y.O 0) (y.O 1) (y.O 2) (y.O 3) (y.O 4) (y.O 5) (y.R 0) (y.M 2)
@[irreducible] noncomputable def hkG1 := epsV0 hkP
@[irreducible] def p : Program := hkG1.P 0
@[irreducible] def L : Addr := hkG1.N 0
@[irreducible] def Dr : Addr := hkG1.N 2
@[irreducible] def Dk : Addr := hkG1.N 3
@[irreducible] def Dw : Addr := hkG1.N 4
@[irreducible] def ys : tV := hkG1.L 0
@[irreducible] def vs : tV := hkG1.L 1
@[irreducible] def kr : Nat := hkG1.N 5
@[irreducible] def kk : Nat := hkG1.N 6
@[irreducible] def kw : Nat := hkG1.N 7
@[irreducible] def o1 : Obj := hkG1.O 0
@[irreducible] def o2 : Obj := hkG1.O 1
@[irreducible] def o3 : Obj := hkG1.O 2
@[irreducible] def o4 : Obj := hkG1.O 3
@[irreducible] def o5 : Obj := hkG1.O 4
@[irreducible] def o6 : Obj := hkG1.O 5
theorem hkM : hkP hkG1 := (by exact @wI _ _ : @wT (hkP hkG1) (by
  with_unfolding_all show hkK.1 (hkG1.W 0) p (hkG1.S 0) (hkG1.X 0) (hkG1.M 0) (hkG1.M 1) (hkG1.H 0) L (hkG1.N 1) Dr Dk Dw ys vs (hkG1.I 0) (hkG1.I 1) kr kk kw o1 o2 o3 o4 o5 o6 (hkG1.R 0) (hkG1.M 2)
  intro oP Q E G F N d5 lP l0 l1 l2 ps hP hps C9 hE hq
  subst hP
  obtain ⟨B9, X9, T9⟩ := G
  revert X9
  unfold PG
  k_fill
  intro X9
  unfold lawLed at *
  ((unfold lawA lawEnv); (conv in (lawStmt _) => whnf); (conv in (occs := *) lawScope => all_goals whnf))
  k_dflt refine' For_turns F ?_ (fun _ => rfl) hE
  (repeat' ((fail_if_success (with_reducible show wpAny _ _ (call (Value.ref _) _ _) _ _ _)); (fail_if_success (with_reducible show CompToks _ _ _ _ _ _ _ _ _ _ _ _)); (fail_if_success (with_reducible show CompIt _ _ _ _ _ _ _ _ _ _ _ _ _ _)); (fail_if_success (with_reducible show wpAny _ _ (exec (Stmt.For _ _ _ _ _) _) _ _ _)); (fail_if_success (with_reducible show wpAny _ _ (pyIter (Value.ref _)) _ _ _)); (walk_at "step")))
  (rename News _ _ _ _ => N9); (rename Fr _ _ _ _ => F9)
  k_dflt refine' iter_tupTurns rfl F9 N9 (List.mem_cons_self ..) rfl rfl (fun I hI => ?_)
  refine items_led (σ := Obj × Option (Addr × Obj)) (vs := _) (fun c => madeLed c.2 ++ _ :: lawLed L Dr Dk Dw ys vs kr kk kw o1 o2 o3 o4 c.1 o6 (madeTab 315 28 ps c.2)) (fun _ c m' => (∃ x, c.1.data = .cell x) ∧ (∀ q, c.2 = some q → CodeOk lamQual q.2 ∧ @LT.lt Nat _ I q.1) ∧ m' = (hkG1.M 2)) (fun us c m' hc p hp => ?off) (fun c => List.mem_append_right _ (List.mem_cons_self ..)) ?turn ?done _ (o5, none) _ (fun v hv => hv) ⟨⟨_, d5⟩, (fun q hq => nomatch hq), rfl⟩
  case off =>
    rcases List.mem_append.mp hp with hp | hp
    · obtain ⟨c, _ | q⟩ := c
      · exact nomatch hp
      · rw [List.mem_singleton.mp hp]
        exact Nat.ne_of_gt (hc.2.1 q rfl).2
    · have k2 : p.1 ∈ (_ :: lawLed L Dr Dk Dw ys vs kr kk kw o1 o2 o3 o4 o5 o6 (tabObj ps)).map (·.1) := List.mem_map_of_mem (f := (·.1)) hp
      obtain ⟨q, hq, e⟩ := List.mem_map.mp k2
      rw [← e]
      exact Nat.ne_of_lt (hI q hq)
  case done =>
    rintro ⟨c, q⟩ m9 h tk ⟨dc, hq2, rfl⟩ F3 N3
    exact hq _ _ c q F3 (N3.perm fun p hp => List.mem_append_right _ (List.mem_cons_of_mem _ hp))
  case turn =>
    rintro ⟨c, q⟩ m9 v r9 h tk o hP ⟨⟨x, dc⟩, hq2, rfl⟩ F3 N3
    have hv : ∃ R : Addr, v = Value.ref R ∧ (R = 285 ∨ R = 292 ∨ R = 299 ∨ R = 307 ∨ R = 315) := by
      simp only [List.mem_cons, List.not_mem_nil, or_false] at hP
      rcases hP with rfl | rfl | rfl | rfl | rfl <;> exact ⟨_, rfl, by decide⟩
    obtain ⟨R, rfl, hR⟩ := hv
    have lI : @LT.lt Nat _ Dr I := hI (Dr, _) (List.mem_cons_of_mem _ (List.mem_cons_self ..))
    clear hP F9 N9
    dsimp only at N3
    obtain ⟨b, rfl⟩ := hps
    rcases q with _ | ⟨a, oc⟩
    · dsimp only [madeLed, madeTab, List.nil_append] at N3
      unfold lawLed at N3
      walk_at "ls"
      rename_i h8 o8 F8 N8 d8 f9 c9 oc9 vs9 t9 ct9 h9 tk9 F5 N5 d51 d52 l5 l6
      k_dflt refine' refused_r (hkG1.W 0) p (hkG1.S 0) (hkG1.X 0) (hkG1.M 0) (hkG1.M 1) _ f9 c9 (L + 1 + 1 + 1 + 1 + 1) oc9 o8 (((hkG1.M 0) (Str.ofString "__name__")).getD .none) ct9 lamQual R hR d8 ⟨vs9, t9, d51, d52⟩ C9 ?e2 ?e3 _ _ _ _ _ _ _ _ [] callerA (hkG1.H 0) (hkG1.H 0) L _ _ _ B9 F5 ?hN X9 T9 ktsDicts_nil (by rfl) (by ktr_room) (by ktr_units) ?_
      case e2 => show @LT.lt Nat _ _ _; first | exact al0 | exact al1 | exact al2 | exact al3 | exact al4 | exact al5 | exact al6 | exact al7 | exact al8 | exact al9 | exact al10 | omega
      case e3 => show @LT.lt Nat _ _ _; first | exact al0 | exact al1 | exact al2 | exact al3 | exact al4 | exact al5 | exact al6 | exact al7 | exact al8 | exact al9 | exact al10 | omega
      case hN =>
        refine N5.perm ?_
        ((conv in (occs := *) lam18 => all_goals whnf); (try dsimp only))
        (repeat (first | exact List.forall_mem_nil _ | refine List.forall_mem_cons.mpr ⟨by k_mem, ?_⟩))
      rintro v h6 tk6 g6 T6 S6 ⟨rfl, A6⟩
      have back := fun hs => turn_muts (fa := (hkG1.N 1)) B9 F5 N5 hs T6 S6 A6
      obtain ⟨F6, N6⟩ := back (by ((conv in (occs := *) lam18 => all_goals whnf); (try dsimp only)); (repeat (first | exact List.forall_mem_nil _ | refine List.forall_mem_cons.mpr ⟨by k_mem, ?_⟩)))
      clear back A6 T6 S6 F5 N5
      walk_at "ls"
      (rename News _ _ _ _ => N7); (rename Fr _ _ _ _ => F7)
      refine UnEnd.intro (o8, some (c9, oc9)) F7 (N7.perm ?_) ⟨⟨_, d8⟩, ?_, rfl⟩
      · (repeat (first | exact List.forall_mem_nil _ | refine List.forall_mem_cons.mpr ⟨by k_mem, ?_⟩))
      · intro q hq; cases hq; exact ⟨⟨vs9, t9, d51, d52⟩, by show @LT.lt Nat _ _ _; first | exact al0 | exact al1 | exact al2 | exact al3 | exact al4 | exact al5 | exact al6 | exact al7 | exact al8 | exact al9 | exact al10 | omega⟩
    · obtain ⟨hco, lq⟩ := hq2 _ rfl
      dsimp only at lq hco
      dsimp only [madeLed, madeTab, List.cons_append, List.nil_append] at N3
      unfold lawLed at N3
      walk_at "ls"
      rename_i h8 o8 F8 N8 d8 f9 ct9 h9 tk9 F5 N5 l5
      k_dflt refine' refused_r (hkG1.W 0) p (hkG1.S 0) (hkG1.X 0) (hkG1.M 0) (hkG1.M 1) _ f9 a (L + 1 + 1 + 1 + 1 + 1) oc o8 (((hkG1.M 0) (Str.ofString "__name__")).getD .none) ct9 lamQual R hR d8 hco C9 ?e2 ?e3 _ _ _ _ _ _ _ _ [] callerA (hkG1.H 0) (hkG1.H 0) L _ _ _ B9 F5 ?hN X9 T9 ktsDicts_nil (by rfl) (by ktr_room) (by ktr_units) ?_
      case e2 => show @LT.lt Nat _ _ _; first | exact al0 | exact al1 | exact al2 | exact al3 | exact al4 | exact al5 | exact al6 | exact al7 | exact al8 | exact al9 | exact al10 | omega
      case e3 => show @LT.lt Nat _ _ _; first | exact al0 | exact al1 | exact al2 | exact al3 | exact al4 | exact al5 | exact al6 | exact al7 | exact al8 | exact al9 | exact al10 | omega
      case hN =>
        refine N5.perm ?_
        ((conv in (occs := *) lam18 => all_goals whnf); (try dsimp only))
        (repeat (first | exact List.forall_mem_nil _ | refine List.forall_mem_cons.mpr ⟨by k_mem, ?_⟩))
      rintro v h6 tk6 g6 T6 S6 ⟨rfl, A6⟩
      have back := fun hs => turn_muts (fa := (hkG1.N 1)) B9 F5 N5 hs T6 S6 A6
      obtain ⟨F6, N6⟩ := back (by ((conv in (occs := *) lam18 => all_goals whnf); (try dsimp only)); (repeat (first | exact List.forall_mem_nil _ | refine List.forall_mem_cons.mpr ⟨by k_mem, ?_⟩)))
      clear back A6 T6 S6 F5 N5
      walk_at "ls"
      (rename News _ _ _ _ => N7); (rename Fr _ _ _ _ => F7)
      refine UnEnd.intro (o8, some (a, oc)) F7 (N7.perm ?_) ⟨⟨_, d8⟩, ?_, rfl⟩
      · (repeat (first | exact List.forall_mem_nil _ | refine List.forall_mem_cons.mpr ⟨by k_mem, ?_⟩))
      · intro q hq; cases hq; exact ⟨hco, by show @LT.lt Nat _ _ _; first | exact al0 | exact al1 | exact al2 | exact al3 | exact al4 | exact al5 | exact al6 | exact al7 | exact al8 | exact al9 | exact al10 | omega⟩
  ))
end Z9
theorem hkT : hkS := no_implicit_lambda% (@hkapp _ _ hkK.2 (fun a b c d e f g h i j k l m n o p q r s t u v w x y z xa => @epsV Z9.hkP (by with_unfolding_all exact Z9.hkM) (vv e9E e9C e9T e9K e9A (lk [d] d9X) (lk [c] d9S) e9G (lk [a] d9W) (lk [b] d9P) e9Q (lk [z] d9R) e9V e9Z (lk [o, p] d9I) (lk [m, n] d9L) (lk [e, f, xa] d9M) (lk [g] d9H) (lk [t, u, v, w, x, y] d9O) (lk [h, i, j, k, l, q, r, s] d9N))))
end st18_c
theorem st18 : st18_c.hkS := @st18_c.hkT
-- S19
theorem st19 {w p loose mean mg mb} {g : Heap} {L fa Dr Dk Dw : Addr} {ys vs : List Value} {rs rise : List Int} {kr kk kw : Nat} {o1 o2 o3 o4 o5 o6 oP : Obj} {s : Shared} {m : Str → Option Value} {Q : Flow → Shared → Prop} {E : Value → Shared → Prop}
    (G : LawG w p loose mean mg mb g) (F : Fr g L s.heap m) (N : News g L s.heap (lawLed L Dr Dk Dw ys vs kr kk kw o1 o2 o3 o4 o5 o6 oP)) (d6 : o6.data = .cell (some (.ref Dw))) (hi : IntsAre vs rs) (h2 : rs.length < 6) (mk : m (Str.ofString "kept") = some (.ref Dk))
    (hq : ∀ h' tk', Fr g L h' m → News g L h' (lawLed L Dr Dk Dw ys vs kr kk kw o1 o2 o3 o4 o5 o6 oP) → Q (.ret (.bool true)) { s with heap := h', toks := tk' }) :
    wpAny (model PG w) (lawA L fa) (exec (lawStmt 19) (lawEnv L fa)) Q E s := by
  have F1 := fr_know F mk
  clear F
  obtain ⟨B9, X9, T9⟩ := G
  revert X9
  unfold PG
  k_fill
  intro X9
  unfold lawLed at *
  ((unfold lawA lawEnv); (conv in (lawStmt _) => whnf); (conv in (occs := *) lawScope => all_goals whnf))
  walk_at "ls"
  refine hq _ _ (fr_eq F1 ?_) N
  (intro z; (try dsimp only); repeat' split; all_goals first | rfl | (subst_vars; (try simp only [if_true]); first | rfl | assumption | (symm; assumption) | simp_all) | simp_all)
-- S6
noncomputable abbrev preLed (L Dk Dw : Addr) (vs : List Value) (kk kw : Nat) (o1 o2 o3 o4 o5 o6 oP : Obj) : List (Addr × Obj) :=
  [(Dk, W.listOf vs.toArray kk), (Dw, W.listOf vs.toArray kw), (L + 1 + 1 + 1 + 1 + 1 + 1, o6), (L + 1 + 1 + 1 + 1 + 1, o5), (L + 1 + 1 + 1 + 1, o4), (L + 1 + 1 + 1, o3), (L + 1 + 1, o2), (L + 1, o1), (353, oP)]
noncomputable def riseOf (rs : List Int) (mid : Int) : List Int := (rangeKs (-4) 9).flatMap fun p => rs.filter fun v => decide (v = 60 * (p + mid))
namespace st6_c
noncomputable def hkS : Prop := ∀ {w p loose mean mg mb} {g : Heap} {L fa Dk Dw : Addr} {vs : List Value} {rs : List Int} {kk kw : Nat} {o1 o2 o3 o4 o5 o6 oP : Obj} {s : Shared} {m : Str → Option Value} {Q : Flow → Shared → Prop} {E : Value → Shared → Prop} (G : LawG w p loose mean mg mb g) (F : Fr g L s.heap m) (N : News g L s.heap (preLed L Dk Dw vs kk kw o1 o2 o3 o4 o5 o6 oP)) (d6 : o6.data = .cell (some (.ref Dw))) {mid : Int} {tm : Tok} (d2 : o2.data = .cell (some (.int mid tm))) (hi : IntsAre vs rs) (h2 : rs.length < 6) (hb : ∀ x ∈ rs, -100000 ≤ x ∧ x ≤ 100000) (hm1 : -50 ≤ mid) (hm2 : mid ≤ 49) (hq : ∀ h' tk' Dr ys kr, IntsAre ys (riseOf rs mid) → @LT.lt Nat _ Dk Dr → Fr g L h' (fun z => if z = Str.ofString "rise" then some (.ref Dr) else m z) → News g L h' (lawLed L Dr Dk Dw ys vs kr kk kw o1 o2 o3 o4 o5 o6 oP) → Q .next { s with heap := h', toks := tk' }), wpAny (model PG w) (lawA L fa) (exec (lawStmt 6) (lawEnv L fa)) Q E s
noncomputable def hkK : Σ' P : World → Program → tS → tX → tM → tM → Heap → Addr → Addr → Addr → Addr → tV → tI → Nat → Nat → Obj → Obj → Obj → Obj → Obj → Obj → Obj → Shared → tM → Int → Tok → Prop, (∀ a b c d e f g h i j k l m n o p q r s t u v w x y z, P a b c d e f g h i j k l m n o p q r s t u v w x y z) → hkS := ⟨_, fun hk9 => by intro w p loose mean mg mb g L fa Dk Dw vs rs kk kw o1 o2 o3 o4 o5 o6 oP s m Q E G F N d6 mid tm d2 hi h2 hb hm1 hm2 hq; revert hq; revert hm2; revert hm1; revert hb; revert h2; revert hi; revert d2; revert d6; revert N; revert F; revert G; revert E; revert Q; apply (hk9 w p loose mean mg mb g L fa Dk Dw vs rs kk kw o1 o2 o3 o4 o5 o6 oP s m mid tm)⟩
namespace Z9
noncomputable def hkP (y : VV) := hkK.1 (y.W 0) (y.P 0) (y.S 0) (y.X 0) (y.M 0) (y.M 1) (y.H 0) (y.N 0) (y.N 1) (y.N 2) (y.N 3) (y.L 0) (y.I 0) (y.N 4) (y.N 5) (y.O 0) (y.O 1) (y.O 2) (y.O 3) (y.O 4) (y.O 5) (y.O 6) (y.R 0) (y.M 2) (y.Z 0) (y.N 6)
@[irreducible] noncomputable def hkG1 := epsV0 hkP
@[irreducible] def p : Program := hkG1.P 0
@[irreducible] def mid : Int := hkG1.Z 0
theorem hkM : hkP hkG1 := (by exact @wI _ _ : @wT (hkP hkG1) (by
  with_unfolding_all show hkK.1 (hkG1.W 0) p (hkG1.S 0) (hkG1.X 0) (hkG1.M 0) (hkG1.M 1) (hkG1.H 0) (hkG1.N 0) (hkG1.N 1) (hkG1.N 2) (hkG1.N 3) (hkG1.L 0) (hkG1.I 0) (hkG1.N 4) (hkG1.N 5) (hkG1.O 0) (hkG1.O 1) (hkG1.O 2) (hkG1.O 3) (hkG1.O 4) (hkG1.O 5) (hkG1.O 6) (hkG1.R 0) (hkG1.M 2) mid (hkG1.N 6)
  intro Q E G F N d6 d2 hi h2 hb hm1 hm2 hq
  obtain ⟨B9, X9, T9⟩ := G
  revert X9
  unfold PG
  k_fill
  intro X9
  unfold preLed at *
  ((unfold lawA lawEnv); (conv in (lawStmt _) => whnf); (conv in (occs := *) lawScope => all_goals whnf))
  (try dsimp only)
  k_dflt refine assign_two (-4) 9 (fun p v => decide (v = 60 * (p + mid))) F (by rfl) (by rfl) (by rfl) (by rfl) (by decide) (by rfl) (by decide) (by rfl) (by rfl) (by decide) (by rfl) (by rfl) ?_
  walk_at "ls"
  (rename IsRange _ _ _ _ _ _ _ _ => R9)
  (rename Fr _ _ _ _ => F9); (rename News _ _ _ _ => N9)
  refine ⟨_, _, _, _, _, (hkG1.N 3), (hkG1.L 0), (hkG1.I 0), rfl, R9, by decide, by decide, isList_of (N9.get (by k_mem)), hi, by omega, ?_, ?_, ?_, ?_⟩
  · intro C s₃ m₃ E' hn st
    have g6 := st _ _ (N9.get (a := (hkG1.N 0) + 1 + 1 + 1 + 1 + 1 + 1) (o := (hkG1.O 5)) (by k_mem))
    walk_at "ls"
    all_goals first | exact keeps_refl _ | exact keeps_toks _ _
  · intro C p k t' u' s₃ m₃ E' hp1 hp2 hk hn hx0 hx1 st
    have g2 := st _ _ (N9.get (a := (hkG1.N 0) + 1 + 1) (o := (hkG1.O 1)) (by k_mem))
    have hbk := hb k hk
    walk_at "ls"
    all_goals first | exact keeps_refl _ | exact keeps_toks _ _
  · intro C k u' s₃ m₃ E' hk hn hx1 st
    walk_at "ls"
    all_goals first | exact keeps_refl _ | exact keeps_toks _ _
  · intro D C h' tk k m' ys' hD hC hDC hn hD2 hys st
    refine ⟨ys', k, _, F9, N9, hC, hDC, hD, rfl, st, ⟨m', hn⟩, hD2, fun h8 tk8 F8 N8 l8 => ?_⟩
    exact hq h8 tk8 D ys' k hys (l8 _ (List.mem_cons_self ..)) F8 N8
  ))
end Z9
theorem hkT : hkS := no_implicit_lambda% (@hkapp _ _ hkK.2 (fun a b c d e f g h i j k l m n o p q r s t u v w x y z => @epsV Z9.hkP (by with_unfolding_all exact Z9.hkM) (vv e9E e9C e9T e9K e9A (lk [d] d9X) (lk [c] d9S) e9G (lk [a] d9W) (lk [b] d9P) e9Q (lk [w] d9R) e9V (lk [y] d9Z) (lk [m] d9I) (lk [l] d9L) (lk [e, f, x] d9M) (lk [g] d9H) (lk [p, q, r, s, t, u, v] d9O) (lk [h, i, j, k, n, o, z] d9N))))
end st6_c
theorem st6 : st6_c.hkS := @st6_c.hkT
-- P1
theorem filter_or {α : Type} (p q : α → Bool) (hd : ∀ x, p x = true → q x = false) : ∀ l : List α, (l.filter p ++ l.filter q).Perm (l.filter fun x => p x || q x)
  | [] => List.Perm.refl _
  | x :: l => by
    have ih := filter_or p q hd l
    by_cases h1 : p x = true
    · have h2 := hd x h1
      simpa [List.filter_cons, h1, h2] using ih
    · by_cases h2 : q x = true
      · simp only [List.filter_cons, h1, h2, if_true, Bool.or_true]
        simpa using List.perm_middle.trans (ih.cons x)
      · simpa [List.filter_cons, h1, h2] using ih
theorem rise_upto (rs : List Int) (mid a : Int) : ∀ n : Nat, ((rangeKs a n).flatMap fun p => rs.filter fun v => decide (v = 60 * (p + mid))).Perm (rs.filter fun v => (rangeKs a n).any fun p => decide (v = 60 * (p + mid)))
  | 0 => by
    have e : (rs.filter fun v => (rangeKs a 0).any fun p => decide (v = 60 * (p + mid))) = [] := List.filter_eq_nil_iff.mpr fun v _ => by simp [rangeKs]
    rw [e]
    exact List.Perm.refl _
  | n + 1 => by
    rw [rangeKs_succ, List.flatMap_append]
    have h := filter_or (fun v => (rangeKs a n).any fun p => decide (v = 60 * (p + mid))) (fun v => decide (v = 60 * ((a + (n : Int)) + mid))) (fun v hv => by
      obtain ⟨p, hp, e⟩ := List.any_eq_true.mp hv
      have := mem_rangeKs hp
      have e' : v = 60 * (p + mid) := of_decide_eq_true e
      have : ¬ v = 60 * (a + (n : Int) + mid) := by omega
      exact decide_eq_false this) rs
    refine List.Perm.trans ((rise_upto rs mid a n).append ?_) (h.trans ?_)
    · simp
    · refine List.Perm.of_eq (congrArg (fun f => rs.filter f) (funext fun v => ?_))
      rw [List.any_append]
      simp
theorem rise_sorted (rs : List Int) (mid a : Int) : ∀ n : Nat, ((rangeKs a n).flatMap fun p => rs.filter fun v => decide (v = 60 * (p + mid))).Pairwise (· ≤ ·) ∧ ∀ x ∈ ((rangeKs a n).flatMap fun p => rs.filter fun v => decide (v = 60 * (p + mid))), x < 60 * (a + (n : Int) + mid)
  | 0 => by constructor <;> simp [rangeKs]
  | n + 1 => by
    obtain ⟨h1, h2⟩ := rise_sorted rs mid a n
    rw [rangeKs_succ, List.flatMap_append]
    have h3 : ∀ x ∈ ([a + (n : Int)].flatMap fun p => rs.filter fun v => decide (v = 60 * (p + mid))), x = 60 * (a + (n : Int) + mid) := fun x hx => by
      simp at hx; exact hx.2
    constructor
    · refine List.pairwise_append.mpr ⟨h1, ?_, fun x hx y hy => ?_⟩
      · refine List.pairwise_iff_getElem.mpr fun i j hi hj _ => ?_
        have e1 := h3 _ (List.getElem_mem hi)
        have e2 := h3 _ (List.getElem_mem hj)
        omega
      · have e1 := h2 x hx
        have e2 := h3 y hy
        omega
    · intro x hx
      rcases List.mem_append.mp hx with hx | hx
      · have := h2 x hx; omega
      · have := h3 x hx; omega
noncomputable def RowOk (rs : List Int) (mid : Int) : Prop := ∀ x ∈ rs, ∃ p : Int, -4 ≤ p ∧ p ≤ 4 ∧ x = 60 * (p + mid)
theorem rise_perm {rs : List Int} {mid : Int} (h : RowOk rs mid) : (riseOf rs mid).Perm rs := by
  refine (rise_upto rs mid (-4) 9).trans (List.Perm.of_eq (List.filter_eq_self.mpr fun x hx => ?_))
  obtain ⟨p, h1, h2, h3⟩ := h x hx
  exact List.any_eq_true.mpr ⟨p, kre_mem h1 (by omega), decide_eq_true h3⟩
theorem rise_sort (rs : List Int) (mid : Int) : (riseOf rs mid).Pairwise (· ≤ ·) := (rise_sorted rs mid (-4) 9).1
theorem rise_uniq {rs d : List Int} {mid : Int} (h : RowOk rs mid) (hp : d.Perm rs) (hs : d.Pairwise (· ≤ ·)) : d = riseOf rs mid :=
  (hp.trans (rise_perm h).symm).eq_of_pairwise (fun _ _ _ _ h1 h2 => Int.le_antisymm h1 h2) hs (rise_sort rs mid)
theorem rise_len {rs : List Int} {mid : Int} (h : RowOk rs mid) : (riseOf rs mid).length = rs.length := (rise_perm h).length_eq
theorem rise_row {rs : List Int} {mid : Int} (h : RowOk rs mid) : RowOk (riseOf rs mid) mid := fun x hx => h x ((rise_perm h).mem_iff.mp hx)
-- P2
theorem block_get {f : Int → List Int} {K : Nat} (hK : ∀ k, (f k).length = K) : ∀ m a st : Nat, a < m → st < K → ((rangeKs 1 m).flatMap f).getD (a * K + st) 0 = (f (1 + (a : Int))).getD st 0
  | 0, a, st, ha, _ => absurd ha (Nat.not_lt_zero _)
  | m + 1, a, st, ha, hst => by
    rw [rangeKs_succ, List.flatMap_append]
    have hl : ((rangeKs 1 m).flatMap f).length = m * K := by
      have : ∀ l : List Int, (l.flatMap f).length = l.length * K := fun l => by
        induction l with
        | nil => simp
        | cons x r ih => rw [List.flatMap_cons, List.length_append, hK, ih, List.length_cons, Nat.succ_mul, Nat.add_comm]
      rw [this, rangeKs_length]
    by_cases h : a < m
    · have ih := block_get hK m a st h hst
      have hlt : a * K + st < ((rangeKs 1 m).flatMap f).length := by
        rw [hl]
        calc a * K + st < a * K + K := Nat.add_lt_add_left hst _
          _ = (a + 1) * K := (Nat.succ_mul a K).symm
          _ ≤ m * K := Nat.mul_le_mul_right _ h
      rw [List.getD_eq_getElem?_getD, List.getElem?_append_left hlt, ← List.getD_eq_getElem?_getD]
      exact ih
    · have e : a = m := Nat.le_antisymm (Nat.le_of_lt_succ ha) (Nat.le_of_not_lt h)
      subst e
      rw [List.getD_eq_getElem?_getD, List.getElem?_append_right (by rw [hl]; exact Nat.le_add_right _ _), hl, Nat.add_sub_cancel_left, ← List.getD_eq_getElem?_getD]
      simp
theorem way_at {ns : List Int} {k : Int} {a st : Nat} (hk : 1 ≤ k) (hst : st < k.toNat) (ha : a + 1 < ns.length) :
    (wayOf ns k).getD (a * k.toNat + st) 0 = ns.getD a 0 + Int.fdiv ((ns.getD (a + 1) 0 - ns.getD a 0) * (st : Int)) k := by
  unfold wayOf
  have hlen : ((rangeKs 1 (ns.length - 1)).flatMap (wayPart ns k)).length = (ns.length - 1) * k.toNat := by rw [ways_length, rangeKs_length]
  have hlt : a * k.toNat + st < ((rangeKs 1 (ns.length - 1)).flatMap (wayPart ns k)).length := by
    rw [hlen]
    calc a * k.toNat + st < a * k.toNat + k.toNat := Nat.add_lt_add_left hst _
      _ = (a + 1) * k.toNat := (Nat.succ_mul a _).symm
      _ ≤ (ns.length - 1) * k.toNat := Nat.mul_le_mul_right _ (Nat.lt_sub_of_add_lt ha)
  rw [List.getD_eq_getElem?_getD, List.getElem?_append_left hlt, ← List.getD_eq_getElem?_getD, block_get (wayPart_length ns k) _ _ _ (Nat.lt_sub_of_add_lt ha) hst]
  unfold wayPart
  rw [List.getD_eq_getElem?_getD, List.getElem?_map]
  have : (rangeKs 0 k.toNat)[st]? = some (0 + (st : Int)) := by simp [rangeKs, hst]
  rw [this]
  show stepOf ns k (1 + (a : Int)) (0 + (st : Int)) = _
  unfold stepOf
  rw [Int.add_comm 1 (a : Int), Int.add_sub_cancel, Int.zero_add]
  rfl
theorem cut_at {ns : List Int} {k i : Int} (hk : 1 ≤ k) (hi : 0 ≤ i) (hik : i < k) (hn : 2 ≤ ns.length) :
    (wayOf ns k).getD (i * ((ns.length : Int) - 1)).toNat 0 = ns.getD (Int.fdiv (i * ((ns.length : Int) - 1)) k).toNat 0 +
      Int.fdiv ((ns.getD ((Int.fdiv (i * ((ns.length : Int) - 1)) k).toNat + 1) 0 - ns.getD (Int.fdiv (i * ((ns.length : Int) - 1)) k).toNat 0) * Int.fmod (i * ((ns.length : Int) - 1)) k) k := by
  obtain ⟨h1, h2, h3, h4⟩ := jin_bnd (i := i) (k := k) (N := (ns.length : Int)) hi hik (by omega)
  have ht : i * ((ns.length : Int) - 1) = Int.fdiv (i * ((ns.length : Int) - 1)) k * k + Int.fmod (i * ((ns.length : Int) - 1)) k := by
    have := Int.mul_fdiv_add_fmod (i * ((ns.length : Int) - 1)) k
    rw [Int.mul_comm k] at this
    exact this.symm
  generalize Int.fdiv (i * ((ns.length : Int) - 1)) k = A at *
  generalize Int.fmod (i * ((ns.length : Int) - 1)) k = S at *
  rw [ht]
  obtain ⟨a, rfl⟩ := Int.eq_ofNat_of_zero_le h1
  obtain ⟨st, rfl⟩ := Int.eq_ofNat_of_zero_le h3
  have e : ((a : Int) * k + (st : Int)).toNat = a * k.toNat + st := by
    obtain ⟨kn, rfl⟩ := Int.eq_ofNat_of_zero_le (show 0 ≤ k by omega)
    rw [Int.toNat_natCast, ← Int.natCast_mul, ← Int.natCast_add, Int.toNat_natCast]
  rw [e, Int.toNat_natCast]
  exact way_at hk (by omega) (by omega)
theorem fq_cut {x e st k : Int} (hk : 1 ≤ k) (hk2 : k ≤ 10) (hx : x.natAbs ≤ 1000000) (he : e.natAbs ≤ 1000000) (hst : 0 ≤ st) (hst2 : st < k) {num : Int} (hnum : num = x * k + (k * e) * st) :
    (Float64.cmpInt (fq num k) (x + Int.fdiv ((k * e) * st) k) == some Ordering.eq) = true := by
  have hk0 : 0 < k := Int.lt_of_lt_of_le (by decide) hk
  have e1 : Int.fdiv ((k * e) * st) k = e * st := by
    rw [Int.mul_assoc]
    exact Int.mul_fdiv_cancel_left _ (Int.ne_of_gt hk0)
  have hb : (e * st).natAbs ≤ 1000000 * 10 := by rw [Int.natAbs_mul]; exact Nat.mul_le_mul he (nab0 hst (Int.le_trans (Int.le_of_lt hst2) hk2))
  have hz : (2 * (x + e * st)).natAbs ≤ 2 * (1000000 + 1000000 * 10) := by rw [Int.natAbs_mul]; exact Nat.mul_le_mul_left 2 (Nat.le_trans (Int.natAbs_add_le _ _) (Nat.add_le_add hx hb))
  rw [e1]
  exact (HV.frac (a := num) hk0 (by rw [hnum]; grind) (Nat.lt_of_le_of_lt hz (by decide))).eqInt
theorem told_map {l : List Int} {f : Int → UInt64} {g : Int → Int} : ∀ {fs us : List Value}, FlAre fs (l.map f) → IntsAre us (l.map g) → (∀ i ∈ l, (Float64.cmpInt (f i) (g i) == some Ordering.eq) = true) → Told "float" fs us := by
  induction l with
  | nil => intro fs us h1 h2 _; cases h1; cases h2; exact .nil
  | cons x r ih =>
    intro fs us h1 h2 h3
    rw [List.map_cons] at h1 h2
    cases h1 with
    | cons b t h1 =>
      cases h2 with
      | cons n u h2 => exact .flt _ _ _ _ (h3 x (List.mem_cons_self ..)) (ih h1 h2 fun i hi => h3 i (List.mem_cons_of_mem _ hi))
theorem told_ints {l : List Int} : ∀ {fs us : List Value}, IntsAre fs l → IntsAre us l → Told "int" fs us := by
  induction l with
  | nil => intro fs us h1 h2; cases h1; cases h2; exact .nil
  | cons x r ih =>
    intro fs us h1 h2
    cases h1 with
    | cons n t h1 =>
      cases h2 with
      | cons n u h2 => exact .int _ _ _ (ih h1 h2)
structure Sixty (d : List Int) : Prop where
  bnd : ∀ j, (d.getD j 0).natAbs ≤ 10000
  mul : ∀ i j, i < d.length → j < d.length → ∃ e, d.getD i 0 - d.getD j 0 = 60 * e ∧ e.natAbs ≤ 1000
theorem row_getD {rs : List Int} {mid : Int} (h : RowOk rs mid) {j : Nat} (hj : j < rs.length) : ∃ p : Int, -4 ≤ p ∧ p ≤ 4 ∧ rs.getD j 0 = 60 * (p + mid) := by
  have e : rs.getD j 0 = rs[j] := by simp [hj]
  rw [e]
  exact h _ (List.getElem_mem hj)
theorem row_nab0 {p mid x : Int} (a : -4 ≤ p) (b : p ≤ 4) (h1 : -50 ≤ mid) (h2 : mid ≤ 49) (e : x = 60 * (p + mid)) : x.natAbs ≤ 10000 := by
  rw [e, Int.natAbs_mul]
  exact Nat.le_trans (Nat.mul_le_mul_left 60 (Nat.le_trans (Int.natAbs_add_le p mid) (Nat.add_le_add (nab (n := 4) a b) (nab (n := 50) h1 (Int.le_trans h2 (by decide)))))) (by decide)
theorem sixty_sub {p q mid : Int} : 60 * (p + mid) - 60 * (q + mid) = 60 * (p - q) := by rw [← Int.mul_sub, Int.add_sub_add_right]
theorem row_sixty {rs : List Int} {mid : Int} (h : RowOk rs mid) (h1 : -50 ≤ mid) (h2 : mid ≤ 49) : Sixty rs where
  bnd j := by
    by_cases hj : j < rs.length
    · obtain ⟨p, a, b, e⟩ := row_getD h hj
      exact row_nab0 a b h1 h2 e
    · have : rs.getD j 0 = 0 := by simp [List.getD_eq_getElem?_getD, List.getElem?_eq_none (Nat.le_of_not_lt hj)]
      rw [this]; decide
  mul i j hi hj := by
    obtain ⟨p, a, b, e⟩ := row_getD h hi
    obtain ⟨q, a', b', e'⟩ := row_getD h hj
    exact ⟨p - q, by rw [e, e', sixty_sub], Nat.le_trans (Int.natAbs_sub_le p q) (Nat.le_trans (Nat.add_le_add (nab (n := 4) a b) (nab (n := 4) a' b')) (by decide))⟩
noncomputable def PartsOk (k : Int) : Prop := k = -1 ∨ k = 0 ∨ k = 1 ∨ k = 2 ∨ k = 3 ∨ k = 4 ∨ k = 5 ∨ k = 6 ∨ k = 10
theorem parts_sixty {k : Int} (h : PartsOk k) (h1 : 1 ≤ k) : ∃ c, 60 = k * c ∧ c.natAbs ≤ 60 := by
  rcases h with rfl | rfl | rfl | rfl | rfl | rfl | rfl | rfl | rfl
  · omega
  · omega
  · exact ⟨60, by decide, by decide⟩
  · exact ⟨30, by decide, by decide⟩
  · exact ⟨20, by decide, by decide⟩
  · exact ⟨15, by decide, by decide⟩
  · exact ⟨12, by decide, by decide⟩
  · exact ⟨10, by decide, by decide⟩
  · exact ⟨6, by decide, by decide⟩
theorem bound_ce {c e : Int} (hc2 : c.natAbs ≤ 60) (hb : e.natAbs ≤ 1000) : (c * e).natAbs ≤ 1000000 := by
  rw [Int.natAbs_mul]; exact Nat.le_trans (Nat.mul_le_mul hc2 hb) (by decide)
theorem step_eq {x y k c e : Int} (he : x - y = 60 * e) (hc : 60 = k * c) : x - y = k * (c * e) ∧ x = y + k * (c * e) := by
  have h : x - y = k * (c * e) := by rw [he, hc, Int.mul_assoc]
  exact ⟨h, by omega⟩
theorem cut_num {x k c e S : Int} : x * (k - S) + (x + k * (c * e)) * S = x * k + k * (c * e) * S := by grind
theorem cut_in {d : List Int} {k i : Int} (hs : Sixty d) (hp : PartsOk k) (hk : 1 ≤ k) (hk2 : k ≤ 10) (hi : 0 ≤ i) (hik : i < k) (hn : 2 ≤ d.length) :
    (Float64.cmpInt (qin d k i) ((wayOf d k).getD (i * ((d.length : Int) - 1)).toNat 0) == some Ordering.eq) = true := by
  rw [cut_at hk hi hik hn]
  obtain ⟨h1, h2, h3, h4⟩ := jin_bnd (i := i) (k := k) (N := (d.length : Int)) hi hik (by omega)
  unfold qin jin din
  generalize Int.fdiv (i * ((d.length : Int) - 1)) k = A at *
  generalize Int.fmod (i * ((d.length : Int) - 1)) k = S at *
  obtain ⟨a, rfl⟩ := Int.eq_ofNat_of_zero_le h1
  have ha : a + 1 < d.length := by omega
  rw [show ((a : Int) + 1).toNat = a + 1 from rfl, Int.toNat_natCast]
  obtain ⟨e, he, hb⟩ := hs.mul (a + 1) a ha (Nat.lt_of_succ_lt ha)
  obtain ⟨c, hc, hc2⟩ := parts_sixty hp hk
  have hD := step_eq he hc
  rw [hD.1, hD.2]
  exact fq_cut hk hk2 (Nat.le_trans (hs.bnd a) (by decide)) (bound_ce hc2 hb) h3 h4 cut_num
theorem parts_mem {k i : Int} (hk : 1 ≤ k) (hi : i ∈ rangeKs 1 (k - 1).toNat) : 0 ≤ i ∧ i < k := by
  have h := mem_rangeKs hi
  rw [Int.toNat_of_nonneg (Int.sub_nonneg_of_le hk), Int.add_comm, Int.sub_add_cancel] at h
  exact ⟨Int.le_trans (by decide) h.1, h.2⟩
theorem told_in {d : List Int} {k : Int} {fs us : List Value} (hs : Sixty d) (hp : PartsOk k) (hk : 1 ≤ k) (hk2 : k ≤ 10) (hn : 2 ≤ d.length) (hf : FlAre fs ((rangeKs 1 (k - 1).toNat).map (qin d k))) (hu : IntsAre us (cutsOf d k)) : Told "float" fs us :=
  told_map hf hu fun i hi => by
    exact cut_in hs hp hk hk2 (parts_mem hk hi).1 (parts_mem hk hi).2 hn
noncomputable def wideOf (d : List Int) : List Int := [2 * d.getD 0 0 - d.getD 1 0] ++ d ++ [2 * d.getD (d.length - 1) 0 - d.getD (d.length - 2) 0]
theorem wide_len (d : List Int) : (wideOf d).length = d.length + 2 := by unfold wideOf; simp
theorem wide_first (d : List Int) : (wideOf d).getD 0 0 = 2 * d.getD 0 0 - d.getD 1 0 := by unfold wideOf; simp
theorem wide_mid (d : List Int) {j : Nat} (h : j < d.length) : (wideOf d).getD (j + 1) 0 = d.getD j 0 := by
  unfold wideOf
  simp [List.getD_eq_getElem?_getD, List.getElem?_append_left h]
theorem wide_last (d : List Int) : (wideOf d).getD (d.length + 1) 0 = 2 * d.getD (d.length - 1) 0 - d.getD (d.length - 2) 0 := by
  unfold wideOf
  simp [List.getD_eq_getElem?_getD]
theorem cut_out {x k c e S : Int} {a : Nat} {z : Int} (hz : z = a) : x * (k - ((a : Int) * k + S - z * k)) + (x + k * (c * e)) * ((a : Int) * k + S - z * k) = x * k + k * (c * e) * S := by subst hz; grind
theorem cut_lo {x k c e S : Int} : x * (k - (((0 : Nat) : Int) * k + S - 1 * k)) + (x + k * (c * e)) * (((0 : Nat) : Int) * k + S - 1 * k) = (x - k * (c * e)) * k + k * (c * e) * S := by grind
theorem cut_hi {x y k c e S n : Int} (h : x - y = k * (c * e)) : y * (k - (n * k + S - (n - 1) * k)) + x * (n * k + S - (n - 1) * k) = x * k + k * (c * e) * S := by
  have : x = y + k * (c * e) := by omega
  subst this; grind
theorem cut_ex {d : List Int} {k i : Int} (hs : Sixty d) (hp : PartsOk k) (hk : 1 ≤ k) (hk2 : k ≤ 10) (hi : 0 ≤ i) (hik : i < k) (hn : 2 ≤ d.length) :
    (Float64.cmpInt (qex d k i) ((wayOf (wideOf d) k).getD (i * (((wideOf d).length : Int) - 1)).toNat 0) == some Ordering.eq) = true := by
  rw [cut_at hk hi hik (by rw [wide_len]; exact Nat.le_add_left 2 _)]
  have en : ((d.length + 2 : Nat) : Int) - 1 = (d.length : Int) + 1 := Int.add_sub_assoc (d.length : Int) 2 1
  rw [wide_len, en]
  obtain ⟨h1, h2, h3, h4⟩ := jin_bnd (i := i) (k := k) (N := (d.length : Int) + 2) hi hik (by omega)
  rw [Int.add_sub_assoc (d.length : Int) 2 1, show (2 - 1 : Int) = 1 from rfl] at h1 h2 h3 h4
  have ht : i * ((d.length : Int) + 1) = Int.fdiv (i * ((d.length : Int) + 1)) k * k + Int.fmod (i * ((d.length : Int) + 1)) k := by
    have := Int.mul_fdiv_add_fmod (i * ((d.length : Int) + 1)) k
    rw [Int.mul_comm k] at this
    exact this.symm
  unfold qex dex jex
  generalize Int.fdiv (i * ((d.length : Int) + 1)) k = A at *
  generalize Int.fmod (i * ((d.length : Int) + 1)) k = S at *
  rw [ht]
  obtain ⟨c, hc, hc2⟩ := parts_sixty hp hk
  obtain ⟨a, rfl⟩ := Int.eq_ofNat_of_zero_le h1
  have han : a ≤ d.length := by omega
  rw [Int.toNat_natCast]
  by_cases c1 : a = 0
  · subst c1
    rw [if_pos (by decide), show (1 - 1 : Int).toNat = 0 from rfl, show (1 : Int).toNat = 1 from rfl]
    have hw := wide_mid d (j := 0) (Nat.lt_of_succ_lt hn)
    rw [wide_first, hw]
    obtain ⟨e, he, hb⟩ := hs.mul 1 0 hn (Nat.lt_of_succ_lt hn)
    obtain ⟨hD, hE⟩ := step_eq he hc
    have hF : 2 * d.getD 0 0 - d.getD 1 0 = d.getD 0 0 - k * (c * e) := by omega
    rw [hF, Int.sub_sub_self]
    refine fq_cut hk hk2 ?_ (bound_ce hc2 hb) h3 h4 (by rw [hE]; exact cut_lo)
    rw [← hF]
    exact Nat.le_trans (Int.natAbs_sub_le _ _) (by rw [Int.natAbs_mul]; exact Nat.le_trans (Nat.add_le_add (Nat.mul_le_mul_left 2 (hs.bnd 0)) (hs.bnd 1)) (by decide))
  · have c3 : 1 ≤ a := Nat.pos_of_ne_zero c1
    have c3' : ¬ ((a : Int) < 1) := Int.not_lt.mpr (Int.ofNat_le.mpr c3)
    by_cases c2 : a = d.length
    · subst c2
      rw [if_neg c3', if_pos (by omega)]
      rw [show ((d.length : Int) - 1 - 1).toNat = d.length - 2 by rw [Int.sub_sub]; exact Int.toNat_sub d.length 2, show ((d.length : Int) - 1).toNat = d.length - 1 from Int.toNat_sub d.length 1, wide_last]
      have hl1 : d.length - 1 < d.length := Nat.sub_lt c3 (by decide)
      have hw := wide_mid d (j := d.length - 1) hl1
      rw [Nat.sub_add_cancel c3] at hw
      rw [hw]
      obtain ⟨e, he, hb⟩ := hs.mul (d.length - 1) (d.length - 2) hl1 (Nat.sub_lt c3 (by decide))
      have hx := hs.bnd (d.length - 1)
      generalize d.getD (d.length - 1) 0 = x at *
      generalize d.getD (d.length - 2) 0 = y at *
      have hD := (step_eq he hc).1
      have hE : 2 * x - y - x = x - y := by omega
      rw [hE, hD]
      exact fq_cut hk hk2 (Nat.le_trans hx (by decide)) (bound_ce hc2 hb) h3 h4 (cut_hi hD)
    · have c4 : a < d.length := Nat.lt_of_le_of_ne han c2
      rw [if_neg c3', if_neg (by omega)]
      obtain ⟨b, rfl⟩ : ∃ b, a = b + 1 := ⟨a - 1, (Nat.sub_add_cancel c3).symm⟩
      rw [show (((b + 1 : Nat) : Int) - 1).toNat = b from Int.toNat_sub (b + 1) 1, Int.toNat_natCast]
      rw [wide_mid d (j := b) (Nat.lt_of_succ_lt c4), wide_mid d (j := b + 1) c4]
      obtain ⟨e, he, hb⟩ := hs.mul (b + 1) b c4 (Nat.lt_of_succ_lt c4)
      obtain ⟨hD, hE⟩ := step_eq he hc
      rw [hD, hE]
      exact fq_cut hk hk2 (Nat.le_trans (hs.bnd b) (by decide)) (bound_ce hc2 hb) h3 h4 (cut_out rfl)
theorem told_ex {d : List Int} {k : Int} {fs us : List Value} (hs : Sixty d) (hp : PartsOk k) (hk : 1 ≤ k) (hk2 : k ≤ 10) (hn : 2 ≤ d.length) (hf : FlAre fs ((rangeKs 1 (k - 1).toNat).map (qex d k))) (hu : IntsAre us (cutsOf (wideOf d) k)) : Told "float" fs us :=
  told_map hf hu fun i hi => by
    exact cut_ex hs hp hk hk2 (parts_mem hk hi).1 (parts_mem hk hi).2 hn
theorem told_one {d : List Int} {k : Int} {x : Int} {fs us : List Value} (hd : d = [x]) (hf : IntsAre fs (List.replicate (k - 1).toNat x)) (hu : IntsAre us (cutsOf d k)) : Told "int" fs us := by
  have e : cutsOf d k = List.replicate (k - 1).toNat x := by
    subst hd
    unfold cutsOf wayOf
    refine List.eq_replicate_iff.mpr ⟨by rw [List.length_map, rangeKs_length], fun y hy => ?_⟩
    obtain ⟨i, _, rfl⟩ := List.mem_map.mp hy
    simp [rangeKs]
  rw [e] at hu
  exact told_ints hf hu
-- P3
section
theorem mem_getD {d : List Int} {x : Int} (h : x ∈ d) : ∃ a, a < d.length ∧ x = d.getD a 0 := by
  obtain ⟨a, ha, e⟩ := List.getElem_of_mem h
  exact ⟨a, ha, by simp [ha, e]⟩
theorem getD_mem {d : List Int} {a : Nat} (h : a < d.length) : d.getD a 0 ∈ d := by
  have e : d.getD a 0 = d[a] := by simp [h]
  rw [e]; exact List.getElem_mem h
theorem take_getD {d : List Int} {q : Nat} {x : Int} (h : x ∈ d.take q) : ∃ a, a < q ∧ a < d.length ∧ x = d.getD a 0 := by
  obtain ⟨a, ha, e⟩ := List.getElem_of_mem h
  rw [List.length_take] at ha
  have h1 := Nat.lt_of_lt_of_le ha (Nat.min_le_right _ _)
  refine ⟨a, Nat.lt_of_lt_of_le ha (Nat.min_le_left _ _), h1, ?_⟩
  rw [← e]; simp [h1]
theorem drop_getD {d : List Int} {q : Nat} {x : Int} (h : x ∈ d.drop q) : ∃ a, q ≤ a ∧ a < d.length ∧ x = d.getD a 0 := by
  obtain ⟨a, ha, e⟩ := List.getElem_of_mem h
  rw [List.length_drop] at ha
  have h1 : q + a < d.length := Nat.add_lt_of_lt_sub' ha
  refine ⟨q + a, Nat.le_add_right _ _, h1, ?_⟩
  rw [← e]; simp [h1]
theorem filter_parts (d : List Int) (p : Int → Bool) (q : Nat) : (d.filter p).length = ((d.take q).filter p).length + ((d.drop q).filter p).length := by
  have e : d.filter p = (d.take q ++ d.drop q).filter p := by rw [List.take_append_drop]
  rw [e, List.filter_append, List.length_append]
theorem pre_ge {d : List Int} {p : Int → Bool} {q : Nat} (hq : q ≤ d.length) (h : ∀ a, a < q → p (d.getD a 0) = true) : q ≤ (d.filter p).length := by
  have e : (d.take q).filter p = d.take q := List.filter_eq_self.mpr fun x hx => by
    obtain ⟨a, h1, h2, rfl⟩ := take_getD hx
    exact h a h1
  rw [filter_parts d p q, e, List.length_take, Nat.min_eq_left hq]
  exact Nat.le_add_right _ _
theorem pre_le {d : List Int} {p : Int → Bool} {q : Nat} (h : ∀ a, q ≤ a → a < d.length → p (d.getD a 0) = false) : (d.filter p).length ≤ q := by
  have e : (d.drop q).filter p = [] := List.filter_eq_nil_iff.mpr fun x hx => by
    obtain ⟨a, h1, h2, rfl⟩ := drop_getD hx
    rw [h a h1 h2]; exact Bool.false_ne_true
  have h2 := List.length_filter_le p (d.take q)
  rw [List.length_take] at h2
  rw [filter_parts d p q, e, List.length_nil, Nat.add_zero]
  exact Nat.le_trans h2 (Nat.min_le_left _ _)
theorem suf_ge {d : List Int} {p : Int → Bool} {q : Nat} (h : ∀ a, q ≤ a → a < d.length → p (d.getD a 0) = true) : d.length - q ≤ (d.filter p).length := by
  have e : (d.drop q).filter p = d.drop q := List.filter_eq_self.mpr fun x hx => by
    obtain ⟨a, h1, h2, rfl⟩ := drop_getD hx
    exact h a h1 h2
  rw [filter_parts d p q, e, List.length_drop]
  exact Nat.le_add_left _ _
theorem suf_le {d : List Int} {p : Int → Bool} {q : Nat} (h : ∀ a, a < q → p (d.getD a 0) = false) : (d.filter p).length ≤ d.length - q := by
  have e : (d.take q).filter p = [] := List.filter_eq_nil_iff.mpr fun x hx => by
    obtain ⟨a, h1, h2, rfl⟩ := take_getD hx
    rw [h a h1]; exact Bool.false_ne_true
  have h2 := List.length_filter_le p (d.drop q)
  rw [List.length_drop] at h2
  rw [filter_parts d p q, e, List.length_nil, Nat.zero_add]
  exact h2
theorem sort_le {d : List Int} (hs : d.Pairwise (· ≤ ·)) {a b : Nat} (hab : a ≤ b) (hb : b < d.length) : d.getD a 0 ≤ d.getD b 0 := by
  have ha : a < d.length := Nat.lt_of_le_of_lt hab hb
  have e1 : d.getD a 0 = d[a]'ha := by simp [ha]
  have e2 : d.getD b 0 = d[b] := by simp [hb]
  rw [e1, e2]
  rcases Nat.lt_or_eq_of_le hab with h | h
  · exact List.pairwise_iff_getElem.mp hs a b ha hb h
  · subst h; exact Int.le_refl _
noncomputable def lowOf (rs : List Int) (v : Int) : Bool := decide ((rs.length : Int) ≤ 2 * ((rs.filter fun w => decide (w ≤ v)).length : Int))
noncomputable def highOf (rs : List Int) (v : Int) : Bool := decide ((rs.length : Int) ≤ 2 * ((rs.filter fun w => decide (v ≤ w)).length : Int))
theorem half_lt {n m : Nat} (hn : 0 < n) (hl : m = n) : n / 2 < m ∧ (n - 1) / 2 < m := by
  subst hl
  exact ⟨Nat.div_lt_self hn (by decide), Nat.lt_of_le_of_lt (Nat.div_le_self _ _) (Nat.sub_lt hn (by decide))⟩
theorem dbl {n c : Nat} (h : n ≤ 2 * c) : (n : Int) ≤ 2 * (c : Int) := Int.ofNat_le.mpr h
theorem undbl {n c : Nat} (h : 2 * c < n) : ¬ (n : Int) ≤ 2 * (c : Int) := fun z => Nat.not_lt.mpr (Int.ofNat_le.mp z) h
theorem half_lo {n c : Nat} (h : (n - 1) / 2 + 1 ≤ c) : (n : Int) ≤ 2 * (c : Int) :=
  dbl (Nat.le_trans (Nat.le_of_pred_lt (Nat.lt_mul_div_succ (n - 1) (by decide))) (Nat.mul_le_mul_left 2 h))
theorem half_lo' {n c : Nat} (hn : 0 < n) (h : c ≤ (n - 1) / 2) : ¬ (n : Int) ≤ 2 * (c : Int) :=
  undbl (Nat.lt_of_le_of_lt (Nat.le_trans (Nat.mul_le_mul_left 2 h) (Nat.mul_div_le (n - 1) 2)) (Nat.sub_lt hn (by decide)))
theorem half_hi {n c : Nat} (h : n - n / 2 ≤ c) : (n : Int) ≤ 2 * (c : Int) := by
  have h1 := Nat.mul_div_le n 2
  generalize n / 2 = m at h h1
  refine dbl ?_
  omega
theorem half_hi' {n c : Nat} (hn : 0 < n) (h : c ≤ n - (n / 2 + 1)) : ¬ (n : Int) ≤ 2 * (c : Int) := by
  have h1 : n < 2 * (n / 2 + 1) := Nat.lt_mul_div_succ n (by decide)
  generalize n / 2 = m at h h1
  refine undbl ?_
  omega
section
variable {rs d : List Int}
theorem low_mem (hp : d.Perm rs) (hs : d.Pairwise (· ≤ ·)) (hn : 0 < rs.length) : d.getD ((rs.length - 1) / 2) 0 ∈ rs.filter (lowOf rs) := by
  have hh := (half_lt hn hp.length_eq).2
  refine List.mem_filter.mpr ⟨hp.mem_iff.mp (getD_mem hh), decide_eq_true ?_⟩
  rw [← (hp.filter (fun w => decide (w ≤ d.getD ((rs.length - 1) / 2) 0))).length_eq]
  exact half_lo (pre_ge hh fun a ha => decide_eq_true (sort_le hs (Nat.le_of_lt_succ ha) hh))
theorem low_at (hp : d.Perm rs) (hs : d.Pairwise (· ≤ ·)) (hn : 0 < rs.length) {M : Int} (hM : M ∈ rs.filter (lowOf rs)) (hmin : ∀ a ∈ rs.filter (lowOf rs), M ≤ a) : d.getD ((rs.length - 1) / 2) 0 = M := by
  refine Int.le_antisymm (Int.not_lt.mp fun h => ?_) (hmin _ (low_mem hp hs hn))
  have h2 : (rs.length : Int) ≤ 2 * ((rs.filter fun w => decide (w ≤ M)).length : Int) := of_decide_eq_true (List.mem_filter.mp hM).2
  rw [← (hp.filter (fun w => decide (w ≤ M))).length_eq] at h2
  exact half_lo' hn (pre_le fun a h5 h6 => decide_eq_false (Int.not_le.mpr (Int.lt_of_lt_of_le h (sort_le hs h5 h6)))) h2
theorem high_mem (hp : d.Perm rs) (hs : d.Pairwise (· ≤ ·)) (hn : 0 < rs.length) : d.getD (rs.length / 2) 0 ∈ rs.filter (highOf rs) := by
  refine List.mem_filter.mpr ⟨hp.mem_iff.mp (getD_mem (half_lt hn hp.length_eq).1), decide_eq_true ?_⟩
  rw [← (hp.filter (fun w => decide (d.getD (rs.length / 2) 0 ≤ w))).length_eq]
  refine half_hi ?_
  have h := suf_ge (d := d) (p := fun w => decide (d.getD (rs.length / 2) 0 ≤ w)) (q := rs.length / 2) fun a ha hb => decide_eq_true (sort_le hs ha hb)
  rwa [hp.length_eq] at h
theorem high_at (hp : d.Perm rs) (hs : d.Pairwise (· ≤ ·)) (hn : 0 < rs.length) {M : Int} (hM : M ∈ rs.filter (highOf rs)) (hmax : ∀ a ∈ rs.filter (highOf rs), a ≤ M) : d.getD (rs.length / 2) 0 = M := by
  refine Int.le_antisymm (hmax _ (high_mem hp hs hn)) (Int.not_lt.mp fun h => ?_)
  have h2 : (rs.length : Int) ≤ 2 * ((rs.filter fun w => decide (M ≤ w)).length : Int) := of_decide_eq_true (List.mem_filter.mp hM).2
  rw [← (hp.filter (fun w => decide (M ≤ w))).length_eq] at h2
  have h4 := suf_le (d := d) (p := fun w => decide (M ≤ w)) (q := rs.length / 2 + 1) fun a h5 =>
    decide_eq_false (Int.not_le.mpr (Int.lt_of_le_of_lt (sort_le hs (Nat.le_of_lt_succ h5) (half_lt hn hp.length_eq).1) h))
  rw [hp.length_eq] at h4
  exact half_hi' hn h4 h2
theorem two_div (x : Int) : Int.fdiv (x + x) 2 = x := by rw [Int.fdiv_eq_ediv_of_nonneg _ (by decide)]; omega
theorem mid_odd (hp : d.Perm rs) (hs : d.Pairwise (· ≤ ·)) (hodd : rs.length % 2 = 1) {low high : Int} (h1 : d.getD ((rs.length - 1) / 2) 0 = low) (h2 : d.getD (rs.length / 2) 0 = high) : d.getD (rs.length / 2) 0 = Int.fdiv (low + high) 2 := by
  rw [half_odd hodd] at h1
  rw [← h1, ← h2, two_div]
theorem even_sum {low high mid p q : Int} (h1 : low = 60 * (p + mid)) (h2 : high = 60 * (q + mid)) : low + high = 2 * Int.fdiv (low + high) 2 := by
  rw [Int.fdiv_eq_ediv_of_nonneg _ (by decide)]; omega
theorem mid_even {mid : Int} (hr : RowOk rs mid) (hm1 : -50 ≤ mid) (hm2 : mid ≤ 49) (hp : d.Perm rs) (hn : 0 < rs.length) (hev : rs.length % 2 = 0) {low high : Int} (h1 : d.getD ((rs.length - 1) / 2) 0 = low) (h2 : d.getD (rs.length / 2) 0 = high) :
    (Float64.cmpInt (fq (d.getD (rs.length / 2 - 1) 0 + d.getD (rs.length / 2) 0) 2) (Int.fdiv (low + high) 2) == some Ordering.eq) = true := by
  have hd : RowOk d mid := fun x hx => hr x (hp.mem_iff.mp hx)
  have hh := half_lt hn hp.length_eq
  obtain ⟨p, p1, p2, p3⟩ := row_getD hd hh.2
  obtain ⟨q, q1, q2, q3⟩ := row_getD hd hh.1
  rw [← half_even hn hev]
  rw [h1] at p3 ⊢
  rw [h2] at q3 ⊢
  have hb : (low + high).natAbs ≤ 20000 := Nat.le_trans (Int.natAbs_add_le _ _) (Nat.add_le_add (row_nab0 p1 p2 hm1 hm2 p3) (row_nab0 q1 q2 hm1 hm2 q3))
  have h := HV.frac (a := low + high) (b := 2) (k := low + high) (by decide) (Int.mul_comm _ _) (Nat.lt_of_le_of_lt hb (by decide))
  rw [even_sum p3 q3] at h
  rw [show fq (low + high) 2 = fq (2 * Int.fdiv (low + high) 2) 2 by rw [← even_sum p3 q3]]
  exact h.eqInt
end
end
-- P4
theorem two_word : Float64.ofInt 2 = 4611686018427387904 := by decide +kernel
theorem zero_word : Float64.zero false = 0 := by decide +kernel
theorem gpt_hv {x : Int} {n i j : Nat} {q : Int} (hx : x.natAbs ≤ 10000) (hn : n < 6) (hi : i ≤ n / 2) (hj : n / 2 < j) (hjn : j ≤ n) (hq : 60 * ((n : Int) - 2 * i) = q * ((j : Int) - i)) (hq1 : 0 ≤ q) (hq2 : q < 120) : HB (gptF x n i j) (2 * x - 60 + q) 20180 := by
  have hi' : i ≤ 5 := Nat.le_trans hi (Nat.le_trans (Nat.div_le_self n 2) (Nat.le_of_lt_succ hn))
  have hj' : j ≤ 5 := Nat.le_trans hjn (Nat.le_of_lt_succ hn)
  have h2 := HB.int (i := 60) (n := 60) (by decide) (by decide)
  have h3 := HB.int (i := 2) (n := 2) (by decide) (by decide)
  rw [two_word] at h3
  have h4 := HB.div (q := 60) (n := 60) h2.hv h3.hv (by decide) (by decide) (by decide) (by decide)
  have h6 := HB.frac (a := (n : Int)) (b := 2) (k := (n : Int)) (n := 5) (by decide) (Int.mul_comm _ _) (Nat.le_of_lt_succ hn) (by decide)
  have h8 := h6.sub (HB.int (i := (i : Int)) (n := 5) hi' (by decide)) (by decide)
  have h9 := HB.mul (q := 60 * ((n : Int) - 2 * i)) (n := 60 * 15) h2.hv h8.hv (Int.mul_assoc 2 60 _) (by rw [Int.natAbs_mul]; exact Nat.mul_le_mul_left 60 h8.le) (by decide)
  have h10 := HB.int (i := (j : Int) - i) (n := 10) (Nat.le_trans (Int.natAbs_sub_le _ _) (Nat.add_le_add hj' hi')) (by decide)
  have h11 := HB.div (q := q) (n := 120) h9.hv h10.hv (by omega) (by rw [hq, Int.mul_left_comm]) (nab0 hq1 (Int.le_of_lt hq2)) (by decide)
  exact ((HB.int hx (by decide)).sub h4 (by decide)).add h11 (by decide)
theorem gpt_q {n i j : Nat} (hn : n < 6) (hi : i ≤ n / 2) (hj : n / 2 < j) (hjn : j ≤ n) : ∃ q : Int, 60 * ((n : Int) - 2 * i) = q * ((j : Int) - i) ∧ 0 ≤ q ∧ q < 120 := by
  have key : ((List.range 6).all fun n => (List.range 6).all fun i => (List.range 6).all fun j => decide (i ≤ n / 2 → n / 2 < j → j ≤ n → 60 * ((n : Int) - 2 * (i : Int)) = 60 * ((n : Int) - 2 * (i : Int)) / ((j : Int) - i) * ((j : Int) - i) ∧ 0 ≤ 60 * ((n : Int) - 2 * (i : Int)) / ((j : Int) - i) ∧ 60 * ((n : Int) - 2 * (i : Int)) / ((j : Int) - i) < 120)) = true := by decide +kernel
  simp only [List.all_eq_true, List.mem_range, decide_eq_true_eq] at key
  exact ⟨_, key n hn i (by omega) j (by omega) hi hj hjn⟩
noncomputable def HalfW : WData → Int → Prop
  | .int n, k => 2 * n = k
  | .float b, k => HV b k
  | _, _ => False
inductive Halves : List WData → List Int → Prop
  | nil : Halves [] []
  | cons {d : WData} {k : Int} {ds : List WData} {ks : List Int} : HalfW d k → 0 ≤ k → k ≤ 120 → Halves ds ks → Halves (d :: ds) (k :: ks)
theorem settled_hv {t c : UInt64} {T : Int} {m : Nat} (ht : HB t T m) (hc : HB c 0 0) (hb : m < 2 ^ 53) : HV (Num.settled t c) T := by
  unfold Num.settled
  split
  · have := (ht.add hc hb).hv
    rwa [Int.add_zero] at this
  · exact ht.hv
theorem fits_of {n : Int} (h : n.natAbs < 2 ^ 62) : Num.fitsLong n = true := by
  simp only [Num.fitsLong, Bool.and_eq_true, decide_eq_true_eq]; omega
theorem sums_big {m l : Nat} (h1 : m < 2 ^ 30) (h2 : m + 120 + 200 * l < 2 ^ 30) : 2 * m + 120 + 200 * l < 2 ^ 40 := by omega
theorem half_nab {n k : Int} (h : 2 * n = k) (hk : k.natAbs ≤ 120) : n.natAbs ≤ 120 := by
  rw [← h, Int.natAbs_mul] at hk
  exact Nat.le_trans (Nat.le_mul_of_pos_left n.natAbs (show 0 < 2 by decide)) hk
theorem sums_room {m l b : Nat} (h : m + 200 * (l + 1) < b) : m + 120 + 200 * l < b := by omega
theorem sub_back (k T : Int) : k - (T + k) + T = 0 ∧ T - (T + k) + k = 0 := by omega
theorem HB.cast {x : UInt64} {k j : Int} {n : Nat} (h : HB x k n) (e : k = j) : HB x j n := e ▸ h
theorem HB.null {x : UInt64} {k : Int} {n : Nat} (h : HB x k n) (e : k = 0) : HB x 0 0 := ⟨e ▸ h.hv, Nat.le_refl 0⟩
theorem sumFloats_half {ds : List WData} {ks : List Int} (h : Halves ds ks) : ∀ (t c : UInt64) (T : Int) (m : Nat), HB t T m → HB c 0 0 → m + 200 * ds.length < 2 ^ 40 → ∃ r, Num.sumFloats t c ds = some r ∧ HalfW r (T + ks.sum) := by
  induction h with
  | nil =>
    intro t c T m ht hc hb
    refine ⟨_, rfl, ?_⟩
    rw [List.sum_nil, Int.add_zero]
    exact settled_hv ht hc (Nat.lt_trans hb (by decide))
  | @cons d k ds ks hd h0 h1 _ ih =>
    intro t c T m ht hc hb
    have hm : m < 2 ^ 40 := Nat.lt_of_le_of_lt (Nat.le_add_right _ _) hb
    have hm1 : m + 120 < 2 ^ 53 := Nat.lt_trans (Nat.add_lt_add_right hm 120) (by decide)
    have hb' := sums_room hb
    rw [List.sum_cons, ← Int.add_assoc]
    have hk := nab0 (n := 120) h0 h1
    cases d with
    | int n =>
      have hd' : 2 * n = k := hd
      have hn := half_nab hd' hk
      have hf : Num.fitsLong n = true := fits_of (Nat.lt_of_le_of_lt hn (by decide))
      show ∃ r, (if Num.fitsLong n = true then _ else _) = some r ∧ _
      rw [if_pos hf]
      exact ih _ _ _ (m + 120) (ht.add ⟨hd' ▸ (HB.int hn (by decide)).hv, hk⟩ hm1) hc hb'
    | float x =>
      have hx : HB x k 120 := ⟨hd, hk⟩
      have hs := ht.add hx hm1
      have e1 : 120 + (m + 120) + m < 2 ^ 53 := Nat.lt_trans (Nat.add_lt_add (Nat.add_lt_add_left (Nat.add_lt_add_right hm 120) 120) hm) (by decide)
      have l1 := ((hx.sub hs (Nat.lt_of_le_of_lt (Nat.le_add_right _ _) e1)).add ht e1).null (sub_back k T).1
      have e2 : m + (m + 120) + 120 < 2 ^ 53 := Nat.lt_trans (Nat.add_lt_add_right (Nat.add_lt_add hm (Nat.add_lt_add_right hm 120)) 120) (by decide)
      have l2 := ((ht.sub hs (Nat.lt_of_le_of_lt (Nat.le_add_right _ _) e2)).add hx e2).null (sub_back k T).2
      have key : ∀ b : Bool, HB (Float64.add c (if b = true then Float64.add (Float64.sub x (Float64.add t x)) t else Float64.add (Float64.sub t (Float64.add t x)) x)) 0 0 := fun b => by
        cases b with
        | true => exact (hc.add l1 (by decide)).null rfl
        | false => exact (hc.add l2 (by decide)).null rfl
      unfold Num.sumFloats
      exact ih _ _ _ _ hs (key _) hb'
    | _ => exact hd.elim
theorem sumInts_half {ds : List WData} {ks : List Int} (h : Halves ds ks) : ∀ (a : Int) (m : Nat), a.natAbs ≤ m → m + 200 * ds.length < 2 ^ 30 → ∃ r, Num.sumInts a ds = some r ∧ HalfW r (2 * a + ks.sum) := by
  induction h with
  | nil =>
    intro a m ha hb
    exact ⟨_, rfl, by show 2 * a = _; rw [List.sum_nil, Int.add_zero]⟩
  | @cons d k ds ks hd h0 h1 hr ih =>
    intro a m ha hb
    have hm : m < 2 ^ 30 := Nat.lt_of_le_of_lt (Nat.le_add_right _ _) hb
    have hb' := sums_room hb
    have hk := nab0 (n := 120) h0 h1
    rw [List.sum_cons, ← Int.add_assoc]
    cases d with
    | int n =>
      have hd' : 2 * n = k := hd
      have hn := half_nab hd' hk
      have ha' : (a + n).natAbs ≤ m + 120 := Nat.le_trans (Int.natAbs_add_le a n) (Nat.add_le_add ha hn)
      have hf : (Num.fitsLong n && Num.fitsLong (a + n)) = true := Bool.and_eq_true_iff.mpr ⟨fits_of (Nat.lt_of_le_of_lt hn (by decide)), fits_of (Nat.lt_of_le_of_lt ha' (Nat.lt_trans (Nat.add_lt_add_right hm 120) (by decide)))⟩
      show ∃ r, (if (Num.fitsLong n && Num.fitsLong (a + n)) = true then _ else _) = some r ∧ _
      rw [if_pos hf, ← hd', ← Int.mul_add]
      exact ih _ _ ha' hb'
    | float x =>
      have e1 : 2 * m + 120 < 2 ^ 40 := Nat.lt_trans (Nat.add_lt_add_right (Nat.mul_lt_mul_of_pos_left hm (by decide)) 120) (by decide)
      have hz : HB 0 0 0 := ⟨zero_word ▸ HV.zero false, Nat.le_refl 0⟩
      refine sumFloats_half hr _ _ _ (2 * m + 120) ((HB.int ha (Nat.lt_trans (Nat.lt_of_le_of_lt (Nat.le_add_right _ 120) e1) (by decide))).add ⟨hd, hk⟩ (Nat.lt_trans e1 (by decide))) hz (sums_big hm hb')
    | _ => exact hd.elim
theorem numEq_half {r : WData} {k : Int} (h : HalfW r (2 * k)) : NumEq r k := by
  cases r with
  | int n => have h' : 2 * n = 2 * k := h; show n = k; omega
  | float b =>
    have h' : HV b (2 * k) := h
    show (Float64.cmpInt b k == some .eq) = true
    rw [h'.cmpInt]
    simp
  | _ => exact h.elim
noncomputable def capOf (x q v : Int) : Int := if v < x then 120 else if v = x then q else 0
theorem clip_hv {y : UInt64} {Y z : Int} (h : HV y Y) (hz : (Y < 0 ∧ z = 0) ∨ (120 < Y ∧ z = 120) ∨ (0 ≤ Y ∧ Y ≤ 120 ∧ z = Y)) : HalfW (clipW y) z := by
  unfold clipW
  rw [h.cmpInt, h.cmpInt, cmp_lt, cmp_gt]
  show HalfW (if decide (Y < 0) = true then WData.int 0 else if decide (120 < Y) = true then WData.int 60 else WData.float y) z
  rcases hz with ⟨a, rfl⟩ | ⟨a, rfl⟩ | ⟨a, b, rfl⟩
  · rw [if_pos (decide_eq_true a)]; rfl
  · rw [if_neg (fun q => Int.lt_asymm (Int.lt_trans (by decide) a) (of_decide_eq_true q)), if_pos (decide_eq_true a)]; rfl
  · rw [if_neg (fun q => Int.not_lt.mpr a (of_decide_eq_true q)), if_neg (fun q => Int.not_lt.mpr b (of_decide_eq_true q))]; exact h
theorem clip_half {pt : UInt64} {x q v : Int} (hpt : HB pt (2 * x - 60 + q) 20180) (hv : v.natAbs ≤ 10000) (hq1 : 0 ≤ q) (hq2 : q < 120) (hl : v < x → v ≤ x - 60) (hg : x < v → x + 60 ≤ v) :
    HalfW (clipAt pt v) (capOf x q v) := by
  refine clip_hv ((hpt.sub (HB.int hv (by decide)) (by decide)).add (HB.int (i := 30) (n := 30) (by decide) (by decide)) (by decide)).hv ?_
  unfold capOf
  by_cases c1 : v < x
  · have := hl c1
    rw [if_pos c1]
    by_cases c2 : 2 * x - 60 + q - 2 * v + 2 * 30 = 120
    · exact .inr (.inr (by rw [c2]; decide))
    · exact .inr (.inl ⟨by omega, rfl⟩)
  · rw [if_neg c1]
    by_cases c2 : v = x
    · subst c2
      have e : 2 * v - 60 + q - 2 * v + 2 * 30 = q := by omega
      rw [if_pos rfl, e]
      exact .inr (.inr ⟨hq1, Int.le_of_lt hq2, rfl⟩)
    · rw [if_neg c2]
      have := hg (by omega)
      exact .inl ⟨by omega, rfl⟩
theorem cap_sum (x q : Int) : ∀ l : List Int, (l.map (capOf x q)).sum = 120 * ((l.filter fun w => decide (w < x)).length : Int) + q * ((l.filter fun w => decide (w = x)).length : Int)
  | [] => by simp
  | v :: l => by
    rw [List.map_cons, List.sum_cons, cap_sum x q l]
    unfold capOf
    by_cases c1 : v < x
    · have c2 : ¬ v = x := by omega
      simp only [List.filter_cons, c1, c2, decide_true, decide_false, if_true, Bool.false_eq_true, if_false, List.length_cons]
      grind
    · by_cases c2 : v = x
      · simp only [List.filter_cons, c1, c2, decide_true, decide_false, if_true, Bool.false_eq_true, if_false, List.length_cons, Int.lt_irrefl]
        grind
      · simp only [List.filter_cons, c1, c2, decide_false, Bool.false_eq_true, if_false]
        grind
theorem le_parts (x : Int) : ∀ l : List Int, (l.filter fun w => decide (w ≤ x)).length = (l.filter fun w => decide (w < x)).length + (l.filter fun w => decide (w = x)).length
  | [] => by simp
  | v :: l => by
    have ih := le_parts x l
    by_cases c1 : v < x
    · have c2 : ¬ v = x := by omega
      have c3 : v ≤ x := by omega
      simp only [List.filter_cons, c1, c2, c3, decide_true, decide_false, if_true, Bool.false_eq_true, if_false, List.length_cons]
      omega
    · by_cases c2 : v = x
      · have c3 : v ≤ x := by omega
        simp only [List.filter_cons, c1, c2, decide_true, decide_false, if_true, Bool.false_eq_true, if_false, List.length_cons, Int.lt_irrefl, Int.le_refl]
        omega
      · have c3 : ¬ v ≤ x := by omega
        simp only [List.filter_cons, c1, c2, c3, decide_false, Bool.false_eq_true, if_false]
        omega
theorem row_gap {rs : List Int} {mid x v : Int} (h : RowOk rs mid) (hx : x ∈ rs) (hv : v ∈ rs) : (v < x → v ≤ x - 60) ∧ (x < v → x + 60 ≤ v) := by
  obtain ⟨p, _, _, e1⟩ := h x hx
  obtain ⟨q, _, _, e2⟩ := h v hv
  omega
theorem row_nab {rs : List Int} {mid x : Int} (h : RowOk rs mid) (h1 : -50 ≤ mid) (h2 : mid ≤ 49) (hx : x ∈ rs) : x.natAbs ≤ 10000 := by
  obtain ⟨p, a, b, e1⟩ := h x hx
  exact row_nab0 a b h1 h2 e1
theorem row_bnd {rs : List Int} {mid x : Int} (h : RowOk rs mid) (h1 : -50 ≤ mid) (h2 : mid ≤ 49) (hx : x ∈ rs) : -10000 ≤ x ∧ x ≤ 10000 := by
  have := row_nab h h1 h2 hx
  omega
theorem grouped_law {rs : List Int} {mid : Int} {v : Value} (hr : RowOk rs mid) (hm1 : -50 ≤ mid) (hm2 : mid ≤ 49) (hn : 0 < rs.length) (hn2 : rs.length < 6) (hg : GroupedAt rs v) {high : Int} (hh : ∀ d : List Int, d.Perm rs → d.Pairwise (· ≤ ·) → d.getD (rs.length / 2) 0 = high) :
    ∃ pt t, v = .float pt t ∧ (Float64.cmpInt pt (high - 30) == some Ordering.gt || Float64.cmpInt pt (high - 30) == some Ordering.eq) = true ∧ (Float64.cmpInt pt (high + 30) == some Ordering.lt) = true ∧
      ∃ r, Num.sumInts 0 (rs.map (clipAt pt)) = some r ∧ NumEq r (30 * (rs.length : Int)) := by
  obtain ⟨d, i, j, hp, hs, hi, hj, hjn, a1, a2, a3, a4, t, rfl⟩ := hg
  have hl := hp.length_eq
  have hx : d.getD (d.length / 2) 0 = high := by rw [hl]; exact hh d hp hs
  have hxm : high ∈ rs := by rw [← hx]; exact hp.mem_iff.mp (getD_mem (by omega))
  rw [hx] at a1 a2 a3 a4 ⊢
  have hxb := row_nab hr hm1 hm2 hxm
  obtain ⟨q, q1, q2, q3⟩ := gpt_q (n := d.length) (i := i) (j := j) (by omega) hi hj hjn
  have hpt := gpt_hv hxb (by omega) hi hj hjn q1 q2 q3
  refine ⟨_, t, rfl, ?_, ?_, ?_⟩
  · rw [hpt.hv.cmpInt]
    by_cases h0 : q = 0
    · have : compare (2 * high - 60 + q) (2 * (high - 30)) = Ordering.eq := by rw [show 2 * high - 60 + q = 2 * (high - 30) by omega]; simp
      rw [this]; rfl
    · have : compare (2 * high - 60 + q) (2 * (high - 30)) = Ordering.gt := Int.compare_eq_gt.mpr (by omega)
      rw [this]; rfl
  · rw [hpt.hv.cmpInt]
    have : compare (2 * high - 60 + q) (2 * (high + 30)) = Ordering.lt := Int.compare_eq_lt.mpr (by omega)
    rw [this]; rfl
  · have hH : ∀ l : List Int, (∀ w ∈ l, w ∈ rs) → Halves (l.map (clipAt (gptF high d.length i j))) (l.map (capOf high q)) := fun l => by
      induction l with
      | nil => intro _; exact .nil
      | cons w l ih =>
        intro hw
        have hwm := hw w (List.mem_cons_self ..)
        have hwb := row_nab hr hm1 hm2 hwm
        have hgap := row_gap hr hxm hwm
        refine .cons (clip_half hpt hwb q2 q3 hgap.1 hgap.2) ?_ ?_ (ih fun z hz => hw z (List.mem_cons_of_mem _ hz))
        · unfold capOf; split; omega; split <;> omega
        · unfold capOf; split; omega; split <;> omega
    obtain ⟨r, hr1, hr2⟩ := sumInts_half (hH rs fun w hw => hw) 0 0 (Nat.le_refl 0) (by rw [List.length_map]; exact Nat.lt_of_lt_of_le (Nat.add_lt_add_left (Nat.mul_lt_mul_of_pos_left hn2 (by decide)) 0) (by decide))
    refine ⟨r, hr1, ?_⟩
    have c1 : (d.filter fun w => decide (w < high)).length = i := by
      refine Nat.le_antisymm (pre_le fun a h1 h2 => decide_eq_false ?_) (pre_ge (by omega) fun a h1 => decide_eq_true (a1 a h1))
      have := a2 a h1 h2
      omega
    have c2 : (d.filter fun w => decide (w ≤ high)).length = j := by
      refine Nat.le_antisymm (pre_le fun a h1 h2 => decide_eq_false ?_) (pre_ge (by omega) fun a h1 => decide_eq_true (a3 a h1))
      have := a4 a h1 h2
      omega
    have c3 := le_parts high d
    have p1 := (hp.filter (fun w => decide (w < high))).length_eq
    have p2 := (hp.filter (fun w => decide (w = high))).length_eq
    have e : 2 * 0 + (rs.map (capOf high q)).sum = 2 * (30 * (rs.length : Int)) := by
      rw [cap_sum, ← p1, ← p2, c1]
      have c4 : (d.filter fun w => decide (w = high)).length = j - i := by omega
      rw [c4, show ((j - i : Nat) : Int) = (j : Int) - i by omega, ← q1, ← hl]
      omega
    rw [e] at hr2
    exact numEq_half hr2
-- P5
theorem rk_hv {i : Int} {n : Nat} (hi : i.natAbs ≤ 10) (hn : n ≤ 10) : HV (rkF i n) (2 * i + ((n : Int) + 1)) := by
  unfold rkF
  exact ((HB.int hi (by decide)).add (HB.frac (a := (n : Int) + 1) (b := 2) (k := (n : Int) + 1) (n := 11) (by decide) (Int.mul_comm _ _) (Nat.succ_le_succ hn) (by decide)) (by decide)).hv
theorem kpairs_fst (ns : List Int) : (kpairs ns).map (·.1) = ns := by
  unfold kpairs
  rw [List.map_map]
  exact List.zipIdx_map_fst 0 ns
theorem filter_times (rs : List Int) (z : Int) (f : Int → Bool) : (rs.filter fun w => f (w * z)).length = ((rs.map (· * z)).filter f).length := by
  rw [List.filter_map, List.length_map]; rfl
theorem rank_law {rs : List Int} {start : Int} (hs1 : -2 ≤ start) (hs2 : start ≤ 2) (hn : rs.length < 6) (b : Bool) (its : List It) (fs us : List Value) (hok : RkOk its start its.length fs)
    (hp : (its.map fun i => (i.v, i.q)).Perm (kpairs rs)) (hso : (its.map fun i => (i.v, i.q)).Pairwise (fun x y => (if b then plt y x else plt x y) = true))
    (hu : FlAre us (rs.map (rankOf rs start (if b then -1 else 1)))) (ht : ∀ v ∈ us, ∃ a t, v = Value.float a t ∧ t ≠ 0) : ToldF fs us := by
  have hlen : its.length = rs.length := by have := hp.length_eq; rwa [List.length_map, kpairs_len] at this
  have hul : us.length = rs.length := by rw [hu.length, List.length_map]
  obtain ⟨hfl, hok⟩ := hok
  have flAt : ∀ {us : List Value} {bs : List UInt64}, FlAre us bs → ∀ j, (h1 : j < us.length) → (h2 : j < bs.length) → ∃ t, us[j] = .float bs[j] t := by
    intro us bs h
    induction h with
    | nil => intro j h1; exact absurd h1 (Nat.not_lt_zero _)
    | cons b t _ ih =>
      intro j h1 h2
      cases j with
      | zero => exact ⟨t, rfl⟩
      | succ j => exact ih j (by simpa using h1) (by simpa using h2)
  generalize hz : (if b then (-1 : Int) else 1) = z at *
  have hz0 : z ≠ 0 := by rw [← hz]; cases b <;> decide
  -- the keys in order
  have hkp : (its.map fun i => i.v * z).Perm (rs.map (· * z)) := by
    have h1 := hp.map (fun p : Int × Int => p.1 * z)
    rw [List.map_map] at h1
    have e : (kpairs rs).map (fun p : Int × Int => p.1 * z) = rs.map (· * z) := by
      rw [show (fun p : Int × Int => p.1 * z) = (· * z) ∘ (·.1) from rfl, ← List.map_map, kpairs_fst]
    rw [e] at h1
    exact h1
  have hks : (its.map fun i => i.v * z).Pairwise (· ≤ ·) := by
    rw [List.pairwise_map] at hso ⊢
    refine hso.imp fun {x y} h => ?_
    have hle : ∀ {p q : Int × Int}, plt p q = true → p.1 ≤ q.1 := by
      intro p q h
      unfold plt at h
      simp only [Bool.or_eq_true, Bool.and_eq_true, decide_eq_true_eq, beq_iff_eq] at h
      omega
    cases b with
    | true =>
      have h' : plt (y.v, y.q) (x.v, x.q) = true := h
      have := hle h'
      simp at hz
      subst hz
      show x.v * -1 ≤ y.v * -1
      simp only at this
      omega
    | false =>
      have h' : plt (x.v, x.q) (y.v, y.q) = true := h
      have := hle h'
      simp at hz
      subst hz
      show x.v * 1 ≤ y.v * 1
      simp only at this
      omega
  generalize he : (its.map fun i => i.v * z) = e at hkp hks
  have hel : e.length = rs.length := by rw [← he, List.length_map, hlen]
  have eAt : ∀ (i : Nat) (y : It), its[i]? = some y → e.getD i 0 = y.v * z := fun i y h => by
    rw [← he, List.getD_eq_getElem?_getD, List.getElem?_map, h]; rfl
  refine ⟨by rw [hfl, hul, hlen], fun j h1 h2 => ?_⟩
  have hj : j < rs.length := hul ▸ h2
  have hmem : (rs[j], (j : Int)) ∈ its.map fun i => (i.v, i.q) := hp.mem_iff.mpr (List.mem_of_getElem? (kpairs_get rs j hj))
  obtain ⟨x, hx, ex⟩ := List.mem_map.mp hmem
  have ev : x.v = rs[j] := congrArg Prod.fst ex
  have eq : x.q = (j : Int) := congrArg Prod.snd ex
  obtain ⟨jj, hjj, ejj⟩ := List.getElem_of_mem hx
  have hxj : its[jj]? = some x := by rw [← ejj]; exact List.getElem?_eq_getElem hjj
  obtain ⟨a, cnt, t, ht0, hf, h3, h4, h5, h6, h7, h8⟩ := hok jj x hjj hxj
  obtain ⟨u, hus⟩ := flAt hu j h2 (by rw [List.length_map]; exact hj)
  obtain ⟨b9, u9, eu, hu0⟩ := ht _ (List.getElem_mem h2)
  rw [hus] at eu
  cases eu
  have hfj : fs[j] = .float (rkF (start - 1 + a) cnt) t := by
    rw [eq, Int.toNat_natCast, List.getElem?_eq_getElem h1] at hf
    exact Option.some.inj hf
  refine ⟨_, _, t, u, hfj, hus, ht0, hu0, ?_⟩
  rw [List.getElem_map]
  have eV : ∀ i, a ≤ i → i < a + cnt → e.getD i 0 = x.v * z := fun i i1 i2 => by
    obtain ⟨y, hy, hyv⟩ := h6 i i1 i2
    rw [eAt i y hy, hyv]
  have inj : ∀ w : Int, w ≠ x.v → w * z ≠ x.v * z := fun w hw e => hw (Int.eq_of_mul_eq_mul_right hz0 e)
  have hlen' : its.length = e.length := hlen.trans hel.symm
  have hapos := Nat.lt_of_le_of_lt h3 h4
  have hlow : ∀ i, i < a → e.getD i 0 < x.v * z := fun i hi => by
    have ha0 : 0 < a := Nat.lt_of_le_of_lt (Nat.zero_le _) hi
    have hae : a < its.length := Nat.lt_of_le_of_lt h3 hjj
    have hlt : a - 1 < its.length := Nat.lt_of_le_of_lt (Nat.sub_le _ _) hae
    have g1 := sort_le hks (Nat.le_sub_one_of_lt hi) (hlen' ▸ hlt)
    have g2 := sort_le hks (Nat.sub_le a 1) (hlen' ▸ hae)
    rw [eV a (Nat.le_refl _) hapos] at g2
    have hy := List.getElem?_eq_getElem hlt
    have g3 := inj _ (h7 _ ha0 hy)
    rw [← eAt _ _ hy] at g3
    exact Int.lt_of_le_of_lt g1 (Int.lt_iff_le_and_ne.mpr ⟨g2, g3⟩)
  have hhigh : ∀ i, a + cnt ≤ i → i < e.length → x.v * z < e.getD i 0 := fun i i1 i2 => by
    have hlt : a + cnt < e.length := Nat.lt_of_le_of_lt i1 i2
    have g1 := sort_le hks i1 i2
    have g2 := sort_le hks (Nat.sub_le (a + cnt) 1) hlt
    rw [eV (a + cnt - 1) (Nat.le_sub_one_of_lt hapos) (Nat.sub_lt (Nat.lt_of_le_of_lt (Nat.zero_le _) hapos) (by decide))] at g2
    have hy := List.getElem?_eq_getElem (hlen'.symm ▸ hlt : a + cnt < its.length)
    have g3 := inj _ (h8 _ hy)
    rw [← eAt _ _ hy] at g3
    exact Int.lt_of_lt_of_le (Int.lt_iff_le_and_ne.mpr ⟨g2, g3.symm⟩) g1
  have hace : a + cnt ≤ e.length := hlen' ▸ h5
  have hax : ∀ i, a ≤ i → i < e.length → ¬ e.getD i 0 < x.v * z := fun i i1 i2 => by
    have g := sort_le hks i1 i2
    rw [eV a (Nat.le_refl _) hapos] at g
    exact Int.not_lt.mpr g
  have c1 : aheadOf rs z rs[j] = a := by
    unfold aheadOf
    rw [filter_times rs z (fun w => decide (w < rs[j] * z)), ← (hkp.filter _).length_eq, ← ev]
    exact Nat.le_antisymm (pre_le fun i i1 i2 => decide_eq_false (hax i i1 i2)) (pre_ge (Nat.le_trans (Nat.le_add_right _ _) hace) fun i i1 => decide_eq_true (hlow i i1))
  have c2 : uptoOf rs z rs[j] = a + cnt := by
    unfold uptoOf
    rw [filter_times rs z (fun w => decide (w ≤ rs[j] * z)), ← (hkp.filter _).length_eq, ← ev]
    refine Nat.le_antisymm (pre_le fun i i1 i2 => decide_eq_false (Int.not_le.mpr (hhigh i i1 i2))) (pre_ge hace fun i i1 => decide_eq_true ?_)
    by_cases hi : i < a
    · exact Int.le_of_lt (hlow i hi)
    · rw [eV i (Nat.le_of_not_lt hi) i1]; exact Int.le_refl _
  have hac5 : a + cnt ≤ 5 := Nat.le_trans h5 (Nat.le_of_lt_succ (hlen ▸ hn))
  have ha5 : a ≤ 5 := Nat.le_trans (Nat.le_add_right _ _) hac5
  have hst : start.natAbs ≤ 2 := nab hs1 hs2
  have H1 := rk_hv (i := start - 1 + a) (n := cnt) (Nat.le_trans (Int.natAbs_add_le _ _) (Nat.le_trans (Nat.add_le_add (Nat.le_trans (Int.natAbs_sub_le _ _) (Nat.add_le_add_right hst 1)) ha5) (by decide))) (Nat.le_trans (Nat.le_add_left _ _) (Nat.le_trans hac5 (by decide)))
  have H2 : HV (rankOf rs start z rs[j]) (2 * start - 1 + (a : Int) + ((a + cnt : Nat) : Int)) := by
    unfold rankOf
    rw [c1, c2]
    have hb : (2 * start - 1 + (a : Int) + ((a + cnt : Nat) : Int)).natAbs ≤ 2 * 2 + 1 + 5 + 5 := Nat.le_trans (Int.natAbs_add_le _ _) (Nat.add_le_add (Nat.le_trans (Int.natAbs_add_le _ _) (Nat.add_le_add (Nat.le_trans (Int.natAbs_sub_le _ _) (Nat.add_le_add_right (by rw [Int.natAbs_mul]; exact Nat.mul_le_mul_left 2 hst) 1)) ha5)) hac5)
    exact HV.frac (by decide) (Int.mul_comm _ _) (Nat.lt_of_le_of_lt hb (by decide))
  rw [H1.cmp H2]
  have : 2 * (start - 1 + (a : Int)) + ((cnt : Int) + 1) = 2 * start - 1 + (a : Int) + ((a + cnt : Nat) : Int) := by omega
  rw [this]
  simp
section
local macro_rules | `(tactic| walk_at "ite") => `(tactic| first | refine ite_neg (by k_dec) ?_ | refine ite_pos (by k_dec) ?_)
-- S9
noncomputable def FreshL (s : Shared) (P : List Value → Prop) (h : Heap) (v : Value) : Prop := ∃ (r : Addr) (fs : List Value) (c : Nat), v = .ref r ∧ s.heap.get? r = none ∧ h.get? r = some (W.listOf fs.toArray c) ∧ P fs
theorem news_or {g h h' : Heap} {L r D : Addr} {m : Str → Option Value} {news : List (Addr × Obj)} {ws ys : List Value} {c k : Nat} (F : Fr g L h m) (N : News g L h news) (st : h.StaysIn h')
    (hr : h.get? r = none ∧ h'.get? r = some (W.listOf ws.toArray c) ∨ r = D ∧ ws = ys ∧ c = k) (hm : (D, W.listOf ys.toArray k) ∈ news) : News g L h' ((r, W.listOf ws.toArray c) :: news) := by
  rcases hr with ⟨a, b⟩ | ⟨rfl, rfl, rfl⟩
  · exact news_add F N st a b
  · intro p hp
    rcases List.mem_cons.mp hp with rfl | hp
    · exact N.grown st _ hm
    · exact N.grown st _ hp
theorem led_one {g h : Heap} {L : Addr} {q : Option (Addr × Obj)} {e d : Addr × Obj} {l : List (Addr × Obj)} (N : News g L h (e :: (madeLed q ++ l))) (hd : d ∈ l) (K : Addr → Prop) (k1 : K d.1) (k2 : ∀ x, q = some x → K x.1) :
    ∃ a9 oa9, K a9 ∧ (∀ p ∈ madeLed q, p = (a9, oa9)) ∧ News g L h ((a9, oa9) :: e :: l) := by
  cases q with
  | none =>
    refine ⟨d.1, d.2, k1, (fun p hp => nomatch hp), fun p hp => ?_⟩
    rcases List.mem_cons.mp hp with rfl | hp
    · exact N _ (List.mem_cons_of_mem _ hd)
    · exact N _ hp
  | some x =>
    refine ⟨x.1, x.2, k2 x rfl, (fun p hp => List.mem_singleton.mp hp), fun p hp => ?_⟩
    rcases List.mem_cons.mp hp with rfl | hp
    · exact N _ (List.mem_cons_of_mem _ (List.mem_cons_self ..))
    · rcases List.mem_cons.mp hp with rfl | hp
      · exact N _ (List.mem_cons_self ..)
      · exact N _ (List.mem_cons_of_mem _ (List.mem_cons_of_mem _ hp))
namespace st9_c
noncomputable def hkS : Prop := ∀ {w p loose mean mg mb} {g : Heap} {L fa Dr Dk Dw : Addr} {ys vs : List Value} {rise wr : List Int} {kd : String} {PX PI : Int → List Value → Prop} {kr kk kw : Nat} {o1 o2 o3 o4 o5 o6 oP : Obj} {s : Shared} {m : Str → Option Value} {Q : Flow → Shared → Prop} {E : Value → Shared → Prop} (G : LawG w p loose mean mg mb g) (F : Fr g L s.heap m) (N : News g L s.heap (lawLed L Dr Dk Dw ys vs kr kk kw o1 o2 o3 o4 o5 o6 oP)) (d6 : o6.data = .cell (some (.ref Dw))) (d4 : o4.data = .cell none) (lP : @LT.lt Nat _ 353 L) (l0 : @LT.lt Nat _ (L + 1 + 1 + 1 + 1 + 1 + 1) Dw) (l1 : @LT.lt Nat _ Dw Dk) (l2 : @LT.lt Nat _ Dk Dr) (hy : IntsAre ys rise) (hr1 : 0 < rise.length) (hr2 : rise.length < 100) (hbr : ∀ x ∈ rise, -100000 ≤ x ∧ x ≤ 100000) (hw1 : 0 < wr.length) (hw2 : wr.length < 100) (hwb : ∀ x ∈ wr, -100000 ≤ x ∧ x ≤ 100000) (mr : m (Str.ofString "rise") = some (.ref Dr)) (mk : m (Str.ofString "kind") = some (.type kd)) (hqx : ∀ (s' : Shared) (k : Int) (tk u : Tok), s'.heap.IsList Dw vs.toArray → 1 ≤ k → k ≤ 10 → Pure w p loose mean mg mb 315 [.ref Dw] [("n", .int k tk), ("method", .str "exclusive" u)] s' 4 60 (FreshL s' (PX k))) (hqi : ∀ (s' : Shared) (k : Int) (tk u : Tok), s'.heap.IsList Dw vs.toArray → 1 ≤ k → k ≤ 10 → Pure w p loose mean mg mb 315 [.ref Dw] [("n", .int k tk), ("method", .str "inclusive" u)] s' 4 60 (FreshL s' (PI k))) (hwd : ∀ s' : Shared, s'.heap.IsList Dr ys.toArray → Pure w p loose mean mg mb 346 [.ref Dr] [] s' 4 60 (fun h v => ∃ (r : Addr) (ws : List Value) (c : Nat), v = .ref r ∧ (s'.heap.get? r = none ∧ h.get? r = some (W.listOf ws.toArray c) ∨ r = Dr ∧ ws = ys ∧ c = kr) ∧ IntsAre ws wr)) (hlx : ∀ k : Int, 1 ≤ k → k ≤ 10 → (k = -1 ∨ k = 0 ∨ k = 1 ∨ k = 2 ∨ k = 3 ∨ k = 4 ∨ k = 5 ∨ k = 6 ∨ k = 10) → ∀ fs us, PX k fs → IntsAre us (cutsOf wr k) → fs.length < 12 ∧ Told kd fs us) (hli : ∀ k : Int, 1 ≤ k → k ≤ 10 → (k = -1 ∨ k = 0 ∨ k = 1 ∨ k = 2 ∨ k = 3 ∨ k = 4 ∨ k = 5 ∨ k = 6 ∨ k = 10) → ∀ fs us, PI k fs → IntsAre us (cutsOf rise k) → fs.length < 12 ∧ Told kd fs us) (hP : oP = tabObj #[]) (C9 : CodeHd g 355 353) (hE : PassesOwn (model PG w) (lawA L fa) (lawEnv L fa) E) (hq : ∀ h' tk' o4' (q : Addr × Obj), (∃ x, o4'.data = .cell x) → Fr g L h' m → News g L h' (madeLed (some q) ++ lawLed L Dr Dk Dw ys vs kr kk kw o1 o2 o3 o4' o5 o6 (madeTab 294 32 #[] (some q))) → Q .next { s with heap := h', toks := tk' }), wpAny (model PG w) (lawA L fa) (exec (lawStmt 9) (lawEnv L fa)) Q E s
noncomputable def hkK : Σ' P : World → Program → tS → tX → tM → tM → Heap → Addr → Addr → Addr → Addr → Addr → tV → tV → tI → tI → String → (Int → List Value → Prop) → (Int → List Value → Prop) → Nat → Nat → Nat → Obj → Obj → Obj → Obj → Obj → Obj → Shared → tM → (Flow → Shared → Prop) → tQ → Prop, (∀ a b c d e f g h i j k l m n o p q r s t u v w x y z xa xb xc xd xe xf, P a b c d e f g h i j k l m n o p q r s t u v w x y z xa xb xc xd xe xf) → hkS := ⟨_, fun hk9 => by intro w p loose mean mg mb g L fa Dr Dk Dw ys vs rise wr kd PX PI kr kk kw o1 o2 o3 o4 o5 o6 oP s m Q E G F N d6 d4 lP l0 l1 l2 hy hr1 hr2 hbr hw1 hw2 hwb mr mk hqx hqi hwd hlx hli hP C9 hE hq; revert hq; revert hE; revert C9; revert hP; revert hli; revert hlx; revert hwd; revert hqi; revert hqx; revert mk; revert mr; revert hwb; revert hw2; revert hw1; revert hbr; revert hr2; revert hr1; revert hy; revert l2; revert l1; revert l0; revert lP; revert d4; revert d6; revert N; revert F; revert G; revert oP; apply (hk9 w p loose mean mg mb g L fa Dr Dk Dw ys vs rise wr kd PX PI kr kk kw o1 o2 o3 o4 o5 o6 s m Q E)⟩
namespace Z9
noncomputable def hkP (y : VV) := hkK.1 (y.W 0) (y.P 0) (y.S 0) (y.X 0) (y.M 0) (y.M 1) (y.H 0) (y.N 0) (y.N 1) (y.N 2) (y.N 3) (y.N 4) (y.L 0) (y.L 1) (y.I 0) (y.I 1) (y.p 0) (y.n 0) (y.n 1) (y.N 5) (y.N 6) (y.N 7) (y.O 0) (y.O 1) (y.O 2) (y.O 3) (y.O 4) (y.O 5) (y.R 0) (y.M 2) (y.r 0) (y.Q 0)
@[irreducible] noncomputable def hkG1 := epsV0 hkP
@[irreducible] def p : Program := hkG1.P 0
@[irreducible] def L : Addr := hkG1.N 0
@[irreducible] def Dr : Addr := hkG1.N 2
@[irreducible] def Dk : Addr := hkG1.N 3
@[irreducible] def Dw : Addr := hkG1.N 4
@[irreducible] def ys : tV := hkG1.L 0
@[irreducible] def vs : tV := hkG1.L 1
@[irreducible] def rise : tI := hkG1.I 0
@[irreducible] def kd : String := hkG1.p 0
@[irreducible] def kr : Nat := hkG1.N 5
@[irreducible] def kk : Nat := hkG1.N 6
@[irreducible] def kw : Nat := hkG1.N 7
@[irreducible] def o1 : Obj := hkG1.O 0
@[irreducible] def o2 : Obj := hkG1.O 1
@[irreducible] def o3 : Obj := hkG1.O 2
@[irreducible] def o4 : Obj := hkG1.O 3
@[irreducible] def o5 : Obj := hkG1.O 4
@[irreducible] def o6 : Obj := hkG1.O 5
noncomputable def hkK1 : Σ' P0 : Addr → Heap → Addr → Obj → (Option (Addr × Obj)) → tV → Heap → Nat → Obj → (Option Value) → Int → Tok → Addr → Obj → Obj → Prop, (∀ a b c d e f g h i j k l m n o, P0 a b c d e f g h i j k l m n o) → hkP hkG1 := ⟨_, fun hcKA => by
  with_unfolding_all show hkK.1 (hkG1.W 0) p (hkG1.S 0) (hkG1.X 0) (hkG1.M 0) (hkG1.M 1) (hkG1.H 0) L (hkG1.N 1) Dr Dk Dw ys vs rise (hkG1.I 1) kd (hkG1.n 0) (hkG1.n 1) kr kk kw o1 o2 o3 o4 o5 o6 (hkG1.R 0) (hkG1.M 2) (hkG1.r 0) (hkG1.Q 0)
  intro oP G F N d6 d4 lP l0 l1 l2 hy hr1 hr2 hbr hw1 hw2 hwb mr mk hqx hqi hwd hlx hli hP C9 hE hq
  have F1 := fr_know (fr_know F mk) (show (fun z => if z = Str.ofString "kind" then some (Value.type kd) else (hkG1.M 2) z) (Str.ofString "rise") = some (.ref Dr) from mr)
  have emm : ∀ z, (fun z => if z = Str.ofString "rise" then some (Value.ref Dr) else if z = Str.ofString "kind" then some (Value.type kd) else (hkG1.M 2) z) z = (hkG1.M 2) z := by
    intro z; dsimp only; split
    · subst_vars; exact mr.symm
    · split
      · subst_vars; exact mk.symm
      · rfl
  clear F
  subst hP
  obtain ⟨B9, X9, T9⟩ := G
  revert X9
  unfold PG
  k_fill
  intro X9
  unfold lawLed at *
  ((unfold lawA lawEnv); (conv in (lawStmt _) => whnf); (conv in (occs := *) lawScope => all_goals whnf))
  k_dflt refine' For_turns F1 ?_ (fun _ => rfl) hE
  (repeat' ((fail_if_success (with_reducible show wpAny _ _ (call (Value.ref _) _ _) _ _ _)); (fail_if_success (with_reducible show CompToks _ _ _ _ _ _ _ _ _ _ _ _)); (fail_if_success (with_reducible show CompIt _ _ _ _ _ _ _ _ _ _ _ _ _ _)); (fail_if_success (with_reducible show wpAny _ _ (exec (Stmt.For _ _ _ _ _) _) _ _ _)); (fail_if_success (with_reducible show wpAny _ _ (pyIter (Value.ref _)) _ _ _)); (walk_at "step")))
  (rename News _ _ _ _ => N9); (rename Fr _ _ _ _ => F9)
  k_dflt refine' iter_tupTurns rfl F9 N9 (List.mem_cons_self ..) rfl rfl (fun I hI => ?_)
  refine items_led (σ := Obj × Option (Addr × Obj)) (vs := _) (fun c => madeLed c.2 ++ _ :: lawLed L Dr Dk Dw ys vs kr kk kw o1 o2 o3 c.1 o5 o6 (madeTab 294 32 #[] c.2)) (fun us c m' => (∃ x, c.1.data = .cell x) ∧ (∀ q, c.2 = some q → CodeOk lamQual q.2 ∧ @LT.lt Nat _ I q.1) ∧ (c.2 = none → ∃ t r, us = .int (-1) t :: r) ∧ m' = (fun z => if z = Str.ofString "rise" then some (Value.ref Dr) else if z = Str.ofString "kind" then some (Value.type kd) else (hkG1.M 2) z)) (fun us c m' hc p hp => ?off) (fun c => List.mem_append_right _ (List.mem_cons_self ..)) ?turn ?done _ (o4, none) _ (fun v hv => hv) ⟨⟨_, d4⟩, (fun q hq => nomatch hq), fun _ => ⟨_, _, rfl⟩, rfl⟩
  case off =>
    rcases List.mem_append.mp hp with hp | hp
    · obtain ⟨c, _ | q⟩ := c
      · exact nomatch hp
      · rw [List.mem_singleton.mp hp]
        exact Nat.ne_of_gt (hc.2.1 q rfl).2
    · have k2 : p.1 ∈ (_ :: lawLed L Dr Dk Dw ys vs kr kk kw o1 o2 o3 o4 o5 o6 (tabObj #[])).map (·.1) := List.mem_map_of_mem (f := (·.1)) hp
      obtain ⟨q, hq, e⟩ := List.mem_map.mp k2
      rw [← e]
      exact Nat.ne_of_lt (hI q hq)
  case done =>
    rintro ⟨c, _ | q⟩ m9 h tk ⟨dc, hq2, hn, rfl⟩ F3 N3
    · obtain ⟨t, r, e⟩ := hn rfl
      cases e
    refine hq _ _ c q dc (fr_eq F3 emm) (N3.perm fun p hp => ?_)
    rcases List.mem_append.mp hp with hp | hp
    · exact List.mem_append_left _ hp
    · exact List.mem_append_right _ (List.mem_cons_of_mem _ hp)
  case turn =>
    rintro ⟨c, q⟩ m9 v r9 h tk o hP ⟨⟨x, dc⟩, hq2, hn, rfl⟩ F3 N3
    have hv : ∃ k t, v = Value.int k t ∧ (k = -1 ∨ k = 0 ∨ k = 1 ∨ k = 2 ∨ k = 3 ∨ k = 4 ∨ k = 5 ∨ k = 6 ∨ k = 10) := by
      simp only [List.mem_cons, List.not_mem_nil, or_false] at hP
      rcases hP with rfl | rfl | rfl | rfl | rfl | rfl | rfl | rfl | rfl <;> exact ⟨_, _, rfl, by decide⟩
    obtain ⟨k, tv, rfl, hk⟩ := hv
    have hqn : q = none → k < 1 := fun e => by
      obtain ⟨t, r, e⟩ := hn e
      cases e; decide
    clear hn
    have lI : @LT.lt Nat _ Dr I := hI (Dr, _) (List.mem_cons_of_mem _ (List.mem_cons_self ..))
    clear hP F9 N9
    dsimp only at N3
    by_cases hk0 : k < 1
    · cases q with
      | none =>
        dsimp only [madeLed, madeTab, List.nil_append] at N3
        unfold lawLed at N3
        walk_at "ls"
        rename_i h8 o8 F8 N8 d8 f9 c9 oc9 vs9 t9 ct9 h9 tk9 F5 N5 d51 d52 l5 l6
        k_dflt refine' refused_q (hkG1.W 0) p (hkG1.S 0) (hkG1.X 0) (hkG1.M 0) (hkG1.M 1) _ f9 c9 (L + 1 + 1 + 1 + 1) (L + 1 + 1 + 1 + 1 + 1 + 1) Dw oc9 o8 o6 (((hkG1.M 0) (Str.ofString "__name__")).getD .none) ct9 lamQual k tv hk0 d8 d6 ⟨vs9, t9, d51, d52⟩ C9 ?e1 ?e2 ?e3 _ _ _ _ _ _ _ _ [] callerA (hkG1.H 0) (hkG1.H 0) L _ _ _ B9 F5 ?hN X9 T9 ktsDicts_nil (by rfl) (by ktr_room) (by ktr_units) ?_
        case e1 => show @LT.lt Nat _ _ _; first | exact al0 | exact al1 | exact al2 | exact al3 | exact al4 | exact al5 | exact al6 | exact al7 | exact al8 | exact al9 | exact al10 | omega
        case e2 => show @LT.lt Nat _ _ _; first | exact al0 | exact al1 | exact al2 | exact al3 | exact al4 | exact al5 | exact al6 | exact al7 | exact al8 | exact al9 | exact al10 | omega
        case e3 => show @LT.lt Nat _ _ _; first | exact al0 | exact al1 | exact al2 | exact al3 | exact al4 | exact al5 | exact al6 | exact al7 | exact al8 | exact al9 | exact al10 | omega
        case hN =>
          refine N5.perm ?_
          ((conv in (occs := *) lam9 => all_goals whnf); (try dsimp only))
          (repeat (first | exact List.forall_mem_nil _ | refine List.forall_mem_cons.mpr ⟨by k_mem, ?_⟩))
        rintro v h6 tk6 g6 T6 S6 ⟨rfl, A6⟩
        have back := fun hs => turn_muts (fa := (hkG1.N 1)) B9 F5 N5 hs T6 S6 A6
        obtain ⟨F6, N6⟩ := back (by ((conv in (occs := *) lam9 => all_goals whnf); (try dsimp only)); (repeat (first | exact List.forall_mem_nil _ | refine List.forall_mem_cons.mpr ⟨by k_mem, ?_⟩)))
        clear back A6 T6 S6 F5 N5
        walk_at "ls"
        (rename News _ _ _ _ => N7); (rename Fr _ _ _ _ => F7)
        refine UnEnd.intro (o8, some (c9, oc9)) F7 (N7.perm ?_) ⟨⟨_, d8⟩, ?_, (fun e => nomatch e), rfl⟩
        · (repeat (first | exact List.forall_mem_nil _ | refine List.forall_mem_cons.mpr ⟨by k_mem, ?_⟩))
        · intro q hq; cases hq; exact ⟨⟨vs9, t9, d51, d52⟩, by show @LT.lt Nat _ _ _; first | exact al0 | exact al1 | exact al2 | exact al3 | exact al4 | exact al5 | exact al6 | exact al7 | exact al8 | exact al9 | exact al10 | omega⟩
      | some q =>
        obtain ⟨hco, lq⟩ := hq2 q rfl
        obtain ⟨a, oc⟩ := q
        dsimp only at lq hco
        dsimp only [madeLed, madeTab, List.cons_append, List.nil_append] at N3
        unfold lawLed at N3
        walk_at "ls"
        rename_i h8 o8 F8 N8 d8 f9 ct9 h9 tk9 F5 N5 l5
        k_dflt refine' refused_q (hkG1.W 0) p (hkG1.S 0) (hkG1.X 0) (hkG1.M 0) (hkG1.M 1) _ f9 a (L + 1 + 1 + 1 + 1) (L + 1 + 1 + 1 + 1 + 1 + 1) Dw oc o8 o6 (((hkG1.M 0) (Str.ofString "__name__")).getD .none) ct9 lamQual k tv hk0 d8 d6 hco C9 ?e1 ?e2 ?e3 _ _ _ _ _ _ _ _ [] callerA (hkG1.H 0) (hkG1.H 0) L _ _ _ B9 F5 ?hN X9 T9 ktsDicts_nil (by rfl) (by ktr_room) (by ktr_units) ?_
        case e1 => show @LT.lt Nat _ _ _; first | exact al0 | exact al1 | exact al2 | exact al3 | exact al4 | exact al5 | exact al6 | exact al7 | exact al8 | exact al9 | exact al10 | omega
        case e2 => show @LT.lt Nat _ _ _; first | exact al0 | exact al1 | exact al2 | exact al3 | exact al4 | exact al5 | exact al6 | exact al7 | exact al8 | exact al9 | exact al10 | omega
        case e3 => show @LT.lt Nat _ _ _; first | exact al0 | exact al1 | exact al2 | exact al3 | exact al4 | exact al5 | exact al6 | exact al7 | exact al8 | exact al9 | exact al10 | omega
        case hN =>
          refine N5.perm ?_
          ((conv in (occs := *) lam9 => all_goals whnf); (try dsimp only))
          (repeat (first | exact List.forall_mem_nil _ | refine List.forall_mem_cons.mpr ⟨by k_mem, ?_⟩))
        rintro v h6 tk6 g6 T6 S6 ⟨rfl, A6⟩
        have back := fun hs => turn_muts (fa := (hkG1.N 1)) B9 F5 N5 hs T6 S6 A6
        obtain ⟨F6, N6⟩ := back (by ((conv in (occs := *) lam9 => all_goals whnf); (try dsimp only)); (repeat (first | exact List.forall_mem_nil _ | refine List.forall_mem_cons.mpr ⟨by k_mem, ?_⟩)))
        clear back A6 T6 S6 F5 N5
        walk_at "ls"
        (rename News _ _ _ _ => N7); (rename Fr _ _ _ _ => F7)
        refine UnEnd.intro (o8, some (a, oc)) F7 (N7.perm ?_) ⟨⟨_, d8⟩, ?_, (fun e => nomatch e), rfl⟩
        · (repeat (first | exact List.forall_mem_nil _ | refine List.forall_mem_cons.mpr ⟨by k_mem, ?_⟩))
        · intro q hq; cases hq; exact ⟨hco, by show @LT.lt Nat _ _ _; first | exact al0 | exact al1 | exact al2 | exact al3 | exact al4 | exact al5 | exact al6 | exact al7 | exact al8 | exact al9 | exact al10 | omega⟩
    · obtain ⟨a9, oa9, la9, hm9, N4⟩ := led_one (d := (Dw, W.listOf vs.toArray kw)) N3 (by unfold lawLed; k_mem) (fun a => @LT.lt Nat _ (L + 1 + 1 + 1 + 1 + 1 + 1) a) l0 (fun x hx => by have := (hq2 x hx).2; show @LT.lt Nat _ _ _; first | exact al0 | exact al1 | exact al2 | exact al3 | exact al4 | exact al5 | exact al6 | exact al7 | exact al8 | exact al9 | exact al10 | omega)
      have hk1 : 1 ≤ k := by omega
      have hk2 : k ≤ 10 := by omega
      clear N3
      generalize hmt : madeTab 294 32 #[] q = oT at N4
      unfold lawLed at N4
      rename_i Dka1 hka2 lka3
      revert N4; revert hmt; revert hk2; revert hk1; revert hm9; revert la9; revert hk0; revert lI; revert hqn; revert hk; revert F3; revert hq2; revert dc; revert hI; revert lka3; revert X9; revert T9; revert B9; revert emm; revert hq; revert hE; revert C9; revert hli; revert hlx; revert hwd; revert hqi; revert hqx; revert mk; revert mr; revert hwb; revert hw2; revert hw1; revert hbr; revert hr2; revert hr1; revert hy; revert l2; revert l1; revert l0; revert lP; revert d4; revert d6; apply (hcKA Dka1 hka2 I c q r9 h tk o x k tv a9 oa9 oT)⟩
namespace KA
noncomputable def hkP (y : VV) := hkK1.1 (y.N 0) (y.H 0) (y.N 1) (y.O 0) (y.y 0) (y.L 0) (y.H 1) (y.N 2) (y.O 1) (y.q 0) (y.Z 0) (y.N 3) (y.N 4) (y.O 2) (y.O 3)
@[irreducible] noncomputable def hkG2 := epsV0 hkP
@[irreducible] def q : (Option (Addr × Obj)) := hkG2.y 0
noncomputable def hkK2 : Σ' P0 : Obj → Heap → Nat → Addr → tV → Nat → Prop, (∀ a b c d e f, P0 a b c d e f) → hkP hkG2 := ⟨_, fun hcKB => by
  with_unfolding_all show hkK1.1 (hkG2.N 0) (hkG2.H 0) (hkG2.N 1) (hkG2.O 0) q (hkG2.L 0) (hkG2.H 1) (hkG2.N 2) (hkG2.O 1) (hkG2.q 0) (hkG2.Z 0) (hkG2.N 3) (hkG2.N 4) (hkG2.O 2) (hkG2.O 3)
  intro d6 d4 lP l0 l1 l2 hy hr1 hr2 hbr hw1 hw2 hwb mr mk hqx hqi hwd hlx hli C9 hE hq emm B9 T9 X9 lka3 hI dc hq2 F3 hk hqn lI hk0 la9 hm9 hk1 hk2 hmt N4
  walk_at "ls"
  rename_i h8 o8 F10 N10 d8
  k_dflt refine hqx _ (hkG2.Z 0) _ _ (isList_of (N10.get (by k_mem))) hk1 hk2 _ _ _ _ _ _ _ _ _ callerA (hkG1.H 0) (hkG1.H 0) L _ _ _ B9 F10 X9 T9 (by rfl) (by ktr_room) (by ktr_units) ?_
  rintro v h11 tk11 st11 ⟨r11, fs10, c11, rfl, hz11, hg11, hf10⟩
  have F11 := F10.keeps st11
  have N11 := news_add F10 N10 st11 hz11 hg11
  clear F10 N10 hz11 hg11 st11
  (try dsimp only)
  revert N11; revert F11; revert hf10; revert d8; revert N4; revert hmt; revert hk2; revert hk1; revert hm9; revert la9; revert hk0; revert lI; revert hqn; revert hk; revert F3; revert hq2; revert dc; revert hI; revert lka3; revert X9; revert T9; revert B9; revert emm; revert hq; revert hE; revert C9; revert hli; revert hlx; revert hwd; revert hqi; revert hqx; revert mk; revert mr; revert hwb; revert hw2; revert hw1; revert hbr; revert hr2; revert hr1; revert hy; revert l2; revert l1; revert l0; revert lP; revert d4; revert d6; apply (hcKB o8 h11 tk11 r11 fs10 c11)⟩
namespace KB
noncomputable def hkP (y : VV) := hkK2.1 (y.O 0) (y.H 0) (y.N 0) (y.N 1) (y.L 0) (y.N 2)
@[irreducible] noncomputable def hkG3 := epsV0 hkP
@[irreducible] def o8 : Obj := hkG3.O 0
noncomputable def hkK3 : Σ' P0 : Addr → tV → Nat → Heap → Nat → Addr → tV → Nat → Prop, (∀ a b c d e f g h, P0 a b c d e f g h) → hkP hkG3 := ⟨_, fun hcKC => by
  with_unfolding_all show hkK2.1 o8 (hkG3.H 0) (hkG3.N 0) (hkG3.N 1) (hkG3.L 0) (hkG3.N 2)
  intro d6 d4 lP l0 l1 l2 hy hr1 hr2 hbr hw1 hw2 hwb mr mk hqx hqi hwd hlx hli C9 hE hq emm B9 T9 X9 lka3 hI dc hq2 F3 hk hqn lI hk0 la9 hm9 hk1 hk2 hmt N4 d8 hf10 F11 N11
  walk_at "ls"
  k_dflt refine hwd _ (isList_of (N11.get (by k_mem))) _ _ _ _ _ _ _ _ _ callerA (hkG1.H 0) (hkG1.H 0) L _ _ _ B9 F11 X9 T9 (by rfl) (by ktr_room) (by ktr_units) ?_
  rintro v h12 tk12 st12 ⟨r12, ws10, c12, rfl, hor, hw10⟩
  have F12 := F11.keeps st12
  have N12 := news_or F11 N11 st12 hor (by k_mem)
  clear F11 N11 hor st12
  walk_at "ls"
  k_dflt refine cuts_t (hkG1.W 0) p (hkG1.S 0) (hkG1.X 0) (hkG1.M 0) (hkG1.M 1) _ r12 ws10 (hkG1.I 1) (hkG2.Z 0) _ (isList_of (N12.get (by k_mem))) hw10 hw1 hw2 hk1 hk2 hwb _ _ _ _ _ _ _ _ _ callerA (hkG1.H 0) (hkG1.H 0) L _ _ _ B9 F12 X9 T9 (by rfl) (by ktr_room) (by ktr_units) ?_
  rintro v h13 tk13 st13 ⟨r13, us10, c13, rfl, hz13, hg13, hu10⟩
  have F13 := F12.keeps st13
  have N13 := news_add F12 N12 st13 hz13 hg13
  clear F12 N12 hz13 hg13 st13
  (try dsimp only)
  revert N13; revert F13; revert hu10; revert hw10; revert hf10; revert d8; revert N4; revert hmt; revert hk2; revert hk1; revert hm9; revert la9; revert hk0; revert lI; revert hqn; revert hk; revert F3; revert hq2; revert dc; revert hI; revert lka3; revert X9; revert T9; revert B9; revert emm; revert hq; revert hE; revert C9; revert hli; revert hlx; revert hwd; revert hqi; revert hqx; revert mk; revert mr; revert hwb; revert hw2; revert hw1; revert hbr; revert hr2; revert hr1; revert hy; revert l2; revert l1; revert l0; revert lP; revert d4; revert d6; apply (hcKC r12 ws10 c12 h13 tk13 r13 us10 c13)⟩
namespace KC
noncomputable def hkP (y : VV) := hkK3.1 (y.N 0) (y.L 0) (y.N 1) (y.H 0) (y.N 2) (y.N 3) (y.L 1) (y.N 4)
@[irreducible] noncomputable def hkG4 := epsV0 hkP
noncomputable def hkK4 : Σ' P0 : Heap → Nat → Prop, (∀ a b, P0 a b) → hkP hkG4 := ⟨_, fun hcKD => by
  with_unfolding_all show hkK3.1 (hkG4.N 0) (hkG4.L 0) (hkG4.N 1) (hkG4.H 0) (hkG4.N 2) (hkG4.N 3) (hkG4.L 1) (hkG4.N 4)
  intro d6 d4 lP l0 l1 l2 hy hr1 hr2 hbr hw1 hw2 hwb mr mk hqx hqi hwd hlx hli C9 hE hq emm B9 T9 X9 lka3 hI dc hq2 F3 hk hqn lI hk0 la9 hm9 hk1 hk2 hmt N4 d8 hf10 hw10 hu10 F13 N13
  walk_at "ls"
  have ht10 := hlx (hkG2.Z 0) hk1 hk2 hk (hkG3.L 0) (hkG4.L 1) hf10 hu10
  k_dflt refine told_t (hkG1.W 0) p (hkG1.S 0) (hkG1.X 0) (hkG1.M 0) (hkG1.M 1) _ (hkG3.N 1) (hkG4.N 3) (hkG3.L 0) (hkG4.L 1) kd (isList_of (N13.get (by k_mem))) (isList_of (N13.get (by k_mem))) ht10.1 ht10.2 _ _ _ _ _ _ _ _ _ callerA (hkG1.H 0) (hkG1.H 0) L _ _ _ B9 F13 X9 T9 (by rfl) (by ktr_room) (by ktr_units) ?_
  rintro v h14 tk14 st14 rfl
  have F14 := F13.keeps st14
  have N14 := N13.grown st14
  clear F13 N13 st14
  (try dsimp only)
  revert N14; revert F14; revert ht10; revert hu10; revert hw10; revert hf10; revert d8; revert N4; revert hmt; revert hk2; revert hk1; revert hm9; revert la9; revert hk0; revert lI; revert hqn; revert hk; revert F3; revert hq2; revert dc; revert hI; revert lka3; revert X9; revert T9; revert B9; revert emm; revert hq; revert hE; revert C9; revert hli; revert hlx; revert hwd; revert hqi; revert hqx; revert mk; revert mr; revert hwb; revert hw2; revert hw1; revert hbr; revert hr2; revert hr1; revert hy; revert l2; revert l1; revert l0; revert lP; revert d4; revert d6; apply (hcKD h14 tk14)⟩
namespace KD
noncomputable def hkP (y : VV) := hkK4.1 (y.H 0) (y.N 0)
@[irreducible] noncomputable def hkG5 := epsV0 hkP
noncomputable def hkK5 : Σ' P0 : Heap → Nat → Addr → tV → Nat → Prop, (∀ a b c d e, P0 a b c d e) → hkP hkG5 := ⟨_, fun hcKE => by
  with_unfolding_all show hkK4.1 (hkG5.H 0) (hkG5.N 0)
  intro d6 d4 lP l0 l1 l2 hy hr1 hr2 hbr hw1 hw2 hwb mr mk hqx hqi hwd hlx hli C9 hE hq emm B9 T9 X9 lka3 hI dc hq2 F3 hk hqn lI hk0 la9 hm9 hk1 hk2 hmt N4 d8 hf10 hw10 hu10 ht10 F14 N14
  walk_at "ls"
  k_dflt refine hqi _ (hkG2.Z 0) _ _ (isList_of (N14.get (by k_mem))) hk1 hk2 _ _ _ _ _ _ _ _ _ callerA (hkG1.H 0) (hkG1.H 0) L _ _ _ B9 F14 X9 T9 (by rfl) (by ktr_room) (by ktr_units) ?_
  rintro v h15 tk15 st15 ⟨r15, fs14, c15, rfl, hz15, hg15, hf14⟩
  have F15 := F14.keeps st15
  have N15 := news_add F14 N14 st15 hz15 hg15
  clear F14 N14 hz15 hg15 st15
  (try dsimp only)
  revert N15; revert F15; revert hf14; revert ht10; revert hu10; revert hw10; revert hf10; revert d8; revert N4; revert hmt; revert hk2; revert hk1; revert hm9; revert la9; revert hk0; revert lI; revert hqn; revert hk; revert F3; revert hq2; revert dc; revert hI; revert lka3; revert X9; revert T9; revert B9; revert emm; revert hq; revert hE; revert C9; revert hli; revert hlx; revert hwd; revert hqi; revert hqx; revert mk; revert mr; revert hwb; revert hw2; revert hw1; revert hbr; revert hr2; revert hr1; revert hy; revert l2; revert l1; revert l0; revert lP; revert d4; revert d6; apply (hcKE h15 tk15 r15 fs14 c15)⟩
namespace KE
noncomputable def hkP (y : VV) := hkK5.1 (y.H 0) (y.N 0) (y.N 1) (y.L 0) (y.N 2)
@[irreducible] noncomputable def hkG6 := epsV0 hkP
theorem hkM : hkP hkG6 := (by exact @wI _ _ : @wT (hkP hkG6) (by
  with_unfolding_all show hkK5.1 (hkG6.H 0) (hkG6.N 0) (hkG6.N 1) (hkG6.L 0) (hkG6.N 2)
  intro d6 d4 lP l0 l1 l2 hy hr1 hr2 hbr hw1 hw2 hwb mr mk hqx hqi hwd hlx hli C9 hE hq emm B9 T9 X9 lka3 hI dc hq2 F3 hk hqn lI hk0 la9 hm9 hk1 hk2 hmt N4 d8 hf10 hw10 hu10 ht10 hf14 F15 N15
  walk_at "ls"
  k_dflt refine cuts_t (hkG1.W 0) p (hkG1.S 0) (hkG1.X 0) (hkG1.M 0) (hkG1.M 1) _ Dr ys rise (hkG2.Z 0) _ (isList_of (N15.get (by k_mem))) hy hr1 hr2 hk1 hk2 hbr _ _ _ _ _ _ _ _ _ callerA (hkG1.H 0) (hkG1.H 0) L _ _ _ B9 F15 X9 T9 (by rfl) (by ktr_room) (by ktr_units) ?_
  rintro v h16 tk16 st16 ⟨r16, us14, c16, rfl, hz16, hg16, hu14⟩
  have F16 := F15.keeps st16
  have N16 := news_add F15 N15 st16 hz16 hg16
  clear F15 N15 hz16 hg16 st16
  walk_at "ls"
  have ht14 := hli (hkG2.Z 0) hk1 hk2 hk (hkG6.L 0) us14 hf14 hu14
  k_dflt refine told_t (hkG1.W 0) p (hkG1.S 0) (hkG1.X 0) (hkG1.M 0) (hkG1.M 1) _ (hkG6.N 1) r16 (hkG6.L 0) us14 kd (isList_of (N16.get (by k_mem))) (isList_of (N16.get (by k_mem))) ht14.1 ht14.2 _ _ _ _ _ _ _ _ _ callerA (hkG1.H 0) (hkG1.H 0) L _ _ _ B9 F16 X9 T9 (by rfl) (by ktr_room) (by ktr_units) ?_
  rintro v h17 tk17 st17 rfl
  have F17 := F16.keeps st17
  have N17 := N16.grown st17
  clear F16 N16 st17
  walk_at "ls"
  (rename News _ _ _ _ => N7); (rename Fr _ _ _ _ => F7)
  refine UnEnd.intro (o8, q) F7 (N7.perm fun p hp => ?_) ⟨⟨_, d8⟩, hq2, fun e => absurd (hqn e) hk0, rfl⟩
  rcases List.mem_cons.mp hp with rfl | hp
  · k_mem
  rcases List.mem_append.mp hp with hp | hp
  · rw [hm9 p hp]; k_mem
  · dsimp only at hp
    rw [hmt] at hp
    unfold lawLed at hp
    refine (show ∀ p ∈ _, p ∈ _ from ?k9) p hp
    (repeat (first | exact List.forall_mem_nil _ | refine List.forall_mem_cons.mpr ⟨by k_mem, ?_⟩))
  ))
end KE
theorem hkM : hkP hkG5 := no_implicit_lambda% (@hkapp _ _ hkK5.2 (fun a b c d e => @epsV KE.hkP (by with_unfolding_all exact KE.hkM) (vv e9E e9C e9T e9K e9A e9X e9S e9G e9W e9P e9Q e9R e9V e9Z e9I (lk [d] d9L) e9M (lk [a] d9H) e9O (lk [b, c, e] d9N))))
end KD
theorem hkM : hkP hkG4 := no_implicit_lambda% (@hkapp _ _ hkK4.2 (fun a b => @epsV KD.hkP (by with_unfolding_all exact KD.hkM) (vv e9E e9C e9T e9K e9A e9X e9S e9G e9W e9P e9Q e9R e9V e9Z e9I e9L e9M (lk [a] d9H) e9O (lk [b] d9N))))
end KC
theorem hkM : hkP hkG3 := no_implicit_lambda% (@hkapp _ _ hkK3.2 (fun a b c d e f g h => @epsV KC.hkP (by with_unfolding_all exact KC.hkM) (vv e9E e9C e9T e9K e9A e9X e9S e9G e9W e9P e9Q e9R e9V e9Z e9I (lk [b, g] d9L) e9M (lk [d] d9H) e9O (lk [a, c, e, f, h] d9N))))
end KB
theorem hkM : hkP hkG2 := no_implicit_lambda% (@hkapp _ _ hkK2.2 (fun a b c d e f => @epsV KB.hkP (by with_unfolding_all exact KB.hkM) (vv e9E e9C e9T e9K e9A e9X e9S e9G e9W e9P e9Q e9R e9V e9Z e9I (lk [e] d9L) e9M (lk [b] d9H) (lk [a] d9O) (lk [c, d, f] d9N))))
end KA
theorem hkM : hkP hkG1 := no_implicit_lambda% (@hkapp _ _ hkK1.2 (fun a b c d e f g h i j k l m n o => @epsV KA.hkP (by with_unfolding_all exact KA.hkM) (⟨e9a, e9b, e9c, e9d, e9e, e9f, e9g, e9h, e9v, e9w, e9x, lk [e] d9y, e9i, e9j, e9k, e9l, e9m, e9n, e9o, e9p, lk [j] d9q, e9r, e9s, e9t, e9u, e9E, e9C, e9T, e9K, e9A, e9X, e9S, e9G, e9W, e9P, e9Q, e9R, e9V, lk [k] d9Z, e9I, lk [f] d9L, e9M, lk [b, g] d9H, lk [d, i, n, o] d9O, lk [a, c, h, l, m] d9N⟩)))
end Z9
theorem hkT : hkS := no_implicit_lambda% (@hkapp _ _ hkK.2 (fun a b c d e f g h i j k l m n o p q r s t u v w x y z xa xb xc xd xe xf => @epsV Z9.hkP (by with_unfolding_all exact Z9.hkM) (⟨e9a, e9b, e9c, e9d, e9e, e9f, e9g, e9h, e9v, e9w, e9x, e9y, e9i, e9j, e9k, e9l, e9m, lk [r, s] d9n, e9o, lk [q] d9p, e9q, lk [xe] d9r, e9s, e9t, e9u, e9E, e9C, e9T, e9K, e9A, lk [d] d9X, lk [c] d9S, e9G, lk [a] d9W, lk [b] d9P, lk [xf] d9Q, lk [xc] d9R, e9V, e9Z, lk [o, p] d9I, lk [m, n] d9L, lk [e, f, xd] d9M, lk [g] d9H, lk [w, x, y, z, xa, xb] d9O, lk [h, i, j, k, l, t, u, v] d9N⟩)))
end st9_c
theorem st9 : st9_c.hkS := @st9_c.hkT
-- S9b
theorem Pure.mono {w p loose mean mg mb} {f : Addr} {args : List Value} {kw : List (Str × Value)} {s : Shared} {dr ur : Nat} {P P' : Heap → Value → Prop} (C : Pure w p loose mean mg mb f args kw s dr ur P) (h : ∀ g v, P g v → P' g v) : Pure w p loose mean mg mb f args kw s dr ur P' :=
  fun dp un gd cn cs a ccd cl outer A₀ base h₀ L m Q E B F X T hk hd hu hret => C dp un gd cn cs a ccd cl outer A₀ base h₀ L m Q E B F X T hk hd hu fun v h' tk' st hp => hret v h' tk' st (h _ _ hp)
theorem wide_bnd {rise : List Int} (hbr : ∀ x ∈ rise, -10000 ≤ x ∧ x ≤ 10000) : ∀ x ∈ [2 * rise.getD 0 0 - rise.getD 1 0] ++ rise ++ [2 * rise.getD (rise.length - 1) 0 - rise.getD (rise.length - 2) 0], -100000 ≤ x ∧ x ≤ 100000 := by
  have hg : ∀ j, -10000 ≤ rise.getD j 0 ∧ rise.getD j 0 ≤ 10000 := fun j => getD_bnd (by decide) hbr j
  intro x hx
  rcases List.mem_append.mp hx with hx | hx
  · rcases List.mem_append.mp hx with hx | hx
    · rw [List.mem_singleton.mp hx]; have := hg 0; have := hg 1; omega
    · have := hbr x hx; omega
  · rw [List.mem_singleton.mp hx]; have := hg (rise.length - 1); have := hg (rise.length - 2); omega
theorem st9a {w p loose mean mg mb} {g : Heap} {L fa Dr Dk Dw : Addr} {ys vs : List Value} {rs rise : List Int} {kr kk kw : Nat} {o1 o2 o3 o4 o5 o6 oP : Obj} {s : Shared} {m : Str → Option Value} {Q : Flow → Shared → Prop} {E : Value → Shared → Prop}
    (G : LawG w p loose mean mg mb g) (F : Fr g L s.heap m) (N : News g L s.heap (lawLed L Dr Dk Dw ys vs kr kk kw o1 o2 o3 o4 o5 o6 oP)) (d6 : o6.data = .cell (some (.ref Dw))) (d4 : o4.data = .cell none) (lP : @LT.lt Nat _ 353 L) (l0 : @LT.lt Nat _ (L + 1 + 1 + 1 + 1 + 1 + 1) Dw) (l1 : @LT.lt Nat _ Dw Dk) (l2 : @LT.lt Nat _ Dk Dr)
    (hi : IntsAre vs rs) (hy : IntsAre ys rise) (h1 : 1 < rs.length) (h2 : rs.length < 6) (hrl : rise.length = rs.length) (hb : ∀ x ∈ rs, -100000 ≤ x ∧ x ≤ 100000) (hbr : ∀ x ∈ rise, -10000 ≤ x ∧ x ≤ 10000)
    (mr : m (Str.ofString "rise") = some (.ref Dr)) (mk : m (Str.ofString "kind") = some (.type "float"))
    (hlawx : ∀ k : Int, 1 ≤ k → k ≤ 10 → (k = -1 ∨ k = 0 ∨ k = 1 ∨ k = 2 ∨ k = 3 ∨ k = 4 ∨ k = 5 ∨ k = 6 ∨ k = 10) → ∀ d fs us, d.Perm rs → d.Pairwise (· ≤ ·) → FlAre fs ((rangeKs 1 (k - 1).toNat).map (qex d k)) → IntsAre us (cutsOf ([2 * rise.getD 0 0 - rise.getD 1 0] ++ rise ++ [2 * rise.getD (rise.length - 1) 0 - rise.getD (rise.length - 2) 0]) k) → Told "float" fs us)
    (hlawi : ∀ k : Int, 1 ≤ k → k ≤ 10 → (k = -1 ∨ k = 0 ∨ k = 1 ∨ k = 2 ∨ k = 3 ∨ k = 4 ∨ k = 5 ∨ k = 6 ∨ k = 10) → ∀ d fs us, d.Perm rs → d.Pairwise (· ≤ ·) → FlAre fs ((rangeKs 1 (k - 1).toNat).map (qin d k)) → IntsAre us (cutsOf rise k) → Told "float" fs us)
    (hP : oP = tabObj #[]) (C9 : CodeHd g 355 353)
    (hE : PassesOwn (model PG w) (lawA L fa) (lawEnv L fa) E)
    (hq : ∀ h' tk' o4' (q : Addr × Obj), (∃ x, o4'.data = .cell x) → Fr g L h' m → News g L h' (madeLed (some q) ++ lawLed L Dr Dk Dw ys vs kr kk kw o1 o2 o3 o4' o5 o6 (madeTab 294 32 #[] (some q))) → Q .next { s with heap := h', toks := tk' }) :
    wpAny (model PG w) (lawA L fa) (exec (lawStmt 9) (lawEnv L fa)) Q E s :=
  st9 (wr := [2 * rise.getD 0 0 - rise.getD 1 0] ++ rise ++ [2 * rise.getD (rise.length - 1) 0 - rise.getD (rise.length - 2) 0]) (kd := "float") (PX := fun k fs => ∃ d : List Int, d.Perm rs ∧ d.Pairwise (· ≤ ·) ∧ FlAre fs ((rangeKs 1 (k - 1).toNat).map (qex d k))) (PI := fun k fs => ∃ d : List Int, d.Perm rs ∧ d.Pairwise (· ≤ ·) ∧ FlAre fs ((rangeKs 1 (k - 1).toNat).map (qin d k)))
    G F N d6 d4 lP l0 l1 l2 hy (by omega) (by omega) (fun x hx => by have := hbr x hx; omega) (by simp) (by simp; omega) (wide_bnd hbr) mr mk
    (fun s' k tk u hl k1 k2 => (quant_x w p loose mean mg mb s' Dw vs rs k tk u hl hi h1 h2 k1 k2 hb).mono fun g v h => by obtain ⟨r, fs, c, d, e, z, y, a, b, f⟩ := h; exact ⟨r, fs, c, e, z, y, d, a, b, f⟩)
    (fun s' k tk u hl k1 k2 => (quant_i w p loose mean mg mb s' Dw vs rs k tk u hl hi h1 h2 k1 k2 hb).mono fun g v h => by obtain ⟨r, fs, c, d, e, z, y, a, b, f⟩ := h; exact ⟨r, fs, c, e, z, y, d, a, b, f⟩)
    (fun s' hl => (wide_t w p loose mean mg mb s' Dr ys rise hl hy (by omega) (by omega) (fun x hx => by have := hbr x hx; omega)).mono fun g v h => by obtain ⟨r, fs, c, e, z, y, a⟩ := h; exact ⟨r, fs, c, e, .inl ⟨z, y⟩, a⟩)
    (fun k k1 k2 kp fs us h u => by obtain ⟨d, a, b, f⟩ := h; exact ⟨by rw [f.length, List.length_map, rangeKs_length]; omega, hlawx k k1 k2 kp d fs us a b f u⟩)
    (fun k k1 k2 kp fs us h u => by obtain ⟨d, a, b, f⟩ := h; exact ⟨by rw [f.length, List.length_map, rangeKs_length]; omega, hlawi k k1 k2 kp d fs us a b f u⟩)
    hP C9 hE hq
theorem st9b {w p loose mean mg mb} {g : Heap} {L fa Dr Dk Dw : Addr} {ys vs : List Value} {rs rise : List Int} {kr kk kw : Nat} {o1 o2 o3 o4 o5 o6 oP : Obj} {s : Shared} {m : Str → Option Value} {Q : Flow → Shared → Prop} {E : Value → Shared → Prop}
    (G : LawG w p loose mean mg mb g) (F : Fr g L s.heap m) (N : News g L s.heap (lawLed L Dr Dk Dw ys vs kr kk kw o1 o2 o3 o4 o5 o6 oP)) (d6 : o6.data = .cell (some (.ref Dw))) (d4 : o4.data = .cell none) (lP : @LT.lt Nat _ 353 L) (l0 : @LT.lt Nat _ (L + 1 + 1 + 1 + 1 + 1 + 1) Dw) (l1 : @LT.lt Nat _ Dw Dk) (l2 : @LT.lt Nat _ Dk Dr)
    (hi : IntsAre vs rs) (hy : IntsAre ys rise) (h1 : rs.length = 1) (hrl : rise.length = rs.length) (hb : ∀ x ∈ rs, -100000 ≤ x ∧ x ≤ 100000) (hbr : ∀ x ∈ rise, -10000 ≤ x ∧ x ≤ 10000)
    (mr : m (Str.ofString "rise") = some (.ref Dr)) (mk : m (Str.ofString "kind") = some (.type "int"))
    (hlaw1 : ∀ k : Int, 1 ≤ k → k ≤ 10 → (k = -1 ∨ k = 0 ∨ k = 1 ∨ k = 2 ∨ k = 3 ∨ k = 4 ∨ k = 5 ∨ k = 6 ∨ k = 10) → ∀ fs us, IntsAre fs (List.replicate (k - 1).toNat (rs.getD 0 0)) → IntsAre us (cutsOf rise k) → Told "int" fs us)
    (hP : oP = tabObj #[]) (C9 : CodeHd g 355 353)
    (hE : PassesOwn (model PG w) (lawA L fa) (lawEnv L fa) E)
    (hq : ∀ h' tk' o4' (q : Addr × Obj), (∃ x, o4'.data = .cell x) → Fr g L h' m → News g L h' (madeLed (some q) ++ lawLed L Dr Dk Dw ys vs kr kk kw o1 o2 o3 o4' o5 o6 (madeTab 294 32 #[] (some q))) → Q .next { s with heap := h', toks := tk' }) :
    wpAny (model PG w) (lawA L fa) (exec (lawStmt 9) (lawEnv L fa)) Q E s :=
  st9 (wr := rise) (kd := "int") (PX := fun k fs => IntsAre fs (List.replicate (k - 1).toNat (rs.getD 0 0))) (PI := fun k fs => IntsAre fs (List.replicate (k - 1).toNat (rs.getD 0 0)))
    G F N d6 d4 lP l0 l1 l2 hy (by omega) (by omega) (fun x hx => by have := hbr x hx; omega) (by omega) (by omega) (fun x hx => by have := hbr x hx; omega) mr mk
    (fun s' k tk u hl k1 k2 => quant_1 w p loose mean mg mb s' Dw vs rs k tk u (Str.ofString "exclusive") hl hi h1 k1 k2)
    (fun s' k tk u hl k1 k2 => quant_1 w p loose mean mg mb s' Dw vs rs k tk u (Str.ofString "inclusive") hl hi h1 k1 k2)
    (fun s' hl => (wide_1 w p loose mean mg mb s' Dr ys rise hl hy (by omega)).mono fun g v e => ⟨Dr, ys, kr, e, .inr ⟨rfl, rfl, rfl⟩, hy⟩)
    (fun k k1 k2 kp fs us a u => ⟨by rw [a.length, List.length_replicate]; omega, hlaw1 k k1 k2 kp fs us a u⟩)
    (fun k k1 k2 kp fs us a u => ⟨by rw [a.length, List.length_replicate]; omega, hlaw1 k k1 k2 kp fs us a u⟩)
    hP C9 hE hq
end
end
section
local macro_rules | `(tactic| k_ne) => `(tactic| (refine neN ?_; (try dsimp only); omega))
local macro_rules | `(tactic| k_lt $h:ident) => `(tactic| (replace $h := allLt_of $h; simp only [AllLt, and_true] at $h:ident))
local macro_rules | `(tactic| is_list) => `(tactic| first | exact sl1 | exact sl2)
local macro_rules | `(tactic| k_all) => `(tactic| exact tail_ne (by assumption) (by (try dsimp only); omega))
-- K6
namespace rank_t_c
noncomputable def hkS : Prop := ∀ {φ : Tok → Int} (w p loose mean mg mb) (s : Shared) (l : Addr) (vs : List Value) (ns : List Int) (b : Bool) (k : Int) (tk : Tok) (hl : s.heap.IsList l vs.toArray) (hi : IntsAre vs ns) (hc : Coh φ vs) (h1 : 0 < ns.length) (h2 : ns.length < 6) (hk1 : -2 ≤ k) (hk2 : k ≤ 2), MutS w p loose mean mg mb 278 [.ref l] [(Str.ofString "reverse", .bool b), (Str.ofString "start", .int k tk)] s [] 16 300 (fun h v => ∃ r its fs c, v = .ref r ∧ h.get? r = some (W.listOf fs.toArray c) ∧ RkOk its k its.length fs ∧ (its.map fun i => (i.v, i.q)).Perm (kpairs ns) ∧ (its.map fun i => (i.v, i.q)).Pairwise (fun x y => (if b then plt y x else plt x y) = true))
noncomputable def hkK : Σ' P : (Tok → Int) → World → Program → tS → tX → tM → tM → Shared → Addr → tV → tI → Bool → Int → Tok → Nat → Nat → tC → Str → Scope → Addr → Value → tA → tE → Around → Heap → Heap → Addr → tM → tQ → tQ → Prop, (∀ a b c d e f g h i j k l m n o p q r s t u v w x y z xa xb xc xd, P a b c d e f g h i j k l m n o p q r s t u v w x y z xa xb xc xd) → hkS := ⟨_, fun hk9 => by intro φ w p loose mean mg mb s l vs ns b k tk hl hi hc h1 h2 hk1 hk2; unfold MutS MutSC; intro dp un gd cn cs a ccd cl outer A₀ base h₀ L m Q E; revert hk2; revert hk1; revert h2; revert h1; revert hc; revert hi; revert hl; apply (hk9 φ w p loose mean mg mb s l vs ns b k tk dp un gd cn cs a ccd cl outer A₀ base h₀ L m Q E)⟩
namespace Z9
noncomputable def hkP (y : VV) := hkK.1 (y.l 0) (y.W 0) (y.P 0) (y.S 0) (y.X 0) (y.M 0) (y.M 1) (y.R 0) (y.N 0) (y.L 0) (y.I 0) (y.e 0) (y.Z 0) (y.N 1) (y.N 2) (y.N 3) (y.C 0) (y.G 0) (y.K 0) (y.N 4) (y.V 0) (y.T 0) (y.E 0) (y.A 0) (y.H 0) (y.H 1) (y.N 5) (y.M 2) (y.Q 0) (y.Q 1)
@[irreducible] noncomputable def hkG1 := epsV0 hkP
@[irreducible] def φ : (Tok → Int) := hkG1.l 0
@[irreducible] def w : World := hkG1.W 0
@[irreducible] def p : Program := hkG1.P 0
@[irreducible] def s : Shared := hkG1.R 0
@[irreducible] def l : Addr := hkG1.N 0
@[irreducible] def vs : tV := hkG1.L 0
@[irreducible] def ns : tI := hkG1.I 0
@[irreducible] def k : Int := hkG1.Z 0
@[irreducible] def tk : Tok := hkG1.N 1
@[irreducible] def dp : Nat := hkG1.N 2
@[irreducible] def un : Nat := hkG1.N 3
@[irreducible] def gd : tC := hkG1.C 0
@[irreducible] def cn : Str := hkG1.G 0
@[irreducible] def cs : Scope := hkG1.K 0
@[irreducible] def a : Addr := hkG1.N 4
@[irreducible] def ccd : Value := hkG1.V 0
@[irreducible] def cl : tA := hkG1.T 0
@[irreducible] def outer : tE := hkG1.E 0
@[irreducible] def L : Addr := hkG1.N 5
@[irreducible] def m : tM := hkG1.M 2
noncomputable def hkK1 : Σ' P0 : Heap → Addr → Heap → Prop, (∀ a b c, P0 a b c) → hkP hkG1 := ⟨_, fun hcA => by
  with_unfolding_all show hkK.1 φ w p (hkG1.S 0) (hkG1.X 0) (hkG1.M 0) (hkG1.M 1) s l vs ns (hkG1.e 0) k tk dp un gd cn cs a ccd cl outer (hkG1.A 0) (hkG1.H 0) (hkG1.H 1) L m (hkG1.Q 0) (hkG1.Q 1)
  intro hl hi hc h1 h2 hk1 hk2
  unfold PG
  k_fill
  intro B F N X T D hk hd hu hret
  refine wpAny_call ?_
  have X0 : (Mine.hd.heap_39 w.params).In (hkG1.H 1) := X.keeps B.stays
  k_dflt (refine call_turn ?_; k_whole; intro g L' h0 eG0 F0 N0 B0 X00 T0 D0; (try dsimp only); (try k_fold))
  (rename _ = hideAll _ _ => eg)
  (have hl0 := hl; change Heap.IsList (hideAll s.heap (([] : List (Addr × Obj)).map (·.1))) l vs.toArray at hl; rw [← eg] at hl; rw [← eg] at hret; clear eg hl0)
  (with_reducible rename Fr _ _ _ _ => F9)
  have F10 : Fr _ _ _ (fun y => List.lookup y ([(Str.ofString "start", Value.int k tk), (Str.ofString "ties", _), (Str.ofString "reverse", Value.bool (hkG1.e 0)), (Str.ofString "key", Value.none), (Str.ofString "data", Value.ref l)] : List (Str × Value))) := F9
  clear F9
  (rename News _ _ _ _ => N0)
  revert N0; revert F10; revert D0; revert T0; revert X00; revert B0; revert hl; revert hret; revert hu; revert hd; revert hk; revert T; revert X; revert hk2; revert hk1; revert h2; revert h1; revert hc; revert hi; apply (hcA g L' h0)⟩
namespace A
noncomputable def hkP (y : VV) := hkK1.1 (y.H 0) (y.N 0) (y.H 1)
@[irreducible] noncomputable def hkG2 := epsV0 hkP
@[irreducible] def L' : Addr := hkG2.N 0
noncomputable def hkK2 : Σ' P0 : Addr → Addr → Heap → Addr → Heap → Addr → Heap → Nat → Prop, (∀ a b c d e f g h, P0 a b c d e f g h) → hkP hkG2 := ⟨_, fun hcAA => by
  with_unfolding_all show hkK1.1 (hkG2.H 0) L' (hkG2.H 1)
  intro hi hc h1 h2 hk1 hk2 X T hk hd hu hret hl B0 X00 T0 D0 F10 N0
  iterate 62 (walk_at "step")
  (try dsimp only)
  rename_i xaa1 daa2 _ _ _ laa3 laa4 gaa5 Laa6 _ FGaa7 _ _ Baa8 Xaa9 Taa10 _ _ _ gaa11 Laa12 _ FGaa13 Baa14 Xaa15 Taa16 _ haa17 Faa18 Naa19
  revert Naa19; revert Faa18; revert Taa16; revert Xaa15; revert Baa14; revert FGaa13; revert Taa10; revert Xaa9; revert Baa8; revert FGaa7; revert laa4; revert laa3; revert D0; revert T0; revert X00; revert B0; revert hl; revert hret; revert hu; revert hd; revert hk; revert T; revert X; revert hk2; revert hk1; revert h2; revert h1; revert hc; revert hi; apply (hcAA xaa1 daa2 gaa5 Laa6 gaa11 Laa12 haa17 tk)⟩
namespace AA
noncomputable def hkP (y : VV) := hkK2.1 (y.N 0) (y.N 1) (y.H 0) (y.N 2) (y.H 1) (y.N 3) (y.H 2) (y.N 4)
@[irreducible] noncomputable def hkG3 := epsV0 hkP
@[irreducible] def tk : Nat := hkG3.N 4
noncomputable def hkK3 : Σ' P0 : Nat → Heap → Nat → Prop, (∀ a b c, P0 a b c) → hkP hkG3 := ⟨_, fun hcB => by
  with_unfolding_all show hkK2.1 (hkG3.N 0) (hkG3.N 1) (hkG3.H 0) (hkG3.N 2) (hkG3.H 1) (hkG3.N 3) (hkG3.H 2) tk
  intro hi hc h1 h2 hk1 hk2 X T hk hd hu hret hl B0 X00 T0 D0 laa3 laa4 FGaa7 Baa8 Xaa9 Taa10 FGaa13 Baa14 Xaa15 Taa16 Faa18 Naa19
  walk_at "go"
  (rename Fr _ _ _ _ => F1); (rename News _ _ _ _ => N1)
  have C1 : CountAt _ _ _ _ _ _ _ 0 _ := ⟨_, F1, N1⟩
  rename_i Tcb1 kXb2 _ _ _ _ _ _ _ _ _ _ _ _ _ Tcb3 kXb4 _ _ _ _ tkb5 _ _ _ _ _ _ hb6 _ Nb7 Tcb8 kXb9
  revert C1; revert kXb9; revert Tcb8; revert N1; revert F1; revert Nb7; revert kXb4; revert Tcb3; revert kXb2; revert Tcb1; revert Naa19; revert Faa18; revert Taa16; revert Xaa15; revert Baa14; revert Taa10; revert Xaa9; revert Baa8; revert FGaa7; revert laa4; revert laa3; revert D0; revert T0; revert X00; revert B0; revert hl; revert hret; revert hu; revert hd; revert hk; revert T; revert X; revert hk2; revert hk1; revert h2; revert h1; revert hc; revert hi; apply (hcB tkb5 hb6 tk)⟩
namespace B
noncomputable def hkP (y : VV) := hkK3.1 (y.N 0) (y.H 0) (y.N 1)
@[irreducible] noncomputable def hkG4 := epsV0 hkP
@[irreducible] def tk : Nat := hkG4.N 1
noncomputable def hkK4 : Σ' P0 : Tok → Heap → Nat → Nat → Obj → Prop, (∀ a b c d e, P0 a b c d e) → hkP hkG4 := ⟨_, fun hcBA => by
  with_unfolding_all show hkK3.1 (hkG4.N 0) (hkG4.H 0) tk
  intro hi hc h1 h2 hk1 hk2 X T hk hd hu hret hl B0 X00 T0 D0 laa3 laa4 FGaa7 Baa8 Xaa9 Taa10 Baa14 Xaa15 Taa16 Faa18 Naa19 Tcb1 kXb2 Tcb3 kXb4 Nb7 F1 N1 Tcb8 kXb9 C1
  have C2 := C1
  obtain ⟨t9, F1, N1⟩ := C2
  k_dflt refine' zip_own ?hl (fun h₁ Q' e k => ?_) (fun h' tk TI TO z st lt eTO ez hz hTI hTO hit => ?_)
  case hl => is_list
  · have C2 : CountAt _ _ _ _ _ _ _ 0 h₁ := C1.keep [] (by simp) (fun y o _ q => by rw [e]; exact Heap.get?_push_of_some _ q)
    k_dflt refine iter_count (by assumption) (by assumption) (by assumption) (by rfl) (by ktr_room) (by ktr_units) C2 fun h' tk' st => ?_
    refine k h' tk' st ?_
    rw [e] at st ⊢
    rw [Heap.size_push]
    exact Heap.lt_size (st _ _ (Heap.get?_push_size _ rfl))
  have hlx : Heap.IsList _ l vs.toArray := stays_list F1.keep hl
  have hlen := hi.length
  subst eTO
  subst ez
  obtain ⟨Dz, Z⟩ := zip_ready C1 hlx st lt hz hTI hTO hit (by first | assumption | k_ne)
  have F2 := F1.keeps st
  have hχ : ∀ n t, Value.int n t ∈ vs → t ≠ 0 ∧ φ t = n := fun n t hv => by
    obtain ⟨n', t', e1, e2, e3⟩ := hc _ hv
    cases e1; exact ⟨e2, e3⟩
  obtain ⟨oL9, hL9⟩ : ∃ oL, Heap.get? h' _ = some oL := F2.ns.elim fun oL z => ⟨oL, z.choose_spec.choose_spec.1⟩
  have N2 := N1.grown st
  clear F1 N1
  revert N2; revert hL9; revert hχ; revert F2; revert Z; revert Dz; revert hz; revert hTO; revert hlen; revert hlx; revert hit; revert hTI; revert lt; revert st; revert C1; revert kXb9; revert Tcb8; revert N1; revert F1; revert Nb7; revert kXb4; revert Tcb3; revert kXb2; revert Tcb1; revert Naa19; revert Faa18; revert Taa16; revert Xaa15; revert Baa14; revert Taa10; revert Xaa9; revert Baa8; revert FGaa7; revert laa4; revert laa3; revert D0; revert T0; revert X00; revert B0; revert hl; revert hret; revert hu; revert hd; revert hk; revert T; revert X; revert hk2; revert hk1; revert h2; revert h1; revert hc; revert hi; apply (hcBA t9 h' tk TI oL9)⟩
namespace BA
noncomputable def hkP (y : VV) := hkK4.1 (y.N 0) (y.H 0) (y.N 1) (y.N 2) (y.O 0)
@[irreducible] noncomputable def hkG5 := epsV0 hkP
@[irreducible] def t9 : Tok := hkG5.N 0
@[irreducible] def h' : Heap := hkG5.H 0
@[irreducible] def tk : Nat := hkG5.N 1
noncomputable def hkK5 : Σ' P0 : Heap → Nat → Nat → Nat → (List (Int × Int)) → tV → (List It) → Prop, (∀ a b c d e f g, P0 a b c d e f g) → hkP hkG5 := ⟨_, fun hcBB => by
  with_unfolding_all show hkK4.1 t9 h' tk (hkG5.N 2) (hkG5.O 0)
  intro hi hc h1 h2 hk1 hk2 X T hk hd hu hret hl B0 X00 T0 D0 laa3 laa4 FGaa7 Baa8 Xaa9 Taa10 Baa14 Xaa15 Taa16 Faa18 Naa19 Tcb1 kXb2 Tcb3 kXb4 Nb7 F1 N1 Tcb8 kXb9 C1 st lt hTI hit hlx hlen hTO hz Dz Z F2 hχ hL9 N2
  walk_at "go"
  k_dflt refine' sorted_feed (φ := fun T t n => t ≠ 0 ∧ φ t = n ∧ h'.get? T = none) (b := (hkG1.e 0)) (zip_feed (w := w) (p := p) (loose := (hkG1.S 0)) (mean := (hkG1.X 0)) (mg := (hkG1.M 0)) (mb := (hkG1.M 1)) (h00 := h') (h₀ := _) ?B ?X ?T ?hk ?hd ?hu Dz ?hn ?hn2) ⟨Z, ?hS⟩ (fun acc h' f => ?hfin) (fun acc h₁ h' tk' D' e ks out kout f p1 p2 p3 p4 p5 p6 p7 => ?hQ)
  case B => assumption
  case X => assumption
  case T => assumption
  case hk => rfl
  case hd => ktr_room
  case hu => ktr_units
  case hn => simp; omega
  case hn2 => simp; omega
  case hS => exact ⟨_, Heap.get?_push_size _ rfl⟩
  case hfin => exact ⟨kpairs ns, zip_pairs f hi (fun n t T hv hT => (hχ n t hv).elim fun z1 z2 => ⟨z1, z2, hT⟩), kpairs_nodup ns, by rw [f.size]; simp; omega, by rw [f.size]; simp; omega⟩
  case hQ =>
    obtain ⟨tc, FC, NC⟩ := f.cnt
    have F3 := FC.keeps p3
    have ek : ks = kpairs ns := p1.unique (zip_pairs f hi (fun n t T hv hT => (hχ n t hv).elim fun z1 z2 => ⟨z1, z2, hT⟩))
    subst ek
    obtain ⟨os, eos⟩ : ∃ os, os = out.toList := ⟨_, rfl⟩
    rw [← eos] at p5
    obtain ⟨its, ei1, ei2, ei3⟩ := its_of p5
    have hits : ∀ i ∈ its, @LT.lt Nat _ i.T D' := fun i hi => by rw [p2]; exact Heap.lt_size (ei3 i hi).1
    have htok : ∀ i ∈ its, i.tv ≠ 0 ∧ φ i.tv = i.v := fun i hi => ⟨(ei3 i hi).2.1, (ei3 i hi).2.2.1⟩
    have N3 := news_tail (o := W.listOf os.toArray e) FC p2 p3 (by rw [eos]; exact p4) F2.keep ⟨(hkG5.O 0), hL9⟩ (fun i hi => ⟨(ei3 i hi).1, (ei3 i hi).2.2.2⟩)
    have hlen2 : os.length = ns.length := by rw [p5.1, p6.length_eq, kpairs_len]
    clear f FC NC N2 F2 C1 Z Dz p1 p2 p3 p4 p5 eos ei3
    revert hlen2; revert N3; revert htok; revert hits; revert ei2; revert ei1; revert p6; revert F3; revert p7; revert hL9; revert hχ; revert hz; revert hTO; revert hlen; revert hlx; revert hit; revert hTI; revert lt; revert st; revert kXb9; revert Tcb8; revert N1; revert F1; revert Nb7; revert kXb4; revert Tcb3; revert kXb2; revert Tcb1; revert Naa19; revert Faa18; revert Taa16; revert Xaa15; revert Baa14; revert Taa10; revert Xaa9; revert Baa8; revert FGaa7; revert laa4; revert laa3; revert D0; revert T0; revert X00; revert B0; revert hl; revert hret; revert hu; revert hd; revert hk; revert T; revert X; revert hk2; revert hk1; revert h2; revert h1; revert hc; revert hi; apply (hcBB h' tk' D' e kout os its)⟩
namespace BB
noncomputable def hkP (y : VV) := hkK5.1 (y.H 0) (y.N 0) (y.N 1) (y.N 2) (y.f 0) (y.L 0) (y.v 0)
@[irreducible] noncomputable def hkG6 := epsV0 hkP
@[irreducible] def h' : Heap := hkG6.H 0
@[irreducible] def tk' : Nat := hkG6.N 0
@[irreducible] def e : Nat := hkG6.N 2
noncomputable def hkK6 : Σ' P0 : Nat → Nat → Addr → Addr → Heap → Nat → Prop, (∀ a b c d e f, P0 a b c d e f) → hkP hkG6 := ⟨_, fun hcBC => by
  with_unfolding_all show hkK5.1 h' tk' (hkG6.N 1) e (hkG6.f 0) (hkG6.L 0) (hkG6.v 0)
  intro hi hc h1 h2 hk1 hk2 X T hk hd hu hret hl B0 X00 T0 D0 laa3 laa4 FGaa7 Baa8 Xaa9 Taa10 Baa14 Xaa15 Taa16 Faa18 Naa19 Tcb1 kXb2 Tcb3 kXb4 Nb7 F1 N1 Tcb8 kXb9 st lt hTI hit hlx hlen hTO hz hχ hL9 p7 F3 p6 ei1 ei2 hits htok N3 hlen2
  walk_at "go"
  rename_i tkbc1 _ tkbc2 lbc3 _ lbc4 Dbc5 _ ibc6 _ _ _ _ _ lbc7 hbc8 Fbc9 Nbc10
  revert Nbc10; revert Fbc9; revert lbc7; revert ibc6; revert lbc4; revert hlen2; revert htok; revert hits; revert ei2; revert ei1; revert p6; revert p7; revert hL9; revert hχ; revert hz; revert hTO; revert hlen; revert hlx; revert hit; revert hTI; revert lt; revert st; revert kXb9; revert Tcb8; revert Nb7; revert kXb4; revert Tcb3; revert kXb2; revert Tcb1; revert Naa19; revert Faa18; revert Taa16; revert Xaa15; revert Baa14; revert Taa10; revert Xaa9; revert Baa8; revert laa4; revert laa3; revert D0; revert T0; revert X00; revert B0; revert hl; revert hret; revert hu; revert hd; revert hk; revert T; revert X; revert hk2; revert hk1; revert h2; revert h1; revert hc; revert hi; apply (hcBC tkbc1 tkbc2 lbc3 Dbc5 hbc8 tk)⟩
namespace BC
noncomputable def hkP (y : VV) := hkK6.1 (y.N 0) (y.N 1) (y.N 2) (y.N 3) (y.H 0) (y.N 4)
@[irreducible] noncomputable def hkG7 := epsV0 hkP
@[irreducible] def tk : Nat := hkG7.N 4
noncomputable def hkK7 : Σ' P0 : Addr → Addr → Addr → Addr → Addr → Addr → Heap → Addr → Heap → Nat → Prop, (∀ a b c d e f g h i j, P0 a b c d e f g h i j) → hkP hkG7 := ⟨_, fun hcBD => by
  with_unfolding_all show hkK6.1 (hkG7.N 0) (hkG7.N 1) (hkG7.N 2) (hkG7.N 3) (hkG7.H 0) tk
  intro hi hc h1 h2 hk1 hk2 X T hk hd hu hret hl B0 X00 T0 D0 laa3 laa4 Baa8 Xaa9 Taa10 Baa14 Xaa15 Taa16 Faa18 Naa19 Tcb1 kXb2 Tcb3 kXb4 Nb7 Tcb8 kXb9 st lt hTI hit hlx hlen hTO hz hχ hL9 p7 p6 ei1 ei2 hits htok hlen2 lbc4 ibc6 lbc7 Fbc9 Nbc10
  k_dflt refine wpAny_For ?_ (fun _ => rfl)
  iterate 36 (walk_at "step")
  (try dsimp only)
  rename_i xbd1 dbd2 _ lbd3 lbd4 Dbd5 _ _ _ _ _ _ lbd6 Dbd7 _ lbd8 _ _ _ _ Tcbd9 kXbd10 xbd11 dbd12 _ _ _ lbd13 lbd14 gbd15 Lbd16 hbd17 FGbd18 Fbd19 Nbd20 Bbd21 Xbd22 Tbd23
  revert Tbd23; revert Xbd22; revert Bbd21; revert Nbd20; revert Fbd19; revert FGbd18; revert lbd14; revert lbd13; revert kXbd10; revert Tcbd9; revert lbd8; revert lbd6; revert lbd4; revert lbd3; revert lbc7; revert ibc6; revert lbc4; revert hlen2; revert htok; revert hits; revert ei2; revert ei1; revert p6; revert p7; revert hL9; revert hχ; revert hz; revert hTO; revert hlen; revert hlx; revert hit; revert hTI; revert lt; revert st; revert kXb9; revert Tcb8; revert Nb7; revert kXb4; revert Tcb3; revert kXb2; revert Tcb1; revert Naa19; revert Faa18; revert Taa16; revert Xaa15; revert Baa14; revert Taa10; revert Xaa9; revert Baa8; revert laa4; revert laa3; revert D0; revert T0; revert X00; revert B0; revert hl; revert hret; revert hu; revert hd; revert hk; revert T; revert X; revert hk2; revert hk1; revert h2; revert h1; revert hc; revert hi; apply (hcBD xbd1 dbd2 Dbd5 Dbd7 xbd11 dbd12 gbd15 Lbd16 hbd17 tk)⟩
namespace BD
noncomputable def hkP (y : VV) := hkK7.1 (y.N 0) (y.N 1) (y.N 2) (y.N 3) (y.N 4) (y.N 5) (y.H 0) (y.N 6) (y.H 1) (y.N 7)
@[irreducible] noncomputable def hkG8 := epsV0 hkP
@[irreducible] def tk : Nat := hkG8.N 7
noncomputable def hkK8 : Σ' P0 : Addr → Nat → Nat → Heap → Nat → GP → Addr → tV → Nat → Tok → Tok → Tok → tM → Prop, (∀ a b c d e f g h i j k l m, P0 a b c d e f g h i j k l m) → hkP hkG8 := ⟨_, fun hcC => by
  with_unfolding_all show hkK7.1 (hkG8.N 0) (hkG8.N 1) (hkG8.N 2) (hkG8.N 3) (hkG8.N 4) (hkG8.N 5) (hkG8.H 0) (hkG8.N 6) (hkG8.H 1) tk
  intro hi hc h1 h2 hk1 hk2 X T hk hd hu hret hl B0 X00 T0 D0 laa3 laa4 Baa8 Xaa9 Taa10 Baa14 Xaa15 Taa16 Faa18 Naa19 Tcb1 kXb2 Tcb3 kXb4 Nb7 Tcb8 kXb9 st lt hTI hit hlx hlen hTO hz hχ hL9 p7 p6 ei1 ei2 hits htok hlen2 lbc4 ibc6 lbc7 lbd3 lbd4 lbd6 lbd8 Tcbd9 kXbd10 lbd13 lbd14 FGbd18 Fbd19 Nbd20 Bbd21 Xbd22 Tbd23
  walk_at "go"
  (rename Fr _ _ _ _ => kF9); (rename News _ _ _ _ => kN9)
  obtain ⟨P, r, zs, c, t1, t2, ti, m9, egb, eits, ok, hzs, hm1, hm2, hmore, St⟩ := to_stands B0 D0 kF9 kN9 rfl rfl (by simp [ei1]) ei1 hits htok (by omega) (by omega) (by omega) (by omega) (by omega) (by omega) (by omega)
  rw [← eits] at ei2 hzs
  rw [← egb]
  rw [ei2] at p6 p7
  have hq := qs_of p6
  have hl9 : P.its.length = ns.length := by have := p6.length_eq; rwa [List.length_map, kpairs_len] at this
  have hlen : 0 < P.its.length := by omega
  have hlen2 : P.its.length < 6 := by omega
  rename_i hlenc1 hlenc2 _ _ Dc3 _ lc4 _ _ _ _ _ _ _ _ _ _ _ _ _ tkc5 _ tkc6 hc7 Fc8 Nc9 Tcc10 kXc11
  revert hlen2; revert hlen; revert hl9; revert hq; revert St; revert hmore; revert hm2; revert hm1; revert hzs; revert ok; revert eits; revert egb; revert ei2; revert p6; revert p7; revert kXc11; revert Tcc10; revert kN9; revert kF9; revert Nc9; revert Fc8; revert lc4; revert Tbd23; revert Xbd22; revert Bbd21; revert FGbd18; revert lbd14; revert lbd13; revert kXbd10; revert Tcbd9; revert lbd8; revert lbd6; revert lbd4; revert lbd3; revert lbc7; revert ibc6; revert lbc4; revert hlenc2; revert htok; revert hits; revert ei1; revert hL9; revert hχ; revert hz; revert hTO; revert hlenc1; revert hlx; revert hit; revert hTI; revert lt; revert st; revert kXb9; revert Tcb8; revert Nb7; revert kXb4; revert Tcb3; revert kXb2; revert Tcb1; revert Naa19; revert Faa18; revert Taa16; revert Xaa15; revert Baa14; revert Taa10; revert Xaa9; revert Baa8; revert laa4; revert laa3; revert D0; revert T0; revert X00; revert B0; revert hl; revert hret; revert hu; revert hd; revert hk; revert T; revert X; revert hk2; revert hk1; revert h2; revert h1; revert hc; revert hi; apply (hcC Dc3 tkc5 tkc6 hc7 tk P r zs c t1 t2 ti m9)⟩
namespace C
noncomputable def hkP (y : VV) := hkK8.1 (y.N 0) (y.N 1) (y.N 2) (y.H 0) (y.N 3) (y.g 0) (y.N 4) (y.L 0) (y.N 5) (y.N 6) (y.N 7) (y.N 8) (y.M 0)
@[irreducible] noncomputable def hkG9 := epsV0 hkP
@[irreducible] def tk : Nat := hkG9.N 3
@[irreducible] def P : GP := hkG9.g 0
@[irreducible] def r : Addr := hkG9.N 4
@[irreducible] def c : Nat := hkG9.N 5
@[irreducible] def m9 : tM := hkG9.M 0
noncomputable def hkK9 : Σ' P0 : Nat → tV → Nat → tM → Tok → Heap → Nat → Prop, (∀ a b c d e f g, P0 a b c d e f g) → hkP hkG9 := ⟨_, fun hcD => by
  with_unfolding_all show hkK8.1 (hkG9.N 0) (hkG9.N 1) (hkG9.N 2) (hkG9.H 0) tk P r (hkG9.L 0) c (hkG9.N 6) (hkG9.N 7) (hkG9.N 8) m9
  intro hi hc h1 h2 hk1 hk2 X T hk hd hu hret hl B0 X00 T0 D0 laa3 laa4 Baa8 Xaa9 Taa10 Baa14 Xaa15 Taa16 Faa18 Naa19 Tcb1 kXb2 Tcb3 kXb4 Nb7 Tcb8 kXb9 st lt hTI hit hlx hlenc1 hTO hz hχ hL9 ei1 hits htok hlenc2 lbc4 ibc6 lbc7 lbd3 lbd4 lbd6 lbd8 Tcbd9 kXbd10 lbd13 lbd14 FGbd18 Bbd21 Xbd22 Tbd23 lc4 Fc8 Nc9 kF9 kN9 Tcc10 kXc11 p7 p6 ei2 egb eits ok hzs hm1 hm2 hmore St hq hl9 hlen hlen2
  refine iter_gb St X T rfl (by ktr_room) (by ktr_units) fun h9 tk9 st9 => ?_
  refine codeFor (fun k' s' => ∃ J fs c' m' ti' h tk, s' = { s with heap := h, toks := tk } ∧ k' = P.its.length + 1 - J ∧ J ≤ P.its.length ∧ RkOk P.its k J fs ∧ m' (Str.ofString "result") = some (.ref r) ∧ m' (Str.ofString "i") = some (.int (k - 1 + J) ti') ∧
    Head P (ktrTop dp un gd cn cs L a ccd cl outer) (hkG1.H 0) (envX cn cs L a ccd cl :: outer) (hkG2.H 0) L' m' [(r, W.listOf fs.toArray c')] J h) ?_ (P.its.length + 1)
    ⟨0, (hkG9.L 0), c, m9, (hkG9.N 8), _, _, rfl, rfl, Nat.zero_le _, rk_zero hzs, hm1, by rw [show k - 1 + ((0 : Nat) : Int) = k - 1 by omega]; exact hm2, .inl ⟨rfl, (hkG9.N 6), (hkG9.N 7), St.grow st9⟩⟩
  rintro k' s' ⟨J, fs, c', m', ti', h, tk, rfl, rfl, hJ, hrk, hmr, hmi, H⟩
  revert p7; revert p6; revert H; revert hmi; revert hmr; revert hrk; revert hJ; revert hlen2; revert hlen; revert hq; revert hzs; revert hmore; revert ok; revert hret; revert hu; revert hd; revert hk; revert T; revert X; revert hk2; revert hk1; apply (hcD J fs c' m' ti' h tk)⟩
namespace D
noncomputable def hkP (y : VV) := hkK9.1 (y.N 0) (y.L 0) (y.N 1) (y.M 0) (y.N 2) (y.H 0) (y.N 3)
@[irreducible] noncomputable def hkG10 := epsV0 hkP
@[irreducible] def J : Nat := hkG10.N 0
@[irreducible] def fs : tV := hkG10.L 0
@[irreducible] def c' : Nat := hkG10.N 1
@[irreducible] def m' : tM := hkG10.M 0
@[irreducible] def h : Heap := hkG10.H 0
@[irreducible] def tk : Nat := hkG10.N 3
noncomputable def hkK10 : Σ' P0 : It → Addr → Addr → Addr → Int → Tok → Tok → Tok → Heap → Nat → Heap → Prop, (∀ a b c d e f g h i j k, P0 a b c d e f g h i j k) → hkP hkG10 := ⟨_, fun hcG => by
  with_unfolding_all show hkK9.1 J fs c' m' (hkG10.N 2) h tk
  intro hk1 hk2 X T hk hd hu hret ok hmore hzs hq hlen hlen2 hJ hrk hmr hmi H p6 p7
  have hmore' : ∀ q ∈ [(r, W.listOf fs.toArray c')], q.1 ∉ [P.gb, P.d, P.ig, P.dI, P.tp, P.li, P.D] ∧ q.1 ∉ P.its.map It.T := fun q hq => by
    rw [List.mem_singleton.mp hq]; exact hmore (r, W.listOf (hkG9.L 0).toArray c) (List.Mem.head _)
  refine head_next ok hmore' hlen (by omega) H X T rfl (by ktr_room) (by ktr_units) (fun y Pt gr dG sr tn u1 u2 h' tk' hy hpre hs1 hs2 St' o8 o9 hm => ?_) (fun h' tk' hJe St' => ?_)
  case _ =>
    obtain ⟨h₂, T2, F2, B2, D2, N2⟩ := St'
    have X2 := X.keeps B2.stays
    have P2 := T.keeps B2.stays
    have em : m' = fun z => if z = Str.ofString "result" then some (.ref r) else if z = Str.ofString "i" then some (.int (k - 1 + J) (hkG10.N 2)) else m' z := by
      funext z
      by_cases e1 : z = Str.ofString "result"
      · subst e1; rw [if_pos rfl]; exact hmr
      · rw [if_neg e1]
        by_cases e2 : z = Str.ofString "i"
        · subst e2; rw [if_pos rfl]; exact hmi
        · rw [if_neg e2]
    rw [em] at F2
    dsimp only
    revert P2; revert X2; revert N2; revert D2; revert B2; revert F2; revert T2; revert hm; revert o9; revert o8; revert hs2; revert hs1; revert hpre; revert hy; revert hrk; revert hJ; revert hlen2; revert hlen; revert hq; revert hmore; revert ok; revert hret; revert hu; revert hd; revert hk; revert T; revert X; revert hk2; revert hk1; apply (hcG y Pt gr dG sr tn u1 u2 h' tk' h₂)
  case _ =>
    refine wpAny_execs_nil ?_
    obtain ⟨h₂, T2, F2, B2, D2, N2⟩ := St'
    have X2 := X.keeps B2.stays
    have P2 := T.keeps B2.stays
    have em : m' = fun z => if z = Str.ofString "result" then some (.ref r) else m' z := by
      funext z
      by_cases e1 : z = Str.ofString "result"
      · subst e1; rw [if_pos rfl]; exact hmr
      · rw [if_neg e1]
    rw [em] at F2
    dsimp only
    walk_at "go"
    show (hkG1.Q 0) _ _
    (rename Fr _ _ _ _ => F8); (rename News _ _ _ _ => N8)
    refine hret _ _ _ _ T2 F8.keep ⟨r, P.its, fs, c', rfl, (N8 _ (List.Mem.head _)).1, ?_, p6, p7⟩
    rw [hJe] at hrk
    exact hrk⟩
namespace G
noncomputable def hkP (y : VV) := hkK10.1 (y.w 0) (y.N 0) (y.N 1) (y.N 2) (y.Z 0) (y.N 3) (y.N 4) (y.N 5) (y.H 0) (y.N 6) (y.H 1)
@[irreducible] noncomputable def hkG11 := epsV0 hkP
noncomputable def hkK11 : Σ' P0 : Addr → tV → Nat → Obj → Obj → Heap → Nat → Heap → Prop, (∀ a b c d e f g h, P0 a b c d e f g h) → hkP hkG11 := ⟨_, fun hcH => by
  with_unfolding_all show hkK10.1 (hkG11.w 0) (hkG11.N 0) (hkG11.N 1) (hkG11.N 2) (hkG11.Z 0) (hkG11.N 3) (hkG11.N 4) (hkG11.N 5) (hkG11.H 0) (hkG11.N 6) (hkG11.H 1)
  intro hk1 hk2 X T hk hd hu hret ok hmore hq hlen hlen2 hJ hrk hy hpre hs1 hs2 o8 o9 hm T2 F2 B2 D2 N2 X2 P2
  refine letOwned_no (N2 (P.gb, _) (List.Mem.tail _ (List.Mem.tail _ (List.Mem.tail _ (List.Mem.head _))))).1 (fun n e => by cases e) ?_
  walk_at "go"
  (rename Fr _ _ _ _ => F3); (rename News _ _ _ _ => N3)
  have St3 : Stands (ktrTop dp un gd cn cs L a ccd cl outer) (hkG1.H 0) (envX cn cs L a ccd cl :: outer) (hkG2.H 0) L' _ (P.grp (hkG11.N 1) (hkG11.N 2) (hkG11.w 0) (hkG11.Z 0) (hkG11.N 3) [(r, W.listOf fs.toArray c')] (P.held (hkG11.w 0) (hkG11.Z 0) (hkG11.N 4) (hkG11.N 5)) (liObj P.D (J + 1))) _ := ⟨(hkG11.H 1), T2, F3, B2, D2, fun q hq => N3 q (List.Mem.tail _ hq)⟩
  (try clear F2); (try clear N2); (try clear F3); (try clear N3); (try clear B2); (try clear D2); (try clear X2); (try clear P2); (try clear T2); (try clear St)
  k_dflt refine' list_group ok o8 o9 hm (by omega) hy hs1 hs2 St3 X T ?hk ?hd ?hu (fun S n acc c3 go lo h4 tk4 hn1 hn2 hrun hend hl4 hacc St4 hS hh4 => ?_)
  case hk => rfl
  case hd => ktr_room
  case hu => ktr_units
  clear St3
  subst hl4
  obtain ⟨h₄, T4, F4, B4, D4, N4⟩ := St4
  (try dsimp only)
  revert N4; revert D4; revert B4; revert F4; revert T4; revert hh4; revert hS; revert hacc; revert hend; revert hrun; revert hn2; revert hn1; revert hm; revert hpre; revert hy; revert hrk; revert hJ; revert hlen2; revert hlen; revert hq; revert hmore; revert ok; revert hret; revert hu; revert hd; revert hk; revert T; revert X; revert hk2; revert hk1; apply (hcH S acc c3 go lo h4 tk4 h₄)⟩
namespace H
noncomputable def hkP (y : VV) := hkK11.1 (y.N 0) (y.L 0) (y.N 1) (y.O 0) (y.O 1) (y.H 0) (y.N 2) (y.H 1)
@[irreducible] noncomputable def hkG12 := epsV0 hkP
@[irreducible] def S : Addr := hkG12.N 0
@[irreducible] def acc : tV := hkG12.L 0
@[irreducible] def c3 : Nat := hkG12.N 1
@[irreducible] def h₄ : Heap := hkG12.H 1
noncomputable def hkK12 : Σ' P0 : tM → Tok → Tok → Heap → Nat → Prop, (∀ a b c d e, P0 a b c d e) → hkP hkG12 := ⟨_, fun hcI => by
  with_unfolding_all show hkK11.1 S acc c3 (hkG12.O 0) (hkG12.O 1) (hkG12.H 0) (hkG12.N 2) h₄
  intro hk1 hk2 X T hk hd hu hret ok hmore hq hlen hlen2 hJ hrk hy hpre hm hn1 hn2 hrun hend hacc hS hh4 T4 F4 B4 D4 N4
  have X4 := X.keeps B4.stays
  have P4 := T.keeps B4.stays
  walk_at "go"
  k_dflt refine wpAny_For ?_ (fun _ => rfl)
  walk_at "go"
  (rename Fr _ _ _ _ => F5); (rename News _ _ _ _ => N5)
  obtain ⟨m5, hm5, F5'⟩ : ∃ m5, m5 = _ ∧ Fr h₄ L' _ m5 := ⟨_, rfl, F5⟩
  have q1 : m5 (Str.ofString "result") = some (.ref r) := by rw [hm5]; rfl
  have q2 : m5 (Str.ofString "i") = some (.int (k - 1 + J) (hkG10.N 2)) := by rw [hm5]; rfl
  obtain ⟨tz, q3⟩ : ∃ t, m5 (Str.ofString "size") = some (.int acc.length t) := ⟨_, by rw [hm5]; rfl⟩
  obtain ⟨tr, q4, htr⟩ : ∃ t, m5 (Str.ofString "rank") = some (.float (rkF (k - 1 + J) acc.length) t) ∧ t ≠ 0 := ⟨_, by rw [hm5]; unfold rkF; dsimp only; rw [if_pos rfl], Nat.succ_ne_zero _⟩
  clear F5 hm5
  rename_i x5 h5
  revert N5; revert F5'; revert htr; revert q4; revert q3; revert q2; revert q1; revert P4; revert X4; revert D4; revert B4; revert T4; revert hh4; revert hS; revert hacc; revert hend; revert hrun; revert hn2; revert hn1; revert hm; revert hpre; revert hy; revert hrk; revert hJ; revert hlen2; revert hlen; revert hq; revert hmore; revert ok; revert hret; revert hu; revert hd; revert hk; revert T; revert X; revert hk2; revert hk1; apply (hcI m5 tz tr h5 tk)⟩
namespace I
noncomputable def hkP (y : VV) := hkK12.1 (y.M 0) (y.N 0) (y.N 1) (y.H 0) (y.N 2)
@[irreducible] noncomputable def hkG13 := epsV0 hkP
@[irreducible] def tk : Nat := hkG13.N 2
noncomputable def hkK13 : Σ' P0 : Nat → (List Value × Nat) → tM → Heap → Nat → Addr → Obj → tQ → It → Prop, (∀ a b c d e f g h i, P0 a b c d e f g h i) → hkP hkG13 := ⟨_, fun hcIA => by
  with_unfolding_all show hkK12.1 (hkG13.M 0) (hkG13.N 0) (hkG13.N 1) (hkG13.H 0) tk
  intro hk1 hk2 X T hk hd hu hret ok hmore hq hlen hlen2 hJ hrk hy hpre hm hn1 hn2 hrun hend hacc hS hh4 T4 B4 D4 X4 P4 q1 q2 q3 q4 htr F5' N5
  k_dflt refine' for_led (σ := List Value × Nat) (vs := acc) (fun c => (S, W.listOf acc.toArray c3) :: P.grp (hkG11.N 1) (hkG11.N 2) (hkG11.w 0) (hkG11.Z 0) (hkG11.N 3) [(r, W.listOf c.1.toArray c.2)] (hkG12.O 0) (hkG12.O 1))
    (fun i c m => Inner P.its J fs (rkF (k - 1 + J) acc.length) (hkG13.N 1) i c.1 ∧ m (Str.ofString "result") = some (.ref r) ∧ m (Str.ofString "i") = some (.int (k - 1 + J) (hkG10.N 2)) ∧ m (Str.ofString "size") = some (.int acc.length (hkG13.N 0)) ∧ m (Str.ofString "rank") = some (.float (rkF (k - 1 + J) acc.length) (hkG13.N 1))) (fs, c') ?hh ?hlist ?hadr F5' N5 ?i0 ?turn ?done
  case hh => rfl
  case hlist => exact fun c h N => isList_of (N _ (List.Mem.head _)).1
  case hadr => intro c; simp
  case i0 => exact ⟨inner_zero hrk.1, q1, q2, q3, q4⟩
  case turn =>
    intro i v c m h tk I oI E9 hv hI F6 N6 hne
    obtain ⟨xi, hxi, rfl⟩ := os_it hacc hv
    obtain ⟨hi1, hi2, hi3, hi4, hi5⟩ := hI
    have hxm : xi.ent ∈ P.tl := GP.ent_mem hxi
    have N7 : News h₄ L' h ((xi.T, xi.obj) :: (I, oI) :: (S, W.listOf acc.toArray c3) :: P.grp (hkG11.N 1) (hkG11.N 2) (hkG11.w 0) (hkG11.Z 0) (hkG11.N 3) [(r, W.listOf c.1.toArray c.2)] (hkG12.O 0) (hkG12.O 1)) := news_cons N6 (N6 xi.ent (List.mem_cons_of_mem _ (List.mem_cons_of_mem _ (List.mem_append_right _ (List.mem_append_left _ hxm))))).1 (N6 xi.ent (List.mem_cons_of_mem _ (List.mem_cons_of_mem _ (List.mem_append_right _ (List.mem_append_left _ hxm))))).2.1 (N6 xi.ent (List.mem_cons_of_mem _ (List.mem_cons_of_mem _ (List.mem_append_right _ (List.mem_append_left _ hxm))))).2.2
    rw [names4 hi2 hi3 hi4 hi5] at F6
    clear N6 N5 F5'
    revert N7; revert hxm; revert hi5; revert hi4; revert hi3; revert hi2; revert hi1; revert hv; revert hxi; revert hne; revert F6; revert htr; revert q4; revert q3; revert q2; revert q1; revert P4; revert X4; revert D4; revert B4; revert T4; revert hh4; revert hS; revert hacc; revert hend; revert hrun; revert hn2; revert hn1; revert hm; revert hpre; revert hy; revert hrk; revert hJ; revert hlen2; revert hlen; revert hq; revert hmore; revert ok; revert hret; revert hu; revert hd; revert hk; revert T; revert X; revert hk2; revert hk1; apply (hcIA i c m h tk I oI E9 xi)
  case done =>
    intro c m h tk hI F6 N6
    obtain ⟨hi1, hi2, hi3, hi4, hi5⟩ := hI
    rw [names4 hi2 hi3 hi4 hi5] at F6
    clear N5 F5'
    walk_at "go"
    (rename Fr _ _ _ _ => F11); (rename News _ _ _ _ => N11)
    obtain ⟨m9, hm9, F12⟩ : ∃ m9, m9 = _ ∧ Fr h₄ L' _ m9 := ⟨_, rfl, F11⟩
    have q8 : m9 (Str.ofString "result") = some (.ref r) := by rw [hm9]; rfl
    obtain ⟨t9, q9⟩ : ∃ t, m9 (Str.ofString "i") = some (.int (k - 1 + (J : Int) + (acc.length : Int)) t) := ⟨_, by rw [hm9]; rfl⟩
    clear F11 hm9
    refine ⟨P.its.length + 1 - (J + acc.length), by omega, J + acc.length, c.1, c.2, m9, t9, _, _, rfl, rfl, hn2, rk_step hrk htr hi1 hy hrun hend hpre, q8, ?_, hh4 _ _ _ ⟨h₄, T4, F12, B4, D4, fun q hq => N11 q ?_⟩⟩
    · rw [show k - 1 + ((J + acc.length : Nat) : Int) = k - 1 + (J : Int) + (acc.length : Int) by omega]; exact q9
    · refine List.mem_cons_of_mem _ ?_
      rw [GP.grp, List.append_assoc]
      exact List.mem_append_right _ hq⟩
namespace IA
noncomputable def hkP (y : VV) := hkK13.1 (y.N 0) (y.x 0) (y.M 0) (y.H 0) (y.N 1) (y.N 2) (y.O 0) (y.Q 0) (y.w 0)
@[irreducible] noncomputable def hkG14 := epsV0 hkP
@[irreducible] def c : (List Value × Nat) := hkG14.x 0
@[irreducible] def I : Addr := hkG14.N 2
@[irreducible] def oI : Obj := hkG14.O 0
@[irreducible] def xi : It := hkG14.w 0
theorem hkM : hkP hkG14 := (by exact @wI _ _ : @wT (hkP hkG14) (by
  with_unfolding_all show hkK13.1 (hkG14.N 0) c (hkG14.M 0) (hkG14.H 0) (hkG14.N 1) I oI (hkG14.Q 0) xi
  intro hk1 hk2 X T hk hd hu hret ok hmore hq hlen hlen2 hJ hrk hy hpre hm hn1 hn2 hrun hend hacc hS hh4 T4 B4 D4 X4 P4 q1 q2 q3 q4 htr F6 hne hxi hv hi1 hi2 hi3 hi4 hi5 hxm N7
  walk_at "go"
  (rename Fr _ _ _ _ => F8); (rename News _ _ _ _ => N8)
  have hrm := hm (r, W.listOf fs.toArray c') (List.Mem.head _)
  have N9 : News h₄ L' _ (((I, oI) :: (S, W.listOf acc.toArray c3) :: (P.gr (hkG11.N 1) (hkG11.N 2) (hkG11.w 0) (hkG11.Z 0) (hkG11.N 3) ++ P.led (hkG12.O 0) (hkG12.O 1) ++ P.tl)) ++ (r, W.listOf c.1.toArray c.2) :: []) := fun q hq => N8 q (List.mem_cons_of_mem _ (by simpa only [GP.grp, List.cons_append, List.append_assoc] using hq))
  have hbq := hq.bnd _ _ hxi
  have hpre9 : ∀ p ∈ (I, oI) :: (S, W.listOf acc.toArray c3) :: (P.gr (hkG11.N 1) (hkG11.N 2) (hkG11.w 0) (hkG11.Z 0) (hkG11.N 3) ++ P.led (hkG12.O 0) (hkG12.O 1) ++ P.tl), p.1 ≠ r := fun p hp e => by
    rcases List.mem_cons.mp hp with rfl | hp
    · exact hne (r, W.listOf c.1.toArray c.2) (by simp) e.symm
    rcases List.mem_cons.mp hp with rfl | hp
    · exact hS (by show S ∈ _; rw [show S = r from e]; simp [GP.adr])
    rcases List.mem_append.mp hp with hp | hp
    · refine hrm.1 ?_
      show r ∈ _
      rw [← e]
      have := List.mem_map_of_mem (f := (·.1)) hp
      simpa using this
    · refine hrm.2 ?_
      show r ∈ _
      rw [← e]
      have := List.mem_map_of_mem (f := (·.1)) hp
      simpa using this
  k_dflt refine' set_list F8 N9 hpre9 (fun p hp => nomatch hp) hbq.1 (by rw [hi1.1]; omega) (by rw [hi1.1]; omega) (fun h10 c10 F10 N10 => ?_)
  clear F8 N8 N9
  walk_at "go"
  (rename Fr _ _ _ _ => F11)
  refine LedEnd.intro (c.1.set xi.q.toNat (.float (rkF (k - 1 + J) acc.length) (hkG13.N 1)), c10) F11 (fun q hq => N10 q ?_) ⟨inner_step hq hi1 hxi, rfl, rfl, rfl, rfl⟩
  simpa only [GP.grp, List.cons_append, List.append_assoc] using hq
  ))
end IA
theorem hkM : hkP hkG13 := no_implicit_lambda% (@hkapp _ _ hkK13.2 (fun a b c d e f g h i => @epsV IA.hkP (by with_unfolding_all exact IA.hkM) (⟨e9a, e9b, e9c, e9d, e9e, e9f, e9g, e9h, e9v, lk [i] d9w, lk [b] d9x, e9y, e9i, e9j, e9k, e9l, e9m, e9n, e9o, e9p, e9q, e9r, e9s, e9t, e9u, e9E, e9C, e9T, e9K, e9A, e9X, e9S, e9G, e9W, e9P, lk [h] d9Q, e9R, e9V, e9Z, e9I, e9L, lk [c] d9M, lk [d] d9H, lk [g] d9O, lk [a, e, f] d9N⟩)))
end I
theorem hkM : hkP hkG12 := no_implicit_lambda% (@hkapp _ _ hkK12.2 (fun a b c d e => @epsV I.hkP (by with_unfolding_all exact I.hkM) (vv e9E e9C e9T e9K e9A e9X e9S e9G e9W e9P e9Q e9R e9V e9Z e9I e9L (lk [a] d9M) (lk [d] d9H) e9O (lk [b, c, e] d9N))))
end H
theorem hkM : hkP hkG11 := no_implicit_lambda% (@hkapp _ _ hkK11.2 (fun a b c d e f g h => @epsV H.hkP (by with_unfolding_all exact H.hkM) (vv e9E e9C e9T e9K e9A e9X e9S e9G e9W e9P e9Q e9R e9V e9Z e9I (lk [b] d9L) e9M (lk [f, h] d9H) (lk [d, e] d9O) (lk [a, c, g] d9N))))
end G
theorem hkM : hkP hkG10 := no_implicit_lambda% (@hkapp _ _ hkK10.2 (fun a b c d e f g h i j k => @epsV G.hkP (by with_unfolding_all exact G.hkM) (⟨e9a, e9b, e9c, e9d, e9e, e9f, e9g, e9h, e9v, lk [a] d9w, e9x, e9y, e9i, e9j, e9k, e9l, e9m, e9n, e9o, e9p, e9q, e9r, e9s, e9t, e9u, e9E, e9C, e9T, e9K, e9A, e9X, e9S, e9G, e9W, e9P, e9Q, e9R, e9V, lk [e] d9Z, e9I, e9L, e9M, lk [i, k] d9H, e9O, lk [b, c, d, f, g, h, j] d9N⟩)))
end D
theorem hkM : hkP hkG9 := no_implicit_lambda% (@hkapp _ _ hkK9.2 (fun a b c d e f g => @epsV D.hkP (by with_unfolding_all exact D.hkM) (vv e9E e9C e9T e9K e9A e9X e9S e9G e9W e9P e9Q e9R e9V e9Z e9I (lk [b] d9L) (lk [d] d9M) (lk [f] d9H) e9O (lk [a, c, e, g] d9N))))
end C
theorem hkM : hkP hkG8 := no_implicit_lambda% (@hkapp _ _ hkK8.2 (fun a b c d e f g h i j k l m => @epsV C.hkP (by with_unfolding_all exact C.hkM) (⟨e9a, e9b, e9c, e9d, e9e, e9f, lk [f] d9g, e9h, e9v, e9w, e9x, e9y, e9i, e9j, e9k, e9l, e9m, e9n, e9o, e9p, e9q, e9r, e9s, e9t, e9u, e9E, e9C, e9T, e9K, e9A, e9X, e9S, e9G, e9W, e9P, e9Q, e9R, e9V, e9Z, e9I, lk [h] d9L, lk [m] d9M, lk [d] d9H, e9O, lk [a, b, c, e, g, i, j, k, l] d9N⟩)))
end BD
theorem hkM : hkP hkG7 := no_implicit_lambda% (@hkapp _ _ hkK7.2 (fun a b c d e f g h i j => @epsV BD.hkP (by with_unfolding_all exact BD.hkM) (vv e9E e9C e9T e9K e9A e9X e9S e9G e9W e9P e9Q e9R e9V e9Z e9I e9L e9M (lk [g, i] d9H) e9O (lk [a, b, c, d, e, f, h, j] d9N))))
end BC
theorem hkM : hkP hkG6 := no_implicit_lambda% (@hkapp _ _ hkK6.2 (fun a b c d e f => @epsV BC.hkP (by with_unfolding_all exact BC.hkM) (vv e9E e9C e9T e9K e9A e9X e9S e9G e9W e9P e9Q e9R e9V e9Z e9I e9L e9M (lk [e] d9H) e9O (lk [a, b, c, d, f] d9N))))
end BB
theorem hkM : hkP hkG5 := no_implicit_lambda% (@hkapp _ _ hkK5.2 (fun a b c d e f g => @epsV BB.hkP (by with_unfolding_all exact BB.hkM) (⟨e9a, e9b, e9c, e9d, e9e, lk [e] d9f, e9g, e9h, lk [g] d9v, e9w, e9x, e9y, e9i, e9j, e9k, e9l, e9m, e9n, e9o, e9p, e9q, e9r, e9s, e9t, e9u, e9E, e9C, e9T, e9K, e9A, e9X, e9S, e9G, e9W, e9P, e9Q, e9R, e9V, e9Z, e9I, lk [f] d9L, e9M, lk [a] d9H, e9O, lk [b, c, d] d9N⟩)))
end BA
theorem hkM : hkP hkG4 := no_implicit_lambda% (@hkapp _ _ hkK4.2 (fun a b c d e => @epsV BA.hkP (by with_unfolding_all exact BA.hkM) (vv e9E e9C e9T e9K e9A e9X e9S e9G e9W e9P e9Q e9R e9V e9Z e9I e9L e9M (lk [b] d9H) (lk [e] d9O) (lk [a, c, d] d9N))))
end B
theorem hkM : hkP hkG3 := no_implicit_lambda% (@hkapp _ _ hkK3.2 (fun a b c => @epsV B.hkP (by with_unfolding_all exact B.hkM) (vv e9E e9C e9T e9K e9A e9X e9S e9G e9W e9P e9Q e9R e9V e9Z e9I e9L e9M (lk [b] d9H) e9O (lk [a, c] d9N))))
end AA
theorem hkM : hkP hkG2 := no_implicit_lambda% (@hkapp _ _ hkK2.2 (fun a b c d e f g h => @epsV AA.hkP (by with_unfolding_all exact AA.hkM) (vv e9E e9C e9T e9K e9A e9X e9S e9G e9W e9P e9Q e9R e9V e9Z e9I e9L e9M (lk [c, e, g] d9H) e9O (lk [a, b, d, f, h] d9N))))
end A
theorem hkM : hkP hkG1 := no_implicit_lambda% (@hkapp _ _ hkK1.2 (fun a b c => @epsV A.hkP (by with_unfolding_all exact A.hkM) (vv e9E e9C e9T e9K e9A e9X e9S e9G e9W e9P e9Q e9R e9V e9Z e9I e9L e9M (lk [a, c] d9H) e9O (lk [b] d9N))))
end Z9
theorem hkT : hkS := no_implicit_lambda% (@hkapp _ _ hkK.2 (fun a b c d e f g h i j k l m n o p q r s t u v w x y z xa xb xc xd => @epsV Z9.hkP (by with_unfolding_all exact Z9.hkM) (⟨e9a, e9b, e9c, e9d, lk [l] d9e, e9f, e9g, e9h, e9v, e9w, e9x, e9y, e9i, e9j, e9k, lk [a] d9l, e9m, e9n, e9o, e9p, e9q, e9r, e9s, e9t, e9u, lk [w] d9E, lk [q] d9C, lk [v] d9T, lk [s] d9K, lk [x] d9A, lk [e] d9X, lk [d] d9S, lk [r] d9G, lk [b] d9W, lk [c] d9P, lk [xc, xd] d9Q, lk [h] d9R, lk [u] d9V, lk [m] d9Z, lk [k] d9I, lk [j] d9L, lk [f, g, xb] d9M, lk [y, z] d9H, e9O, lk [i, n, o, p, t, xa] d9N⟩)))
end rank_t_c
theorem rank_t : rank_t_c.hkS := @rank_t_c.hkT
end
section
local macro_rules | `(tactic| walk_at "ls") => `(tactic| repeat' ((fail_if_success (with_reducible refine at_call ?_)); (fail_if_success (with_reducible show CompToks _ _ _ _ _ _ _ _ _ _ _ _)); (fail_if_success (with_reducible show CompIt _ _ _ _ _ _ _ _ _ _ _ _ _ _)); (walk_at "step")))
-- S17
namespace st17_c
noncomputable def hkS : Prop := ∀ {w p loose mean mg mb} {g : Heap} {L fa Dr Dk Dw : Addr} {ys vs : List Value} {rs rise : List Int} {kr kk kw : Nat} {o1 o2 o3 o4 o5 o6 oP : Obj} {s : Shared} {m : Str → Option Value} {Q : Flow → Shared → Prop} {E : Value → Shared → Prop} (G : LawG w p loose mean mg mb g) (F : Fr g L s.heap m) (N : News g L s.heap (lawLed L Dr Dk Dw ys vs kr kk kw o1 o2 o3 o4 o5 o6 oP)) (d6 : o6.data = .cell (some (.ref Dw))) {start : Int} {ts : Tok} (ms : m (Str.ofString "start") = some (.int start ts)) (hi : IntsAre vs rs) (h1 : 0 < rs.length) (h2 : rs.length < 6) (hb : ∀ x ∈ rs, -100000 ≤ x ∧ x ≤ 100000) (hk1 : -2 ≤ start) (hk2 : start ≤ 2) {φ : Tok → Int} (hc : Coh φ vs) (hlaw : ∀ (b : Bool) (its : List It) (fs us : List Value), RkOk its start its.length fs → (its.map fun i => (i.v, i.q)).Perm (kpairs rs) → (its.map fun i => (i.v, i.q)).Pairwise (fun x y => (if b then plt y x else plt x y) = true) → FlAre us (rs.map (rankOf rs start (if b then -1 else 1))) → (∀ v ∈ us, ∃ a t, v = Value.float a t ∧ t ≠ 0) → ToldF fs us) (hE : PassesOwn (model PG w) (lawA L fa) (lawEnv L fa) E) (hq : ∀ h' tk' m', (∀ z, z ≠ Str.ofString "turn" → m' z = m z) → Fr g L h' m' → News g L h' (lawLed L Dr Dk Dw ys vs kr kk kw o1 o2 o3 o4 o5 o6 oP) → Q .next { s with heap := h', toks := tk' }), wpAny (model PG w) (lawA L fa) (exec (lawStmt 17) (lawEnv L fa)) Q E s
noncomputable def hkK : Σ' P : World → Program → tS → tX → tM → tM → Heap → Addr → Addr → Addr → Addr → Addr → tV → tV → tI → tI → Nat → Nat → Nat → Obj → Obj → Obj → Obj → Obj → Obj → Obj → Shared → tM → Int → Tok → (Tok → Int) → Prop, (∀ a b c d e f g h i j k l m n o p q r s t u v w x y z xa xb xc xd xe, P a b c d e f g h i j k l m n o p q r s t u v w x y z xa xb xc xd xe) → hkS := ⟨_, fun hk9 => by intro w p loose mean mg mb g L fa Dr Dk Dw ys vs rs rise kr kk kw o1 o2 o3 o4 o5 o6 oP s m Q E G F N d6 start ts ms hi h1 h2 hb hk1 hk2 φ hc hlaw hE hq; revert hq; revert hE; revert hlaw; revert hc; revert hk2; revert hk1; revert hb; revert h2; revert h1; revert hi; revert ms; revert d6; revert N; revert F; revert G; revert E; revert Q; apply (hk9 w p loose mean mg mb g L fa Dr Dk Dw ys vs rs rise kr kk kw o1 o2 o3 o4 o5 o6 oP s m start ts φ)⟩
namespace Z9
noncomputable def hkP (y : VV) := hkK.1 (y.W 0) (y.P 0) (y.S 0) (y.X 0) (y.M 0) (y.M 1) (y.H 0) (y.N 0) (y.N 1) (y.N 2) (y.N 3) (y.N 4) (y.L 0) (y.L 1) (y.I 0) (y.I 1) (y.N 5) (y.N 6) (y.N 7) (y.O 0) (y.O 1) (y.O 2) (y.O 3) (y.O 4) (y.O 5) (y.O 6) (y.R 0) (y.M 2) (y.Z 0) (y.N 8) (y.l 0)
@[irreducible] noncomputable def hkG1 := epsV0 hkP
@[irreducible] def p : Program := hkG1.P 0
theorem hkM : hkP hkG1 := (by exact @wI _ _ : @wT (hkP hkG1) (by
  with_unfolding_all show hkK.1 (hkG1.W 0) p (hkG1.S 0) (hkG1.X 0) (hkG1.M 0) (hkG1.M 1) (hkG1.H 0) (hkG1.N 0) (hkG1.N 1) (hkG1.N 2) (hkG1.N 3) (hkG1.N 4) (hkG1.L 0) (hkG1.L 1) (hkG1.I 0) (hkG1.I 1) (hkG1.N 5) (hkG1.N 6) (hkG1.N 7) (hkG1.O 0) (hkG1.O 1) (hkG1.O 2) (hkG1.O 3) (hkG1.O 4) (hkG1.O 5) (hkG1.O 6) (hkG1.R 0) (hkG1.M 2) (hkG1.Z 0) (hkG1.N 8) (hkG1.l 0)
  intro Q E G F N d6 ms hi h1 h2 hb hk1 hk2 hc hlaw hE hq
  have F1 := fr_know F ms
  obtain ⟨B9, X9, T9⟩ := G
  revert X9
  unfold PG
  k_fill
  intro X9
  unfold lawLed at *
  ((unfold lawA lawEnv); (conv in (lawStmt _) => whnf); (conv in (occs := *) lawScope => all_goals whnf))
  clear F
  (repeat' ((fail_if_success (with_reducible show wpAny _ _ (call (Value.ref _) _ _) _ _ _)); (fail_if_success (with_reducible show CompToks _ _ _ _ _ _ _ _ _ _ _ _)); (fail_if_success (with_reducible show CompIt _ _ _ _ _ _ _ _ _ _ _ _ _ _)); first | ((with_reducible show wpAny _ _ (pyIter (Value.ref _)) _ _ _); walk1; (try dsimp only)) | (walk_at "step") | assumption))
  (rename Fr _ _ _ _ => F10); (rename News _ _ _ _ => N10)
  k_dflt refine rank_t (φ := (hkG1.l 0)) (hkG1.W 0) p (hkG1.S 0) (hkG1.X 0) (hkG1.M 0) (hkG1.M 1) _ (hkG1.N 4) (hkG1.L 1) (hkG1.I 0) false (hkG1.Z 0) (hkG1.N 8) ?hl hi hc h1 h2 hk1 hk2 _ _ _ _ _ _ _ _ [] callerA (hkG1.H 0) (hkG1.H 0) (hkG1.N 0) _ _ _ B9 F10 News.nil X9 T9 ktsDicts_nil (by rfl) (by ktr_room) (by ktr_units) ?_
  case hl => exact isList_of (N10.get (by k_mem))
  rintro v h11 tk11 g11 T11 S11 ⟨r10, its10, fs10, c10, rfl, hr10, ok10, pm10, so10⟩
  obtain ⟨F11, N11, up11⟩ := turn_nil (fa := (hkG1.N 1)) B9 F10 N10 T11 S11
  clear F10 N10 up11 T11 S11
  (repeat' ((fail_if_success (with_reducible show wpAny _ _ (call (Value.ref _) _ _) _ _ _)); (fail_if_success (with_reducible show CompToks _ _ _ _ _ _ _ _ _ _ _ _)); (fail_if_success (with_reducible show CompIt _ _ _ _ _ _ _ _ _ _ _ _ _ _)); first | ((with_reducible show wpAny _ _ (pyIter (Value.ref _)) _ _ _); walk1; (try dsimp only)) | (walk_at "step") | assumption))
  k_dflt refine ranks_t (hkG1.W 0) p (hkG1.S 0) (hkG1.X 0) (hkG1.M 0) (hkG1.M 1) _ (hkG1.N 4) (hkG1.L 1) (hkG1.I 0) (hkG1.Z 0) 1 (hkG1.N 8) _ ?hl hi h1 h2 hk1 hk2 (by decide) (by decide) hb _ _ _ _ _ _ _ _ _ callerA (hkG1.H 0) (hkG1.H 0) (hkG1.N 0) _ _ _ B9 F11 X9 T9 (by rfl) (by ktr_room) (by ktr_units) ?_
  case hl => exact isList_of (N11.get (by k_mem))
  rintro v h12 tk12 st12 ⟨q10, us10, d10, rfl, hq010, hq110, hu10, hut10⟩
  have F12 := F11.keeps st12
  have N12 := N11.grown st12
  have hr10' := st12 _ _ hr10
  clear F11 N11 hr10 hq010 st12
  (repeat' ((fail_if_success (with_reducible show wpAny _ _ (call (Value.ref _) _ _) _ _ _)); (fail_if_success (with_reducible show CompToks _ _ _ _ _ _ _ _ _ _ _ _)); (fail_if_success (with_reducible show CompIt _ _ _ _ _ _ _ _ _ _ _ _ _ _)); first | ((with_reducible show wpAny _ _ (pyIter (Value.ref _)) _ _ _); walk1; (try dsimp only)) | (walk_at "step") | assumption))
  k_dflt refine told_f (hkG1.W 0) p (hkG1.S 0) (hkG1.X 0) (hkG1.M 0) (hkG1.M 1) _ r10 q10 fs10 us10 (isList_of hr10') (isList_of hq110) ?h12 (hlaw false its10 fs10 us10 ok10 pm10 so10 hu10 hut10) _ _ _ _ _ _ _ _ _ callerA (hkG1.H 0) (hkG1.H 0) (hkG1.N 0) _ _ _ B9 F12 X9 T9 (by rfl) (by ktr_room) (by ktr_units) ?_
  case h12 => rw [(hlaw false its10 fs10 us10 ok10 pm10 so10 hu10 hut10).len, hu10.length]; simp; omega
  rintro v h13 tk13 st13 rfl
  have F13 := F12.keeps st13
  have N13 := N12.grown st13
  clear F12 N12 hr10' hq110 st13
  (repeat' ((fail_if_success (with_reducible show wpAny _ _ (call (Value.ref _) _ _) _ _ _)); (fail_if_success (with_reducible show CompToks _ _ _ _ _ _ _ _ _ _ _ _)); (fail_if_success (with_reducible show CompIt _ _ _ _ _ _ _ _ _ _ _ _ _ _)); first | ((with_reducible show wpAny _ _ (pyIter (Value.ref _)) _ _ _); walk1; (try dsimp only)) | (walk_at "step") | assumption))
  (rename Fr _ _ _ _ => F20); (rename News _ _ _ _ => N20)
  k_dflt refine rank_t (φ := (hkG1.l 0)) (hkG1.W 0) p (hkG1.S 0) (hkG1.X 0) (hkG1.M 0) (hkG1.M 1) _ (hkG1.N 4) (hkG1.L 1) (hkG1.I 0) true (hkG1.Z 0) (hkG1.N 8) ?hl hi hc h1 h2 hk1 hk2 _ _ _ _ _ _ _ _ [] callerA (hkG1.H 0) (hkG1.H 0) (hkG1.N 0) _ _ _ B9 F20 News.nil X9 T9 ktsDicts_nil (by rfl) (by ktr_room) (by ktr_units) ?_
  case hl => exact isList_of (N20.get (by k_mem))
  rintro v h21 tk21 g21 T21 S21 ⟨r20, its20, fs20, c20, rfl, hr20, ok20, pm20, so20⟩
  obtain ⟨F21, N21, up21⟩ := turn_nil (fa := (hkG1.N 1)) B9 F20 N20 T21 S21
  clear F20 N20 up21 T21 S21
  (repeat' ((fail_if_success (with_reducible show wpAny _ _ (call (Value.ref _) _ _) _ _ _)); (fail_if_success (with_reducible show CompToks _ _ _ _ _ _ _ _ _ _ _ _)); (fail_if_success (with_reducible show CompIt _ _ _ _ _ _ _ _ _ _ _ _ _ _)); first | ((with_reducible show wpAny _ _ (pyIter (Value.ref _)) _ _ _); walk1; (try dsimp only)) | (walk_at "step") | assumption))
  k_dflt refine ranks_t (hkG1.W 0) p (hkG1.S 0) (hkG1.X 0) (hkG1.M 0) (hkG1.M 1) _ (hkG1.N 4) (hkG1.L 1) (hkG1.I 0) (hkG1.Z 0) (-1) (hkG1.N 8) _ ?hl hi h1 h2 hk1 hk2 (by decide) (by decide) hb _ _ _ _ _ _ _ _ _ callerA (hkG1.H 0) (hkG1.H 0) (hkG1.N 0) _ _ _ B9 F21 X9 T9 (by rfl) (by ktr_room) (by ktr_units) ?_
  case hl => exact isList_of (N21.get (by k_mem))
  rintro v h22 tk22 st22 ⟨q20, us20, d20, rfl, hq020, hq120, hu20, hut20⟩
  have F22 := F21.keeps st22
  have N22 := N21.grown st22
  have hr20' := st22 _ _ hr20
  clear F21 N21 hr20 hq020 st22
  (repeat' ((fail_if_success (with_reducible show wpAny _ _ (call (Value.ref _) _ _) _ _ _)); (fail_if_success (with_reducible show CompToks _ _ _ _ _ _ _ _ _ _ _ _)); (fail_if_success (with_reducible show CompIt _ _ _ _ _ _ _ _ _ _ _ _ _ _)); first | ((with_reducible show wpAny _ _ (pyIter (Value.ref _)) _ _ _); walk1; (try dsimp only)) | (walk_at "step") | assumption))
  k_dflt refine told_f (hkG1.W 0) p (hkG1.S 0) (hkG1.X 0) (hkG1.M 0) (hkG1.M 1) _ r20 q20 fs20 us20 (isList_of hr20') (isList_of hq120) ?h12 (hlaw true its20 fs20 us20 ok20 pm20 so20 hu20 hut20) _ _ _ _ _ _ _ _ _ callerA (hkG1.H 0) (hkG1.H 0) (hkG1.N 0) _ _ _ B9 F22 X9 T9 (by rfl) (by ktr_room) (by ktr_units) ?_
  case h12 => rw [(hlaw true its20 fs20 us20 ok20 pm20 so20 hu20 hut20).len, hu20.length]; simp; omega
  rintro v h23 tk23 st23 rfl
  have F23 := F22.keeps st23
  have N23 := N22.grown st23
  clear F22 N22 hr20' hq120 st23
  (repeat' ((fail_if_success (with_reducible show wpAny _ _ (call (Value.ref _) _ _) _ _ _)); (fail_if_success (with_reducible show CompToks _ _ _ _ _ _ _ _ _ _ _ _)); (fail_if_success (with_reducible show CompIt _ _ _ _ _ _ _ _ _ _ _ _ _ _)); first | ((with_reducible show wpAny _ _ (pyIter (Value.ref _)) _ _ _); walk1; (try dsimp only)) | (walk_at "step") | assumption))
  (rename Fr _ _ _ _ => F9); (rename News _ _ _ _ => N9)
  refine hq _ _ _ ?_ F9 (N9.perm fun p hp => .tail _ hp)
  intro z hz
  simp only [if_neg hz]
  split
  · subst_vars; exact ms.symm
  · rfl
  ))
end Z9
theorem hkT : hkS := no_implicit_lambda% (@hkapp _ _ hkK.2 (fun a b c d e f g h i j k l m n o p q r s t u v w x y z xa xb xc xd xe => @epsV Z9.hkP (by with_unfolding_all exact Z9.hkM) (⟨e9a, e9b, e9c, e9d, e9e, e9f, e9g, e9h, e9v, e9w, e9x, e9y, e9i, e9j, e9k, lk [xe] d9l, e9m, e9n, e9o, e9p, e9q, e9r, e9s, e9t, e9u, e9E, e9C, e9T, e9K, e9A, lk [d] d9X, lk [c] d9S, e9G, lk [a] d9W, lk [b] d9P, e9Q, lk [xa] d9R, e9V, lk [xc] d9Z, lk [o, p] d9I, lk [m, n] d9L, lk [e, f, xb] d9M, lk [g] d9H, lk [t, u, v, w, x, y, z] d9O, lk [h, i, j, k, l, q, r, s, xd] d9N⟩)))
end st17_c
theorem st17 : st17_c.hkS := @st17_c.hkT
-- Tl
theorem drop_one (l : List Stmt) (i : Nat) (h : i < l.length) : l.drop i = l.getD i (.Pass default) :: l.drop (i + 1) := by
  rw [List.drop_eq_getElem_cons h, List.getD_eq_getElem?_getD, List.getElem?_eq_getElem h]; rfl
theorem drop_3 (l : List Stmt) (i : Nat) (h : i + 2 < l.length) : l.drop i = [l.getD i (.Pass default), l.getD (i + 1) (.Pass default), l.getD (i + 2) (.Pass default)] ++ l.drop (i + 3) := by
  rw [drop_one l i (Nat.lt_of_succ_lt (Nat.lt_of_succ_lt h)), drop_one l (i + 1) (Nat.lt_of_succ_lt h), drop_one l (i + 2) h]; rfl
theorem drop_7 : ∀ l : List Stmt, l.length = 20 → l.drop 7 = [l.getD 7 (.Pass default), l.getD 8 (.Pass default), l.getD 9 (.Pass default)] ++ l.drop 10 := fun l h => drop_3 l 7 (by rw [h]; decide)
theorem drop_10 : ∀ l : List Stmt, l.length = 20 → l.drop 10 = [l.getD 10 (.Pass default), l.getD 11 (.Pass default), l.getD 12 (.Pass default), l.getD 13 (.Pass default), l.getD 14 (.Pass default), l.getD 15 (.Pass default), l.getD 16 (.Pass default), l.getD 17 (.Pass default), l.getD 18 (.Pass default), l.getD 19 (.Pass default)] := fun l h => by
  rw [drop_3 l 10 (by rw [h]; decide), drop_3 l 13 (by rw [h]; decide), drop_3 l 16 (by rw [h]; decide), drop_one l 19 (by rw [h]; decide), List.drop_eq_nil_of_le (Nat.le_of_eq h)]; rfl
theorem law_len : lawBody.length = 20 := by rfl
theorem made_tab (a b : Int) (ps : Array Value) (q : Option (Addr × Obj)) : ∃ ps', madeTab a b ps q = tabObj ps' := by
  cases q with
  | none => exact ⟨_, rfl⟩
  | some q => exact ⟨_, rfl⟩
theorem tail_b {w p loose mean mg mb} {g : Heap} {L fa Dr Dk Dw : Addr} {ys vs : List Value} {rs : List Int} {kr kk kw : Nat} {o1 o2 o3 o4 o5 o6 : Obj} {s : Shared} {m : Str → Option Value} {R : Flow → Shared → Prop} {ps : Array Value}
    (G : LawG w p loose mean mg mb g) (F : Fr g L s.heap m) (N : News g L s.heap (lawLed L Dr Dk Dw ys vs kr kk kw o1 o2 o3 o4 o5 o6 (tabObj ps))) (hps : ∃ b : Addr, ps = #[rawInt 294, rawInt 32, .ref b]) (C9 : CodeHd g 355 353) (lP : @LT.lt Nat _ 353 L)
    (l0 : @LT.lt Nat _ (L + 1 + 1 + 1 + 1 + 1 + 1) Dw) (l1 : @LT.lt Nat _ Dw Dk) (l2 : @LT.lt Nat _ Dk Dr) {size start mid : Int} {ts t1 : Tok} (d1 : o1.data = .cell (some (.int size t1))) (d3 : o3.data = .cell none) (d5 : o5.data = .cell none) (d6 : o6.data = .cell (some (.ref Dw)))
    (hi : IntsAre vs rs) {φ : Tok → Int} (hc : Coh φ vs) (hr : RowOk rs mid) (hm1 : -50 ≤ mid) (hm2 : mid ≤ 49) (hsz : size = rs.length) (hz1 : 0 < rs.length) (hz2 : rs.length < 6)
    (ms : m (Str.ofString "start") = some (.int start ts)) (hs1 : -2 ≤ start) (hs2 : start ≤ 2) (mk : m (Str.ofString "kept") = some (.ref Dk))
    (hR : ∀ h' tk' m' ps, Fr g L h' m' → News g L h' [(353, tabObj ps)] → R (.ret (.bool true)) { s with heap := h', toks := tk' }) :
    wpAny (model PG w) (lawA L fa) (execs (lawBody.drop 10) (lawEnv L fa)) R (fun _ _ => False) s := by
  have hb : ∀ x ∈ rs, -100000 ≤ x ∧ x ≤ 100000 := fun x hx => by have := row_bnd hr hm1 hm2 hx; omega
  have hrp := rise_perm hr
  have hrs := rise_sort rs mid
  have hlowm := low_mem hrp hrs hz1
  have hhighm := high_mem hrp hrs hz1
  have hE : PassesOwn (model PG w) (lawA L fa) (lawEnv L fa) (fun _ _ => False) := PassesOwn.never
  rw [drop_10 lawBody law_len]
  subst hsz
  refine wpAny_execs_cons (st10 (rise := []) G F N d6 d1 hi hz1 hz2 rfl hb (List.length_pos_of_mem hlowm) fun h10 tk10 low tl hM hmin F10 N10 => ?_)
  have hlow : ∀ d : List Int, d.Perm rs → d.Pairwise (· ≤ ·) → d.getD ((rs.length - 1) / 2) 0 = low := fun d a b => low_at a b hz1 hM hmin
  have blow := hb low (List.mem_filter.mp hM).1
  refine wpAny_execs_cons (st11 (rise := []) G F10 N10 d6 d1 hi hz1 hz2 rfl hb (List.length_pos_of_mem hhighm) fun h11 tk11 high th hM' hmax F11 N11 => ?_)
  have hhigh : ∀ d : List Int, d.Perm rs → d.Pairwise (· ≤ ·) → d.getD (rs.length / 2) 0 = high := fun d a b => high_at a b hz1 hM' hmax
  have bhigh := hb high (List.mem_filter.mp hM').1
  generalize hmm : (fun z => if z = Str.ofString "high" then some (Value.int high th) else (fun z => if z = Str.ofString "low" then some (Value.int low tl) else m z) z) = mm at F11
  have ml : mm (Str.ofString "low") = some (.int low tl) := by rw [← hmm]; rfl
  have mh : mm (Str.ofString "high") = some (.int high th) := by rw [← hmm]; rfl
  have ms' : mm (Str.ofString "start") = some (.int start ts) := by rw [← hmm]; exact ms
  have mk' : mm (Str.ofString "kept") = some (.ref Dk) := by rw [← hmm]; exact mk
  clear hmm F N F10 N10 ms mk
  refine wpAny_execs_cons (st12 (rise := []) G F11 N11 d6 hi hz1 hz2 hb ml mh (fun d a b => ⟨hlow d a b, hhigh d a b⟩) fun h12 tk12 F12 N12 => ?_)
  clear F11 N11
  have s13 : ∀ {Q : Flow → Shared → Prop}, (∀ h' tk', Fr g L h' mm → News g L h' (lawLed L Dr Dk Dw ys vs kr kk kw o1 o2 o3 o4 o5 o6 (tabObj ps)) → Q .next { s with heap := h', toks := tk' }) →
      wpAny (model PG w) (lawA L fa) (exec (lawStmt 13) (lawEnv L fa)) Q (fun _ _ => False) { s with heap := h12, toks := tk12 } := fun {Q} hq => by
    rcases Nat.mod_two_eq_zero_or_one rs.length with hodd | hodd
    · exact st13b (rise := []) (s := { s with heap := h12, toks := tk12 }) G F12 N12 d6 d1 hi hz1 hz2 hb rfl hodd ml mh blow bhigh (fun d a b => mid_even hr hm1 hm2 a hz1 hodd (hlow d a b) (hhigh d a b)) hq
    · exact st13a (rise := []) (s := { s with heap := h12, toks := tk12 }) G F12 N12 d6 d1 hi hz1 hz2 hb rfl hodd ml mh blow bhigh (fun d a b => mid_odd a b hodd (hlow d a b) (hhigh d a b)) hq
  refine wpAny_execs_cons (s13 fun h13 tk13 F13 N13 => ?_)
  clear s13 F12 N12
  refine wpAny_execs_cons (st14 (rise := []) (s := { s with heap := h13, toks := tk13 }) G F13 N13 d6 d3 lP l0 l1 l2 hi hz1 hz2 hb fun h14 tk14 o3' v hg d3' F14 N14 => ?_)
  clear F13 N13
  obtain ⟨pt, tp, rfl, hg1, hg2, r, hr1, hr2⟩ := grouped_law hr hm1 hm2 hz1 hz2 hg hhigh
  refine wpAny_execs_cons (st15 (s := { s with heap := h14, toks := tk14 }) (rs := rs) (rise := []) G F14 N14 d3' bhigh.1 bhigh.2 hg1 hg2 mh fun h15 tk15 F15 N15 => ?_)
  clear F14 N14
  refine wpAny_execs_cons (st16 (s := { s with heap := h15, toks := tk15 }) (rise := []) G F15 N15 d6 d1 d3' hi hz1 hz2 hb rfl hr1 hr2 fun h16 tk16 F16 N16 => ?_)
  clear F15 N15
  refine wpAny_execs_cons (st17 (s := { s with heap := h16, toks := tk16 }) (rise := []) G F16 N16 d6 ms' hi hz1 hz2 hb hs1 hs2 hc (rank_law hs1 hs2 hz2) hE fun h17 tk17 m17 e17 F17 N17 => ?_)
  clear F16 N16
  refine wpAny_execs_cons (st18 (s := { s with heap := h17, toks := tk17 }) (rise := []) (rs := rs) G F17 N17 d5 lP l0 l1 l2 rfl hps C9 hE fun h18 tk18 o5' q F18 N18 => ?_)
  clear F17 N17
  refine wpAny_execs_cons (st19 (s := { s with heap := h18, toks := tk18 }) (rise := []) G F18 N18 d6 hi hz2 (by rw [e17 _ (by decide)]; exact mk') fun h19 tk19 F19 N19 => ?_)
  obtain ⟨ps', eps⟩ := made_tab 315 28 ps q
  refine hR h19 tk19 _ ps' F19 (N19.perm fun x hx => ?_)
  rw [List.mem_singleton.mp hx, ← eps]
  simp
theorem tail_law {w p loose mean mg mb} {g : Heap} {L fa Dr Dk Dw : Addr} {ys vs : List Value} {rs : List Int} {kr kk kw : Nat} {o1 o2 o3 o4 o5 o6 : Obj} {s : Shared} {m : Str → Option Value} {R : Flow → Shared → Prop}
    (G : LawG w p loose mean mg mb g) (F : Fr g L s.heap m) (N : News g L s.heap (lawLed L Dr Dk Dw ys vs kr kk kw o1 o2 o3 o4 o5 o6 (tabObj #[]))) (C9 : CodeHd g 355 353) (lP : @LT.lt Nat _ 353 L)
    (l0 : @LT.lt Nat _ (L + 1 + 1 + 1 + 1 + 1 + 1) Dw) (l1 : @LT.lt Nat _ Dw Dk) (l2 : @LT.lt Nat _ Dk Dr) {size start mid : Int} {ts t1 : Tok} (d1 : o1.data = .cell (some (.int size t1))) (d3 : o3.data = .cell none) (d4 : o4.data = .cell none) (d5 : o5.data = .cell none) (d6 : o6.data = .cell (some (.ref Dw)))
    (hi : IntsAre vs rs) {φ : Tok → Int} (hc : Coh φ vs) (hr : RowOk rs mid) (hm1 : -50 ≤ mid) (hm2 : mid ≤ 49) (hsz : size = rs.length) (hz1 : 0 < rs.length) (hz2 : rs.length < 6) (hy : IntsAre ys (riseOf rs mid))
    (ms : m (Str.ofString "start") = some (.int start ts)) (hs1 : -2 ≤ start) (hs2 : start ≤ 2) (mk : m (Str.ofString "kept") = some (.ref Dk)) (mr : m (Str.ofString "rise") = some (.ref Dr))
    (hR : ∀ h' tk' m' ps, Fr g L h' m' → News g L h' [(353, tabObj ps)] → R (.ret (.bool true)) { s with heap := h', toks := tk' }) :
    wpAny (model PG w) (lawA L fa) (execs (lawBody.drop 7) (lawEnv L fa)) R (fun _ _ => False) s := by
  have hb : ∀ x ∈ rs, -100000 ≤ x ∧ x ≤ 100000 := fun x hx => by have := row_bnd hr hm1 hm2 hx; omega
  have hrl := rise_len hr
  have hrr := rise_row hr
  have hbr : ∀ x ∈ riseOf rs mid, -10000 ≤ x ∧ x ≤ 10000 := fun x hx => row_bnd hrr hm1 hm2 hx
  have hsx := row_sixty hrr hm1 hm2
  have hE : PassesOwn (model PG w) (lawA L fa) (lawEnv L fa) (fun _ _ => False) := PassesOwn.never
  rw [drop_7 lawBody law_len]
  refine wpAny_execs_cons (st7 G F N d1 fun h7 tk7 F7 N7 => ?_)
  clear F N
  generalize hmm : (fun z => if z = Str.ofString "kind" then some (Value.type (if size = 1 then "int" else "float")) else m z) = mm at F7
  have ms' : mm (Str.ofString "start") = some (.int start ts) := by rw [← hmm]; exact ms
  have mk' : mm (Str.ofString "kept") = some (.ref Dk) := by rw [← hmm]; exact mk
  have mr' : mm (Str.ofString "rise") = some (.ref Dr) := by rw [← hmm]; exact mr
  have mq : mm (Str.ofString "kind") = some (.type (if size = 1 then "int" else "float")) := by rw [← hmm]; rfl
  clear hmm ms mk mr
  have fin : ∀ h' tk' o4' (q : Addr × Obj), (∃ x, o4'.data = Data.cell x) → Fr g L h' mm → News g L h' (madeLed (some q) ++ lawLed L Dr Dk Dw ys vs kr kk kw o1 o2 o3 o4' o5 o6 (madeTab 294 32 #[] (some q))) →
      wpAny (model PG w) (lawA L fa) (execs (lawBody.drop 10) (lawEnv L fa)) R (fun _ _ => False) { s with heap := h', toks := tk' } := fun h' tk' o4' q _ F9 N9 => by
    have N9' := N9.perm fun x hx => List.mem_append_right _ hx
    exact tail_b (s := { s with heap := h', toks := tk' }) G F9 N9' ⟨q.1, by simp⟩ C9 lP l0 l1 l2 d1 d3 d5 d6 hi hc hr hm1 hm2 hsz hz1 hz2 ms' hs1 hs2 mk' hR
  by_cases h1 : rs.length = 1
  · rw [if_pos (by omega)] at mq
    have hd : riseOf rs mid = [rs.getD 0 0] := by
      match rs, h1 with
      | [x], _ => exact List.perm_singleton.mp (rise_perm hr)
    refine wpAny_execs_cons (st8b (s := { s with heap := h7, toks := tk7 }) G F7 N7 d6 hi hy h1 hrl hb hbr mr' mq (fun fs us a b => told_one (k := 4) hd a b) fun h8 tk8 F8 N8 => ?_)
    clear F7 N7
    refine wpAny_execs_cons (st9b (s := { s with heap := h8, toks := tk8 }) G F8 N8 d6 d4 lP l0 l1 l2 hi hy h1 hrl hb hbr mr' mq (fun k _ _ _ fs us a b => told_one hd a b) rfl C9 hE fin)
  · rw [if_neg (by omega)] at mq
    have hn2 : 2 ≤ (riseOf rs mid).length := by omega
    have uq : ∀ d : List Int, d.Perm rs → d.Pairwise (· ≤ ·) → d = riseOf rs mid := fun d a b => rise_uniq hr a b
    refine wpAny_execs_cons (st8a (s := { s with heap := h7, toks := tk7 }) G F7 N7 d6 hi hy (by omega) hz2 hrl hb hbr mr' mq (fun d fs us a b f u => by
      rw [uq d a b] at f
      exact told_ex (k := 4) hsx (by unfold PartsOk; decide) (by decide) (by decide) hn2 f u) fun h8 tk8 F8 N8 => ?_)
    clear F7 N7
    exact wpAny_execs_cons (st9a (s := { s with heap := h8, toks := tk8 }) G F8 N8 d6 d4 lP l0 l1 l2 hi hy (by omega) hz2 hrl hb hbr mr' mq
      (fun k k1 k2 kp d fs us a b f u => by rw [uq d a b] at f; exact told_ex hsx kp k1 k2 hn2 f u)
      (fun k k1 k2 kp d fs us a b f u => by rw [uq d a b] at f; exact told_in hsx kp k1 k2 hn2 f u) rfl C9 hE fin)
end
-- LW2
theorem st6g {stmt : Stmt} {scope : Scope} (hst : stmt = lawStmt 6) (hsc : scope = lawScope) {w p loose mean mg mb} {g : Heap} {L fa Dk Dw : Addr} {vs : List Value} {rs : List Int} {kk kw : Nat} {o1 o2 o3 o4 o5 o6 oP : Obj} {s : Shared} {m : Str → Option Value} {Q : Flow → Shared → Prop} {E : Value → Shared → Prop}
    (G : LawG w p loose mean mg mb g) (F : Fr g L s.heap m) (N : News g L s.heap (preLed L Dk Dw vs kk kw o1 o2 o3 o4 o5 o6 oP)) (d6 : o6.data = .cell (some (.ref Dw))) {mid : Int} {tm : Tok} (d2 : o2.data = .cell (some (.int mid tm)))
    (hi : IntsAre vs rs) (h2 : rs.length < 6) (hb : ∀ x ∈ rs, -100000 ≤ x ∧ x ≤ 100000) (hm1 : -50 ≤ mid) (hm2 : mid ≤ 49)
    (hq : ∀ h' tk' Dr ys kr, IntsAre ys (riseOf rs mid) → @LT.lt Nat _ Dk Dr → Fr g L h' (fun z => if z = Str.ofString "rise" then some (.ref Dr) else m z) → News g L h' (lawLed L Dr Dk Dw ys vs kr kk kw o1 o2 o3 o4 o5 o6 oP) → Q .next { s with heap := h', toks := tk' }) :
    wpAny (model PG w) (callerA.deeper (envOfC (Str.ofString "law") scope L fa (.ref 355))) (exec stmt (envOfC (Str.ofString "law") scope L fa (.ref 355))) Q E s := by
  subst hst
  subst hsc
  exact st6 G F N d6 d2 hi h2 hb hm1 hm2 hq
theorem tail_g {body : List Stmt} {scope : Scope} (hst : body = lawBody.drop 7) (hsc : scope = lawScope) {w p loose mean mg mb} {g : Heap} {L fa Dr Dk Dw : Addr} {ys vs : List Value} {rs : List Int} {kr kk kw : Nat} {o1 o2 o3 o4 o5 o6 : Obj} {s : Shared} {m : Str → Option Value} {R : Flow → Shared → Prop} {E : Value → Shared → Prop}
    (G : LawG w p loose mean mg mb g) (F : Fr g L s.heap m) (N : News g L s.heap (lawLed L Dr Dk Dw ys vs kr kk kw o1 o2 o3 o4 o5 o6 (tabObj #[]))) (C9 : CodeHd g 355 353) (lP : @LT.lt Nat _ 353 L)
    (l0 : @LT.lt Nat _ (L + 1 + 1 + 1 + 1 + 1 + 1) Dw) (l1 : @LT.lt Nat _ Dw Dk) (l2 : @LT.lt Nat _ Dk Dr) {size start mid : Int} {ts t1 : Tok} (d1 : o1.data = .cell (some (.int size t1))) (d3 : o3.data = .cell none) (d4 : o4.data = .cell none) (d5 : o5.data = .cell none) (d6 : o6.data = .cell (some (.ref Dw)))
    (hi : IntsAre vs rs) {φ : Tok → Int} (hc : Coh φ vs) (hr : RowOk rs mid) (hm1 : -50 ≤ mid) (hm2 : mid ≤ 49) (hsz : size = rs.length) (hz1 : 0 < rs.length) (hz2 : rs.length < 6) (hy : IntsAre ys (riseOf rs mid))
    (ms : m (Str.ofString "start") = some (.int start ts)) (hs1 : -2 ≤ start) (hs2 : start ≤ 2) (mk : m (Str.ofString "kept") = some (.ref Dk)) (mr : m (Str.ofString "rise") = some (.ref Dr))
    (hR : ∀ h' tk' m' ps, Fr g L h' m' → News g L h' [(353, tabObj ps)] → R (.ret (.bool true)) { s with heap := h', toks := tk' }) :
    wpAny (model PG w) (callerA.deeper (envOfC (Str.ofString "law") scope L fa (.ref 355))) (execs body (envOfC (Str.ofString "law") scope L fa (.ref 355))) R E s := by
  subst hst
  subst hsc
  exact wpAny_noRaise (tail_law G F N C9 lP l0 l1 l2 d1 d3 d4 d5 d6 hi hc hr hm1 hm2 hsz hz1 hz2 hy ms hs1 hs2 mk mr hR)
theorem row_len {n : Nat} {size : Int} (h : 1 ≤ size ∧ size ≤ 5) : size = ((min (min (1 + size).toNat (n + (0 + 1 + 1 + 1 + 1 + 1 + 1)) - 1) (n + (0 + 1 + 1 + 1 + 1 + 1 + 1) - 1) : Nat) : Int) := by
  obtain ⟨k, rfl⟩ := Int.eq_ofNat_of_zero_le (Int.le_trans (by decide) h.1)
  have hk : k ≤ 5 := Int.ofNat_le.mp h.2
  have e : (1 + (k : Int)).toNat = k + 1 := by rw [Int.add_comm]; rfl
  rw [e, Nat.min_eq_left (Nat.le_trans (Nat.succ_le_succ hk) (Nat.le_add_left 6 n))]
  exact congrArg (fun z : Nat => (z : Int)) (Nat.min_eq_left (Nat.le_trans hk (Nat.le_add_left 5 n))).symm
namespace walk_law_c
noncomputable def hkK1 : Σ' P0 : World → Shared → Shared → tM → tM → Addr → Value → Value → tI → Addr → tV → Heap → Nat → Obj → Obj → Obj → Obj → Obj → Obj → Prop, (∀ a b c d e f g h i j k l m n o p q r s, P0 a b c d e f g h i j k l m n o p q r s) → PySem.Challenge.rw_ij0065_01.Holds := ⟨_, fun hcZ => by
  refine holds_law ?ok fun said => ?_
  case ok =>
    unfold OpenLaw.wellSaid
    repeat' (first | with_reducible refine look_both ?_ ?_ | unfold OpenRow.wellSaid | unfold OpenRow.partSaid | unfold OpenScript.wellSaid | unfold looksOpen)
    all_goals first | ((with_reducible first | show sreFenced _ = true | show namesResolve _ = true | show noRoadLSs _ _ = true | show namesMeet _ _ _ = true); decide +kernel) | kernel_rfl
  refine holds_open (q := hd.view_39) (loose := [Str.ofString "groupby", Str.ofString "_grouper", Str.ofString "count", Str.ofString "itemgetter", Str.ofString "_rank", Str.ofString "median_grouped", Str.ofString "quantiles"]) (Xt := fun s => xlAt hd.view_39 [] s && recOk (RowW.records PySem.Challenge.rw_ij0065_01.row.toRowW) s) (XP := XL hd.view_39 []) (Yf := Hook.obs (kmHook hd.heap_39 asl asl_eq [353])) (Ya := Hook.val (kmHook hd.heap_39 asl asl_eq [353])) (YP := Hook.says (kmHook hd.heap_39 asl asl_eq [353])) (N := 4708) hd_left (Hook.of (kmHook hd.heap_39 asl asl_eq [353])) (Hook.keeps (kmHook hd.heap_39 asl asl_eq [353])) (fun s e => xl_of s (Bool.and_eq_true_iff.mp e).1) XL.keeps (by rfl) (by rfl) (by rfl) (fun s e => recFacts_of (Bool.and_eq_true_iff.mp e).2) (by rfl) (by first | assumption | decide +kernel) (by decide +kernel) ⟨rfl, rfl, rfl, rfl, rfl, by decide +kernel⟩ ?hw ?hc
  case hw => w_witness2
  k_go0
  all_goals try k_fold
  (rename List Int => ns)
  (try dsimp only)
  rename_i wz1 sz2 sz3 mgz4 mbz5 Gz6 Yz7 faz8 _ pmz9 docz10 _ hgz11 Xz12 Vz13 Tz14 Bz15 TEz16 TWz17 hcdz18 hsz19 hlayz20 hLz21 hrz22 hlz23 _ _ wz24 wz25 _ hLz26 _ wz27 _ hIz28 _ hcondz29 hcondz30 hDz31 hz32 tkz33 wz34 wz35 wz36 wz37 wz38 wz39 leftz40 leftz41 leftz42 leftz43 leftz44 rightz45 Xz46 Xz47 Tz48 Kz49 Fz50 Nz51 lz52
  clear said
  revert lz52; revert Nz51; revert codeHd; revert lifted; revert Fz50; revert Kz49; revert Tz48; revert Xz47; revert Xz46; revert rightz45; revert leftz44; revert leftz43; revert leftz42; revert leftz41; revert leftz40; revert hDz31; revert hcondz30; revert hcondz29; revert hIz28; revert wz27; revert hLz26; revert hlz23; revert hrz22; revert hLz21; revert hlayz20; revert hsz19; revert hcdz18; revert hT9; revert TWz17; revert TEz16; revert Bz15; revert Tz14; revert Vz13; revert Xz12; revert hT8; revert hgz11; revert Yz7; revert Gz6; apply (hcZ wz1 sz2 sz3 mgz4 mbz5 faz8 pmz9 docz10 ns wz24 wz25 hz32 tkz33 wz34 wz35 wz36 wz37 wz38 wz39)⟩
namespace Z
noncomputable def hkP (y : VV) := hkK1.1 (y.W 0) (y.R 0) (y.R 1) (y.M 0) (y.M 1) (y.N 0) (y.V 0) (y.V 1) (y.I 0) (y.N 1) (y.L 0) (y.H 0) (y.N 2) (y.O 0) (y.O 1) (y.O 2) (y.O 3) (y.O 4) (y.O 5)
@[irreducible] noncomputable def hkG1 := epsV0 hkP
@[irreducible] def ns : tI := hkG1.I 0
noncomputable def hkK2 : Σ' P0 : Addr → tV → Addr → tV → Addr → tV → Tok → Nat → Nat → Obj → Nat → Heap → Obj → Nat → Int → Int → Int → Prop, (∀ a b c d e f g h i j k l m n o p q, P0 a b c d e f g h i j k l m n o p q) → hkP hkG1 := ⟨_, fun hcA => by
  with_unfolding_all show hkK1.1 (hkG1.W 0) (hkG1.R 0) (hkG1.R 1) (hkG1.M 0) (hkG1.M 1) (hkG1.N 0) (hkG1.V 0) (hkG1.V 1) ns (hkG1.N 1) (hkG1.L 0) (hkG1.H 0) (hkG1.N 2) (hkG1.O 0) (hkG1.O 1) (hkG1.O 2) (hkG1.O 3) (hkG1.O 4) (hkG1.O 5)
  intro Gz6 Yz7 hgz11 hT8 Xz12 Vz13 Tz14 Bz15 TEz16 TWz17 hT9 hcdz18 hsz19 hlayz20 hLz21 hrz22 hlz23 hLz26 wz27 hIz28 hcondz29 hcondz30 hDz31 leftz40 leftz41 leftz42 leftz43 leftz44 rightz45 Xz46 Xz47 Tz48 Kz49 Fz50 lifted codeHd Nz51 lz52
  (repeat' ((fail_if_success (with_reducible show CompToks _ _ _ _ _ _ _ _ _ _ _ _)); (fail_if_success (with_reducible show CompIt _ _ _ _ _ _ _ _ _ _ _ _ _ _)); first | ((with_reducible show wpAny _ _ (subscriptTail _ (PySem.Expr.Slice _ _ none _) (Value.ref _) (Value.ref _)) _ _ _); (k_dflt (refine' slice_own ?F ?N ?l ?p ?q ?i ?m ?z ?_; (case F => k_asm); (case N => k_asm); (case l => first | (exact stays_list (Fr.keep (by assumption)) (by assumption)) | is_list); (case p => kmk_part); (case q => kmk_part); (case i => assumption); (case m => first | exact kmk_upto (by assumption) (by decide) | exact kmk_from (by assumption) (by decide) | exact kmk_run (by assumption) (by decide) (by omega)); (case z => first | omega | (simp only [List.length_append, List.length_cons, List.length_nil]; first | omega | lia))); intro D' ws' h' F' N' l1 hI'; (try simp only [Int.reduceToNat] at hI'); (try k_lt l1))) | (walk_at "step")))
  generalize hhd : (ns.take 1 ++ ns.drop 6).sum = head at *
  generalize hst : Int.fmod head 5 - 2 = start at *
  generalize hsz : Int.fmod (Int.fdiv head 5 + 1) 5 + 1 = size at *
  generalize hmi : Int.fmod (Int.fdiv head 25) 100 - 50 = mid at *
  have hst' : -2 ≤ start ∧ start ≤ 2 := by rw [← hst, Int.fmod_eq_emod_of_nonneg _ (by decide)]; omega
  have hsz' : 1 ≤ size ∧ size ≤ 5 := by rw [← hsz, Int.fmod_eq_emod_of_nonneg _ (by decide)]; omega
  have hmi' : -50 ≤ mid ∧ mid ≤ 49 := by rw [← hmi, Int.fmod_eq_emod_of_nonneg _ (by decide)]; omega
  rename_i Da1 wsa2 _ hIa3 la4 Da5 wsa6 _ hIa7 la8 _ _ ta9 _ tka10 _ tka11 _ oa12 tka13 ha14 oa15 Na16 Fa17 da18 da19
  revert hmi'; revert hsz'; revert hst'; revert da19; revert hmi; revert da18; revert hsz; revert size; revert Fa17; revert hst; revert hhd; revert Na16; revert la8; revert hIa7; revert l1; revert hI'; revert la4; revert hIa3; revert lz52; revert codeHd; revert lifted; revert Kz49; revert Tz48; revert Xz47; revert Xz46; revert rightz45; revert leftz44; revert leftz43; revert leftz42; revert leftz41; revert leftz40; revert hDz31; revert hcondz30; revert hcondz29; revert hIz28; revert wz27; revert hLz26; revert hlz23; revert hrz22; revert hLz21; revert hlayz20; revert hsz19; revert hcdz18; revert hT9; revert TWz17; revert TEz16; revert Bz15; revert Tz14; revert Vz13; revert Xz12; revert hT8; revert hgz11; revert Yz7; revert Gz6; apply (hcA Da1 wsa2 D' ws' Da5 wsa6 ta9 tka10 tka11 oa12 tka13 ha14 oa15 tk head start mid)⟩
namespace A
noncomputable def hkP (y : VV) := hkK2.1 (y.N 0) (y.L 0) (y.N 1) (y.L 1) (y.N 2) (y.L 2) (y.N 3) (y.N 4) (y.N 5) (y.O 0) (y.N 6) (y.H 0) (y.O 1) (y.N 7) (y.Z 0) (y.Z 1) (y.Z 2)
@[irreducible] noncomputable def hkG2 := epsV0 hkP
@[irreducible] def D' : Addr := hkG2.N 1
@[irreducible] def ws' : tV := hkG2.L 1
@[irreducible] def mid : Int := hkG2.Z 2
noncomputable def hkK3 : Σ' P0 : Addr → Addr → tV → Addr → tV → Nat → Heap → Nat → Nat → tV → (Tok → Int) → Prop, (∀ a b c d e f g h i j k, P0 a b c d e f g h i j k) → hkP hkG2 := ⟨_, fun hcB => by
  with_unfolding_all show hkK2.1 (hkG2.N 0) (hkG2.L 0) D' ws' (hkG2.N 2) (hkG2.L 2) (hkG2.N 3) (hkG2.N 4) (hkG2.N 5) (hkG2.O 0) (hkG2.N 6) (hkG2.H 0) (hkG2.O 1) (hkG2.N 7) (hkG2.Z 0) (hkG2.Z 1) mid
  intro Gz6 Yz7 hgz11 hT8 Xz12 Vz13 Tz14 Bz15 TEz16 TWz17 hT9 hcdz18 hsz19 hlayz20 hLz21 hrz22 hlz23 hLz26 wz27 hIz28 hcondz29 hcondz30 hDz31 leftz40 leftz41 leftz42 leftz43 leftz44 rightz45 Xz46 Xz47 Tz48 Kz49 lifted codeHd lz52 hIa3 la4 hI' l1 hIa7 la8 Na16 hhd hst Fa17 size hsz da18 hmi da19 hst' hsz' hmi'
  k_dflt refine comp_toks (fun n => 60 * (Int.fmod n 9 - 4 + mid)) (by rfl) (by rfl) (by decide) (by rfl) (by decide) (by rfl) ?_
  (repeat' ((fail_if_success (with_reducible show CompToks _ _ _ _ _ _ _ _ _ _ _ _)); (fail_if_success (with_reducible show CompIt _ _ _ _ _ _ _ _ _ _ _ _ _ _)); first | ((with_reducible show wpAny _ _ (subscriptTail _ (PySem.Expr.Slice _ _ none _) (Value.ref _) (Value.ref _)) _ _ _); (k_dflt (refine' slice_own ?F ?N ?l ?p ?q ?i ?m ?z ?_; (case F => k_asm); (case N => k_asm); (case l => first | (exact stays_list (Fr.keep (by assumption)) (by assumption)) | is_list); (case p => kmk_part); (case q => kmk_part); (case i => assumption); (case m => first | exact kmk_upto (by assumption) (by decide) | exact kmk_from (by assumption) (by decide) | exact kmk_run (by assumption) (by decide) (by omega)); (case z => first | omega | (simp only [List.length_append, List.length_cons, List.length_nil]; first | omega | lia))); intro D' ws' h' F' N' l1 hI'; (try simp only [Int.reduceToNat] at hI'); (try k_lt l1))) | (walk_at "step")))
  (rename News _ _ _ _ => N1); (rename Fr _ _ _ _ => F1)
  (rename Obj.data _ = Data.cell (some (Value.int mid _)) => dmid)
  refine ⟨_, _, _, rfl, isList_of (N1.get (List.Mem.head _)), (by assumption), ?_, ?_, ?_⟩
  · simp; omega
  · intro C n t s₃ m₃ E' hn hns hmx hst
    have gmid := hst _ _ (cell_get N1 dmid (by k_mem))
    (repeat' ((fail_if_success (with_reducible show CompToks _ _ _ _ _ _ _ _ _ _ _ _)); (fail_if_success (with_reducible show CompIt _ _ _ _ _ _ _ _ _ _ _ _ _ _)); first | ((with_reducible show wpAny _ _ (subscriptTail _ (PySem.Expr.Slice _ _ none _) (Value.ref _) (Value.ref _)) _ _ _); (k_dflt (refine' slice_own ?F ?N ?l ?p ?q ?i ?m ?z ?_; (case F => k_asm); (case N => k_asm); (case l => first | (exact stays_list (Fr.keep (by assumption)) (by assumption)) | is_list); (case p => kmk_part); (case q => kmk_part); (case i => assumption); (case m => first | exact kmk_upto (by assumption) (by decide) | exact kmk_from (by assumption) (by decide) | exact kmk_run (by assumption) (by decide) (by omega)); (case z => first | omega | (simp only [List.length_append, List.length_cons, List.length_nil]; first | omega | lia))); intro D' ws' h' F' N' l1 hI'; (try simp only [Int.reduceToNat] at hI'); (try k_lt l1))) | (walk_at "step")))
    all_goals first | exact keeps_toks _ _ | (show @LT.lt Nat _ _ _; first | exact al0 | exact al1 | exact al2 | exact al3 | exact al4 | exact al5 | exact al6 | exact al7 | exact al8 | exact al9 | exact al10 | exact al11 | exact al12 | exact al13 | omega) | (show @LE.le Nat _ _ _; omega)
  · intro D9 h9 tk9 k9 vs hD9 hD9' hi9 htu hst9
    obtain ⟨φ, hφ⟩ := htu.coh
    have F2 := F1.keeps hst9
    have l9 := news_lt N1 hD9
    have N2 := news_fresh F1 N1 hst9 hD9 hD9'
    k_lt l9
    clear N1 F1 htu
    (try dsimp only)
    rename_i hIb1 lb2 lb3 _ lb4 Db5 wsb6 _ _ _ hIb7 lb8
    revert l9; revert N2; revert F2; revert hφ; revert hi9; revert hD9'; revert l1; revert hI'; revert lb8; revert hIb7; revert lb4; revert hmi'; revert hsz'; revert hst'; revert dmid; revert hmi; revert da18; revert hsz; revert size; revert hst; revert hhd; revert la8; revert hIa7; revert lb2; revert hIb1; revert la4; revert hIa3; revert lz52; revert codeHd; revert lifted; revert Kz49; revert Tz48; revert Xz47; revert Xz46; revert rightz45; revert leftz44; revert leftz43; revert leftz42; revert leftz41; revert leftz40; revert hDz31; revert hcondz30; revert hcondz29; revert hIz28; revert wz27; revert hLz26; revert hlz23; revert hrz22; revert hLz21; revert hlayz20; revert hsz19; revert hcdz18; revert hT9; revert TWz17; revert TEz16; revert Bz15; revert Tz14; revert Vz13; revert Xz12; revert hT8; revert hgz11; revert Yz7; revert Gz6; apply (hcB lb3 Db5 wsb6 D' ws' D9 h9 tk9 k9 vs φ)⟩
namespace B
noncomputable def hkP (y : VV) := hkK3.1 (y.N 0) (y.N 1) (y.L 0) (y.N 2) (y.L 1) (y.N 3) (y.H 0) (y.N 4) (y.N 5) (y.L 2) (y.l 0)
@[irreducible] noncomputable def hkG3 := epsV0 hkP
@[irreducible] def D' : Addr := hkG3.N 2
@[irreducible] def ws' : tV := hkG3.L 1
noncomputable def hkK4 : Σ' P0 : Obj → Addr → Nat → Heap → Nat → tI → Prop, (∀ a b c d e f, P0 a b c d e f) → hkP hkG3 := ⟨_, fun hcC => by
  with_unfolding_all show hkK3.1 (hkG3.N 0) (hkG3.N 1) (hkG3.L 0) D' ws' (hkG3.N 3) (hkG3.H 0) (hkG3.N 4) (hkG3.N 5) (hkG3.L 2) (hkG3.l 0)
  intro Gz6 Yz7 hgz11 hT8 Xz12 Vz13 Tz14 Bz15 TEz16 TWz17 hT9 hcdz18 hsz19 hlayz20 hLz21 hrz22 hlz23 hLz26 wz27 hIz28 hcondz29 hcondz30 hDz31 leftz40 leftz41 leftz42 leftz43 leftz44 rightz45 Xz46 Xz47 Tz48 Kz49 lifted codeHd lz52 hIa3 la4 hIb1 lb2 hIa7 la8 hhd hst size hsz da18 hmi dmid hst' hsz' hmi' lb4 hIb7 lb8 hI' l1 hD9' hi9 hφ F2 N2 l9
  (repeat' ((fail_if_success (with_reducible show CompToks _ _ _ _ _ _ _ _ _ _ _ _)); (fail_if_success (with_reducible show CompIt _ _ _ _ _ _ _ _ _ _ _ _ _ _)); first | ((with_reducible show wpAny _ _ (subscriptTail _ (PySem.Expr.Slice _ _ none _) (Value.ref _) (Value.ref _)) _ _ _); (k_dflt (refine' slice_own ?F ?N ?l ?p ?q ?i ?m ?z ?_; (case F => k_asm); (case N => k_asm); (case l => first | (exact stays_list (Fr.keep (by assumption)) (by assumption)) | is_list); (case p => kmk_part); (case q => kmk_part); (case i => assumption); (case m => first | exact kmk_upto (by assumption) (by decide) | exact kmk_from (by assumption) (by decide) | exact kmk_run (by assumption) (by decide) (by omega)); (case z => first | omega | (simp only [List.length_append, List.length_cons, List.length_nil]; first | omega | lia))); intro D' ws' h' F' N' l1 hI'; (try simp only [Int.reduceToNat] at hI'); (try k_lt l1))) | (walk_at "step")))
  (rename News _ _ _ _ => N9); (rename Fr _ _ _ _ => F9); (rename Below _ _ _ _ => K9); (rename Frag.In _ _ => X9); (rename Top _ _ _ _ _ _ => T9); (rename CodeHd _ _ _ => C9)
  (rename Obj.data _ = Data.cell (some (Value.ref (hkG3.N 3))) => d6); (rename Obj.data _ = Data.cell (some (Value.int size _)) => d1)
  generalize hrs : List.map (fun n => 60 * (Int.fmod n 9 - 4 + mid)) _ = rs at hi9
  have hsz9 : size = (rs.length : Int) := by
    rw [← hrs, List.length_map, List.length_take, List.length_drop, List.length_append]
    simp only [List.length_cons, List.length_nil]
    exact row_len hsz'
  have hrow : RowOk rs mid := fun x hx => by
    rw [← hrs] at hx
    obtain ⟨n, _, rfl⟩ := List.mem_map.mp hx
    refine ⟨Int.fmod n 9 - 4, ?_, ?_, rfl⟩ <;> (rw [Int.fmod_eq_emod_of_nonneg _ (by decide)]; omega)
  (try dsimp only)
  rename_i oc1 Dc2 cc3 _ lc4 hc5
  revert hrow; revert hsz9; revert hi9; revert hrs; revert N9; revert F9; revert lc4; revert d6; revert l9; revert hφ; revert hD9'; revert l1; revert hI'; revert lb8; revert hIb7; revert lb4; revert hmi'; revert hsz'; revert hst'; revert dmid; revert hmi; revert d1; revert hsz; revert size; revert hst; revert hhd; revert la8; revert hIa7; revert lb2; revert hIb1; revert la4; revert hIa3; revert lz52; revert C9; revert lifted; revert K9; revert T9; revert X9; revert Xz46; revert rightz45; revert leftz44; revert leftz43; revert leftz42; revert leftz41; revert leftz40; revert hDz31; revert hcondz30; revert hcondz29; revert hIz28; revert wz27; revert hLz26; revert hlz23; revert hrz22; revert hLz21; revert hlayz20; revert hsz19; revert hcdz18; revert hT9; revert TWz17; revert TEz16; revert Bz15; revert Tz14; revert Vz13; revert Xz12; revert hT8; revert hgz11; revert Yz7; revert Gz6; apply (hcC oc1 Dc2 cc3 hc5 tk rs)⟩
namespace C
noncomputable def hkP (y : VV) := hkK4.1 (y.O 0) (y.N 0) (y.N 1) (y.H 0) (y.N 2) (y.I 0)
@[irreducible] noncomputable def hkG4 := epsV0 hkP
theorem hkM : hkP hkG4 := (by exact @wI _ _ : @wT (hkP hkG4) (by
  with_unfolding_all show hkK4.1 (hkG4.O 0) (hkG4.N 0) (hkG4.N 1) (hkG4.H 0) (hkG4.N 2) (hkG4.I 0)
  intro Gz6 Yz7 hgz11 hT8 Xz12 Vz13 Tz14 Bz15 TEz16 TWz17 hT9 hcdz18 hsz19 hlayz20 hLz21 hrz22 hlz23 hLz26 wz27 hIz28 hcondz29 hcondz30 hDz31 leftz40 leftz41 leftz42 leftz43 leftz44 rightz45 Xz46 X9 T9 K9 lifted C9 lz52 hIa3 la4 hIb1 lb2 hIa7 la8 hhd hst size hsz d1 hmi dmid hst' hsz' hmi' lb4 hIb7 lb8 hI' l1 hD9' hφ l9 d6 lc4 F9 N9 hrs hi9 hsz9 hrow
  k_dflt refine' st6g ?st ?sc (Dk := _) (Dw := (hkG3.N 3)) (kk := _) (kw := (hkG3.N 5)) ⟨K9, X9, T9⟩ F9 (N9.perm (List.forall_mem_cons.mpr ⟨(List.Mem.head _), (List.forall_mem_cons.mpr ⟨(List.Mem.tail _ (List.Mem.head _)), (List.forall_mem_cons.mpr ⟨(List.Mem.tail _ (List.Mem.tail _ (List.Mem.tail _ (List.Mem.tail _ (List.Mem.tail _ (List.Mem.tail _ (List.Mem.tail _ (List.Mem.tail _ (List.Mem.head _))))))))), (List.forall_mem_cons.mpr ⟨(List.Mem.tail _ (List.Mem.tail _ (List.Mem.tail _ (List.Mem.tail _ (List.Mem.tail _ (List.Mem.tail _ (List.Mem.tail _ (List.Mem.tail _ (List.Mem.tail _ (List.Mem.head _)))))))))), (List.forall_mem_cons.mpr ⟨(List.Mem.tail _ (List.Mem.tail _ (List.Mem.tail _ (List.Mem.tail _ (List.Mem.tail _ (List.Mem.tail _ (List.Mem.tail _ (List.Mem.tail _ (List.Mem.tail _ (List.Mem.tail _ (List.Mem.head _))))))))))), (List.forall_mem_cons.mpr ⟨(List.Mem.tail _ (List.Mem.tail _ (List.Mem.tail _ (List.Mem.tail _ (List.Mem.tail _ (List.Mem.tail _ (List.Mem.tail _ (List.Mem.tail _ (List.Mem.tail _ (List.Mem.tail _ (List.Mem.tail _ (List.Mem.head _)))))))))))), (List.forall_mem_cons.mpr ⟨(List.Mem.tail _ (List.Mem.tail _ (List.Mem.tail _ (List.Mem.tail _ (List.Mem.tail _ (List.Mem.tail _ (List.Mem.tail _ (List.Mem.tail _ (List.Mem.tail _ (List.Mem.tail _ (List.Mem.tail _ (List.Mem.tail _ (List.Mem.head _))))))))))))), (List.forall_mem_cons.mpr ⟨(List.Mem.tail _ (List.Mem.tail _ (List.Mem.tail _ (List.Mem.tail _ (List.Mem.tail _ (List.Mem.tail _ (List.Mem.tail _ (List.Mem.tail _ (List.Mem.tail _ (List.Mem.tail _ (List.Mem.tail _ (List.Mem.tail _ (List.Mem.tail _ (List.Mem.head _)))))))))))))), (List.forall_mem_cons.mpr ⟨(List.Mem.tail _ (List.Mem.tail _ (List.Mem.tail _ (List.Mem.tail _ (List.Mem.tail _ (List.Mem.tail _ (List.Mem.tail _ (List.Mem.tail _ (List.Mem.tail _ (List.Mem.tail _ (List.Mem.tail _ (List.Mem.tail _ (List.Mem.tail _ (List.Mem.tail _ (List.Mem.head _))))))))))))))), (List.forall_mem_nil _)⟩)⟩)⟩)⟩)⟩)⟩)⟩)⟩)⟩)) d6 dmid hi9 ?h2 ?hb hmi'.1 hmi'.2 ?hq
  case st => rfl
  case sc => rfl
  case h2 => omega
  case hb => exact fun x hx => by have := row_bnd hrow hmi'.1 hmi'.2 hx; omega
  intro h8 tk8 Dr ys kr hy8 l8 F8 N8
  (try dsimp only)
  k_dflt refine' tail_g ?st ?sc ⟨K9, X9, T9⟩ F8 N8 C9 ?lP ?l0 ?l1 l8 d1 ?d3 ?d4 ?d5 d6 hi9 hφ hrow hmi'.1 hmi'.2 hsz9 ?hz1 ?hz2 hy8 ?ms hst'.1 hst'.2 ?mk ?mr ?hR
  case st => rfl
  case sc => rfl
  case ms => rfl
  case mk => rfl
  case mr => rfl
  case d3 => assumption
  case d4 => assumption
  case d5 => assumption
  case lP => first | assumption | exact al0
  case l0 => show @LT.lt Nat _ _ _; first | exact al0 | exact al1 | exact al2 | exact al3 | exact al4 | exact al5 | exact al6 | exact al7 | exact al8 | exact al9 | exact al10 | exact al11 | exact al12 | exact al13 | omega
  case l1 => show @LT.lt Nat _ _ _; first | exact al0 | exact al1 | exact al2 | exact al3 | exact al4 | exact al5 | exact al6 | exact al7 | exact al8 | exact al9 | exact al10 | exact al11 | exact al12 | exact al13 | omega
  case hz1 => omega
  case hz2 => omega
  case hR =>
    intro h10 tk10 m10 ps10 F10 N10
    (try dsimp only)
    (repeat' ((fail_if_success (with_reducible show CompToks _ _ _ _ _ _ _ _ _ _ _ _)); (fail_if_success (with_reducible show CompIt _ _ _ _ _ _ _ _ _ _ _ _ _ _)); first | ((with_reducible show wpAny _ _ (subscriptTail _ (PySem.Expr.Slice _ _ none _) (Value.ref _) (Value.ref _)) _ _ _); (k_dflt (refine' slice_own ?F ?N ?l ?p ?q ?i ?m ?z ?_; (case F => k_asm); (case N => k_asm); (case l => first | (exact stays_list (Fr.keep (by assumption)) (by assumption)) | is_list); (case p => kmk_part); (case q => kmk_part); (case i => assumption); (case m => first | exact kmk_upto (by assumption) (by decide) | exact kmk_from (by assumption) (by decide) | exact kmk_run (by assumption) (by decide) (by omega)); (case z => first | omega | (simp only [List.length_append, List.length_cons, List.length_nil]; first | omega | lia))); intro D' ws' h' F' N' l1 hI'; (try simp only [Int.reduceToNat] at hI'); (try k_lt l1))) | (walk_at "step")))
  ))
end C
theorem hkM : hkP hkG3 := no_implicit_lambda% (@hkapp _ _ hkK4.2 (fun a b c d e f => @epsV C.hkP (by with_unfolding_all exact C.hkM) (vv e9E e9C e9T e9K e9A e9X e9S e9G e9W e9P e9Q e9R e9V e9Z (lk [f] d9I) e9L e9M (lk [d] d9H) (lk [a] d9O) (lk [b, c, e] d9N))))
end B
theorem hkM : hkP hkG2 := no_implicit_lambda% (@hkapp _ _ hkK3.2 (fun a b c d e f g h i j k => @epsV B.hkP (by with_unfolding_all exact B.hkM) (⟨e9a, e9b, e9c, e9d, e9e, e9f, e9g, e9h, e9v, e9w, e9x, e9y, e9i, e9j, e9k, lk [k] d9l, e9m, e9n, e9o, e9p, e9q, e9r, e9s, e9t, e9u, e9E, e9C, e9T, e9K, e9A, e9X, e9S, e9G, e9W, e9P, e9Q, e9R, e9V, e9Z, e9I, lk [c, e, j] d9L, e9M, lk [g] d9H, e9O, lk [a, b, d, f, h, i] d9N⟩)))
end A
theorem hkM : hkP hkG1 := no_implicit_lambda% (@hkapp _ _ hkK2.2 (fun a b c d e f g h i j k l m n o p q => @epsV A.hkP (by with_unfolding_all exact A.hkM) (vv e9E e9C e9T e9K e9A e9X e9S e9G e9W e9P e9Q e9R e9V (lk [o, p, q] d9Z) e9I (lk [b, d, f] d9L) e9M (lk [l] d9H) (lk [j, m] d9O) (lk [a, c, e, g, h, i, k, n] d9N))))
end Z
theorem hkM : PySem.Challenge.rw_ij0065_01.Holds := no_implicit_lambda% (@hkapp _ _ hkK1.2 (fun a b c d e f g h i j k l m n o p q r s => @epsV Z.hkP (by with_unfolding_all exact Z.hkM) (vv e9E e9C e9T e9K e9A e9X e9S e9G (lk [a] d9W) e9P e9Q (lk [b, c] d9R) (lk [g, h] d9V) e9Z (lk [i] d9I) (lk [k] d9L) (lk [d, e] d9M) (lk [l] d9H) (lk [n, o, p, q, r, s] d9O) (lk [f, j, m] d9N))))
end walk_law_c
theorem walk_law  : PySem.Challenge.rw_ij0065_01.Holds := walk_law_c.hkM
end
end
end
end
end
end Mine
set_option maxRecDepth 100000 in
set_option maxHeartbeats 8000000 in
theorem PySem.Challenge.cw_ij0065_01_holds : PySem.Challenge.rw_ij0065_01.Holds := by
  exact Mine.walk_law
