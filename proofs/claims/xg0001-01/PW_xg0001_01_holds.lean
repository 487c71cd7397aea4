import PyProof.Rows.All
import Wide.All
import OpenK.AllK
import Wide.FinOn
import Open.Tops
import OpenK.XSeg
import KE.KDictLaws
import KE.KPar
import KE.KSortAsk
import KE.KSetIn
import KE.KIntText
import Lean
import PySem.Challenge.RW_xg0001_01
set_option compiler.extract_closed false
set_option genSizeOf false
set_option genInjectivity false
open PySem PySem.W PySem.W.X PyProof.Rows
namespace Mine
set_option Elab.async false
set_option maxRecDepth 100000
set_option maxHeartbeats 1000000
noncomputable def anyF {α : Type} (as : Array α) (p : α → Bool) (start : Nat) (stop : Nat) : Bool :=
  match Nat.beq start 0, Nat.beq stop as.size with
  | true, true => as.toList.any p
  | _, _ => Array.any as p start stop
theorem any_eq : @Array.any.{0} = @anyF := by
  funext α as p start stop
  unfold anyF
  split
  · rename_i h1 h2
    have h1 := Nat.eq_of_beq_eq_true h1
    have h2 := Nat.eq_of_beq_eq_true h2
    subst h1 h2
    simp
  · rfl
structure Wrap (b : Builtin) : Type where mk ::
structure Wrapped where
  b : Builtin
  w : Wrap b
/-- the text of type.__new__ with Array.any turned; no proof stands in it (a proof's type would be unfolded: 139 MB) -/
noncomputable def tnewW : Wrapped := by
  have w : Wrap PySem.Builtin.«type.__new__» := ⟨⟩
  delta PySem.Builtin.«type.__new__» at w
  exact ⟨_, any_eq ▸ w⟩
theorem tnew_eq : PySem.Builtin.«type.__new__» = tnewW.b := by
  delta PySem.Builtin.«type.__new__»
  rw [any_eq]
  rfl
theorem new_at : treeTable "type.__new__" = some PySem.Builtin.«type.__new__» := by kernel_rfl
noncomputable def fastTable (id : String) : Option Builtin := if id = "type.__new__" then some tnewW.b else treeTable id
theorem fast_eq : treeTable = fastTable := by
  funext id
  unfold fastTable
  by_cases h : id = "type.__new__"
  · rw [if_pos h, h, new_at]; exact congrArg some tnew_eq
  · rw [if_neg h]
end Mine
open PySem PySem.W PySem.W.X PyProof.Rows
namespace Mine
noncomputable section
set_option Elab.async false
set_option maxRecDepth 100000
set_option maxHeartbeats 0
noncomputable abbrev pw : Program := PySem.Challenge.pw_xg0001_01
/-- the class's own text, read off the program -/
noncomputable def docOfCls : Stmt → Str
  | .ClassDef _ _ _ (.Expr (.Constant (.str s) _ _) _ :: _) _ _ _ _ _ _ _ => s
  | _ => "?"
noncomputable def stAt (i : Nat) : Stmt := pw.main.body.getD i (.Pass ⟨0, 0, 0, 0⟩)
structure Hold (s : Str) : Type where mk ::
/-- the signs of that text -/
noncomputable def docSigns : List Char := by
  refine (?f : Hold (docOfCls (stAt 5)) → List Char) ⟨⟩
  intro w
  conv at w => arg 1; whnf
  refine (?k : (l : List Char) → Hold (Str.ofString (String.ofList l)) → List Char) _ w
  exact fun l _ => l
noncomputable def withDoc (s : Str) : Stmt → Stmt
  | .ClassDef n bs ks (.Expr (.Constant (.str _) k p) q :: b) ds tps sc ts bd st pos => .ClassDef n bs ks (.Expr (.Constant (.str s) k p) q :: b) ds tps sc ts bd st pos
  | st => st
/-- the program with that text as s -/
noncomputable def pwD (s : Str) : Program := { pw with main := { pw.main with body := pw.main.body.take 5 ++ (withDoc s (stAt 5) :: pw.main.body.drop 6) } }
noncomputable def smDoc : Str := docOfCls (stAt 5)
noncomputable def dS : Str := ⟨(docSigns.map Char.toNat).toArray⟩
theorem doc_is : smDoc = Str.ofString (String.ofList docSigns) := by kernel_rfl
theorem doc_eq : smDoc = dS := doc_is.trans (Fast.ofString_ofList docSigns)
theorem pwD_self : pw = pwD smDoc := by kernel_rfl
theorem pwD_eq : pw = pwD dS := doc_eq ▸ pwD_self
noncomputable def b1 (_ : Params) : Obj := { cls := .type "tuple", data := .seq (Array.mk []) }
noncomputable def b2 (_ : Params) : Obj := { cls := .none, data := .fields (Array.mk []) }
noncomputable def b3 (_ : Params) : Obj :=
  { cls := .type "code",
    data := .fields (Array.mk [.str (Str.ofString "<module>") (nat_lit 182), .str (Str.ofString "<module>") (nat_lit 183), .str (Str.ofString "/claim/cut.py") (nat_lit 184), .int 1 (nat_lit 0), .int 0 (nat_lit 0), .int 0 (nat_lit 0), .int 0 (nat_lit 0),
          .int 0 (nat_lit 0), .ref (nat_lit 11), .bool false, .int 181 (nat_lit 0), .ref (nat_lit 12), .none, .none,
          .none, .none, .int 185 (nat_lit 0), .int 1 (nat_lit 0), .str (Str.ofString "/claim/cut.py") (nat_lit 186)]) }
noncomputable def b4 (_ : Params) : Obj :=
  { cls := .type "frame",
    slots := Array.mk [some (.ref (nat_lit 13)), some (.ref (nat_lit 3)), some (.ref (nat_lit 3)), none, some (.str (Str.ofString "__main__") (nat_lit 164)), none, some (.ref (nat_lit 0))] }
noncomputable def tree0 (P : Params) : BT :=
  .node (boot_o_0 P)
    (.node (boot_o_1 P)
      (.node (boot_o_3 P) (.node (boot_o_7 P) .nil .nil) (.node (b1 P) .nil .nil))
      (.node (boot_o_5 P) (.node (boot_o_9 P) .nil .nil) (.node (b3 P) .nil .nil)))
    (.node (boot_o_2 P)
      (.node (boot_o_4 P) (.node (boot_o_8 P) .nil .nil) (.node (b2 P) .nil .nil))
      (.node (boot_o_6 P) (.node (boot_o_10 P) .nil .nil) (.node (b4 P) .nil .nil)))
noncomputable def env0 (p : Program) : Env := { scope := p.main.scope, locals := mainNs, globals := mainNs, cells := [], code := .ref (nat_lit 13), frame := some (nat_lit 14) }
noncomputable def cd0 (p : Program) : Code := .body (behindTheImports p) (env0 p)
noncomputable def fr0 : List Frame := [topFrame ⟨0, 0, 0, 0⟩]
noncomputable def sB (w : World) (os : OsState) : SharedT := { tree := tree0 w.params, n := nat_lit 15, life := {}, gens := Array.mk [], drawn := {}, toks := nat_lit 187, os := os }





end
end Mine
open PySem PySem.W PySem.W.X PyProof.Rows
namespace Mine
noncomputable section
set_option Elab.async false
set_option linter.unusedVariables false
set_option maxRecDepth 100000
/-- the objects of the top that the walks name (a function's body, params and scope are read off the program) -/
noncomputable def mth (st : Stmt) (i : Nat) : Stmt := match st with
  | .ClassDef _ _ _ b _ _ _ _ _ _ _ => b.getD i (.Pass ⟨0, 0, 0, 0⟩)
  | st => st
noncomputable def docV (b : List Stmt) (t : Tok) : Value := match b with
  | .Expr (.Constant (.str s) _ _) _ :: _ => .str s t
  | _ => .none
noncomputable def fnObj (st : Stmt) (q : Str) (df : Value) (dt : Tok) (m : Value) (cd : Addr) (an : Option Addr) : Obj := match st with
  | .FunctionDef n args body _ _ _ sc _ _ _ => { cls := .type "function", data := .func { name := n, qualname := q, params := args, body := .stmts body, scope := sc, globals := nat_lit 3, closure := [], defaults := df, kwdefaults := .none, doc := docV body dt, pyModule := m, annotations := an, code := .ref cd } }
  | _ => default
noncomputable def codeObj (l : List Value) : Obj := { cls := .type "code", data := .fields (Array.mk l) }
noncomputable def ent (P : Params) (x : Str) (t : Tok) (v : Value) : DictEntry := { hash := PyData.keyHash P x, key := .str x t, val := v }

noncomputable def B.o_392 (P : Params) : Obj := { cls := Value.type "dict", data := Data.dict #[ent P "__name__" (nat_lit 165) (Value.str (Str.ofString "law_xg0001_01") (nat_lit 648)), ent P "__doc__" (nat_lit 166) (Value.none), ent P "__package__" (nat_lit 167) (Value.none), ent P "__loader__" (nat_lit 168) (Value.builtin "__main__.__loader__#opaque"), ent P "__spec__" (nat_lit 169) (Value.none), ent P "__annotations__" (nat_lit 170) (Value.ref (nat_lit 6)), ent P "__builtins__" (nat_lit 171) (Value.ref (nat_lit 4)), ent P "__file__" (nat_lit 173) (Value.str (Str.ofString "/claim/cut.py") (nat_lit 172)), ent P "__cached__" (nat_lit 174) (Value.none), ent P "_wall" (nat_lit 193) (Value.ref (nat_lit 21)), ent P "_tuplegetter" (nat_lit 252) (Value.ref (nat_lit 60)), ent P "Match" (nat_lit 380) (Value.ref (nat_lit 135)), ent P "_calculate_ratio" (nat_lit 388) (Value.ref (nat_lit 145)), ent P "SequenceMatcher" (nat_lit 591) (Value.ref (nat_lit 242)), ent P "_format_range_unified" (nat_lit 602) (Value.ref (nat_lit 253)), ent P "unified_diff" (nat_lit 637) (Value.ref (nat_lit 261)), ent P "_check_types" (nat_lit 647) (Value.ref (nat_lit 268)), ent P "_law_range" (nat_lit 658) (Value.ref (nat_lit 275)), ent P "_law_laid" (nat_lit 676) (Value.ref (nat_lit 282)), ent P "law" (nat_lit 682) (Value.ref (nat_lit 287))] (nat_lit 20) }
noncomputable def B.o_76 (P : Params) : Obj := codeObj [Value.str (Str.ofString "__new__") (nat_lit 274), Value.str (Str.ofString "Match.__new__") (nat_lit 275), Value.str (Str.ofString "/claim/cut.py") (nat_lit 276), Value.int 29 (nat_lit 0), Value.int 4 (nat_lit 0), Value.int 0 (nat_lit 0), Value.int 0 (nat_lit 0), Value.int 3 (nat_lit 0), Value.ref (nat_lit 76), Value.bool true, Value.int 181 (nat_lit 0), Value.ref (nat_lit 77), Value.none, Value.ref (nat_lit 78), Value.ref (nat_lit 79), Value.ref (nat_lit 80), Value.int 281 (nat_lit 0), Value.int 29 (nat_lit 0), Value.str (Str.ofString "/claim/cut.py") (nat_lit 282)]
noncomputable def B.o_77 (P : Params) : Obj := fnObj (mth (stAt 3) 4) (Str.ofString "Match.__new__") (Value.none) (nat_lit 283) (Value.str (Str.ofString "cpy313.difflib") (nat_lit 194)) (nat_lit 81) none
noncomputable def B.o_83 (P : Params) : Obj := codeObj [Value.str (Str.ofString "_make") (nat_lit 285), Value.str (Str.ofString "Match._make") (nat_lit 286), Value.str (Str.ofString "/claim/cut.py") (nat_lit 287), Value.int 33 (nat_lit 0), Value.int 2 (nat_lit 0), Value.int 0 (nat_lit 0), Value.int 0 (nat_lit 0), Value.int 3 (nat_lit 0), Value.ref (nat_lit 83), Value.bool true, Value.int 181 (nat_lit 0), Value.ref (nat_lit 84), Value.none, Value.ref (nat_lit 85), Value.ref (nat_lit 86), Value.ref (nat_lit 87), Value.int 291 (nat_lit 0), Value.int 33 (nat_lit 0), Value.str (Str.ofString "/claim/cut.py") (nat_lit 292)]
noncomputable def B.o_84 (P : Params) : Obj := fnObj (mth (stAt 3) 5) (Str.ofString "Match._make") (Value.none) (nat_lit 293) (Value.str (Str.ofString "cpy313.difflib") (nat_lit 194)) (nat_lit 88) (some (nat_lit 92))
noncomputable def B.o_86 (P : Params) : Obj := { cls := Value.type "classmethod", dict := some (nat_lit 90), data := Data.fields #[Value.ref (nat_lit 89), Value.bool false] }
noncomputable def B.o_129 (P : Params) : Obj := { cls := Value.type "dict", data := Data.dict #[ent P "__module__" (nat_lit 260) (Value.str (Str.ofString "cpy313.difflib") (nat_lit 194)), ent P "__firstlineno__" (nat_lit 264) (Value.int 23 (nat_lit 263)), ent P "__doc__" (nat_lit 266) (Value.str (Str.ofString "Match(a, b, size)") (nat_lit 265)), ent P "__slots__" (nat_lit 268) (Value.ref (nat_lit 73)), ent P "_fields" (nat_lit 272) (Value.ref (nat_lit 74)), ent P "_field_defaults" (nat_lit 273) (Value.ref (nat_lit 75)), ent P "__new__" (nat_lit 284) (Value.ref (nat_lit 136)), ent P "_make" (nat_lit 306) (Value.ref (nat_lit 91)), ent P "_replace" (nat_lit 317) (Value.ref (nat_lit 100)), ent P "__replace__" (nat_lit 318) (Value.ref (nat_lit 100)), ent P "__repr__" (nat_lit 326) (Value.ref (nat_lit 107)), ent P "_asdict" (nat_lit 333) (Value.ref (nat_lit 114)), ent P "__getnewargs__" (nat_lit 341) (Value.ref (nat_lit 121)), ent P "__match_args__" (nat_lit 345) (Value.ref (nat_lit 122)), ent P "a" (nat_lit 355) (Value.ref (nat_lit 124)), ent P "b" (nat_lit 365) (Value.ref (nat_lit 127)), ent P "size" (nat_lit 375) (Value.ref (nat_lit 130)), ent P "__static_attributes__" (nat_lit 376) (Value.ref (nat_lit 132))] (nat_lit 2) }
noncomputable def B.o_130 (P : Params) : Obj := { cls := Value.type "type", data := Data.cls { name := Str.ofString "Match", bases := [Value.type "tuple"], mro := [Value.ref (nat_lit 135), Value.type "tuple", Value.type "object"], ns := nat_lit 134, qualname := Str.ofString "Match", hasDict := false }, slots := #[some (Value.ref (nat_lit 65)), none, some (Value.str (Str.ofString "Match") (nat_lit 253)), some (Value.str (Str.ofString "Match") (nat_lit 261)), some Value.none, some (Value.bool false)] }
noncomputable def B.o_131 (P : Params) : Obj := { cls := .type "staticmethod", data := .fields #[.ref (nat_lit 82)] }
noncomputable def B.o_226 (P : Params) : Obj := { cls := Value.type "tuple", data := Data.seq #[Value.none, Value.str (Str.ofString "") (nat_lit 404), Value.str (Str.ofString "") (nat_lit 405), Value.bool true] }
noncomputable def B.o_232 (P : Params) : Obj := codeObj [Value.str (Str.ofString "__init__") (nat_lit 406), Value.str (Str.ofString "SequenceMatcher.__init__") (nat_lit 407), Value.str (Str.ofString "/claim/cut.py") (nat_lit 408), Value.int 145 (nat_lit 0), Value.int 5 (nat_lit 0), Value.int 0 (nat_lit 0), Value.int 0 (nat_lit 0), Value.int 3 (nat_lit 0), Value.ref (nat_lit 154), Value.bool true, Value.int 181 (nat_lit 0), Value.ref (nat_lit 155), Value.none, Value.ref (nat_lit 156), Value.ref (nat_lit 157), Value.ref (nat_lit 158), Value.int 414 (nat_lit 0), Value.int 145 (nat_lit 0), Value.str (Str.ofString "/claim/cut.py") (nat_lit 415)]
noncomputable def B.o_233 (P : Params) : Obj := fnObj (mth (stAt 5) 1) (Str.ofString "SequenceMatcher.__init__") (Value.ref (nat_lit 153)) (nat_lit 416) (Value.str (Str.ofString "cpy313.difflib") (nat_lit 194)) (nat_lit 159) none
noncomputable def B.o_239 (P : Params) : Obj := codeObj [Value.str (Str.ofString "set_seqs") (nat_lit 418), Value.str (Str.ofString "SequenceMatcher.set_seqs") (nat_lit 419), Value.str (Str.ofString "/claim/cut.py") (nat_lit 420), Value.int 173 (nat_lit 0), Value.int 3 (nat_lit 0), Value.int 0 (nat_lit 0), Value.int 0 (nat_lit 0), Value.int 3 (nat_lit 0), Value.ref (nat_lit 161), Value.bool true, Value.int 181 (nat_lit 0), Value.ref (nat_lit 162), Value.none, Value.ref (nat_lit 163), Value.ref (nat_lit 164), Value.ref (nat_lit 165), Value.int 424 (nat_lit 0), Value.int 173 (nat_lit 0), Value.str (Str.ofString "/claim/cut.py") (nat_lit 425)]
noncomputable def B.o_240 (P : Params) : Obj := fnObj (mth (stAt 5) 2) (Str.ofString "SequenceMatcher.set_seqs") (Value.none) (nat_lit 426) (Value.str (Str.ofString "cpy313.difflib") (nat_lit 194)) (nat_lit 166) none
noncomputable def B.o_246 (P : Params) : Obj := codeObj [Value.str (Str.ofString "set_seq1") (nat_lit 428), Value.str (Str.ofString "SequenceMatcher.set_seq1") (nat_lit 429), Value.str (Str.ofString "/claim/cut.py") (nat_lit 430), Value.int 184 (nat_lit 0), Value.int 2 (nat_lit 0), Value.int 0 (nat_lit 0), Value.int 0 (nat_lit 0), Value.int 3 (nat_lit 0), Value.ref (nat_lit 168), Value.bool true, Value.int 181 (nat_lit 0), Value.ref (nat_lit 169), Value.none, Value.ref (nat_lit 170), Value.ref (nat_lit 171), Value.ref (nat_lit 172), Value.int 433 (nat_lit 0), Value.int 184 (nat_lit 0), Value.str (Str.ofString "/claim/cut.py") (nat_lit 434)]
noncomputable def B.o_247 (P : Params) : Obj := fnObj (mth (stAt 5) 3) (Str.ofString "SequenceMatcher.set_seq1") (Value.none) (nat_lit 435) (Value.str (Str.ofString "cpy313.difflib") (nat_lit 194)) (nat_lit 173) none
noncomputable def B.o_253 (P : Params) : Obj := codeObj [Value.str (Str.ofString "set_seq2") (nat_lit 437), Value.str (Str.ofString "SequenceMatcher.set_seq2") (nat_lit 438), Value.str (Str.ofString "/claim/cut.py") (nat_lit 439), Value.int 209 (nat_lit 0), Value.int 2 (nat_lit 0), Value.int 0 (nat_lit 0), Value.int 0 (nat_lit 0), Value.int 3 (nat_lit 0), Value.ref (nat_lit 175), Value.bool true, Value.int 181 (nat_lit 0), Value.ref (nat_lit 176), Value.none, Value.ref (nat_lit 177), Value.ref (nat_lit 178), Value.ref (nat_lit 179), Value.int 442 (nat_lit 0), Value.int 209 (nat_lit 0), Value.str (Str.ofString "/claim/cut.py") (nat_lit 443)]
noncomputable def B.o_254 (P : Params) : Obj := fnObj (mth (stAt 5) 4) (Str.ofString "SequenceMatcher.set_seq2") (Value.none) (nat_lit 444) (Value.str (Str.ofString "cpy313.difflib") (nat_lit 194)) (nat_lit 180) none
noncomputable def B.o_260 (P : Params) : Obj := codeObj [Value.str (Str.ofString "__chain_b") (nat_lit 446), Value.str (Str.ofString "SequenceMatcher.__chain_b") (nat_lit 447), Value.str (Str.ofString "/claim/cut.py") (nat_lit 448), Value.int 236 (nat_lit 0), Value.int 1 (nat_lit 0), Value.int 0 (nat_lit 0), Value.int 0 (nat_lit 0), Value.int 3 (nat_lit 0), Value.ref (nat_lit 182), Value.bool true, Value.int 181 (nat_lit 0), Value.ref (nat_lit 183), Value.none, Value.ref (nat_lit 184), Value.ref (nat_lit 185), Value.ref (nat_lit 186), Value.int 461 (nat_lit 0), Value.int 236 (nat_lit 0), Value.str (Str.ofString "/claim/cut.py") (nat_lit 462)]
noncomputable def B.o_261 (P : Params) : Obj := fnObj (mth (stAt 5) 5) (Str.ofString "SequenceMatcher.__chain_b") (Value.none) (nat_lit 0) (Value.str (Str.ofString "cpy313.difflib") (nat_lit 194)) (nat_lit 187) none
noncomputable def B.o_262 (P : Params) : Obj := { cls := Value.type "tuple", data := Data.seq #[Value.int 0 (nat_lit 464), Value.none, Value.int 0 (nat_lit 465), Value.none] }
noncomputable def B.o_268 (P : Params) : Obj := codeObj [Value.str (Str.ofString "find_longest_match") (nat_lit 466), Value.str (Str.ofString "SequenceMatcher.find_longest_match") (nat_lit 467), Value.str (Str.ofString "/claim/cut.py") (nat_lit 468), Value.int 260 (nat_lit 0), Value.int 5 (nat_lit 0), Value.int 0 (nat_lit 0), Value.int 0 (nat_lit 0), Value.int 3 (nat_lit 0), Value.ref (nat_lit 190), Value.bool true, Value.int 181 (nat_lit 0), Value.ref (nat_lit 191), Value.none, Value.ref (nat_lit 192), Value.ref (nat_lit 193), Value.ref (nat_lit 194), Value.int 488 (nat_lit 0), Value.int 260 (nat_lit 0), Value.str (Str.ofString "/claim/cut.py") (nat_lit 489)]
noncomputable def B.o_269 (P : Params) : Obj := fnObj (mth (stAt 5) 6) (Str.ofString "SequenceMatcher.find_longest_match") (Value.ref (nat_lit 189)) (nat_lit 490) (Value.str (Str.ofString "cpy313.difflib") (nat_lit 194)) (nat_lit 195) none
noncomputable def B.o_275 (P : Params) : Obj := codeObj [Value.str (Str.ofString "get_matching_blocks") (nat_lit 492), Value.str (Str.ofString "SequenceMatcher.get_matching_blocks") (nat_lit 493), Value.str (Str.ofString "/claim/cut.py") (nat_lit 494), Value.int 335 (nat_lit 0), Value.int 1 (nat_lit 0), Value.int 0 (nat_lit 0), Value.int 0 (nat_lit 0), Value.int 3 (nat_lit 0), Value.ref (nat_lit 197), Value.bool true, Value.int 181 (nat_lit 0), Value.ref (nat_lit 198), Value.none, Value.ref (nat_lit 199), Value.ref (nat_lit 200), Value.ref (nat_lit 201), Value.int 515 (nat_lit 0), Value.int 335 (nat_lit 0), Value.str (Str.ofString "/claim/cut.py") (nat_lit 516)]
noncomputable def B.o_276 (P : Params) : Obj := fnObj (mth (stAt 5) 7) (Str.ofString "SequenceMatcher.get_matching_blocks") (Value.none) (nat_lit 517) (Value.str (Str.ofString "cpy313.difflib") (nat_lit 194)) (nat_lit 202) none
noncomputable def B.o_282 (P : Params) : Obj := codeObj [Value.str (Str.ofString "get_opcodes") (nat_lit 519), Value.str (Str.ofString "SequenceMatcher.get_opcodes") (nat_lit 520), Value.str (Str.ofString "/claim/cut.py") (nat_lit 521), Value.int 383 (nat_lit 0), Value.int 1 (nat_lit 0), Value.int 0 (nat_lit 0), Value.int 0 (nat_lit 0), Value.int 3 (nat_lit 0), Value.ref (nat_lit 204), Value.bool true, Value.int 181 (nat_lit 0), Value.ref (nat_lit 205), Value.none, Value.ref (nat_lit 206), Value.ref (nat_lit 207), Value.ref (nat_lit 208), Value.int 530 (nat_lit 0), Value.int 383 (nat_lit 0), Value.str (Str.ofString "/claim/cut.py") (nat_lit 531)]
noncomputable def B.o_283 (P : Params) : Obj := fnObj (mth (stAt 5) 8) (Str.ofString "SequenceMatcher.get_opcodes") (Value.none) (nat_lit 532) (Value.str (Str.ofString "cpy313.difflib") (nat_lit 194)) (nat_lit 209) none
noncomputable def B.o_284 (P : Params) : Obj := { cls := Value.type "tuple", data := Data.seq #[Value.int 3 (nat_lit 534)] }
noncomputable def B.o_290 (P : Params) : Obj := codeObj [Value.str (Str.ofString "get_grouped_opcodes") (nat_lit 535), Value.str (Str.ofString "SequenceMatcher.get_grouped_opcodes") (nat_lit 536), Value.str (Str.ofString "/claim/cut.py") (nat_lit 537), Value.int 430 (nat_lit 0), Value.int 2 (nat_lit 0), Value.int 0 (nat_lit 0), Value.int 0 (nat_lit 0), Value.int 35 (nat_lit 0), Value.ref (nat_lit 212), Value.bool true, Value.int 181 (nat_lit 0), Value.ref (nat_lit 213), Value.none, Value.ref (nat_lit 214), Value.ref (nat_lit 215), Value.ref (nat_lit 216), Value.int 548 (nat_lit 0), Value.int 430 (nat_lit 0), Value.str (Str.ofString "/claim/cut.py") (nat_lit 549)]
noncomputable def B.o_291 (P : Params) : Obj := fnObj (mth (stAt 5) 9) (Str.ofString "SequenceMatcher.get_grouped_opcodes") (Value.ref (nat_lit 211)) (nat_lit 550) (Value.str (Str.ofString "cpy313.difflib") (nat_lit 194)) (nat_lit 217) none
noncomputable def B.o_314 (P : Params) : Obj := { cls := Value.type "dict", data := Data.dict #[ent P "__module__" (nat_lit 396) (Value.str (Str.ofString "cpy313.difflib") (nat_lit 194)), ent P "__firstlineno__" (nat_lit 400) (Value.int 70 (nat_lit 399)), ent P "__doc__" (nat_lit 402) (Value.str dS (nat_lit 401)), ent P "__init__" (nat_lit 417) (Value.ref (nat_lit 160)), ent P "set_seqs" (nat_lit 427) (Value.ref (nat_lit 167)), ent P "set_seq1" (nat_lit 436) (Value.ref (nat_lit 174)), ent P "set_seq2" (nat_lit 445) (Value.ref (nat_lit 181)), ent P "_SequenceMatcher__chain_b" (nat_lit 463) (Value.ref (nat_lit 188)), ent P "find_longest_match" (nat_lit 491) (Value.ref (nat_lit 196)), ent P "get_matching_blocks" (nat_lit 518) (Value.ref (nat_lit 203)), ent P "get_opcodes" (nat_lit 533) (Value.ref (nat_lit 210)), ent P "get_grouped_opcodes" (nat_lit 551) (Value.ref (nat_lit 218)), ent P "ratio" (nat_lit 560) (Value.ref (nat_lit 225)), ent P "quick_ratio" (nat_lit 567) (Value.ref (nat_lit 232)), ent P "real_quick_ratio" (nat_lit 574) (Value.ref (nat_lit 239)), ent P "__static_attributes__" (nat_lit 585) (Value.ref (nat_lit 240)), ent P "__dict__" (nat_lit 587) (Value.ref (nat_lit 243)), ent P "__weakref__" (nat_lit 589) (Value.ref (nat_lit 244))] (nat_lit 3) }
noncomputable def B.o_315 (P : Params) : Obj := { cls := Value.type "type", data := Data.cls { name := Str.ofString "SequenceMatcher", bases := [Value.type "object"], mro := [Value.ref (nat_lit 242), Value.type "object"], ns := nat_lit 241, qualname := Str.ofString "SequenceMatcher" }, slots := #[none, none, some (Value.str (Str.ofString "SequenceMatcher") (nat_lit 389)), some (Value.str (Str.ofString "SequenceMatcher") (nat_lit 397)), some (Value.builtin "object.__new__"), some (Value.bool true)] }
noncomputable def B.o_399 (P : Params) : Obj := codeObj [Value.str (Str.ofString "_format_range_unified") (nat_lit 592), Value.str (Str.ofString "_format_range_unified") (nat_lit 593), Value.str (Str.ofString "/claim/cut.py") (nat_lit 594), Value.int 504 (nat_lit 0), Value.int 2 (nat_lit 0), Value.int 0 (nat_lit 0), Value.int 0 (nat_lit 0), Value.int 3 (nat_lit 0), Value.ref (nat_lit 247), Value.bool true, Value.int 181 (nat_lit 0), Value.ref (nat_lit 248), Value.none, Value.ref (nat_lit 249), Value.ref (nat_lit 250), Value.ref (nat_lit 251), Value.int 599 (nat_lit 0), Value.int 504 (nat_lit 0), Value.str (Str.ofString "/claim/cut.py") (nat_lit 600)]
noncomputable def B.o_400 (P : Params) : Obj := fnObj (stAt 6) (Str.ofString "_format_range_unified") (Value.none) (nat_lit 601) (Value.str (Str.ofString "cpy313.difflib") (nat_lit 194)) (nat_lit 252) none
noncomputable def B.o_401 (P : Params) : Obj := { cls := Value.type "tuple", data := Data.seq #[Value.str (Str.ofString "") (nat_lit 603), Value.str (Str.ofString "") (nat_lit 604), Value.str (Str.ofString "") (nat_lit 605), Value.str (Str.ofString "") (nat_lit 606), Value.int 3 (nat_lit 607), Value.str (Str.ofString "\n") (nat_lit 608)] }
noncomputable def B.o_407 (P : Params) : Obj := codeObj [Value.str (Str.ofString "unified_diff") (nat_lit 609), Value.str (Str.ofString "unified_diff") (nat_lit 610), Value.str (Str.ofString "/claim/cut.py") (nat_lit 611), Value.int 513 (nat_lit 0), Value.int 8 (nat_lit 0), Value.int 0 (nat_lit 0), Value.int 0 (nat_lit 0), Value.int 35 (nat_lit 0), Value.ref (nat_lit 255), Value.bool true, Value.int 181 (nat_lit 0), Value.ref (nat_lit 256), Value.none, Value.ref (nat_lit 257), Value.ref (nat_lit 258), Value.ref (nat_lit 259), Value.int 634 (nat_lit 0), Value.int 513 (nat_lit 0), Value.str (Str.ofString "/claim/cut.py") (nat_lit 635)]
noncomputable def B.o_408 (P : Params) : Obj := fnObj (stAt 7) (Str.ofString "unified_diff") (Value.ref (nat_lit 254)) (nat_lit 636) (Value.str (Str.ofString "cpy313.difflib") (nat_lit 194)) (nat_lit 260) none
noncomputable def B.o_414 (P : Params) : Obj := codeObj [Value.str (Str.ofString "_check_types") (nat_lit 638), Value.str (Str.ofString "_check_types") (nat_lit 639), Value.str (Str.ofString "/claim/cut.py") (nat_lit 640), Value.int 576 (nat_lit 0), Value.int 2 (nat_lit 0), Value.int 0 (nat_lit 0), Value.int 0 (nat_lit 0), Value.int 7 (nat_lit 0), Value.ref (nat_lit 262), Value.bool true, Value.int 181 (nat_lit 0), Value.ref (nat_lit 263), Value.none, Value.ref (nat_lit 264), Value.ref (nat_lit 265), Value.ref (nat_lit 266), Value.int 645 (nat_lit 0), Value.int 576 (nat_lit 0), Value.str (Str.ofString "/claim/cut.py") (nat_lit 646)]
noncomputable def B.o_415 (P : Params) : Obj := fnObj (stAt 8) (Str.ofString "_check_types") (Value.none) (nat_lit 0) (Value.str (Str.ofString "cpy313.difflib") (nat_lit 194)) (nat_lit 267) none
noncomputable def B.o_421 (P : Params) : Obj := codeObj [Value.str (Str.ofString "_law_range") (nat_lit 650), Value.str (Str.ofString "_law_range") (nat_lit 651), Value.str (Str.ofString "/claim/cut.py") (nat_lit 652), Value.int 585 (nat_lit 0), Value.int 1 (nat_lit 0), Value.int 0 (nat_lit 0), Value.int 0 (nat_lit 0), Value.int 3 (nat_lit 0), Value.ref (nat_lit 269), Value.bool true, Value.int 181 (nat_lit 0), Value.ref (nat_lit 270), Value.none, Value.ref (nat_lit 271), Value.ref (nat_lit 272), Value.ref (nat_lit 273), Value.int 656 (nat_lit 0), Value.int 585 (nat_lit 0), Value.str (Str.ofString "/claim/cut.py") (nat_lit 657)]
noncomputable def B.o_422 (P : Params) : Obj := fnObj (stAt 10) (Str.ofString "_law_range") (Value.none) (nat_lit 0) (Value.str (Str.ofString "law_xg0001_01") (nat_lit 648)) (nat_lit 274) none
noncomputable def B.o_428 (P : Params) : Obj := codeObj [Value.str (Str.ofString "_law_laid") (nat_lit 659), Value.str (Str.ofString "_law_laid") (nat_lit 660), Value.str (Str.ofString "/claim/cut.py") (nat_lit 661), Value.int 589 (nat_lit 0), Value.int 3 (nat_lit 0), Value.int 0 (nat_lit 0), Value.int 0 (nat_lit 0), Value.int 3 (nat_lit 0), Value.ref (nat_lit 276), Value.bool true, Value.int 181 (nat_lit 0), Value.ref (nat_lit 277), Value.none, Value.ref (nat_lit 278), Value.ref (nat_lit 279), Value.ref (nat_lit 280), Value.int 674 (nat_lit 0), Value.int 589 (nat_lit 0), Value.str (Str.ofString "/claim/cut.py") (nat_lit 675)]
noncomputable def B.o_429 (P : Params) : Obj := fnObj (stAt 11) (Str.ofString "_law_laid") (Value.none) (nat_lit 0) (Value.str (Str.ofString "law_xg0001_01") (nat_lit 648)) (nat_lit 281) none
noncomputable def B.o_433 (P : Params) : Obj := codeObj [Value.str (Str.ofString "law") (nat_lit 677), Value.str (Str.ofString "law") (nat_lit 678), Value.str (Str.ofString "/claim/cut.py") (nat_lit 679), Value.int 621 (nat_lit 0), Value.int 1 (nat_lit 0), Value.int 0 (nat_lit 0), Value.int 0 (nat_lit 0), Value.int 3 (nat_lit 0), Value.ref (nat_lit 283), Value.bool true, Value.int 181 (nat_lit 0), Value.ref (nat_lit 284), Value.none, Value.none, Value.none, Value.ref (nat_lit 285), Value.int 680 (nat_lit 0), Value.int 621 (nat_lit 0), Value.str (Str.ofString "/claim/cut.py") (nat_lit 681)]
noncomputable def B.o_434 (P : Params) : Obj := fnObj (stAt 12) (Str.ofString "law") (Value.none) (nat_lit 0) (Value.str (Str.ofString "law_xg0001_01") (nat_lit 648)) (nat_lit 286) none
noncomputable def ads6 : List Addr := [nat_lit 0, nat_lit 1, nat_lit 2, nat_lit 3, nat_lit 4, nat_lit 81, nat_lit 82, nat_lit 88, nat_lit 89, nat_lit 91, nat_lit 134, nat_lit 135, nat_lit 136, nat_lit 153, nat_lit 159, nat_lit 160, nat_lit 166, nat_lit 167, nat_lit 173, nat_lit 174, nat_lit 180, nat_lit 181, nat_lit 187, nat_lit 188, nat_lit 189, nat_lit 195, nat_lit 196, nat_lit 202, nat_lit 203, nat_lit 209, nat_lit 210, nat_lit 211, nat_lit 217, nat_lit 218, nat_lit 241, nat_lit 242, nat_lit 252, nat_lit 253, nat_lit 254, nat_lit 260, nat_lit 261, nat_lit 267, nat_lit 268, nat_lit 274, nat_lit 275, nat_lit 281, nat_lit 282, nat_lit 286, nat_lit 287]
noncomputable def objs6 (P : Params) : List Obj := [boot_o_0 P, boot_o_1 P, boot_o_2 P, B.o_392 P, boot_o_4 P, B.o_76 P, B.o_77 P, B.o_83 P, B.o_84 P, B.o_86 P, B.o_129 P, B.o_130 P, B.o_131 P, B.o_226 P, B.o_232 P, B.o_233 P, B.o_239 P, B.o_240 P, B.o_246 P, B.o_247 P, B.o_253 P, B.o_254 P, B.o_260 P, B.o_261 P, B.o_262 P, B.o_268 P, B.o_269 P, B.o_275 P, B.o_276 P, B.o_282 P, B.o_283 P, B.o_284 P, B.o_290 P, B.o_291 P, B.o_314 P, B.o_315 P, B.o_399 P, B.o_400 P, B.o_401 P, B.o_407 P, B.o_408 P, B.o_414 P, B.o_415 P, B.o_421 P, B.o_422 P, B.o_428 P, B.o_429 P, B.o_433 P, B.o_434 P]
end
end Mine
open PySem PySem.W PySem.W.X PyProof.Rows
namespace Mine
noncomputable section
set_option Elab.async false
set_option maxRecDepth 100000
set_option maxHeartbeats 0
/-- the view: the law's def alone -/
noncomputable def q1 : Program := { pw with main := { pw.main with body := pw.main.body.drop 12 } }
noncomputable def loose1 : List Str := ["_wall", "_tuplegetter", "Match", "_calculate_ratio", "SequenceMatcher", "_format_range_unified", "unified_diff", "_check_types", "_law_range", "_law_laid"]
noncomputable def XtQ (q : Program) : Shared → Bool := fun s => xlAt q [] s && recOk [] s
/-- what is asked of the last state -/
noncomputable def lookX (p q : Program) (w : World) (s : Shared) := (staticsOk (importedModules p.main.body) (boot_heap w.params) s.heap && namesBound p s.heap && gensDone s && laidKept (boot_heap w.params) s.heap,
  openSeen q loose1 (importedModules p.main.body) (XtQ q) true s)
noncomputable def lhsX (p q : Program) (as : List Addr) (w : World) (os : OsState) :=
  (segRunT fastTable p w (nat_lit 11) (some (.ref (nat_lit 6))) (nat_lit 1) (nat_lit 2400) (sB w os) (piecesOf (behindTheImports p) (env0 p) (cd0 p) ⟨0, 0, 0, 0⟩ fr0)).map fun r => (r.1, r.2.2.1, lookX p q w r.2.1.abs, as.map fun a => r.2.1.abs.heap.get? a)
theorem lhsX_self : lhsX = lhsX := rfl
name_quick lhsXq for lhsX by lhsX_self
noncomputable def rhsX (q : Program) := openGood q loose1
theorem rhsX_self : rhsX = rhsX := rfl
name_quick rhsXq for rhsX by rhsX_self
end
end Mine
open PySem PySem.W PySem.W.X PyProof.Rows
namespace Mine
noncomputable section
set_option Elab.async false
set_option maxRecDepth 100000
set_option maxHeartbeats 0

theorem goX (w : World) (os : OsState) : PySem.W.Fast.lhsXq (pwD dS) q1 ads6 w os = some (.next, cd0 (pwD dS), (true, PySem.W.Fast.rhsXq q1), (objs6 w.params).map some) := by kernel_rfl
end
end Mine
open PySem PySem.W PySem.W.X PyProof.Rows
namespace Mine
noncomputable section
set_option Elab.async false
set_option maxRecDepth 100000
set_option maxHeartbeats 0
noncomputable def lhsPre (p : Program) (w : World) (os : OsState) : Option (Shared × Thread) := topGo treeTable p w (nat_lit 11) (some (.ref (nat_lit 6))) (nat_lit 12) ⟨boot_heap w.params, Array.mk [], boot_drawn, boot_toks, os⟩ (topStub p)
noncomputable def rhsPre (p : Program) (w : World) (os : OsState) : Option (Shared × Thread) := some ((sB w os).abs, ⟨denote treeTable (cd0 p), cd0 p, ⟨0, 0, 0, 0⟩, fr0⟩)
theorem lhsPre_self : lhsPre = lhsPre := rfl
theorem rhsPre_self : rhsPre = rhsPre := rfl
name_quick lhsPreq for lhsPre by lhsPre_self
name_quick rhsPreq for rhsPre by rhsPre_self
theorem goPre (w : World) (os : OsState) : PySem.W.Fast.lhsPreq pw w os = PySem.W.Fast.rhsPreq pw w os := by kernel_rfl
theorem runPre (w : World) (os : OsState) : lhsPre pw w os = rhsPre pw w os := by rw [PySem.W.Fast.lhsPreq_eq, PySem.W.Fast.rhsPreq_eq]; exact goPre w os
theorem runBlock (w : World) (os : OsState) : segRun treeTable pw w (nat_lit 11) (some (.ref (nat_lit 6))) (nat_lit 1) (nat_lit 1) (sB w os).abs (blockOf (behindTheImports pw) (env0 pw) (cd0 pw) ⟨0, 0, 0, 0⟩ fr0) = some (.next, (sB w os).abs, cd0 pw, ⟨0, 0, 0, 0⟩) := by kernel_rfl
theorem runFin (w : World) (s : Shared) (c : Code) (q : Pos) : topRun treeTable pw w (nat_lit 11) (some (.ref (nat_lit 6))) (nat_lit 2) s (restOf [] (env0 pw) c q fr0) = some s := rfl
theorem runX (w : World) (os : OsState) : ∃ s', topRun treeTable pw w (nat_lit 11) (some (.ref (nat_lit 6))) (nat_lit 12 + (nat_lit 1 + (nat_lit 2400 + nat_lit 2))) ⟨boot_heap w.params, Array.mk [], boot_drawn, boot_toks, os⟩ (topStub pw) = some s' ∧
    lookX pw q1 w s' = (true, openGood q1 loose1) ∧ (ads6.map fun a => s'.heap.get? a) = (objs6 w.params).map some := by
  have h : lhsX pw q1 ads6 w os = some (.next, cd0 pw, (true, rhsX q1), (objs6 w.params).map some) := by
    rw [pwD_eq, PySem.W.Fast.lhsXq_eq, PySem.W.Fast.rhsXq_eq]
    exact goX w os
  obtain ⟨⟨f, s', c, q⟩, e, e'⟩ := Option.map_eq_some_iff.mp h
  simp only [Prod.mk.injEq] at e'
  obtain ⟨rfl, rfl, e2, e3⟩ := e'
  refine ⟨s'.abs, ?_, e2, e3⟩
  refine go_top (runPre w os) (piece_block (runBlock w os) ?_)
  rw [← List.append_nil (behindTheImports pw)]
  rw [← fast_eq] at e
  exact piece_app (segRun_of e) (runFin w s'.abs _ q)
#check @runX
end
end Mine
open PySem PySem.W PySem.W.X PyProof.Rows
namespace Mine
noncomputable section
set_option Elab.async false
set_option maxRecDepth 100000
set_option maxHeartbeats 0
noncomputable def Xt1 : Shared → Bool := XtQ q1
theorem xt_of {s : Shared} (e : Xt1 s = true) : xlAt q1 [] s = true ∧ recOk [] s = true := Bool.and_eq_true_iff.mp e
noncomputable def Yf1 (s : Shared) : List (Option Obj) := ads6.map fun a => s.heap.get? a
noncomputable def Ya1 (w : World) : List (Option Obj) := (objs6 w.params).map some
/-- the object of the top at an address (those that are named) -/
noncomputable def at6 (P : Params) (a : Addr) : Option Obj := (ads6.zip (objs6 P)).lookup a
noncomputable def YP1 (w : World) (h : Heap) : Prop := ∀ a o, at6 w.params a = some o → h.get? a = some o
theorem look_zip {h : Addr → Option Obj} : ∀ {as : List Addr} {os : List Obj}, (as.map h = os.map some) → ∀ a o, (as.zip os).lookup a = some o → h a = some o
  | a' :: as, o' :: os, e, a, o, l => by
    obtain ⟨e1, e2⟩ := List.cons.inj e
    rw [List.zip_cons_cons, List.lookup_cons] at l
    split at l
    · rename_i q
      rw [eq_of_beq q, ← l]; exact e1
    · exact look_zip e2 a o l
  | [], os, e, a, o, l => by rw [List.zip_nil_left] at l; cases l
  | _ :: _, [], e, a, o, l => by rw [List.zip_nil_right] at l; cases l
theorem yp_of (w : World) (s : Shared) (e : Yf1 s = Ya1 w) : YP1 w s.heap := look_zip (h := fun a => s.heap.get? a) e
theorem yp_keeps (w : World) (h h' : Heap) (y : YP1 w h) (k : ∀ b o, h.get? b = some o → h'.get? b = some o) : YP1 w h' := fun a o x => k _ _ (y a o x)
theorem size1 (w : World) : ((boot_heap w.params).isNs mainGlobals && (Array.mk ([] : List GenState)).size == 0, (boot_heap w.params).objs.size, (boot_heap w.params).nsMap mainGlobals "__annotations__") = (true, nat_lit 11, some (Value.ref 6)) := by kernel_rfl
theorem open1 : ∀ w : World, (fencedOpening treeTable pw w 5000).map (fun s => (s.heap, s.gens, s.drawn, s.toks)) = some (boot_heap w.params, Array.mk [], boot_drawn, boot_toks) :=
  boot_open (by kernel_rfl) (by kernel_rfl) (fun _ => by kernel_rfl)
theorem top_go {w : World} {s s' : Shared} (h1 : (s.heap.isNs mainGlobals && s.gens.size == 0, s.heap.objs.size, s.heap.nsMap mainGlobals "__annotations__") = (true, nat_lit 11, some (Value.ref 6)))
    (h2 : topRun treeTable pw w (nat_lit 11) (some (.ref (nat_lit 6))) 5000 s (topStub pw) = some s')
    (h3 : (staticsOk (importedModules pw.main.body) s.heap s'.heap && namesBound pw s'.heap && gensDone s' && laidKept s.heap s'.heap) = true) : topFrom treeTable pw w 5000 s = some s' := by
  simp only [Prod.mk.injEq] at h1
  unfold topFrom
  rw [h1.1, h1.2.1, h1.2.2, h2]
  simp only [Option.bind_some, h3]
theorem left1 : LeftO pw q1 loose1 Xt1 Yf1 Ya1 5000 := by
  intro w
  obtain ⟨⟨h, gs, d, k, os⟩, e, e'⟩ := Option.map_eq_some_iff.mp (open1 w)
  simp only [Prod.mk.injEq] at e'
  obtain ⟨rfl, rfl, rfl, rfl⟩ := e'
  obtain ⟨s', r1, r2, r3⟩ := runX w os
  simp only [lookX, Prod.mk.injEq] at r2
  have t := top_go (size1 w) (topRun_mono 2585 _ _ _ _ r1) r2.1
  unfold openEnds
  rw [e, Option.bind_some, t, Option.map_some]
  exact congrArg some (Prod.ext r2.2 r3)
end
end Mine
open PySem PySem.W PySem.W.X PyProof.Rows
namespace Mine
noncomputable section
set_option Elab.async false
set_option maxRecDepth 100000
set_option maxHeartbeats 0
noncomputable def KF (P : Params) : Frag := [(nat_lit 2, boot_o_2 P), (nat_lit 3, B.o_392 P), (nat_lit 89, B.o_84 P), (nat_lit 91, B.o_86 P), (nat_lit 134, B.o_129 P), (nat_lit 135, B.o_130 P), (nat_lit 136, B.o_131 P), (nat_lit 260, B.o_407 P)]
theorem kf_keys (P : Params) : (KF P).map (fun p => at6 P p.1) = (KF P).map (fun p => some p.2) := by kernel_rfl
theorem lookup_mem {a : Nat} {o : Obj} : ∀ {K : Frag}, K.lookup a = some o → (a, o) ∈ K
  | [], e => nomatch e
  | (b, o') :: K, e => by
    rw [List.lookup_cons] at e
    by_cases h : a = b
    · subst h
      rw [show (a == a) = true from beq_self_eq_true a] at e
      cases e
      exact .head _
    · rw [show (a == b) = false from beq_false_of_ne h] at e
      exact .tail _ (lookup_mem e)
theorem map_at {α β : Type} {f g : α → β} : ∀ {l : List α}, l.map f = l.map g → ∀ x ∈ l, f x = g x
  | _ :: _, e, _, .head _ => (List.cons.inj e).1
  | _ :: _, e, _, .tail _ m => map_at (List.cons.inj e).2 _ m
theorem kf_in (w : World) (h : Heap) (y : YP1 w h) : (KF w.params).In h := by
  intro a o e
  have m := lookup_mem e
  exact y a o (map_at (kf_keys w.params) _ m)
end
end Mine
open PySem PySem.W PySem.W.X PyProof.Rows
namespace Mine
set_option Elab.async false
set_option linter.unusedVariables false

/-- a part of a heap -/
noncomputable abbrev PH := Addr → Option Obj
noncomputable def PH.le (F F' : PH) : Prop := ∀ a o, F a = some o → F' a = some o
theorem PH.le.refl (F : PH) : PH.le F F := fun _ _ e => e
theorem PH.le.trans {F G H : PH} (x : PH.le F G) (y : PH.le G H) : PH.le F H := fun a o e => y a o (x a o e)
noncomputable def PH.ins (F : PH) (a : Addr) (o : Obj) : PH := fun b => if b = a then some o else F b
theorem PH.le_ins {F : PH} {a : Addr} {o : Obj} (h : F a = none) : PH.le F (F.ins a o) := by
  intro b x e
  unfold PH.ins
  by_cases q : b = a
  · subst q; rw [h] at e; cases e
  · rw [if_neg q]; exact e
theorem PH.ins_self (F : PH) (a : Addr) (o : Obj) : F.ins a o a = some o := by unfold PH.ins; rw [if_pos rfl]
theorem PH.ins_ne {F : PH} {a b : Addr} {o : Obj} (h : b ≠ a) : F.ins a o b = F b := by unfold PH.ins; rw [if_neg h]

/-- the class Match -/
noncomputable def matC : Addr := 135

/-- values without their tokens; what is frozen stands whole, what still changes as a cell -/
inductive MV where
  | unb
  | junk
  | none
  | bool (b : Bool)
  | int (i : Int)
  | str (s : Str)
  | tup (xs : List MV)
  | mat (xs : List MV)
  | list (xs : List MV)
  | idict (f : Int → Option Int)
  | sdict (f : Str → Option (List Int))
  | set0
  | cell (k : Nat)
  | val (v : Value)
  | bm (id : String) (self : MV)
  | gen (g : Nat)
  deriving Inhabited

noncomputable def isSeq (T : Value) (o : Obj) (vs : Array Value) : Prop := o.cls = T ∧ o.dict = Option.none ∧ o.slots = #[] ∧ ∃ n, o.data = .seq vs n
noncomputable def isDict {w : World} {κ : Type} [DecidableEq κ] (knd : KeyKind pw w κ) (o : Obj) (g : κ → Option Value) (n : Nat) : Prop :=
  ∃ kvs, o.IsDictOf knd kvs ∧ (∀ k, valueAt kvs k = g k) ∧ kvs.length ≤ n
noncomputable def isSet0 (o : Obj) : Prop := o.cls = .type "set" ∧ o.dict = Option.none ∧ o.slots = #[] ∧ ∃ led : Bool, o.data = .set #[] 0 (.fresh 0 0 led)
noncomputable def isMat (o : Obj) (vs : Array Value) : Prop := o.cls = .ref matC ∧ o.slots = #[] ∧ ∃ n, o.data = .seq vs n
noncomputable def isBM (o : Obj) (id : String) (v : Value) : Prop := o = { cls := .type "builtin_function_or_method", data := .fields #[.builtin id, v] }

noncomputable def isGen (o : Obj) (g : Nat) : Prop := o.cls = .type "generator" ∧ (∃ nm qn, o.data = .fields #[.int g 0, nm, qn]) ∧ o.slots = #[]

inductive IntsAt (F : PH) : List Int → Value → Prop
  | mk {is a o vs} : F a = some o → isSeq (.type "list") o vs → IntsAre vs.toList is → IntsAt F is (.ref a)

noncomputable def OInt (x : Option Int) (v : Option Value) : Prop := match x with
  | some i => ∃ t, v = some (.int i t)
  | Option.none => v = Option.none

mutual
inductive DV (w : World) (F : PH) : List Addr → MV → Value → Prop
  | junk {as} (v) : DV w F as .junk v
  | none {as} : DV w F as .none .none
  | bool {as} (b) : DV w F as (.bool b) (.bool b)
  | int {as} (i t) : DV w F as (.int i) (.int i t)
  | str {as} (x t) : DV w F as (.str x) (.str x t)
  | val {as} (v) : DV w F as (.val v) v
  | cell {as : List Addr} {k : Nat} {a : Addr} : as[k]? = some a → DV w F as (.cell k) (.ref a)
  | tup {as xs a o vs} : F a = some o → isSeq (.type "tuple") o vs → DVs w F [] xs vs.toList → DV w F as (.tup xs) (.ref a)
  | mat {as xs a o vs} : F a = some o → isMat o vs → DVs w F [] xs vs.toList → DV w F as (.mat xs) (.ref a)
  | list {as xs a o vs} : F a = some o → isSeq (.type "list") o vs → DVs w F [] xs vs.toList → DV w F as (.list xs) (.ref a)
  | idict {as f g a o n} : F a = some o → isDict (intKind pw w) o g n → (∀ k, OInt (f k) (g k)) → DV w F as (.idict f) (.ref a)
  | sdict {as f g a o n} : F a = some o → isDict (strKind pw w) o g n → (∀ k, match f k with | some is => ∃ v, g k = some v ∧ IntsAt F is v | Option.none => g k = Option.none) → DV w F as (.sdict f) (.ref a)
  | set0 {as a o} : F a = some o → isSet0 o → DV w F as .set0 (.ref a)
  | gen {as a o g} : F a = some o → isGen o g → DV w F as (.gen g) (.ref a)
  | bm {as id m v a o} : F a = some o → isBM o id v → DV w F as m v → DV w F as (.bm id m) (.ref a)
inductive DVs (w : World) (F : PH) : List Addr → List MV → List Value → Prop
  | nil {as} : DVs w F as [] []
  | cons {as x v xs vs} : DV w F as x v → DVs w F as xs vs → DVs w F as (x :: xs) (v :: vs)
end
/-- what stands at a value, by the kind of it (for eliminations without `cases`: those cost some thousand nodes each) -/
noncomputable def DV.I (w : World) (F : PH) (as : List Addr) (M : Value → Prop) (m : MV) : Prop := match m with
  | .unb => True
  | .junk => ∀ v, M v
  | .none => M .none
  | .bool b => M (.bool b)
  | .int i => ∀ t, M (.int i t)
  | .str x => ∀ t, M (.str x t)
  | .val v => M v
  | .cell k => ∀ a, as[k]? = some a → M (.ref a)
  | .tup xs => ∀ a o vs, F a = some o → isSeq (.type "tuple") o vs → DVs w F [] xs vs.toList → M (.ref a)
  | .mat xs => ∀ a o vs, F a = some o → isMat o vs → DVs w F [] xs vs.toList → M (.ref a)
  | .list xs => ∀ a o vs, F a = some o → isSeq (.type "list") o vs → DVs w F [] xs vs.toList → M (.ref a)
  | .idict f => ∀ g a o n, F a = some o → isDict (intKind pw w) o g n → (∀ k, OInt (f k) (g k)) → M (.ref a)
  | .sdict f => ∀ g a o n, F a = some o → isDict (strKind pw w) o g n → (∀ k, match f k with | some is => ∃ v, g k = some v ∧ IntsAt F is v | Option.none => g k = Option.none) → M (.ref a)
  | .set0 => ∀ a o, F a = some o → isSet0 o → M (.ref a)
  | .gen g => ∀ a o, F a = some o → isGen o g → M (.ref a)
  | .bm id m => ∀ v a o, F a = some o → isBM o id v → DV w F as m v → M (.ref a)
section
variable {w : World} {F : PH} {as : List Addr} {v : Value}
theorem DV.inv {m : MV} (d : DV w F as m v) {M : Value → Prop} (h : DV.I w F as M m) : M v := by
  cases d with
  | junk v => exact h v
  | none => exact h
  | bool b => exact h
  | int i t => exact h t
  | str x t => exact h t
  | val v => exact h
  | cell e => exact h _ e
  | tup a b c => exact h _ _ _ a b c
  | mat a b c => exact h _ _ _ a b c
  | list a b c => exact h _ _ _ a b c
  | idict a b c => exact h _ _ _ _ a b c
  | sdict a b c => exact h _ _ _ _ a b c
  | set0 a b => exact h _ _ a b
  | gen a b => exact h _ _ a b
  | bm a b c => exact h _ _ _ a b c
theorem DV.noneI (d : DV w F as .none v) {M : Value → Prop} (h : M .none) : M v := d.inv (M := M) h
theorem DV.boolI {b : Bool} (d : DV w F as (.bool b) v) {M : Value → Prop} (h : M (.bool b)) : M v := d.inv (M := M) h
theorem DV.intI {i : Int} (d : DV w F as (.int i) v) {M : Value → Prop} (h : ∀ t, M (.int i t)) : M v := d.inv (M := M) h
theorem DV.strI {x : Str} (d : DV w F as (.str x) v) {M : Value → Prop} (h : ∀ t, M (.str x t)) : M v := d.inv (M := M) h
theorem DV.valI {u : Value} (d : DV w F as (.val u) v) {M : Value → Prop} (h : M u) : M v := d.inv (M := M) h
theorem DV.cellI {k : Nat} (d : DV w F as (.cell k) v) {M : Value → Prop} (h : ∀ a, as[k]? = some a → M (.ref a)) : M v := d.inv (M := M) h
theorem DV.tupI {xs : List MV} (d : DV w F as (.tup xs) v) {M : Value → Prop} (h : ∀ a o vs, F a = some o → isSeq (.type "tuple") o vs → DVs w F [] xs vs.toList → M (.ref a)) : M v := d.inv (M := M) h
theorem DV.matI {xs : List MV} (d : DV w F as (.mat xs) v) {M : Value → Prop} (h : ∀ a o vs, F a = some o → isMat o vs → DVs w F [] xs vs.toList → M (.ref a)) : M v := d.inv (M := M) h
theorem DV.listI {xs : List MV} (d : DV w F as (.list xs) v) {M : Value → Prop} (h : ∀ a o vs, F a = some o → isSeq (.type "list") o vs → DVs w F [] xs vs.toList → M (.ref a)) : M v := d.inv (M := M) h
theorem DV.idictI {f : Int → Option Int} (d : DV w F as (.idict f) v) {M : Value → Prop} (h : ∀ g a o n, F a = some o → isDict (intKind pw w) o g n → (∀ k, OInt (f k) (g k)) → M (.ref a)) : M v := d.inv (M := M) h
theorem DV.sdictI {f : Str → Option (List Int)} (d : DV w F as (.sdict f) v) {M : Value → Prop}
    (h : ∀ g a o n, F a = some o → isDict (strKind pw w) o g n → (∀ k, match f k with | some is => ∃ v, g k = some v ∧ IntsAt F is v | Option.none => g k = Option.none) → M (.ref a)) : M v := d.inv (M := M) h
theorem DV.set0I (d : DV w F as .set0 v) {M : Value → Prop} (h : ∀ a o, F a = some o → isSet0 o → M (.ref a)) : M v := d.inv (M := M) h
theorem DV.genI {g : Nat} (d : DV w F as (.gen g) v) {M : Value → Prop} (h : ∀ a o, F a = some o → isGen o g → M (.ref a)) : M v := d.inv (M := M) h
theorem DV.bmI {id : String} {m : MV} (d : DV w F as (.bm id m) v) {M : Value → Prop} (h : ∀ v a o, F a = some o → isBM o id v → DV w F as m v → M (.ref a)) : M v := d.inv (M := M) h
theorem DVs.nilI {us : List Value} (d : DVs w F as [] us) {M : List Value → Prop} (h : M []) : M us := by cases d; exact h
theorem DVs.consI {m : MV} {ms : List MV} {us : List Value} (d : DVs w F as (m :: ms) us) {M : List Value → Prop} (h : ∀ v vs, DV w F as m v → DVs w F as ms vs → M (v :: vs)) : M us := by cases d with | cons a b => exact h _ _ a b
theorem DVs.oneI {m : MV} {us : List Value} (d : DVs w F as [m] us) {M : List Value → Prop} (h : ∀ v, DV w F as m v → M [v]) : M us := d.consI fun _ _ a b => b.nilI (M := fun x => M (_ :: x)) (h _ a)
theorem DVs.twoI {m1 m2 : MV} {us : List Value} (d : DVs w F as [m1, m2] us) {M : List Value → Prop} (h : ∀ v1 v2, DV w F as m1 v1 → DV w F as m2 v2 → M [v1, v2]) : M us := d.consI fun _ _ a b => b.oneI (M := fun x => M (_ :: x)) fun _ b => h _ _ a b
theorem DVs.threeI {m1 m2 m3 : MV} {us : List Value} (d : DVs w F as [m1, m2, m3] us) {M : List Value → Prop} (h : ∀ v1 v2 v3, DV w F as m1 v1 → DV w F as m2 v2 → DV w F as m3 v3 → M [v1, v2, v3]) : M us :=
  d.consI fun _ _ a b => b.twoI (M := fun x => M (_ :: x)) fun _ _ b c => h _ _ _ a b c
theorem DVs.fourI {m1 m2 m3 m4 : MV} {us : List Value} (d : DVs w F as [m1, m2, m3, m4] us) {M : List Value → Prop} (h : ∀ v1 v2 v3 v4, DV w F as m1 v1 → DV w F as m2 v2 → DV w F as m3 v3 → DV w F as m4 v4 → M [v1, v2, v3, v4]) : M us :=
  d.consI fun _ _ a b => b.threeI (M := fun x => M (_ :: x)) fun _ _ _ b c e => h _ _ _ _ a b c e
end
/-- no cell -/
noncomputable def MV.nc : MV → Bool
  | .cell _ => false
  | .bm _ m => m.nc
  | _ => true

noncomputable def asLe (as as' : List Addr) : Prop := ∀ (k : Nat) (a : Addr), as[k]? = some a → as'[k]? = some a
theorem asLe.refl (as : List Addr) : asLe as as := fun _ _ e => e
theorem asLe.app (as bs : List Addr) : asLe as (as ++ bs) := fun k a e => by
  rw [List.getElem?_append_left (List.getElem?_eq_some_iff.mp e).1]; exact e

section
variable {w : World} {F F' : PH} {as as' : List Addr}
theorem IntsAt.mono (h : PH.le F F') {is v} (x : IntsAt F is v) : IntsAt F' is v := by
  obtain ⟨a, b, c⟩ := x; exact .mk (h _ _ a) b c
theorem asLe.nil (as : List Addr) : asLe [] as := fun _ _ e => by simp at e
theorem sd_mono (h : PH.le F F') {f : Str → Option (List Int)} {g : Str → Option Value} {k : Str} (z : match f k with | some is => ∃ v, g k = some v ∧ IntsAt F is v | Option.none => g k = Option.none) :
    match f k with | some is => ∃ v, g k = some v ∧ IntsAt F' is v | Option.none => g k = Option.none := by
  cases q : f k with
  | none => rw [q] at z; exact z
  | some is => rw [q] at z; obtain ⟨v, e, i⟩ := z; exact ⟨v, e, i.mono h⟩
theorem DV.mono (h : PH.le F F') {m : MV} {v : Value} (d : DV w F as m v) : asLe as as' → DV w F' as' m v :=
  DV.rec (motive_1 := fun as m v _ => ∀ as', asLe as as' → DV w F' as' m v) (motive_2 := fun as m v _ => ∀ as', asLe as as' → DVs w F' as' m v)
    (fun v _ _ => .junk v) (fun _ _ => .none) (fun b _ _ => .bool b) (fun i t _ _ => .int i t) (fun x t _ _ => .str x t) (fun v _ _ => .val v) (fun e _ ha => .cell (ha _ _ e))
    (fun a b _ r _ _ => .tup (h _ _ a) b (r _ (asLe.refl _))) (fun a b _ r _ _ => .mat (h _ _ a) b (r _ (asLe.refl _))) (fun a b _ r _ _ => .list (h _ _ a) b (r _ (asLe.refl _)))
    (fun a b c _ _ => .idict (h _ _ a) b c) (fun a b c _ _ => .sdict (h _ _ a) b fun k => sd_mono h (c k)) (fun a b _ _ => .set0 (h _ _ a) b) (fun a b _ _ => .gen (h _ _ a) b)
    (fun a b _ r _ ha => .bm (h _ _ a) b (r _ ha)) (fun _ _ => .nil) (fun _ _ x y _ ha => .cons (x _ ha) (y _ ha)) d as'
theorem DVs.mono (h : PH.le F F') {ms : List MV} {us : List Value} (d : DVs w F as ms us) (ha : asLe as as') : DVs w F' as' ms us := by
  induction ms generalizing us with
  | nil => apply d.nilI; exact .nil
  | cons m ms ih => apply d.consI; intro v vs a b; exact .cons (a.mono h ha) (ih b)
theorem DV.any {m : MV} {v : Value} (as' : List Addr) (h : DV w F [] m v) : DV w F as' m v := h.mono (PH.le.refl _) (asLe.nil _)
theorem DV.pure {m : MV} {v : Value} (h : DV w F as m v) : m.nc = true → DV w F [] m v :=
  DV.rec (motive_1 := fun as m v _ => m.nc = true → DV w F [] m v) (motive_2 := fun _ _ _ _ => True)
    (fun v _ => .junk v) (fun _ => .none) (fun b _ => .bool b) (fun i t _ => .int i t) (fun x t _ => .str x t) (fun v _ => .val v) (fun e hc => Bool.noConfusion hc)
    (fun a b c _ _ => .tup a b c) (fun a b c _ _ => .mat a b c) (fun a b c _ _ => .list a b c) (fun a b c _ => .idict a b c) (fun a b c _ => .sdict a b c) (fun a b _ => .set0 a b) (fun a b _ => .gen a b)
    (fun a b _ r hc => .bm a b (r hc)) trivial (fun _ _ _ _ => trivial) h
theorem DVs.pure {ms : List MV} {vs : List Value} (h : DVs w F as ms vs) (hc : ms.all MV.nc = true) : DVs w F [] ms vs := by
  induction ms generalizing vs with
  | nil => apply h.nilI; exact .nil
  | cons m ms ih =>
    have hc := (Bool.and_eq_true_iff.mp hc)
    apply h.consI; intro v vs a b; exact .cons (a.pure hc.1) (ih b hc.2)
theorem DVs.length {xs : List MV} {vs : List Value} (d : DVs w F as xs vs) : xs.length = vs.length := by
  induction xs generalizing vs with
  | nil => apply d.nilI; rfl
  | cons m ms ih => apply d.consI; intro v vs a b; exact congrArg (· + 1) (ih b)
theorem DVs.get {xs : List MV} {vs : List Value} (d : DVs w F as xs vs) {i : Nat} {x : MV} (e : xs[i]? = some x) : ∃ v, vs[i]? = some v ∧ DV w F as x v := by
  induction xs generalizing vs i with
  | nil => exact nomatch e
  | cons m ms ih =>
    apply d.consI; intro v vs a b
    match i, e with
    | 0, e => exact ⟨v, rfl, Option.some.inj e ▸ a⟩
    | i + 1, e => exact ih b e
theorem DVs.append {xs ys : List MV} {vs us : List Value} (d : DVs w F as xs vs) (y : DVs w F as ys us) : DVs w F as (xs ++ ys) (vs ++ us) := by
  induction xs generalizing vs with
  | nil => apply d.nilI; exact y
  | cons m ms ih => apply d.consI; intro v vs a b; exact .cons a (ih b)
theorem DVs.drop {xs : List MV} {vs : List Value} (n : Nat) (d : DVs w F as xs vs) : DVs w F as (xs.drop n) (vs.drop n) := by
  induction xs generalizing vs n with
  | nil => apply d.nilI; cases n <;> exact .nil
  | cons m ms ih =>
    apply d.consI; intro v vs a b
    cases n with
    | zero => exact .cons a b
    | succ n => exact ih n b
theorem DVs.take {xs : List MV} {vs : List Value} (n : Nat) (d : DVs w F as xs vs) : DVs w F as (xs.take n) (vs.take n) := by
  induction xs generalizing vs n with
  | nil => apply d.nilI; cases n <;> exact .nil
  | cons m ms ih =>
    apply d.consI; intro v vs a b
    cases n with
    | zero => exact .nil
    | succ n => exact .cons a (ih n b)
end
end Mine
open PySem PySem.W PySem.W.X PyProof.Rows
namespace Mine
set_option Elab.async false
set_option linter.unusedVariables false

inductive At (x : Str) (mv : MV) : List Str → List MV → Prop
  | here {xs vs} : At x mv (x :: xs) (mv :: vs)
  | there {y xs v vs} : At x mv xs vs → At x mv (y :: xs) (v :: vs)
inductive Put (x : Str) (mv : MV) : List Str → List MV → List MV → Prop
  | here {xs v vs} : Put x mv (x :: xs) (v :: vs) (mv :: vs)
  | there {y xs v vs vs'} : Put x mv xs vs vs' → Put x mv (y :: xs) (v :: vs) (v :: vs')
theorem At.mem {x mv xs vs} (h : At x mv xs vs) : x ∈ xs := by
  induction h with
  | here => exact .head _
  | there _ ih => exact .tail _ ih
theorem Put.mem {x mv xs vs vs'} (h : Put x mv xs vs vs') : x ∈ xs := by
  induction h with
  | here => exact .head _
  | there _ ih => exact .tail _ ih
theorem Put.at {x mv xs vs vs'} (h : Put x mv xs vs vs') : xs.Nodup → ∀ {y u}, At y u xs vs' → (y = x ∧ u = mv) ∨ (y ≠ x ∧ At y u xs vs) := by
  induction h with
  | here =>
    intro nd y u h
    cases h with
    | here => exact .inl ⟨rfl, rfl⟩
    | there h => exact .inr ⟨fun e => (List.nodup_cons.mp nd).1 (e ▸ h.mem), .there h⟩
  | there p ih =>
    intro nd y u h
    cases h with
    | here => exact .inr ⟨fun e => (List.nodup_cons.mp nd).1 (e ▸ p.mem), .here⟩
    | there h =>
      rcases ih (List.nodup_cons.mp nd).2 h with e | ⟨e, h⟩
      · exact .inl e
      · exact .inr ⟨e, .there h⟩
theorem At.app {x mv xs vs ys us} (h : At x mv (xs ++ ys) (vs ++ us)) (hl : xs.length = vs.length) : At x mv xs vs ∨ At x mv ys us := by
  induction xs generalizing vs with
  | nil => cases vs with
    | nil => exact .inr h
    | cons => cases hl
  | cons a r ih => cases vs with
    | nil => cases hl
    | cons b t =>
      cases h with
      | here => exact .inl .here
      | there h => rcases ih h (Nat.succ.inj hl) with h | h
                   · exact .inl (.there h)
                   · exact .inr h

/-- what changes -/
inductive Cell where
  | list (xs : List MV)
  | idict (f : Int → Option Int) (n : Nat)
  | inst (names : List Str) (vals : List MV)
  | bj (f : Str → Option (List Int)) (n : Nat) (pin : Option (Str × Addr))
  | dead
structure CellAt where
  a : Addr
  more : List Addr
  c : Cell
noncomputable def CellAt.foot (x : CellAt) : List Addr := match x.c with | .dead => [] | _ => x.a :: x.more
noncomputable def foots (cs : List CellAt) : List Addr := cs.flatMap CellAt.foot
noncomputable def adrs (cs : List CellAt) : List Addr := cs.map (·.a)
/-- the class SequenceMatcher -/
noncomputable def smC : Addr := 242

noncomputable def FrameR (w : World) (F : PH) (as : List Addr) (xs : List Str) (vs : List MV) (m : Str → Option Value) : Prop :=
  ∀ x mv, At x mv xs vs → mv ≠ .unb → ∃ v, m x = some v ∧ DV w F as mv v
/-- the inner lists of the index that set_seq2 builds -/
noncomputable def BjR (f : Str → Option (List Int)) (g : Str → Option Value) (h : Heap) (more : List Addr) : Prop :=
  (∀ k, f k = none → g k = none) ∧
  (∀ k is, f k = some is → ∃ b o vs, g k = some (.ref b) ∧ b ∈ more ∧ h.get? b = some o ∧ isSeq (.type "list") o vs ∧ IntsAre vs.toList is) ∧
  (∀ k k' b, g k = some (.ref b) → g k' = some (.ref b) → k = k')
noncomputable def CellR (w : World) (F : PH) (as : List Addr) (h : Heap) (x : CellAt) : Prop := match x.c with
  | .list xs => x.more = [] ∧ ∃ o vs, h.get? x.a = some o ∧ isSeq (.type "list") o vs ∧ DVs w F [] xs vs.toList
  | .idict f n => x.more = [] ∧ ∃ o g, h.get? x.a = some o ∧ isDict (intKind pw w) o g n ∧ ∀ k, OInt (f k) (g k)
  | .inst xs vs => ∃ mA d o, x.more = [d] ∧ h.get? x.a = some o ∧ o.dict = some d ∧ h.Inst x.a smC mA ∧ FrameR w F as xs vs mA ∧ (∀ y, y ∉ xs → mA y = none) ∧ MV.unb ∉ vs
  | .bj f n pin => ∃ o g, h.get? x.a = some o ∧ isDict (strKind pw w) o g n ∧ BjR f g h x.more ∧ ∀ y b, pin = some (y, b) → g y = some (.ref b)
  | .dead => True

/-- all stands -/
noncomputable def Keep (h h' : Heap) : Prop := ∀ b o, h.get? b = some o → h'.get? b = some o
structure Kp where
  B : PH
  G : Nat → Option GenState
  o : OsState
theorem Kp.eq {B B' : PH} {G G' : Nat → Option GenState} {o : OsState} (h1 : B = B') (h2 : G = G') : Kp.mk B G o = Kp.mk B' G' o := h1 ▸ h2 ▸ rfl
noncomputable def GOk (G : Nat → Option GenState) (g : Array GenState) : Prop := (∀ (i : Nat) x, G i = some x → g[i]? = some x) ∧ ∀ x ∈ g, x.bare = true

noncomputable def Topmost (w : World) (F : PH) : Prop := ∀ a o, at6 w.params a = some o → F a = some o

/-- the state: F is frozen, K.B is kept, cs are the cells -/
structure SF (w : World) (K : Kp) (F : PH) (cs : List CellAt) (s : Shared) : Prop where
  fz : PH.le F s.heap.get?
  kp : PH.le K.B s.heap.get?
  cl : ∀ x ∈ cs, CellR w F (adrs cs) s.heap x
  nd : (foots cs).Nodup
  ap : ∀ a ∈ foots cs, F a = none ∧ K.B a = none ∧ ∃ o, s.heap.get? a = some o
  fb : ∀ a o, F a = some o → K.B a = none
  top : Topmost w F
  gens : GOk K.G s.gens
  os : s.os = K.o

structure St (w : World) (K : Kp) (F : PH) (cs : List CellAt) (L : Addr) (xs : List Str) (vs : List MV) (s : Shared) : Prop extends SF w K F cs s where
  ns : ∃ m, s.heap.Ns L m ∧ FrameR w F (adrs cs) xs vs m
  lf : L ∉ foots cs
  lF : F L = none
  lB : K.B L = none

section
variable {w : World} {K : Kp} {F F' : PH} {cs : List CellAt} {L : Addr} {xs : List Str} {vs : List MV} {s : Shared}
theorem FrameR.mono {as as' : List Addr} {m} (hF : PH.le F F') (ha : asLe as as') (h : FrameR w F as xs vs m) : FrameR w F' as' xs vs m := fun x mv a n =>
  let ⟨v, e, d⟩ := h x mv a n; ⟨v, e, d.mono hF ha⟩
theorem mem_foots {cs : List CellAt} {x : CellAt} {b : Addr} (hx : x ∈ cs) (hb : b ∈ x.foot) : b ∈ foots cs := List.mem_flatMap.mpr ⟨x, hx, hb⟩
/-- a cell hangs on its own objects alone -/
theorem CellR.mono {as as' : List Addr} {h h' : Heap} {x : CellAt} (hF : PH.le F F') (ha : asLe as as') (hk : ∀ b ∈ x.foot, ∀ o, h.get? b = some o → h'.get? b = some o) (r : CellR w F as h x) : CellR w F' as' h' x := by
  obtain ⟨a, more, c⟩ := x
  cases c with
  | list ys =>
    obtain ⟨e, o, us, g, i, d⟩ := r
    exact ⟨e, o, us, hk a (.head _) _ g, i, d.mono hF (asLe.refl _)⟩
  | idict f n =>
    obtain ⟨e, o, g, x1, x2, x3⟩ := r
    exact ⟨e, o, g, hk a (.head _) _ x1, x2, x3⟩
  | inst ns us =>
    obtain ⟨mA, d, o, e, x1, x2, x3, x4, x5, x6⟩ := r
    have e : more = [d] := e
    refine ⟨mA, d, o, e, hk a (.head _) _ x1, x2, ?_, x4.mono hF ha, x5, x6⟩
    obtain ⟨o', y1, y2, y3, y4⟩ := x3
    have : o' = o := by rw [x1] at y1; cases y1; rfl
    subst this
    refine ⟨o', hk a (.head _) _ y1, y2, y3, ?_⟩
    rcases y4 with y4 | ⟨d', z1, z2, z3⟩
    · exact .inl y4
    · have hd : d' = d := by rw [x2] at z1; cases z1; rfl
      subst hd
      exact .inr ⟨d', z1, z2, z3.at (hk d' (by show d' ∈ a :: more; rw [e]; exact .tail _ (.head _)))⟩
  | bj f n pin =>
    obtain ⟨o, g, x1, x2, ⟨y1, y2, y3⟩, x3⟩ := r
    refine ⟨o, g, hk a (.head _) _ x1, x2, ⟨y1, fun k is e => ?_, y3⟩, x3⟩
    obtain ⟨b, ob, ub, z1, z2, z3, z4⟩ := y2 k is e
    exact ⟨b, ob, ub, z1, z2, hk b (.tail _ z2) _ z3, z4⟩
  | dead => trivial
theorem keep_of_extBut {h h' : Heap} {g : Addr} (hg : h.objs.size ≤ g) (e : Heap.ExtBut g h h') : Keep h h' := fun b o x => e b o (Nat.ne_of_lt (Nat.lt_of_lt_of_le (Heap.lt_size x) hg)) x
theorem Keep.refl (h : Heap) : Keep h h := fun _ _ e => e
theorem Keep.trans {h h' h'' : Heap} (x : Keep h h') (y : Keep h' h'') : Keep h h'' := fun b o e => y b o (x b o e)
theorem Keep.push (h : Heap) (o : Obj) : Keep h (h.push o) := fun _ _ e => Heap.get?_push_of_some o e
theorem get_of_ge {h : Heap} {a : Addr} (ha : h.objs.size ≤ a) : h.get? a = none := by
  cases e : h.get? a with
  | none => rfl
  | some o => exact absurd (Heap.lt_size e) (Nat.not_lt.mpr ha)
/-- another heap: all that we speak of stands -/
theorem SF.move {s' : Shared} (h : SF w K F cs s) (hF : PH.le F s'.heap.get?) (hB : PH.le K.B s'.heap.get?)
    (hc : ∀ a ∈ foots cs, ∀ o, s.heap.get? a = some o → s'.heap.get? a = some o) (hg : s'.gens = s.gens) (ho : s'.os = s.os) : SF w K F cs s' where
  fz := hF
  kp := hB
  cl := fun x hx => (h.cl x hx).mono (PH.le.refl _) (asLe.refl _) fun b hb => hc b (mem_foots hx hb)
  nd := h.nd
  ap := fun a ha => let ⟨x, y, o, e⟩ := h.ap a ha; ⟨x, y, o, hc a ha o e⟩
  fb := h.fb
  top := h.top
  gens := hg ▸ h.gens
  os := ho.trans h.os
/-- everything that stood stands; what is new is nobody's -/
theorem SF.ext {s' : Shared} (h : SF w K F cs s) (hk : Keep s.heap s'.heap) (hg : s'.gens = s.gens) (ho : s'.os = s.os) : SF w K F cs s' :=
  h.move (fun a o e => hk a o (h.fz a o e)) (fun a o e => hk a o (h.kp a o e)) (fun a _ o e => hk a o e) hg ho
/-- a new frozen object -/
theorem SF.grow {a : Addr} {o : Obj} (h : SF w K F cs s) (hn : F a = none) (hb : K.B a = none) (hc : a ∉ foots cs) (ho : s.heap.get? a = some o) : SF w K (F.ins a o) cs s where
  fz := fun b x e => by
    unfold PH.ins at e
    by_cases q : b = a
    · subst q; rw [if_pos rfl] at e; cases e; exact ho
    · rw [if_neg q] at e; exact h.fz b x e
  kp := h.kp
  cl := fun x hx => (h.cl x hx).mono (PH.le_ins hn) (asLe.refl _) fun _ _ _ e => e
  nd := h.nd
  ap := fun b hb' => ⟨by rw [PH.ins_ne (show b ≠ a from fun e => hc (e ▸ hb'))]; exact (h.ap b hb').1, (h.ap b hb').2⟩
  fb := fun b x e => by
    unfold PH.ins at e
    by_cases q : b = a
    · rw [q]; exact hb
    · rw [if_neg q] at e; exact h.fb b x e
  top := fun b x e => PH.le_ins hn b x (h.top b x e)
  gens := h.gens
  os := h.os
theorem SF.fresh (h : SF w K F cs s) {a : Addr} (ha : s.heap.get? a = none) : F a = none ∧ K.B a = none ∧ a ∉ foots cs := by
  refine ⟨?_, ?_, fun hm => ?_⟩
  · cases e : F a with
    | none => rfl
    | some o => have := h.fz a o e; rw [ha] at this; cases this
  · cases e : K.B a with
    | none => rfl
    | some o => have := h.kp a o e; rw [ha] at this; cases this
  · obtain ⟨_, _, o, e⟩ := h.ap a hm
    rw [ha] at e; cases e
theorem foots_app (cs ds : List CellAt) : foots (cs ++ ds) = foots cs ++ foots ds := List.flatMap_append
theorem adrs_app (cs ds : List CellAt) : adrs (cs ++ ds) = adrs cs ++ adrs ds := List.map_append
theorem foots_one (x : CellAt) : foots [x] = x.foot := by simp [foots]
/-- a new cell, behind the others -/
theorem SF.newCell {x : CellAt} (h : SF w K F cs s) (hx : x.foot.Nodup) (hf : ∀ a ∈ x.foot, F a = none ∧ K.B a = none ∧ a ∉ foots cs ∧ ∃ o, s.heap.get? a = some o) (hr : CellR w F (adrs (cs ++ [x])) s.heap x) : SF w K F (cs ++ [x]) s where
  fz := h.fz
  kp := h.kp
  cl := fun y hy => by
    rcases List.mem_append.mp hy with hy | hy
    · rw [adrs_app]; exact (h.cl y hy).mono (PH.le.refl _) (asLe.app _ _) fun _ _ _ e => e
    · rw [List.mem_singleton.mp hy]; exact hr
  nd := by
    rw [foots_app, List.nodup_append, foots_one]
    exact ⟨h.nd, hx, fun a ha b hb e => (hf b hb).2.2.1 (e ▸ ha)⟩
  ap := fun a ha => by
    rw [foots_app, foots_one] at ha
    rcases List.mem_append.mp ha with ha | ha
    · exact h.ap a ha
    · have := hf a ha; exact ⟨this.1, this.2.1, this.2.2.2⟩
  fb := h.fb
  top := h.top
  gens := h.gens
  os := h.os
/-- the k-th cell changed at its own objects -/
theorem SF.setCell {x y : CellAt} {k : Nat} {s' : Shared} (h : SF w K F cs s) (hx : cs[k]? = some x) (hy : y.foot = x.foot) (hya : y.a = x.a)
    (hk : ∀ b o, b ∉ x.foot → s.heap.get? b = some o → s'.heap.get? b = some o) (hal : ∀ b ∈ x.foot, ∃ o, s'.heap.get? b = some o) (hr : CellR w F (adrs cs) s'.heap y) (hg : s'.gens = s.gens) (ho : s'.os = s.os) : SF w K F (cs.set k y) s' := by
  obtain ⟨hkl, hke⟩ := List.getElem?_eq_some_iff.mp hx
  have hxm : x ∈ cs := hke ▸ List.getElem_mem hkl
  have hsplit : cs = cs.take k ++ x :: cs.drop (k + 1) := by rw [← hke, ← List.drop_eq_getElem_cons hkl, List.take_append_drop]
  have hset : cs.set k y = cs.take k ++ y :: cs.drop (k + 1) := (List.set_eq_take_append_cons_drop ..).trans (if_pos hkl)
  have hfe : foots (cs.set k y) = foots cs := by
    rw [hset]; conv => rhs; rw [hsplit]
    simp only [foots, List.flatMap_append, List.flatMap_cons, hy]
  have hae : adrs (cs.set k y) = adrs cs := by
    rw [hset]; conv => rhs; rw [hsplit]
    simp only [adrs, List.map_append, List.map_cons, hya]
  have hnd := h.nd
  have hsep : ∀ z ∈ cs.take k ++ cs.drop (k + 1), ∀ b ∈ z.foot, b ∉ x.foot := by
    intro z hz b hb hbx
    rw [hsplit, foots_app] at hnd
    have e2 : foots (x :: cs.drop (k + 1)) = x.foot ++ foots (cs.drop (k + 1)) := List.flatMap_cons
    rw [e2] at hnd
    obtain ⟨_, n2, n3⟩ := List.nodup_append.mp hnd
    obtain ⟨_, _, n5⟩ := List.nodup_append.mp n2
    rcases List.mem_append.mp hz with hz | hz
    · exact n3 b (mem_foots hz hb) b (List.mem_append_left _ hbx) rfl
    · exact n5 b hbx b (mem_foots hz hb) rfl
  refine ⟨fun b o e => hk b o (fun hm => ?_) (h.fz b o e), fun b o e => hk b o (fun hm => ?_) (h.kp b o e), fun z hz => ?_, by rw [hfe]; exact h.nd, fun b hb => ?_, h.fb, h.top, hg ▸ h.gens, ho.trans h.os⟩
  · rw [(h.ap b (mem_foots hxm hm)).1] at e; cases e
  · rw [(h.ap b (mem_foots hxm hm)).2.1] at e; cases e
  · rw [hae]
    rw [hset] at hz
    rcases List.mem_append.mp hz with hz | hz
    · have hm : z ∈ cs := by rw [hsplit]; exact List.mem_append_left _ hz
      exact (h.cl z hm).mono (PH.le.refl _) (asLe.refl _) fun b hb o e => hk b o (hsep z (List.mem_append_left _ hz) b hb) e
    · rcases List.mem_cons.mp hz with rfl | hz
      · exact hr
      · have hm : z ∈ cs := by rw [hsplit]; exact List.mem_append_right _ (.tail _ hz)
        exact (h.cl z hm).mono (PH.le.refl _) (asLe.refl _) fun b hb o e => hk b o (hsep z (List.mem_append_right _ hz) b hb) e
  · rw [hfe] at hb
    obtain ⟨p1, p2, o, e⟩ := h.ap b hb
    refine ⟨p1, p2, ?_⟩
    by_cases hm : b ∈ x.foot
    · exact hal b hm
    · exact ⟨o, hk b o hm e⟩

theorem St.ext {s' : Shared} (h : St w K F cs L xs vs s) (hk : Keep s.heap s'.heap) (hg : s'.gens = s.gens) (ho : s'.os = s.os) : St w K F cs L xs vs s' where
  toSF := h.toSF.ext hk hg ho
  ns := let ⟨m, n, q⟩ := h.ns; ⟨m, n.keeps hk, q⟩
  lf := h.lf
  lF := h.lF
  lB := h.lB
/-- tokens alone -/
theorem St.toks (h : St w K F cs L xs vs s) (t : Nat) : St w K F cs L xs vs { s with toks := t } := h.ext (Keep.refl _) rfl rfl
theorem St.push (h : St w K F cs L xs vs s) (o : Obj) (t : Nat) : St w K F cs L xs vs { s with heap := s.heap.push o, toks := t } := h.ext (Keep.push _ _) rfl rfl
theorem St.grow {a : Addr} {o : Obj} (h : St w K F cs L xs vs s) (hn : F a = none) (hb : K.B a = none) (hc : a ∉ foots cs) (hL : a ≠ L) (ho : s.heap.get? a = some o) : St w K (F.ins a o) cs L xs vs s where
  toSF := h.toSF.grow hn hb hc ho
  ns := let ⟨m, n, q⟩ := h.ns; ⟨m, n, q.mono (PH.le_ins hn) (asLe.refl _)⟩
  lf := h.lf
  lF := by rw [PH.ins_ne (Ne.symm hL)]; exact h.lF
  lB := h.lB
theorem St.alive (h : St w K F cs L xs vs s) : ∃ o, s.heap.get? L = some o := let ⟨_, ⟨o, _, _, e, _⟩, _⟩ := h.ns; ⟨o, e⟩
/-- a new object, frozen -/
theorem St.frozen {s' : Shared} {a : Addr} {o : Obj} (h : St w K F cs L xs vs s) (ha : s.heap.get? a = none) (ho : s'.heap.get? a = some o) (hk : Keep s.heap s'.heap) (hg : s'.gens = s.gens) (hos : s'.os = s.os) :
    St w K (F.ins a o) cs L xs vs s' ∧ PH.le F (F.ins a o) := by
  obtain ⟨x1, x2, x3⟩ := h.toSF.fresh ha
  refine ⟨(h.ext hk hg hos).grow x1 x2 x3 (fun e => ?_) ho, PH.le_ins x1⟩
  subst e
  obtain ⟨o', e'⟩ := h.alive
  rw [ha] at e'; cases e'
theorem St.frozenPush (h : St w K F cs L xs vs s) (o : Obj) (t : Nat) (hf : o.isFreed = false) :
    St w K (F.ins s.heap.objs.size o) cs L xs vs { s with heap := s.heap.push o, toks := t } ∧ PH.le F (F.ins s.heap.objs.size o) :=
  h.frozen (get_of_ge (Nat.le_refl _)) (Heap.get?_push_size _ hf) (Keep.push _ _) rfl rfl
/-- a name is bound -/
theorem St.store {h' : Heap} {x : Str} {mv : MV} {v : Value} {vs' : List MV} {t : Nat} {m : Str → Option Value} (h : St w K F cs L xs vs s) (hn : s.heap.Ns L m) (hm : FrameR w F (adrs cs) xs vs m) (hnd : xs.Nodup) (hp : Put x mv xs vs vs') (hv : DV w F (adrs cs) mv v)
    (hn' : h'.Ns L (fun y => if y = x then some v else m y)) (hs : Heap.SameBut L s.heap h') : St w K F cs L xs vs' { s with heap := h', toks := t } where
  toSF := h.toSF.move (fun a o e => (hs.2 a (fun q => by rw [q, h.lF] at e; cases e)).trans (h.fz a o e)) (fun a o e => (hs.2 a (fun q => by rw [q, h.lB] at e; cases e)).trans (h.kp a o e))
    (fun a ha o e => (hs.2 a (fun q => h.lf (q ▸ ha))).trans e) rfl rfl
  ns := ⟨_, hn', fun y u hy hu => by
    rcases hp.at hnd hy with ⟨rfl, rfl⟩ | ⟨hne, hy⟩
    · exact ⟨v, if_pos rfl, hv⟩
    · obtain ⟨v', e, d⟩ := hm y u hy hu
      exact ⟨v', by rw [if_neg hne]; exact e, d⟩⟩
  lf := h.lf
  lF := h.lF
  lB := h.lB

/-- an address that is nobody's -/
structure Free (K : Kp) (F : PH) (cs : List CellAt) (L g : Addr) : Prop where
  f : F g = none
  b : K.B g = none
  c : g ∉ foots cs
  l : g ≠ L
theorem St.free (h : St w K F cs L xs vs s) {b : Addr} (hb : s.heap.get? b = none) : Free K F cs L b := by
  obtain ⟨x1, x2, x3⟩ := h.toSF.fresh hb
  refine ⟨x1, x2, x3, fun e => ?_⟩
  subst e
  obtain ⟨o, e⟩ := h.alive
  rw [hb] at e; cases e
noncomputable def Kp.hold (K : Kp) (b : Addr) (o : Obj) : Kp := { K with B := fun a => if a = b then some o else K.B a }
/-- an object held through what comes -/
theorem St.hold {b : Addr} {o : Obj} (h : St w K F cs L xs vs s) (f : Free K F cs L b) (e : s.heap.get? b = some o) : St w (K.hold b o) F cs L xs vs s where
  fz := h.fz
  kp := fun a x q => by
    unfold Kp.hold at q
    dsimp only at q
    by_cases z : a = b
    · subst z; rw [if_pos rfl] at q; cases q; exact e
    · rw [if_neg z] at q; exact h.kp a x q
  cl := h.cl
  nd := h.nd
  ap := fun a ha => ⟨(h.ap a ha).1, (if_neg (show ¬ a = b from fun z => f.c (z ▸ ha))).trans (h.ap a ha).2.1, (h.ap a ha).2.2⟩
  fb := fun a x q => (if_neg (show ¬ a = b from fun z => by rw [z, f.f] at q; cases q)).trans (h.fb a x q)
  top := h.top
  gens := h.gens
  os := h.os
  ns := h.ns
  lf := h.lf
  lF := h.lF
  lB := (if_neg (show ¬ L = b from fun z => f.l z.symm)).trans h.lB
theorem St.unhold {b : Addr} {o : Obj} (h : St w (K.hold b o) F cs L xs vs s) (hb : K.B b = none) : St w K F cs L xs vs s ∧ Free K F cs L b ∧ s.heap.get? b = some o := by
  have hself : (K.hold b o).B b = some o := if_pos rfl
  refine ⟨⟨⟨h.fz, fun a x q => ?_, h.cl, h.nd, fun a ha => ⟨(h.ap a ha).1, ?_, (h.ap a ha).2.2⟩, fun a x q => ?_, h.top, h.gens, h.os⟩, h.ns, h.lf, h.lF, ?_⟩, ⟨?_, hb, fun hm => ?_, fun e => ?_⟩, h.kp b o hself⟩
  · exact h.kp a x ((if_neg (show ¬ a = b from fun z => by rw [z, hb] at q; cases q)).trans q)
  · have := (h.ap a ha).2.1
    by_cases z : a = b
    · rw [z]; exact hb
    · exact (if_neg z).symm.trans this
  · have := h.fb a x q
    by_cases z : a = b
    · rw [z]; exact hb
    · exact (if_neg z).symm.trans this
  · have := h.lB
    by_cases z : L = b
    · rw [z]; exact hb
    · exact (if_neg z).symm.trans this
  · cases q : F b with
    | none => rfl
    | some x => have := h.fb b x q; rw [hself] at this; cases this
  · have := (h.ap b hm).2.1; rw [hself] at this; cases this
  · have := h.lB; rw [← e, hself] at this; cases this
/-- an object that is nobody's is changed -/
theorem St.sameBut {b : Addr} {h' : Heap} {t : Nat} (h : St w K F cs L xs vs s) (f : Free K F cs L b) (hs : ∀ a o, a ≠ b → s.heap.get? a = some o → h'.get? a = some o) : St w K F cs L xs vs { s with heap := h', toks := t } where
  toSF := h.toSF.move (fun a o e => hs a o (fun q => by rw [q, f.f] at e; cases e) (h.fz a o e)) (fun a o e => hs a o (fun q => by rw [q, f.b] at e; cases e) (h.kp a o e))
    (fun a ha o e => hs a o (fun q => f.c (q ▸ ha)) e) rfl rfl
  ns := by
    obtain ⟨m, ⟨o, es, ep, e, r⟩, q⟩ := h.ns
    exact ⟨m, ⟨o, es, ep, hs L o (Ne.symm f.l) e, r⟩, q⟩
  lf := h.lf
  lF := h.lF
  lB := h.lB
end
end Mine
open PySem PySem.W PySem.W.X PyProof.Rows
namespace Mine
set_option Elab.async false
set_option linter.unusedVariables false

noncomputable def NoE : Value → Shared → Prop := fun _ _ => False
structure Room (n : Nat) (A : Around) : Prop where
  handled : A.handled = none
  depth : A.depth + n ≤ recursionLimit
  units : A.units + 10 * n ≤ cLine
theorem Room.le {n m : Nat} {A : Around} (h : Room n A) (hm : m ≤ n) : Room m A := ⟨h.handled, by have := h.depth; lia, by have := h.units; lia⟩

/-- the frame of a def: its block, its names -/
structure Cx where
  w : World
  nm : Str
  sc : Scope
  L : Addr
  a : Addr
  cd : Value
  xs : List Str
  cl : List (Str × Addr)
noncomputable def Cx.env (c : Cx) : Env := { scope := c.sc, locals := c.L, globals := mainGlobals, cells := c.cl, qual := c.nm ++ ".<locals>.", func := some c.a, code := c.cd, frame := some c.L, builtins := builtinsNs }
structure CxOk (c : Cx) : Prop where
  kind : c.sc.kind = .function
  cor : c.sc.isCoroutine = false
  nd : c.xs.Nodup
  ndk : (c.sc.names.map (·.1)).Nodup

/-- the expression yields the value, and nothing else is seen to change -/
structure EV (c : Cx) (n : Nat) (cs : List CellAt) (vs : List MV) (e : Expr) (mv : MV) : Prop where
  go : ∀ (A : Around) (K : Kp) (F : PH) (s : Shared) (Q : Value → Shared → Prop), Room n A → St c.w K F cs c.L c.xs vs s →
    (∀ F' v s', PH.le F F' → St c.w K F' cs c.L c.xs vs s' → DV c.w F' (adrs cs) mv v → Q v s') → wpAny (model pw c.w) A (eval e c.env) Q NoE s
structure TV (c : Cx) (n : Nat) (cs : List CellAt) (vs : List MV) (e : Expr) (b : Bool) : Prop where
  go : ∀ (A : Around) (K : Kp) (F : PH) (s : Shared) (Q : Bool → Shared → Prop), Room n A → St c.w K F cs c.L c.xs vs s →
    (∀ F' s', PH.le F F' → St c.w K F' cs c.L c.xs vs s' → Q b s') → wpAny (model pw c.w) A (isTrue e c.env (eval e c.env)) Q NoE s

inductive Fl where
  | next | brk | cont
  | ret (m : MV)
inductive FlR (w : World) (F : PH) (as : List Addr) : Fl → Flow → Prop
  | next : FlR w F as .next .next
  | brk : FlR w F as .brk .brk
  | cont : FlR w F as .cont .cont
  | ret {m v} : DV w F as m v → FlR w F as (.ret m) (.ret v)
/-- statements: what holds behind them -/
structure EX (c : Cx) (n : Nat) (cs : List CellAt) (vs : List MV) (ss : List Stmt) (P : Fl → List CellAt → List MV → Prop) : Prop where
  go : ∀ (A : Around) (K : Kp) (F : PH) (s : Shared) (Q : Flow → Shared → Prop), Room n A → St c.w K F cs c.L c.xs vs s →
    (∀ F' f s' fl cs' vs', PH.le F F' → St c.w K F' cs' c.L c.xs vs' s' → FlR c.w F' (adrs cs') fl f → P fl cs' vs' → Q f s') → wpAny (model pw c.w) A (execs ss c.env) Q NoE s
structure EX1 (c : Cx) (n : Nat) (cs : List CellAt) (vs : List MV) (st : Stmt) (P : Fl → List CellAt → List MV → Prop) : Prop where
  go : ∀ (A : Around) (K : Kp) (F : PH) (s : Shared) (Q : Flow → Shared → Prop), Room n A → St c.w K F cs c.L c.xs vs s →
    (∀ F' f s' fl cs' vs', PH.le F F' → St c.w K F' cs' c.L c.xs vs' s' → FlR c.w F' (adrs cs') fl f → P fl cs' vs' → Q f s') → wpAny (model pw c.w) A (exec st c.env) Q NoE s

theorem lookup_mem2 {x : Str} {k : NameKind} : ∀ {l : List (Str × NameKind)}, (x, k) ∈ l → (l.map (·.1)).Nodup → l.lookup x = some k
  | (y, j) :: l, h, nd => by
    rw [List.lookup_cons]
    rcases List.mem_cons.mp h with h | h
    · cases h; rw [beq_self_eq_true]
    · have : x ≠ y := fun e => (List.nodup_cons.mp nd).1 (e ▸ List.mem_map_of_mem (f := (·.1)) h)
      rw [beq_false_of_ne this]
      exact lookup_mem2 h (List.nodup_cons.mp nd).2
theorem CxOk.kindOf {c : Cx} (ok : CxOk c) {x : Str} {k : NameKind} (h : (x, k) ∈ c.sc.names) : c.env.kindOf x = some k := lookup_mem2 h ok.ndk

section
variable {c : Cx} {n : Nat} {cs : List CellAt} {vs : List MV}

theorem EV.cint {i : Int} {k : Nat} {pos : Pos} : EV c n cs vs (.Constant (.int i) k pos) (.int i) := .mk fun _ _ _ _ _ _ hS hQ =>
  wpAny_Constant_int (hQ _ _ _ (PH.le.refl _) (hS.toks _) (.int _ _))
theorem EV.cstr {x : Str} {k : Nat} {pos : Pos} : EV c n cs vs (.Constant (.str x) k pos) (.str x) := .mk fun _ _ _ _ _ _ hS hQ =>
  wpAny_Constant_str (hQ _ _ _ (PH.le.refl _) (hS.toks _) (.str _ _))
theorem EV.cnone {k : Nat} {pos : Pos} : EV c n cs vs (.Constant .none k pos) .none := .mk fun _ _ _ _ _ _ hS hQ =>
  wpAny_Constant_none (hQ _ _ _ (PH.le.refl _) hS .none)
theorem EV.cbool {b : Bool} {k : Nat} {pos : Pos} : EV c n cs vs (.Constant (.bool b) k pos) (.bool b) := .mk fun _ _ _ _ _ _ hS hQ =>
  wpAny_Constant_bool (hQ _ _ _ (PH.le.refl _) hS (.bool b))
theorem EV.name (ok : CxOk c) {x : Str} {mv : MV} {pos : Pos} (hk : (x, NameKind.local) ∈ c.sc.names) (ha : At x mv c.xs vs) (hu : mv ≠ .unb := by nofun) (hd : (x == ("__debug__" : Str)) = false := by decide) : EV c n cs vs (.Name x pos) mv := .mk fun A K F s Q _ hS hQ => by
  obtain ⟨m, hn, hm⟩ := hS.ns
  obtain ⟨v, e, d⟩ := hm x mv ha hu
  exact wpAny_Name (wpAny_loadName_local ok.kind (ok.kindOf hk) hn e (hQ _ _ _ (PH.le.refl _) hS d)) hd
theorem EV.bin {l r : Expr} {op : Operator} {pos : Pos} {a b mv : MV} (h1 : EV c n cs vs l a) (h2 : EV c n cs vs r b)
    (h : ∀ (A : Around) (K : Kp) (F : PH) (s : Shared) (Q : Value → Shared → Prop) (u v : Value), Room n A → St c.w K F cs c.L c.xs vs s → DV c.w F (adrs cs) a u → DV c.w F (adrs cs) b v →
      (∀ F' v s', PH.le F F' → St c.w K F' cs c.L c.xs vs s' → DV c.w F' (adrs cs) mv v → Q v s') → wpAny (model pw c.w) A (binaryOp op u v) Q NoE s) : EV c n cs vs (.BinOp l op r pos) mv := .mk fun A K F s Q hA hS hQ =>
  wpAny_BinOp (h1.go A K F s _ hA hS fun F1 u s1 l1 S1 d1 => h2.go A K F1 s1 _ hA S1 fun F2 v s2 l2 S2 d2 =>
    h A K F2 s2 _ u v hA S2 (d1.mono l2 (asLe.refl _)) d2 fun F3 x s3 l3 S3 d3 => hQ F3 x s3 (l1.trans (l2.trans l3)) S3 d3)
theorem EV.add {l r : Expr} {pos : Pos} {a b : Int} (h1 : EV c n cs vs l (.int a)) (h2 : EV c n cs vs r (.int b)) : EV c n cs vs (.BinOp l .Add r pos) (.int (a + b)) :=
  EV.bin h1 h2 fun A K F s Q u v _ S d1 d2 hQ => by
    apply d1.intI; intro _; apply d2.intI; intro _
    exact PyProof.Rows.add_int (hQ _ _ _ (PH.le.refl _) (S.toks _) (.int _ _))
theorem EV.sub {l r : Expr} {pos : Pos} {a b : Int} (h1 : EV c n cs vs l (.int a)) (h2 : EV c n cs vs r (.int b)) : EV c n cs vs (.BinOp l .Sub r pos) (.int (a - b)) :=
  EV.bin h1 h2 fun A K F s Q u v _ S d1 d2 hQ => by
    apply d1.intI; intro _; apply d2.intI; intro _
    exact PyProof.Rows.sub_int (hQ _ _ _ (PH.le.refl _) (S.toks _) (.int _ _))
theorem EV.cat {l r : Expr} {pos : Pos} {a b : Str} (h1 : EV c n cs vs l (.str a)) (h2 : EV c n cs vs r (.str b)) (hz : a.length + b.length ≤ 100000) : EV c n cs vs (.BinOp l .Add r pos) (.str (a ++ b)) :=
  EV.bin h1 h2 fun A K F s Q u v _ S d1 d2 hQ => by
    apply d1.strI; intro _; apply d2.strI; intro _
    exact PyProof.Rows.add_str (fun t' tk => hQ _ _ _ (PH.le.refl _) (S.toks _) (.str _ _)) (Nat.le_trans hz (by decide))

/-- a comparison in a test -/
theorem TV.cmp {l r : Expr} {op : CmpOp} {pos : Pos} {a b : MV} {d : Bool} (h1 : EV c n cs vs l a) (h2 : EV c n cs vs r b)
    (h : ∀ (A : Around) (K : Kp) (F : PH) (s : Shared) (Q : Value → Shared → Prop) (u v : Value), Room n A → St c.w K F cs c.L c.xs vs s → DV c.w F (adrs cs) a u → DV c.w F (adrs cs) b v →
      (∀ F' s', PH.le F F' → St c.w K F' cs c.L c.xs vs s' → Q (.bool d) s') → wpAny (model pw c.w) A (compareOp op u v) Q NoE s)
    (hm : behindInMarks op r = false := by kernel_rfl) : TV c n cs vs (.Compare l [op] [r] pos) d := .mk fun A K F s Q hA hS hQ =>
  wpAny_isTrue_Compare1 (h1.go A K F s _ hA hS fun F1 u s1 l1 S1 d1 => h2.go A K F1 s1 _ hA S1 fun F2 v s2 l2 S2 d2 =>
    h A K F2 s2 _ u v hA S2 (d1.mono l2 (asLe.refl _)) d2 fun F3 s3 l3 S3 => wpAny_truthy_bool (hQ F3 s3 (l1.trans (l2.trans l3)) S3)) hm
theorem TV.lt {l r : Expr} {pos : Pos} {a b : Int} (h1 : EV c n cs vs l (.int a)) (h2 : EV c n cs vs r (.int b)) (hm : behindInMarks .Lt r = false := by kernel_rfl) : TV c n cs vs (.Compare l [.Lt] [r] pos) (decide (a < b)) :=
  TV.cmp h1 h2 (fun A K F s Q u v _ S d1 d2 hQ => by apply d1.intI; intro _; apply d2.intI; intro _; exact PyProof.Rows.lt_int (hQ _ _ (PH.le.refl _) S)) hm
theorem TV.gt {l r : Expr} {pos : Pos} {a b : Int} (h1 : EV c n cs vs l (.int a)) (h2 : EV c n cs vs r (.int b)) (hm : behindInMarks .Gt r = false := by kernel_rfl) : TV c n cs vs (.Compare l [.Gt] [r] pos) (decide (b < a)) :=
  TV.cmp h1 h2 (fun A K F s Q u v _ S d1 d2 hQ => by apply d1.intI; intro _; apply d2.intI; intro _; exact PyProof.Rows.gt_int (hQ _ _ (PH.le.refl _) S)) hm
theorem TV.ge {l r : Expr} {pos : Pos} {a b : Int} (h1 : EV c n cs vs l (.int a)) (h2 : EV c n cs vs r (.int b)) (hm : behindInMarks .GtE r = false := by kernel_rfl) : TV c n cs vs (.Compare l [.GtE] [r] pos) (decide (b ≤ a)) :=
  TV.cmp h1 h2 (fun A K F s Q u v _ S d1 d2 hQ => by apply d1.intI; intro _; apply d2.intI; intro _; exact PyProof.Rows.ge_int (hQ _ _ (PH.le.refl _) S)) hm
theorem TV.eqi {l r : Expr} {pos : Pos} {a b : Int} (h1 : EV c n cs vs l (.int a)) (h2 : EV c n cs vs r (.int b)) (hm : behindInMarks .Eq r = false := by kernel_rfl) : TV c n cs vs (.Compare l [.Eq] [r] pos) (a == b) :=
  TV.cmp h1 h2 (fun A K F s Q u v _ S d1 d2 hQ => by apply d1.intI; intro _; apply d2.intI; intro _; exact PyProof.Rows.eq_int (hQ _ _ (PH.le.refl _) S)) hm
theorem TV.nei {l r : Expr} {pos : Pos} {a b : Int} (h1 : EV c n cs vs l (.int a)) (h2 : EV c n cs vs r (.int b)) (hm : behindInMarks .NotEq r = false := by kernel_rfl) : TV c n cs vs (.Compare l [.NotEq] [r] pos) (a != b) :=
  TV.cmp h1 h2 (fun A K F s Q u v _ S d1 d2 hQ => by apply d1.intI; intro _; apply d2.intI; intro _; exact PyProof.Rows.ne_int (hQ _ _ (PH.le.refl _) S)) hm
theorem TV.eqs {l r : Expr} {pos : Pos} {a b : Str} (h1 : EV c n cs vs l (.str a)) (h2 : EV c n cs vs r (.str b)) (hm : behindInMarks .Eq r = false := by kernel_rfl) : TV c n cs vs (.Compare l [.Eq] [r] pos) (a == b) :=
  TV.cmp h1 h2 (fun A K F s Q u v _ S d1 d2 hQ => by apply d1.strI; intro _; apply d2.strI; intro _; exact PyProof.Rows.eq_str (hQ _ _ (PH.le.refl _) S)) hm
theorem TV.nes {l r : Expr} {pos : Pos} {a b : Str} (h1 : EV c n cs vs l (.str a)) (h2 : EV c n cs vs r (.str b)) (hm : behindInMarks .NotEq r = false := by kernel_rfl) : TV c n cs vs (.Compare l [.NotEq] [r] pos) (a != b) :=
  TV.cmp h1 h2 (fun A K F s Q u v _ S d1 d2 hQ => by apply d1.strI; intro _; apply d2.strI; intro _; exact PyProof.Rows.ne_str (hQ _ _ (PH.le.refl _) S)) hm
theorem TV.not {e : Expr} {pos : Pos} {b : Bool} (h : TV c n cs vs e b) : TV c n cs vs (.UnaryOp .Not e pos) (!b) := .mk fun A K F s Q hA hS hQ =>
  wpAny_isTrue_Not (h.go A K F s _ hA hS fun F' s' l S => hQ F' s' l S)

/-- one of several tests: their worth, from the left -/
inductive ANDs (c : Cx) (n : Nat) (cs : List CellAt) (vs : List MV) : List Expr → Bool → Prop
  | nil : ANDs c n cs vs [] true
  | cons {e r b d} : TV c n cs vs e b → (b = true → ANDs c n cs vs r d) → ANDs c n cs vs (e :: r) (b && d)
inductive ORs (c : Cx) (n : Nat) (cs : List CellAt) (vs : List MV) : List Expr → Bool → Prop
  | nil : ORs c n cs vs [] false
  | cons {e r b d} : TV c n cs vs e b → (b = false → ORs c n cs vs r d) → ORs c n cs vs (e :: r) (b || d)
theorem ANDs.go {es : List Expr} {b : Bool} (h : ANDs c n cs vs es b) : ∀ (A : Around) (K : Kp) (F : PH) (s : Shared) (Q : Bool → Shared → Prop), Room n A → St c.w K F cs c.L c.xs vs s →
    (∀ F' s', PH.le F F' → St c.w K F' cs c.L c.xs vs s' → Q b s') → wpAny (model pw c.w) A (allTrue .And es c.env) Q NoE s := by
  induction h with
  | nil => intro A K F s Q _ hS hQ; exact wpAny_allTrue_And_nil (hQ _ _ (PH.le.refl _) hS)
  | @cons e r b d h1 h2 ih =>
    intro A K F s Q hA hS hQ
    refine wpAny_allTrue_And_cons (h1.go A K F s _ hA hS fun F' s' l S => ?_)
    cases b with
    | true => exact ih rfl A K F' s' Q hA S fun F'' s'' l' S' => hQ F'' s'' (l.trans l') S'
    | false => exact hQ F' s' l S
theorem ORs.go {es : List Expr} {b : Bool} (h : ORs c n cs vs es b) : ∀ (A : Around) (K : Kp) (F : PH) (s : Shared) (Q : Bool → Shared → Prop), Room n A → St c.w K F cs c.L c.xs vs s →
    (∀ F' s', PH.le F F' → St c.w K F' cs c.L c.xs vs s' → Q b s') → wpAny (model pw c.w) A (allTrue .Or es c.env) Q NoE s := by
  induction h with
  | nil => intro A K F s Q _ hS hQ; exact wpAny_allTrue_Or_nil (hQ _ _ (PH.le.refl _) hS)
  | @cons e r b d h1 h2 ih =>
    intro A K F s Q hA hS hQ
    refine wpAny_allTrue_Or_cons (h1.go A K F s _ hA hS fun F' s' l S => ?_)
    cases b with
    | false => exact ih rfl A K F' s' Q hA S fun F'' s'' l' S' => hQ F'' s'' (l.trans l') S'
    | true => exact hQ F' s' l S
theorem TV.and {es : List Expr} {pos : Pos} {b : Bool} (h : ANDs c n cs vs es b) : TV c n cs vs (.BoolOp .And es pos) b := .mk fun A K F s Q hA hS hQ => wpAny_isTrue_BoolOp (h.go A K F s Q hA hS hQ)
theorem TV.or {es : List Expr} {pos : Pos} {b : Bool} (h : ORs c n cs vs es b) : TV c n cs vs (.BoolOp .Or es pos) b := .mk fun A K F s Q hA hS hQ => wpAny_isTrue_BoolOp (h.go A K F s Q hA hS hQ)
theorem EV.ifexp {t e1 e2 : Expr} {pos : Pos} {b : Bool} {mv : MV} (ht : TV c n cs vs t b) (h1 : b = true → EV c n cs vs e1 mv) (h2 : b = false → EV c n cs vs e2 mv) : EV c n cs vs (.IfExp t e1 e2 pos) mv := .mk fun A K F s Q hA hS hQ =>
  wpAny_IfExp (ht.go A K F s _ hA hS fun F' s' l S => by
    cases b with
    | true => exact (h1 rfl).go A K F' s' Q hA S fun F'' v s'' l' S' => hQ F'' v s'' (l.trans l') S'
    | false => exact (h2 rfl).go A K F' s' Q hA S fun F'' v s'' l' S' => hQ F'' v s'' (l.trans l') S')

theorem EX.nil {P} (h : P .next cs vs) : EX c n cs vs [] P := .mk fun A K F s Q hA hS hQ => wpAny_execs_nil (hQ F .next s .next cs vs (PH.le.refl _) hS .next h)
theorem EX.cons {st : Stmt} {r : List Stmt} {P} (h : EX1 c n cs vs st (fun fl cs' vs' => match fl with | .next => EX c n cs' vs' r P | fl => P fl cs' vs')) : EX c n cs vs (st :: r) P := .mk fun A K F s Q hA hS hQ =>
  wpAny_execs_cons (h.go A K F s _ hA hS fun F' f s' fl cs' vs' l S r h' => by
    cases r with
    | next => exact EX.go h' A K F' s' Q hA S fun F'' f' s'' fl' cs'' vs'' l' S' r' p => hQ F'' f' s'' fl' cs'' vs'' (l.trans l') S' r' p
    | brk => exact hQ F' _ s' .brk cs' vs' l S .brk h'
    | cont => exact hQ F' _ s' .cont cs' vs' l S .cont h'
    | ret d => exact hQ F' _ s' _ cs' vs' l S (.ret d) h')
theorem EX.mono {ss : List Stmt} {P P' : Fl → List CellAt → List MV → Prop} (h : EX c n cs vs ss P) (hP : ∀ fl cs' vs', P fl cs' vs' → P' fl cs' vs') : EX c n cs vs ss P' := .mk fun A K F s Q hA hS hQ =>
  h.go A K F s Q hA hS fun F' f s' fl cs' vs' l S r p => hQ F' f s' fl cs' vs' l S r (hP _ _ _ p)
theorem EX1.mono {st : Stmt} {P P' : Fl → List CellAt → List MV → Prop} (h : EX1 c n cs vs st P) (hP : ∀ fl cs' vs', P fl cs' vs' → P' fl cs' vs') : EX1 c n cs vs st P' := .mk fun A K F s Q hA hS hQ =>
  h.go A K F s Q hA hS fun F' f s' fl cs' vs' l S r p => hQ F' f s' fl cs' vs' l S r (hP _ _ _ p)
theorem EX1.ret {e : Expr} {pos : Pos} {mv : MV} {P} (h : EV c n cs vs e mv) (hP : P (.ret mv) cs vs) : EX1 c n cs vs (.Return (some e) pos) P := .mk fun A K F s Q hA hS hQ =>
  wpAny_Return_some (h.go A K F s _ hA hS fun F' v s' l S d => hQ F' _ s' (.ret mv) cs vs l S (.ret d) hP)
theorem EX1.brk {pos : Pos} {P} (hP : P .brk cs vs) : EX1 c n cs vs (.Break pos) P := .mk fun A K F s Q hA hS hQ => wpAny_Break (hQ F _ s .brk cs vs (PH.le.refl _) hS .brk hP)
theorem EX1.cont {pos : Pos} {P} (hP : P .cont cs vs) : EX1 c n cs vs (.Continue pos) P := .mk fun A K F s Q hA hS hQ => wpAny_Continue (hQ F _ s .cont cs vs (PH.le.refl _) hS .cont hP)
theorem EX1.ite {t : Expr} {b1 b2 : List Stmt} {pos : Pos} {b : Bool} {P} (ht : TV c n cs vs t b) (h1 : b = true → EX c n cs vs b1 P) (h2 : b = false → EX c n cs vs b2 P) : EX1 c n cs vs (.If t b1 b2 pos) P := .mk fun A K F s Q hA hS hQ =>
  wpAny_If (ht.go A K F s _ hA hS fun F' s' l S => by
    cases b with
    | true => exact (h1 rfl).go A K F' s' Q hA S fun F'' f s'' fl cs' vs' l' S' => hQ F'' f s'' fl cs' vs' (l.trans l') S'
    | false => exact (h2 rfl).go A K F' s' Q hA S fun F'' f s'' fl cs' vs' l' S' => hQ F'' f s'' fl cs' vs' (l.trans l') S')

/-- a name is bound to a value that is at hand -/
theorem bind_name (ok : CxOk c) {x : Str} {mv : MV} {v : Value} {vs' : List MV} {A : Around} {K : Kp} {F : PH} {s : Shared} {Q : Unit → Shared → Prop} (hk : (x, NameKind.local) ∈ c.sc.names) (hp : Put x mv c.xs vs vs')
    (hS : St c.w K F cs c.L c.xs vs s) (hv : DV c.w F (adrs cs) mv v) (hQ : ∀ s', St c.w K F cs c.L c.xs vs' s' → Q () s') : wpAny (model pw c.w) A (storeName c.env x v) Q NoE s := by
  obtain ⟨m, hn, hm⟩ := hS.ns
  exact wpAny_storeName_local (ok.kindOf hk) hn (fun h' hn' hs => hQ _ (hS.store hn hm ok.nd hp hv hn' hs))
    (by show (c.sc.kind == .class || (c.sc.kind == .module && c.L != mainGlobals)) = false; rw [ok.kind]; rfl)
theorem EX1.asg (ok : CxOk c) {x : Str} {p : Pos} {e : Expr} {pos : Pos} {mv : MV} {vs' : List MV} {P} (h : EV c n cs vs e mv) (hk : (x, NameKind.local) ∈ c.sc.names) (hp : Put x mv c.xs vs vs') (hP : P .next cs vs')
    (hs : swapsWith e (some (.Name x p)) pos.line c.env = pure false := by kernel_rfl) : EX1 c n cs vs (.Assign [.Name x p] e pos) P := .mk fun A K F s Q hA hS hQ =>
  wpAny_Assign_Name (h.go A K F s _ hA hS fun F' v s' l S d => bind_name ok hk hp S d fun s'' S' => hQ F' _ s'' .next cs vs' l S' .next hP) hs
end
end Mine
open PySem PySem.W PySem.W.X PyProof.Rows
namespace Mine
set_option Elab.async false
set_option linter.unusedVariables false

section
variable {c : Cx} {n : Nat} {cs : List CellAt} {vs : List MV}

theorem isSeq.isList {o : Obj} {us : Array Value} {h : Heap} {a : Addr} (i : isSeq (.type "list") o us) (e : h.get? a = some o) : h.IsList a us := ⟨o, e, i.1, i.2.2.2⟩
theorem isSeq.isTup {o : Obj} {us : Array Value} {h : Heap} {a : Addr} (i : isSeq (.type "tuple") o us) (e : h.get? a = some o) : IsTup h a us := ⟨o, e, i.1, i.2.2.2⟩
theorem isSeq.isTuple {o : Obj} {us : Array Value} {h : Heap} {a : Addr} (i : isSeq (.type "tuple") o us) (e : h.get? a = some o) : h.IsTuple a us := ⟨o, e, i.1, i.2.2.2⟩
theorem toList_get {us : Array Value} {i : Nat} {v : Value} (h : us.toList[i]? = some v) : us[i]? = some v := by rw [← Array.getElem?_toList]; exact h
theorem arr_len {w : World} {F : PH} {as : List Addr} {xs : List MV} {us : Array Value} (d : DVs w F as xs us.toList) : us.size = xs.length := by rw [d.length, Array.length_toList]

theorem EV.neg {e : Expr} {pos : Pos} {i : Int} (h : EV c n cs vs e (.int i)) : EV c n cs vs (.UnaryOp .USub e pos) (.int (-i)) := .mk fun A K F s Q hA hS hQ =>
  wpAny_UnaryOp (h.go A K F s _ hA hS fun F' v s' l S d => by
    apply d.intI; intro _
    exact PyProof.Rows.neg_int (hQ _ _ _ l (S.toks _) (.int _ _)))

/-- a subscript: its base, its index, the fetch -/
theorem EV.sub' {b i : Expr} {pos : Pos} {mb mi mv : MV} {T id : String} (hb : EV c n cs vs b mb) (hi : EV c n cs vs i mi) (hl : typeLookup (.type T) "__getitem__" = pure (some (.builtin id)))
    (h : ∀ (A : Around) (K : Kp) (F : PH) (s : Shared) (Q : Value → Shared → Prop) (u v : Value), Room n A → St c.w K F cs c.L c.xs vs s → DV c.w F (adrs cs) mb u → DV c.w F (adrs cs) mi v →
      (∀ F' v s', PH.le F F' → St c.w K F' cs c.L c.xs vs s' → DV c.w F' (adrs cs) mv v → Q v s') → s.TypeIs u T ∧ wpAny (model pw c.w) A (getItem u v) Q NoE s)
    (hs : ∀ u v, ∃ ops, subscripted i false u v = operate ops (getItem u v)) : EV c n cs vs (.Subscript b i pos) mv := .mk fun A K F s Q hA hS hQ =>
  PyProof.Rows.Subscript_ (hb.go A K F s _ hA hS fun F1 u s1 l1 S1 d1 => hi.go A K F1 s1 _ hA S1 fun F2 v s2 l2 S2 d2 => by
    obtain ⟨ops, e⟩ := hs u v
    obtain ⟨t, g⟩ := h A K F2 s2 Q u v hA S2 (d1.mono l2 (asLe.refl _)) d2 fun F3 x s3 l3 S3 d3 => hQ F3 x s3 (l1.trans (l2.trans l3)) S3 d3
    exact PyProof.Rows.tail_any t hl g e)

theorem EV.itemL {b i : Expr} {pos : Pos} {xs : List MV} {k : Int} {mv : MV} (hb : EV c n cs vs b (.list xs)) (hi : EV c n cs vs i (.int k)) (h0 : 0 ≤ k) (h1 : k < 2 ^ 63) (hx : xs[k.toNat]? = some mv)
    (hs : ∀ u v, ∃ ops, subscripted i false u v = operate ops (getItem u v) := by exact fun _ _ => ⟨_, rfl⟩) : EV c n cs vs (.Subscript b i pos) mv :=
  EV.sub' hb hi slot_list_getitem.lookup (fun A K F s Q u v hA S d1 d2 hQ => by
    apply d2.intI; intro _
    apply d1.listI; intro _ _ _ e q d
    obtain ⟨v, ev, dv⟩ := d.get hx
    exact ⟨⟨_, S.fz _ _ e, q.1⟩, wpAny_getItem_list (q.isList (S.fz _ _ e)) h0 h1 (toList_get ev) (hQ _ _ _ (PH.le.refl _) S (dv.any _))⟩) hs
theorem EV.itemLneg {b i : Expr} {pos : Pos} {xs : List MV} {k : Int} {mv : MV} (hb : EV c n cs vs b (.list xs)) (hi : EV c n cs vs i (.int k)) (h0 : k < 0) (h1 : -(xs.length : Int) ≤ k) (h2 : -(2 ^ 63) ≤ k) (hx : xs[(k + xs.length).toNat]? = some mv)
    (hs : ∀ u v, ∃ ops, subscripted i false u v = operate ops (getItem u v) := by exact fun _ _ => ⟨_, rfl⟩) : EV c n cs vs (.Subscript b i pos) mv :=
  EV.sub' hb hi slot_list_getitem.lookup (fun A K F s Q u v hA S d1 d2 hQ => by
    apply d2.intI; intro _
    apply d1.listI; intro _ _ _ e q d
    obtain ⟨v, ev, dv⟩ := d.get hx
    exact ⟨⟨_, S.fz _ _ e, q.1⟩, wpAny_getItem_list_neg (q.isList (S.fz _ _ e)) h0 (by rw [arr_len d]; exact h1) h2 (toList_get (by rw [arr_len d]; exact ev)) (hQ _ _ _ (PH.le.refl _) S (dv.any _))⟩) hs
theorem EV.itemT {b i : Expr} {pos : Pos} {xs : List MV} {k : Int} {mv : MV} (hb : EV c n cs vs b (.tup xs)) (hi : EV c n cs vs i (.int k)) (h0 : 0 ≤ k) (h1 : k < 2 ^ 63) (hx : xs[k.toNat]? = some mv)
    (hs : ∀ u v, ∃ ops, subscripted i false u v = operate ops (getItem u v) := by exact fun _ _ => ⟨_, rfl⟩) : EV c n cs vs (.Subscript b i pos) mv :=
  EV.sub' hb hi slot_tuple_getitem.lookup (fun A K F s Q u v hA S d1 d2 hQ => by
    apply d2.intI; intro _
    apply d1.tupI; intro _ _ _ e q d
    obtain ⟨v, ev, dv⟩ := d.get hx
    have hlt := (List.getElem?_eq_some_iff.mp ev).1
    refine ⟨⟨_, S.fz _ _ e, q.1⟩, PyProof.Rows.getItem_tuple (q.isTup (S.fz _ _ e)) (by lia) h1 (j := k.toNat) ?_ (toList_get ev) (hQ _ _ _ (PH.le.refl _) S (dv.any _))⟩
    rw [Array.length_toList] at hlt
    unfold seqIndex?
    simp only [if_neg (Int.not_lt.mpr h0)]
    rw [if_pos]
    simp only [Bool.and_eq_true, decide_eq_true_eq]
    lia) hs
theorem EV.itemS {b i : Expr} {pos : Pos} {x : Str} {k : Int} {cp : Nat} (hb : EV c n cs vs b (.str x)) (hi : EV c n cs vs i (.int k)) (h0 : 0 ≤ k) (h1 : k < 2 ^ 63) (hx : x.cps[k.toNat]? = some cp)
    (hs : ∀ u v, ∃ ops, subscripted i false u v = operate ops (getItem u v) := by exact fun _ _ => ⟨_, rfl⟩) : EV c n cs vs (.Subscript b i pos) (.str ⟨#[cp]⟩) :=
  EV.sub' hb hi slot_str_getitem.lookup (fun A K F s Q u v hA S d1 d2 hQ => by
    apply d2.intI; intro _
    apply d1.strI; intro _
    have hlt := (Array.getElem?_eq_some_iff.mp hx).1
    refine ⟨rfl, PyProof.Rows.getItem_str (c := cp) (by simp only [Bool.or_eq_false_iff, decide_eq_false_iff_not]; lia) ?_ (hQ _ _ _ (PH.le.refl _) (S.toks _) (.str _ _))⟩
    have : seqIndex? k x.length = some k.toNat := by
      unfold seqIndex?
      simp only [if_neg (Int.not_lt.mpr h0)]
      rw [if_pos]
      simp only [Bool.and_eq_true, decide_eq_true_eq]
      show 0 ≤ k ∧ k < (x.cps.size : Int)
      lia
    rw [this]
    exact hx) hs

/-- a part of a slice that may be left out -/
inductive EVo (c : Cx) (n : Nat) (cs : List CellAt) (vs : List MV) : Option Expr → Option Int → Prop
  | none : EVo c n cs vs none none
  | some {e i} : EV c n cs vs e (.int i) → EVo c n cs vs (some e) (some i)
theorem EVo.go {e : Option Expr} {i : Option Int} (h : EVo c n cs vs e i) {A : Around} {K : Kp} {F : PH} {s : Shared} {Q : Value → Shared → Prop} (hA : Room n A) (hS : St c.w K F cs c.L c.xs vs s)
    (hQ : ∀ F' v s', PH.le F F' → St c.w K F' cs c.L c.xs vs s' → IsPart v i → Q v s') : wpAny (model pw c.w) A (evalPart e c.env) Q NoE s := by
  cases h with
  | none => exact wpAny_pure (hQ F _ s (PH.le.refl _) hS .none)
  | some h => exact h.go A K F s _ hA hS fun F' v s' l S d => by cases d; exact hQ F' _ s' l S (.int _ _)
theorem EV.sliceL {b : Expr} {lo hi : Option Expr} {p pos : Pos} {xs : List MV} {i j : Option Int} (hb : EV c n cs vs b (.list xs)) (h1 : EVo c n cs vs lo i) (h2 : EVo c n cs vs hi j) (hz : xs.length ≤ 100000)
    (hs : ∀ u v, ∃ ops, subscripted (.Slice lo hi none p) false u v = operate ops (getItem u v) := by exact fun _ _ => ⟨_, rfl⟩) :
    EV c n cs vs (.Subscript b (.Slice lo hi none p) pos) (.list ((xs.drop (kms_lo i xs.length)).take (kms_hi j xs.length - kms_lo i xs.length))) := .mk fun A K F s Q hA hS hQ =>
  PyProof.Rows.Subscript_ (hb.go A K F s _ hA hS fun F1 u s1 l1 S1 d1 => wpAny_Slice (h1.go hA S1 fun F2 v1 s2 l2 S2 p1 => h2.go hA S2 fun F3 v2 s3 l3 S3 p2 => by
    refine wpAny_pure ?_
    obtain ⟨ops, e⟩ := hs u (.ref s3.heap.objs.size)
    have d1 := d1.mono (l2.trans l3) (asLe.refl _)
    revert e; apply d1.listI; intro a o us e1 q d e
    have S4 := S3.push { cls := .type "slice", data := .fields #[v1, v2, .none] } s3.toks
    refine PyProof.Rows.tail_any (T := "list") ⟨_, S4.fz _ _ e1, q.1⟩ slot_list_getitem.lookup ?_ e
    refine wpAny_getItem_list_slice (q.isList (S4.fz _ _ e1)) (Heap.IsSliceOf.new _ _ _ _) p1 p2 .none nofun ?_ (by rw [arr_len d]; exact Nat.le_trans hz (by decide))
    rw [kms_pick_eq]
    have hd := (d.drop (kms_lo i us.toList.length)).take (kms_hi j us.toList.length - kms_lo i us.toList.length)
    obtain ⟨S5, l5⟩ := S4.frozenPush { cls := .type "list", data := .seq (kms_pick us.toList i j).toArray } s3.toks rfl
    refine hQ _ _ _ (l1.trans (l2.trans (l3.trans l5))) S5 (.list (PH.ins_self _ _ _) ⟨rfl, rfl, rfl, _, rfl⟩ ?_)
    rw [d.length]
    exact hd.mono l5 (asLe.refl _)))

/-- arguments -/
structure EVs (c : Cx) (n : Nat) (cs : List CellAt) (vs : List MV) (es : List Expr) (ms : List MV) : Prop where
  go : ∀ (pos : Pos) (A : Around) (K : Kp) (F : PH) (s : Shared) (Q : List Value → Shared → Prop), Room n A → St c.w K F cs c.L c.xs vs s →
    (∀ F' us s', PH.le F F' → St c.w K F' cs c.L c.xs vs s' → DVs c.w F' (adrs cs) ms us → Q us s') → wpAny (model pw c.w) A (spliced (backTo pos (starEach es c.env))) Q NoE s
theorem EVs.nil : EVs c n cs vs [] [] := .mk fun pos A K F s Q hA hS hQ => wpAny_pure (hQ F [] s (PH.le.refl _) hS .nil)
theorem EVs.cons {e : Expr} {r : List Expr} {m : MV} {ms : List MV} (h : EV c n cs vs e m) (hr : EVs c n cs vs r ms) (he : starEach (e :: r) c.env = (false, eval e c.env) :: starEach r c.env := by kernel_rfl) : EVs c n cs vs (e :: r) (m :: ms) := .mk fun pos A K F s Q hA hS hQ =>
  PyProof.Rows.args_cons (h.go A K F s _ hA hS fun F1 u s1 l1 S1 d1 => hr.go pos A K F1 s1 _ hA S1 fun F2 us s2 l2 S2 d2 => hQ F2 (u :: us) s2 (l1.trans l2) S2 (.cons (d1.mono l2 (asLe.refl _)) d2)) he
/-- a call that changes nothing that is seen -/
structure CS (c : Cx) (n : Nat) (cs : List CellAt) (vs : List MV) (f : Value) (ms : List MV) (mv : MV) : Prop where
  go : ∀ (A : Around) (K : Kp) (F : PH) (s : Shared) (Q : Value → Shared → Prop) (us : List Value), Room n A → St c.w K F cs c.L c.xs vs s → DVs c.w F (adrs cs) ms us →
    (∀ F' v s', PH.le F F' → St c.w K F' cs c.L c.xs vs s' → DV c.w F' (adrs cs) mv v → Q v s') → wpAny (model pw c.w) A (call f us) Q NoE s
theorem EV.callB {f e : Expr} {r : List Expr} {pos : Pos} {id : String} {ms : List MV} {mv : MV} (hf : EV c n cs vs f (.val (.builtin id))) (ha : EVs c n cs vs (e :: r) ms) (h : CS c n cs vs (.builtin id) ms mv)
    (he1 : eval (.Call f (e :: r) [] pos) c.env = (do callWith pos (← eval f c.env) [] (backTo pos (starEach (e :: r) c.env)) (backToKw pos (keywordEach [] c.env))) := by kernel_rfl)
    (he : starEach (e :: r) c.env = (false, eval e c.env) :: starEach r c.env := by kernel_rfl) (hp : (backTo pos (starEach r c.env)).any (·.1) = false := by kernel_rfl) : EV c n cs vs (.Call f (e :: r) [] pos) mv := .mk fun A K F s Q hA hS hQ =>
  PyProof.Rows.Call_ (hf.go A K F s _ hA hS fun F1 u s1 l1 S1 d1 => by
    apply d1.valI
    exact PyProof.Rows.callWith_builtin1 (ha.go pos A K F1 s1 _ hA S1 fun F2 us s2 l2 S2 d2 => h.go A K F2 s2 Q us hA S2 d2 fun F3 v s3 l3 S3 d3 => hQ F3 v s3 (l1.trans (l2.trans l3)) S3 d3) he hp) he1
theorem CS.lenL {xs : List MV} (hz : xs.length ≤ 100000) : CS c n cs vs (.builtin "len") [.list xs] (.int xs.length) := .mk fun A K F s Q us hA hS d hQ => by
  apply d.consI; intro _ _ d1 d2
  apply d2.nilI
  apply d1.listI; intro _ _ _ e q d
  refine PyProof.Rows.len_list (q.isList (hS.fz _ _ e)) (by rw [arr_len d]; lia) ?_
  rw [arr_len d]
  exact hQ _ _ _ (PH.le.refl _) (hS.toks _) (.int _ _)
theorem CS.lenS {x : Str} (hz : x.length ≤ 100000) : CS c n cs vs (.builtin "len") [.str x] (.int x.length) := .mk fun A K F s Q us hA hS d hQ => by
  apply d.consI; intro _ _ d1 d2
  apply d2.nilI
  apply d1.strI; intro _
  exact PyProof.Rows.len_str (by lia) (hQ _ _ _ (PH.le.refl _) (hS.toks _) (.int _ _))
end
end Mine
open PySem PySem.W PySem.W.X PyProof.Rows
namespace Mine
set_option Elab.async false
set_option linter.unusedVariables false

section
variable {c : Cx} {n : Nat} {cs : List CellAt} {vs : List MV}

theorem wpAny_noE {α : Type} {M : Model} {A : Around} {t : Sem α} {Q : α → Shared → Prop} {E : Value → Shared → Prop} {s : Shared} (h : wpAny M A t Q NoE s) : wpAny M A t Q E s := wpAny_mono h (fun _ _ x => x) fun _ _ x => x.elim

theorem EX1.while {test : Expr} {body : List Stmt} {pos : Pos} {P : Fl → List CellAt → List MV → Prop} (I : Nat → List CellAt → List MV → Prop)
    (turn : ∀ k cs vs, I k cs vs → ∃ b, TV c n cs vs test b ∧ (b = true → EX c n cs vs body (fun fl cs' vs' => match fl with | .next | .cont => ∃ m, m < k ∧ I m cs' vs' | .brk => P .next cs' vs' | .ret r => P (.ret r) cs' vs')) ∧ (b = false → P .next cs vs))
    (k : Nat) (h : I k cs vs) : EX1 c n cs vs (.While test body [] pos) P := .mk fun A K F s Q hA hS hQ => by
  refine wpAny_While (codeAny_whileLoop (fun k s => ∃ F' cs' vs', PH.le F F' ∧ St c.w K F' cs' c.L c.xs vs' s ∧ I k cs' vs') ?_ k ⟨F, cs, vs, PH.le.refl _, hS, h⟩)
  rintro k s ⟨F1, cs1, vs1, l1, S1, i1⟩
  obtain ⟨b, ht, hb, he⟩ := turn k cs1 vs1 i1
  refine wpAny_noE (ht.go A K F1 s _ hA S1 fun F2 s2 l2 S2 => ?_)
  cases b with
  | true =>
    refine wpAny_noE ((hb rfl).go A K F2 s2 _ hA S2 fun F3 f s3 fl cs3 vs3 l3 S3 r p => ?_)
    cases r with
    | next => obtain ⟨m, hm, i⟩ := p; exact ⟨m, hm, F3, cs3, vs3, l1.trans (l2.trans l3), S3, i⟩
    | cont => obtain ⟨m, hm, i⟩ := p; exact ⟨m, hm, F3, cs3, vs3, l1.trans (l2.trans l3), S3, i⟩
    | brk => exact hQ F3 _ s3 .next cs3 vs3 (l1.trans (l2.trans l3)) S3 .next p
    | ret d => exact hQ F3 _ s3 _ cs3 vs3 (l1.trans (l2.trans l3)) S3 (.ret d) p
  | false => exact wpAny_execs_nil (hQ F2 _ s2 .next cs1 vs1 (l1.trans l2) S2 .next (he rfl))

/-- a target takes a value -/
structure AS (c : Cx) (n : Nat) (cs : List CellAt) (vs : List MV) (t : Expr) (mv : MV) (vs' : List MV) : Prop where
  go : ∀ (A : Around) (K : Kp) (F : PH) (s : Shared) (Q : Unit → Shared → Prop) (v : Value), Room n A → St c.w K F cs c.L c.xs vs s → DV c.w F (adrs cs) mv v →
    (∀ F' s', PH.le F F' → St c.w K F' cs c.L c.xs vs' s' → Q () s') → wpAny (model pw c.w) A (assign t c.env v) Q NoE s
theorem AS.name (ok : CxOk c) {x : Str} {p : Pos} {mv : MV} {vs' : List MV} (hk : (x, NameKind.local) ∈ c.sc.names) (hp : Put x mv c.xs vs vs') : AS c n cs vs (.Name x p) mv vs' := .mk fun A K F s Q v hA hS hv hQ =>
  wpAny_assign_Name (bind_name ok hk hp hS hv fun s' S' => hQ F s' (PH.le.refl _) S')
/-- names take values one by one -/
inductive PutsTo (c : Cx) : List Expr → List MV → List MV → List MV → Prop
  | nil {us} : PutsTo c [] [] us us
  | cons {x p r m ms us us1 us2} : (x, NameKind.local) ∈ c.sc.names → Put x m c.xs us us1 → PutsTo c r ms us1 us2 → PutsTo c (.Name x p :: r) (m :: ms) us us2
theorem assignEach_name {x : Str} {p : Pos} {r : List Expr} {env : Env} : assignEach (.Name x p :: r) env = (false, assign (.Name x p) env) :: assignEach r env := rfl
theorem PutsTo.go (ok : CxOk c) {es : List Expr} {ms vs vs' : List MV} (h : PutsTo c es ms vs vs') : (assignEach es c.env).length = ms.length ∧ (assignEach es c.env).findIdx? (·.1) = none ∧
    ∀ {A : Around} {K : Kp} {F : PH} {s : Shared} {Q : Unit → Shared → Prop} {us : List Value}, St c.w K F cs c.L c.xs vs s → DVs c.w F (adrs cs) ms us →
    (∀ s', St c.w K F cs c.L c.xs vs' s' → Q () s') → wpAny (model pw c.w) A (assignInOrder ((assignEach es c.env).map (·.2)) us) Q NoE s := by
  induction h with
  | nil => exact ⟨rfl, rfl, fun S d hQ => wpAny_pure (hQ _ S)⟩
  | @cons x p r m ms vs vs1 vs2 hk hp hr ih =>
    obtain ⟨i1, i2, i3⟩ := ih
    refine ⟨by rw [assignEach_name, List.length_cons, i1, List.length_cons], by rw [assignEach_name, List.findIdx?_cons]; simp [i2], fun {A K F s Q us} S d hQ => ?_⟩
    apply d.consI; intro _ _ d1 d2
    rw [assignEach_name, List.map_cons]
    refine wpAny_bind (wpAny_holding (wpAny_assign_Name (bind_name ok hk hp S d1 fun s' S' => ?_)))
    exact i3 S' d2 hQ
theorem AS.tup (ok : CxOk c) {es : List Expr} {k : Nat} {p : Pos} {ms vs' : List MV} (h : PutsTo c es ms vs vs') : AS c n cs vs (.Tuple es k p) (.tup ms) vs' := .mk fun A K F s Q v hA hS hv hQ => by
  obtain ⟨h1, h2, h3⟩ := h.go ok (cs := cs)
  apply hv.tupI; intro _ _ _ e q d
  refine wpAny_assign_Tuple hA.handled (q.isTuple (hS.fz _ _ e)) (by rw [h1, arr_len d]) h2 (fun h' hk => ?_)
  exact h3 (hS.ext (keep_of_extBut (Nat.le_refl _) hk) rfl rfl) (d.mono (PH.le.refl _) (asLe.nil _)) fun s' S' => hQ F s' (PH.le.refl _) S'

/-- tuples and lists written out: frozen at once -/
theorem EV.tup {es : List Expr} {k : Nat} {pos : Pos} {ms : List MV} (h : EVs c n cs vs es ms) (hz : ms.length ≤ 100000 := by decide) (hc : ms.all MV.nc = true := by kernel_rfl) : EV c n cs vs (.Tuple es k pos) (.tup ms) := .mk fun A K F s Q hA hS hQ =>
  PyProof.Rows.Tuple_ (h.go pos A K F s _ hA hS fun F1 us s1 l1 S1 d1 => by
    have hl := d1.length
    obtain ⟨S2, l2⟩ := S1.frozenPush { cls := .type "tuple", data := .seq us.toArray } s1.toks rfl
    exact wpAny_newTuple (hQ _ _ _ (l1.trans l2) S2 (.tup (PH.ins_self _ _ _) ⟨rfl, rfl, rfl, _, rfl⟩ ((d1.pure hc).mono l2 (asLe.refl _)))) (by rw [← hl]; exact Nat.le_trans hz (by decide)))
theorem EV.listD {es : List Expr} {pos : Pos} {ms : List MV} (h : EVs c n cs vs es ms) (hz : ms.length ≤ 100000 := by decide) (hc : ms.all MV.nc = true := by kernel_rfl) : EV c n cs vs (.List es pos) (.list ms) := .mk fun A K F s Q hA hS hQ =>
  PyProof.Rows.List_ (h.go pos A K F s _ hA hS fun F1 us s1 l1 S1 d1 => by
    have hl := d1.length
    obtain ⟨S2, l2⟩ := S1.frozenPush { cls := .type "list", data := .seq us.toArray } s1.toks rfl
    exact wpAny_newList (hQ _ _ _ (l1.trans l2) S2 (.list (PH.ins_self _ _ _) ⟨rfl, rfl, rfl, _, rfl⟩ ((d1.pure hc).mono l2 (asLe.refl _)))) (by rw [← hl]; exact Nat.le_trans hz (by decide)))

theorem letGo_list {t : Expr} {it l : Addr} {i : Nat} {v : Value} {A : Around} {w : World} {Q : Unit → Shared → Prop} {E : Value → Shared → Prop} {s : Shared} (hit : s.heap.IsListIter it l i) (hQ : Q () s) : wpAny (model pw w) A (letOwnedTupleGo t (.ref it) v) Q E s := by
  obtain ⟨o, e, hc, hd⟩ := hit
  cases t with
  | Tuple es k p =>
    cases v with
    | ref a => exact wpAny_letOwnedTupleGo_listiter ⟨o, e, hc, hd⟩ hQ
    | _ => exact wpAny_pure hQ
  | List es p =>
    cases v with
    | ref a =>
      unfold letOwnedTupleGo
      refine wpAny_bind (wpAny_load e ?_)
      rw [hc, hd]
      exact wpAny_pure hQ
    | _ => exact wpAny_pure hQ
  | _ => exact wpAny_pure hQ

/-- the turns of a for: T i says how the iterator stands (its object) at place i; X i is the item there -/
theorem for_turns {t : Expr} {body : List Stmt} {P : Fl → List CellAt → List MV → Prop} {A : Around} {K : Kp} {F1 : PH} {it : Addr} {R : Result → Shared → Prop} {s : Shared} (N : Nat) (T : Nat → Obj → Prop) (X : Nat → MV) (I : Nat → List CellAt → List MV → Prop) (hA : Room n A)
    (hR : ∀ F' f s' fl cs' vs', PH.le F1 F' → St c.w K F' cs' c.L c.xs vs' s' → FlR c.w F' (adrs cs') fl f → P fl cs' vs' → R (.ok f) s')
    (turn : ∀ i cs vs, i < N → I i cs vs → ∃ vs1, AS c n cs vs t (X i) vs1 ∧ EX c n cs vs1 body (fun fl cs' vs' => match fl with | .next | .cont => I (i + 1) cs' vs' | .brk => P .next cs' vs' | .ret r => P (.ret r) cs' vs'))
    (hend : ∀ cs' vs', I N cs' vs' → P .next cs' vs')
    (item : ∀ i s3 oi (G : Option Value → Shared → Prop) (E : Value → Shared → Prop), i < N → PH.le F1 s3.heap.get? → s3.heap.get? it = some oi → T i oi →
      (∀ h' tk v oi', h'.get? it = some oi' → T (i + 1) oi' → (∀ b o, b ≠ it → s3.heap.get? b = some o → h'.get? b = some o) → DV c.w F1 [] (X i) v →
        (∀ s Q E', s.heap.get? it = some oi' → Q () s → wpAny (model pw c.w) A (letOwnedTupleGo t (.ref it) v) Q E' s) → G (some v) { s3 with heap := h', toks := tk }) → wpAny (model pw c.w) A (pyNext (.ref it)) G E s3)
    (stop : ∀ s3 oi (G : Option Value → Shared → Prop) (E : Value → Shared → Prop), PH.le F1 s3.heap.get? → s3.heap.get? it = some oi → T N oi → (∀ h', (∀ b o, b ≠ it → s3.heap.get? b = some o → h'.get? b = some o) → G none { s3 with heap := h' }) → wpAny (model pw c.w) A (pyNext (.ref it)) G E s3)
    (S : St c.w K F1 cs c.L c.xs vs s) (f : Free K F1 cs c.L it) (ht : ∃ oi, s.heap.get? it = some oi ∧ T 0 oi) (h0 : I 0 cs vs) : codeAny (model pw c.w) A (.forLoop t (.ref it) body [] c.env) R s := by
  refine codeAny_forLoop_any (fun k s => ∃ i F' cs' vs', k + i = N ∧ PH.le F1 F' ∧ St c.w K F' cs' c.L c.xs vs' s ∧ Free K F' cs' c.L it ∧ (∃ oi, s.heap.get? it = some oi ∧ T i oi) ∧ I i cs' vs') ?_ N ⟨0, F1, cs, vs, rfl, PH.le.refl _, S, f, ht, h0⟩
  rintro k s3 ⟨i, F3, cs3, vs3, hk, l3, S3, f3, ⟨oi, ei, hT⟩, i3⟩
  have lz := l3.trans S3.fz
  by_cases hlt : i < N
  · obtain ⟨vs4, ha, hb⟩ := turn i cs3 vs3 hlt i3
    refine item i s3 oi _ _ hlt lz ei hT fun h' tk v oi' ei' hT' hs dv hgo => hgo _ _ _ ei' ?_
    refine wpAny_noE (ha.go A (K.hold it oi') F3 _ _ v hA ((S3.sameBut (t := tk) f3 hs).hold f3 ei') (dv.mono l3 (asLe.nil _)) fun F5 s5 l5 S5 => ?_)
    refine wpAny_noE (hb.go A (K.hold it oi') F5 s5 _ hA S5 fun F6 f s6 fl cs6 vs6 l6 S6 r p => ?_)
    obtain ⟨S7, f7, e7⟩ := S6.unhold f3.b
    have l7 := l3.trans (l5.trans l6)
    cases r with
    | next => exact ⟨k - 1, by lia, i + 1, F6, cs6, vs6, by lia, l7, S7, f7, ⟨oi', e7, hT'⟩, p⟩
    | cont => exact ⟨k - 1, by lia, i + 1, F6, cs6, vs6, by lia, l7, S7, f7, ⟨oi', e7, hT'⟩, p⟩
    | brk => exact hR F6 _ s6 .next cs6 vs6 l7 S7 .next p
    | ret dr => exact hR F6 _ s6 _ cs6 vs6 l7 S7 (.ret dr) p
  · obtain rfl : i = N := by lia
    refine stop s3 oi _ _ lz ei hT fun h' hs => ?_
    exact wpAny_execs_nil (hR F3 _ _ .next cs3 vs3 l3 (S3.sameBut (t := s3.toks) f3 hs) .next (hend cs3 vs3 i3))
end
end Mine
open PySem PySem.W PySem.W.X PyProof.Rows
namespace Mine
set_option Elab.async false
set_option linter.unusedVariables false

section
variable {w : World} {K : Kp} {F F' : PH} {cs : List CellAt} {L : Addr} {xs : List Str} {vs : List MV} {s : Shared}

/-- the caller's frame held while another def runs -/
theorem St.leave (h : St w K F cs L xs vs s) : ∃ oL, s.heap.get? L = some oL ∧ SF w (K.hold L oL) F cs s ∧ ∀ K' F' cs' s', K'.B L = none → (∀ m, FrameR w F (adrs cs) xs vs m → FrameR w F' (adrs cs') xs vs m) → SF w (K'.hold L oL) F' cs' s' → St w K' F' cs' L xs vs s' := by
  obtain ⟨m, hn, hm⟩ := h.ns
  obtain ⟨oL, es, ep, e, r⟩ := hn
  have hold0 : ∀ b x, (K.hold L oL).B b = some x → s.heap.get? b = some x := fun a x q => by
    by_cases z : a = L
    · subst z
      rw [show (K.hold a oL).B a = some oL from if_pos rfl] at q
      cases q; exact e
    · exact h.kp a x ((if_neg z).symm.trans q)
  refine ⟨oL, e, ⟨h.fz, hold0, h.cl, h.nd, fun a ha => ⟨(h.ap a ha).1, (if_neg (show ¬ a = L from fun z => h.lf (z ▸ ha))).trans (h.ap a ha).2.1, (h.ap a ha).2.2⟩,
    fun a x q => (if_neg (show ¬ a = L from fun z => by rw [z, h.lF] at q; cases q)).trans (h.fb a x q), h.top, h.gens, h.os⟩, fun K' F' cs' s' hlB hfr h' => ?_⟩
  have hself : (K'.hold L oL).B L = some oL := if_pos rfl
  have hne : ∀ a, a ≠ L → (K'.hold L oL).B a = K'.B a := fun a z => if_neg z
  refine ⟨⟨h'.fz, fun a x q => ?_, h'.cl, h'.nd, fun a hm => ⟨(h'.ap a hm).1, ?_, (h'.ap a hm).2.2⟩, fun a x q => ?_, h'.top, h'.gens, h'.os⟩, ⟨m, ⟨oL, es, ep, h'.kp L oL hself, r⟩, hfr m hm⟩, fun hm => ?_, ?_, hlB⟩
  · refine h'.kp a x ?_
    rw [hne a fun z => by rw [z, hlB] at q; cases q]; exact q
  · have := (h'.ap a hm).2.1
    by_cases z : a = L
    · rw [z]; exact hlB
    · rw [← hne a z]; exact this
  · have := h'.fb a x q
    by_cases z : a = L
    · rw [z]; exact hlB
    · rw [← hne a z]; exact this
  · have := (h'.ap L hm).2.1; rw [hself] at this; cases this
  · cases q : F' L with
    | none => rfl
    | some x => have := h'.fb L x q; rw [hself] at this; cases this
theorem FrameR.pure {as as' : List Addr} {m} (hF : PH.le F F') (hc : ∀ v ∈ vs, v.nc = true) (h : FrameR w F as xs vs m) : FrameR w F' as' xs vs m := fun x mv a n => by
  obtain ⟨v, e, d⟩ := h x mv a n
  have : mv ∈ vs := by
    clear d e n h
    induction a with
    | here => exact .head _
    | there _ ih => exact .tail _ (ih fun v hv => hc v (.tail _ hv))
  exact ⟨v, e, ((d.pure (hc _ this)).any as').mono hF (asLe.refl _)⟩

noncomputable def funcOf (o : Obj) : FuncData := match o.data with | .func f => f | _ => default
noncomputable def bodyOf (o : Obj) : List Stmt := match (funcOf o).body with | .stmts b => b | .expr _ => []
/-- a def of the top: its object stands at a, its code at cc -/
structure IsFn (w : World) (a cc : Addr) (o : Obj) : Prop where
  at_ : at6 w.params a = some o
  isf : o.data = .func (funcOf o)
  body : (funcOf o).body = .stmts (bodyOf o)
  code : (funcOf o).code = .ref cc
  glob : (funcOf o).globals = mainGlobals
  clos : (funcOf o).closure = []
  bi : (funcOf o).builtins = builtinsNs
  cor : (funcOf o).scope.isCoroutine = false
  kind : (funcOf o).scope.kind = .function
  cat : ∃ oc us t, at6 w.params cc = some oc ∧ oc.data = .fields us ∧ us[1]? = some (.str (funcOf o).qualname t)
  nocell : ∀ x ∈ (funcOf o).scope.names, x.2 ≠ .cell
theorem IsFn.obj {a cc : Addr} {o : Obj} (f : IsFn w a cc o) (h : SF w K F cs s) : s.heap.get? a = some o := h.fz _ _ (h.top a o f.at_)
theorem IsFn.codeRec {a cc : Addr} {o : Obj} (f : IsFn w a cc o) (h : SF w K F cs s) : s.heap.CodeRec (funcOf o).code (funcOf o).qualname := by
  obtain ⟨oc, us, t, e1, e3, e4⟩ := f.cat
  exact ⟨cc, oc, us, t, f.code, h.fz _ _ (h.top cc oc e1), e3, e4⟩
theorem boot2_at (P : Params) : at6 P 2 = some (boot_o_2 P) := by kernel_rfl
theorem SF.noLimit (h : SF w K F cs s) : s.heap.NoLimit := by
  refine ⟨fun _ => none, ⟨boot_o_2 w.params, #[], 0, h.fz _ _ (h.top 2 _ (boot2_at _)), rfl, fun e he => by simp at he, fun _ => rfl⟩, rfl⟩
noncomputable abbrev FnCx (w : World) (a : Addr) (o : Obj) (L : Addr) (xs : List Str) : Cx := ⟨w, (funcOf o).qualname, (funcOf o).scope, L, a, (funcOf o).code, xs, []⟩

theorem lookup_zip {x : Str} {mv : MV} {as : List Addr} : ∀ {ps : List Str} {ms : List MV} {us : List Value}, ps.Nodup → DVs w F as ms us → At x mv ps ms → ∃ v, (ps.zip us).reverse.lookup x = some v ∧ DV w F as mv v := by
  intro ps
  induction ps with
  | nil => intro ms us _ _ h; cases h
  | cons p ps ih =>
    intro ms us nd d h
    cases d with
    | nil => cases h
    | @cons _ m u ms us d1 d2 =>
      rw [List.zip_cons_cons, List.reverse_cons, List.lookup_append]
      cases h with
      | here =>
        have : (ps.zip us).reverse.lookup x = none := by
          rw [List.lookup_eq_none_iff]
          intro q hq
          have hq := List.mem_reverse.mp hq
          have := (List.of_mem_zip (a := q.1) (b := q.2) hq).1
          exact bne_iff_ne.mpr fun e => (List.nodup_cons.mp nd).1 (e ▸ this)
        rw [this]
        exact ⟨u, by simp [List.lookup], d1⟩
      | there h =>
        obtain ⟨v, e, dv⟩ := ih (List.nodup_cons.mp nd).2 d2 h
        exact ⟨v, by rw [e]; rfl, dv⟩
theorem At.unbs {x : Str} {mv : MV} {k : Nat} : ∀ {ys : List Str}, At x mv ys (List.replicate k .unb) → mv = .unb := by
  induction k with
  | zero => intro ys h; cases h
  | succ k ih =>
    intro ys h
    rw [List.replicate_succ] at h
    cases h with
    | here => rfl
    | there h => exact ih h

/-- a def of the top is called: its arguments bound, its body run -/
theorem call_fn {a cc : Addr} {o : Obj} (f : IsFn w a cc o) (hgen : (funcOf o).scope.isGenerator = false) {n : Nat} {A : Around} {args : Args} {ps : List Str} {us : List Value} {ms : List MV} {rest : List Str} {R : Result → Shared → Prop}
    (hA : Room (n + 1) A) (hS : SF w K F cs s)
    (hb : ∀ (Q : List (Str × Value) → Shared → Prop), Q (ps.zip us) s → wpAny (model pw w) A.in1 (bindArgs (funcOf o) args) Q (fun e s' => R (.error e) s') s)
    (hd : DVs w F (adrs cs) ms us) (hlen : ps.length = us.length) (hnd : ps.Nodup) (hloc : ∀ x ∈ ps, (x, NameKind.local) ∈ (funcOf o).scope.names) (hndk : ((funcOf o).scope.names.map (·.1)).Nodup)
    (h : ∀ L s', St w K F cs L (ps ++ rest) (ms ++ List.replicate rest.length .unb) s' → 
      wpAny (model pw w) (A.deeper (FnCx w a o L (ps ++ rest)).env) (execs (bodyOf o) (FnCx w a o L (ps ++ rest)).env) (fun fl s' => R (.ok (.ret (match fl with | .ret v => v | _ => .none))) s') NoE s') :
    codeAny (model pw w) A (.call (.ref a) args) R s := by
  refine codeAny_call_function (by have := hA.depth; omega) (f.obj hS) f.isf f.cor hgen f.body (f.codeRec hS) (hb _ ?_)
  refine wpAny_newFunctionEnv f.nocell (fun x hx => lookup_mem2 (hloc x.1 ((List.of_mem_zip (a := x.1) (b := x.2) hx).1)) hndk) (fun h' hn hs => ?_) f.kind
  have hsz : s.heap.get? s.heap.objs.size = none := get_of_ge (Nat.le_refl _)
  have hS1 : SF w K F cs { s with heap := h', toks := s.toks + (ps.zip us).length } := by
    refine hS.ext (fun b x e => ?_) rfl rfl
    exact (hs.2 b (Nat.ne_of_lt (Heap.lt_size e))).trans (Heap.get?_push_of_some _ e)
  obtain ⟨x1, x2, x3⟩ := hS.fresh hsz
  refine ⟨hS1.noLimit, ?_⟩
  have henv : newEnv (funcOf o).scope s.heap.objs.size (funcOf o).globals (funcOf o).closure ((funcOf o).qualname ++ ".<locals>.") (some a) (funcOf o).code none (funcOf o).builtins = (FnCx w a o s.heap.objs.size (ps ++ rest)).env := by
    rw [f.glob, f.clos, f.bi]; rfl
  rw [henv]
  refine codeAny_func (wpAny_noE (h s.heap.objs.size _ ⟨hS1, ⟨_, hn, fun x mv ha hu => ?_⟩, x3, x1, x2⟩))
  have hl2 : ps.length = ms.length := by rw [hd.length]; exact hlen
  rcases ha.app hl2 with ha | ha
  · exact lookup_zip hnd hd ha
  · exact absurd ha.unbs hu
end
end Mine
open PySem PySem.W PySem.W.X PyProof.Rows
namespace Mine
set_option Elab.async false
set_option linter.unusedVariables false

section
variable {w : World} {A : Around} {co : Code} {fs : List Frame} {s : Shared} {P : End → Shared → Prop}
noncomputable abbrev SX (w : World) (A : Around) (co : Code) (t : Sem Fin) (fs : List Frame) (s : Shared) (P : End → Shared → Prop) : Prop := SegX (model pw w) A co t fs s P
theorem sx_wrap {α : Type} {m : Sem α} {KK : α → Sem Fin} {HH : Value → Sem Fin} {gd : Bool → Bool} {lv : List Value → List Value}
    (h : wpAny (model pw w) (A.over co fs) m (fun a s' => SX w A co (KK a) fs s' P) NoE s) : SX w A co (m.wrap KK HH gd lv) fs s P := by
  rintro Γ p rfl hΓ
  obtain ⟨e, s', hr, hq⟩ := runs_wrap_of_wp (Φ := fun e s' => e.quiet = true ∧ P e s') KK HH gd lv m (h (Γ.over fs) p (hΓ.over fs)) (fun a p' s' h' => h' Γ p' rfl hΓ) (fun x p' s' h' => h'.elim)
  exact ⟨e, s', hr, hq⟩
theorem sx_bw {α β : Type} {m : Sem α} {f : α → Sem β} {KK : β → Sem Fin} {HH : Value → Sem Fin} {gd : Bool → Bool} {lv : List Value → List Value}
    (h : wpAny (model pw w) (A.over co fs) m (fun a s' => SX w A co ((f a).wrap KK HH gd lv) fs s' P) NoE s) : SX w A co ((m >>= f).wrap KK HH gd lv) fs s P := by
  rw [Sem.bind_eq_wrap', Sem.wrap_wrap]; exact sx_wrap h
theorem sx_at {p' : Pos} {k : Unit → Sem Fin} (h : SX w A co (k ()) fs s P) : SX w A co (.at p' k) fs s P :=
  sx_wrap (m := standAt p') (KK := k) (HH := .raise) (gd := id) (lv := id) (wpAny_standAt h)
theorem sx_point {l : List Value} {k : Unit → Sem Fin} (h : SX w A co (k ()) fs s P) : SX w A co (.point l k) fs s P :=
  sx_wrap (m := point) (KK := k) (HH := .raise) (gd := id) (lv := fun _ => l) (wpAny_point h)
theorem sx_call {c' : Code} {hd : Option Value} {g : Bool} {l : List Value} {k : Result → Sem Fin} (x : ∀ p, SX w A c' (denote table c') (.ret k hd g l co p [] :: fs) s P) : SX w A co (.call c' hd g l k) fs s P :=
  s_call pw w A co fs P s c' hd g l k x
theorem sx_again {c' : Code} (hq : c'.quiet = true) (x : SX w A c' (denote table c') fs s P) : SX w A co (.pure (.again c')) fs s P := s_again pw w A co fs P s c' hq x
theorem sx_pop {f : Flow} {k : Result → Sem Fin} {hd : Option Value} {g : Bool} {l : List Value} {c₁ : Code} {p₁ : Pos} {kp} (x : SX w A c₁ (k (.ok f)) fs s P) : SX w A co (.pure (.done f)) (.ret k hd g l c₁ p₁ kp :: fs) s P :=
  s_pop pw w A co fs P s (.ok f) _ rfl k hd g l c₁ p₁ kp x
theorem sx_yield {v : Value} {l : List Value} {k : Resume → Sem Fin} (hfs : splitAtGen fs = none) (hfg : fs.any Frame.guarded = false) (x : ∀ p, P (.susp v false l k co p fs) s) : SX w A co (.yield v false l k) fs s P :=
  s_yield pw w A co fs P s v l k hfs hfg x
end

/-- two held parts as one: the second first -/
noncomputable def Kp.wi (K H : Kp) : Kp := { B := fun a => match H.B a with | some o => some o | none => K.B a, G := fun i => match H.G i with | some x => some x | none => K.G i, o := K.o }
noncomputable def Kp.gset (K : Kp) (g : Nat) (gs : GenState) : Kp := { K with G := fun i => if i = g then some gs else K.G i }
structure Apart (H K : Kp) (F : PH) : Prop where
  b : ∀ a o, H.B a = some o → K.B a = none ∧ F a = none
  g : ∀ i x, H.G i = some x → K.G i = none
theorem Kp.wi_b {K H : Kp} {a : Addr} {o : Obj} (h : H.B a = some o) : (K.wi H).B a = some o := by simp only [Kp.wi, h]
theorem Kp.wi_n {K H : Kp} {a : Addr} (h : H.B a = none) : (K.wi H).B a = K.B a := by simp only [Kp.wi, h]
theorem Kp.wi_nn {K H : Kp} {a : Addr} (h : (K.wi H).B a = none) : H.B a = none ∧ K.B a = none := by
  cases e : H.B a with
  | none => exact ⟨rfl, by rw [← Kp.wi_n e]; exact h⟩
  | some o => rw [Kp.wi_b e] at h; cases h
theorem Kp.wi_ok {K H : Kp} {a : Addr} (h : H.B a = none) (h' : K.B a = none) : (K.wi H).B a = none := by rw [Kp.wi_n h]; exact h'
theorem Kp.wi_g {K H : Kp} {i : Nat} {x : GenState} (h : H.G i = some x) : (K.wi H).G i = some x := by simp only [Kp.wi, h]
theorem Kp.wi_gn {K H : Kp} {i : Nat} (h : H.G i = none) : (K.wi H).G i = K.G i := by simp only [Kp.wi, h]
theorem Kp.wi_assoc (K H J : Kp) : (K.wi H).wi J = K.wi (H.wi J) := by
  unfold Kp.wi
  refine Kp.eq ?_ ?_
  · funext a; dsimp only; cases J.B a <;> rfl
  · funext a; dsimp only; cases J.G a <;> rfl
theorem hold_wi (K H : Kp) (b : Addr) (o : Obj) : (K.wi H).hold b o = K.wi (H.hold b o) := by
  unfold Kp.wi Kp.hold
  refine Kp.eq ?_ rfl
  funext a
  by_cases e : a = b
  · simp only [if_pos e]
  · simp only [if_neg e]
/-- nothing held -/
noncomputable def Kp.emp (o : OsState) : Kp := ⟨fun _ => none, fun _ => none, o⟩
theorem Kp.wi_emp (K : Kp) (o : OsState) : K.wi (Kp.emp o) = K := rfl
theorem Apart.emp (K : Kp) (F : PH) (o : OsState) : Apart (Kp.emp o) K F := ⟨fun _ _ e => (nomatch e), fun _ _ e => nomatch e⟩

section
variable {w : World} {K : Kp} {F F' : PH} {cs : List CellAt} {L : Addr} {xs : List Str} {vs : List MV} {s : Shared}
/-- the frame and the cells held as one part -/
theorem St.suspend (h : St w K F cs L xs vs s) : ∃ H, (∀ i, H.G i = none) ∧ SF w (K.wi H) F [] s ∧ Apart H K F ∧
    ∀ K' F' s', PH.le F F' → SF w (K'.wi H) F' [] s' → Apart H K' F' → St w K' F' cs L xs vs s' := by
  let H : Kp := ⟨fun a => if a = L ∨ a ∈ foots cs then s.heap.get? a else none, fun _ => none, K.o⟩
  have hin : ∀ a, (a = L ∨ a ∈ foots cs) → ∃ o, s.heap.get? a = some o ∧ H.B a = some o := fun a ha => by
    have : ∃ o, s.heap.get? a = some o := by
      rcases ha with e | hm
      · rw [e]; exact h.alive
      · exact (h.ap a hm).2.2
    obtain ⟨o, e⟩ := this
    exact ⟨o, e, (if_pos ha).trans e⟩
  have hout : ∀ a, ¬ (a = L ∨ a ∈ foots cs) → H.B a = none := fun a ha => if_neg ha
  have hKF : ∀ a, (a = L ∨ a ∈ foots cs) → K.B a = none ∧ F a = none := fun a ha => by
    rcases ha with e | hm
    · rw [e]; exact ⟨h.lB, h.lF⟩
    · exact ⟨(h.ap a hm).2.1, (h.ap a hm).1⟩
  have hb : ∀ a o, H.B a = some o → (a = L ∨ a ∈ foots cs) ∧ s.heap.get? a = some o := fun a o e => by
    by_cases q : a = L ∨ a ∈ foots cs
    · exact ⟨q, (if_pos q).symm.trans e⟩
    · rw [hout a q] at e; cases e
  refine ⟨H, fun _ => rfl, ⟨h.fz, fun a x e => ?_, fun x hx => (nomatch hx), List.nodup_nil, fun a ha => (nomatch ha), fun a o e => ?_, h.top, ⟨fun i x e => h.gens.1 i x e, h.gens.2⟩, h.os⟩, ⟨fun a o e => hKF a (hb a o e).1, fun i x e => by cases e⟩, ?_⟩
  · cases q : H.B a with
    | none => rw [Kp.wi_n q] at e; exact h.kp a x e
    | some o => rw [Kp.wi_b q] at e; cases e; exact (hb a _ q).2
  · refine Kp.wi_ok (hout a fun q => ?_) (h.fb a o e)
    rw [(hKF a q).2] at e; cases e
  · intro K' F' s' hF h' ap
    have hkeep : ∀ a, (a = L ∨ a ∈ foots cs) → ∀ o, s.heap.get? a = some o → s'.heap.get? a = some o := fun a ha o e => by
      obtain ⟨o', e1, e2⟩ := hin a ha
      rw [e] at e1; cases e1
      exact h'.kp a o (Kp.wi_b e2)
    have hK' : ∀ a, (a = L ∨ a ∈ foots cs) → K'.B a = none ∧ F' a = none := fun a ha => by
      obtain ⟨o', e1, e2⟩ := hin a ha
      exact ap.b a o' e2
    refine ⟨⟨h'.fz, fun a x e => ?_, fun x hx => (h.cl x hx).mono hF (asLe.refl _) fun b hm => hkeep b (.inr (mem_foots hx hm)), h.nd, fun a ha => ?_, fun a o e => ?_, h'.top, ⟨fun i x e => h'.gens.1 i x e, h'.gens.2⟩, h'.os⟩, ?_, h.lf, (hK' L (.inl rfl)).2, (hK' L (.inl rfl)).1⟩
    · refine h'.kp a x ?_
      rw [Kp.wi_n (hout a fun q => by rw [(hK' a q).1] at e; cases e)]; exact e
    · obtain ⟨o, e1, _⟩ := hin a (.inr ha)
      exact ⟨(hK' a (.inr ha)).2, (hK' a (.inr ha)).1, o, hkeep a (.inr ha) o e1⟩
    · exact (Kp.wi_nn (h'.fb a o e)).2
    · obtain ⟨m, hn, hm⟩ := h.ns
      exact ⟨m, hn.at' (hkeep L (.inl rfl)), hm.mono hF (asLe.refl _)⟩

/-- what a suspended generator still yields -/
noncomputable def Waked (w : World) (A : Around) (gs : GenState) (s : Shared) (P : End → Shared → Prop) : Prop := match gs with
  | .fresh c => SX w A c (denote table c) [] s P
  | .suspended k _ c _ fs _ => SX w A c (k (.send .none)) fs s P
  | _ => False
noncomputable def LiveP (w : World) (A : Around) (gs : GenState) (H : Kp) (F : PH) (E : Kp → PH → End → Shared → Prop) : Prop :=
  ∀ K' F' s', PH.le F F' → SF w (K'.wi H) F' [] s' → Apart H K' F' → Waked w A gs s' (E K' F')
noncomputable def Emits (w : World) (A : Around) : List MV → Kp → PH → End → Shared → Prop
  | [], K, F, e, s => e = .ret (.ok (.ret .none)) ∧ ∃ F', PH.le F F' ∧ SF w K F' [] s
  | y :: ys, K, F, e, s => ∃ v F' H, e.result = .yielded v ∧ e.quiet = true ∧ PH.le F F' ∧ DV w F' [] y v ∧ SF w (K.wi H) F' [] s ∧ Apart H K F' ∧ LiveP w A e.genState H F' (Emits w A ys)
noncomputable def Live (w : World) (A : Around) (ys : List MV) (gs : GenState) (H : Kp) (F : PH) : Prop := LiveP w A gs H F (Emits w A ys)
theorem Live.mono {A : Around} {ys : List MV} {gs : GenState} {H : Kp} (h : Live w A ys gs H F) (hF : PH.le F F') : Live w A ys gs H F' := fun K' F'' s' l => h K' F'' s' (hF.trans l)

/-- statements of a generator's body: what they yield, and what holds behind them -/
structure GX (c : Cx) (n : Nat) (cs : List CellAt) (vs : List MV) (ss : List Stmt) (ys : List MV) (P : Fl → List CellAt → List MV → Prop) : Prop where
  go : ∀ (A : Around) (co : Code) (fs : List Frame) (K Hin : Kp) (F : PH) (s : Shared) (KK : Flow → Sem Fin) (HH : Value → Sem Fin) (gd : Bool → Bool) (lv : List Value → List Value) (rest : List MV),
    Room n (A.over co fs) → splitAtGen fs = none → fs.any Frame.guarded = false → gd false = false → St c.w (K.wi Hin) F cs c.L c.xs vs s → Apart Hin K F →
    (∀ K' F' f s' fl cs' vs', PH.le F F' → St c.w (K'.wi Hin) F' cs' c.L c.xs vs' s' → Apart Hin K' F' → FlR c.w F' (adrs cs') fl f → P fl cs' vs' → SX c.w A co (KK f) fs s' (Emits c.w A rest K' F')) →
    SX c.w A co ((execs ss c.env).wrap KK HH gd lv) fs s (Emits c.w A (ys ++ rest) K F)
structure GX1 (c : Cx) (n : Nat) (cs : List CellAt) (vs : List MV) (st : Stmt) (ys : List MV) (P : Fl → List CellAt → List MV → Prop) : Prop where
  go : ∀ (A : Around) (co : Code) (fs : List Frame) (K Hin : Kp) (F : PH) (s : Shared) (KK : Flow → Sem Fin) (HH : Value → Sem Fin) (gd : Bool → Bool) (lv : List Value → List Value) (rest : List MV),
    Room n (A.over co fs) → splitAtGen fs = none → fs.any Frame.guarded = false → gd false = false → St c.w (K.wi Hin) F cs c.L c.xs vs s → Apart Hin K F →
    (∀ K' F' f s' fl cs' vs', PH.le F F' → St c.w (K'.wi Hin) F' cs' c.L c.xs vs' s' → Apart Hin K' F' → FlR c.w F' (adrs cs') fl f → P fl cs' vs' → SX c.w A co (KK f) fs s' (Emits c.w A rest K' F')) →
    SX c.w A co ((exec st c.env).wrap KK HH gd lv) fs s (Emits c.w A (ys ++ rest) K F)
end

section
variable {c : Cx} {n : Nat} {cs : List CellAt} {vs : List MV} {P : Fl → List CellAt → List MV → Prop}
theorem Emits.mono {w : World} {A : Around} {ys : List MV} {K : Kp} {F0 F : PH} {e : End} {s : Shared} (hF : PH.le F0 F) (h : Emits w A ys K F e s) : Emits w A ys K F0 e s := by
  cases ys with
  | nil => obtain ⟨h1, F', l, h2⟩ := h; exact ⟨h1, F', hF.trans l, h2⟩
  | cons y ys =>
    obtain ⟨v, F', H, h1, h2, h3, h4⟩ := h
    exact ⟨v, F', H, h1, h2, hF.trans h3, h4⟩
theorem SX.emits {w : World} {A : Around} {co : Code} {t : Sem Fin} {fs : List Frame} {s : Shared} {ys : List MV} {K : Kp} {F0 F : PH} (hF : PH.le F0 F) (h : SX w A co t fs s (Emits w A ys K F)) : SX w A co t fs s (Emits w A ys K F0) :=
  SegX.mono h fun _ _ x => x.mono hF
theorem Apart.le {H K : Kp} {F F' : PH} (h : Apart H K F) {w : World} {cs : List CellAt} {s : Shared} (S : SF w (K.wi H) F' cs s) : Apart H K F' := ⟨fun a o e => ⟨(h.b a o e).1, by
  cases q : F' a with
  | none => rfl
  | some x => have := S.fb a x q; rw [Kp.wi_b e] at this; cases this⟩, h.g⟩

theorem GX.nil (h : P .next cs vs) : GX c n cs vs [] [] P := .mk fun A co fs K Hin F s KK HH gd lv rest hA h1 h2 h3 S ap hK =>
  hK K F .next s .next cs vs (PH.le.refl _) S ap .next h
theorem GX.cons {st : Stmt} {r : List Stmt} {y1 y2 : List MV} (h : GX1 c n cs vs st y1 (fun fl cs' vs' => match fl with | .next => GX c n cs' vs' r y2 P | fl => y2 = [] ∧ P fl cs' vs')) : GX c n cs vs (st :: r) (y1 ++ y2) P := .mk fun A co fs K Hin F s KK HH gd lv rest hA h1 h2 h3 S ap hK => by
  rw [execs_cons_wrap, List.append_assoc]
  refine h.go A co fs K Hin F s _ HH gd lv (y2 ++ rest) hA h1 h2 h3 S ap fun K' F' f s' fl cs' vs' l S' ap' r' p => ?_
  cases r' with
  | next => exact GX.go p A co fs K' Hin F' s' KK HH gd lv rest hA h1 h2 h3 S' ap' fun K'' F'' f' s'' fl' cs'' vs'' l' => hK K'' F'' f' s'' fl' cs'' vs'' (l.trans l')
  | brk => obtain ⟨rfl, p⟩ := p; exact hK K' F' _ s' .brk cs' vs' l S' ap' .brk p
  | cont => obtain ⟨rfl, p⟩ := p; exact hK K' F' _ s' .cont cs' vs' l S' ap' .cont p
  | ret d => obtain ⟨rfl, p⟩ := p; exact hK K' F' _ s' _ cs' vs' l S' ap' (.ret d) p
/-- a statement that yields nothing -/
theorem GX1.of {st : Stmt} (h : EX1 c n cs vs st P) : GX1 c n cs vs st [] P := .mk fun A co fs K Hin F s KK HH gd lv rest hA h1 h2 h3 S ap hK =>
  sx_wrap (h.go (A.over co fs) (K.wi Hin) F s _ hA S fun F' f s' fl cs' vs' l S' r p => (hK K F' f s' fl cs' vs' l S' (ap.le S'.toSF) r p).emits l)
theorem GX1.mono {st : Stmt} {ys : List MV} {P' : Fl → List CellAt → List MV → Prop} (h : GX1 c n cs vs st ys P) (hP : ∀ fl cs' vs', P fl cs' vs' → P' fl cs' vs') : GX1 c n cs vs st ys P' := .mk fun A co fs K Hin F s KK HH gd lv rest hA h1 h2 h3 S ap hK =>
  h.go A co fs K Hin F s KK HH gd lv rest hA h1 h2 h3 S ap fun K' F' f s' fl cs' vs' l S' ap' r p => hK K' F' f s' fl cs' vs' l S' ap' r (hP _ _ _ p)
theorem GX1.ite {t : Expr} {b1 b2 : List Stmt} {pos : Pos} {b : Bool} {ys : List MV} (ht : TV c n cs vs t b) (h1 : b = true → GX c n cs vs b1 ys P) (h2 : b = false → GX c n cs vs b2 ys P) : GX1 c n cs vs (.If t b1 b2 pos) ys P := .mk fun A co fs K Hin F s KK HH gd lv rest hA q1 q2 q3 S ap hK => by
  show SX c.w A co (.at pos fun _ => ((isTrue t c.env (eval t c.env)) >>= fun b => if b = true then execs b1 c.env else execs b2 c.env).wrap KK HH gd lv) fs s _
  refine sx_at (sx_bw (ht.go (A.over co fs) (K.wi Hin) F s _ hA S fun F' s' l S' => ?_))
  cases b with
  | true => exact ((h1 rfl).go A co fs K Hin F' s' KK HH gd lv rest hA q1 q2 q3 S' (ap.le S'.toSF) fun K'' F'' f' s'' fl' cs'' vs'' l' => hK K'' F'' f' s'' fl' cs'' vs'' (l.trans l')).emits l
  | false => exact ((h2 rfl).go A co fs K Hin F' s' KK HH gd lv rest hA q1 q2 q3 S' (ap.le S'.toSF) fun K'' F'' f' s'' fl' cs'' vs'' l' => hK K'' F'' f' s'' fl' cs'' vs'' (l.trans l')).emits l

/-- a value is yielded -/
theorem GX1.yield {e : Expr} {yp pos : Pos} {m : MV} (h : EV c n cs vs e m) (hm : m.nc = true) (hP : P .next cs vs) (hco : c.sc.isCoroutine = false) (hi : interactive c.env = false := by rfl) :
    GX1 c n cs vs (.Expr (.Yield (some e) yp) pos) [m] P := .mk fun A co fs K Hin F s KK HH gd lv rest hA q1 q2 q3 S ap hK => by
  rw [exec_Expr c.env _ pos hi rfl]
  show SX c.w A co (.at pos fun _ => ((eval e c.env >>= fun v => (standAt yp >>= fun _ => yieldOut c.env v)) >>= fun x => dropValue (.Yield (some e) yp) pos x).wrap KK HH gd lv) fs s _
  have hy : ∀ v, yieldOut c.env v = yieldValue v := fun v => by simp only [yieldOut, show c.env.scope.isCoroutine = false from hco, Bool.false_eq_true, if_false]
  simp only [hy]
  refine sx_at ?_
  rw [Sem.bind_eq_wrap', Sem.bind_eq_wrap', Sem.wrap_wrap, Sem.wrap_wrap]
  refine sx_wrap (h.go (A.over co fs) (K.wi Hin) F s _ hA S fun F1 v s1 l1 S1 d1 => ?_)
  refine sx_at ?_
  have hg0 : gd (id (id false)) = false := q3
  show SX c.w A co (.yield v (gd (id (id false))) (lv _) _) fs s1 _
  rw [hg0]
  refine sx_yield q1 q2 fun p => ?_
  obtain ⟨H, hG, S2, ap2, back⟩ := S1.suspend
  rw [Kp.wi_assoc] at S2
  refine ⟨v, F1, Hin.wi H, rfl, by simp [End.quiet, q2], l1, d1.pure hm, S2, ⟨fun a o e => ?_, fun i x e => ?_⟩, ?_⟩
  · cases q : H.B a with
    | none => rw [Kp.wi_n q] at e; exact (ap.le S1.toSF).b a o e
    | some o' => exact ⟨(Kp.wi_nn (ap2.b a o' q).1).2, (ap2.b a o' q).2⟩
  · rw [Kp.wi_gn (hG i)] at e; exact ap.g i x e
  · intro K' F' s' l2 S3 ap3
    show SX c.w A co (KK .next) fs s' (Emits c.w A rest K' F')
    have hout : ∀ a o, Hin.B a = some o → H.B a = none := fun a o e => by
      cases q : H.B a with
      | none => rfl
      | some x => have := (Kp.wi_nn (ap2.b a x q).1).1; rw [e] at this; cases this
    rw [← Kp.wi_assoc] at S3
    have ap5 : Apart Hin K' F' := ⟨fun a o e => ap3.b a o (by rw [Kp.wi_n (hout a o e)]; exact e), fun i x e => ap3.g i x (by rw [Kp.wi_gn (hG i)]; exact e)⟩
    have S4 := back (K'.wi Hin) F' s' l2 S3 ⟨fun a o e => ⟨Kp.wi_ok (Kp.wi_nn (ap2.b a o e).1).1 (ap3.b a o (Kp.wi_b e)).1, (ap3.b a o (Kp.wi_b e)).2⟩, fun i x e => by rw [hG i] at e; cases e⟩
    exact hK K' F' .next s' .next cs vs (l1.trans l2) S4 ap5 .next hP
end
end Mine
open PySem PySem.W PySem.W.X PyProof.Rows
namespace Mine
set_option Elab.async false
set_option linter.unusedVariables false

section
variable {w : World} {A : Around} {co : Code} {fs : List Frame} {s : Shared} {P : End → Shared → Prop}
theorem room_for {n : Nat} {t : Expr} {it : Value} {body orelse : List Stmt} {env : Env} {k : Result → Sem Fin} {g : Bool} {l : List Value} {p : Pos} {kp} (h : Room n (A.over co fs)) : Room n (A.over (.forLoop t it body orelse env) (.ret k none g l co p kp :: fs)) where
  handled := h.handled
  depth := by
    have := h.depth
    simp only [Around.over, List.map_cons, Frame.where_, frameCount_cons] at this ⊢
    have e : (Code.forLoop t it body orelse env).weight = 0 := rfl
    rw [e]; lia
  units := by
    have := h.units
    simp only [Around.over, List.map_cons, Frame.where_, unitsOf_cons] at this ⊢
    have e : (Code.forLoop t it body orelse env).cUnits = 0 := rfl
    rw [e]; lia

theorem sx_forTurn {t : Expr} {it : Value} {body : List Stmt} {env : Env}
    (h : wpAny (model pw w) (A.over (.forLoop t it body [] env) fs) (pyNext it) (fun r s1 => match r with
      | none => SX w A (.forLoop t it body [] env) (.pure (.again (.block [] env))) fs s1 P
      | some v => wpAny (model pw w) (A.over (.forLoop t it body [] env) fs) (letOwnedTupleGo t it v) (fun _ s2 => wpAny (model pw w) (A.over (.forLoop t it body [] env) fs) (assign t env v) (fun _ s3 =>
          SX w A (.forLoop t it body [] env) ((execs body env).wrap (fun f => match f with
            | .next | .cont => .pure (.again (.forLoop t it body [] env))
            | .brk => .pure (.done .next)
            | .ret v => .pure (.done (.ret v))) (fun e => (do noteFrame e env; theTreesLotGoes e : Sem Unit).wrap (fun _ => .raise e) .raise id id) id id) fs s3 P) NoE s2) NoE s1) NoE s) :
    SX w A (.forLoop t it body [] env) (denote table (.forLoop t it body [] env)) fs s P := by
  show SX w A _ ((forTurn t it body [] env).onRaise (fun x => do noteFrame x env; theTreesLotGoes x)) fs s P
  rw [Sem.onRaise_eq_wrap]
  unfold forTurn
  refine sx_bw (wpAny_standAt (sx_bw (wpAny_onRaise (wpAny_mono h (fun r s1 h1 => ?_) fun _ _ x => x.elim))))
  cases r with
  | none => exact h1
  | some v =>
    refine sx_bw (wpAny_mono h1 (fun _ s2 h2 => ?_) fun _ _ x => x)
    refine sx_bw (wpAny_mono h2 (fun _ s3 h3 => ?_) fun _ _ x => x)
    rw [Sem.bind_eq_wrap', Sem.wrap_wrap]
    rw [Sem.wrap_congr (execs body env) _ _ (K' := fun f => match f with
            | .next | .cont => .pure (.again (.forLoop t it body [] env))
            | .brk => .pure (.done .next)
            | .ret v => .pure (.done (.ret v))) (H' := (fun e => (do noteFrame e env; theTreesLotGoes e : Sem Unit).wrap (fun _ => .raise e) .raise id id))
        (fun f => by cases f <;> rfl)
        (fun e => by first | exact Sem.bind_eq_wrap _ _ | (show (do noteFrame e env; theTreesLotGoes e : Sem Unit).bind (fun _ => .raise e) = _; rw [Sem.bind_eq_wrap]))]
    exact h3
theorem sx_forEnd {t : Expr} {it : Value} {body : List Stmt} {env : Env} (h : SX w A (.block [] env) (.pure (.done .next)) fs s P) : SX w A (.forLoop t it body [] env) (.pure (.again (.block [] env))) fs s P :=
  sx_again rfl h

theorem sx_For {t iter : Expr} {body : List Stmt} {pos : Pos} {env : Env} {KK : Flow → Sem Fin} {HH : Value → Sem Fin} {gd : Bool → Bool} {lv : List Value → List Value} {x : Value} {s : Shared}
    (h : wpAny (model pw w) (A.over co fs) (eval iter env) (fun x s1 => wpAny (model pw w) (A.over co fs) (pyIter x) (fun it s2 => ∀ p k kp, (∀ f, k (.ok f) = KK f) →
      SX w A (.forLoop t it body [] env) (denote table (.forLoop t it body [] env)) (.ret k none (gd false) (lv []) co p kp :: fs) s2 P) NoE s1) NoE s)
    (hs : ∀ x, foldedSetIterable iter env x = pure x) : SX w A co ((exec (.For t iter body [] pos) env).wrap KK HH gd lv) fs s P := by
  rw [exec_For]
  refine sx_bw (wpAny_standAt (sx_bw (wpAny_mono h (fun x s1 h1 => ?_) fun _ _ e => e)))
  refine sx_bw (wpAny_of_eq (hs x) ?_)
  refine sx_bw (wpAny_standAt (sx_bw (wpAny_holding (wpAny_mono h1 (fun it s2 h2 => ?_) fun _ _ e => e))))
  refine sx_call (k := fun r => ((match r with | .ok f => (.pure f : Sem Flow) | .error e => .raise e).onRaise fun (x : Value) => do
        if (← field x 1) == Value.none then unsupported "frame.own-activation:exception-without-traceback"
        setFlight x env.frame).wrap KK HH gd lv) fun p => ?_
  exact h2 p _ _ fun f => rfl
end

section
variable {c : Cx} {n : Nat} {cs : List CellAt} {vs : List MV} {P : Fl → List CellAt → List MV → Prop}
/-- a for over a list that is frozen, in a generator's body -/
theorem GX1.forL {t iter : Expr} {body : List Stmt} {pos : Pos} {items : List MV} {ys0 : List MV} (I : Nat → List MV → List CellAt → List MV → Prop) (hi : EV c n cs vs iter (.list items))
    (turn : ∀ i x ys cs vs, items[i]? = some x → I i ys cs vs → ∃ vs1 y1 y2, ys = y1 ++ y2 ∧ AS c n cs vs t x vs1 ∧ GX c n cs vs1 body y1 (fun fl cs' vs' => match fl with | .next | .cont => I (i + 1) y2 cs' vs' | _ => False))
    (h0 : I 0 ys0 cs vs) (hend : ∀ ys cs' vs', I items.length ys cs' vs' → ys = [] ∧ P .next cs' vs')
    (hs : ∀ x, foldedSetIterable iter c.env x = pure x := by intro _; kernel_rfl) : GX1 c n cs vs (.For t iter body [] pos) ys0 P := .mk fun A co fs K Hin F s KK HH gd lv rest hA q1 q2 q3 S ap hK => by
  refine sx_For (x := .none) (hi.go (A.over co fs) (K.wi Hin) F s _ hA S fun F1 v s1 l1 S1 d1 => ?_) hs
  apply d1.listI; intro l o us e q d
  have hl1 := q.isList (S1.fz _ _ e)
  refine wpAny_pyIter_list hl1 fun p k kp hkk => ?_
  have hA2 := fun it => room_for (t := t) (it := it) (body := body) (orelse := []) (env := c.env) (k := k) (g := gd false) (l := lv []) (p := p) (kp := kp) hA
  have hnone : s1.heap.get? s1.heap.objs.size = none := get_of_ge (Nat.le_refl _)
  have hfree := S1.free hnone
  have S2 := S1.push { cls := .type "list_iterator", data := .fields #[.ref l, .int 0 0] } s1.toks
  have hit0 : (s1.heap.push { cls := .type "list_iterator", data := .fields #[.ref l, .int 0 0] }).IsListIter s1.heap.objs.size l 0 := ⟨_, Heap.get?_push_size _ rfl, rfl, rfl⟩
  generalize s1.heap.objs.size = it at hfree hit0 ⊢
  have hfs2 : splitAtGen (.ret k none (gd false) (lv []) co p kp :: fs) = none := by simp only [splitAtGen, q1, Option.map_none]
  have hgd2 : (Frame.ret k none (gd false) (lv []) co p kp :: fs).any Frame.guarded = false := by simp only [List.any_cons, Frame.guarded, q3, q2, Bool.or_false]
  refine SX.emits l1 ?_
  have main : ∀ j i, j + i = items.length → ∀ K F' cs' vs' ys s, PH.le F1 F' → St c.w (K.wi Hin) F' cs' c.L c.xs vs' s → Apart Hin K F' → Free (K.wi Hin) F' cs' c.L it → s.heap.IsListIter it l i → I i ys cs' vs' →
      SX c.w A (.forLoop t (.ref it) body [] c.env) (denote table (.forLoop t (.ref it) body [] c.env)) (.ret k none (gd false) (lv []) co p kp :: fs) s (Emits c.w A (ys ++ rest) K F') := by
    intro j
    induction j with
    | zero =>
      intro i hi K3 F3 cs3 vs3 ys s3 l3 S3 ap3 f3 hit3 i3
      obtain rfl : i = items.length := by lia
      have hl3 := q.isList (S3.fz _ _ (l3 _ _ e))
      refine sx_forTurn (wpAny_pyNext_list_end (hA2 _).handled hit3 hl3 (by rw [← Array.getElem?_toList]; exact List.getElem?_eq_none (by rw [← d.length]; exact Nat.le_refl _)) fun h' hs4 => ?_)
      have S4 : St c.w (K3.wi Hin) F3 cs3 c.L c.xs vs3 { s3 with heap := h', toks := s3.toks } := S3.sameBut f3 fun a o ha' e' => hs4 a o ha' e'
      refine sx_forEnd (sx_pop ?_)
      rw [hkk]
      obtain ⟨rfl, p'⟩ := hend ys cs3 vs3 i3
      exact hK K3 F3 _ _ .next cs3 vs3 (l1.trans l3) S4 ap3 .next p'
    | succ j ih =>
      intro i hi K3 F3 cs3 vs3 ys s3 l3 S3 ap3 f3 hit3 i3
      have hl3 := q.isList (S3.fz _ _ (l3 _ _ e))
      obtain ⟨x, hx⟩ : ∃ x, items[i]? = some x := ⟨_, List.getElem?_eq_getElem (by lia)⟩
      obtain ⟨v, hv, dv⟩ := d.get hx
      obtain ⟨vs4, y1, y2, rfl, ha, hb⟩ := turn i x ys cs3 vs3 hx i3
      refine sx_forTurn (wpAny_pyNext_list_item hit3 hl3 (toList_get hv) fun h' hit4 hs4 => ?_)
      have S4 : St c.w (K3.wi Hin) F3 cs3 c.L c.xs vs3 { s3 with heap := h', toks := s3.toks } := S3.sameBut f3 fun a o ha' e' => (hs4.2 a ha').trans e'
      obtain ⟨oi, ei, ci, di⟩ := hit4
      refine letGo_list (l := l) (i := i + 1) ⟨oi, ei, ci, di⟩ ?_
      have S5 := S4.hold f3 ei
      have hHb : Hin.B it = none := (Kp.wi_nn f3.b).1
      have ap5 : Apart (Hin.hold it oi) K3 F3 := ⟨fun a o e => by
        unfold Kp.hold at e
        dsimp only at e
        by_cases z : a = it
        · subst z; exact ⟨(Kp.wi_nn f3.b).2, f3.f⟩
        · rw [if_neg z] at e; exact ap3.b a o e, ap3.g⟩
      refine ha.go (A.over _ _) ((K3.wi Hin).hold it oi) F3 _ _ v (hA2 _) S5 (dv.mono l3 (asLe.nil _)) fun F5 s5 l5 S6 => ?_
      rw [hold_wi] at S6
      rw [List.append_assoc]
      refine SX.emits l5 (hb.go A _ _ K3 (Hin.hold it oi) F5 s5 _ _ id id (y2 ++ rest) (hA2 _) hfs2 hgd2 rfl S6 (ap5.le S6.toSF) fun K6 F6 f s6 fl cs6 vs6 l6 S7 ap7 r pf => ?_)
      have hb6 : K6.B it = none ∧ F6 it = none := ap7.b it oi (if_pos rfl)
      have ap8 : Apart Hin K6 F6 := ⟨fun a o e => ap7.b a o (by
        unfold Kp.hold; dsimp only
        rw [if_neg (show ¬ a = it from fun z => by rw [z, hHb] at e; cases e)]; exact e), ap7.g⟩
      rw [← hold_wi] at S7
      obtain ⟨S8, f8, e8⟩ := S7.unhold (Kp.wi_ok hHb hb6.1)
      cases r with
      | next => exact sx_again rfl (ih (i + 1) (by lia) K6 F6 cs6 vs6 y2 s6 (l3.trans (l5.trans l6)) S8 ap8 f8 ⟨oi, e8, ci, di⟩ pf)
      | cont => exact sx_again rfl (ih (i + 1) (by lia) K6 F6 cs6 vs6 y2 s6 (l3.trans (l5.trans l6)) S8 ap8 f8 ⟨oi, e8, ci, di⟩ pf)
      | brk => exact pf.elim
      | ret dr => exact pf.elim
  exact main items.length 0 (by lia) K F1 cs vs ys0 _ (PH.le.refl _) S2 (ap.le S1.toSF) hfree hit0 h0
end
end Mine
open PySem PySem.W PySem.W.X PyProof.Rows
namespace Mine
set_option Elab.async false
set_option linter.unusedVariables false

section
variable {w : World} {A : Around} {s : Shared}
theorem wpAny_resumeX {α : Type} {g : Nat} {gs : GenState} {l : List Value} {k : GenResult → Sem α} {Q : α → Shared → Prop} {E : Value → Shared → Prop} (hg : s.gens[g]? = some gs)
    (hw : Waked w A gs (s.setGen g .running) (fun e s₁ => wpAny (model pw w) A (k e.result) Q E (s₁.setGen g e.genState))) : wpAny (model pw w) A (.resume g (.send .none) l k) Q E s := by
  cases gs with
  | fresh c => exact fun Γ p hΓ => wake_any α pw w hg (.inl ⟨rfl, rfl, rfl, rfl⟩) (fun Γ => Γ.In A) (fun _ h => h) (SegX.mono hw fun _ _ h Γ p hC => h Γ p hC) Γ p hΓ
  | suspended k₀ l₀ c₀ p₀ fs₀ cl => exact fun Γ p hΓ => wake_any α pw w hg (.inr ⟨k₀, l₀, p₀, cl, rfl, rfl⟩) (fun Γ => Γ.In A) (fun _ h => h) (SegX.mono hw fun _ _ h Γ p hC => h Γ p hC) Γ p hΓ
  | running => exact hw.elim
  | finished => exact hw.elim
theorem wpAny_nextX {a : Addr} {g : Nat} {gs : GenState} {Q : Option Value → Shared → Prop} {E : Value → Shared → Prop} (hh : A.handled = none) (hl : s.heap.NoLimit) (hroom : A.depth < recursionLimit) (hg : s.heap.IsGen a g) (hgs : s.gens[g]? = some gs)
    (hw : Waked w A.in1 gs (s.setGen g .running) (fun e s₁ => (e = .ret (.ok (.ret .none)) ∧ ∀ h', Keep s₁.heap h' → Q none { s₁.setGen g .finished with heap := h' }) ∨ ∃ v, e.result = .yielded v ∧ Q (some v) (s₁.setGen g e.genState))) :
    wpAny (model pw w) A (pyNext (.ref a)) Q E s := by
  unfold pyNext
  refine wpAny_bind (wpAny_attempt (wpAny_callSpecial?_slot (name := Str.ofString "__next__") hg.typeIs slot_gen_next
    (wpAny_call_entry slot_gen_next hg.typeIs entry_gen_next ?_ (args_gen_next _))))
  show wpAny _ A.in1 (Builtin.Generator.genWake (.ref a) (.send .none)) _ _ s
  unfold Builtin.Generator.genWake
  refine wpAny_bind (wpAny_holding (wpAny_genNumber hg (wpAny_bind (wpAny_genState hgs ?_))))
  cases gs with
  | running => exact hw.elim
  | finished => exact hw.elim
  | _ =>
    refine wpAny_bind (wpAny_roomToWake hl hroom ?_)
    show wpAny _ A.in1 (.resume g (.send .none) [] _) _ _ s
    refine wpAny_resumeX hgs (SegX.mono hw ?_)
    rintro e s₁ (⟨rfl, hp⟩ | ⟨v, hv, hq⟩)
    · show wpAny _ A.in1 (newExc (.type "StopIteration") [] >>= _) _ _ _
      refine wpAny_bind ?_
      simp only [newExc, newTuple]
      refine wpAny_bind (wpAny_newObj_type ?_ (by size_fits))
      refine wpAny_bind (m := firstArgMember _ _) (wpAny_of_eq (a := Value.none) (by first | rfl | (simp only [firstArgMember]; rfl)) ?_)
      refine wpAny_newObj_type ?_ (by size_fits)
      simp only [raiseNew]
      refine wpAny_bind (wpAny_bind (wpAny_handled ?_))
      first | rw [show A.in1.handled = none from hh] | rw [hh]
      refine wpAny_throw ?_
      refine wpAny_bind (wpAny_isInstance (T := "StopIteration") (b := true) ⟨_, Heap.get?_push_size _ rfl, rfl⟩ isSubtype_stop ?_)
      exact wpAny_pure (hp _ fun b o hb => Heap.get?_push_of_some _ (Heap.get?_push_of_some _ hb))
    · rw [hv]
      exact wpAny_pure ⟨v, rfl, wpAny_pure hq⟩
end
theorem gens_setGen_size (s : Shared) (g : Nat) (x : GenState) : (s.setGen g x).gens.size = s.gens.size := by
  unfold Shared.setGen
  first | simp | (simp [Array.size_setIfInBounds])
theorem gens_setGen_ne (s : Shared) {g i : Nat} (x : GenState) (h : i ≠ g) : (s.setGen g x).gens[i]? = s.gens[i]? := by
  unfold Shared.setGen
  simp [Ne.symm h]
theorem gens_setGen_mem (s : Shared) {g : Nat} {x y : GenState} (h : y ∈ (s.setGen g x).gens) : y = x ∨ y ∈ s.gens := by
  obtain ⟨i, hi, rfl⟩ := Array.mem_iff_getElem.mp h
  by_cases e : i = g
  · subst e
    left
    have := setGen_self (s := s) (g := i) (x := x) (gs := s.gens[i]'(by rw [gens_setGen_size] at hi; exact hi)) (Array.getElem?_eq_getElem _)
    rw [Array.getElem?_eq_getElem hi] at this
    exact Option.some.inj this
  · right
    have := gens_setGen_ne s x e
    rw [Array.getElem?_eq_getElem hi] at this
    obtain ⟨_, e'⟩ := Array.getElem?_eq_some_iff.mp this.symm
    rw [← e']; exact Array.getElem_mem _
section
variable {w : World} {K K2 : Kp} {F F' : PH} {cs : List CellAt} {L : Addr} {xs : List Str} {vs : List MV} {s : Shared}
theorem SF.setGen {g : Nat} {x y : GenState} (h : SF w K F cs s) (hy : s.gens[g]? = some y) (hb : x.bare = true) (hB : K2.B = K.B) (ho : K2.o = K.o) (hG : ∀ i z, K2.G i = some z → (i = g ∧ z = x) ∨ (i ≠ g ∧ K.G i = some z)) : SF w K2 F cs (s.setGen g x) where
  fz := h.fz
  kp := hB ▸ h.kp
  cl := h.cl
  nd := h.nd
  ap := fun a ha => hB ▸ h.ap a ha
  fb := hB ▸ h.fb
  top := h.top
  gens := ⟨fun i z e => by
    rcases hG i z e with ⟨rfl, rfl⟩ | ⟨hne, e⟩
    · exact setGen_self hy
    · rw [gens_setGen_ne s x hne]; exact h.gens.1 i z e, fun z hz => by
      rcases gens_setGen_mem s hz with rfl | hz
      · exact hb
      · exact h.gens.2 z hz⟩
  os := by rw [ho]; exact h.os

/-- a generator that is suspended is asked for the next -/
theorem wpAny_next_gen {A : Around} {n : Nat} {H : Kp} {v : Value} {g : Nat} {gs : GenState} {ys : List MV} {as : List Addr} {Q : Option Value → Shared → Prop} (hA : Room (n + 1) A) (hd : DV w F as (.gen g) v) (live : Live w A.in1 ys gs H F) (hHg : H.G g = none)
    (S : St w (K.wi (H.gset g gs)) F cs L xs vs s) (ap : Apart (H.gset g gs) K F)
    (hy : ∀ y ys', ys = y :: ys' → ∀ F' u s' gs' H', PH.le F F' → St w (K.wi (H'.gset g gs')) F' cs L xs vs s' → Apart (H'.gset g gs') K F' → H'.G g = none → DV w F' [] y u → Live w A.in1 ys' gs' H' F' → Q (some u) s')
    (hn : ys = [] → ∀ F' s', PH.le F F' → St w K F' cs L xs vs s' → Q none s') : wpAny (model pw w) A (pyNext v) Q NoE s := by
  apply hd.genI; intro a o e ig
  obtain ⟨Hc, hG, S2, ap2, back⟩ := S.suspend
  have hg : s.heap.IsGen a g := by
    obtain ⟨c1, ⟨nm, qn, c2⟩, c3⟩ := ig
    exact ⟨o, nm, qn, S.fz _ _ e, c1, c2, c3⟩
  have hself : (H.gset g gs).G g = some gs := if_pos rfl
  have hgs : s.gens[g]? = some gs := S.gens.1 g gs (Kp.wi_g hself)
  have hKg : K.G g = none := ap.g g gs hself
  refine wpAny_nextX hA.handled S.noLimit (by have := hA.depth; omega) hg hgs ?_
  -- the consumer's own part, the generator's part
  have hsep : ∀ b x, Hc.B b = some x → H.B b = none ∧ K.B b = none := fun b x q => by
    have := Kp.wi_nn (ap2.b b x q).1
    exact this
  have S3 : SF w (((K.wi Hc).gset g .running).wi H) F [] (s.setGen g .running) := by
    refine S2.setGen (K2 := ((K.wi Hc).gset g .running).wi H) hgs rfl ?_ rfl ?_
    · funext b
      show (match H.B b with | some o => some o | none => (match Hc.B b with | some o => some o | none => K.B b)) = (match Hc.B b with | some o => some o | none => (match H.B b with | some o => some o | none => K.B b))
      cases q : Hc.B b with
      | none => rfl
      | some x => rw [(hsep b x q).1]
    · intro i z q
      by_cases z1 : i = g
      · subst z1
        left
        rw [Kp.wi_gn hHg] at q
        rw [show ((K.wi Hc).gset i .running).G i = some .running from if_pos rfl] at q
        cases q; exact ⟨rfl, rfl⟩
      · right
        refine ⟨z1, ?_⟩
        rw [Kp.wi_gn (hG i)]
        cases r : H.G i with
        | some z' =>
          rw [Kp.wi_g r] at q
          rw [Kp.wi_g (show (H.gset g gs).G i = some z' from (if_neg z1).trans r)]
          exact q
        | none =>
          rw [Kp.wi_gn r] at q
          have : ((K.wi Hc).gset g .running).G i = K.G i := (if_neg z1).trans (Kp.wi_gn (hG i))
          rw [this] at q
          rw [Kp.wi_gn (show (H.gset g gs).G i = none from (if_neg z1).trans r)]
          exact q
  have ap3 : Apart H ((K.wi Hc).gset g .running) F := ⟨fun b x q => (by
    have h1 := ap.b b x q
    refine ⟨?_, h1.2⟩
    show (K.wi Hc).B b = none
    refine Kp.wi_ok ?_ h1.1
    cases r : Hc.B b with
    | none => rfl
    | some z => rw [(hsep b z r).1] at q; cases q), fun i x q => by
    have hne : i ≠ g := fun z => by rw [z, hHg] at q; cases q
    show (if i = g then _ else (K.wi Hc).G i) = none
    rw [if_neg hne, Kp.wi_gn (hG i)]
    exact ap.g i x ((if_neg hne).trans q)⟩
  have hWk := live ((K.wi Hc).gset g .running) F (s.setGen g .running) (PH.le.refl _) S3 ap3
  have conv : ∀ e1 s1, Emits w A.in1 ys ((K.wi Hc).gset g .running) F e1 s1 → (e1 = .ret (.ok (.ret .none)) ∧ ∀ h', Keep s1.heap h' → Q none { s1.setGen g .finished with heap := h' }) ∨ ∃ v, e1.result = .yielded v ∧ Q (some v) (s1.setGen g e1.genState) := by
    intro e1 s1 hE
    cases ys with
    | nil =>
      obtain ⟨h1, F', l, h2⟩ := hE
      refine .inl ⟨h1, fun h' hk => hn rfl F' _ l (back K F' _ l ?_ ?_)⟩
      · have h3 : s1.gens[g]? = some .running := h2.gens.1 g _ (if_pos rfl)
        have h4 : SF w (K.wi Hc) F' [] (s1.setGen g .finished) := h2.setGen (K2 := K.wi Hc) h3 rfl rfl rfl fun i z q => by
          right
          refine ⟨fun z1 => ?_, ?_⟩
          · rw [z1, Kp.wi_gn (hG g), hKg] at q; cases q
          · have : i ≠ g := fun z1 => by rw [z1, Kp.wi_gn (hG g), hKg] at q; cases q
            exact (if_neg this).trans q
        exact h4.ext (fun b o q => hk b o q) rfl rfl
      · exact ⟨fun b o q => ⟨(hsep b o q).2, by
          cases r : F' b with
          | none => rfl
          | some x => have := h2.fb b x r; rw [show ((K.wi Hc).gset g .running).B b = some o from Kp.wi_b q] at this; cases this⟩, fun i x q => by rw [hG i] at q; cases q⟩
    | cons y ys =>
      obtain ⟨u, F', H', h1, h2, l, h3, h4, h5, h6⟩ := hE
      refine .inr ⟨u, h1, ?_⟩
      have hH'g : H'.G g = none := by
        cases r : H'.G g with
        | none => rfl
        | some x => have := h5.g g x r; rw [show ((K.wi Hc).gset g .running).G g = some .running from if_pos rfl] at this; cases this
      have h7 : s1.gens[g]? = some .running := h4.gens.1 g _ (by rw [Kp.wi_gn hH'g]; exact if_pos rfl)
      have hsep' : ∀ b x, H'.B b = some x → Hc.B b = none ∧ K.B b = none := fun b x q => by
        have := Kp.wi_nn (show (K.wi Hc).B b = none from (h5.b b x q).1)
        exact this
      have h8 : SF w ((K.wi (H'.gset g e1.genState)).wi Hc) F' [] (s1.setGen g e1.genState) := by
        refine h4.setGen (K2 := (K.wi (H'.gset g e1.genState)).wi Hc) h7 (End.bare_of_quiet h2) ?_ rfl ?_
        · funext b
          show (match Hc.B b with | some o => some o | none => (match H'.B b with | some o => some o | none => K.B b)) = (match H'.B b with | some o => some o | none => (match Hc.B b with | some o => some o | none => K.B b))
          cases q : H'.B b with
          | none => rfl
          | some x => rw [(hsep' b x q).1]
        · intro i z q
          rw [Kp.wi_gn (hG i)] at q
          by_cases z1 : i = g
          · subst z1
            left
            rw [Kp.wi_g (show (H'.gset i e1.genState).G i = some e1.genState from if_pos rfl)] at q
            cases q; exact ⟨rfl, rfl⟩
          · right
            refine ⟨z1, ?_⟩
            cases r : H'.G i with
            | some z' =>
              rw [Kp.wi_g r]
              rw [Kp.wi_g (show (H'.gset g e1.genState).G i = some z' from (if_neg z1).trans r)] at q
              exact q
            | none =>
              rw [Kp.wi_gn r]
              rw [Kp.wi_gn (show (H'.gset g e1.genState).G i = none from (if_neg z1).trans r)] at q
              exact (if_neg z1).trans ((Kp.wi_gn (hG i)).trans q)
      refine hy y ys rfl F' u _ e1.genState H' l (back (K.wi (H'.gset g e1.genState)) F' _ l h8 ⟨fun b o q => ⟨Kp.wi_ok ?_ (hsep b o q).2, ?_⟩, fun i x q => by rw [hG i] at q; cases q⟩) ⟨fun b o q => ⟨(hsep' b o q).2, (h5.b b o q).2⟩, fun i x q => ?_⟩ hH'g h3 h6
      · show H'.B b = none
        cases r : H'.B b with
        | none => rfl
        | some x => rw [(hsep' b x r).1] at q; cases q
      · cases r : F' b with
        | none => rfl
        | some x =>
          have h9 := h4.fb b x r
          rw [Kp.wi_n (show H'.B b = none by
            cases r : H'.B b with
            | none => rfl
            | some x => rw [(hsep' b x r).1] at q; cases q)] at h9
          rw [show ((K.wi Hc).gset g .running).B b = some o from Kp.wi_b q] at h9; cases h9
      · by_cases z1 : i = g
        · rw [z1]; exact hKg
        · have := h5.g i x ((if_neg z1).symm.trans q)
          rw [show ((K.wi Hc).gset g .running).G i = (K.wi Hc).G i from if_neg z1, Kp.wi_gn (hG i)] at this
          exact this
  cases gs with
  | fresh c => exact SegX.mono hWk conv
  | suspended k₀ l₀ c₀ p₀ fs₀ cl => exact SegX.mono hWk conv
  | running => exact hWk.elim
  | finished => exact hWk.elim
end
end Mine
open PySem PySem.W PySem.W.X PyProof.Rows
namespace Mine
set_option Elab.async false
set_option linter.unusedVariables false
set_option maxRecDepth 100000

theorem Room.in1 {n : Nat} {A : Around} (h : Room (n + 1) A) : Room n A.in1 := ⟨h.handled, by have := h.depth; show A.depth + n ≤ _; lia, by have := h.units; show A.units + 1 + 10 * n ≤ _; lia⟩
theorem hold_wi' {K H : Kp} {b : Addr} {o : Obj} (h : H.B b = none) : (K.wi H).hold b o = (K.hold b o).wi H := by
  unfold Kp.wi Kp.hold
  refine Kp.eq ?_ rfl
  funext a
  by_cases e : a = b
  · subst e; simp only [if_true, h]
  · simp only [if_neg e]

section
variable {w : World} {K : Kp} {F F' : PH} {cs : List CellAt} {L : Addr} {xs : List Str} {vs : List MV} {s : Shared}
theorem Apart.hold {H : Kp} {b : Addr} {o : Obj} (h : Apart H K F) (hb : H.B b = none) : Apart H (K.hold b o) F := ⟨fun a x e => ⟨by
  show (if a = b then some o else K.B a) = none
  rw [if_neg (fun z => by rw [z, hb] at e; cases e)]; exact (h.b a x e).1, (h.b a x e).2⟩, h.g⟩
theorem Apart.unhold {H : Kp} {b : Addr} {o : Obj} (h : Apart H (K.hold b o) F) : H.B b = none ∧ (K.B b = none → Apart H K F) := by
  have hb : H.B b = none := by
    cases e : H.B b with
    | none => rfl
    | some x => have := (h.b b x e).1; rw [show (K.hold b o).B b = some o from if_pos rfl] at this; cases this
  refine ⟨hb, fun _ => ⟨fun a x e => ⟨?_, (h.b a x e).2⟩, h.g⟩⟩
  have := (h.b a x e).1
  rw [show (K.hold b o).B a = K.B a from if_neg fun z => by rw [z, hb] at e; cases e] at this
  exact this

theorem ext_loopX {n : Nat} {B : Around} (hB : Room (n + 3) B) {I S : Addr} {g : Nat} (res : Value) {R : Result → Shared → Prop} : ∀ (ys done : List MV) (acc : Array Value) (c : Nat) (gs : GenState) (H : Kp) (F : PH) (as : List Addr) (s : Shared), done.length + ys.length ≤ 100000 →
    DV w F as (.gen g) (.ref I) → Live w B.in1.in1 ys gs H F → H.G g = none → St w (K.wi (H.gset g gs)) F cs L xs vs s → Apart (H.gset g gs) K F → Free (K.wi (H.gset g gs)) F cs L S →
    s.heap.get? S = some { cls := .type "list", dict := none, data := .seq acc c, slots := #[] } → DVs w F [] done acc.toList →
    (∀ F' s' acc' c', PH.le F F' → St w K F' cs L xs vs s' → Free K F' cs L S → s'.heap.get? S = some { cls := .type "list", dict := none, data := .seq acc' c', slots := #[] } → DVs w F' [] (done ++ ys) acc'.toList → R (.ok (.ret res)) s') →
    codeAny (model pw w) B (.builtin "list.extend.loop" ⟨[.ref S, .ref I, res], []⟩) R s := by
  intro ys
  induction ys with
  | nil =>
    intro done acc c gs H F as s hz hd live hHg S1 ap fr hS hacc hR
    refine codeAny_builtin PySem.F.entry_extend_loop ?_
    rw [Around.under_plainId PySem.F.plain_extend_loop _]
    show wpAny _ B.in1 (pyNext (.ref I) >>= _) _ _ s
    have hb := Kp.wi_nn fr.b
    have S2 := S1.hold fr hS
    rw [hold_wi' hb.1] at S2
    refine wpAny_bind (wpAny_noE (wpAny_next_gen (n := n + 1) hB.in1 hd live hHg S2 (ap.hold hb.1) (fun y ys' e => by cases e) fun _ F' s' l S3 => ?_))
    obtain ⟨S4, f4, e4⟩ := S3.unhold hb.2
    exact wpAny_pure (hR F' s' acc c l S4 f4 e4 (by rw [List.append_nil]; exact hacc.mono l (asLe.refl _)))
  | cons y ys ih =>
    intro done acc c gs H F as s hz hd live hHg S1 ap fr hS hacc hR
    refine codeAny_builtin PySem.F.entry_extend_loop ?_
    rw [Around.under_plainId PySem.F.plain_extend_loop _]
    show wpAny _ B.in1 (pyNext (.ref I) >>= _) _ _ s
    have hb := Kp.wi_nn fr.b
    have S2 := S1.hold fr hS
    rw [hold_wi' hb.1] at S2
    refine wpAny_bind (wpAny_noE (wpAny_next_gen (n := n + 1) hB.in1 hd live hHg S2 (ap.hold hb.1) (fun y' ys' e F' u s' gs' H' l S3 ap3 hH'g d3 live3 => ?_) fun e => by cases e))
    cases e
    obtain ⟨hb3, ap4⟩ := ap3.unhold
    rw [← hold_wi' hb3] at S3
    obtain ⟨S4, f4, e4⟩ := S3.unhold (Kp.wi_ok hb3 hb.2)
    have hlen : acc.size = done.length := arr_len hacc
    rw [List.length_cons] at hz
    show wpAny _ B.in1 (updateSeq S (·.push u) >>= _) _ _ _
    refine wpAny_bind (wpAny_updateSeq e4 rfl ?_ (by rw [hlen]; exact Nat.le_trans (show done.length ≤ 100000 by lia) (by decide)) (by show (acc.push u).size ≤ sizeLine + 1; rw [Array.size_push, hlen]; exact Nat.le_trans (show done.length + 1 ≤ 100000 by lia) (by decide)))
    have hself := Heap.get?_update_self (Obj.mapSeq (·.push u)) e4 rfl
    have S5 : St w (K.wi (H'.gset g gs')) F' cs L xs vs { s' with heap := s'.heap.update S (Obj.mapSeq (·.push u)), toks := s'.toks } := S4.sameBut f4 fun a o ha e => (Heap.get?_update_other _ _ (Ne.symm ha)).trans e
    refine wpAny_pure ⟨plainId_quiet PySem.F.plain_extend_loop _, ih (done ++ [y]) (acc.push u) _ gs' H' F' as _ (by rw [List.length_append]; simp only [List.length_singleton]; lia) (hd.mono l (asLe.refl _)) live3 hH'g S5 (ap4 hb.2) f4 hself ?_ fun F'' s'' acc' c' l' => ?_⟩
    · rw [Array.toList_push]; exact (hacc.mono l (asLe.refl _)).append (.cons d3 .nil)
    · rw [List.append_assoc]; exact hR F'' s'' acc' c' (l.trans l')

end
end Mine
open PySem PySem.W PySem.W.X PyProof.Rows
namespace Mine
set_option Elab.async false
set_option linter.unusedVariables false
set_option maxRecDepth 100000

section
variable {w : World} {K K2 : Kp} {F F' : PH} {cs : List CellAt} {L : Addr} {xs : List Str} {vs : List MV} {s : Shared}
theorem SF.pushGen {x : GenState} (h : SF w K F cs s) (hb : x.bare = true) {hp : Heap} {t : Nat} (hk : Keep s.heap hp) : SF w (K.gset s.gens.size x) F cs { s with gens := s.gens.push x, heap := hp, toks := t } where
  fz := fun a o e => hk a o (h.fz a o e)
  kp := fun a o e => hk a o (h.kp a o e)
  cl := fun y hy => (h.cl y hy).mono (PH.le.refl _) (asLe.refl _) fun b _ o e => hk b o e
  nd := h.nd
  ap := fun a ha => let ⟨p, q, o, e⟩ := h.ap a ha; ⟨p, q, o, hk a o e⟩
  fb := h.fb
  top := h.top
  gens := ⟨fun i z e => by
    show (s.gens.push x)[i]? = some z
    by_cases q : i = s.gens.size
    · rw [show (K.gset s.gens.size x).G i = some x from if_pos q] at e
      cases e; rw [q]; exact Array.getElem?_push_size ..
    · rw [show (K.gset s.gens.size x).G i = K.G i from if_neg q] at e
      have := h.gens.1 i z e
      have hlt := (Array.getElem?_eq_some_iff.mp this).1
      rw [Array.getElem?_push, if_neg q]; exact this, fun z hz => by
    rcases Array.mem_push.mp hz with hz | rfl
    · exact h.gens.2 z hz
    · exact hb⟩
  os := h.os
theorem SF.none (h : SF w K F cs s) : SF w K F [] s := ⟨h.fz, h.kp, fun x hx => (nomatch hx), List.nodup_nil, fun a ha => (nomatch ha), h.fb, h.top, h.gens, h.os⟩
theorem room_func {n : Nat} {A : Around} {body : List Stmt} {env : Env} (h : Room (n + 1) A) : Room n (A.over (.func body env) []) where
  handled := h.handled
  depth := by
    have := h.depth
    have e : (Code.func body env).weight = 1 := rfl
    show A.depth + 0 + (Code.func body env).weight + n ≤ _
    rw [e]; lia
  units := by
    have := h.units
    have e : (Code.func body env).cUnits = 3 := rfl
    show A.units + 0 + (Code.func body env).cUnits + 10 * n ≤ _
    rw [e]; lia

end
end Mine
open PySem PySem.W PySem.W.X PyProof.Rows
namespace Mine
set_option Elab.async false
set_option linter.unusedVariables false
set_option maxRecDepth 100000

theorem DV.isGen {w : World} {F : PH} {as : List Addr} {g : Nat} {v : Value} (h : DV w F as (.gen g) v) : ∃ a o, v = .ref a ∧ F a = some o ∧ isGen o g := by
  apply h.genI; intro _ _ e i
  exact ⟨_, _, rfl, e, i⟩
theorem isGen.at {o : Obj} {g : Nat} (i : isGen o g) {h : Heap} {a : Addr} (e : h.get? a = some o) : h.IsGen a g := let ⟨c1, ⟨nm, qn, c2⟩, c3⟩ := i; ⟨o, nm, qn, e, c1, c2, c3⟩

section
variable {c : Cx} {n m : Nat} {vs : List MV} {P : Fl → List CellAt → List MV → Prop}
theorem Apart.two {Hi Hg K : Kp} {F : PH} (a1 : Apart Hi K F) (a2 : Apart Hg (K.wi Hi) F) : Apart (Hi.wi Hg) K F := ⟨fun b x e => by
  cases q : Hg.B b with
  | none => rw [Kp.wi_n q] at e; exact a1.b b x e
  | some y => exact ⟨(Kp.wi_nn (a2.b b y q).1).2, (a2.b b y q).2⟩, fun i x e => by
  cases q : Hg.G i with
  | none => rw [Kp.wi_gn q] at e; exact a1.g i x e
  | some y =>
    have := a2.g i y q
    cases r : Hi.G i with
    | none => rw [Kp.wi_gn r] at this; exact this
    | some z => rw [Kp.wi_g r] at this; cases this⟩
theorem Apart.split {Hi Hg K K0 : Kp} {F F0 : PH} (a : Apart (Hi.wi Hg) K F) (a0 : Apart Hg (K0.wi Hi) F0) : Apart Hi K F ∧ Apart Hg (K.wi Hi) F := by
  have hb : ∀ b x, Hg.B b = some x → Hi.B b = none := fun b x e => (Kp.wi_nn (a0.b b x e).1).1
  have hg : ∀ i x, Hg.G i = some x → Hi.G i = none := fun i x e => by
    have := a0.g i x e
    cases r : Hi.G i with
    | none => rfl
    | some z => rw [Kp.wi_g r] at this; cases this
  refine ⟨⟨fun b x e => a.b b x ?_, fun i x e => a.g i x ?_⟩, ⟨fun b x e => ?_, fun i x e => ?_⟩⟩
  · rw [Kp.wi_n]
    · exact e
    · cases q : Hg.B b with
      | none => rfl
      | some y => rw [hb b y q] at e; cases e
  · rw [Kp.wi_gn]
    · exact e
    · cases q : Hg.G i with
      | none => rfl
      | some y => rw [hg i y q] at e; cases e
  · have := a.b b x (Kp.wi_b e)
    exact ⟨Kp.wi_ok (hb b x e) this.1, this.2⟩
  · rw [Kp.wi_gn (hg i x e)]
    exact a.g i x (Kp.wi_g e)

theorem Apart.le2 {H J K : Kp} {F F' : PH} (h : Apart H K F) {w : World} {cs : List CellAt} {s : Shared} (S : SF w ((K.wi H).wi J) F' cs s) : Apart H K F' := ⟨fun a o e => ⟨(h.b a o e).1, by
  cases q : F' a with
  | none => rfl
  | some x => have := (Kp.wi_nn (S.fb a x q)).2; rw [Kp.wi_b e] at this; cases this⟩, h.g⟩
end
end Mine
open PySem PySem.W PySem.W.X PyProof.Rows
namespace Mine
set_option Elab.async false
set_option linter.unusedVariables false
set_option maxRecDepth 100000

noncomputable def nsOf (o : Obj) (name : Str) : Option Value := match o.data with | .dict es _ => nsFind es name | _ => none
noncomputable def nsOk (o : Obj) : Bool := match o.data with | .dict es _ => es.all (fun e => match e.key with | .str _ _ => true | _ => false) | _ => false
theorem nsOk_at {o : Obj} (h : nsOk o = true) {hp : Heap} {a : Addr} (e : hp.get? a = some o) : hp.Ns a (nsOf o) := by
  have := Heap.Ns.of_isNs (h := hp) (a := a) (by unfold Heap.isNs; rw [e]; exact h)
  have e2 : hp.nsMap a = nsOf o := by funext name; unfold Heap.nsMap nsOf; rw [e]; rfl
  rw [← e2]; exact this
section
variable {w : World} {K : Kp} {F F' : PH} {cs : List CellAt} {L : Addr} {xs : List Str} {vs : List MV} {s : Shared}
/-- an object of the top -/
noncomputable def IsTop (w : World) (a : Addr) (o : Obj) : Prop := at6 w.params a = some o
theorem isTop {a : Addr} {o : Obj} (h : at6 w.params a = some o) : IsTop w a o := h
theorem IsTop.get {a : Addr} {o : Obj} (t : IsTop w a o) (h : SF w K F cs s) : s.heap.get? a = some o := h.fz _ _ (h.top a o t)
theorem IsTop.fz {a : Addr} {o : Obj} (t : IsTop w a o) (h : SF w K F cs s) : F a = some o := h.top a o t
theorem top3 (w : World) : IsTop w 3 (B.o_392 w.params) := isTop (by kernel_rfl)
theorem top0 (w : World) : IsTop w 0 (boot_o_0 w.params) := isTop (by kernel_rfl)
theorem top242 (w : World) : IsTop w 242 (B.o_315 w.params) := isTop (by kernel_rfl)
theorem top135 (w : World) : IsTop w 135 (B.o_130 w.params) := isTop (by kernel_rfl)
theorem nsOk3 (P : Params) : nsOk (B.o_392 P) = true := by kernel_rfl
theorem nsOk0 (P : Params) : nsOk (boot_o_0 P) = true := by kernel_rfl
end

section
variable {c : Cx} {n : Nat} {cs : List CellAt} {vs : List MV}
theorem EV.glob (ok : CxOk c) {x : Str} {v : Value} {pos : Pos} (hk : (x, NameKind.globalImplicit) ∈ c.sc.names) (hv : nsOf (B.o_392 c.w.params) x = some v) (hd : (x == ("__debug__" : Str)) = false := by decide) : EV c n cs vs (.Name x pos) (.val v) := .mk fun A K F s Q _ hS hQ =>
  Calls.Name_function_global ok.kind (ok.kindOf hk) (Calls.loadGlobal_global (nsOk_at (nsOk3 _) ((top3 c.w).get hS.toSF)) hv (hQ _ _ _ (PH.le.refl _) hS (.val v))) hd
theorem EV.bi (ok : CxOk c) {x : Str} {v : Value} {pos : Pos} (hk : (x, NameKind.globalImplicit) ∈ c.sc.names) (hm : nsOf (B.o_392 c.w.params) x = none) (hv : nsOf (boot_o_0 c.w.params) x = some v) (hd : (x == ("__debug__" : Str)) = false := by decide) : EV c n cs vs (.Name x pos) (.val v) := .mk fun A K F s Q _ hS hQ =>
  Calls.Name_function_global ok.kind (ok.kindOf hk) (Calls.loadGlobal_builtin (nsOk_at (nsOk3 _) ((top3 c.w).get hS.toSF)) hm (nsOk_at (nsOk0 _) ((top0 c.w).get hS.toSF)) hv (hQ _ _ _ (PH.le.refl _) hS (.val v))) hd

/-- a call, with what it leaves -/
structure CX (c : Cx) (n : Nat) (cs : List CellAt) (vs : List MV) (f : Value) (ms : List MV) (P : MV → List CellAt → Prop) : Prop where
  go : ∀ (A : Around) (K : Kp) (F : PH) (s : Shared) (Q : Value → Shared → Prop) (us : List Value), Room n A → St c.w K F cs c.L c.xs vs s → DVs c.w F (adrs cs) ms us →
    (∀ F' v s' mv cs', PH.le F F' → St c.w K F' cs' c.L c.xs vs s' → DV c.w F' (adrs cs') mv v → asLe (adrs cs) (adrs cs') → P mv cs' → Q v s') → wpAny (model pw c.w) A (call f us) Q NoE s
theorem CS.cx {f : Value} {ms : List MV} {mv : MV} (h : CS c n cs vs f ms mv) : CX c n cs vs f ms (fun m cs' => m = mv ∧ cs' = cs) := .mk fun A K F s Q us hA S d hQ =>
  h.go A K F s Q us hA S d fun F' v s' l S' d' => hQ F' v s' mv cs l S' d' (asLe.refl _) ⟨rfl, rfl⟩
theorem CX.toCS {f : Value} {ms : List MV} {mv : MV} (h : CX c n cs vs f ms (fun m cs' => m = mv ∧ cs' = cs)) : CS c n cs vs f ms mv := .mk fun A K F s Q us hA S d hQ =>
  h.go A K F s Q us hA S d fun F' v s' m cs' l S' d' _ e => by obtain ⟨rfl, rfl⟩ := e; exact hQ F' v s' l S' d'
/-- an expression, with what it leaves -/
structure EVx (c : Cx) (n : Nat) (cs : List CellAt) (vs : List MV) (e : Expr) (P : MV → List CellAt → Prop) : Prop where
  go : ∀ (A : Around) (K : Kp) (F : PH) (s : Shared) (Q : Value → Shared → Prop), Room n A → St c.w K F cs c.L c.xs vs s →
    (∀ F' v s' mv cs', PH.le F F' → St c.w K F' cs' c.L c.xs vs s' → DV c.w F' (adrs cs') mv v → asLe (adrs cs) (adrs cs') → P mv cs' → Q v s') → wpAny (model pw c.w) A (eval e c.env) Q NoE s
theorem EV.x {e : Expr} {mv : MV} (h : EV c n cs vs e mv) : EVx c n cs vs e (fun m cs' => m = mv ∧ cs' = cs) := .mk fun A K F s Q hA S hQ =>
  h.go A K F s Q hA S fun F' v s' l S' d' => hQ F' v s' mv cs l S' d' (asLe.refl _) ⟨rfl, rfl⟩
theorem EVx.ev {e : Expr} {mv : MV} (h : EVx c n cs vs e (fun m cs' => m = mv ∧ cs' = cs)) : EV c n cs vs e mv := .mk fun A K F s Q hA S hQ =>
  h.go A K F s Q hA S fun F' v s' m cs' l S' d' _ e => by obtain ⟨rfl, rfl⟩ := e; exact hQ F' v s' l S' d'
theorem EVx.mono {e : Expr} {P P' : MV → List CellAt → Prop} (h : EVx c n cs vs e P) (hP : ∀ m cs', P m cs' → P' m cs') : EVx c n cs vs e P' := .mk fun A K F s Q hA S hQ =>
  h.go A K F s Q hA S fun F' v s' m cs' l S' d' a p => hQ F' v s' m cs' l S' d' a (hP _ _ p)

/-- a for over a list that is made on the spot -/
theorem EX1.forLX {t iter : Expr} {body : List Stmt} {pos : Pos} {P : Fl → List CellAt → List MV → Prop}
    (hi : EVx c n cs vs iter (fun m cs1 => ∃ items : List MV, ∃ I : Nat → List CellAt → List MV → Prop, m = .list items ∧ I 0 cs1 vs ∧ (∀ cs' vs', I items.length cs' vs' → P .next cs' vs') ∧
      (∀ i x cs vs, items[i]? = some x → I i cs vs → ∃ vs1, AS c n cs vs t x vs1 ∧ EX c n cs vs1 body (fun fl cs' vs' => match fl with | .next | .cont => I (i + 1) cs' vs' | .brk => P .next cs' vs' | .ret r => P (.ret r) cs' vs'))))
    (hs : ∀ x, foldedSetIterable iter c.env x = pure x := by intro _; kernel_rfl) : EX1 c n cs vs (.For t iter body [] pos) P := .mk fun A K F s Q hA hS hQ => by
  refine wpAny_For (hi.go A K F s _ hA hS fun F1 v s1 m1 cs1 l1 S1 d1 a1 p1 => ?_) hs
  obtain ⟨items, I, rfl, h0, hend, turn⟩ := p1
  apply d1.listI; intro l o us e q d
  refine wpAny_pyIter_list (q.isList (S1.fz _ _ e)) ?_
  have hf := S1.free (get_of_ge (Nat.le_refl s1.heap.objs.size))
  have S2 := S1.push { cls := .type "list_iterator", data := .fields #[.ref l, .int 0 0] } s1.toks
  have hit0 := Heap.get?_push_size s1.heap (o := { cls := .type "list_iterator", data := .fields #[.ref l, .int 0 0] }) rfl
  generalize s1.heap.objs.size = it at hf hit0 ⊢
  refine for_turns items.length (fun i o => o.cls = .type "list_iterator" ∧ o.data = .fields #[.ref l, .int i 0]) (fun i => items[i]?.getD .unb) I hA (fun F' f s' fl cs' vs' l => hQ F' f s' fl cs' vs' (l1.trans l)) (fun i cs vs hi => turn i _ cs vs (by rw [List.getElem?_eq_getElem hi]; rfl)) hend
    (fun i s3 oi G E hi lz ei hT hG => ?_) (fun s3 oi G E lz ei hT hG => ?_) S2 hf ⟨_, hit0, rfl, rfl⟩ h0
  · obtain ⟨v, hv, dv⟩ := d.get (List.getElem?_eq_getElem hi)
    refine wpAny_pyNext_list_item ⟨oi, ei, hT.1, hT.2⟩ (q.isList (lz _ _ e)) (toList_get hv) fun h' ⟨oj, ej, cj, dj⟩ hs4 => ?_
    exact hG h' s3.toks v oj ej ⟨cj, dj⟩ (fun a o ha' e' => (hs4.2 a ha').trans e') (by rw [List.getElem?_eq_getElem hi]; exact dv) fun s Q E' e' hq => letGo_list (l := l) (i := i + 1) ⟨oj, e', cj, dj⟩ hq
  · exact wpAny_pyNext_list_end hA.handled ⟨oi, ei, hT.1, hT.2⟩ (q.isList (lz _ _ e)) (by rw [← Array.getElem?_toList]; exact List.getElem?_eq_none (by rw [← d.length]; exact Nat.le_refl _)) fun h' hs4 => hG h' fun a o ha' e' => hs4 a o ha' e'
/-- a for over a list that is frozen -/
theorem EX1.forL {t iter : Expr} {body : List Stmt} {pos : Pos} {items : List MV} {P : Fl → List CellAt → List MV → Prop} (I : Nat → List CellAt → List MV → Prop) (hi : EV c n cs vs iter (.list items))
    (turn : ∀ i x cs vs, items[i]? = some x → I i cs vs → ∃ vs1, AS c n cs vs t x vs1 ∧ EX c n cs vs1 body (fun fl cs' vs' => match fl with | .next | .cont => I (i + 1) cs' vs' | .brk => P .next cs' vs' | .ret r => P (.ret r) cs' vs'))
    (h0 : I 0 cs vs) (hend : ∀ cs' vs', I items.length cs' vs' → P .next cs' vs')
    (hs : ∀ x, foldedSetIterable iter c.env x = pure x := by intro _; kernel_rfl) : EX1 c n cs vs (.For t iter body [] pos) P :=
  EX1.forLX (hi.x.mono fun m cs1 h => ⟨items, I, h.1, h.2 ▸ h0, hend, turn⟩) hs
/-- a value that can be called: a builtin, a builtin class, a def -/
inductive Callee (F : PH) : Value → Prop
  | bi (id) : Callee F (.builtin id)
  | ty (T) : Callee F (.type T)
  | fn {a o fd} : F a = some o → o.data = .func fd → Callee F (.ref a)
theorem Callee.go {w : World} {env : Env} {F : PH} {f : Value} {first : List Value} {pos : Pos} {args : List (Bool × Sem Value)} {A : Around} {s : Shared} {Q : Value → Shared → Prop} (hf : Callee F f) (hp : args.any (·.1) = false)
    (h : wpAny (model pw w) A (evalArgs f true args []) (fun x s' => PH.le F s'.heap.get? ∧ x.kw = [] ∧ wpAny (model pw w) A (call f (first ++ x.pos)) Q NoE s') NoE s) : wpAny (model pw w) A (callWith pos f first args []) Q NoE s := by
  cases hf with
  | bi id => exact Calls.callWith_builtin hp (wpAny_mono h (fun x s' ⟨_, e, g⟩ => by rw [e]; exact g) fun _ _ x => x)
  | ty T => exact PyProof.Rows.callWith_type hp (wpAny_mono h (fun x s' ⟨_, e, g⟩ => by rw [e]; exact g) fun _ _ x => x)
  | @fn a o fd ea ed => exact Calls.callWith_function (o := o) (fd := fd) (wpAny_mono h (fun x s' ⟨l, e, g⟩ => ⟨⟨l _ _ ea, ed⟩, by rw [e]; exact g⟩) fun _ _ x => x)

theorem eval_meth (o : Expr) (name : Str) (apos pos : Pos) (args : List Expr) (env : Env) (hb : ∀ x, attributeBase o name env x = x) (hf : methodCallForm (args.length + 0) (backTo pos (starEach args env)) [] = true) (hl : (apos.endLine == pos.line) = true) : eval (.Call (.Attribute o name apos) args [] pos) env = (do
      let ov ← eval o env
      standAt apos.atName
      let (f, first) ← holding [ov] (getMethod ov name (do return (← importBound o env).getD true))
      callWith pos f first (backTo pos (starEach args env)) []) := by
  rw [arm_eval_Call, hb]
  unfold methodCall
  have e : backToKw pos (keywordEach [] env) = [] := rfl
  rw [e]
  have e2 : args.length + ([] : List Keyword).length = args.length + 0 := rfl
  rw [e2, hf]
  unfold calleeOf methodCallPos
  simp only [if_true, hl, Bool.not_true, Bool.false_or]
  rfl
theorem eval_call (x : Str) (p pos : Pos) (args : List Expr) (env : Env) : eval (.Call (.Name x p) args [] pos) env = (do callWith pos (← eval (.Name x p) env) [] (backTo pos (starEach args env)) (backToKw pos (keywordEach [] env))) := rfl
/-- a plain call, its callee evaluated -/
theorem EVx.call {x : Str} {p : Pos} {e : Expr} {r : List Expr} {pos : Pos} {fv : Value} {ms : List MV} {P : MV → List CellAt → Prop} (hf : EV c n cs vs (.Name x p) (.val fv)) (hc : ∀ F K s, SF c.w K F cs s → Callee F fv) (ha : EVs c n cs vs (e :: r) ms) (h : CX c n cs vs fv ms P)
    (he : starEach (e :: r) c.env = (false, eval e c.env) :: starEach r c.env := by kernel_rfl) (hp : (backTo pos (starEach (e :: r) c.env)).any (·.1) = false := by kernel_rfl) : EVx c n cs vs (.Call (.Name x p) (e :: r) [] pos) P := .mk fun A K F s Q hA hS hQ =>
  PyProof.Rows.Call_ (hf.go A K F s _ hA hS fun F1 u s1 l1 S1 d1 => by
    apply d1.valI
    refine (hc F1 K s1 S1.toSF).go (w := c.w) (env := c.env) ?_ ?_
    · exact hp
    · have := ha.go pos A K F1 s1 (fun us s2 => PH.le F1 s2.heap.get? ∧ wpAny (model pw c.w) A (PySem.call fv us) Q NoE s2) hA S1 fun F2 us s2 l2 S2 d2 => ⟨fun a o q => S2.fz a o (l2 a o q), h.go A K F2 s2 Q us hA S2 d2 fun F3 v s3 mv cs' l3 S3 d3 a3 p3 => hQ F3 v s3 mv cs' (l1.trans (l2.trans l3)) S3 d3 a3 p3⟩
      rw [he] at this ⊢
      exact Calls.evalArgs_plain (wpAny_mono this (fun us s' ⟨x, y⟩ => ⟨x, rfl, y⟩) fun _ _ x => x)) (eval_call _ _ _ _ _)
/-- what a method's name gives: the callee and what goes first -/
structure GMv (c : Cx) (cs : List CellAt) (vs : List MV) (mo : MV) (name : Str) (f : Value) (first : List MV) : Prop where
  go : ∀ (A : Around) (K : Kp) (F : PH) (s : Shared) (Q : Value × List Value → Shared → Prop) (v : Value) (pl : Sem Bool), St c.w K F cs c.L c.xs vs s → DV c.w F (adrs cs) mo v →
    (∀ us s', St c.w K F cs c.L c.xs vs s' → DVs c.w F (adrs cs) first us → Q (f, us) s') → wpAny (model pw c.w) A (getMethod v name pl) Q NoE s
theorem EVx.meth {o e : Expr} {r : List Expr} {name : Str} {apos pos : Pos} {mo : MV} {fv : Value} {first ms : List MV} {P : MV → List CellAt → Prop} (ho : EV c n cs vs o mo) (hg : GMv c cs vs mo name fv first) (hc : ∀ F K s, SF c.w K F cs s → Callee F fv)
    (ha : EVs c n cs vs (e :: r) ms) (h : CX c n cs vs fv (first ++ ms) P) (hbo : ∀ x, attributeBase o name c.env x = x := by intro _; kernel_rfl) (hfo : methodCallForm ((e :: r).length + 0) (backTo pos (starEach (e :: r) c.env)) [] = true := by kernel_rfl) (hlo : (apos.endLine == pos.line) = true := by kernel_rfl)
    (he : starEach (e :: r) c.env = (false, eval e c.env) :: starEach r c.env := by kernel_rfl) (hp : (backTo pos (starEach (e :: r) c.env)).any (·.1) = false := by kernel_rfl) : EVx c n cs vs (.Call (.Attribute o name apos) (e :: r) [] pos) P := .mk fun A K F s Q hA hS hQ => by
  have he1 := eval_meth o name apos pos (e :: r) c.env hbo hfo hlo
  refine PyProof.Rows.MethodCall_ (ho.go A K F s _ hA hS fun F1 u s1 l1 S1 d1 => hg.go A K F1 s1 _ u _ S1 d1 fun fs s2 S2 d2 => ?_) he1
  refine (hc F1 K s2 S2.toSF).go (w := c.w) (env := c.env) hp ?_
  have := ha.go pos A K F1 s2 (fun us s3 => PH.le F1 s3.heap.get? ∧ wpAny (model pw c.w) A (PySem.call fv (fs ++ us)) Q NoE s3) hA S2 fun F2 us s3 l2 S3 d3 => ⟨fun a o q => S3.fz a o (l2 a o q), h.go A K F2 s3 Q (fs ++ us) hA S3 ((d2.mono l2 (asLe.refl _)).append d3) fun F3 v s3 mv cs' l3 S3 d3 a3 p3 => hQ F3 v s3 mv cs' (l1.trans (l2.trans l3)) S3 d3 a3 p3⟩
  rw [he] at this ⊢
  exact Calls.evalArgs_plain (wpAny_mono this (fun us s' ⟨x, y⟩ => ⟨x, rfl, y⟩) fun _ _ x => x)
theorem EVx.meth0 {o : Expr} {name : Str} {apos pos : Pos} {mo : MV} {fv : Value} {first : List MV} {P : MV → List CellAt → Prop} (ho : EV c n cs vs o mo) (hg : GMv c cs vs mo name fv first) (hc : ∀ F K s, SF c.w K F cs s → Callee F fv) (h : CX c n cs vs fv first P) (hbo : ∀ x, attributeBase o name c.env x = x := by intro _; kernel_rfl) (hlo : (apos.endLine == pos.line) = true := by kernel_rfl) : EVx c n cs vs (.Call (.Attribute o name apos) [] [] pos) P := .mk fun A K F s Q hA hS hQ => by
  have he1 := eval_meth o name apos pos [] c.env hbo rfl hlo
  refine PyProof.Rows.MethodCall_ (ho.go A K F s _ hA hS fun F1 u s1 l1 S1 d1 => hg.go A K F1 s1 _ u _ S1 d1 fun fs s2 S2 d2 => ?_) he1
  refine (hc F1 K s2 S2.toSF).go (w := c.w) (env := c.env) rfl ?_
  refine PyProof.Rows.evalArgs_none ⟨S2.fz, rfl, ?_⟩
  rw [List.append_nil]
  exact h.go A K F1 s2 Q fs hA S2 d2 fun F3 v s3 mv cs' l3 S3 d3 a3 p3 => hQ F3 v s3 mv cs' (l1.trans l3) S3 d3 a3 p3

/-- a def of the top is called, its body done -/
theorem CX.fn {a cc : Addr} {o : Obj} (f : IsFn c.w a cc o) (hgen : (funcOf o).scope.isGenerator = false) {ps rest xs0 : List Str} {ms vs0 : List MV} {P : MV → List CellAt → Prop}
    (hb : ∀ us : List Value, us.length = ms.length → bindArgs (funcOf o) ⟨us, []⟩ = pure (ps.zip us)) (hlen : ps.length = ms.length) (hnd : ps.Nodup) (hloc : ∀ x ∈ ps, (x, NameKind.local) ∈ (funcOf o).scope.names) (hndk : ((funcOf o).scope.names.map (·.1)).Nodup)
    (hxs : ps ++ rest = xs0) (hvs : ms ++ List.replicate rest.length .unb = vs0)
    (h : ∀ L, EX (FnCx c.w a o L xs0) n cs vs0 (bodyOf o) (fun fl cs' _ => asLe (adrs cs) (adrs cs') ∧ ∃ m, (fl = .ret m ∨ (fl = .next ∧ m = .none)) ∧ P m cs')) : CX c (n + 1) cs vs (.ref a) ms P := .mk fun A K F s Q us hA S d hQ => by
  subst hxs; subst hvs
  obtain ⟨oL, eL, S1, back⟩ := S.leave
  have hl := d.length
  refine wpAny_call (call_fn f hgen (n := n) hA S1 (ps := ps) (us := us) (rest := rest) (fun Q' hQ' => wpAny_of_eq (hb us hl.symm) hQ') d (by rw [hlen, hl]) hnd hloc hndk fun L s1 S2 => ?_)
  refine (h L).go _ (K.hold c.L oL) F s1 _ ⟨hA.handled, by have := hA.depth; show A.depth + 1 + n ≤ _; lia, by have := hA.units; show A.units + 3 + 10 * n ≤ _; lia⟩ S2 fun F' fl s2 fl' cs' vs' l S3 r p => ?_
  obtain ⟨ha, m, hm, p⟩ := p
  have S4 := back K F' cs' s2 S.lB (fun m' q => q.mono l ha) S3.toSF
  rcases hm with rfl | ⟨rfl, rfl⟩
  · cases r with
    | ret dv => exact hQ F' _ s2 m cs' l S4 dv ha p
  · cases r with
    | next => exact hQ F' _ s2 .none cs' l S4 .none ha p
end
end Mine
open PySem PySem.W PySem.W.X PyProof.Rows
namespace Mine
set_option Elab.async false
set_option linter.unusedVariables false
set_option maxRecDepth 100000

section
variable {c : Cx} {n : Nat} {cs : List CellAt} {vs : List MV}
/-- a value as a test -/
theorem TV.val {e : Expr} {mv : MV} {b : Bool} (h : EV c n cs vs e mv)
    (ht : ∀ (A : Around) (K : Kp) (F : PH) (s : Shared) (Q : Bool → Shared → Prop) (v : Value), St c.w K F cs c.L c.xs vs s → DV c.w F (adrs cs) mv v → (∀ s', St c.w K F cs c.L c.xs vs s' → Q b s') → wpAny (model pw c.w) A (truthy v) Q NoE s)
    (he : isTrue e c.env (eval e c.env) = (do let v ← eval e c.env; standAt e.pos; holding [v] (truthy v)) := by kernel_rfl) : TV c n cs vs e b := .mk fun A K F s Q hA hS hQ =>
  wpAny_isTrue_value (h.go A K F s _ hA hS fun F' v s' l S d => ht A K F' s' Q v S d fun s'' S'' => hQ F' s'' l S'') he
theorem TV.int {e : Expr} {i : Int} (h : EV c n cs vs e (.int i)) (he : isTrue e c.env (eval e c.env) = (do let v ← eval e c.env; standAt e.pos; holding [v] (truthy v)) := by kernel_rfl) : TV c n cs vs e (i != 0) :=
  TV.val h (fun A K F s Q v S d hQ => by apply d.intI; intro _; exact truthy_int (hQ _ S)) he
theorem TV.bool {e : Expr} {b : Bool} (h : EV c n cs vs e (.bool b)) (he : isTrue e c.env (eval e c.env) = (do let v ← eval e c.env; standAt e.pos; holding [v] (truthy v)) := by kernel_rfl) : TV c n cs vs e b :=
  TV.val h (fun A K F s Q v S d hQ => by apply d.boolI; exact wpAny_truthy_bool (hQ _ S)) he
theorem TV.list {e : Expr} {xs : List MV} (h : EV c n cs vs e (.list xs)) (hz : xs.length ≤ 100000) (he : isTrue e c.env (eval e c.env) = (do let v ← eval e c.env; standAt e.pos; holding [v] (truthy v)) := by kernel_rfl) : TV c n cs vs e (!xs.isEmpty) :=
  TV.val h (fun A K F s Q v S d hQ => by
    apply d.listI; intro _ _ _ e q d
    refine wpAny_truthy_list (q.isList (S.fz _ _ e)) (by rw [arr_len d]; lia) ?_
    have : (!Array.isEmpty _) = !xs.isEmpty := congrArg (!·) (show Array.isEmpty _ = xs.isEmpty from by
      have := arr_len d
      rw [Array.isEmpty, this]; cases xs <;> simp)
    rw [this]
    exact hQ _ (S.toks _)) he
theorem TV.str {e : Expr} {x : Str} (h : EV c n cs vs e (.str x)) (hz : x.length ≤ 100000) (he : isTrue e c.env (eval e c.env) = (do let v ← eval e c.env; standAt e.pos; holding [v] (truthy v)) := by kernel_rfl) : TV c n cs vs e ((x.length : Int) != 0) :=
  TV.val h (fun A K F s Q v S d hQ => by apply d.strI; intro _; exact PySem.P.truthy_str (by lia) (hQ _ (S.toks _))) he
theorem TV.none {e : Expr} (h : EV c n cs vs e .none) (he : isTrue e c.env (eval e c.env) = (do let v ← eval e c.env; standAt e.pos; holding [v] (truthy v)) := by kernel_rfl) : TV c n cs vs e false :=
  TV.val h (fun A K F s Q v S d hQ => by apply d.noneI; exact wpAny_pure (hQ _ S)) he

theorem load_local (ok : CxOk c) {x : Str} {mv : MV} (hk : (x, NameKind.local) ∈ c.sc.names) (ha : At x mv c.xs vs) (hu : mv ≠ .unb := by nofun) {A : Around} {K : Kp} {F : PH} {s : Shared} {Q : Value → Shared → Prop} (hS : St c.w K F cs c.L c.xs vs s)
    (hQ : ∀ v, DV c.w F (adrs cs) mv v → Q v s) : wpAny (model pw c.w) A (loadName c.env x) Q NoE s := by
  obtain ⟨m, hn, hm⟩ := hS.ns
  obtain ⟨v, e, d⟩ := hm x mv ha hu
  exact wpAny_loadName_local ok.kind (ok.kindOf hk) hn e (hQ v d)
theorem EX1.augI (ok : CxOk c) {x : Str} {p pos : Pos} {op : Operator} {e : Expr} {a b r : Int} {vs' : List MV} {P : Fl → List CellAt → List MV → Prop} (hk : (x, NameKind.local) ∈ c.sc.names) (ha : At x (.int a) c.xs vs) (h : EV c n cs vs e (.int b))
    (hop : ∀ (A : Around) (s : Shared) (Q : Value → Shared → Prop) (t u : Tok), (∀ t' k, Q (.int r t') { s with toks := k }) → wpAny (model pw c.w) A (inplaceOp op (.int a t) (.int b u)) Q NoE s)
    (hp : Put x (.int r) c.xs vs vs') (hP : P .next cs vs') : EX1 c n cs vs (.AugAssign (.Name x p) op e pos) P := .mk fun A K F s Q hA hS hQ =>
  wpAny_AugAssign_Name (load_local ok hk ha (by nofun) hS fun v d => h.go A K F s _ hA hS fun F1 u s1 l1 S1 d1 => by
    apply d.intI; intro _; apply d1.intI; intro _
    exact hop A s1 _ _ _ fun t' k => bind_name ok hk hp (S1.toks k) (.int _ _) fun s2 S2 => hQ F1 _ s2 .next cs vs' l1 S2 .next hP)
theorem EX1.augAdd (ok : CxOk c) {x : Str} {p pos : Pos} {e : Expr} {a b : Int} {vs' : List MV} {P : Fl → List CellAt → List MV → Prop} (hk : (x, NameKind.local) ∈ c.sc.names) (ha : At x (.int a) c.xs vs) (h : EV c n cs vs e (.int b)) (hp : Put x (.int (a + b)) c.xs vs vs') (hP : P .next cs vs') :
    EX1 c n cs vs (.AugAssign (.Name x p) .Add e pos) P := EX1.augI ok hk ha h (fun A s Q t u hQ => by
      exact PyProof.Rows.iadd_int (hQ _ _)) hp hP
theorem EX1.augSub (ok : CxOk c) {x : Str} {p pos : Pos} {e : Expr} {a b : Int} {vs' : List MV} {P : Fl → List CellAt → List MV → Prop} (hk : (x, NameKind.local) ∈ c.sc.names) (ha : At x (.int a) c.xs vs) (h : EV c n cs vs e (.int b)) (hp : Put x (.int (a - b)) c.xs vs vs') (hP : P .next cs vs') :
    EX1 c n cs vs (.AugAssign (.Name x p) .Sub e pos) P := EX1.augI ok hk ha h (fun A s Q t u hQ => by
      exact AutoIntOps.isub_0 (hQ _ _)) hp hP
/-- an expression as a statement -/
theorem EX1.expr {e : Expr} {pos : Pos} {P : Fl → List CellAt → List MV → Prop} (h : EVx c n cs vs e (fun m cs' => m = .none ∧ P .next cs' vs)) (hi : interactive c.env = false := by kernel_rfl) (hs : swapsWith e none pos.line c.env = pure false := by kernel_rfl) : EX1 c n cs vs (.Expr e pos) P := .mk fun A K F s Q hA hS hQ =>
  wpAny_Expr (h.go A K F s _ hA hS fun F' v s' m cs' l S d a p => by obtain ⟨rfl, p⟩ := p; apply d.noneI; exact hQ F' _ s' .next cs' vs l S .next p) hi hs
theorem EX1.doc {x : Str} {k : Nat} {p pos : Pos} {P : Fl → List CellAt → List MV → Prop} (hP : P .next cs vs) (hi : interactive c.env = false := by kernel_rfl) : EX1 c n cs vs (.Expr (.Constant (.str x) k p) pos) P := .mk fun A K F s Q hA hS hQ =>
  wpAny_Expr (wpAny_Constant_str (hQ F _ _ .next cs vs (PH.le.refl _) (hS.toks _) .next hP)) hi rfl
end
end Mine
open PySem PySem.W PySem.W.X PyProof.Rows
namespace Mine
set_option Elab.async false
set_option linter.unusedVariables false
set_option maxRecDepth 100000

theorem mem_lu {x : Str} {k : NameKind} : ∀ {l : List (Str × NameKind)}, l.lookup x = some k → (x, k) ∈ l
  | [], h => by simp at h
  | (y, j) :: l, h => by
    rw [List.lookup_cons] at h
    cases q : x == y with
    | true => rw [q] at h; cases h; rw [beq_iff_eq.mp q]; exact .head _
    | false => rw [q] at h; exact .tail _ (mem_lu h)
/-- the facts of a def that a computation shows -/
noncomputable def fnOk (o : Obj) : Bool := (match o.data with | .func _ => true | _ => false) && (match (funcOf o).body with | .stmts _ => true | _ => false) && ((funcOf o).globals == mainGlobals) && (funcOf o).closure.isEmpty && ((funcOf o).builtins == builtinsNs) &&
  !(funcOf o).scope.isCoroutine && (match (funcOf o).scope.kind with | .function => true | _ => false) && (funcOf o).scope.names.all (fun x => match x.2 with | .cell => false | _ => true) && decide ((funcOf o).scope.names.map (·.1)).Nodup
theorem IsFn.of {w : World} {a cc : Addr} {o oc : Obj} {us : Array Value} {t : Tok} (h : fnOk o = true) (ht : IsTop w a o) (hc : (funcOf o).code = .ref cc) (hcc : IsTop w cc oc) (hd : oc.data = .fields us) (hu : us[1]? = some (.str (funcOf o).qualname t)) : IsFn w a cc o := by
  unfold fnOk at h
  simp only [Bool.and_eq_true, decide_eq_true_eq] at h
  obtain ⟨⟨⟨⟨⟨⟨⟨⟨h1, h2⟩, h3⟩, h4⟩, h5⟩, h6⟩, h7⟩, h8⟩, h9⟩ := h
  refine ⟨ht, ?_, ?_, hc, beq_iff_eq.mp h3, List.isEmpty_iff.mp h4, beq_iff_eq.mp h5, by simpa using h6, ?_, ⟨oc, us, t, hcc, hd, hu⟩, ?_⟩
  · unfold funcOf
    cases e : o.data with
    | func f => rfl
    | _ => rw [e] at h1; cases h1
  · unfold bodyOf
    cases e : (funcOf o).body with
    | stmts b => rfl
    | _ => rw [e] at h2; cases h2
  · cases e : (funcOf o).scope.kind with
    | function => rfl
    | _ => rw [e] at h7; cases h7
  · intro x hx hk
    have := List.all_eq_true.mp h8 x hx
    rw [hk] at this; cases this
theorem fnOk.nd {o : Obj} (h : fnOk o = true) : ((funcOf o).scope.names.map (·.1)).Nodup := by
  unfold fnOk at h
  simp only [Bool.and_eq_true, decide_eq_true_eq] at h
  exact h.2
theorem IsFn.ok {w : World} {a cc : Addr} {o : Obj} (f : IsFn w a cc o) (h : fnOk o = true) {L : Addr} {xs : List Str} (hn : xs.Nodup) : CxOk (FnCx w a o L xs) := ⟨f.kind, f.cor, hn, fnOk.nd h⟩

theorem fn253 (w : World) : IsFn w 253 252 (B.o_400 w.params) := IsFn.of (oc := B.o_399 w.params) (by kernel_rfl) (isTop (by kernel_rfl)) rfl (isTop (by kernel_rfl)) rfl rfl
theorem ok253 (P : Params) : fnOk (B.o_400 P) = true := by kernel_rfl
end Mine
open PySem PySem.W PySem.W.X PyProof.Rows
namespace Mine
set_option Elab.async false
set_option linter.unusedVariables false
set_option maxRecDepth 100000
/-- lists of a written length -/
theorem all_nil {α : Type} {P : List α → Prop} (h : P []) : ∀ us : List α, us.length = 0 → P us := fun us e => by
  cases us with
  | nil => exact h
  | cons => cases e
theorem all_cons {α : Type} {n : Nat} {P : List α → Prop} (h : ∀ a us, us.length = n → P (a :: us)) : ∀ us : List α, us.length = n + 1 → P us := fun us e => by
  cases us with
  | nil => cases e
  | cons a us => exact h a us (Nat.succ.inj e)
theorem all1 {α : Type} {P : List α → Prop} (h : ∀ a, P [a]) : ∀ us : List α, us.length = 1 → P us := all_cons fun a => all_nil (P := fun us => P (a :: us)) (h a)
theorem all2 {α : Type} {P : List α → Prop} (h : ∀ a b, P [a, b]) : ∀ us : List α, us.length = 2 → P us := all_cons fun a => all1 (P := fun us => P (a :: us)) (h a)
theorem all3 {α : Type} {P : List α → Prop} (h : ∀ a b c, P [a, b, c]) : ∀ us : List α, us.length = 3 → P us := all_cons fun a => all2 (P := fun us => P (a :: us)) (h a)
theorem all4 {α : Type} {P : List α → Prop} (h : ∀ a b c d, P [a, b, c, d]) : ∀ us : List α, us.length = 4 → P us := all_cons fun a => all3 (P := fun us => P (a :: us)) (h a)
theorem all5 {α : Type} {P : List α → Prop} (h : ∀ a b c d e, P [a, b, c, d, e]) : ∀ us : List α, us.length = 5 → P us := all_cons fun a => all4 (P := fun us => P (a :: us)) (h a)
theorem all1S {α σ : Type} {P : List α → σ → Prop} (h : ∀ a S, P [a] S) (us : List α) (S : σ) : us.length = 1 → P us S := all1 (P := fun us => P us S) (fun a => h a S) us
theorem all3S {α σ : Type} {P : List α → σ → Prop} (h : ∀ a b c S, P [a, b, c] S) (us : List α) (S : σ) : us.length = 3 → P us S := all3 (P := fun us => P us S) (fun a b c => h a b c S) us
theorem all4S {α σ : Type} {P : List α → σ → Prop} (h : ∀ a b c d S, P [a, b, c, d] S) (us : List α) (S : σ) : us.length = 4 → P us S := all4 (P := fun us => P us S) (fun a b c d => h a b c d S) us
theorem all5S {α σ : Type} {P : List α → σ → Prop} (h : ∀ a b c d e S, P [a, b, c, d, e] S) (us : List α) (S : σ) : us.length = 5 → P us S := all5 (P := fun us => P us S) (fun a b c d e => h a b c d e S) us

/-- blocks, one behind the other; P: what holds where control leaves them all -/
noncomputable def XS (c : Cx) (n : Nat) (cs : List CellAt) (vs : List MV) : List (List Stmt) → (Fl → List CellAt → List MV → Prop) → Prop
  | [], P => P .next cs vs
  | ss :: k, P => EX c n cs vs ss (fun fl cs' vs' => match fl with | .next => XS c n cs' vs' k P | fl => P fl cs' vs')
section
variable {c : Cx} {n : Nat} {cs : List CellAt} {vs : List MV} {r : List Stmt} {k : List (List Stmt)} {P : Fl → List CellAt → List MV → Prop}
theorem XS.of {ss : List Stmt} (h : XS c n cs vs [ss] P) : EX c n cs vs ss P := EX.mono h fun fl cs' vs' p => by
  cases fl <;> exact p
theorem XS.nil (h : XS c n cs vs k P) : XS c n cs vs ([] :: k) P := EX.nil h
theorem XS.cons {st : Stmt} (h : EX1 c n cs vs st (fun fl cs' vs' => match fl with | .next => XS c n cs' vs' (r :: k) P | fl => P fl cs' vs')) : XS c n cs vs ((st :: r) :: k) P :=
  EX.cons (EX1.mono h fun fl cs' vs' p => by cases fl <;> exact p)
theorem XS.doc {x : Str} {j : Nat} {p pos : Pos} (h : XS c n cs vs (r :: k) P) (hi : interactive c.env = false := by kernel_rfl) : XS c n cs vs ((.Expr (.Constant (.str x) j p) pos :: r) :: k) P := XS.cons (EX1.doc h hi)
theorem XS.asg (ok : CxOk c) {x : Str} {p : Pos} {e : Expr} {pos : Pos} {mv : MV} {vs' : List MV} (h : EV c n cs vs e mv) (hk : (x, NameKind.local) ∈ c.sc.names) (hp : Put x mv c.xs vs vs') (hP : XS c n cs vs' (r :: k) P)
    (hs : swapsWith e (some (.Name x p)) pos.line c.env = pure false := by kernel_rfl) : XS c n cs vs ((.Assign [.Name x p] e pos :: r) :: k) P := XS.cons (EX1.asg ok h hk hp hP hs)
theorem XS.ite {t : Expr} {b1 b2 : List Stmt} {pos : Pos} {b : Bool} (ht : TV c n cs vs t b) (h1 : b = true → XS c n cs vs (b1 :: r :: k) P) (h2 : b = false → XS c n cs vs (b2 :: r :: k) P) : XS c n cs vs ((.If t b1 b2 pos :: r) :: k) P :=
  XS.cons (EX1.ite ht (fun e => EX.mono (h1 e) fun fl cs' vs' p => by cases fl <;> exact p) (fun e => EX.mono (h2 e) fun fl cs' vs' p => by cases fl <;> exact p))
theorem XS.ret {e : Expr} {pos : Pos} {mv : MV} (h : EV c n cs vs e mv) (hP : P (.ret mv) cs vs) : XS c n cs vs ((.Return (some e) pos :: r) :: k) P := XS.cons (EX1.ret h hP)
theorem XS.brk {pos : Pos} (hP : P .brk cs vs) : XS c n cs vs ((.Break pos :: r) :: k) P := XS.cons (EX1.brk hP)
theorem XS.cont {pos : Pos} (hP : P .cont cs vs) : XS c n cs vs ((.Continue pos :: r) :: k) P := XS.cons (EX1.cont hP)
theorem XS.augAdd (ok : CxOk c) {x : Str} {p pos : Pos} {e : Expr} {a b : Int} {vs' : List MV} (hk : (x, NameKind.local) ∈ c.sc.names) (ha : At x (.int a) c.xs vs) (h : EV c n cs vs e (.int b)) (hp : Put x (.int (a + b)) c.xs vs vs') (hP : XS c n cs vs' (r :: k) P) :
    XS c n cs vs ((.AugAssign (.Name x p) .Add e pos :: r) :: k) P := XS.cons (EX1.augAdd ok hk ha h hp hP)
theorem XS.augSub (ok : CxOk c) {x : Str} {p pos : Pos} {e : Expr} {a b : Int} {vs' : List MV} (hk : (x, NameKind.local) ∈ c.sc.names) (ha : At x (.int a) c.xs vs) (h : EV c n cs vs e (.int b)) (hp : Put x (.int (a - b)) c.xs vs vs') (hP : XS c n cs vs' (r :: k) P) :
    XS c n cs vs ((.AugAssign (.Name x p) .Sub e pos :: r) :: k) P := XS.cons (EX1.augSub ok hk ha h hp hP)
theorem XS.expr {e : Expr} {pos : Pos} (h : EVx c n cs vs e (fun m cs' => m = .none ∧ XS c n cs' vs (r :: k) P)) (hi : interactive c.env = false := by kernel_rfl) (hs : swapsWith e none pos.line c.env = pure false := by kernel_rfl) : XS c n cs vs ((.Expr e pos :: r) :: k) P := XS.cons (EX1.expr h hi hs)
/-- where a loop's body may lead -/
noncomputable def LoopP (I B : List CellAt → List MV → Prop) (R : MV → List CellAt → List MV → Prop) : Fl → List CellAt → List MV → Prop
  | .next, cs, vs => I cs vs
  | .cont, cs, vs => I cs vs
  | .brk, cs, vs => B cs vs
  | .ret m, cs, vs => R m cs vs
theorem XS.while {test : Expr} {body : List Stmt} {pos : Pos} (I : Nat → List CellAt → List MV → Prop) (B : List CellAt → List MV → Prop) (j : Nat) (h0 : I j cs vs) (hB : ∀ cs' vs', B cs' vs' → XS c n cs' vs' (r :: k) P)
    (turn : ∀ j cs vs, I j cs vs → ∃ b, TV c n cs vs test b ∧ (b = true → XS c n cs vs [body] (LoopP (fun cs' vs' => ∃ m, m < j ∧ I m cs' vs') B (fun m => P (.ret m)))) ∧ (b = false → B cs vs)) : XS c n cs vs ((.While test body [] pos :: r) :: k) P :=
  XS.cons (EX1.while I (fun j cs vs hI => by
    obtain ⟨b, h1, h2, h3⟩ := turn j cs vs hI
    refine ⟨b, h1, fun e => EX.mono (XS.of (h2 e)) fun fl cs' vs' p => ?_, fun e => hB _ _ (h3 e)⟩
    cases fl with
    | next => exact p
    | cont => exact p
    | brk => exact hB _ _ p
    | ret m => exact p) j h0)
theorem XS.forL {t iter : Expr} {body : List Stmt} {pos : Pos} {items : List MV} (I : Nat → List CellAt → List MV → Prop) (B : List CellAt → List MV → Prop) (hi : EV c n cs vs iter (.list items)) (h0 : I 0 cs vs)
    (hend : ∀ cs' vs', I items.length cs' vs' → B cs' vs') (hB : ∀ cs' vs', B cs' vs' → XS c n cs' vs' (r :: k) P)
    (turn : ∀ i x cs vs, items[i]? = some x → I i cs vs → ∃ vs1, AS c n cs vs t x vs1 ∧ XS c n cs vs1 [body] (LoopP (I (i + 1)) B (fun m => P (.ret m))))
    (hs : ∀ x, foldedSetIterable iter c.env x = pure x := by intro _; kernel_rfl) : XS c n cs vs ((.For t iter body [] pos :: r) :: k) P :=
  XS.cons (EX1.forL I hi (fun i x cs vs hx hI => by
    obtain ⟨vs1, h1, h2⟩ := turn i x cs vs hx hI
    refine ⟨vs1, h1, EX.mono (XS.of h2) fun fl cs' vs' p => ?_⟩
    cases fl with
    | next => exact p
    | cont => exact p
    | brk => exact hB _ _ p
    | ret m => exact p) h0 (fun cs' vs' hI => hB _ _ (hend _ _ hI)) hs)
theorem CX.fnX {c : Cx} {cs : List CellAt} {vs : List MV} {n : Nat} {a cc : Addr} {o : Obj} (f : IsFn c.w a cc o) (hok : fnOk o = true) (hgen : (funcOf o).scope.isGenerator = false) (ps rest xs0 : List Str) {ms vs0 : List MV} {R : MV → List CellAt → Prop}
    (hb : ∀ us : List Value, us.length = ms.length → bindArgs (funcOf o) ⟨us, []⟩ = pure (ps.zip us)) (hlen : ps.length = ms.length) (hxs : ps ++ rest = xs0) (hvs : ms ++ List.replicate rest.length .unb = vs0) (hnd : xs0.Nodup)
    (hloc : ps.all (fun x => match (funcOf o).scope.names.lookup x with | some .local => true | _ => false) = true)
    (h : ∀ L P, CxOk (FnCx c.w a o L xs0) → (∀ m cs' vs', asLe (adrs cs) (adrs cs') → R m cs' → P (.ret m) cs' vs') → (∀ cs' vs', asLe (adrs cs) (adrs cs') → R .none cs' → P .next cs' vs') → XS (FnCx c.w a o L xs0) n cs vs0 [bodyOf o] P) : CX c (n + 1) cs vs (.ref a) ms R :=
  CX.fn f hgen hb hlen (by rw [← hxs] at hnd; exact (List.nodup_append.mp hnd).1) (fun x hx => by
    have := List.all_eq_true.mp hloc x hx
    refine mem_lu ?_
    cases q : (funcOf o).scope.names.lookup x with
    | none => rw [q] at this; cases this
    | some kd => rw [q] at this; cases kd <;> first | rfl | cases this) (fnOk.nd hok) hxs hvs fun L =>
    XS.of (h L _ (f.ok hok hnd) (fun m cs' vs' ha hr => ⟨ha, m, .inl rfl, hr⟩) (fun cs' vs' ha hr => ⟨ha, .none, .inr ⟨rfl, rfl⟩, hr⟩))
end
end Mine
open PySem PySem.W PySem.W.X PyProof.Rows
namespace Mine
set_option Elab.async false
set_option linter.unusedVariables false
set_option maxRecDepth 100000

inductive PutA (x : Str) (mv : MV) : List Str → List MV → List Str → List MV → Prop
  | nil : PutA x mv [] [] [x] [mv]
  | here {xs v vs} : PutA x mv (x :: xs) (v :: vs) (x :: xs) (mv :: vs)
  | there {y xs v vs xs' vs'} : y ≠ x → PutA x mv xs vs xs' vs' → PutA x mv (y :: xs) (v :: vs) (y :: xs') (v :: vs')
theorem PutA.mem {x mv xs vs xs' vs'} (h : PutA x mv xs vs xs' vs') : ∀ y, y ∈ xs' ↔ (y = x ∨ y ∈ xs) := by
  induction h with
  | nil => intro y; simp
  | here => intro y; simp
  | there _ _ ih =>
    intro y
    rw [List.mem_cons, List.mem_cons, ih y]
    constructor
    · rintro (h | h | h)
      · exact .inr (.inl h)
      · exact .inl h
      · exact .inr (.inr h)
    · rintro (h | h | h)
      · exact .inr (.inl h)
      · exact .inl h
      · exact .inr (.inr h)
theorem PutA.at {x mv xs vs xs' vs'} (h : PutA x mv xs vs xs' vs') : xs.Nodup → ∀ {y u}, At y u xs' vs' → (y = x ∧ u = mv) ∨ (y ≠ x ∧ At y u xs vs) := by
  induction h with
  | nil =>
    intro _ y u h
    cases h with
    | here => exact .inl ⟨rfl, rfl⟩
    | there h => cases h
  | here =>
    intro nd y u h
    cases h with
    | here => exact .inl ⟨rfl, rfl⟩
    | there h => exact .inr ⟨fun e => (List.nodup_cons.mp nd).1 (e ▸ h.mem), .there h⟩
  | there hne p ih =>
    intro nd y u h
    cases h with
    | here => exact .inr ⟨hne, .here⟩
    | there h =>
      rcases ih (List.nodup_cons.mp nd).2 h with e | ⟨e, h⟩
      · exact .inl e
      · exact .inr ⟨e, .there h⟩
theorem PutA.unb {x mv xs vs xs' vs'} (h : PutA x mv xs vs xs' vs') (hm : mv ≠ .unb) : MV.unb ∉ vs → MV.unb ∉ vs' := by
  induction h with
  | nil => intro _ q; rcases List.mem_cons.mp q with q | q; exact hm q.symm; cases q
  | here => intro hv q; rcases List.mem_cons.mp q with q | q; exact hm q.symm; exact hv (.tail _ q)
  | there _ _ ih => intro hv q; rcases List.mem_cons.mp q with q | q; exact hv (q ▸ .head _); exact ih (fun z => hv (.tail _ z)) q

theorem sm_cls (P : Params) : B.o_315 P = excClassObj "SequenceMatcher" "SequenceMatcher" 242 241 [.type "object"] [.type "object"] true [] [] false none none none none (some (.str "SequenceMatcher" 389)) (some (.str "SequenceMatcher" 397)) (some (.bool true)) "object.__new__" := by kernel_rfl
theorem top241 (w : World) : IsTop w 241 (B.o_314 w.params) := isTop (by kernel_rfl)
theorem nsOk241 (P : Params) : nsOk (B.o_314 P) = true := by kernel_rfl
section
variable {c : Cx} {n : Nat} {cs : List CellAt} {vs : List MV}
noncomputable def MV.plainV : MV → Bool
  | .val _ => false
  | .junk => false
  | _ => true
theorem handed {w : World} {F : PH} {as : List Addr} {m : MV} {v : Value} (d : DV w F as m v) (h : m.plainV = true) : handedOut v = pure v := by
  cases d <;> first | rfl | cases h
theorem cell_addr {w : World} {F : PH} {k : Nat} {x : CellAt} {v : Value} (d : DV w F (adrs cs) (.cell k) v) (hk : cs[k]? = some x) : v = .ref x.a := by
  apply d.cellI; intro _ e
  unfold adrs at e
  rw [List.getElem?_map, hk] at e
  cases e; rfl
/-- an attribute of the matcher -/
theorem EV.attr {o : Expr} {name : Str} {pos : Pos} {k : Nat} {a : Addr} {more : List Addr} {ns : List Str} {us : List MV} {mv : MV} (ho : EV c n cs vs o (.cell k)) (hk : cs[k]? = some ⟨a, more, .inst ns us⟩) (hat : At name mv ns us)
    (hp : mv.plainV = true := by rfl) (hna : nsOf (B.o_314 c.w.params) name = none := by kernel_rfl) (hB : typeLookup (.type "object") name = pure none := by kernel_rfl)
    (hb : ∀ x, attributeBase o name c.env x = x := by intro _; kernel_rfl) (hgo : ∀ u r, letTemporaryGo o u r = pure () := by intro _ _; kernel_rfl) : EV c n cs vs (.Attribute o name pos) mv := .mk fun A K F s Q hA hS hQ => by
  rw [arm_eval_Attribute, hb]
  refine wpAny_bind (ho.go A K F s _ hA hS fun F1 u s1 l1 S1 d1 => ?_)
  rw [cell_addr d1 hk]
  refine wpAny_bind (wpAny_standAt (wpAny_bind (wpAny_holding ?_)))
  obtain ⟨mA, dd, o', e1, e2, e3, I, fr, hn, hu⟩ := S1.cl _ (List.mem_of_getElem? hk)
  have hne : mv ≠ .unb := fun e => hu (by
    subst e
    clear hk fr hn hu I e3 e2 e1 hp ho
    induction hat with
    | here => exact .head _
    | there _ ih => exact .tail _ ih)
  obtain ⟨v, ev, dv⟩ := fr name mv hat hne
  have h242 := (top242 c.w).get S1.toSF
  rw [sm_cls] at h242
  have h241 := nsOk_at (nsOk241 _) ((top241 c.w).get S1.toSF)
  exact load_attr h242 h241 (by kernel_rfl) hna hB I ev (handed dv hp) (wpAny_bind (wpAny_of_eq (hgo _ _) (wpAny_pure (hQ F1 v _ l1 (S1.toks _) dv))))
theorem adrs_set {k : Nat} {x y : CellAt} (hx : cs[k]? = some x) (hya : y.a = x.a) : adrs (cs.set k y) = adrs cs := by
  obtain ⟨hkl, hke⟩ := List.getElem?_eq_some_iff.mp hx
  unfold adrs
  rw [List.map_set, hya]
  apply List.ext_getElem?
  intro j
  rw [List.getElem?_set]
  by_cases e : k = j
  · subst e
    simp only [if_true, List.length_map]
    rw [if_pos hkl, List.getElem?_map, hx]; rfl
  · rw [if_neg e]
theorem foots_set {k : Nat} {x y : CellAt} (hx : cs[k]? = some x) (hy : y.foot = x.foot) : foots (cs.set k y) = foots cs := by
  obtain ⟨hkl, hke⟩ := List.getElem?_eq_some_iff.mp hx
  have hsplit : cs = cs.take k ++ x :: cs.drop (k + 1) := by rw [← hke, ← List.drop_eq_getElem_cons hkl, List.take_append_drop]
  have hset : cs.set k y = cs.take k ++ y :: cs.drop (k + 1) := (List.set_eq_take_append_cons_drop ..).trans (if_pos hkl)
  rw [hset]; conv => rhs; rw [hsplit]
  simp only [foots, List.flatMap_append, List.flatMap_cons, hy]
theorem St.setCell {w : World} {K : Kp} {F : PH} {L : Addr} {xs : List Str} {s s' : Shared} {x y : CellAt} {k : Nat} (h : St w K F cs L xs vs s) (hx : cs[k]? = some x) (hy : y.foot = x.foot) (hya : y.a = x.a)
    (hk : ∀ b o, b ∉ x.foot → s.heap.get? b = some o → s'.heap.get? b = some o) (hal : ∀ b ∈ x.foot, ∃ o, s'.heap.get? b = some o) (hr : CellR w F (adrs cs) s'.heap y) (hg : s'.gens = s.gens) (ho : s'.os = s.os) : St w K F (cs.set k y) L xs vs s' where
  toSF := h.toSF.setCell hx hy hya hk hal hr hg ho
  ns := by
    obtain ⟨m, n, q⟩ := h.ns
    refine ⟨m, n.at' (fun o e => hk L o (fun hm => h.lf (mem_foots (List.mem_of_getElem? hx) hm)) e), ?_⟩
    rw [adrs_set hx hya]; exact q
  lf := by rw [foots_set hx hy]; exact h.lf
  lF := h.lF
  lB := h.lB

/-- a target takes a value; cells may change -/
structure ASc (c : Cx) (n : Nat) (cs : List CellAt) (vs : List MV) (t : Expr) (mv : MV) (cs' : List CellAt) (vs' : List MV) : Prop where
  le : asLe (adrs cs) (adrs cs')
  go : ∀ (A : Around) (K : Kp) (F : PH) (s : Shared) (Q : Unit → Shared → Prop) (v : Value), Room n A → St c.w K F cs c.L c.xs vs s → DV c.w F (adrs cs) mv v →
    (∀ F' s', PH.le F F' → St c.w K F' cs' c.L c.xs vs' s' → Q () s') → wpAny (model pw c.w) A (assign t c.env v) Q NoE s
theorem AS.toC {t : Expr} {mv : MV} {vs' : List MV} (h : AS c n cs vs t mv vs') : ASc c n cs vs t mv cs vs' := ⟨asLe.refl _, h.go⟩
theorem ASc.attr {o : Expr} {name : Str} {pos : Pos} {k : Nat} {a d : Addr} {ns ns' : List Str} {us us' : List MV} {mv : MV} (ho : EV c n cs vs o (.cell k)) (hk : cs[k]? = some ⟨a, [d], .inst ns us⟩) (hpa : PutA name mv ns us ns' us') (hnd : ns.Nodup) (hz : ns.length ≤ 1000 := by decide)
    (hu' : mv ≠ .unb := by nofun) (hna : nsOf (B.o_314 c.w.params) name = none := by kernel_rfl) (hB : typeLookup (.type "object") name = pure none := by kernel_rfl) :
    ASc c n cs vs (.Attribute o name pos) mv (cs.set k ⟨a, [d], .inst ns' us'⟩) vs := by
  refine ⟨by rw [adrs_set hk (y := ⟨a, [d], .inst ns' us'⟩) rfl]; exact asLe.refl _, fun A K F s Q v hA hS dv hQ => ?_⟩
  rw [assign_Attribute]
  refine wpAny_bind (wpAny_holding (ho.go A K F s _ hA hS fun F1 u s1 l1 S1 d1 => ?_))
  rw [cell_addr d1 hk]
  refine wpAny_bind (wpAny_standAt (wpAny_bind (wpAny_holding ?_)))
  obtain ⟨mA, dd, o', e1, e2, e3, I, fr, hn, hu⟩ := S1.cl _ (List.mem_of_getElem? hk)
  have e1 : [d] = [dd] := e1
  cases e1
  have h242 := (top242 c.w).get S1.toSF
  have hF242 := (top242 c.w).fz S1.toSF
  rw [sm_cls] at h242
  have h241 := nsOk_at (nsOk241 _) ((top241 c.w).get S1.toSF)
  have hmem : ∀ b ∈ ([a, d] : List Addr), b ∈ foots cs := fun b hb => mem_foots (List.mem_of_getElem? hk) hb
  have hx : a ≠ 242 := fun e => by
    have := (S1.ap a (hmem a (.head _))).1
    rw [e, hF242] at this; cases this
  refine store_attr (ns := ns) PySem.F.store_object h242 h241 (by kernel_rfl) hna hB hx I (fun h' tk' I' hkeep hobj => ?_) (fun y hy => ?_) (Nat.le_trans hz (by decide))
  · have hkeep' : ∀ b o, b ∉ ([a, d] : List Addr) → s1.heap.get? b = some o → h'.get? b = some o := fun b o hb e => hkeep b o (fun z => hb (z ▸ .head _)) (fun o0 dx q1 q2 z => hb (by
      have q1 : s1.heap.get? a = some o0 := q1
      have e2 : s1.heap.get? a = some o' := e2
      rw [e2] at q1; cases q1
      have e3 : o'.dict = some d := e3
      rw [e3] at q2; cases q2
      rw [z]; exact .tail _ (.head _))) e
    obtain ⟨o1, f1, f2, f3, f4, f5⟩ := hobj o' e2
    have f6 := f5 d e3
    have dv1 := dv.mono l1 (asLe.refl _)
    have S2 : St c.w K F1 (cs.set k ⟨a, [d], .inst ns' us'⟩) c.L c.xs vs ⟨h', s1.gens, s1.drawn, tk', s1.os⟩ := S1.setCell hk (y := ⟨a, [d], .inst ns' us'⟩) rfl rfl hkeep' (fun b hb => ?_) ?_ rfl rfl
    · exact wpAny_release (hQ F1 _ l1 S2)
    · have hb : b ∈ ([a, d] : List Addr) := hb
      rcases List.mem_cons.mp hb with rfl | hb
      · exact ⟨o1, f1⟩
      · rw [List.mem_singleton.mp hb]
        obtain ⟨o2, g1, g2, g3, g4⟩ := I'
        have : o2 = o1 := by rw [f1] at g1; cases g1; rfl
        subst this
        rcases g4 with ⟨g4, _⟩ | ⟨dx, g4, g5, o3, es, ep, g6, _⟩
        · rw [f6] at g4; cases g4
        · rw [f6] at g4; cases g4; exact ⟨o3, g6⟩
    · refine ⟨_, d, o1, rfl, f1, f6, I', fun y u hy hu2 => ?_, fun y hy => ?_, hpa.unb hu' hu⟩
      · rcases hpa.at hnd hy with ⟨rfl, rfl⟩ | ⟨hne, hy⟩
        · exact ⟨v, if_pos rfl, dv1⟩
        · obtain ⟨v', q1, q2⟩ := fr y u hy hu2
          exact ⟨v', (if_neg hne).trans q1, q2⟩
      · have hny : y ≠ name ∧ y ∉ ns := ⟨fun z => hy ((hpa.mem y).mpr (.inl z)), fun z => hy ((hpa.mem y).mpr (.inr z))⟩
        show (if y = name then some v else mA y) = none
        rw [if_neg hny.1]; exact hn y hny.2
  · by_cases q : y ∈ ns
    · exact q
    · exact absurd (hn y q) hy
end
end Mine
open PySem PySem.W PySem.W.X PyProof.Rows
namespace Mine
set_option Elab.async false
set_option linter.unusedVariables false
set_option maxRecDepth 100000
section
variable {c : Cx} {n : Nat} {cs : List CellAt} {vs : List MV} {r : List Stmt} {k : List (List Stmt)} {P : Fl → List CellAt → List MV → Prop}
theorem asLe.trans {a b d : List Addr} (x : asLe a b) (y : asLe b d) : asLe a d := fun i z e => y i z (x i z e)
theorem XS.asgX {t e : Expr} {pos : Pos} (h : EVx c n cs vs e (fun m cs1 => ∃ cs' vs', ASc c n cs1 vs t m cs' vs' ∧ XS c n cs' vs' (r :: k) P))
    (hs : swapsWithSole [t] e pos.line c.env = pure false := by kernel_rfl) (hw : swappedStores [t] e c.env = pure none := by kernel_rfl) (he : (assignEach [t] c.env).map (·.2) = [assign t c.env] := by kernel_rfl) : XS c n cs vs ((.Assign [t] e pos :: r) :: k) P :=
  XS.cons (.mk fun A K F s Q hA hS hQ => wpAny_Assign_stores (h.go A K F s _ hA hS fun F1 v s1 m cs1 l1 S1 d1 a1 p1 => by
    rw [he]
    obtain ⟨cs', vs', ha, hx⟩ := p1
    exact ha.go A K F1 s1 _ v hA S1 d1 fun F2 s2 l2 S2 => hQ F2 _ s2 .next cs' vs' (l1.trans l2) S2 .next hx) hs hw)
theorem XS.asgC {t e : Expr} {pos : Pos} {mv : MV} {cs' : List CellAt} {vs' : List MV} (h : EV c n cs vs e mv) (ha : ASc c n cs vs t mv cs' vs') (hx : XS c n cs' vs' (r :: k) P)
    (hs : swapsWithSole [t] e pos.line c.env = pure false := by kernel_rfl) (hw : swappedStores [t] e c.env = pure none := by kernel_rfl) (he : (assignEach [t] c.env).map (·.2) = [assign t c.env] := by kernel_rfl) : XS c n cs vs ((.Assign [t] e pos :: r) :: k) P :=
  XS.asgX (h.x.mono fun m cs1 e => by obtain ⟨rfl, rfl⟩ := e; exact ⟨cs', vs', ha, hx⟩) hs hw he
theorem XS.asgX2 {t1 t2 e : Expr} {pos : Pos} (h : EVx c n cs vs e (fun m cs0 => ∃ cs1 vs1 cs2 vs2, ASc c n cs0 vs t1 m cs1 vs1 ∧ ASc c n cs1 vs1 t2 m cs2 vs2 ∧ XS c n cs2 vs2 (r :: k) P))
    (hw : swappedStores [t1, t2] e c.env = pure none := by kernel_rfl) (he : (assignEach [t1, t2] c.env).map (·.2) = [assign t1 c.env, assign t2 c.env] := by kernel_rfl) : XS c n cs vs ((.Assign [t1, t2] e pos :: r) :: k) P :=
  XS.cons (.mk fun A K F s Q hA hS hQ => wpAny_Assign_two (h.go A K F s _ hA hS fun F1 v s1 m cs0 l1 S1 d1 a1 p1 => by
    obtain ⟨cs1, vs1, cs2, vs2, ha, hb, hx⟩ := p1
    exact ha.go A K F1 s1 _ v hA S1 d1 fun F2 s2 l2 S2 => hb.go A K F2 s2 _ v hA S2 (d1.mono l2 ha.le) fun F3 s3 l3 S3 => hQ F3 _ s3 .next cs2 vs2 (l1.trans (l2.trans l3)) S3 .next hx) he hw)
theorem XS.asgC2 {t1 t2 e : Expr} {pos : Pos} {mv : MV} {cs1 cs2 : List CellAt} {vs1 vs2 : List MV} (h : EV c n cs vs e mv) (ha : ASc c n cs vs t1 mv cs1 vs1) (hb : ASc c n cs1 vs1 t2 mv cs2 vs2) (hx : XS c n cs2 vs2 (r :: k) P)
    (hw : swappedStores [t1, t2] e c.env = pure none := by kernel_rfl) (he : (assignEach [t1, t2] c.env).map (·.2) = [assign t1 c.env, assign t2 c.env] := by kernel_rfl) : XS c n cs vs ((.Assign [t1, t2] e pos :: r) :: k) P :=
  XS.asgX2 (h.x.mono fun m cs0 e => by obtain ⟨rfl, rfl⟩ := e; exact ⟨cs1, vs1, cs2, vs2, ha, hb, hx⟩) hw he

/-- a method of the matcher -/
theorem GMv.inst {name : Str} {f : Addr} {of : Obj} {j : Nat} {a : Addr} {more : List Addr} {ns : List Str} {us : List MV} (hk : cs[j]? = some ⟨a, more, .inst ns us⟩) (hf : nsOf (B.o_314 c.w.params) name = some (.ref f)) (ht : IsTop c.w f of) (hc : of.cls = .type "function") (hsh : name ∉ ns)
    {y : Option Value} (hB : typeLookup (.type "object") name = pure y) : GMv c cs vs (.cell j) name (.ref f) [.cell j] := .mk fun A K F s Q v pl S d hQ => by
  have hv := cell_addr d hk
  obtain ⟨mA, dd, o', e1, e2, e3, I, fr, hn, hu⟩ := S.cl _ (List.mem_of_getElem? hk)
  have h242 := (top242 c.w).get S.toSF
  rw [sm_cls] at h242
  have h241 := nsOk_at (nsOk241 _) ((top241 c.w).get S.toSF)
  subst hv
  exact method_of h242 h241 (by kernel_rfl) (by kernel_rfl) hf (ht.get S.toSF) hc hB I (hn name hsh) (hQ _ s S (.cons d .nil))
end
end Mine
open PySem PySem.W PySem.W.X PyProof.Rows
namespace Mine
set_option Elab.async false
set_option linter.unusedVariables false
set_option maxRecDepth 100000
section
variable {c : Cx} {n : Nat} {cs : List CellAt} {vs : List MV} {r : List Stmt} {k : List (List Stmt)} {P : Fl → List CellAt → List MV → Prop}
/-- values that are seen to be no None -/
noncomputable def MV.some' : MV → Bool
  | .int _ => true
  | .str _ => true
  | .list _ => true
  | .tup _ => true
  | .mat _ => true
  | .cell _ => true
  | .bool _ => true
  | _ => false
theorem some_ne {w : World} {F : PH} {as : List Addr} {m : MV} {v : Value} (d : DV w F as m v) (h : m.some' = true) : v ≠ .none ∧ plainIs v .none = true := by
  cases d <;> first | exact ⟨Value.noConfusion, by simp [PySem.plainIs]⟩ | (refine ⟨?_, by simp [PySem.plainIs]⟩; intro e; cases e; done) | cases h
theorem TV.isNone {l rr : Expr} {pos : Pos} {m : MV} (h1 : EV c n cs vs l m) (h2 : EV c n cs vs rr .none) (hm : m.some' = true := by rfl) (hb : behindInMarks .Is rr = false := by kernel_rfl) : TV c n cs vs (.Compare l [.Is] [rr] pos) false :=
  TV.cmp h1 h2 (fun A K F s Q u v _ S d1 d2 hQ => by
    apply d2.noneI
    obtain ⟨x, y⟩ := some_ne d1 hm
    exact wpAny_is_other y x (hQ _ _ (PH.le.refl _) S)) hb
theorem TV.isNotNoneF {l rr : Expr} {pos : Pos} (h1 : EV c n cs vs l .none) (h2 : EV c n cs vs rr .none) (hb : behindInMarks .IsNot rr = false := by kernel_rfl) : TV c n cs vs (.Compare l [.IsNot] [rr] pos) false :=
  TV.cmp h1 h2 (fun A K F s Q u v _ S d1 d2 hQ => by
    apply d2.noneI; apply d1.noneI
    exact wpAny_isNot_self rfl (hQ _ _ (PH.le.refl _) S)) hb
/-- a list that still changes, as a test -/
theorem TV.cellL {e : Expr} {j : Nat} {a : Addr} {xs : List MV} (h : EV c n cs vs e (.cell j)) (hk : cs[j]? = some ⟨a, [], .list xs⟩) (hz : xs.length ≤ 100000) (he : isTrue e c.env (eval e c.env) = (do let v ← eval e c.env; standAt e.pos; holding [v] (truthy v)) := by kernel_rfl) : TV c n cs vs e (!xs.isEmpty) :=
  TV.val h (fun A K F s Q v S d hQ => by
    have hv := cell_addr d hk
    obtain ⟨_, o, us, e1, q, dd⟩ := S.cl _ (List.mem_of_getElem? hk)
    subst hv
    refine wpAny_truthy_list (q.isList e1) (by rw [arr_len dd]; lia) ?_
    have : (!Array.isEmpty _) = !xs.isEmpty := congrArg (!·) (show Array.isEmpty _ = xs.isEmpty from by
      have := arr_len dd
      rw [Array.isEmpty, this]; cases xs <;> simp)
    rw [this]
    exact hQ _ (S.toks _)) he
end
end Mine
open PySem PySem.W PySem.W.X PyProof.Rows
namespace Mine
set_option Elab.async false
set_option linter.unusedVariables false
set_option maxRecDepth 100000
theorem isSeq.obj {T : Value} {o : Obj} {us : Array Value} (q : isSeq T o us) : ∃ m, o = { cls := T, data := .seq us m } := by
  obtain ⟨c, d, dt, sl⟩ := o
  obtain ⟨h1, h2, h3, m, h4⟩ := q
  cases h1; cases h2; cases h3; cases h4
  exact ⟨m, rfl⟩
section
variable {c : Cx} {n : Nat} {cs : List CellAt} {vs : List MV} {r : List Stmt} {k : List (List Stmt)} {P : Fl → List CellAt → List MV → Prop}
theorem GMv.append {j : Nat} {a : Addr} {xs : List MV} (hk : cs[j]? = some ⟨a, [], .list xs⟩) : GMv c cs vs (.cell j) "append" (.builtin "list.append") [.cell j] := .mk fun A K F s Q v pl S d hQ => by
  have hv := cell_addr d hk
  obtain ⟨_, o, us, e1, q, dd⟩ := S.cl _ (List.mem_of_getElem? hk)
  subst hv
  exact Calls.getMethod_list_append e1 q.1 q.2.1 (hQ _ s S (.cons d .nil))
theorem CX.append {j : Nat} {a : Addr} {xs : List MV} {m : MV} (hk : cs[j]? = some ⟨a, [], .list xs⟩) (hm : m.nc = true) (hz : xs.length ≤ 100000) : CX c n cs vs (.builtin "list.append") [.cell j, m] (fun m' cs' => m' = .none ∧ cs' = cs.set j ⟨a, [], .list (xs ++ [m])⟩) := .mk fun A K F s Q us hA S d hQ => by
  apply d.consI; intro _ _ d1 d2
  apply d2.consI; intro v _ d2 d3
  apply d3.nilI
  have hv := cell_addr d1 hk
  obtain ⟨_, o, its, e1, q, dd⟩ := S.cl _ (List.mem_of_getElem? hk)
  subst hv
  obtain ⟨mm, rfl⟩ := q.obj
  refine append_at e1 (fun h' hs he => ?_) (by rw [arr_len dd]; exact Nat.le_trans hz (by decide))
  refine hQ F .none _ .none _ (PH.le.refl _) (S.setCell hk (y := ⟨a, [], .list (xs ++ [m])⟩) rfl rfl (fun b o hb e => (hs.2 b (fun z => hb (z ▸ .head _))).trans e) (fun b hb => ?_) ⟨rfl, _, _, he, ⟨rfl, rfl, rfl, _, rfl⟩, ?_⟩ rfl rfl) .none (by rw [adrs_set hk (y := ⟨a, [], .list (xs ++ [m])⟩) rfl]; exact asLe.refl _) ⟨rfl, rfl⟩
  · have hb : b ∈ ([a] : List Addr) := hb
    rw [List.mem_singleton.mp hb]; exact ⟨_, he⟩
  · rw [Array.toList_push]; exact dd.append (.cons (d2.pure hm) .nil)
/-- a list that will change is written out -/
theorem EVx.listC {es : List Expr} {pos : Pos} {ms : List MV} (h : EVs c n cs vs es ms) (hz : ms.length ≤ 100000 := by decide) (hc : ms.all MV.nc = true := by rfl) {R : MV → List CellAt → Prop} (hR : ∀ a, R (.cell cs.length) (cs ++ [⟨a, [], .list ms⟩])) : EVx c n cs vs (.List es pos) R := .mk fun A K F s Q hA hS hQ =>
  PyProof.Rows.List_ (h.go pos A K F s _ hA hS fun F1 us s1 l1 S1 d1 => by
    have hl := d1.length
    have hfr := S1.free (get_of_ge (Nat.le_refl s1.heap.objs.size))
    have S2 := S1.push { cls := .type "list", data := .seq us.toArray } s1.toks
    have e2 : (s1.heap.push { cls := .type "list", data := .seq us.toArray }).get? s1.heap.objs.size = some { cls := .type "list", data := .seq us.toArray } := Heap.get?_push_size _ rfl
    refine wpAny_newList ?_ (by rw [← hl]; exact Nat.le_trans hz (by decide))
    generalize s1.heap.objs.size = a at hfr e2 ⊢
    have ha : (adrs (cs ++ [⟨a, [], .list ms⟩]))[cs.length]? = some a := by
      have hl : (adrs cs).length = cs.length := List.length_map _
      rw [adrs_app, List.getElem?_append_right (by rw [hl]; exact Nat.le_refl _), hl, Nat.sub_self]; rfl
    refine hQ F1 _ _ (.cell cs.length) (cs ++ [⟨a, [], .list ms⟩]) l1 ⟨S2.toSF.newCell (x := ⟨a, [], .list ms⟩) ?_ ?_ ⟨rfl, _, _, e2, ⟨rfl, rfl, rfl, _, rfl⟩, d1.pure hc⟩, ?_, ?_, S2.lF, S2.lB⟩ (.cell ha) (by rw [adrs_app]; exact asLe.app _ _) (hR a)
    · exact List.nodup_cons.mpr ⟨nofun, List.nodup_nil⟩
    · intro b hb
      have hb : b ∈ ([a] : List Addr) := hb
      rw [List.mem_singleton.mp hb]
      exact ⟨hfr.f, hfr.b, hfr.c, _, e2⟩
    · obtain ⟨m, hn, hm⟩ := S2.ns
      exact ⟨m, hn, hm.mono (PH.le.refl _) (by rw [adrs_app]; exact asLe.app _ _)⟩
    · rw [foots_app, foots_one]
      intro hb
      rcases List.mem_append.mp hb with hb | hb
      · exact S2.lf hb
      · have hb : c.L ∈ ([a] : List Addr) := hb
        exact hfr.l (List.mem_singleton.mp hb).symm)
theorem GMv.pop {j : Nat} {a : Addr} {xs : List MV} (hk : cs[j]? = some ⟨a, [], .list xs⟩) : GMv c cs vs (.cell j) "pop" (.builtin "list.pop") [.cell j] := .mk fun A K F s Q v pl S d hQ => by
  have hv := cell_addr d hk
  obtain ⟨_, o, us, e1, q, dd⟩ := S.cl _ (List.mem_of_getElem? hk)
  subst hv
  exact getMethod_list_of PySem.F.slot_list_pop (by kernel_rfl) (q.isList e1) ⟨o, e1, q.2.1⟩ (hQ _ s S (.cons d .nil))
theorem CX.pop {j : Nat} {a : Addr} {xs : List MV} {m : MV} (hk : cs[j]? = some ⟨a, [], .list (xs ++ [m])⟩) (hz : xs.length ≤ 100000) : CX c n cs vs (.builtin "list.pop") [.cell j] (fun m' cs' => m' = m ∧ cs' = cs.set j ⟨a, [], .list xs⟩) := .mk fun A K F s Q us hA S d hQ => by
  apply d.consI; intro _ _ d1 d2
  apply d2.nilI
  have hv := cell_addr d1 hk
  obtain ⟨_, o, its, e1, q, dd⟩ := S.cl _ (List.mem_of_getElem? hk)
  subst hv
  obtain ⟨mm, rfl⟩ := q.obj
  have hsz : its.size = xs.length + 1 := by rw [arr_len dd, List.length_append]; rfl
  obtain ⟨y, hy, dy⟩ := dd.get (i := xs.length) (x := m) (by rw [List.getElem?_append_right (Nat.le_refl _), Nat.sub_self]; rfl)
  have hy' : its[its.size - 1]? = some y := by rw [hsz, Nat.add_sub_cancel]; exact toList_get hy
  refine call_meets PySem.F.slot_list_pop ⟨_, e1, rfl⟩ PySem.F.entry_list_pop (PySem.F.args_list_pop_1 _) (PySem.MeetsSeq.list_pop_last a its mm y hy' (by rw [hsz]; exact Nat.le_trans (Nat.add_le_add_right hz 1) (by decide))) ⟨e1, ?_⟩
  have hself := Heap.get?_update_self (Obj.mapSeq fun xs => xs.eraseIdxIfInBounds (its.size - 1)) e1 rfl
  refine hQ F y _ m _ (PH.le.refl _) (S.setCell hk (y := ⟨a, [], .list xs⟩) rfl rfl (fun b o hb e => (Heap.get?_update_other _ _ (fun z : a = b => hb (z ▸ .head _))).trans e) (fun b hb => ?_) ⟨rfl, _, _, hself, ⟨rfl, rfl, rfl, _, rfl⟩, ?_⟩ rfl rfl) (dy.any _) (by rw [adrs_set hk (y := ⟨a, [], .list xs⟩) rfl]; exact asLe.refl _) ⟨rfl, rfl⟩
  · have hb : b ∈ ([a] : List Addr) := hb
    rw [List.mem_singleton.mp hb]; exact ⟨_, hself⟩
  · have e : (its.eraseIdxIfInBounds (its.size - 1)).toList = its.toList.take xs.length := by
      rw [show (its.eraseIdxIfInBounds (its.size - 1)).toList = its.toList.eraseIdx (its.size - 1) from by simp, hsz, Nat.add_sub_cancel, List.eraseIdx_eq_take_drop_succ, List.drop_of_length_le (by rw [Array.length_toList, hsz]; exact Nat.le_refl _), List.append_nil]
    rw [e]
    have := dd.take xs.length
    rw [List.take_left'] at this
    · exact this
    · rfl
end
end Mine
open PySem PySem.W PySem.W.X PyProof.Rows
namespace Mine
set_option Elab.async false
set_option linter.unusedVariables false
set_option maxRecDepth 100000
/-- a cell that changes no more stands from now on as a frozen value -/
noncomputable def MV.frz (j : Nat) (m : MV) : MV → MV
  | .cell i => if i = j then m else .cell i
  | v => v
noncomputable def Cell.frz (j : Nat) (m : MV) : Cell → Cell
  | .inst ns vs => .inst ns (vs.map (MV.frz j m))
  | c => c
noncomputable def frzC (j : Nat) (m : MV) (cs : List CellAt) : List CellAt := cs.map fun x => { x with c := Cell.frz j m x.c }
theorem At.map {f : MV → MV} {x : Str} {u : MV} : ∀ {xs : List Str} {vs : List MV}, At x u xs (vs.map f) → ∃ v, At x v xs vs ∧ f v = u := by
  intro xs
  induction xs with
  | nil => intro vs h; cases h
  | cons y ys ih =>
    intro vs h
    cases vs with
    | nil => cases h
    | cons v vs =>
      rw [List.map_cons] at h
      cases h with
      | here => exact ⟨v, .here, rfl⟩
      | there h => obtain ⟨v', h1, h2⟩ := ih h; exact ⟨v', .there h1, h2⟩
theorem DV.frz {w : World} {F F' : PH} {as : List Addr} {j : Nat} {m u : MV} {v : Value} {a : Addr} (hF : PH.le F F') (ha : as[j]? = some a) (hm : DV w F' as m (.ref a)) (d : DV w F as u v) : DV w F' as (MV.frz j m u) v := by
  cases d with
  | @cell _ i b e =>
    show DV w F' as (if i = j then m else .cell i) (.ref b)
    by_cases q : i = j
    · rw [if_pos q]
      rw [q, ha] at e; cases e; exact hm
    · rw [if_neg q]; exact .cell e
  | bm e q d => exact DV.mono hF (.bm e q d) (asLe.refl _)
  | junk v => exact .junk v
  | none => exact .none
  | bool b => exact .bool b
  | int i t => exact .int i t
  | str x t => exact .str x t
  | val v => exact .val v
  | tup a b c => exact DV.mono hF (.tup a b c) (asLe.refl _)
  | mat a b c => exact DV.mono hF (.mat a b c) (asLe.refl _)
  | list a b c => exact DV.mono hF (.list a b c) (asLe.refl _)
  | idict a b c => exact DV.mono hF (.idict a b c) (asLe.refl _)
  | sdict a b c => exact DV.mono hF (.sdict a b c) (asLe.refl _)
  | set0 a b => exact .set0 (hF _ _ a) b
  | gen a b => exact .gen (hF _ _ a) b
theorem MV.frz_unb {j : Nat} {m u : MV} (h : MV.frz j m u = .unb) (hm : m ≠ .unb) : u = .unb := by
  cases u with
  | cell i =>
    have h : (if i = j then m else MV.cell i) = .unb := h
    by_cases q : i = j
    · rw [if_pos q] at h; exact absurd h hm
    · rw [if_neg q] at h; cases h
  | unb => rfl
  | _ => cases h
theorem FrameR.frz {w : World} {F F' : PH} {as : List Addr} {xs : List Str} {vs : List MV} {mA : Str → Option Value} {j : Nat} {m : MV} {a : Addr} (hF : PH.le F F') (ha : as[j]? = some a) (hm : DV w F' as m (.ref a)) (h : FrameR w F as xs vs mA) : FrameR w F' as xs (vs.map (MV.frz j m)) mA := fun x u hu hne => by
  obtain ⟨v, h1, h2⟩ := hu.map
  obtain ⟨val, e, d⟩ := h x v h1 (fun z => by subst z; exact hne (h2.symm.trans rfl))
  exact ⟨val, e, h2 ▸ DV.frz hF ha hm d⟩
theorem frz_foot (j : Nat) (m : MV) (x : CellAt) : ({ x with c := Cell.frz j m x.c } : CellAt).foot = x.foot := by
  obtain ⟨a, more, c⟩ := x
  cases c <;> rfl
theorem frzC_foots (j : Nat) (m : MV) (cs : List CellAt) : foots (frzC j m cs) = foots cs := by
  unfold foots frzC
  rw [List.flatMap_map]
  congr 1
  funext x
  exact frz_foot j m x
theorem frzC_adrs (j : Nat) (m : MV) (cs : List CellAt) : adrs (frzC j m cs) = adrs cs := by
  unfold adrs frzC
  rw [List.map_map]; rfl
theorem foots_dead {cs : List CellAt} {j : Nat} {x : CellAt} (hk : cs[j]? = some x) : (foots (cs.set j ⟨x.a, [], .dead⟩)).Sublist (foots cs) ∧ ((foots cs).Nodup → ∀ b ∈ foots (cs.set j ⟨x.a, [], .dead⟩), b ∉ x.foot) := by
  obtain ⟨hkl, hke⟩ := List.getElem?_eq_some_iff.mp hk
  have hsplit : cs = cs.take j ++ x :: cs.drop (j + 1) := by rw [← hke, ← List.drop_eq_getElem_cons hkl, List.take_append_drop]
  have hset : cs.set j ⟨x.a, [], .dead⟩ = cs.take j ++ ⟨x.a, [], .dead⟩ :: cs.drop (j + 1) := (List.set_eq_take_append_cons_drop ..).trans (if_pos hkl)
  have e1 : foots (cs.set j ⟨x.a, [], .dead⟩) = foots (cs.take j) ++ foots (cs.drop (j + 1)) := by
    rw [hset, foots_app]; rfl
  have e2 : foots cs = foots (cs.take j) ++ (x.foot ++ foots (cs.drop (j + 1))) := by
    conv => lhs; rw [hsplit]
    rw [foots_app]; rfl
  rw [e1, e2]
  refine ⟨List.Sublist.append (List.Sublist.refl _) (List.sublist_append_right _ _), fun nd b hb hx => ?_⟩
  obtain ⟨_, n2, n3⟩ := List.nodup_append.mp nd
  obtain ⟨_, _, n5⟩ := List.nodup_append.mp n2
  rcases List.mem_append.mp hb with hb | hb
  · exact n3 b hb b (List.mem_append_left _ hx) rfl
  · exact n5 b hx b hb rfl
theorem adrs_get {cs : List CellAt} {j : Nat} {x : CellAt} (hk : cs[j]? = some x) : (adrs cs)[j]? = some x.a := by
  unfold adrs; rw [List.getElem?_map, hk]; rfl
theorem St.frz {w : World} {K : Kp} {F F' : PH} {cs : List CellAt} {L : Addr} {xs : List Str} {vs : List MV} {s : Shared} {j : Nat} {x : CellAt} {m : MV} (h : St w K F cs L xs vs s) (hk : cs[j]? = some x) (hF : PH.le F F') (hnew : ∀ b o, F' b = some o → F b = some o ∨ (b ∈ x.foot ∧ s.heap.get? b = some o))
    (hm : DV w F' (adrs cs) m (.ref x.a)) (hmu : m ≠ .unb) : St w K F' ((frzC j m cs).set j ⟨x.a, [], .dead⟩) L xs (vs.map (MV.frz j m)) s := by
  have hk' : (frzC j m cs)[j]? = some { x with c := Cell.frz j m x.c } := by unfold frzC; rw [List.getElem?_map, hk]; rfl
  have hd := foots_dead hk'
  rw [frzC_foots] at hd
  have hadr : adrs ((frzC j m cs).set j ⟨x.a, [], .dead⟩) = adrs cs := by rw [adrs_set hk' (y := ⟨x.a, [], .dead⟩) rfl, frzC_adrs]
  have hxf : ∀ b, b ∈ x.foot → b ∈ foots cs := fun b hb => mem_foots (List.mem_of_getElem? hk) hb
  refine ⟨⟨fun b o e => ?_, h.kp, fun y hy => ?_, hd.1.nodup h.nd, fun b hb => ?_, fun b o e => ?_, fun b o e => hF b o (h.top b o e), h.gens, h.os⟩, ?_, fun hb => h.lf (hd.1.subset hb), ?_, h.lB⟩
  · rcases hnew b o e with e | ⟨_, e⟩
    · exact h.fz b o e
    · exact e
  · rw [hadr]
    rcases List.mem_or_eq_of_mem_set hy with hy | rfl
    · obtain ⟨z, hz, rfl⟩ := List.mem_map.mp hy
      have hc := h.cl z hz
      obtain ⟨a, more, c⟩ := z
      cases c with
      | inst ns us =>
        obtain ⟨mA, d, o, e, x1, x2, x3, x4, x5, x6⟩ := hc
        refine ⟨mA, d, o, e, x1, x2, x3, x4.frz hF (adrs_get hk) hm, x5, fun hu => ?_⟩
        obtain ⟨u, hu1, hu2⟩ := List.mem_map.mp hu
        exact x6 (MV.frz_unb hu2 hmu ▸ hu1)
      | list ys => exact CellR.mono hF (asLe.refl _) (fun _ _ _ e => e) hc
      | idict f n => exact CellR.mono hF (asLe.refl _) (fun _ _ _ e => e) hc
      | bj f n pin => exact CellR.mono hF (asLe.refl _) (fun _ _ _ e => e) hc
      | dead => trivial
    · trivial
  · obtain ⟨p, q, o, e⟩ := h.ap b (hd.1.subset hb)
    refine ⟨?_, q, o, e⟩
    cases r : F' b with
    | none => rfl
    | some o' =>
      rcases hnew b o' r with r | ⟨r, _⟩
      · rw [p] at r; cases r
      · exact absurd ((frz_foot j m x).symm ▸ r) (hd.2 h.nd b hb)
  · rcases hnew b o e with e | ⟨e, _⟩
    · exact h.fb b o e
    · exact (h.ap b (hxf b e)).2.1
  · rw [hadr]
    obtain ⟨mm, hn, q⟩ := h.ns
    exact ⟨mm, hn, q.frz hF (adrs_get hk) hm⟩
  · cases r : F' L with
    | none => rfl
    | some o =>
      rcases hnew L o r with r | ⟨r, _⟩
      · rw [h.lF] at r; cases r
      · exact absurd (hxf L r) h.lf
section
variable {c : Cx} {n : Nat} {cs : List CellAt} {vs : List MV} {ss : List Stmt} {k : List (List Stmt)} {P : Fl → List CellAt → List MV → Prop}
/-- from here on a cell is frozen -/
theorem XS.frz {j : Nat} {x : CellAt} {m : MV} (hk : cs[j]? = some x) (hmu : m ≠ .unb)
    (hf : ∀ w F K s, SF w K F cs s → w = c.w → ∃ F', PH.le F F' ∧ (∀ b o, F' b = some o → F b = some o ∨ (b ∈ x.foot ∧ s.heap.get? b = some o)) ∧ DV w F' (adrs cs) m (.ref x.a))
    (h : XS c n ((frzC j m cs).set j ⟨x.a, [], .dead⟩) (vs.map (MV.frz j m)) (ss :: k) P) : XS c n cs vs (ss :: k) P := by
  refine EX.mk fun A K F s Q hA hS hQ => ?_
  obtain ⟨F', hF, hnew, hm⟩ := hf c.w F K s hS.toSF rfl
  exact EX.go h A K F' s Q hA (hS.frz hk hF hnew hm hmu) fun F'' f s' fl cs' vs' l => hQ F'' f s' fl cs' vs' (hF.trans l)
theorem XS.frzL {j : Nat} {a : Addr} {ms : List MV} (hk : cs[j]? = some ⟨a, [], .list ms⟩) (h : XS c n ((frzC j (.list ms) cs).set j ⟨a, [], .dead⟩) (vs.map (MV.frz j (.list ms))) (ss :: k) P) : XS c n cs vs (ss :: k) P :=
  XS.frz hk (by nofun) (fun w F K s S _ => by
    obtain ⟨_, o, us, e1, q, dd⟩ := S.cl _ (List.mem_of_getElem? hk)
    have hn : F a = none := (S.ap a (mem_foots (List.mem_of_getElem? hk) (.head _))).1
    refine ⟨F.ins a o, PH.le_ins hn, fun b o' e => ?_, .list (PH.ins_self _ _ _) q (dd.mono (PH.le_ins hn) (asLe.refl _))⟩
    unfold PH.ins at e
    by_cases z : b = a
    · rw [if_pos z] at e; cases e; exact .inr ⟨z ▸ .head _, z ▸ e1⟩
    · rw [if_neg z] at e; exact .inl e) h
theorem XS.frzI {j : Nat} {a : Addr} {f : Int → Option Int} {z : Nat} (hk : cs[j]? = some ⟨a, [], .idict f z⟩) (h : XS c n ((frzC j (.idict f) cs).set j ⟨a, [], .dead⟩) (vs.map (MV.frz j (.idict f))) (ss :: k) P) : XS c n cs vs (ss :: k) P :=
  XS.frz hk (by nofun) (fun w F K s S _ => by
    obtain ⟨_, o, g, e1, q, dd⟩ := S.cl _ (List.mem_of_getElem? hk)
    have hn : F a = none := (S.ap a (mem_foots (List.mem_of_getElem? hk) (.head _))).1
    refine ⟨F.ins a o, PH.le_ins hn, fun b o' e => ?_, .idict (PH.ins_self _ _ _) q dd⟩
    unfold PH.ins at e
    by_cases z : b = a
    · rw [if_pos z] at e; cases e; exact .inr ⟨z ▸ .head _, z ▸ e1⟩
    · rw [if_neg z] at e; exact .inl e) h
end
end Mine
open PySem PySem.W PySem.W.X PyProof.Rows
namespace Mine
set_option Elab.async false
set_option linter.unusedVariables false
set_option maxRecDepth 100000
section
variable {w : World} {A : Around} {env : Env} {s : Shared}
/-- a class of the program is called by its name -/
theorem callWith_exc {nm q : Str} {C N : Addr} {bs bm : List Value} {hd : Bool} {sn : List Str} {sub : List Value} {ab : Bool} {col : Option Bool} {dd : Option Addr} {k0 k1 k2 k3 k5 : Option Value} {newId : String} {pos : Pos} {e : Expr} {rest : List Expr} {Q : Value → Shared → Prop}
    (h : wpAny (model pw w) A (spliced (backTo pos (starEach (e :: rest) env))) (fun vs s₁ => s₁.heap.get? C = some (excClassObj nm q C N bs bm hd sn sub ab col dd k0 k1 k2 k3 k5 newId) ∧ wpAny (model pw w) A (call (.ref C) vs) Q NoE s₁) NoE s)
    (he : starEach (e :: rest) env = (false, eval e env) :: starEach rest env)
    (hplain : (backTo pos (starEach rest env)).any (·.1) = false) :
    wpAny (model pw w) A (callWith pos (.ref C) [] (backTo pos (starEach (e :: rest) env)) []) Q NoE s := by
  rw [he] at h ⊢
  have hst : ((backTo pos ((false, eval e env) :: starEach rest env)).any (fun x => x.fst) || ([] : List (Option Str × Sem Value)).any fun x => x.fst.isNone) = false := by
    show ((false || (backTo pos (starEach rest env)).any (·.1)) || false) = false
    rw [hplain]; rfl
  unfold callWith
  refine wpAny_bind (wpAny_holding (Calls.evalArgs_plain (wpAny_mono h (fun vs s₁ h₁ => ?_) fun _ _ x => x)))
  obtain ⟨hh, g, d, t, os⟩ := s₁
  obtain ⟨hC, h₁⟩ := h₁
  have f1 := tc_lookup
  have hT : (⟨hh, g, d, t, os⟩ : Shared).TypeIs (.ref C) "type" := ⟨_, hC, rfl⟩
  refine wpAny_bind (wpAny_standAt ?_)
  show wpAny _ _ (keeperOf (.ref C) >>= _) _ _ _
  unfold keeperOf specialOf
  repeat (any_goals (first | assumption | with_reducible refine wpAny_loadPart_at hC ?_ | with_reducible refine wpAny_load' hC ?_ | wp_step))
  rw [if_pos (by rfl), hst]
  show wpAny _ _ (call (.ref C) vs [] >>= fun r => do holding [r] point; pure r) _ _ _
  exact wpAny_bind (wpAny_mono h₁ (fun r s' hr => wpAny_bind (wpAny_holding (wpAny_point (wpAny_pure hr)))) fun _ _ x => x)
end
section
variable {c : Cx} {n : Nat} {cs : List CellAt} {vs : List MV}
/-- SequenceMatcher(..): a new object behind the other cells, and its __init__ -/
theorem CX.newSM {f : Addr} {of : Obj} {ms : List MV} {R : MV → List CellAt → Prop} (hf : nsOf (B.o_314 c.w.params) "__init__" = some (.ref f)) (ht : IsTop c.w f of) (hfc : of.cls = .type "function")
    (h : ∀ x d, CX c n (cs ++ [⟨x, [d], .inst [] []⟩]) vs (.ref f) (.cell cs.length :: ms) (fun m cs' => m = .none ∧ ((adrs cs')[cs.length]? = some x → R (.cell cs.length) cs'))) : CX c (n + 1) cs vs (.ref 242) ms R := .mk fun A K F s Q us hA S d hQ => by
  have h242 := (top242 c.w).get S.toSF
  rw [sm_cls] at h242
  have h241 := nsOk_at (nsOk241 _) ((top241 c.w).get S.toSF)
  refine wpAny_call_obj_init PySem.F.objNew h242 h241 hf (ht.get S.toSF) hfc fun h' x dx M => ?_
  have S1 : St c.w K F cs c.L c.xs vs ⟨h', s.gens, s.drawn, s.toks, s.os⟩ := S.ext M.keeps rfl rfl
  have fx := S.free M.newX
  have fd := S.free M.newD
  obtain ⟨o, e1, e2, e3, e4⟩ := id M.inst
  have e5 := M.dict o e1
  rcases e4 with ⟨e4, _⟩ | ⟨d', e4, e6, od, es, ep, e7, _⟩
  · rw [e5] at e4; cases e4
  have : d' = dx := by rw [e5] at e4; cases e4; rfl
  subst this
  have hl : (adrs cs).length = cs.length := List.length_map _
  have ha : (adrs (cs ++ [⟨x, [d'], .inst [] []⟩]))[cs.length]? = some x := by
    rw [adrs_app, List.getElem?_append_right (by rw [hl]; exact Nat.le_refl _), hl, Nat.sub_self]; rfl
  have le1 : asLe (adrs cs) (adrs (cs ++ [⟨x, [d'], .inst [] []⟩])) := by rw [adrs_app]; exact asLe.app _ _
  have hfoot : ∀ b ∈ ([x, d'] : List Addr), b = x ∨ b = d' := fun b hb => by simpa using hb
  have S2 : St c.w K F (cs ++ [⟨x, [d'], .inst [] []⟩]) c.L c.xs vs ⟨h', s.gens, s.drawn, s.toks, s.os⟩ := by
    refine ⟨S1.toSF.newCell (x := ⟨x, [d'], .inst [] []⟩) ?_ (fun b hb => ?_) ⟨_, d', o, rfl, e1, e5, M.inst, fun y mv hy => (nomatch hy), fun _ _ => rfl, (fun q => nomatch q)⟩, ?_, ?_, S1.lF, S1.lB⟩
    · refine List.nodup_cons.mpr ⟨fun q => ?_, List.nodup_cons.mpr ⟨nofun, List.nodup_nil⟩⟩
      exact e6 (List.mem_singleton.mp q).symm
    · rcases hfoot b hb with rfl | rfl
      · exact ⟨fx.f, fx.b, fx.c, o, e1⟩
      · exact ⟨fd.f, fd.b, fd.c, od, e7⟩
    · obtain ⟨m, hn, hm⟩ := S1.ns
      exact ⟨m, hn, hm.mono (PH.le.refl _) le1⟩
    · rw [foots_app, foots_one]
      intro hb
      rcases List.mem_append.mp hb with hb | hb
      · exact S1.lf hb
      · rcases hfoot _ hb with e | e
        · exact fx.l e.symm
        · exact fd.l e.symm
  refine (h x d').go _ K F _ _ (.ref x :: us) ⟨hA.handled, ?_, ?_⟩ S2 (.cons (.cell ha) (d.mono (PH.le.refl _) le1)) fun F' v s' mv cs' l S3 d3 a3 p3 => ?_
  · have := hA.depth
    show A.depth + 1 + n ≤ _
    lia
  · have := hA.units
    show A.units + 1 + 10 * n ≤ _
    lia
  · obtain ⟨rfl, hR⟩ := p3
    apply d3.noneI
    exact ⟨rfl, hQ F' (.ref x) s' (.cell cs.length) cs' l S3 (.cell (a3 _ _ ha)) (asLe.trans le1 a3) (hR (a3 _ _ ha))⟩
end
end Mine
open PySem PySem.W PySem.W.X PyProof.Rows
namespace Mine
set_option Elab.async false
set_option linter.unusedVariables false
set_option maxRecDepth 100000
section
variable {c : Cx} {n : Nat} {cs : List CellAt} {vs : List MV}
/-- the class SequenceMatcher called in an expression -/
theorem EVx.callSM {x : Str} {p : Pos} {e : Expr} {r : List Expr} {pos : Pos} {ms : List MV} {P : MV → List CellAt → Prop} (hf : EV c n cs vs (.Name x p) (.val (.ref 242))) (ha : EVs c n cs vs (e :: r) ms) (h : CX c n cs vs (.ref 242) ms P)
    (he : starEach (e :: r) c.env = (false, eval e c.env) :: starEach r c.env := by kernel_rfl) (hp : (backTo pos (starEach r c.env)).any (·.1) = false := by kernel_rfl) : EVx c n cs vs (.Call (.Name x p) (e :: r) [] pos) P := .mk fun A K F s Q hA hS hQ =>
  PyProof.Rows.Call_ (hf.go A K F s _ hA hS fun F1 u s1 l1 S1 d1 => by
    apply d1.valI
    refine callWith_exc (ha.go pos A K F1 s1 _ hA S1 fun F2 us s2 l2 S2 d2 => ⟨sm_cls _ ▸ (top242 c.w).get S2.toSF, h.go A K F2 s2 Q us hA S2 d2 fun F3 v s3 mv cs' l3 S3 d3 a3 p3 => hQ F3 v s3 mv cs' (l1.trans (l2.trans l3)) S3 d3 a3 p3⟩) he hp) (eval_call _ _ _ _ _)
end
end Mine
open PySem PySem.W PySem.W.X PyProof.Rows
namespace Mine
set_option Elab.async false
set_option linter.unusedVariables false
set_option maxRecDepth 100000
theorem adrs_last {cs : List CellAt} {x : CellAt} : (adrs (cs ++ [x]))[cs.length]? = some x.a := by
  have hl : (adrs cs).length = cs.length := List.length_map _
  rw [adrs_app, List.getElem?_append_right (by rw [hl]; exact Nat.le_refl _), hl, Nat.sub_self]; rfl
theorem le_last {cs : List CellAt} {x : CellAt} : asLe (adrs cs) (adrs (cs ++ [x])) := by rw [adrs_app]; exact asLe.app _ _
/-- a new cell of one object -/
theorem St.newCell1 {w : World} {K : Kp} {F : PH} {cs : List CellAt} {L : Addr} {xs : List Str} {vs : List MV} {s : Shared} {a : Addr} {cc : Cell} {o : Obj} (S : St w K F cs L xs vs s) (fr : Free K F cs L a) (e : s.heap.get? a = some o)
    (hr : CellR w F (adrs (cs ++ [⟨a, [], cc⟩])) s.heap ⟨a, [], cc⟩) (hfoot : ∀ b ∈ CellAt.foot ⟨a, [], cc⟩, b = a) (hnd : (CellAt.foot ⟨a, [], cc⟩).Nodup) : St w K F (cs ++ [⟨a, [], cc⟩]) L xs vs s := by
  refine ⟨S.toSF.newCell hnd (fun b hb => ?_) hr, ?_, ?_, S.lF, S.lB⟩
  · rw [hfoot b hb]; exact ⟨fr.f, fr.b, fr.c, o, e⟩
  · obtain ⟨m, hn, hm⟩ := S.ns
    exact ⟨m, hn, hm.mono (PH.le.refl _) le_last⟩
  · rw [foots_app, foots_one]
    intro hb
    rcases List.mem_append.mp hb with hb | hb
    · exact S.lf hb
    · exact fr.l (hfoot _ hb).symm
section
variable {c : Cx} {n : Nat} {cs : List CellAt} {vs : List MV}
theorem EVx.dictI {pos : Pos} {R : MV → List CellAt → Prop} (hR : ∀ a, R (.cell cs.length) (cs ++ [⟨a, [], .idict (fun _ => none) 0⟩])) : EVx c n cs vs (.Dict [] [] pos) R := .mk fun A K F s Q hA hS hQ => by
  refine wpAny_Dict_empty ?_
  have fr := hS.free (get_of_ge (Nat.le_refl s.heap.objs.size))
  have S1 := hS.push { cls := .type "dict", data := .dict #[] } s.toks
  have e : (s.heap.push { cls := .type "dict", data := .dict #[] }).get? s.heap.objs.size = some { cls := .type "dict", data := .dict #[] } := Heap.get?_push_size _ rfl
  generalize s.heap.objs.size = a at fr e ⊢
  exact hQ F _ _ _ _ (PH.le.refl _) (S1.newCell1 (cc := .idict (fun _ => none) 0) fr e ⟨rfl, _, fun _ => none, e, ⟨[], ⟨#[], 0, ⟨rfl, rfl, rfl⟩, rfl, (fun _ he => by simp at he), .nil, List.nodup_nil⟩, fun _ => rfl, Nat.le_refl _⟩, fun _ => rfl⟩ (fun b hb => List.mem_singleton.mp hb) (List.nodup_cons.mpr ⟨nofun, List.nodup_nil⟩)) (.cell adrs_last) le_last (hR a)
theorem EVx.dictB {pos : Pos} {R : MV → List CellAt → Prop} (hR : ∀ a, R (.cell cs.length) (cs ++ [⟨a, [], .bj (fun _ => none) 0 none⟩])) : EVx c n cs vs (.Dict [] [] pos) R := .mk fun A K F s Q hA hS hQ => by
  refine wpAny_Dict_empty ?_
  have fr := hS.free (get_of_ge (Nat.le_refl s.heap.objs.size))
  have S1 := hS.push { cls := .type "dict", data := .dict #[] } s.toks
  have e : (s.heap.push { cls := .type "dict", data := .dict #[] }).get? s.heap.objs.size = some { cls := .type "dict", data := .dict #[] } := Heap.get?_push_size _ rfl
  generalize s.heap.objs.size = a at fr e ⊢
  exact hQ F _ _ _ _ (PH.le.refl _) (S1.newCell1 (cc := .bj (fun _ => none) 0 none) fr e ⟨_, fun _ => none, e, ⟨[], ⟨#[], 0, ⟨rfl, rfl, rfl⟩, rfl, (fun _ he => by simp at he), .nil, List.nodup_nil⟩, fun _ => rfl, Nat.le_refl _⟩, ⟨fun _ _ => rfl, (fun _ _ q => nomatch q), fun _ _ _ q => nomatch q⟩, nofun⟩ (fun b hb => List.mem_singleton.mp hb) (List.nodup_cons.mpr ⟨nofun, List.nodup_nil⟩)) (.cell adrs_last) le_last (hR a)
end
end Mine
open PySem PySem.W PySem.W.X PyProof.Rows
namespace Mine
set_option Elab.async false
set_option linter.unusedVariables false
set_option maxRecDepth 100000
section
variable {w : World} {K : Kp} {F F' : PH} {cs : List CellAt} {L : Addr} {xs : List Str} {vs : List MV} {s : Shared}
/-- two objects that are nobody's are changed -/
theorem St.sameBut2 {b d : Addr} {h' : Heap} {t : Nat} (h : St w K F cs L xs vs s) (f : Free K F cs L b) (g : Free K F cs L d) (hs : ∀ a o, a ≠ b → a ≠ d → s.heap.get? a = some o → h'.get? a = some o) : St w K F cs L xs vs { s with heap := h', toks := t } where
  toSF := h.toSF.move (fun a o e => hs a o (fun q => by rw [q, f.f] at e; cases e) (fun q => by rw [q, g.f] at e; cases e) (h.fz a o e)) (fun a o e => hs a o (fun q => by rw [q, f.b] at e; cases e) (fun q => by rw [q, g.b] at e; cases e) (h.kp a o e))
    (fun a ha o e => hs a o (fun q => f.c (q ▸ ha)) (fun q => g.c (q ▸ ha)) e) rfl rfl
  ns := by
    obtain ⟨m, ⟨o, es, ep, e, r⟩, q⟩ := h.ns
    exact ⟨m, ⟨o, es, ep, hs L o (Ne.symm f.l) (Ne.symm g.l) e, r⟩, q⟩
  lf := h.lf
  lF := h.lF
  lB := h.lB
theorem Free.ins {b a : Addr} {o : Obj} (f : Free K F cs L b) (h : b ≠ a) : Free K (F.ins a o) cs L b := ⟨by rw [PH.ins_ne h]; exact f.f, f.b, f.c, f.l⟩
theorem Free.hold {b a : Addr} {o : Obj} (f : Free K F cs L b) (h : b ≠ a) : Free (K.hold a o) F cs L b := ⟨f.f, (if_neg h).trans f.b, f.c, f.l⟩
theorem hold_ne {a b : Addr} {o : Obj} (h : b ≠ a) : (K.hold a o).B b = K.B b := if_neg h
theorem Free.unhold {b a : Addr} {o : Obj} (f : Free (K.hold a o) F cs L b) (h : b ≠ a) : Free K F cs L b := ⟨f.f, (if_neg h).symm.trans f.b, f.c, f.l⟩
end
section
variable {c : Cx} {n : Nat} {cs : List CellAt} {vs : List MV}
theorem raw_call {x : Str} {p : Pos} {e : Expr} {r : List Expr} {pos : Pos} {fv : Value} {ms : List MV} {A : Around} {K : Kp} {F : PH} {s : Shared} {Q : Value → Shared → Prop} (hf : EV c n cs vs (.Name x p) (.val fv)) (hc : ∀ F K s, SF c.w K F cs s → Callee F fv) (ha : EVs c n cs vs (e :: r) ms)
    (hA : Room n A) (hS : St c.w K F cs c.L c.xs vs s) (h : ∀ F' us s', PH.le F F' → St c.w K F' cs c.L c.xs vs s' → DVs c.w F' (adrs cs) ms us → wpAny (model pw c.w) A (PySem.call fv us) Q NoE s')
    (he : starEach (e :: r) c.env = (false, eval e c.env) :: starEach r c.env := by kernel_rfl) (hp : (backTo pos (starEach (e :: r) c.env)).any (·.1) = false := by kernel_rfl) : wpAny (model pw c.w) A (eval (.Call (.Name x p) (e :: r) [] pos) c.env) Q NoE s :=
  PyProof.Rows.Call_ (hf.go A K F s _ hA hS fun F1 u s1 l1 S1 d1 => by
    apply d1.valI
    refine (hc F1 K s1 S1.toSF).go (w := c.w) (env := c.env) ?_ ?_
    · exact hp
    · have := ha.go pos A K F1 s1 (fun us s2 => PH.le F1 s2.heap.get? ∧ wpAny (model pw c.w) A (PySem.call fv us) Q NoE s2) hA S1 fun F2 us s2 l2 S2 d2 => ⟨fun a o q => S2.fz a o (l2 a o q), h F2 us s2 (l1.trans l2) S2 d2⟩
      rw [he] at this ⊢
      exact Calls.evalArgs_plain (wpAny_mono this (fun us s' ⟨x, y⟩ => ⟨x, rfl, y⟩) fun _ _ x => x)) (eval_call _ _ _ _ _)
/-- a for over enumerate(a list that is frozen) -/
theorem EX1.forE {elts : List Expr} {tk : Nat} {tp : Pos} {x : Str} {p : Pos} {e : Expr} {ipos pos : Pos} {body : List Stmt} {items : List MV} {P : Fl → List CellAt → List MV → Prop} (I : Nat → List CellAt → List MV → Prop)
    (hf : EV c n cs vs (.Name x p) (.val (.type "enumerate"))) (hi : EV c n cs vs e (.list items))
    (turn : ∀ i y cs vs, items[i]? = some y → I i cs vs → ∃ vs1, AS c n cs vs (.Tuple elts tk tp) (.tup [.int i, y]) vs1 ∧ EX c n cs vs1 body (fun fl cs' vs' => match fl with | .next | .cont => I (i + 1) cs' vs' | .brk => P .next cs' vs' | .ret r => P (.ret r) cs' vs'))
    (h0 : I 0 cs vs) (hend : ∀ cs' vs', I items.length cs' vs' → P .next cs' vs')
    (hs : ∀ x', foldedSetIterable (.Call (.Name x p) [e] [] ipos) c.env x' = pure x' := by intro _; kernel_rfl)
    (he : starEach [e] c.env = (false, eval e c.env) :: starEach [] c.env := by kernel_rfl) (hp : (backTo ipos (starEach [e] c.env)).any (·.1) = false := by kernel_rfl) : EX1 c n cs vs (.For (.Tuple elts tk tp) (.Call (.Name x p) [e] [] ipos) body [] pos) P := .mk fun A K F s Q hA hS hQ => by
  refine wpAny_For (raw_call hf (fun _ _ _ _ => .ty _) (EVs.cons hi EVs.nil he) hA hS (fun F1 us s1 l1 S1 d1 => ?_) he hp) hs
  apply d1.consI; intro _ _ d1 d2
  apply d2.nilI
  apply d1.listI; intro l o us eo q d
  have hl1 := q.isList (S1.fz _ _ eo)
  refine call_enumerate_list hl1 fun h' hE0 hI0 hz0 hk0 => ?_
  have f1 := S1.free (get_of_ge (Nat.le_refl s1.heap.objs.size))
  have f2 : Free K F1 cs c.L (s1.heap.objs.size + 1) := S1.free (get_of_ge (Nat.le_succ s1.heap.objs.size))
  have S2 : St c.w K F1 cs c.L c.xs vs { s1 with heap := h', toks := s1.toks } := S1.ext hk0 rfl rfl
  have hne : s1.heap.objs.size + 1 ≠ s1.heap.objs.size := Nat.succ_ne_self _
  generalize s1.heap.objs.size + 1 = en at *
  generalize s1.heap.objs.size = it at *
  refine wpAny_pyIter_enum (s := ⟨h', s1.gens, s1.drawn, s1.toks, s1.os⟩) hE0 ?_
  refine codeAny_forLoop_any (fun k s => ∃ i F' cs' vs' old, k + i = items.length ∧ PH.le F1 F' ∧ St c.w K F' cs' c.L c.xs vs' s ∧ Free K F' cs' c.L it ∧ Free K F' cs' c.L en ∧ IsEnum s.heap en it i old ∧ s.heap.IsListIter it l i ∧ I i cs' vs') ?_ items.length ⟨0, F1, cs, vs, .none, by lia, PH.le.refl _, S2, f1, f2, hE0, hI0, h0⟩
  rintro k s3 ⟨i, F3, cs3, vs3, old, hk, l3, S3, g1, g2, hE3, hit3, i3⟩
  have hl3 := q.isList (S3.fz _ _ (l3 _ _ eo))
  by_cases hlt : i < items.length
  · obtain ⟨y, hy⟩ : ∃ y, items[i]? = some y := ⟨_, List.getElem?_eq_getElem hlt⟩
    obtain ⟨v, hv, dv⟩ := d.get hy
    obtain ⟨vs4, ha, hb⟩ := turn i y cs3 vs3 hy i3
    refine wpAny_pyNext_enum_item hE3 hit3 hl3 (toList_get hv) hne fun h4 hE4 hit4 hT4 hz4 hk4 => ?_
    have gT := S3.free (get_of_ge (Nat.le_refl s3.heap.objs.size))
    have hTe : s3.heap.objs.size ≠ en := fun z => Nat.lt_irrefl _ (z ▸ Heap.lt_size hE3)
    have hTi : s3.heap.objs.size ≠ it := fun z => by
      obtain ⟨oi, ei, _⟩ := hit3
      exact Nat.lt_irrefl _ (z ▸ Heap.lt_size ei)
    have S4 : St c.w K F3 cs3 c.L c.xs vs3 { s3 with heap := h4, toks := s3.toks + 1 } := S3.sameBut2 g2 g1 hk4
    generalize s3.heap.objs.size = T at *
    refine wpAny_letOwnedTupleGo_enum hE4 fun h5 hE5 hs5 => ?_
    have S5 : St c.w K F3 cs3 c.L c.xs vs3 { s3 with heap := h5, toks := s3.toks + 1 } := S4.sameBut (t := s3.toks + 1) g2 fun a o ha' e' => (hs5.2 a ha').trans e'
    have hT5 := (hs5.2 T hTe).trans hT4
    have S6 := S5.grow gT.f gT.b gT.c gT.l hT5
    have l6 : PH.le F3 (F3.ins T { cls := .type "tuple", data := .seq #[.int i s3.toks, v] }) := PH.le_ins gT.f
    have g1' := g1.ins (o := { cls := .type "tuple", data := .seq #[.int i s3.toks, v] }) (Ne.symm hTi)
    have g2' := g2.ins (o := { cls := .type "tuple", data := .seq #[.int i s3.toks, v] }) (Ne.symm hTe)
    obtain ⟨oi, ei, ci, di⟩ := hit4
    have ei5 := (hs5.2 it (Ne.symm hne)).trans ei
    have dT : DV c.w (F3.ins T { cls := .type "tuple", data := .seq #[.int i s3.toks, v] }) (adrs cs3) (.tup [.int i, y]) (.ref T) := .tup (PH.ins_self _ _ _) ⟨rfl, rfl, rfl, _, rfl⟩ (.cons (.int _ _) (.cons (dv.mono (l3.trans l6) (asLe.nil _)) .nil))
    have S7 := (S6.hold g2' hE5).hold (g1'.hold (Ne.symm hne)) ei5
    refine wpAny_noE (ha.go A _ _ _ _ (.ref T) hA S7 dT fun F8 s8 l8 S8 => ?_)
    refine wpAny_noE (hb.go A _ F8 s8 _ hA S8 fun F9 f s9 fl cs9 vs9 l9 S9 r p => ?_)
    obtain ⟨S10, g10, e10⟩ := S9.unhold ((hold_ne (Ne.symm hne)).trans g1.b)
    obtain ⟨S11, g11, e11⟩ := S10.unhold g2.b
    have g10 := g10.unhold (Ne.symm hne)
    have l9' := l3.trans (l6.trans (l8.trans l9))
    cases r with
    | next => exact ⟨k - 1, by lia, i + 1, F9, cs9, vs9, _, by lia, l9', S11, g10, g11, e11, ⟨oi, e10, ci, di⟩, p⟩
    | cont => exact ⟨k - 1, by lia, i + 1, F9, cs9, vs9, _, by lia, l9', S11, g10, g11, e11, ⟨oi, e10, ci, di⟩, p⟩
    | brk => exact hQ F9 _ s9 .next cs9 vs9 (l1.trans l9') S11 .next p
    | ret dr => exact hQ F9 _ s9 _ cs9 vs9 (l1.trans l9') S11 (.ret dr) p
  · obtain rfl : i = items.length := by lia
    refine wpAny_pyNext_enum_end hA.handled hE3 hit3 hl3 (by rw [← Array.getElem?_toList]; exact List.getElem?_eq_none (by rw [← d.length]; exact Nat.le_refl _)) fun h4 hs4 => ?_
    have S4 : St c.w K F3 cs3 c.L c.xs vs3 { s3 with heap := h4, toks := s3.toks } := S3.sameBut g1 fun a o ha' e' => hs4 a o ha' e'
    exact wpAny_execs_nil (hQ F3 _ _ .next cs3 vs3 (l1.trans l3) S4 .next (hend cs3 vs3 i3))
end
end Mine
open PySem PySem.W PySem.W.X PyProof.Rows
namespace Mine
set_option Elab.async false
set_option linter.unusedVariables false
set_option maxRecDepth 100000
theorem valueAt_new {K : Type} [DecidableEq K] {kvs : List (K × Value)} {k : K} {v : Value} (h : valueAt kvs k = none) (j : K) : valueAt (stored kvs k v) j = if j = k then some v else valueAt kvs j := by
  have hn : ∀ p ∈ kvs, p.1 ≠ k := fun p hp e => by
    unfold valueAt at h
    rw [Option.map_eq_none_iff, List.find?_eq_none] at h
    exact h p hp (by simpa using e)
  have hany : ¬ (kvs.any fun kv => decide (kv.1 = k)) = true := by
    rw [List.any_eq_true]; rintro ⟨p, hp, e⟩
    exact hn p hp (of_decide_eq_true e)
  unfold stored
  rw [if_neg hany]
  unfold valueAt
  rw [List.find?_append]
  by_cases q : j = k
  · subst q
    have : kvs.find? (fun kv => decide (kv.1 = j)) = none := by
      rw [List.find?_eq_none]; intro p hp; simpa using hn p hp
    rw [if_pos rfl, this]
    simp
  · rw [if_neg q]
    have : ([(k, v)] : List (K × Value)).find? (fun kv => decide (kv.1 = j)) = none := by
      simp [Ne.symm q]
    rw [this, Option.or_none]
theorem foots_split {cs : List CellAt} {k : Nat} {x : CellAt} (hx : cs[k]? = some x) : foots cs = foots (cs.take k) ++ (x.foot ++ foots (cs.drop (k + 1))) := by
  obtain ⟨hkl, hke⟩ := List.getElem?_eq_some_iff.mp hx
  have hsplit : cs = cs.take k ++ x :: cs.drop (k + 1) := by rw [← hke, ← List.drop_eq_getElem_cons hkl, List.take_append_drop]
  conv => lhs; rw [hsplit]
  rw [foots_app]; rfl
theorem foots_setSplit {cs : List CellAt} {k : Nat} {x : CellAt} (hx : cs[k]? = some x) (y : CellAt) : foots (cs.set k y) = foots (cs.take k) ++ (y.foot ++ foots (cs.drop (k + 1))) := by
  obtain ⟨hkl, hke⟩ := List.getElem?_eq_some_iff.mp hx
  have hset : cs.set k y = cs.take k ++ y :: cs.drop (k + 1) := (List.set_eq_take_append_cons_drop ..).trans (if_pos hkl)
  rw [hset, foots_app]; rfl
theorem foot_nodup {cs : List CellAt} {k : Nat} {x : CellAt} (hx : cs[k]? = some x) (h : (foots cs).Nodup) : x.foot.Nodup := by
  rw [foots_split hx] at h
  exact (List.nodup_append.mp (List.nodup_append.mp h).2.1).1
section
variable {w : World} {K : Kp} {F F' : PH} {cs : List CellAt} {L : Addr} {xs : List Str} {vs : List MV} {s : Shared}
/-- an object that is nobody's goes to an index cell -/
theorem St.growFoot {k : Nat} {a d : Addr} {more : List Addr} {f : Str → Option (List Int)} {n : Nat} {pin : Option (Str × Addr)} {od : Obj} (h : St w K F cs L xs vs s) (hx : cs[k]? = some ⟨a, more, .bj f n pin⟩) (fd : Free K F cs L d) (hd : s.heap.get? d = some od) :
    St w K F (cs.set k ⟨a, d :: more, .bj f n pin⟩) L xs vs s := by
  have hp : (foots (cs.set k ⟨a, d :: more, .bj f n pin⟩)).Perm (d :: foots cs) := by
    rw [foots_setSplit hx, foots_split hx]
    show (foots (cs.take k) ++ (a :: d :: more ++ foots (cs.drop (k + 1)))).Perm (d :: (foots (cs.take k) ++ (a :: more ++ foots (cs.drop (k + 1)))))
    refine ((List.Perm.append_left _ (List.Perm.swap d a _)).trans ?_)
    exact List.perm_middle
  have hadr : adrs (cs.set k ⟨a, d :: more, .bj f n pin⟩) = adrs cs := adrs_set hx rfl
  have hmem : ∀ b, b ∈ foots (cs.set k ⟨a, d :: more, .bj f n pin⟩) → b = d ∨ b ∈ foots cs := fun b hb => List.mem_cons.mp (hp.mem_iff.mp hb)
  refine ⟨⟨h.fz, h.kp, fun y hy => ?_, hp.nodup_iff.mpr (List.nodup_cons.mpr ⟨fd.c, h.nd⟩), fun b hb => ?_, h.fb, h.top, h.gens, h.os⟩, ?_, fun hb => ?_, h.lF, h.lB⟩
  · rw [hadr]
    rcases List.mem_or_eq_of_mem_set hy with hy | rfl
    · exact h.cl y hy
    · obtain ⟨o, g, x1, x2, ⟨y1, y2, y3⟩, x3⟩ := h.cl _ (List.mem_of_getElem? hx)
      refine ⟨o, g, x1, x2, ⟨y1, fun k' is e => ?_, y3⟩, x3⟩
      obtain ⟨b, ob, ub, z1, z2, z3⟩ := y2 k' is e
      exact ⟨b, ob, ub, z1, .tail _ z2, z3⟩
  · rcases hmem b hb with rfl | hb
    · exact ⟨fd.f, fd.b, od, hd⟩
    · exact h.ap b hb
  · rw [hadr]; exact h.ns
  · rcases hmem L hb with e | hb
    · exact fd.l e.symm
    · exact h.lf hb
theorem not_sysModules {cs : List CellAt} (h : SF w K F cs s) {a : Addr} (ha : F a = none) : (a == sysModules) = false := by
  refine beq_false_of_ne fun e => ?_
  have : IsTop w 1 (boot_o_1 w.params) := isTop (by kernel_rfl)
  have := this.fz h
  rw [e] at ha
  rw [show sysModules = 1 from rfl, this] at ha
  cases ha
end
noncomputable def upd (f : Str → Option (List Int)) (x : Str) (v : List Int) : Str → Option (List Int) := fun k => if k = x then some v else f k
section
variable {c : Cx} {n : Nat} {cs : List CellAt} {vs : List MV}
theorem ty_setdefault : typeOf (.builtin "dict.setdefault") = pure (.type "method_descriptor") := PySem.F.type_dict_setdefault
theorem EVx.setdef {o e : Expr} {lp apos pos : Pos} {j : Nat} {a : Addr} {more : List Addr} {f : Str → Option (List Int)} {nn : Nat} {pin : Option (Str × Addr)} {x : Str} {R : MV → List CellAt → Prop}
    (ho : EV c n cs vs o (.cell j)) (hk : cs[j]? = some ⟨a, more, .bj f nn pin⟩) (hx : EV c n cs vs e (.str x)) (hz : nn ≤ 1000)
    (hR : ∀ b more', R (.val (.ref b)) (cs.set j ⟨a, more', .bj (upd f x ((f x).getD [])) (nn + 1) (some (x, b))⟩))
    (hbo : ∀ x, attributeBase o "setdefault" c.env x = x := by intro _; kernel_rfl) (hfo : methodCallForm ([e, .List [] lp].length + 0) (backTo pos (starEach [e, .List [] lp] c.env)) [] = true := by kernel_rfl) (hlo : (apos.endLine == pos.line) = true := by kernel_rfl)
    (he : starEach [e, .List [] lp] c.env = (false, eval e c.env) :: (false, eval (.List [] lp) c.env) :: starEach [] c.env := by kernel_rfl) (hp : (backTo pos (starEach [e, .List [] lp] c.env)).any (·.1) = false := by kernel_rfl) :
    EVx c n cs vs (.Call (.Attribute o "setdefault" apos) [e, .List [] lp] [] pos) R := .mk fun A K F s Q hA hS hQ => by
  have he1 := eval_meth o "setdefault" apos pos [e, .List [] lp] c.env hbo hfo hlo
  refine PyProof.Rows.MethodCall_ (ho.go A K F s _ hA hS fun F1 u s1 l1 S1 d1 => ?_) he1
  have hu := cell_addr d1 hk
  subst hu
  have hcell := fun (cs' : List CellAt) (s' : Shared) (S' : St c.w K F1 cs' c.L c.xs vs s') => S'.cl
  obtain ⟨ob, g, e1, ⟨kvs, e2, e3, e4⟩, hbj, hpin⟩ := S1.cl _ (List.mem_of_getElem? hk)
  have hD1 : s1.heap.DictOf (strKind pw c.w) a kvs := Heap.dictOf_iff.mpr ⟨ob, e1, e2⟩
  refine getMethod_builtin hD1.typeIs PySem.F.plainAttrs_dict PySem.F.slot_dict_setdefault ty_setdefault hD1.mapOf.noDict ?_
  refine (Callee.bi (F := F1) "dict.setdefault").go (w := c.w) (env := c.env) hp ?_
  have hla : F1 a = none := (S1.ap a (mem_foots (List.mem_of_getElem? hk) (.head _))).1
  have hsm := not_sysModules S1.toSF hla
  have hga : ∀ us s3, (∃ F3, PH.le F1 F3 ∧ ∃ t d, us = [.str x t, .ref d] ∧ St c.w K F3 cs c.L c.xs vs s3 ∧ Free K F3 cs c.L d ∧ s3.heap.get? d = some { cls := .type "list", data := .seq #[] }) → PH.le F1 s3.heap.get? ∧ wpAny (model pw c.w) A (PySem.call (.builtin "dict.setdefault") ([.ref a] ++ us)) Q NoE s3 := by
    rintro us s3 ⟨F3, l3, t, d, rfl, S3, fd, ed⟩
    refine ⟨fun b o q => S3.fz b o (l3 b o q), ?_⟩
    clear hD1 e1 e2 e3 e4 kvs hbj hpin ob g
    obtain ⟨ob, g, e1, ⟨kvs, e2, e3, e4⟩, hbj, hpin⟩ := S3.cl _ (List.mem_of_getElem? hk)
    have hD3 : s3.heap.DictOf (strKind pw c.w) a kvs := Heap.dictOf_iff.mpr ⟨ob, e1, e2⟩
    refine call_meetsIn PySem.F.slot_dict_setdefault hD3.typeIs PySem.F.entry_dict_setdefault (PySem.F.args_dict_setdefault_3 _ _ _) (kt_meets_setdefault (strKind pw c.w) a (strKind_is _ _ x t) hsm (.ref d))
      ⟨kvs, hD3, Nat.le_trans (Nat.le_trans e4 hz) (by decide), fun v hv => ?_, fun hn h' hD' hs' => ?_⟩
    · rw [e3] at hv
      cases hf : f x with
      | none => rw [hbj.1 x hf] at hv; cases hv
      | some is =>
        obtain ⟨b, ob', ub, z1, z2, z3⟩ := hbj.2.1 x is hf
        rw [hv] at z1; cases z1
        have S4 := S3.toks (s3.toks + 1)
        have S5 := S4.setCell (s' := { s3 with toks := s3.toks + 1 }) hk (y := ⟨a, more, .bj (upd f x ((f x).getD [])) (nn + 1) (some (x, b))⟩) rfl rfl (fun _ _ _ e => e) (fun b hb => (S4.ap b (mem_foots (List.mem_of_getElem? hk) hb)).2.2) ?_ rfl rfl
        · exact hQ F3 _ _ _ _ (l1.trans l3) S5 (.val _) (by rw [adrs_set hk (y := ⟨a, more, .bj (upd f x ((f x).getD [])) (nn + 1) (some (x, b))⟩) rfl]; exact asLe.refl _) (hR b more)
        · have hff : upd f x ((f x).getD []) = f := by
            funext k; unfold upd
            by_cases q : k = x
            · rw [if_pos q, q, hf]; rfl
            · rw [if_neg q]
          rw [hff]
          exact ⟨ob, g, e1, ⟨kvs, e2, e3, Nat.le_succ_of_le e4⟩, hbj, fun y b' q => by cases q; exact hv⟩
    · have hg : g x = none := (e3 x).symm.trans hn
      have hf : f x = none := by
        cases q : f x with
        | none => rfl
        | some is => obtain ⟨b, _, _, z1, _⟩ := hbj.2.1 x is q; rw [hg] at z1; cases z1
      have S4 := S3.growFoot hk fd ed
      have hk4 : (cs.set j ⟨a, d :: more, .bj f nn pin⟩)[j]? = some ⟨a, d :: more, .bj f nn pin⟩ := List.getElem?_set_self (List.getElem?_eq_some_iff.mp hk).1
      have hset : (cs.set j ⟨a, d :: more, .bj f nn pin⟩).set j ⟨a, d :: more, .bj (upd f x ((f x).getD [])) (nn + 1) (some (x, d))⟩ = cs.set j ⟨a, d :: more, .bj (upd f x ((f x).getD [])) (nn + 1) (some (x, d))⟩ := List.set_set ..
      have hdn := foot_nodup hk4 S4.nd
      have hda : d ≠ a := fun z => (List.nodup_cons.mp hdn).1 (z ▸ .head _)
      have ham : a ∉ more := fun z => (List.nodup_cons.mp hdn).1 (.tail _ z)
      have hdm : d ∉ more := fun z => fd.c (mem_foots (List.mem_of_getElem? hk) (.tail _ z))
      have hne : ∀ b o, b ≠ a → s3.heap.get? b = some o → h'.get? b = some o := fun b o hb q => (hs'.2 b hb).trans q
      obtain ⟨od, hod, hdd⟩ := Heap.dictOf_iff.mp hD'
      have S5 := S4.setCell (s' := { s3 with heap := h', toks := s3.toks + 1 }) hk4 (y := ⟨a, d :: more, .bj (upd f x ((f x).getD [])) (nn + 1) (some (x, d))⟩) rfl rfl (fun b o hb q => hne b o (fun z => hb (z ▸ .head _)) q) (fun b hb => ?_) ?_ rfl rfl
      · rw [hset] at S5
        exact hQ F3 _ _ _ _ (l1.trans l3) S5 (.val _) (by rw [adrs_set hk (y := ⟨a, d :: more, .bj (upd f x ((f x).getD [])) (nn + 1) (some (x, d))⟩) rfl]; exact asLe.refl _) (hR d (d :: more))
      · obtain ⟨_, _, o', q⟩ := S4.ap b (mem_foots (List.mem_of_getElem? hk4) hb)
        by_cases z : b = a
        · exact ⟨od, z ▸ hod⟩
        · exact ⟨o', hne b o' z q⟩
      · rw [hf]
        have hval : ∀ k, valueAt (stored kvs x (.ref d)) k = if k = x then some (.ref d) else g k := fun k => by
          rw [valueAt_new hn]
          by_cases q : k = x
          · rw [if_pos q, if_pos q]
          · rw [if_neg q, if_neg q]; exact e3 k
        have hin : ∀ k b, g k = some (.ref b) → b ∈ more := fun k b q => by
          cases r : f k with
          | none => rw [hbj.1 k r] at q; cases q
          | some is => obtain ⟨b', _, _, z1, z2, _⟩ := hbj.2.1 k is r; rw [q] at z1; cases z1; exact z2
        refine ⟨od, fun k => if k = x then some (.ref d) else g k, hod, ⟨_, hdd, hval, Nat.le_trans (stored_length_le _ _ _) (Nat.succ_le_succ e4)⟩, ⟨fun k q => ?_, fun k is q => ?_, fun k k' b q q' => ?_⟩, fun y b q => ?_⟩
        · unfold upd at q
          by_cases z : k = x
          · rw [if_pos z] at q; cases q
          · rw [if_neg z] at q; show (if k = x then _ else _) = _; rw [if_neg z]; exact hbj.1 k q
        · unfold upd at q
          by_cases z : k = x
          · rw [if_pos z] at q; cases q
            exact ⟨d, _, _, if_pos z, .head _, hne d _ hda ed, ⟨rfl, rfl, rfl, _, rfl⟩, .nil⟩
          · rw [if_neg z] at q
            obtain ⟨b, ob', ub, z1, z2, z3, z4⟩ := hbj.2.1 k is q
            exact ⟨b, ob', ub, (if_neg z).trans z1, .tail _ z2, hne b _ (fun q => ham (q ▸ z2)) z3, z4⟩
        · by_cases z : k = x
          · by_cases z' : k' = x
            · rw [z, z']
            · have q : (if k = x then some (Value.ref d) else g k) = some (.ref b) := q
              have q' : (if k' = x then some (Value.ref d) else g k') = some (.ref b) := q'
              rw [if_pos z] at q; rw [if_neg z'] at q'; cases q
              exact absurd (hin k' _ q') hdm
          · have q : (if k = x then some (Value.ref d) else g k) = some (.ref b) := q
            have q' : (if k' = x then some (Value.ref d) else g k') = some (.ref b) := q'
            rw [if_neg z] at q
            by_cases z' : k' = x
            · rw [if_pos z'] at q'; cases q'
              exact absurd (hin k _ q) hdm
            · rw [if_neg z'] at q'; exact hbj.2.2 k k' b q q'
        · cases q; exact if_pos rfl
  have hargs : wpAny (model pw c.w) A (spliced (backTo pos (starEach [e, .List [] lp] c.env))) (fun us s3 => PH.le F1 s3.heap.get? ∧ wpAny (model pw c.w) A (PySem.call (.builtin "dict.setdefault") ([.ref a] ++ us)) Q NoE s3) NoE s1 := by
    refine PyProof.Rows.args_cons (hx.go A K F1 s1 _ hA S1 fun F2 v s2 l2 S2 d2 => ?_) he
    apply d2.strI; intro _
    refine PyProof.Rows.args_cons (PyProof.Rows.List_ (wpAny_pure ?_)) rfl
    refine wpAny_newList ?_
    refine wpAny_pure (hga _ _ ⟨F2, l2, _, s2.heap.objs.size, rfl, S2.push _ s2.toks, S2.free (get_of_ge (Nat.le_refl _)), Heap.get?_push_size _ rfl⟩)
  rw [he] at hargs ⊢
  exact Calls.evalArgs_plain (wpAny_mono hargs (fun us s' ⟨x, y⟩ => ⟨x, rfl, y⟩) fun _ _ x => x)
theorem GMv.appendP {j : Nat} {a b : Addr} {more : List Addr} {f : Str → Option (List Int)} {nn : Nat} {x : Str} (hk : cs[j]? = some ⟨a, more, .bj f nn (some (x, b))⟩) : GMv c cs vs (.val (.ref b)) "append" (.builtin "list.append") [.val (.ref b)] := .mk fun A K F s Q v pl S d hQ => by
  apply d.valI
  obtain ⟨ob, g, e1, ⟨kvs, e2, e3, e4⟩, hbj, hpin⟩ := S.cl _ (List.mem_of_getElem? hk)
  have hgx := hpin x b rfl
  cases hf : f x with
  | none => rw [hbj.1 x hf] at hgx; cases hgx
  | some is =>
    obtain ⟨b', o', us, z1, z2, z3, z4, z5⟩ := hbj.2.1 x is hf
    rw [hgx] at z1; cases z1
    exact Calls.getMethod_list_append z3 z4.1 z4.2.1 (hQ _ s S (.cons (.val _) .nil))
theorem CX.appendP {j : Nat} {a b : Addr} {more : List Addr} {f : Str → Option (List Int)} {nn : Nat} {x : Str} {i : Int} (hk : cs[j]? = some ⟨a, more, .bj f nn (some (x, b))⟩) (hz : ∀ is, f x = some is → is.length ≤ 100000) :
    CX c n cs vs (.builtin "list.append") [.val (.ref b), .int i] (fun m' cs' => m' = .none ∧ cs' = cs.set j ⟨a, more, .bj (upd f x ((f x).getD [] ++ [i])) nn none⟩) := .mk fun A K F s Q us hA S d hQ => by
  apply d.consI; intro _ _ d1 d2
  apply d2.consI; intro _ _ d2 d3
  apply d3.nilI; apply d1.valI; apply d2.intI; intro _
  obtain ⟨ob, g, e1, ⟨kvs, e2, e3, e4⟩, hbj, hpin⟩ := S.cl _ (List.mem_of_getElem? hk)
  have hgx := hpin x b rfl
  cases hf : f x with
  | none => rw [hbj.1 x hf] at hgx; cases hgx
  | some is =>
    obtain ⟨b', o', us, z1, z2, z3, z4, z5⟩ := hbj.2.1 x is hf
    rw [hgx] at z1; cases z1
    obtain ⟨mm, rfl⟩ := z4.obj
    have hnd := foot_nodup hk S.nd
    have ham : a ∉ more := (List.nodup_cons.mp hnd).1
    have hba : b ≠ a := fun z => ham (z ▸ z2)
    have hlen : us.size = is.length := by rw [← Array.length_toList]; exact z5.length
    refine append_at z3 (fun h' hs he => ?_) (by rw [hlen]; exact Nat.le_trans (hz is hf) (by decide))
    have hne : ∀ b' o, b' ≠ b → s.heap.get? b' = some o → h'.get? b' = some o := fun b' o hb q => (hs.2 b' hb).trans q
    refine hQ F .none _ .none _ (PH.le.refl _) (S.setCell hk (y := ⟨a, more, .bj (upd f x ((f x).getD [] ++ [i])) nn none⟩) rfl rfl (fun b' o hb e => hne b' o (fun z => hb (by rw [z]; exact .tail _ z2)) e) (fun b' hb => ?_) ?_ rfl rfl) .none (by rw [adrs_set hk (y := ⟨a, more, .bj (upd f x ((f x).getD [] ++ [i])) nn none⟩) rfl]; exact asLe.refl _) ⟨rfl, by rw [hf]⟩
    · obtain ⟨_, _, o2, q⟩ := S.ap b' (mem_foots (List.mem_of_getElem? hk) hb)
      by_cases z : b' = b
      · exact ⟨_, z ▸ he⟩
      · exact ⟨o2, hne b' o2 z q⟩
    · rw [hf]
      refine ⟨ob, g, hne a _ (Ne.symm hba) e1, ⟨kvs, e2, e3, e4⟩, ⟨fun k q => ?_, fun k is' q => ?_, hbj.2.2⟩, nofun⟩
      · unfold upd at q
        by_cases z : k = x
        · rw [if_pos z] at q; cases q
        · rw [if_neg z] at q; exact hbj.1 k q
      · unfold upd at q
        by_cases z : k = x
        · rw [if_pos z] at q; cases q
          refine ⟨b, _, _, z ▸ hgx, z2, he, ⟨rfl, rfl, rfl, _, rfl⟩, ?_⟩
          rw [Array.toList_push]
          exact z5.append (IntsAre.cons _ _ IntsAre.nil)
        · rw [if_neg z] at q
          obtain ⟨b2, o2, u2, y1, y2, y3, y4, y5⟩ := hbj.2.1 k is' q
          refine ⟨b2, o2, u2, y1, y2, hne b2 _ (fun w => z ?_) y3, y4, y5⟩
          subst w
          exact hbj.2.2 k x b2 y1 hgx
end
section
variable {c : Cx} {n : Nat} {cs : List CellAt} {vs : List MV} {ss : List Stmt} {k : List (List Stmt)} {P : Fl → List CellAt → List MV → Prop}
/-- an index that changes no more is frozen -/
theorem XS.frzB {j : Nat} {a : Addr} {more : List Addr} {f : Str → Option (List Int)} {z : Nat} {pin : Option (Str × Addr)} (hk : cs[j]? = some ⟨a, more, .bj f z pin⟩) (h : XS c n ((frzC j (.sdict f) cs).set j ⟨a, [], .dead⟩) (vs.map (MV.frz j (.sdict f))) (ss :: k) P) : XS c n cs vs (ss :: k) P :=
  XS.frz hk (by nofun) (fun w F K s S hw => by
    subst hw
    obtain ⟨o, g, e1, q, hbj, _⟩ := S.cl _ (List.mem_of_getElem? hk)
    have hap := fun b hb => S.ap b (mem_foots (List.mem_of_getElem? hk) (x := ⟨a, more, .bj f z pin⟩) (b := b) hb)
    have hF0 : PH.le F (fun b => if b ∈ a :: more then s.heap.get? b else F b) := fun b o' e => by
      show (if b ∈ a :: more then _ else _) = _
      by_cases hb : b ∈ a :: more
      · rw [(hap b hb).1] at e; cases e
      · rw [if_neg hb]; exact e
    refine ⟨fun b => if b ∈ a :: more then s.heap.get? b else F b, hF0, fun b o' e => ?_, .sdict ((if_pos (.head _)).trans e1) q fun k => ?_⟩
    · by_cases hb : b ∈ a :: more
      · have e : (if b ∈ a :: more then s.heap.get? b else F b) = some o' := e
        rw [if_pos hb] at e; exact .inr ⟨hb, e⟩
      · have e : (if b ∈ a :: more then s.heap.get? b else F b) = some o' := e
        rw [if_neg hb] at e; exact .inl e
    · cases hf : f k with
      | none => exact hbj.1 k hf
      | some is =>
        obtain ⟨b, ob, ub, z1, z2, z3, z4, z5⟩ := hbj.2.1 k is hf
        exact ⟨_, z1, .mk ((if_pos (.tail _ z2)).trans z3) z4 z5⟩) h
end
end Mine
open PySem PySem.W PySem.W.X PyProof.Rows
namespace Mine
set_option Elab.async false
set_option linter.unusedVariables false
set_option maxRecDepth 100000
section
variable {c : Cx} {n : Nat} {cs : List CellAt} {vs : List MV} {r : List Stmt} {k : List (List Stmt)} {P : Fl → List CellAt → List MV → Prop}
theorem EV.set0 {x : Str} {p pos : Pos} (hf : EV c n cs vs (.Name x p) (.val (.type "set"))) : EV c n cs vs (.Call (.Name x p) [] [] pos) .set0 := .mk fun A K F s Q hA hS hQ =>
  PyProof.Rows.Call_Name0 (hf.go A K F s _ hA hS fun F1 u s1 l1 S1 d1 => by
    apply d1.valI
    refine PyProof.Rows.callWith_type0 (env := c.env) (call_set_0 fun led => ?_)
    obtain ⟨S2, l2⟩ := S1.frozenPush { cls := .type "set", dict := none, data := .set #[] 0 (.fresh 0 0 led) } s1.toks rfl
    exact hQ _ _ _ (l1.trans l2) S2 (.set0 (PH.ins_self _ _ _) ⟨rfl, rfl, rfl, _, rfl⟩))
/-- a name takes what an expression with new cells yields -/
theorem ASc.name (ok : CxOk c) {x : Str} {p : Pos} {mv : MV} {vs' : List MV} (hk : (x, NameKind.local) ∈ c.sc.names) (hp : Put x mv c.xs vs vs') : ASc c n cs vs (.Name x p) mv cs vs' := (AS.name ok hk hp).toC
theorem XS.forE {elts : List Expr} {tk : Nat} {tp : Pos} {x : Str} {p : Pos} {e : Expr} {ipos pos : Pos} {body : List Stmt} {items : List MV} (I : Nat → List CellAt → List MV → Prop) (B : List CellAt → List MV → Prop)
    (hf : EV c n cs vs (.Name x p) (.val (.type "enumerate"))) (hi : EV c n cs vs e (.list items)) (h0 : I 0 cs vs)
    (hend : ∀ cs' vs', I items.length cs' vs' → B cs' vs') (hB : ∀ cs' vs', B cs' vs' → XS c n cs' vs' (r :: k) P)
    (turn : ∀ i y cs vs, items[i]? = some y → I i cs vs → ∃ vs1, AS c n cs vs (.Tuple elts tk tp) (.tup [.int i, y]) vs1 ∧ XS c n cs vs1 [body] (LoopP (I (i + 1)) B (fun m => P (.ret m))))
    (hs : ∀ x', foldedSetIterable (.Call (.Name x p) [e] [] ipos) c.env x' = pure x' := by intro _; kernel_rfl)
    (he : starEach [e] c.env = (false, eval e c.env) :: starEach [] c.env := by kernel_rfl) (hp : (backTo ipos (starEach [e] c.env)).any (·.1) = false := by kernel_rfl) : XS c n cs vs ((.For (.Tuple elts tk tp) (.Call (.Name x p) [e] [] ipos) body [] pos :: r) :: k) P :=
  XS.cons (EX1.forE I hf hi (fun i y cs vs hy hI => by
    obtain ⟨vs1, h1, h2⟩ := turn i y cs vs hy hI
    refine ⟨vs1, h1, EX.mono (XS.of h2) fun fl cs' vs' p => ?_⟩
    cases fl with
    | next => exact p
    | cont => exact p
    | brk => exact hB _ _ p
    | ret m => exact p) h0 (fun cs' vs' hI => hB _ _ (hend _ _ hI)) hs he hp)
end
end Mine
open PySem PySem.W PySem.W.X PyProof.Rows
namespace Mine
set_option Elab.async false
set_option linter.unusedVariables false
set_option maxRecDepth 100000
noncomputable def MV.lowC (n : Nat) : MV → Bool
  | .cell i => Nat.blt i n
  | .bm _ m => m.lowC n
  | _ => true
noncomputable def Cell.lowC (n : Nat) : Cell → Bool
  | .inst _ us => us.all (MV.lowC n)
  | _ => true
noncomputable def CellAt.isDead (x : CellAt) : Bool := match x.c with | .dead => true | _ => false
section
variable {w : World} {K : Kp} {F F' : PH} {cs ds : List CellAt} {L : Addr} {xs : List Str} {vs : List MV} {s : Shared}
theorem DV.lowC {as bs : List Addr} {m : MV} {v : Value} (d : DV w F (as ++ bs) m v) (h : m.lowC as.length = true) : DV w F as m v :=
  DV.rec (motive_1 := fun cs m v _ => cs = as ++ bs → m.lowC as.length = true → DV w F as m v) (motive_2 := fun _ _ _ _ => True)
    (fun v _ _ => .junk v) (fun _ _ => .none) (fun b _ _ => .bool b) (fun i t _ _ => .int i t) (fun x t _ _ => .str x t) (fun v _ _ => .val v) (fun e ec hc => .cell (by rw [ec, List.getElem?_append_left (Nat.le_of_ble_eq_true hc)] at e; exact e))
    (fun a b c _ _ _ => .tup a b c) (fun a b c _ _ _ => .mat a b c) (fun a b c _ _ _ => .list a b c) (fun a b c _ _ => .idict a b c) (fun a b c _ _ => .sdict a b c) (fun a b _ _ => .set0 a b) (fun a b _ _ => .gen a b)
    (fun a b _ r e hc => .bm a b (r e hc)) trivial (fun _ _ _ _ => trivial) d rfl h
theorem At.mem2 {x : Str} {m : MV} {xs : List Str} {vs : List MV} (h : At x m xs vs) : m ∈ vs := by
  induction h with
  | here => exact .head _
  | there _ ih => exact .tail _ ih
theorem FrameR.lowC {as bs : List Addr} {m} (hv : vs.all (MV.lowC as.length) = true) (h : FrameR w F (as ++ bs) xs vs m) : FrameR w F as xs vs m := fun x mv a n =>
  let ⟨v, e, d⟩ := h x mv a n; ⟨v, e, d.lowC (List.all_eq_true.mp hv mv a.mem2)⟩
theorem foots_deads (h : ds.all CellAt.isDead = true) : foots ds = [] := by
  induction ds with
  | nil => rfl
  | cons x r ih =>
    rw [List.all_cons, Bool.and_eq_true] at h
    have : foots (x :: r) = x.foot ++ foots r := rfl
    rw [this, ih h.2]
    obtain ⟨a, mo, c⟩ := x
    cases c <;> first | rfl | (cases h.1)
/-- cells that are dead go -/
theorem St.drop (h : St w K F (cs ++ ds) L xs vs s) (hd : ds.all CellAt.isDead = true) (hv : vs.all (MV.lowC cs.length) = true) (hc : cs.all (fun x => x.c.lowC cs.length) = true) : St w K F cs L xs vs s := by
  have hf : foots (cs ++ ds) = foots cs := by rw [foots_app, foots_deads hd, List.append_nil]
  have hl : (adrs cs).length = cs.length := List.length_map _
  refine ⟨⟨h.fz, h.kp, fun x hx => ?_, hf ▸ h.nd, hf ▸ h.ap, h.fb, h.top, h.gens, h.os⟩, ?_, hf ▸ h.lf, h.lF, h.lB⟩
  · have hx2 := h.cl x (List.mem_append_left _ hx)
    have hb := List.all_eq_true.mp hc x hx
    rw [adrs_app] at hx2
    obtain ⟨a, mo, c⟩ := x
    cases c with
    | inst ns us =>
      obtain ⟨mA, d, o, e1, e2, e3, e4, e5, e6, e7⟩ := hx2
      exact ⟨mA, d, o, e1, e2, e3, e4, e5.lowC (by rw [hl]; exact hb), e6, e7⟩
    | list ys => exact hx2
    | idict f n => exact hx2
    | bj f n p => exact hx2
    | dead => trivial
  · obtain ⟨m, hn, hm⟩ := h.ns
    rw [adrs_app] at hm
    exact ⟨m, hn, hm.lowC (by rw [hl]; exact hv)⟩
end
section
variable {c : Cx} {n : Nat} {cs ds : List CellAt} {vs : List MV} {ss : List Stmt} {k : List (List Stmt)} {P : Fl → List CellAt → List MV → Prop}
theorem XS.drop (h : XS c n cs vs (ss :: k) P) (hd : ds.all CellAt.isDead = true := by rfl) (hv : vs.all (MV.lowC cs.length) = true := by rfl) (hc : cs.all (fun x => x.c.lowC cs.length) = true := by rfl) : XS c n (cs ++ ds) vs (ss :: k) P :=
  EX.mk fun A K F s Q hA hS hQ => EX.go h A K F s Q hA (hS.drop hd hv hc) hQ
end

inductive Forget : List MV → List MV → Prop
  | nil : Forget [] []
  | keep {v vs vs'} : Forget vs vs' → Forget (v :: vs) (v :: vs')
  | drop {v vs vs'} : Forget vs vs' → Forget (v :: vs) (.unb :: vs')
theorem Forget.at {x : Str} {m : MV} {vs vs' : List MV} (h : Forget vs vs') : ∀ {xs : List Str}, At x m xs vs' → m ≠ .unb → At x m xs vs := by
  induction h with
  | nil => intro xs h; cases h
  | keep _ ih =>
    intro xs h hm
    cases h with
    | here => exact .here
    | there h => exact .there (ih h hm)
  | drop _ ih =>
    intro xs h hm
    cases h with
    | here => exact absurd rfl hm
    | there h => exact .there (ih h hm)
section
variable {c : Cx} {n : Nat} {cs : List CellAt} {vs vs' : List MV} {ss : List Stmt} {k : List (List Stmt)} {P : Fl → List CellAt → List MV → Prop}
theorem St.forget {w : World} {K : Kp} {F : PH} {L : Addr} {xs : List Str} {s : Shared} (h : St w K F cs L xs vs s) (hf : Forget vs vs') : St w K F cs L xs vs' s :=
  ⟨h.toSF, let ⟨m, n, q⟩ := h.ns; ⟨m, n, fun x mv a hu => q x mv (hf.at a hu) hu⟩, h.lf, h.lF, h.lB⟩
theorem XS.forget (hf : Forget vs vs') (h : XS c n cs vs' (ss :: k) P) : XS c n cs vs (ss :: k) P :=
  EX.mk fun A K F s Q hA hS hQ => EX.go h A K F s Q hA (hS.forget hf) hQ
end
end Mine
open PySem PySem.W PySem.W.X PyProof.Rows
namespace Mine
set_option maxRecDepth 100000
theorem entry_dict_ga : entryFor table "dict.__getattribute__" = some Builtin.«object.__getattribute__» :=
  entryFor_alias (id' := "object.__getattribute__") (by kernel_rfl) (by first | rfl | decide +kernel | (unfold String.splitOn; simp +decide [String.splitOnAux])) (by decide +kernel) (by kernel_rfl)
theorem slot_md_get : Slot "method_descriptor" "__get__" "method_descriptor.__get__" :=
  .of (owner := "method_descriptor") (n := "__get__") (by rw [typeLookup_type, builtinLookup_eq_fast]; kernel_rfl) (by decide +kernel) (by decide +kernel) (by decide +kernel)
    (by first | exact .inl (by decide +kernel) | exact .inr (by decide +kernel)) (by rw [isSubtype_type]; kernel_rfl)
theorem entry_md_get : entryFor table "method_descriptor.__get__" = some Builtin.«method_descriptor.__get__» := entryFor_of_tree (by kernel_rfl)
theorem args_md_get (a b c : Value) : argsOk "method_descriptor.__get__" ⟨[a, b, c], []⟩ := by unfold argsOk; kernel_rfl
theorem md_noset : typeLookup (.type "method_descriptor") "__set__" = pure none := by rw [typeLookup_type, builtinLookup_eq_fast]; kernel_rfl
theorem md_nodel : typeLookup (.type "method_descriptor") "__delete__" = pure none := by rw [typeLookup_type, builtinLookup_eq_fast]; kernel_rfl
theorem entry_set_ga : entryFor table "set.__getattribute__" = some Builtin.«object.__getattribute__» :=
  entryFor_alias (id' := "object.__getattribute__") (by kernel_rfl) (by first | rfl | decide +kernel | (unfold String.splitOn; simp +decide [String.splitOnAux])) (by decide +kernel) (by kernel_rfl)
section
variable {prog : Program} {w : World} {A : Around} {E : Value → Shared → Prop}
theorem getAttr_bm {a : Addr} {o : Obj} {h : Heap} {g d t os} {expr : Bool} {T gid id : String} {name : Str} {Q : Value → Shared → Prop} (ho : h.get? a = some o) (hc : o.cls = .type T) (hd : o.dict = none)
    (hga : Slot T "__getattribute__" gid) (ega : entryFor table gid = some Builtin.«object.__getattribute__») (aga : ∀ a b, argsOk gid ⟨[a, b], []⟩) (hm : Slot T name id) (hty : typeOf (.builtin id) = pure (.type "method_descriptor"))
    (hncls : ∀ c, o.data ≠ .cls c) (hcp : (["__module__", "__name__", "__qualname__", "__doc__", "__annotations__"] : List Str).contains name = false)
    (hb : ∀ {B : Around} {E' : Value → Shared → Prop} {s : Shared} {P : PySem.Fin → Shared → Prop}, s.heap.get? a = some o → P (.done (.ret (.ref s.heap.objs.size))) { s with heap := s.heap.push { cls := .type "builtin_function_or_method", data := .fields #[.builtin id, .ref a] } } →
      wpAny (model prog w) B (Builtin.«method_descriptor.__get__» ⟨[.builtin id, .ref a, .type T], []⟩) P E' s)
    (hq : ∀ t', Q (.ref h.objs.size) ⟨h.push { cls := .type "builtin_function_or_method", data := .fields #[.builtin id, .ref a] }, g, d, t', os⟩) : wpAny (model prog w) A (getAttr (.ref a) name expr) Q E ⟨h, g, d, t, os⟩ := by
  have f1 := hga.lookup
  unfold getAttr getAttrBy
  repeat (first | (with_reducible refine wpAny_loadPart_at ho ?_; rw [hc]) | (rw [f1]) | wp_step)
  show wpAny (model prog w) A (if (expr && false) = true then _ else _) _ _ _
  rw [if_neg (by simp)]
  unfold boundAndCalled
  rw [hga.bind]
  refine wpAny_bind (wpAny_pure ?_)
  refine wpAny_call_entry hga ⟨_, ho, hc⟩ ega ?_ (aga _ _)
  unfold Builtin.«object.__getattribute__»
  refine wpAny_bind (m := slotArgs _ _ _) (wpAny_of_eq (a := (.ref a, [.str name t])) rfl ?_)
  refine wpAny_bind (wpAny_of_eq (a := name) rfl ?_)
  refine wpAny_bind (wpAny_typeOf ⟨_, ho, hc⟩ ?_)
  refine wpAny_bind ?_
  unfold Builtin.ObjectAttr.find
  rw [hm.lookup]
  refine wpAny_bind (wpAny_pure ?_)
  refine wpAny_bind (wpAny_specialOf (T := "method_descriptor") hty slot_md_get.lookup ?_)
  refine wpAny_bind ?_
  unfold Builtin.ObjectAttr.dataDescriptor?
  refine wpAny_bind ?_
  unfold Builtin.ObjectAttr.takesStores
  refine wpAny_bind (wpAny_specialOf (T := "method_descriptor") hty md_noset ?_)
  refine wpAny_bind (wpAny_specialOf (T := "method_descriptor") hty md_nodel ?_)
  refine wpAny_pure (wpAny_pure ?_)
  dsimp only
  unfold Builtin.ObjectAttr.ownThenClass
  refine wpAny_bind ?_
  unfold Builtin.ObjectAttr.inOwnDict Builtin.ObjectAttr.ownDict
  refine wpAny_bind (wpAny_bind (wpAny_loadPart_at ho ?_))
  split
  · rename_i c q; exact absurd q (hncls c)
  unfold instanceDict
  refine wpAny_bind (wpAny_loadPart_at ho ?_)
  rw [hc, hd]
  dsimp only
  refine wpAny_bind (wpAny_pure ?_)
  refine wpAny_pure (wpAny_pure ?_)
  dsimp only
  refine wpAny_bind ?_
  unfold Builtin.ObjectAttr.copiedAttributeGuard
  dsimp only
  rw [if_neg (by rw [hcp]; exact Bool.false_ne_true)]
  refine wpAny_pure ?_
  unfold Builtin.ObjectAttr.byTheClass
  refine wpAny_bind (wpAny_rule (wpAny_pure ?_))
  dsimp only
  unfold Builtin.ObjectAttr.bindTo
  dsimp only
  refine wpAny_bind (wpAny_holding (wpAny_call_entry slot_md_get hty entry_md_get ?_ (args_md_get _ _ _)))
  exact hb (s := ⟨h, g, d, t + 1, os⟩) ho ⟨_, rfl, wpAny_pure ⟨_, rfl, wpAny_pure (hq _)⟩⟩
theorem told_dict_get : Manifest.toldItsClass.contains "dict.get" = false := by decide +kernel
theorem body_dict_get {a : Addr} {o : Obj} {s : Shared} {P : PySem.Fin → Shared → Prop} (ho : s.heap.get? a = some o) (hc : o.cls = .type "dict")
   (hq : P (.done (.ret (.ref s.heap.objs.size))) { s with heap := s.heap.push { cls := .type "builtin_function_or_method", data := .fields #[.builtin "dict.get", .ref a] } }) :
   wpAny (model prog w) A (Builtin.«method_descriptor.__get__» ⟨[.builtin "dict.get", .ref a, .type "dict"], []⟩) P E s := by
  unfold Builtin.«method_descriptor.__get__»
  refine wpAny_bind (wpAny_of_eq (a := (.builtin "dict.get", some (.ref a), some (.type "dict"))) rfl ?_)
  dsimp only
  rw [if_neg (by rw [told_dict_get]; exact Bool.false_ne_true)]
  refine wpAny_bind (α := Unit) ?_
  refine wpAny_bind (α := Str × Value) (wpAny_of_eq (a := (Str.ofString "get", .type "dict")) (by kernel_rfl) ?_)
  dsimp only
  refine wpAny_bind (wpAny_isInstance (T := "dict") (b := true) ⟨_, ho, hc⟩ (by rw [isSubtype_type]; kernel_rfl) ?_)
  refine wpAny_pure ?_
  refine wpAny_bind (wpAny_newObj_type ?_)
  exact wpAny_pure hq
theorem told_set_in : Manifest.toldItsClass.contains "set.__contains__" = false := by decide +kernel
theorem body_set_in {a : Addr} {o : Obj} {s : Shared} {P : PySem.Fin → Shared → Prop} (ho : s.heap.get? a = some o) (hc : o.cls = .type "set")
   (hq : P (.done (.ret (.ref s.heap.objs.size))) { s with heap := s.heap.push { cls := .type "builtin_function_or_method", data := .fields #[.builtin "set.__contains__", .ref a] } }) :
   wpAny (model prog w) A (Builtin.«method_descriptor.__get__» ⟨[.builtin "set.__contains__", .ref a, .type "set"], []⟩) P E s := by
  unfold Builtin.«method_descriptor.__get__»
  refine wpAny_bind (wpAny_of_eq (a := (.builtin "set.__contains__", some (.ref a), some (.type "set"))) rfl ?_)
  dsimp only
  rw [if_neg (by rw [told_set_in]; exact Bool.false_ne_true)]
  refine wpAny_bind (α := Unit) ?_
  refine wpAny_bind (α := Str × Value) (wpAny_of_eq (a := (Str.ofString "__contains__", .type "set")) (by kernel_rfl) ?_)
  dsimp only
  refine wpAny_bind (wpAny_isInstance (T := "set") (b := true) ⟨_, ho, hc⟩ (by rw [isSubtype_type]; kernel_rfl) ?_)
  refine wpAny_pure ?_
  refine wpAny_bind (wpAny_newObj_type ?_)
  exact wpAny_pure hq

theorem sig_dict_get : Manifest.signature? "dict.get" = some (Option.get (Manifest.sig_dict.lookup "get") (by decide +kernel)) := by
  rw [signature?_of (id := "dict.get") (n := ['t', 'e', 'g']) (o := ['t', 'c', 'i', 'd']) (by kernel_rfl) PySem.F.owner_dict]; kernel_rfl
theorem kind_dict_get : builtinKind "dict.get" = some .method := by decide +kernel
theorem check_dict_get {M : Model} {a : Addr} {o : Obj} {s : Shared} {u v : Value} {Q : Unit → Shared → Prop} (ho : s.heap.get? a = some o) (hc : o.cls = .type "dict") (hncls : ∀ c, o.data ≠ .cls c) (h : Q () s) : wpAny M A (checkBoundCall "dict.get" ⟨[.ref a, u, v], []⟩) Q E s := by
  unfold checkBoundCall
  rw [sig_dict_get, kind_dict_get]
  dsimp only
  rw [if_neg (by decide)]
  refine wpAny_bind (wpAny_isInstance (T := "dict") (b := false) ⟨_, ho, hc⟩ (by rw [isSubtype_type]; kernel_rfl) ?_)
  rw [if_neg (by decide +kernel)]
  refine wpAny_bind (m := isType (.ref a)) ?_
  refine wpAny_bind (wpAny_loadPart_at ho ?_)
  split
  · rename_i c q; exact absurd q (hncls c)
  refine wpAny_pure ?_
  rw [if_neg Bool.false_ne_true]
  refine wpAny_bind (wpAny_typeOf ⟨_, ho, hc⟩ ?_)
  exact wpAny_of_eq (by kernel_rfl) h
theorem kind_set_in : builtinKind "set.__contains__" = some .method := by decide +kernel
theorem sig_set_in : Manifest.signature? "set.__contains__" = some (Option.get (Manifest.sig_set.lookup "__contains__") (by decide +kernel)) := by
  rw [signature?_of (id := "set.__contains__") (n := ['_', '_', 's', 'n', 'i', 'a', 't', 'n', 'o', 'c', '_', '_']) (o := ['t', 'e', 's']) (by kernel_rfl) PySem.F.owner_set]; kernel_rfl
theorem check_set_in {M : Model} {a : Addr} {o : Obj} {s : Shared} {u : Value} {Q : Unit → Shared → Prop} (ho : s.heap.get? a = some o) (hc : o.cls = .type "set") (hncls : ∀ c, o.data ≠ .cls c) (h : Q () s) : wpAny M A (checkBoundCall "set.__contains__" ⟨[.ref a, u], []⟩) Q E s := by
  unfold checkBoundCall
  rw [sig_set_in, kind_set_in]
  dsimp only
  rw [if_neg (by decide)]
  refine wpAny_bind (wpAny_isInstance (T := "set") (b := false) ⟨_, ho, hc⟩ (by rw [isSubtype_type]; kernel_rfl) ?_)
  rw [if_neg (by decide +kernel)]
  refine wpAny_bind (m := isType (.ref a)) ?_
  refine wpAny_bind (wpAny_loadPart_at ho ?_)
  split
  · rename_i c q; exact absurd q (hncls c)
  refine wpAny_pure ?_
  rw [if_neg Bool.false_ne_true]
  refine wpAny_bind (wpAny_typeOf ⟨_, ho, hc⟩ ?_)
  exact wpAny_of_eq (by kernel_rfl) h
/-- a bound method of a built-in class is called -/
theorem call_bm {q : Addr} {oq : Obj} {id : String} {v : Value} {us : List Value} {B : Builtin} {s : Shared} {Q : Value → Shared → Prop} (hq : s.heap.get? q = some oq) (ho : isBM oq id v) (hchk : ∀ {A' : Around} {E' : Value → Shared → Prop} {P : Unit → Shared → Prop}, P () s → wpAny (model prog w) A' (checkBoundCall id ⟨v :: us, []⟩) P E' s)
    (entry : entryFor table id = some B) (hplain : plainId id = true) (h : wpAny (model prog w) A.in1 (B ⟨v :: us, []⟩) (fun fin s' => match fin with | .done f => wants Q E (.ok f) s' | .again c' => c'.quiet = true ∧ codeAny (model prog w) A c' (wants Q E) s') (fun e s' => wants Q E (.error e) s') s) : wpAny (model prog w) A (call (.ref q) us) Q E s := by
  have ho : oq = { cls := .type "builtin_function_or_method", data := .fields #[.builtin id, v] } := ho
  subst ho
  refine wpAny_call (codeAny_of_tree ?_)
  show wpAny _ _ (callAny (.ref q) ⟨us, []⟩) _ _ _
  unfold callAny
  refine wpAny_bind (wpAny_load hq ?_)
  show wpAny _ _ (checkBoundCall id ⟨v :: us, []⟩ >>= fun _ => again (.builtin id ⟨v :: us, []⟩)) _ _ _
  refine wpAny_bind (hchk (wpAny_pure ⟨plainId_quiet hplain _, codeAny_builtin entry ?_⟩))
  rw [Around.under_plainId hplain]
  exact h
end
end Mine
open PySem PySem.W PySem.W.X PyProof.Rows
namespace Mine
set_option Elab.async false
set_option linter.unusedVariables false
section
variable {c : Cx} {n : Nat} {r : List Stmt} {k : List (List Stmt)} {P : Fl → List CellAt → List MV → Prop}
/-- a for over enumerate, its state told by a record of what changes -/
theorem XS.forEG {σ : Type} (cf : σ → List CellAt) (vf : σ → List MV) (J : Nat → σ → Prop) {elts : List Expr} {tk : Nat} {tp : Pos} {x : Str} {p : Pos} {e : Expr} {ipos pos : Pos} {body : List Stmt} {items : List MV} (g0 : σ)
    (hf : EV c n (cf g0) (vf g0) (.Name x p) (.val (.type "enumerate"))) (hi : EV c n (cf g0) (vf g0) e (.list items)) (h0 : J 0 g0)
    (turn : ∀ i y g, items[i]? = some y → J i g → ∃ vs1, AS c n (cf g) (vf g) (.Tuple elts tk tp) (.tup [.int i, y]) vs1 ∧ ∀ PP : Fl → List CellAt → List MV → Prop, (∀ g', J (i + 1) g' → PP .next (cf g') (vf g')) → XS c n (cf g) vs1 [body] PP)
    (hB : ∀ g, J items.length g → XS c n (cf g) (vf g) (r :: k) P)
    (hs : ∀ x', foldedSetIterable (.Call (.Name x p) [e] [] ipos) c.env x' = pure x' := by intro _; kernel_rfl)
    (he : starEach [e] c.env = (false, eval e c.env) :: starEach [] c.env := by kernel_rfl) (hp : (backTo ipos (starEach [e] c.env)).any (·.1) = false := by kernel_rfl) : XS c n (cf g0) (vf g0) ((.For (.Tuple elts tk tp) (.Call (.Name x p) [e] [] ipos) body [] pos :: r) :: k) P :=
  XS.forE (fun m cs vs => ∃ g, J m g ∧ cs = cf g ∧ vs = vf g) (fun cs vs => ∃ g, J items.length g ∧ cs = cf g ∧ vs = vf g) hf hi ⟨g0, h0, rfl, rfl⟩ (fun _ _ h => h) (fun _ _ ⟨g, h, ec, ev⟩ => ec ▸ ev ▸ hB g h) (fun i y cs vs hy ⟨g, h, ec, ev⟩ => by
    subst ec ev
    obtain ⟨vs1, h1, h2⟩ := turn i y g hy h
    exact ⟨vs1, h1, h2 _ fun g' h' => ⟨g', h', rfl, rfl⟩⟩) hs he hp
theorem map_str {b : List Str} {i : Nat} {y : MV} (h : (b.map MV.str)[i]? = some y) : ∃ z, b[i]? = some z ∧ y = .str z := by
  rw [List.getElem?_map] at h
  cases hb : b[i]? with
  | none => rw [hb] at h; cases h
  | some z => rw [hb] at h; cases h; exact ⟨z, rfl, rfl⟩
theorem XS.eqC {cs cs' : List CellAt} {vs : List MV} {ss : List (List Stmt)} (e : cs = cs') (h : XS c n cs' vs ss P) : XS c n cs vs ss P := e ▸ h
end
end Mine
open PySem PySem.W PySem.W.X PyProof.Rows
namespace Mine
set_option Elab.async false
set_option linter.unusedVariables false
set_option maxHeartbeats 1000000
local macro_rules | `(tactic| walk_at "m_at") => `(tactic| repeat (first | with_reducible exact At.here | with_reducible exact Put.here | with_reducible apply At.there | with_reducible apply Put.there | with_reducible exact PutA.here | with_reducible exact PutA.nil | (with_reducible apply PutA.there; decide) | with_reducible exact Forget.nil | with_reducible apply Forget.keep | with_reducible apply Forget.drop))
local macro_rules | `(tactic| walk_at "m_ev") => `(tactic| first
  | exact EV.cint
  | exact EV.cstr
  | exact EV.cnone
  | exact EV.cbool
  | ((with_reducible show EV _ _ _ _ (Expr.Name _ _) _); refine EV.name (by assumption) (mem_lu (by kernel_rfl)) (by walk_at "m_at"))
  | ((with_reducible show EV _ _ _ _ (Expr.Attribute _ _ _) _); refine EV.attr (by walk_at "m_ev") (by exact rfl) (by walk_at "m_at"))
  | ((with_reducible show EV _ _ _ _ (Expr.Tuple _ _ _) _); refine EV.tup (by walk_at "m_evs") (Nat.le_of_ble_eq_true rfl))
  | (apply EV.add <;> walk_at "m_ev")
  | (apply EV.sub <;> walk_at "m_ev"))
local macro_rules | `(tactic| walk_at "m_evs") => `(tactic| first
  | exact EVs.nil
  | exact EVs.cons (by walk_at "m_ev") (by walk_at "m_evs"))
local macro_rules | `(tactic| walk_at "m_puts") => `(tactic| first
  | exact PutsTo.nil
  | exact PutsTo.cons (mem_lu (by kernel_rfl)) (by walk_at "m_at") (by walk_at "m_puts"))
open PySem PySem.W PySem.W.X PyProof.Rows
section
set_option Elab.async false
set_option linter.unusedVariables false
set_option maxRecDepth 100000
theorem fn188 (w : World) : IsFn w 188 187 (B.o_261 w.params) := IsFn.of (oc := B.o_260 w.params) (by kernel_rfl) (isTop (by kernel_rfl)) rfl (isTop (by kernel_rfl)) rfl rfl
theorem ok188 (P : Params) : fnOk (B.o_261 P) = true := by kernel_rfl
/-- where each row stands in the second text: after i rows -/
noncomputable def b2jN (b : List Str) : Nat → Str → Option (List Int)
  | 0 => fun _ => none
  | i + 1 => match b[i]? with
    | some x => upd (b2jN b i) x ((b2jN b i x).getD [] ++ [(i : Int)])
    | none => b2jN b i
theorem b2jN_len (b : List Str) : ∀ (i : Nat) (x : Str) (is : List Int), b2jN b i x = some is → is.length ≤ i
  | 0, x, is, h => by cases h
  | i + 1, x, is, h => by
    unfold b2jN at h
    cases q : b[i]? with
    | none => rw [q] at h; exact Nat.le_succ_of_le (b2jN_len b i x is h)
    | some y =>
      rw [q] at h
      have h : upd (b2jN b i) y ((b2jN b i y).getD [] ++ [(i : Int)]) x = some is := h
      unfold upd at h
      by_cases z : x = y
      · rw [if_pos z] at h; cases h
        rw [List.length_append]
        cases r : b2jN b i y with
        | none => show 0 + 1 ≤ _; lia
        | some js => have := b2jN_len b i y js r; show js.length + 1 ≤ _; lia
      · rw [if_neg z] at h; exact Nat.le_succ_of_le (b2jN_len b i x is h)
theorem upd_upd (f : Str → Option (List Int)) (x : Str) (a b : List Int) : upd (upd f x a) x b = upd f x b := by
  funext k; unfold upd; by_cases q : k = x
  · rw [if_pos q, if_pos q]
  · rw [if_neg q, if_neg q, if_neg q]
theorem upd_self (f : Str → Option (List Int)) (x : Str) (a : List Int) : upd f x a x = some a := by unfold upd; rw [if_pos rfl]
noncomputable def smNs : List Str := ["isjunk", "a", "b", "autojunk", "matching_blocks", "opcodes", "fullbcount"]
noncomputable abbrev mstrs (b : List Str) : MV := .list (b.map .str)
theorem bj_next {b : List Str} {i k : Nat} {z : Str} (hb : b[i]? = some z) (hk : k = i) : upd (upd (b2jN b k) z ((b2jN b k z).getD [])) z (((upd (b2jN b k) z ((b2jN b k z).getD [])) z).getD [] ++ [(i : Int)]) = b2jN b (k + 1) := by
  subst hk
  have : b2jN b (k + 1) = upd (b2jN b k) z ((b2jN b k z).getD [] ++ [(k : Int)]) := by
    show (match b[k]? with | some x => _ | none => _) = _
    rw [hb]
  rw [this, upd_upd, upd_self]; rfl
theorem bj_len {b : List Str} {k : Nat} {z : Str} (hk : k < b.length) (hz : b.length ≤ 100) : ∀ is, (upd (b2jN b k) z ((b2jN b k z).getD [])) z = some is → is.length ≤ 100000 := fun is h => by
  rw [upd_self] at h; cases h
  cases q : b2jN b k z with
  | none => exact Nat.zero_le _
  | some js => have := b2jN_len b k z js q; show js.length ≤ _; lia
/-- what changes in the loop of __chain_b -/
structure ChG where
  i : Nat
  more : List Addr
  m1 : MV
  m2 : MV
  m3 : MV
noncomputable abbrev chC (x d : Addr) (a b : List Str) (y : Addr) (g : ChG) : List CellAt := [⟨x, [d], .inst ["isjunk", "a", "b", "autojunk", "matching_blocks", "opcodes", "fullbcount", "b2j"] [.none, mstrs a, mstrs b, .bool true, .none, .none, .none, .cell 1]⟩, ⟨y, g.more, .bj (b2jN b g.i) g.i none⟩]
noncomputable abbrev chV (b : List Str) (g : ChG) : List MV := [.cell 0, mstrs b, .cell 1, g.m1, g.m2, g.m3, .unb, .unb, .unb, .unb, .unb, .unb]
section
variable {c : Cx} {n : Nat} {vs : List MV}
theorem CX.mono {cs : List CellAt} {f : Value} {ms : List MV} {R R' : MV → List CellAt → Prop} (h : CX c n cs vs f ms R) (hR : ∀ m cs', R m cs' → R' m cs') : CX c n cs vs f ms R' := .mk fun A K F s Q us hA S d hQ =>
  h.go A K F s Q us hA S d fun F' v s' m cs' l S' d' a' p => hQ F' v s' m cs' l S' d' a' (hR _ _ p)
theorem CX.chain {x d : Addr} {a b : List Str} (hz : b.length ≤ 100) : CX c (n + 1) [⟨x, [d], .inst ["isjunk", "a", "b", "autojunk", "matching_blocks", "opcodes", "fullbcount"] [.none, mstrs a, mstrs b, .bool true, .none, .none, .none]⟩] vs (.ref 188) [.cell 0]
    (fun m cs' => m = .none ∧ cs' = [⟨x, [d], .inst ["isjunk", "a", "b", "autojunk", "matching_blocks", "opcodes", "fullbcount", "b2j", "bjunk", "bpopular"] [.none, mstrs a, mstrs b, .bool true, .none, .none, .none, .sdict (b2jN b b.length), .set0, .set0]⟩]) := by
  refine CX.fnX (vs0 := [.cell 0, .unb, .unb, .unb, .unb, .unb, .unb, .unb, .unb, .unb, .unb, .unb]) (fn188 c.w) (ok188 _) rfl ["self"] ["b", "b2j", "i", "elt", "indices", "junk", "isjunk", "popular", "n", "ntest", "idxs"] ["self", "b", "b2j", "i", "elt", "indices", "junk", "isjunk", "popular", "n", "ntest", "idxs"] ?_ rfl rfl rfl (by decide) (by kernel_rfl) fun L P ok _ hR => ?_
  · refine all1 fun x => ?_
    rfl
  have hR := fun vs' cs' ha hr => hR cs' vs' ha ⟨rfl, hr⟩
  refine XS.asg (by assumption) (by walk_at "m_ev") (mem_lu (by kernel_rfl)) (by walk_at "m_at") ?_
  refine XS.asgX2 (EVx.dictB fun y => ?_)
  refine ⟨_, _, _, _, (ASc.attr (by walk_at "m_ev") (by exact rfl) (by walk_at "m_at") (by decide) (by decide)), (ASc.name (by assumption) (mem_lu (by kernel_rfl)) (by walk_at "m_at")), ?_⟩
  refine XS.forEG (σ := ChG) (chC x d a b y) (chV b) (fun m g => g.i = m) (items := b.map .str) ⟨0, [], .unb, .unb, .unb⟩ (EV.bi ok (mem_lu (by kernel_rfl)) (by kernel_rfl) (by kernel_rfl)) (by walk_at "m_ev") rfl ?_ ?_
  rotate_left
  · intro g hg
    rw [List.length_map] at hg
    refine XS.forget (vs' := [.cell 0, mstrs b, .cell 1, .unb, .unb, .unb, .unb, .unb, .unb, .unb, .unb, .unb]) (by walk_at "m_at") ?_
    refine XS.frzB (j := 1) rfl ?_
    refine XS.drop (cs := [⟨x, [d], .inst ["isjunk", "a", "b", "autojunk", "matching_blocks", "opcodes", "fullbcount", "b2j"] [.none, mstrs a, mstrs b, .bool true, .none, .none, .none, .sdict (b2jN b g.i)]⟩]) (ds := [⟨y, [], .dead⟩]) (vs := [.cell 0, mstrs b, .sdict (b2jN b g.i), .unb, .unb, .unb, .unb, .unb, .unb, .unb, .unb, .unb]) ?_
    rw [hg]
    refine XS.asgC2 (EV.set0 (EV.bi ok (mem_lu (by kernel_rfl)) (by kernel_rfl) (by kernel_rfl))) (ASc.attr (by walk_at "m_ev") (by exact rfl) (by walk_at "m_at") (by decide) (by decide)) (ASc.name (by assumption) (mem_lu (by kernel_rfl)) (by walk_at "m_at")) ?_
    refine XS.asg (by assumption) (by walk_at "m_ev") (mem_lu (by kernel_rfl)) (by walk_at "m_at") ?_
    refine XS.ite (TV.none (by walk_at "m_ev")) (fun h => nomatch h) (fun _ => XS.nil ?_)
    refine XS.asgC2 (EV.set0 (EV.bi ok (mem_lu (by kernel_rfl)) (by kernel_rfl) (by kernel_rfl))) (ASc.attr (by walk_at "m_ev") (by exact rfl) (by walk_at "m_at") (by decide) (by decide)) (ASc.name (by assumption) (mem_lu (by kernel_rfl)) (by walk_at "m_at")) ?_
    refine XS.asg ok (EV.callB (EV.bi ok (mem_lu (by kernel_rfl)) (by kernel_rfl) (by kernel_rfl)) (by walk_at "m_evs") (CS.lenL (xs := b.map .str) (by rw [List.length_map]; lia))) (mem_lu (by kernel_rfl)) (by walk_at "m_at") ?_
    rw [List.length_map]
    refine XS.ite (TV.and (.cons (TV.bool (b := true) (by walk_at "m_ev")) fun _ => .cons (TV.ge (a := b.length) (b := 200) (by walk_at "m_ev") (by walk_at "m_ev")) fun _ => .nil)) (fun h => ?_) (fun _ => XS.nil (XS.nil ?_))
    · simp at h; lia
    · exact hR _ _ (asLe.refl _) rfl
  · intro i y' g hy hg
    obtain ⟨z, hb, rfl⟩ := map_str hy
    have hi : i < b.length := (List.getElem?_eq_some_iff.mp hb).1
    refine ⟨_, AS.tup ok (by walk_at "m_puts"), fun PP hN => ?_⟩
    refine XS.asgX (EVx.setdef (j := 1) (by walk_at "m_ev") rfl (by walk_at "m_ev") (by rw [hg]; lia) fun b' more' => ⟨_, _, (ASc.name (by assumption) (mem_lu (by kernel_rfl)) (by walk_at "m_at")), ?_⟩)
    refine XS.expr (EVx.meth (name := "append") (ms := [.int i]) (by walk_at "m_ev") (GMv.appendP (j := 1) rfl) (fun _ _ _ _ => .bi _) (by walk_at "m_evs") (CX.mono (CX.appendP (j := 1) rfl (bj_len (by rw [hg]; exact hi) hz)) fun m cs' h => ⟨h.1, ?_⟩))
    refine XS.eqC (h.2.trans (congrArg (fun f => [(⟨x, [d], .inst ["isjunk", "a", "b", "autojunk", "matching_blocks", "opcodes", "fullbcount", "b2j"] [.none, mstrs a, mstrs b, .bool true, .none, .none, .none, .cell 1]⟩ : CellAt), ⟨y, more', .bj f (g.i + 1) none⟩]) (bj_next hb hg))) ?_
    exact XS.nil (hN ⟨g.i + 1, more', _, _, _⟩ (congrArg (· + 1) hg))
end
end
open PySem PySem.W PySem.W.X PyProof.Rows
section
set_option Elab.async false
set_option linter.unusedVariables false
set_option maxRecDepth 100000
theorem fn174 (w : World) : IsFn w 174 173 (B.o_247 w.params) := IsFn.of (oc := B.o_246 w.params) (by kernel_rfl) (isTop (by kernel_rfl)) rfl (isTop (by kernel_rfl)) rfl rfl
theorem ok174 (P : Params) : fnOk (B.o_247 P) = true := by kernel_rfl
theorem fn181 (w : World) : IsFn w 181 180 (B.o_254 w.params) := IsFn.of (oc := B.o_253 w.params) (by kernel_rfl) (isTop (by kernel_rfl)) rfl (isTop (by kernel_rfl)) rfl rfl
theorem ok181 (P : Params) : fnOk (B.o_254 P) = true := by kernel_rfl
theorem fn167 (w : World) : IsFn w 167 166 (B.o_240 w.params) := IsFn.of (oc := B.o_239 w.params) (by kernel_rfl) (isTop (by kernel_rfl)) rfl (isTop (by kernel_rfl)) rfl rfl
theorem ok167 (P : Params) : fnOk (B.o_240 P) = true := by kernel_rfl
theorem fn160 (w : World) : IsFn w 160 159 (B.o_233 w.params) := IsFn.of (oc := B.o_232 w.params) (by kernel_rfl) (isTop (by kernel_rfl)) rfl (isTop (by kernel_rfl)) rfl rfl
theorem ok160 (P : Params) : fnOk (B.o_233 P) = true := by kernel_rfl
theorem IsFn.callee {w : World} {a cc : Addr} {o : Obj} (f : IsFn w a cc o) {F : PH} {K : Kp} {s : Shared} {cs : List CellAt} (h : SF w K F cs s) : Callee F (.ref a) := .fn (h.top a o f.at_) f.isf
theorem GMv.instF {c : Cx} {cs : List CellAt} {vs : List MV} {name : Str} {f cc : Addr} {of : Obj} {j : Nat} {a : Addr} {more : List Addr} {ns : List Str} {us : List MV} (ff : IsFn c.w f cc of) (hcl : of.cls = .type "function") (hk : cs[j]? = some ⟨a, more, .inst ns us⟩) (hf : nsOf (B.o_314 c.w.params) name = some (.ref f)) (hsh : name ∉ ns)
    (hB : typeLookup (.type "object") name = pure none) : GMv c cs vs (.cell j) name (.ref f) [.cell j] := GMv.inst hk hf ff.at_ hcl hsh hB
/-- the matcher as it is made -/
noncomputable def smCell (x d : Addr) (a b : List Str) : CellAt := ⟨x, [d], .inst ["isjunk", "a", "b", "autojunk", "matching_blocks", "opcodes", "fullbcount", "b2j", "bjunk", "bpopular"] [.none, mstrs a, mstrs b, .bool true, .none, .none, .none, .sdict (b2jN b b.length), .set0, .set0]⟩
section
variable {c : Cx} {n : Nat} {vs : List MV}
theorem CX.seq1 {x d : Addr} {a : List Str} : CX c (n + 1) [⟨x, [d], .inst ["isjunk", "a", "b", "autojunk"] [.none, .none, .none, .bool true]⟩] vs (.ref 174) [.cell 0, mstrs a]
    (fun m cs' => m = .none ∧ cs' = [⟨x, [d], .inst ["isjunk", "a", "b", "autojunk", "matching_blocks", "opcodes"] [.none, mstrs a, .none, .bool true, .none, .none]⟩]) := by
  refine CX.fnX (vs0 := [.cell 0, mstrs a]) (fn174 c.w) (ok174 _) rfl ["self", "a"] [] ["self", "a"] ?_ rfl rfl rfl (by decide) (by kernel_rfl) fun L P ok _ hR => ?_
  · refine all2 fun x y => ?_
    rfl
  have hR := fun vs' cs' ha hr => hR cs' vs' ha ⟨rfl, hr⟩
  refine XS.doc ?_
  refine XS.ite (TV.isNone (by walk_at "m_ev") (by walk_at "m_ev")) (fun h => nomatch h) (fun _ => XS.nil ?_)
  refine XS.asgC (by walk_at "m_ev") (ASc.attr (by walk_at "m_ev") (by exact rfl) (by walk_at "m_at") (by decide) (by decide)) ?_
  refine XS.asgC2 (by walk_at "m_ev") (ASc.attr (by walk_at "m_ev") (by exact rfl) (by walk_at "m_at") (by decide) (by decide)) (ASc.attr (by walk_at "m_ev") (by exact rfl) (by walk_at "m_at") (by decide) (by decide)) ?_
  exact XS.nil (hR _ _ (asLe.refl _) rfl)
theorem CX.seq2 {x d : Addr} {a b : List Str} (hz : b.length ≤ 100) : CX c (n + 2) [⟨x, [d], .inst ["isjunk", "a", "b", "autojunk", "matching_blocks", "opcodes"] [.none, mstrs a, .none, .bool true, .none, .none]⟩] vs (.ref 181) [.cell 0, mstrs b]
    (fun m cs' => m = .none ∧ cs' = [smCell x d a b]) := by
  refine CX.fnX (n := n + 1) (vs0 := [.cell 0, mstrs b]) (fn181 c.w) (ok181 _) rfl ["self", "b"] [] ["self", "b"] ?_ rfl rfl rfl (by decide) (by kernel_rfl) fun L P ok _ hR => ?_
  · refine all2 fun x y => ?_
    rfl
  have hR := fun vs' cs' ha hr => hR cs' vs' ha ⟨rfl, hr⟩
  refine XS.doc ?_
  refine XS.ite (TV.isNone (by walk_at "m_ev") (by walk_at "m_ev")) (fun h => nomatch h) (fun _ => XS.nil ?_)
  refine XS.asgC (by walk_at "m_ev") (ASc.attr (by walk_at "m_ev") (by exact rfl) (by walk_at "m_at") (by decide) (by decide)) ?_
  refine XS.asgC2 (by walk_at "m_ev") (ASc.attr (by walk_at "m_ev") (by exact rfl) (by walk_at "m_at") (by decide) (by decide)) (ASc.attr (by walk_at "m_ev") (by exact rfl) (by walk_at "m_at") (by decide) (by decide)) ?_
  refine XS.asgC (by walk_at "m_ev") (ASc.attr (by walk_at "m_ev") (by exact rfl) (by walk_at "m_at") (by decide) (by decide)) ?_
  refine XS.expr (EVx.meth0 (name := "_SequenceMatcher__chain_b") (by walk_at "m_ev") (GMv.instF (fn188 c.w) rfl rfl (by kernel_rfl) (by decide) (by kernel_rfl)) (fun _ _ _ h => (fn188 c.w).callee h) (CX.mono (CX.chain hz) fun m cs' h => ⟨h.1, ?_⟩))
  obtain ⟨_, rfl⟩ := h
  exact XS.nil (hR _ _ (asLe.refl _) rfl)
theorem CX.seqs {x d : Addr} {a b : List Str} (hz : b.length ≤ 100) : CX c (n + 3) [⟨x, [d], .inst ["isjunk", "a", "b", "autojunk"] [.none, .none, .none, .bool true]⟩] vs (.ref 167) [.cell 0, mstrs a, mstrs b]
    (fun m cs' => m = .none ∧ cs' = [smCell x d a b]) := by
  refine CX.fnX (n := n + 2) (vs0 := [.cell 0, mstrs a, mstrs b]) (fn167 c.w) (ok167 _) rfl ["self", "a", "b"] [] ["self", "a", "b"] ?_ rfl rfl rfl (by decide) (by kernel_rfl) fun L P ok _ hR => ?_
  · refine all3 fun x y z => ?_
    rfl
  have hR := fun vs' cs' ha hr => hR cs' vs' ha ⟨rfl, hr⟩
  refine XS.doc ?_
  refine XS.expr (EVx.meth (name := "set_seq1") (ms := [mstrs a]) (by walk_at "m_ev") (GMv.instF (fn174 c.w) rfl rfl (by kernel_rfl) (by decide) (by kernel_rfl)) (fun _ _ _ h => (fn174 c.w).callee h) (by walk_at "m_evs") (CX.mono (CX.seq1 (n := n + 1)) fun m cs' h => ⟨h.1, ?_⟩))
  obtain ⟨_, rfl⟩ := h
  refine XS.expr (EVx.meth (name := "set_seq2") (ms := [mstrs b]) (by walk_at "m_ev") (GMv.instF (fn181 c.w) rfl rfl (by kernel_rfl) (by decide) (by kernel_rfl)) (fun _ _ _ h => (fn181 c.w).callee h) (by walk_at "m_evs") (CX.mono (CX.seq2 hz) fun m cs' h => ⟨h.1, ?_⟩))
  obtain ⟨_, rfl⟩ := h
  exact XS.nil (hR _ _ (asLe.refl _) rfl)
end
end
open PySem PySem.W PySem.W.X PyProof.Rows
section
set_option Elab.async false
set_option linter.unusedVariables false
set_option maxRecDepth 100000
section
variable {c : Cx} {n : Nat} {cs : List CellAt} {vs : List MV}
theorem frag_in {w : World} {K0 : Frag} (hK : ∀ p ∈ K0, IsTop w p.1 p.2) {K : Kp} {F : PH} {cs : List CellAt} {s : Shared} (S : SF w K F cs s) : K0.In s.heap := by
  intro a o e
  exact (hK _ (lookup_mem e)).get S
/-- a def of the top with defaults is called -/
theorem CX.fnD {a cc : Addr} {o : Obj} (f : IsFn c.w a cc o) (hok : fnOk o = true) (hgen : (funcOf o).scope.isGenerator = false) (ps rest xs0 : List Str) (K0 : Frag) (ds : List Value) {ms dms vs0 : List MV} {R : MV → List CellAt → Prop}
    (hK : ∀ p ∈ K0, IsTop c.w p.1 p.2) (hds : ∀ F as, DVs c.w F as dms ds)
    (hb : ∀ (us : List Value) (S : Setting), us.length = ms.length → peek K0 S (bindArgs (funcOf o) ⟨us, []⟩) = some (ps.zip (us ++ ds))) (hlen : ps.length = (ms ++ dms).length) (hxs : ps ++ rest = xs0) (hvs : (ms ++ dms) ++ List.replicate rest.length .unb = vs0) (hnd : xs0.Nodup)
    (hloc : ps.all (fun x => match (funcOf o).scope.names.lookup x with | some .local => true | _ => false) = true)
    (h : ∀ L P, CxOk (FnCx c.w a o L xs0) → (∀ m cs' vs', asLe (adrs cs) (adrs cs') → R m cs' → P (.ret m) cs' vs') → (∀ cs' vs', asLe (adrs cs) (adrs cs') → R .none cs' → P .next cs' vs') → XS (FnCx c.w a o L xs0) n cs vs0 [bodyOf o] P) : CX c (n + 1) cs vs (.ref a) ms R := .mk fun A K F s Q us hA S d hQ => by
  have hx := fun L => XS.of (h L (fun fl cs' _ => asLe (adrs cs) (adrs cs') ∧ ∃ m, (fl = .ret m ∨ (fl = .next ∧ m = .none)) ∧ R m cs') (f.ok hok hnd) (fun m cs' vs' ha hr => ⟨ha, m, .inl rfl, hr⟩) (fun cs' vs' ha hr => ⟨ha, .none, .inr ⟨rfl, rfl⟩, hr⟩))
  subst hxs; subst hvs
  obtain ⟨oL, eL, S1, back⟩ := S.leave
  have hl := d.length
  have hd2 : DVs c.w F (adrs cs) (ms ++ dms) (us ++ ds) := d.append (hds F (adrs cs))
  refine wpAny_call (call_fn f hgen (n := n) hA S1 (ps := ps) (us := us ++ ds) (rest := rest) (fun Q' hQ' => kp_binds (frag_in hK S1) (fun S => hb us S hl.symm) _ _ _ _ hQ') hd2 (by rw [hlen, hd2.length]) (List.nodup_append.mp hnd).1 (fun x hx => by
    have := List.all_eq_true.mp hloc x hx
    refine mem_lu ?_
    cases q : (funcOf o).scope.names.lookup x with
    | none => rw [q] at this; cases this
    | some kd => rw [q] at this; cases kd <;> first | rfl | cases this) (fnOk.nd hok) fun L s1 S2 => ?_)
  refine (hx L).go _ (K.hold c.L oL) F s1 _ ⟨hA.handled, by have := hA.depth; show A.depth + 1 + n ≤ _; omega, by have := hA.units; show A.units + 3 + 10 * n ≤ _; omega⟩ S2 fun F' fl s2 fl' cs' vs' l S3 r p => ?_
  obtain ⟨ha, m, hm, p⟩ := p
  have S4 := back K F' cs' s2 S.lB (fun m' q => q.mono l ha) S3.toSF
  rcases hm with rfl | ⟨rfl, rfl⟩
  · cases r with
    | ret dv => exact hQ F' _ s2 m cs' l S4 dv ha p
  · cases r with
    | next => exact hQ F' _ s2 .none cs' l S4 .none ha p
theorem CX.init {x d : Addr} {a b : List Str} (hz : b.length ≤ 100) : CX c (n + 4) [⟨x, [d], .inst [] []⟩] vs (.ref 160) [.cell 0, .none, mstrs a, mstrs b]
    (fun m cs' => m = .none ∧ cs' = [smCell x d a b]) := by
  refine CX.fnD (n := n + 3) (vs0 := [.cell 0, .none, mstrs a, mstrs b, .bool true]) (dms := [.bool true]) (fn160 c.w) (ok160 _) rfl ["self", "isjunk", "a", "b", "autojunk"] [] ["self", "isjunk", "a", "b", "autojunk"] [(153, B.o_226 c.w.params)] [.bool true] ?_ ?_ ?_ rfl rfl rfl (by decide) (by kernel_rfl) fun L P ok _ hR => ?_
  · intro p hp
    rw [List.mem_singleton.mp hp]
    exact isTop (by kernel_rfl)
  · intro F as; exact .cons (.bool _) .nil
  · refine all4S fun x y z u S => ?_
    kernel_rfl
  have hR := fun vs' cs' ha hr => hR cs' vs' ha ⟨rfl, hr⟩
  refine XS.doc ?_
  refine XS.asgC (by walk_at "m_ev") (ASc.attr (by walk_at "m_ev") (by exact rfl) (by walk_at "m_at") (by decide) (by decide)) ?_
  refine XS.asgC2 (by walk_at "m_ev") (ASc.attr (by walk_at "m_ev") (by exact rfl) (by walk_at "m_at") (by decide) (by decide)) (ASc.attr (by walk_at "m_ev") (by exact rfl) (by walk_at "m_at") (by decide) (by decide)) ?_
  refine XS.asgC (by walk_at "m_ev") (ASc.attr (by walk_at "m_ev") (by exact rfl) (by walk_at "m_at") (by decide) (by decide)) ?_
  refine XS.expr (EVx.meth (name := "set_seqs") (ms := [mstrs a, mstrs b]) (by walk_at "m_ev") (GMv.instF (fn167 c.w) rfl rfl (by kernel_rfl) (by decide) (by kernel_rfl)) (fun _ _ _ h => (fn167 c.w).callee h) (by walk_at "m_evs") (CX.mono (CX.seqs hz) fun m cs' h => ⟨h.1, ?_⟩))
  obtain ⟨_, rfl⟩ := h
  exact XS.nil (hR _ _ (asLe.refl _) rfl)
theorem CX.newMatcher {a b : List Str} (hz : b.length ≤ 100) : CX c (n + 5) [] vs (.ref 242) [.none, mstrs a, mstrs b] (fun m cs' => m = .cell 0 ∧ ∃ x d, cs' = [smCell x d a b]) :=
  CX.newSM (n := n + 4) (f := 160) (by kernel_rfl) (fn160 c.w).at_ rfl fun x d => CX.mono (CX.init hz) fun m cs' h => ⟨h.1, fun _ => ⟨rfl, x, d, h.2⟩⟩
end
end
open PySem PySem.W PySem.W.X PyProof.Rows
section
set_option Elab.async false
set_option linter.unusedVariables false
set_option maxRecDepth 100000
section
variable {c : Cx} {n : Nat} {cs : List CellAt} {vs : List MV}
/-- a bound method of a built-in class -/
theorem EV.attrBM {o : Expr} {name : Str} {pos : Pos} {m : MV} {id : String} (ho : EV c n cs vs o m)
    (h : ∀ (A : Around) (K : Kp) (F : PH) (s : Shared) (Q : Value → Shared → Prop) (v : Value), St c.w K F cs c.L c.xs vs s → DV c.w F (adrs cs) m v →
      (∀ t, Q (.ref s.heap.objs.size) { s with heap := s.heap.push { cls := .type "builtin_function_or_method", data := .fields #[.builtin id, v] }, toks := t }) → wpAny (model pw c.w) A (getAttr v name true) Q NoE s)
    (hb : ∀ x, attributeBase o name c.env x = x := by intro _; kernel_rfl) : EV c n cs vs (.Attribute o name pos) (.bm id m) := .mk fun A K F s Q hA hS hQ => by
  rw [arm_eval_Attribute, hb]
  refine wpAny_bind (ho.go A K F s _ hA hS fun F1 u s1 l1 S1 d1 => ?_)
  refine wpAny_bind (wpAny_standAt (wpAny_bind (wpAny_holding (h A K F1 s1 _ u S1 d1 fun t => ?_))))
  obtain ⟨S2, l2⟩ := S1.frozenPush { cls := .type "builtin_function_or_method", data := .fields #[.builtin id, u] } t rfl
  exact wpAny_bind (wpAny_letTemporaryGo (wpAny_pure (hQ _ _ _ (l1.trans l2) S2 (.bm (PH.ins_self _ _ _) rfl (d1.mono l2 (asLe.refl _))))))
theorem EV.dictGet {o : Expr} {pos : Pos} {f : Int → Option Int} (ho : EV c n cs vs o (.idict f)) (hb : ∀ x, attributeBase o "get" c.env x = x := by intro _; kernel_rfl) : EV c n cs vs (.Attribute o "get" pos) (.bm "dict.get" (.idict f)) :=
  EV.attrBM ho (fun A K F s Q v S d hQ => by
    revert hQ; apply d.idictI; intro _ _ _ _ e q z hQ
    obtain ⟨kvs, ⟨es, ep, q1, q2, _⟩, _⟩ := q
    exact getAttr_bm (S.fz _ _ e) q1.1 q1.2.1 PySem.F.slot_dict_getattribute entry_dict_ga PySem.F.args_dict_getattribute_2 PySem.F.slot_dict_get PySem.F.type_dict_get (fun c hc => by rw [q2] at hc; cases hc) (by decide) (fun ho hp => body_dict_get ho q1.1 hp) (fun t => hQ t)) hb
theorem EV.setIn {o : Expr} {pos : Pos} (ho : EV c n cs vs o .set0) (hb : ∀ x, attributeBase o "__contains__" c.env x = x := by intro _; kernel_rfl) : EV c n cs vs (.Attribute o "__contains__" pos) (.bm "set.__contains__" .set0) :=
  EV.attrBM ho (fun A K F s Q v S d hQ => by
    revert hQ; apply d.set0I; intro _ _ e q hQ
    obtain ⟨q1, q2, q3, led, q4⟩ := q
    exact getAttr_bm (S.fz _ _ e) q1 q2 PySem.F.slot_set_getattribute entry_set_ga PySem.F.args_set_getattribute_2 PySem.F.slot_set_contains PySem.F.type_set_contains (fun c hc => by rw [q4] at hc; cases hc) (by decide) (fun ho hp => body_set_in ho q1 hp) (fun t => hQ t)) hb
theorem callWith_bm {w : World} {A : Around} {env : Env} {s : Shared} {q : Addr} {oq : Obj} {id : String} {v : Value} {pos : Pos} {args : List (Bool × Sem Value)} {Q : Value → Shared → Prop} (ho : isBM oq id v) (hp : args.any (·.1) = false)
    (h : wpAny (model pw w) A (evalArgs (.ref q) true args []) (fun x s' => s'.heap.get? q = some oq ∧ x.kw = [] ∧ wpAny (model pw w) A (call (.ref q) x.pos) Q NoE s') NoE s) : wpAny (model pw w) A (callWith pos (.ref q) [] args []) Q NoE s := by
  have ho : oq = { cls := .type "builtin_function_or_method", data := .fields #[.builtin id, v] } := ho
  subst ho
  unfold callWith
  refine wpAny_bind (wpAny_holding (wpAny_mono h (fun x s1 h1 => ?_) fun _ _ x => x))
  obtain ⟨hq, hk, h1⟩ := h1
  refine wpAny_bind (wpAny_standAt ?_)
  have hst : (args.any (fun x => x.fst) || ([] : List (Option Str × Sem Value)).any fun x => x.fst.isNone) = false := by rw [hp]; rfl
  rw [hst, hk]
  refine wpAny_bind ?_
  refine wpAny_bind ?_
  refine wpAny_load hq ?_
  dsimp only
  rw [if_pos (by decide)]
  refine wpAny_pure ?_
  rw [if_pos (by decide)]
  show wpAny _ _ (call (.ref q) x.pos [] >>= fun r => holding [r] point >>= fun _ => pure r) _ _ _
  exact wpAny_bind (wpAny_mono h1 (fun r s2 hr => wpAny_bind (wpAny_holding (wpAny_point (wpAny_pure hr)))) fun _ _ x => x)
/-- a name that holds a bound method of a built-in class is called -/
theorem EV.callBM {x : Str} {p : Pos} {e : Expr} {r : List Expr} {pos : Pos} {id : String} {m mv : MV} {ms : List MV} (hf : EV c n cs vs (.Name x p) (.bm id m)) (ha : EVs c n cs vs (e :: r) ms)
    (h : ∀ (A : Around) (K : Kp) (F : PH) (s : Shared) (Q : Value → Shared → Prop) (q : Addr) (oq : Obj) (v : Value) (us : List Value), St c.w K F cs c.L c.xs vs s → s.heap.get? q = some oq → isBM oq id v → DV c.w F (adrs cs) m v → DVs c.w F (adrs cs) ms us →
      (∀ v s', St c.w K F cs c.L c.xs vs s' → DV c.w F (adrs cs) mv v → Q v s') → wpAny (model pw c.w) A (call (.ref q) us) Q NoE s)
    (he : starEach (e :: r) c.env = (false, eval e c.env) :: starEach r c.env := by kernel_rfl) (hp : (backTo pos (starEach (e :: r) c.env)).any (·.1) = false := by kernel_rfl) : EV c n cs vs (.Call (.Name x p) (e :: r) [] pos) mv := .mk fun A K F s Q hA hS hQ =>
  PyProof.Rows.Call_ (hf.go A K F s _ hA hS fun F1 u s1 l1 S1 d1 => by
    apply d1.bmI; intro v q oq eo hb dm
    refine callWith_bm (env := c.env) hb hp ?_
    have := ha.go pos A K F1 s1 (fun us s2 => s2.heap.get? q = some oq ∧ wpAny (model pw c.w) A (PySem.call (.ref q) us) Q NoE s2) hA S1 fun F2 us s2 l2 S2 d2 => ⟨S2.fz _ _ (l2 _ _ eo), h A K F2 s2 Q q oq v us S2 (S2.fz _ _ (l2 _ _ eo)) hb (dm.mono l2 (asLe.refl _)) d2 fun v s' S' d' => hQ F2 v s' (l1.trans l2) S' d'⟩
    rw [he] at this ⊢
    exact Calls.evalArgs_plain (wpAny_mono this (fun us s' ⟨x, y⟩ => ⟨x, rfl, y⟩) fun _ _ x => x)) (eval_call _ _ _ _ _)
theorem EV.getI {x : Str} {p : Pos} {e1 e2 : Expr} {pos : Pos} {f : Int → Option Int} {i j : Int} (hf : EV c n cs vs (.Name x p) (.bm "dict.get" (.idict f))) (ha : EVs c n cs vs [e1, e2] [.int i, .int j])
    (he : starEach [e1, e2] c.env = (false, eval e1 c.env) :: starEach [e2] c.env := by kernel_rfl) (hp : (backTo pos (starEach [e1, e2] c.env)).any (·.1) = false := by kernel_rfl) : EV c n cs vs (.Call (.Name x p) [e1, e2] [] pos) (.int ((f i).getD j)) :=
  EV.callBM hf ha (fun A K F s Q q oq v us S hq hb dm ds hQ => by
    apply ds.consI; intro _ _ d1 d2
    apply d2.consI; intro _ _ d2 d3
    apply d3.nilI; apply d1.intI; intro _; apply d2.intI; intro _
    revert hb; apply dm.idictI; intro g a o nn eo qd z hb
    obtain ⟨kvs, q1, q2, q3⟩ := qd
    have hD : s.heap.DictOf (intKind pw c.w) a kvs := Heap.dictOf_iff.mpr ⟨o, S.fz _ _ eo, q1⟩
    obtain ⟨es, ep, q4, q5, _⟩ := id q1
    have hsm : (a == sysModules) = false := by
      refine beq_false_of_ne fun e => ?_
      have ht : IsTop c.w 1 (boot_o_1 c.w.params) := isTop (by kernel_rfl)
      have h1 := ht.fz S.toSF
      rw [e, show sysModules = 1 from rfl, h1] at eo
      cases eo
      obtain ⟨es, ep, _, q5, q6, _⟩ := q1
      cases q5
      obtain ⟨k, hk, _⟩ := q6 _ (Array.mem_of_getElem? (i := 0) rfl)
      cases hk
    refine call_bm hq hb (fun {A' E' P} hP => check_dict_get (S.fz _ _ eo) q4.1 (fun c hc => by rw [q5] at hc; cases hc) hP) PySem.F.entry_dict_get (by decide +kernel) ?_
    refine meets_dict_get_default (intKind pw c.w) a (intKind_is _ _ i _) hsm _ A (wants Q NoE) s ⟨_, hD.mapOf, ?_⟩
    have hz := z i
    rw [q2]
    cases hf : f i with
    | none =>
      rw [hf] at hz
      have hz : g i = none := hz
      rw [hz]
      have e : (f i).getD j = j := by rw [hf]; rfl
      exact hQ _ _ (S.toks _) (by rw [e]; exact .int _ _)
    | some w =>
      rw [hf] at hz
      obtain ⟨t, hz⟩ : ∃ t, g i = some (.int w t) := hz
      rw [hz]
      have e : (f i).getD j = w := by rw [hf]; rfl
      exact hQ _ _ (S.toks _) (by rw [e]; exact .int _ _)) he hp
theorem EV.inSet {x : Str} {p : Pos} {e1 : Expr} {pos : Pos} {y : Str} (hf : EV c n cs vs (.Name x p) (.bm "set.__contains__" .set0)) (ha : EVs c n cs vs [e1] [.str y])
    (he : starEach [e1] c.env = (false, eval e1 c.env) :: starEach [] c.env := by kernel_rfl) (hp : (backTo pos (starEach [e1] c.env)).any (·.1) = false := by kernel_rfl) : EV c n cs vs (.Call (.Name x p) [e1] [] pos) (.bool false) :=
  EV.callBM hf ha (fun A K F s Q q oq v us S hq hb dm ds hQ => by
    apply ds.consI; intro _ _ d1 d2
    apply d2.nilI; apply d1.strI; intro _
    revert hb; apply dm.set0I; intro a o eo qd hb
    obtain ⟨q1, q2, q3, led, q4⟩ := qd
    have hS : s.heap.SetOf (strKind pw c.w) a (fun _ => false) 0 := ⟨o, #[], 0, _, S.fz _ _ eo, ⟨q1, q2, q3⟩, q4, (fun e he => by simp at he), (fun k => by simp), by decide, by rfl, rfl⟩
    refine call_bm hq hb (fun {A' E' P} hP => check_set_in (S.fz _ _ eo) q1 (fun c hc => by rw [q4] at hc; cases hc) hP) entry_set_contains (by decide +kernel) ?_
    unfold Builtin.«frozenset.__contains__» Builtin.Frozenset.oneOther
    simp only [List.isEmpty_nil, bind_assoc]
    unfold Builtin.Frozenset.addrOf Builtin.Frozenset.withSetAsKey setContains
    refine wpAny_bind (wpAny_pure (wpAny_bind (wpAny_pure ?_)))
    refine wpAny_bind (wpAny_tryCatch (wpAny_holding ?_))
    refine wpAny_bind ((strKind pw c.w).pyHash (k := y) (strKind_is _ _ _ _) ?_)
    refine wpAny_bind (wpAny_setFind_of (s := { s with toks := s.toks + 1 }) (strKind_is _ _ y _) rfl hS fun r hr => ?_)
    refine wpAny_pure ?_
    show wpAny _ _ (ret (Value.bool r.isSome)) _ _ _
    rw [hr]
    exact wpAny_pure (hQ _ _ (S.toks _) (.bool _))) he hp
end
end
open PySem PySem.W PySem.W.X PyProof.Rows
section
set_option Elab.async false
set_option linter.unusedVariables false
set_option maxRecDepth 100000
section
variable {c : Cx} {n : Nat} {cs : List CellAt} {vs : List MV} {r : List Stmt} {k : List (List Stmt)} {P : Fl → List CellAt → List MV → Prop}
theorem letGo_int {t : Expr} {it : Addr} {i : Int} {u : Tok} {A : Around} {w : World} {Q : Unit → Shared → Prop} {E : Value → Shared → Prop} {s : Shared} (hQ : Q () s) : wpAny (model pw w) A (letOwnedTupleGo t (.ref it) (.int i u)) Q E s := by
  cases t <;> exact wpAny_pure hQ
/-- a for over range(a, b) -/
theorem EX1.forR {t : Expr} {x : Str} {p : Pos} {e1 e2 : Expr} {ipos pos : Pos} {body : List Stmt} {a b : Int} (I : Int → List CellAt → List MV → Prop)
    (hf : EV c n cs vs (.Name x p) (.val (.type "range"))) (ha : EVs c n cs vs [e1, e2] [.int a, .int b]) (hab : a ≤ b) (h1 : -100000 ≤ a) (h2 : b ≤ 100000)
    (turn : ∀ i cs vs, a ≤ i → i < b → I i cs vs → ∃ vs1, AS c n cs vs t (.int i) vs1 ∧ EX c n cs vs1 body (fun fl cs' vs' => match fl with | .next | .cont => I (i + 1) cs' vs' | .brk => P .next cs' vs' | .ret r => P (.ret r) cs' vs'))
    (h0 : I a cs vs) (hend : ∀ cs' vs', I b cs' vs' → P .next cs' vs')
    (hs : ∀ x', foldedSetIterable (.Call (.Name x p) [e1, e2] [] ipos) c.env x' = pure x' := by intro _; kernel_rfl)
    (he : starEach [e1, e2] c.env = (false, eval e1 c.env) :: starEach [e2] c.env := by kernel_rfl) (hp : (backTo ipos (starEach [e1, e2] c.env)).any (·.1) = false := by kernel_rfl) : EX1 c n cs vs (.For t (.Call (.Name x p) [e1, e2] [] ipos) body [] pos) P := .mk fun A K F s Q hA hS hQ => by
  refine wpAny_For (raw_call hf (fun _ _ _ _ => .ty _) ha hA hS (fun F1 us s1 l1 S1 d1 => ?_) he hp) hs
  apply d1.consI; intro _ _ d1 d2
  apply d2.consI; intro _ _ d2 d3
  apply d3.nilI; apply d1.intI; intro _; apply d2.intI; intro _
  rename_i t1 t2
  refine call_range_2 ?_
  obtain ⟨hp1, g1, dr1, tk1, os1⟩ := s1
  dsimp only
  have S1' := S1.push { cls := .type "range", data := .fields #[.int a t1, .int b t2, .int 1 tk1] } (tk1 + 1)
  have hr : IsRange (hp1.push { cls := .type "range", data := .fields #[.int a t1, .int b t2, .int 1 tk1] }) hp1.objs.size a b 1 t1 t2 tk1 := IsRange.new _ _ _ _ _ _ _
  dsimp only at S1'
  generalize hp1.push { cls := .type "range", data := .fields #[.int a t1, .int b t2, .int 1 tk1] } = hp2 at S1' hr ⊢
  refine wpAny_pyIter_range (s := ⟨hp2, g1, dr1, tk1 + 1, os1⟩) hr (small_one (by omega) (by omega) (by omega) (by omega)) ?_
  rw [rangeSize_one]
  have hn : hp2.get? hp2.objs.size = none := get_of_ge (Nat.le_refl _)
  have f2 := S1'.free hn
  have S2 := S1'.push { cls := .type "range_iterator", data := .fields #[rawInt a, rawInt (if a < b then b - a else 0), rawInt 1] } (tk1 + 1)
  have hit0 : IsRangeIter (hp2.push { cls := .type "range_iterator", data := .fields #[rawInt a, rawInt (if a < b then b - a else 0), rawInt 1] }) hp2.objs.size a (b - a) 1 := by
    have e : (if a < b then b - a else 0) = b - a := by split <;> omega
    rw [e]
    exact Heap.get?_push_size _ rfl
  dsimp only at S2 hit0 f2 ⊢
  generalize hp2.push { cls := .type "range_iterator", data := .fields #[rawInt a, rawInt (if a < b then b - a else 0), rawInt 1] } = hp3 at S2 hit0 ⊢
  generalize hp2.objs.size = it at S2 hit0 f2 ⊢
  have hz : ((b - a).toNat : Int) = b - a := Int.toNat_of_nonneg (by lia)
  refine for_turns (b - a).toNat (fun i o => o = { cls := .type "range_iterator", data := .fields #[rawInt (a + i), rawInt (b - (a + i)), rawInt 1] }) (fun i => .int (a + i)) (fun i => I (a + i)) hA (fun F' f s' fl cs' vs' l => hQ F' f s' fl cs' vs' (l1.trans l))
    (fun i cs vs hi hI => ?_) (fun cs vs h => hend cs vs (by rw [show a + ((b - a).toNat : Int) = b by lia] at h; exact h)) (fun i s3 oi G E hi lz ei hT hG => ?_) (fun s3 oi G E lz ei hT hG => ?_) S2 f2 ⟨_, hit0, by rw [show a + ((0 : Nat) : Int) = a by lia]⟩ (by rw [show a + ((0 : Nat) : Int) = a by lia]; exact h0)
  · obtain ⟨vs1, x1, x2⟩ := turn (a + i) cs vs (by lia) (by lia) hI
    rw [show a + (i : Int) + 1 = a + ((i + 1 : Nat) : Int) by lia] at x2
    exact ⟨vs1, x1, x2⟩
  · refine wpAny_pyNext_range_item (show IsRangeIter s3.heap it (a + i) (b - (a + i)) 1 from ei.trans (congrArg some hT)) (by lia) fun h' hit4 hs4 => ?_
    exact hG h' (s3.toks + 1) _ _ hit4 (by rw [show a + (i : Int) + 1 = a + ((i + 1 : Nat) : Int) by lia, show b - (a + (i : Int)) - 1 = b - (a + ((i + 1 : Nat) : Int)) by lia]) (fun a o ha' e' => (hs4.2 a ha').trans e') (.int _ _) fun s Q E' e' hq => letGo_int hq
  · exact wpAny_pyNext_range_end hA.handled (show IsRangeIter s3.heap it (a + ((b - a).toNat : Int)) (b - (a + ((b - a).toNat : Int))) 1 from ei.trans (congrArg some hT)) (by lia) fun h' hs4 => hG h' fun a o ha' e' => hs4 a o ha' e'
theorem XS.forR {t : Expr} {x : Str} {p : Pos} {e1 e2 : Expr} {ipos pos : Pos} {body : List Stmt} {a b : Int} (I : Int → List CellAt → List MV → Prop) (B : List CellAt → List MV → Prop)
    (hf : EV c n cs vs (.Name x p) (.val (.type "range"))) (ha : EVs c n cs vs [e1, e2] [.int a, .int b]) (hab : a ≤ b) (h1 : -100000 ≤ a) (h2 : b ≤ 100000) (h0 : I a cs vs)
    (hend : ∀ cs' vs', I b cs' vs' → B cs' vs') (hB : ∀ cs' vs', B cs' vs' → XS c n cs' vs' (r :: k) P)
    (turn : ∀ i cs vs, a ≤ i → i < b → I i cs vs → ∃ vs1, AS c n cs vs t (.int i) vs1 ∧ XS c n cs vs1 [body] (LoopP (I (i + 1)) B (fun m => P (.ret m))))
    (hs : ∀ x', foldedSetIterable (.Call (.Name x p) [e1, e2] [] ipos) c.env x' = pure x' := by intro _; kernel_rfl)
    (he : starEach [e1, e2] c.env = (false, eval e1 c.env) :: starEach [e2] c.env := by kernel_rfl) (hp : (backTo ipos (starEach [e1, e2] c.env)).any (·.1) = false := by kernel_rfl) : XS c n cs vs ((.For t (.Call (.Name x p) [e1, e2] [] ipos) body [] pos :: r) :: k) P :=
  XS.cons (EX1.forR I hf ha hab h1 h2 (fun i cs vs hi hi' hI => by
    obtain ⟨vs1, h1, h2⟩ := turn i cs vs hi hi' hI
    refine ⟨vs1, h1, EX.mono (XS.of h2) fun fl cs' vs' p => ?_⟩
    cases fl with
    | next => exact p
    | cont => exact p
    | brk => exact hB _ _ p
    | ret m => exact p) h0 (fun cs' vs' hI => hB _ _ (hend _ _ hI)) hs he hp)
end
end
open PySem PySem.W PySem.W.X PyProof.Rows
section
set_option Elab.async false
set_option linter.unusedVariables false
set_option maxRecDepth 100000
theorem valueAt_stored {K : Type} [DecidableEq K] (kvs : List (K × Value)) (k : K) (v : Value) (j : K) : valueAt (stored kvs k v) j = if j = k then some v else valueAt kvs j := by
  by_cases hany : (kvs.any fun kv => decide (kv.1 = k)) = true
  · unfold stored
    rw [if_pos hany]
    unfold valueAt
    rw [List.find?_map]
    have hp : ((fun kv : K × Value => decide (kv.1 = j)) ∘ fun kv => if kv.1 = k then (kv.1, v) else kv) = fun kv => decide (kv.1 = j) := by
      funext kv
      show decide ((if kv.1 = k then (kv.1, v) else kv).1 = j) = _
      by_cases q : kv.1 = k
      · rw [if_pos q]
      · rw [if_neg q]
    rw [hp]
    cases hf : kvs.find? (fun kv => decide (kv.1 = j)) with
    | none =>
      by_cases q : j = k
      · subst q
        rw [List.any_eq_true] at hany
        obtain ⟨p, hp, e⟩ := hany
        rw [List.find?_eq_none] at hf
        exact absurd e (hf p hp)
      · rw [if_neg q]; rfl
    | some p =>
      have hpj : p.1 = j := by simpa using List.find?_some hf
      show some (if p.1 = k then (p.1, v) else p).2 = _
      by_cases q : j = k
      · rw [if_pos q, if_pos (hpj.trans q)]
      · rw [if_neg q, if_neg (fun z => q (hpj.symm.trans z))]; rfl
  · refine valueAt_new ?_ j
    unfold valueAt
    rw [Option.map_eq_none_iff, List.find?_eq_none]
    intro p hp e
    exact hany (List.any_eq_true.mpr ⟨p, hp, e⟩)
noncomputable def updI (f : Int → Option Int) (x v : Int) : Int → Option Int := fun k => if k = x then some v else f k
theorem DVs.reverse {w : World} {F : PH} {as : List Addr} {xs : List MV} {us : List Value} (d : DVs w F as xs us) : DVs w F as xs.reverse us.reverse := by
  induction xs generalizing us with
  | nil => (apply d.nilI); exact .nil
  | cons x xs ih =>
    apply d.consI; intro _ _ d1 d2
    rw [List.reverse_cons, List.reverse_cons]
    exact (ih d2).append (.cons d1 .nil)
section
variable {c : Cx} {n : Nat} {cs : List CellAt} {vs : List MV} {r : List Stmt} {k : List (List Stmt)} {P : Fl → List CellAt → List MV → Prop}
/-- an item of a dict of ints is stored -/
theorem ASc.subI {o i : Expr} {pos : Pos} {j : Nat} {a : Addr} {f : Int → Option Int} {z : Nat} {x v : Int} (ho : EV c n cs vs o (.cell j)) (hk : cs[j]? = some ⟨a, [], .idict f z⟩) (hi : EV c n cs vs i (.int x)) (hz : z ≤ 100000) :
    ASc c n cs vs (.Subscript o i pos) (.int v) (cs.set j ⟨a, [], .idict (updI f x v) (z + 1)⟩) vs := by
  refine ⟨by rw [adrs_set hk (y := ⟨a, [], .idict (updI f x v) (z + 1)⟩) rfl]; exact asLe.refl _, fun A K F s Q w hA hS dv hQ => ?_⟩
  rw [assign_Subscript]
  refine wpAny_bind (wpAny_holding (ho.go A K F s _ hA hS fun F1 u s1 l1 S1 d1 => ?_))
  rw [cell_addr d1 hk]
  refine wpAny_bind (wpAny_holding (hi.go A K F1 s1 _ hA S1 fun F2 iv s2 l2 S2 d2 => ?_))
  apply d2.intI; intro _; apply dv.intI; intro _
  rename_i ti tv
  refine wpAny_bind (wpAny_standAt (wpAny_bind (wpAny_holding ?_)))
  obtain ⟨_, ob, g, e1, ⟨kvs, e2, e3, e4⟩, e5⟩ := S2.cl _ (List.mem_of_getElem? hk)
  have hD : s2.heap.DictOf (intKind pw c.w) a kvs := Heap.dictOf_iff.mpr ⟨ob, e1, e2⟩
  refine wpAny_setItem_pairs (intKind_is _ _ x _) hD (fun h' hD' hs' => ?_) (Nat.le_trans (Nat.le_trans e4 hz) (by decide))
  obtain ⟨od, hod, hdd⟩ := Heap.dictOf_iff.mp hD'
  have S3 := S2.setCell (s' := { s2 with heap := h', toks := s2.toks + 1 }) hk (y := ⟨a, [], .idict (updI f x v) (z + 1)⟩) rfl rfl (fun b o hb q => (hs'.2 b (fun z => hb (z ▸ .head _))).trans q) (fun b hb => ?_) ?_ rfl rfl
  · exact wpAny_release (hQ F2 _ (l1.trans l2) S3)
  · have hb : b ∈ ([a] : List Addr) := hb
    rw [List.mem_singleton.mp hb]; exact ⟨od, hod⟩
  · refine ⟨rfl, od, fun y => if y = x then some (.int v tv) else g y, hod, ⟨_, hdd, fun y => ?_, Nat.le_trans (stored_length_le _ _ _) (Nat.succ_le_succ e4)⟩, fun y => ?_⟩
    · rw [valueAt_stored]
      dsimp only
      by_cases q : y = x
      · rw [if_pos q, if_pos q]
      · rw [if_neg q, if_neg q]; exact e3 y
    · unfold updI
      dsimp only
      by_cases q : y = x
      · rw [if_pos q, if_pos q]; exact ⟨_, rfl⟩
      · rw [if_neg q, if_neg q]; exact e5 y
/-- names take values one by one, bound directly -/
inductive PutsN (c : Cx) : List Str → List MV → List MV → List MV → Prop
  | nil {us} : PutsN c [] [] us us
  | cons {x r m ms us us1 us2} : (x, NameKind.local) ∈ c.sc.names → Put x m c.xs us us1 → PutsN c r ms us1 us2 → PutsN c (x :: r) (m :: ms) us us2
theorem PutsN.go (ok : CxOk c) {ns : List Str} {ms vs vs' : List MV} (h : PutsN c ns ms vs vs') : ∀ {A : Around} {K : Kp} {F : PH} {s : Shared} {Q : Unit → Shared → Prop} {us : List Value}, St c.w K F cs c.L c.xs vs s → DVs c.w F (adrs cs) ms us →
    (∀ s', St c.w K F cs c.L c.xs vs' s' → Q () s') → wpAny (model pw c.w) A (assignInOrder (ns.map fun n => bindName c.env n) us) Q NoE s := by
  induction h with
  | nil => intro A K F s Q us S d hQ; exact wpAny_pure (hQ _ S)
  | @cons x r m ms vs vs1 vs2 hk hp hr ih =>
    intro A K F s Q us S d hQ
    apply d.consI; intro _ _ d1 d2
    rw [List.map_cons]
    refine wpAny_bind (wpAny_holding ?_)
    unfold bindName
    refine wpAny_bind (wpAny_holding (wpAny_point ?_))
    refine wpAny_bind (bind_name ok hk hp S d1 fun s' S' => ?_)
    refine wpAny_point ?_
    exact ih S' d2 hQ
/-- two or three names take the items of a tuple written out: the stores go the other way round -/
theorem XS.asgSw (ok : CxOk c) {t e : Expr} {pos : Pos} {names : List Str} {ms vs' : List MV} (h : EV c n cs vs e (.tup ms)) (hw : swappedStores [t] e c.env = pure (some names)) (hl : names.length = ms.length) (hp : PutsN c names.reverse ms.reverse vs vs') (hx : XS c n cs vs' (r :: k) P)
    (hs : swapsWithSole [t] e pos.line c.env = pure false := by kernel_rfl) : XS c n cs vs ((.Assign [t] e pos :: r) :: k) P :=
  XS.cons (.mk fun A K F s Q hA hS hQ => by
    rw [exec_Assign_arm]
    refine wpAny_bind (wpAny_standAt ?_)
    rw [hs]
    refine wpAny_bind (wpAny_pure ?_)
    rw [if_neg (by decide)]
    refine wpAny_bind (h.go A K F s _ hA hS fun F1 v s1 l1 S1 d1 => ?_)
    rw [hw]
    refine wpAny_bind (wpAny_pure ?_)
    apply d1.tupI; intro _ _ _ e q d
    unfold assignStores
    refine wpAny_bind (wpAny_rule ?_)
    rw [hl, ← arr_len d]
    refine wpAny_bind (wpAny_unpackItems_tuple hA.handled (q.isTuple (S1.fz _ _ e)) fun h' hk => ?_)
    have S2 : St c.w K F1 cs c.L c.xs vs { s1 with heap := h' } := S1.ext (keep_of_extBut (Nat.le_refl _) hk) rfl rfl
    refine wpAny_bind (hp.go ok S2 (DVs.reverse (d.mono (PH.le.refl _) (asLe.nil _))) fun s' S' => ?_)
    exact wpAny_pure (hQ F1 _ s' .next cs vs' l1 S' .next hx))
/-- the list of an index, or the default -/
theorem GMv.sget {f : Str → Option (List Int)} : GMv c cs vs (.sdict f) "get" (.builtin "dict.get") [.sdict f] := .mk fun A K F s Q v pl S d hQ => by
  cases id d with
  | @sdict _ _ g a o nn eo qd z =>
    obtain ⟨kvs, q1, q2, q3⟩ := qd
    have hD : s.heap.DictOf (strKind pw c.w) a kvs := Heap.dictOf_iff.mpr ⟨o, S.fz _ _ eo, q1⟩
    exact getMethod_builtin hD.typeIs PySem.F.plainAttrs_dict PySem.F.slot_dict_get PySem.F.type_dict_get hD.mapOf.noDict (hQ _ s S (.cons d .nil))
theorem IntsAre.dvs {w : World} {F : PH} {as : List Addr} {us : List Value} {is : List Int} (h : IntsAre us is) : DVs w F as (is.map .int) us := by
  induction h with
  | nil => exact .nil
  | cons i t _ ih => exact .cons (.int i t) ih
theorem CS.sget {f : Str → Option (List Int)} {x : Str} : CS c n cs vs (.builtin "dict.get") [.sdict f, .str x, .list []] (.list (((f x).getD []).map .int)) := .mk fun A K F s Q us hA S d hQ => by
  apply d.consI; intro _ _ d1 d2
  apply d2.consI; intro _ _ d2 d3
  apply d3.consI; intro _ _ d3 d4
  apply d4.nilI; apply d2.strI; intro _
  apply d1.sdictI; intro g a o nn eo qd z
  obtain ⟨kvs, q1, q2, q3⟩ := qd
  have hD : s.heap.DictOf (strKind pw c.w) a kvs := Heap.dictOf_iff.mpr ⟨o, S.fz _ _ eo, q1⟩
  have hz := z x
  by_cases hsm : (a == sysModules) = false
  · refine call_meetsIn PySem.F.slot_dict_get hD.typeIs PySem.F.entry_dict_get (PySem.F.args_dict_get_3 _ _ _) (meets_dict_get_default (strKind pw c.w) a (strKind_is _ _ x _) hsm _) ⟨_, hD.mapOf, ?_⟩
    rw [q2]
    cases hf : f x with
    | none =>
      rw [hf] at hz
      have hz : g x = none := hz
      rw [hz]
      exact hQ F _ _ (PH.le.refl _) (S.toks _) (by rw [hf]; exact d3)
    | some is =>
      rw [hf] at hz
      obtain ⟨v, hz, hi⟩ : ∃ v, g x = some v ∧ IntsAt F is v := hz
      rw [hz]
      refine hQ F _ _ (PH.le.refl _) (S.toks _) ?_
      rw [hf]
      obtain ⟨e1, e2, e3⟩ := hi
      exact .list e1 e2 (IntsAre.dvs e3)
  · exfalso
    have ea : a = sysModules := by simpa using hsm
    have ht : IsTop c.w 1 (boot_o_1 c.w.params) := isTop (by kernel_rfl)
    have h1 := ht.fz S.toSF
    rw [ea, show sysModules = 1 from rfl, h1] at eo
    cases eo
    obtain ⟨es, ep, _, q5, q6, q7, _⟩ := q1
    cases q5
    have hb : valueAt kvs (Str.ofString "builtins") = some (.ref 4) := by
      rw [← q7.find]
      rfl
    rw [q2] at hb
    have hz := z (Str.ofString "builtins")
    rw [hb] at hz
    cases hf : f (Str.ofString "builtins") with
    | none => rw [hf] at hz; cases hz
    | some is =>
      rw [hf] at hz
      obtain ⟨v, hz, hi⟩ : ∃ v, some (Value.ref 4) = some v ∧ IntsAt F is v := hz
      cases hz
      obtain ⟨e1, e2, e3⟩ := hi
      have ht4 : IsTop c.w 4 (boot_o_4 c.w.params) := isTop (by kernel_rfl)
      rw [ht4.fz S.toSF] at e1
      cases e1
      have := e2.1
      revert this
      unfold boot_o_4
      exact fun h => nomatch h
end
end
open PySem PySem.W PySem.W.X PyProof.Rows
section
set_option Elab.async false
set_option linter.unusedVariables false
set_option maxRecDepth 100000
theorem SF.kf {w : World} {K : Kp} {F : PH} {cs : List CellAt} {s : Shared} (h : SF w K F cs s) : (KF w.params).In s.heap :=
  kf_in w s.heap fun a o x => h.fz _ _ (h.top a o x)
theorem pk_check_tn (P : Params) (S : Setting) (a : Value) : peek (KF P) S (checkBuiltinCall "tuple.__new__" ⟨[.ref 135, a], []⟩) = some () := by kernel_rfl
theorem entry_tn : entryFor table "tuple.__new__" = some Builtin.«tuple.__new__» := entryFor_of_tree (by kernel_rfl)
theorem plain_tn : plainId "tuple.__new__" = true := by decide +kernel
theorem pk_isType (P : Params) (S : Setting) : peek (KF P) S (isType (.ref 135)) = some true := by kernel_rfl
theorem pk_sub (P : Params) (S : Setting) : peek (KF P) S (isSubtype (.ref 135) (.type "tuple")) = some true := by kernel_rfl
theorem pk_made (P : Params) (S : Setting) : peek (KF P) S (Bind.madeHere "tuple.__new__" (.ref 135)) = some () := by kernel_rfl
theorem pk_init (P : Params) (S : Setting) : peek (KF P) S (typeLookup (.ref 135) "__init__") = some (some (.builtin "object.__init__")) := by kernel_rfl
theorem pk_del (P : Params) (S : Setting) : peek (KF P) S (classHasDel 135) = some false := by kernel_rfl
section
variable {w : World} {A : Around} {E : Value → Shared → Prop} {s : Shared}
theorem call_tuple_new {t : Addr} {T : String} {o : Obj} {items : Array Value} {n : Nat} {Q : Value → Shared → Prop} (X : (KF w.params).In s.heap) (hT : T = "list" ∨ T = "tuple") (ho : s.heap.get? t = some o) (hc : o.cls = .type T) (hd : o.data = .seq items n) (hz : items.size ≤ 100000)
    (hA : A.handled = none)
    (hQ : ∀ h' a om, Keep s.heap h' → s.heap.get? a = none → h'.get? a = some om → isMat om items → Q (.ref a) { s with heap := h' }) : wpAny (model pw w) A (call (.builtin "tuple.__new__") [.ref 135, .ref t]) Q E s := by
  refine wpAny_call (codeAny_call_builtin_code (Code.quiet_builtin _ (by decide +kernel)) ((Looks.of_peek X (pk_check_tn _ _ _)).here (codeAny_builtin entry_tn ?_)))
  rw [Around.under_plainId plain_tn]
  unfold Builtin.«tuple.__new__»
  refine wpAny_bind ((Looks.of_peek X (pk_isType _ _)).here ?_)
  rw [if_neg (by decide)]
  refine wpAny_bind ((Looks.of_peek X (pk_sub _ _)).here ?_)
  rw [if_neg (by decide)]
  refine wpAny_bind ((Looks.of_peek X (pk_made _ _)).here ?_)
  refine wpAny_bind ((Looks.of_peek X (pk_init _ _)).here ?_)
  rw [if_pos (by decide)]
  refine wpAny_bind (m := noKeywords _ _) (wpAny_of_eq (a := ()) (by kernel_rfl) ?_)
  refine wpAny_bind (m := checkCount _ _ _ _) (wpAny_of_eq (a := ()) (by kernel_rfl) ?_)
  dsimp only
  rw [if_neg (by decide)]
  refine wpAny_bind (wpAny_collect_seq t hT ho hc hd (fun h' hk => ?_) (Nat.le_trans hz (by decide)))
  refine wpAny_bind (wpAny_pure ?_)
  refine wpAny_bind (wpAny_alloc ?_)
  have k2 : Keep s.heap (h'.push { cls := .type "dict", data := .dict #[] }) := fun b o q => Heap.get?_push_of_some _ (hk b o q)
  refine wpAny_bind ?_
  unfold newObj
  dsimp only
  rw [if_neg (by rw [List.size_toArray, Array.length_toList]; exact Nat.not_lt.mpr (Nat.le_trans hz (by decide)))]
  unfold newObjAsIs
  refine wpAny_bind (wpAny_alloc ?_)
  dsimp only
  have k3 : ∀ om : Obj, Keep s.heap ((h'.push { cls := .type "dict", data := .dict #[] }).push om) := fun om b o q => Heap.get?_push_of_some _ (k2 b o q)
  have X3 : ∀ om : Obj, (KF w.params).In ((h'.push { cls := .type "dict", data := .dict #[] }).push om) := fun om a o e => k3 om a o (X a o e)
  refine wpAny_bind ((Looks.of_peek (X3 _) (pk_del _ _)).here (s := { s with heap := (h'.push { cls := .type "dict", data := .dict #[] }).push _ }) ?_)
  rw [if_neg (by decide)]
  refine wpAny_pure (wpAny_pure (hQ _ _ _ (k3 _) ?_ (Heap.get?_push_size _ rfl) ⟨rfl, rfl, _, by rw [Array.toArray_toList]⟩))
  cases q : s.heap.get? (h'.push { cls := .type "dict", data := .dict #[] }).objs.size with
  | none => rfl
  | some o' => exact absurd (Heap.lt_size (k2 _ _ q)) (Nat.lt_irrefl _)
end
end
open PySem PySem.W PySem.W.X PyProof.Rows
section
set_option Elab.async false
set_option linter.unusedVariables false
set_option maxRecDepth 100000
theorem pk_opq (P : Params) (S : Setting) : peek (KF P) S (opaqueClassAbove (.type "tuple")) = some none := by kernel_rfl
theorem pk_tt (P : Params) (S : Setting) : peek (KF P) S (typeOf (.type "tuple")) = some (.type "type") := by kernel_rfl
theorem pk_tga (P : Params) : findIn (KF P) (.type "type") "__getattribute__" = some (some (.builtin "type.__getattribute__")) := by kernel_rfl
theorem pk_sty (P : Params) : subIn (KF P) (.type "type") (.type "type") = some true := by kernel_rfl
theorem fc_tuple (P : Params) : findCls (KF P) (.type "tuple") (.type "type") "__new__" = some (.val (.builtin "tuple.__new__")) := by kernel_rfl
theorem pk_sga (P : Params) (S : Setting) : peek (KF P) S (specialOf (.type "tuple") "__getattribute__") = some (some (.builtin "type.__getattribute__")) := by kernel_rfl
section
variable {w : World} {A : Around} {E : Value → Shared → Prop} {s : Shared}
theorem getMethod_tuple_new {pl : Sem Bool} {Q : Value × List Value → Shared → Prop} (X : (KF w.params).In s.heap) (hQ : Q (.builtin "tuple.__new__", []) { s with toks := s.toks + 1 }) : wpAny (model pw w) A (getMethod (.type "tuple") "__new__" pl) Q E s := by
  unfold getMethod
  refine wpAny_bind ((Looks.of_peek X (pk_sga _ _)).here ?_)
  dsimp only
  rw [if_pos canon_tga]
  refine wpAny_bind ?_
  refine cls_open (mc := .type "type") (r := .val (.builtin "tuple.__new__")) X (Looks.of_peek X (pk_opq _ _)) (Looks.of_peek X (pk_tt _ _)) (pk_tga _) (looks_hook X (r := none) (by rfl)) (pk_sty _) (fc_tuple _) ?_
  refine wpAny_pure ?_
  dsimp only
  rw [handedOut_of (by decide +kernel)]
  exact wpAny_pure (wpAny_pure hQ)
end
section
variable {c : Cx} {n : Nat} {cs : List CellAt} {vs : List MV}
theorem GMv.tupleNew : GMv c cs vs (.val (.type "tuple")) "__new__" (.builtin "tuple.__new__") [] := .mk fun A K F s Q v pl S d hQ => by
  apply d.valI
  exact getMethod_tuple_new S.toSF.kf (hQ [] _ (S.toks _) .nil)
theorem CS.matNew {ms : List MV} (hz : ms.length ≤ 1000) : CS c n cs vs (.builtin "tuple.__new__") [.val (.ref 135), .tup ms] (.mat ms) := .mk fun A K F s Q us hA S d hQ => by
  apply d.consI; intro _ _ d1 d2
  apply d2.consI; intro _ _ d2 d3
  apply d3.nilI; apply d1.valI
  apply d2.tupI; intro _ _ _ e q d
  obtain ⟨q1, q2, q3, nn, q4⟩ := q
  refine call_tuple_new S.toSF.kf (.inr rfl) (S.fz _ _ e) q1 q4 (by rw [arr_len d]; lia) hA.handled fun h' a om hk hn ho hm => ?_
  obtain ⟨S2, l2⟩ := S.frozen (s' := { s with heap := h' }) hn ho hk rfl rfl
  exact hQ _ _ _ l2 S2 (.mat (PH.ins_self _ _ _) hm (d.mono l2 (asLe.refl _)))
end
end
open PySem PySem.W PySem.W.X PyProof.Rows
section
set_option Elab.async false
set_option linter.unusedVariables false
set_option maxRecDepth 100000
set_option maxHeartbeats 1000000
theorem fn82 (w : World) : IsFn w 82 81 (B.o_77 w.params) := IsFn.of (oc := B.o_76 w.params) (by kernel_rfl) (isTop (by kernel_rfl)) rfl (isTop (by kernel_rfl)) rfl rfl
theorem ok82 (P : Params) : fnOk (B.o_77 P) = true := by kernel_rfl
theorem pk_call (P : Params) (S : Setting) : peek (KF P) S (specialOf (.ref 135) "__call__") = some (some (.builtin "type.__call__")) := by kernel_rfl
theorem pk_typ (P : Params) (S : Setting) : peek (KF P) S (isInstance (.ref 135) (.type "type")) = some true := by kernel_rfl
theorem pk_mro (P : Params) (S : Setting) : peek (KF P) S (mroOf (.ref 135)) = some [.ref 135, .type "tuple", .type "object"] := by kernel_rfl
theorem pk_madeBy (P : Params) (S : Setting) : peek (KF P) S (Bind.madeBy (.ref 135)) = some none := by kernel_rfl
theorem pk_self (P : Params) (S : Setting) : peek (KF P) S (isSubtype (.ref 135) (.ref 135)) = some true := by kernel_rfl
theorem pk_obj (P : Params) (S : Setting) : peek (KF P) S (isSubtype (.ref 135) (.type "object")) = some true := by kernel_rfl
theorem fc_new (P : Params) : findCls (KF P) (.ref 135) (.type "type") "__new__" = some (.get (.builtin "staticmethod.__get__") (.ref 136) .none (.ref 135)) := by kernel_rfl
theorem rd_135 (P : Params) : readsIn (KF P) 135 (.type "type") = true := by kernel_rfl
theorem rec_136 (P : Params) : (recIn (KF P) 136 "staticmethod").map (fun l => l.head?) = some (some (.ref 82)) := by kernel_rfl
theorem oi_args4 (a b c d : Value) : argsOk "object.__init__" ⟨[a, b, c, d], []⟩ := by unfold argsOk; kernel_rfl
section
variable {c : Cx} {n : Nat} {cs : List CellAt} {vs : List MV}
theorem CX.matchNew {i j k : Int} : CX c (n + 1) cs vs (.ref 82) [.val (.ref 135), .int i, .int j, .int k] (fun m cs' => m = .mat [.int i, .int j, .int k] ∧ cs' = cs) := by
  refine CX.fnX (vs0 := [.val (.ref 135), .int i, .int j, .int k]) (fn82 c.w) (ok82 _) rfl ["_cls", "a", "b", "size"] [] ["_cls", "a", "b", "size"] ?_ rfl rfl rfl (by decide) (by kernel_rfl) fun L P ok hR _ => ?_
  · refine all4 fun x y z u => ?_
    rfl
  have hR := fun vs' => hR _ cs vs' (asLe.refl _) ⟨rfl, rfl⟩
  refine XS.doc ?_
  refine XS.ret (EVx.ev (EVx.meth (name := "__new__") (mo := .val (.type "tuple")) (EV.bi ok (mem_lu (by kernel_rfl)) (by kernel_rfl) (by kernel_rfl)) GMv.tupleNew (fun _ _ _ _ => .bi _) (by walk_at "m_evs") (CS.matNew (by exact Nat.le_of_ble_eq_true rfl)).cx)) (hR _)
theorem oi_run4 {w : World} {A : Around} {E : Value → Shared → Prop} {s : Shared} {x : Addr} {om : Obj} {u v z : Value} {P : PySem.Fin → Shared → Prop} (X : (KF w.params).In s.heap) (hx : s.heap.get? x = some om) (hc : om.cls = .ref 135) (h : P (.done (.ret .none)) s) :
    wpAny (model pw w) A (Builtin.«object.__init__» ⟨[.ref x, u, v, z], []⟩) P E s := by
  unfold Builtin.«object.__init__»
  dsimp only
  rw [if_pos (by rfl)]
  have ht : Looks (model pw w) s.heap (typeOf (.ref x)) (.ref 135) := by
    have := (Looks.ld (M := model pw w) (part := some headPart) hx).andThen (f := fun o => pure o.cls) .now
    rw [hc] at this; exact this
  refine wpAny_bind (ht.here ?_)
  refine wpAny_bind ((Looks.of_peek X (pk_init _ _)).here ?_)
  refine wpAny_bind ((Looks.of_peek X (pk_madeBy _ _)).here ?_)
  rw [if_neg (by decide), if_neg (by decide)]
  exact wpAny_pure h
theorem CX.newMatch {i j k : Int} : CX c (n + 2) cs vs (.ref 135) [.int i, .int j, .int k] (fun m cs' => m = .mat [.int i, .int j, .int k] ∧ cs' = cs) := .mk fun A K F s Q us hA S d hQ => by
  apply d.threeI; intro u1 u2 u3 d1 d2 d3
  have d : DVs c.w F (adrs cs) [.int i, .int j, .int k] [u1, u2, u3] := .cons d1 (.cons d2 (.cons d3 .nil))
  have X := S.toSF.kf
  have hC := (top135 c.w).get S.toSF
  refine wpAny_call (codeAny_of_tree ?_)
  show wpAny _ _ (callAny (.ref 135) _) _ _ _
  refine nd_load hC ?_
  show wpAny _ _ (callAny.viaDunder (.ref 135) _) _ _ _
  unfold callAny.viaDunder
  refine wpAny_bind ((Looks.of_peek X (pk_call _ _)).here ?_)
  dsimp only
  rw [tc_bind]
  refine wpAny_bind (wpAny_pure (wpAny_bind (wpAny_pure ?_)))
  refine wpAny_pure (a := PySem.Fin.again (.call (.builtin "type.__call__") ⟨[.ref 135, u1, u2, u3], []⟩)) (And.intro rfl ?_)
  refine codeAny_call_builtin_at (Code.quiet_builtin _ (by decide +kernel)) entry_typeCall (@check_slot (model pw c.w) _ _ s "type.__call__" "type" "__call__" (.ref 135) [u1, u2, u3] [] _ tc_kind tc_split (Looks.of_peek X (pk_typ _ _)) (tc_args _ _ _) ?_)
  unfold Builtin.«type.__call__»
  dsimp only
  rw [if_neg (by decide)]
  refine wpAny_bind ((Looks.of_peek X (pk_mro _ _)).here ?_)
  rw [if_neg (by decide)]
  refine wpAny_bind ((Looks.of_peek X (pk_madeBy _ _)).here ?_)
  dsimp only
  refine wpAny_bind ?_
  refine cls_bind X (rd_135 _) (fc_new _) (wpAny_call ?_)
  have hr := rec_136 c.w.params
  obtain ⟨l, hl, hl2⟩ := Option.map_eq_some_iff.mp hr
  cases l with
  | nil => cases hl2
  | cons f rest =>
  cases hl2
  refine sm_get (s := { s with toks := s.toks + 1 }) X hl ?_
  dsimp only
  rw [handedOut_of (by rfl)]
  refine wpAny_pure ?_
  have S1 := S.toks (s.toks + 1)
  refine wpAny_bind (wpAny_holding ?_)
  refine wpAny_noE ((CX.matchNew (c := c) (n := n) (cs := cs) (vs := vs) (i := i) (j := j) (k := k)).go _ K F _ _ [.ref 135, u1, u2, u3] ?_ S1 (.cons (.val _) d) fun F' v s' m cs' l S' d' a' p' => ?_)
  · refine ⟨hA.handled, ?_, ?_⟩
    · have := hA.depth
      show A.depth + 1 + (n + 1) ≤ _
      lia
    · have := hA.units
      show A.units + 1 + 10 * (n + 1) ≤ _
      lia
  · obtain ⟨rfl, rfl⟩ := p'
    have d0 := d'
    cases d' with
    | @mat _ _ x om ws e hm dd =>
    have X' := S'.toSF.kf
    have hx := S'.fz _ _ e
    have ht : Looks (model pw c.w) s'.heap (typeOf (.ref x)) (.ref 135) := by
      have := (Looks.ld (M := model pw c.w) (part := some headPart) hx).andThen (f := fun o => pure o.cls) .now
      rw [hm.1] at this; exact this
    have hi : Looks (model pw c.w) s'.heap (isInstance (.ref x) (.ref 135)) true := by
      unfold isInstance
      exact ht.andThen (Looks.of_peek X' (pk_self _ _))
    have hob : Looks (model pw c.w) s'.heap (isInstance (.ref x) (.type "object")) true := by
      unfold isInstance
      exact ht.andThen (Looks.of_peek X' (pk_obj _ _))
    refine wpAny_bind (hi.here ?_)
    rw [if_neg (by decide)]
    refine wpAny_bind (wpAny_holding ?_)
    unfold callSpecial?
    refine wpAny_bind ((ht.andThen (Looks.of_peek X' (pk_init _ _))).here (t := specialOf _ _) ?_)
    dsimp only
    refine wpAny_holding ?_
    rw [oi_bind]
    refine wpAny_bind (wpAny_pure ?_)
    refine wpAny_bind ?_
    refine wpAny_call (codeAny_call_builtin oi_plain entry_oi (@check_slot (model pw c.w) _ _ s' "object.__init__" "object" "__init__" (.ref x) [u1, u2, u3] [] _ oi_kind oi_split hob (oi_args4 _ _ _ _) ?_))
    refine oi_run4 X' hx hm.1 ?_
    refine wpAny_pure ?_
    dsimp only
    rw [if_neg (by decide)]
    exact wpAny_pure (hQ F' _ s' _ cs' l S' d0 a' ⟨rfl, rfl⟩)
end
end
open PySem PySem.W PySem.W.X PyProof.Rows
section
set_option Elab.async false
set_option linter.unusedVariables false
set_option maxRecDepth 100000
theorem o130_cls (P : Params) : ∃ cd, (B.o_130 P).data = .cls cd := ⟨_, rfl⟩
section
variable {c : Cx} {n : Nat} {cs : List CellAt} {vs : List MV}
theorem callWith_mat {w : World} {A : Around} {s : Shared} {pos : Pos} {args : List (Bool × Sem Value)} {Q : Value → Shared → Prop} (hp : args.any (·.1) = false)
    (h : wpAny (model pw w) A (evalArgs (.ref 135) true args []) (fun x s' => (KF w.params).In s'.heap ∧ s'.heap.get? 135 = some (B.o_130 w.params) ∧ x.kw = [] ∧ wpAny (model pw w) A (call (.ref 135) x.pos) Q NoE s') NoE s) : wpAny (model pw w) A (callWith pos (.ref 135) [] args []) Q NoE s := by
  unfold callWith
  refine wpAny_bind (wpAny_holding (wpAny_mono h (fun x s1 h1 => ?_) fun _ _ x => x))
  obtain ⟨X, hq, hk, h1⟩ := h1
  refine wpAny_bind (wpAny_standAt ?_)
  have hst : (args.any (fun x => x.fst) || ([] : List (Option Str × Sem Value)).any fun x => x.fst.isNone) = false := by rw [hp]; rfl
  rw [hst, hk]
  refine wpAny_bind ?_
  refine wpAny_bind ?_
  refine wpAny_load hq ?_
  obtain ⟨cd, hcd⟩ := o130_cls w.params
  rw [hcd]
  dsimp only
  refine wpAny_bind ((Looks.of_peek X (pk_call _ _)).here ?_)
  rw [if_pos (by decide)]
  refine wpAny_pure ?_
  show wpAny _ _ (call (.ref 135) x.pos [] >>= fun r => holding [r] point >>= fun _ => pure r) _ _ _
  exact wpAny_bind (wpAny_mono h1 (fun r s2 hr => wpAny_bind (wpAny_holding (wpAny_point (wpAny_pure hr)))) fun _ _ x => x)
theorem EV.newMat {x : Str} {p : Pos} {e : Expr} {r : List Expr} {pos : Pos} {i j k : Int} (hf : EV c (n + 2) cs vs (.Name x p) (.val (.ref 135))) (ha : EVs c (n + 2) cs vs (e :: r) [.int i, .int j, .int k])
    (he : starEach (e :: r) c.env = (false, eval e c.env) :: starEach r c.env := by kernel_rfl) (hp : (backTo pos (starEach (e :: r) c.env)).any (·.1) = false := by kernel_rfl) : EV c (n + 2) cs vs (.Call (.Name x p) (e :: r) [] pos) (.mat [.int i, .int j, .int k]) := .mk fun A K F s Q hA hS hQ =>
  PyProof.Rows.Call_ (hf.go A K F s _ hA hS fun F1 u s1 l1 S1 d1 => by
    apply d1.valI
    refine callWith_mat hp ?_
    have := ha.go pos A K F1 s1 (fun us s2 => (KF c.w.params).In s2.heap ∧ s2.heap.get? 135 = some (B.o_130 c.w.params) ∧ wpAny (model pw c.w) A (PySem.call (.ref 135) us) Q NoE s2) hA S1 fun F2 us s2 l2 S2 d2 => ⟨S2.toSF.kf, (top135 c.w).get S2.toSF, (CX.newMatch (n := n)).go A K F2 s2 Q us hA S2 d2 fun F3 v s3 m cs' l3 S3 d3 a3 p3 => by
      obtain ⟨rfl, rfl⟩ := p3
      exact hQ F3 v s3 (l1.trans (l2.trans l3)) S3 d3⟩
    rw [he] at this ⊢
    exact Calls.evalArgs_plain (wpAny_mono this (fun us s' ⟨x, y, z⟩ => ⟨x, y, rfl, z⟩) fun _ _ x => x)) (eval_call _ _ _ _ _)
end
end
open PySem PySem.W PySem.W.X PyProof.Rows
section
set_option Elab.async false
set_option linter.unusedVariables false
/-- a call, told without the frame that it is made from -/
structure CF (w : World) (n : Nat) (cs : List CellAt) (f : Value) (ms : List MV) (P : MV → List CellAt → Prop) : Prop where
  go : ∀ (A : Around) (K : Kp) (F : PH) (s : Shared) (Q : Value → Shared → Prop) (us : List Value), Room n A → SF w K F cs s → DVs w F (adrs cs) ms us →
    (∀ F' v s' mv cs', PH.le F F' → SF w K F' cs' s' → DV w F' (adrs cs') mv v → asLe (adrs cs) (adrs cs') → P mv cs' → Q v s') → wpAny (model pw w) A (call f us) Q NoE s
section
variable {c : Cx} {w : World} {n : Nat} {cs ds : List CellAt} {vs : List MV}
theorem CF.cx {f : Value} {ms : List MV} {P : MV → List CellAt → Prop} (h : CF c.w n cs f ms P) : CX c n cs vs f ms P := .mk fun A K F s Q us hA S d hQ => by
  obtain ⟨oL, eL, S1, back⟩ := S.leave
  exact h.go A (K.hold c.L oL) F s Q us hA S1 d fun F' v s' m cs' l S' d' a' p => hQ F' v s' m cs' l (back K F' cs' s' S.lB (fun m' q => q.mono l a') S') d' a' p
theorem CellR.lowC {as bs : List Addr} {F : PH} {h : Heap} {x : CellAt} (hb : x.c.lowC as.length = true) (hx : CellR w F (as ++ bs) h x) : CellR w F as h x := by
  obtain ⟨a, mo, c⟩ := x
  cases c with
  | inst ns us =>
    obtain ⟨mA, d, o, e1, e2, e3, e4, e5, e6, e7⟩ := hx
    exact ⟨mA, d, o, e1, e2, e3, e4, e5.lowC hb, e6, e7⟩
  | list ys => exact hx
  | idict f n => exact hx
  | bj f n p => exact hx
  | dead => trivial
theorem DVs.lowC {as bs : List Addr} {F : PH} {ms : List MV} {us : List Value} (d : DVs w F (as ++ bs) ms us) (h : ms.all (MV.lowC as.length) = true) : DVs w F as ms us := by
  induction ms generalizing us with
  | nil => apply d.nilI; exact .nil
  | cons m ms ih =>
    have h := Bool.and_eq_true_iff.mp h
    apply d.consI; intro v vs a b; exact .cons (a.lowC h.1) (ih b h.2)
/-- other cells stand by -/
theorem CF.wide {f : Value} {ms : List MV} {P : MV → List CellAt → Prop} (h : CF w n cs f ms P) (hl : ∀ m cs', P m cs' → cs'.length = cs.length) (hc : cs.all (fun x => x.c.lowC cs.length) = true) (hm : ms.all (MV.lowC cs.length) = true) :
    CF w n (cs ++ ds) f ms (fun m cs' => ∃ cs1, cs' = cs1 ++ ds ∧ P m cs1) := .mk fun A K F s Q us hA S d hQ => by
  have hlen : (adrs cs).length = cs.length := List.length_map _
  have hnd := S.nd
  rw [foots_app] at hnd
  obtain ⟨hn1, hn2, hn3⟩ := List.nodup_append.mp hnd
  have hap1 : ∀ a ∈ foots cs, F a = none ∧ K.B a = none ∧ ∃ o, s.heap.get? a = some o := fun a ha => S.ap a (by rw [foots_app]; exact List.mem_append_left _ ha)
  have hap2 : ∀ a ∈ foots ds, F a = none ∧ K.B a = none ∧ ∃ o, s.heap.get? a = some o := fun a ha => S.ap a (by rw [foots_app]; exact List.mem_append_right _ ha)
  obtain ⟨K2, hK2⟩ : ∃ K2 : Kp, K2 = { K with B := fun a => if a ∈ foots ds then s.heap.get? a else K.B a } := ⟨_, rfl⟩
  have hin : ∀ a, a ∈ foots ds → K2.B a = s.heap.get? a := fun a ha => by rw [hK2]; exact if_pos ha
  have hout : ∀ a, a ∉ foots ds → K2.B a = K.B a := fun a ha => by rw [hK2]; exact if_neg ha
  have hG : K2.G = K.G := by rw [hK2]
  have ho : K2.o = K.o := by rw [hK2]
  have S1 : SF w K2 F cs s := by
    refine ⟨S.fz, fun a o e => ?_, fun x hx => ?_, hn1, fun a ha => ⟨(hap1 a ha).1, ?_, (hap1 a ha).2.2⟩, fun a o e => ?_, S.top, hG ▸ S.gens, ho ▸ S.os⟩
    · by_cases z : a ∈ foots ds
      · rw [hin a z] at e; exact e
      · rw [hout a z] at e; exact S.kp a o e
    · have := S.cl x (List.mem_append_left _ hx)
      rw [adrs_app] at this
      exact this.lowC (by rw [hlen]; exact List.all_eq_true.mp hc x hx)
    · rw [hout a fun z => hn3 a ha a z rfl]; exact (hap1 a ha).2.1
    · rw [hout a fun z => by have := (hap2 a z).1; rw [e] at this; cases this]; exact S.fb a o e
  have d1 : DVs w F (adrs cs) ms us := by
    rw [adrs_app] at d
    exact d.lowC (by rw [hlen]; exact hm)
  refine h.go A K2 F s Q us hA S1 d1 fun F' v s' m cs1 l S' d' a' p => ?_
  have hlc := hl m cs1 p
  have hadr : adrs cs1 = adrs cs := by
    refine List.ext_getElem? fun i => ?_
    by_cases z : i < (adrs cs).length
    · have := a' i _ (List.getElem?_eq_getElem z)
      rw [this, List.getElem?_eq_getElem z]
    · have z1 : (adrs cs1).length = cs1.length := List.length_map _
      rw [List.getElem?_eq_none (by omega), List.getElem?_eq_none (by omega)]
  have hK : ∀ a, a ∈ foots ds → ∃ o, K2.B a = some o ∧ s.heap.get? a = some o := fun a ha => by
    obtain ⟨o, e⟩ := (hap2 a ha).2.2
    exact ⟨o, (hin a ha).trans e, e⟩
  have hb : ∀ a, K2.B a = none → a ∉ foots ds ∧ K.B a = none := fun a e => by
    have z : a ∉ foots ds := fun z => by obtain ⟨o, e1, _⟩ := hK a z; rw [e] at e1; cases e1
    exact ⟨z, by rw [← hout a z]; exact e⟩
  have S2 : SF w K F' (cs1 ++ ds) s' := by
    refine ⟨S'.fz, fun a o e => ?_, fun x hx => ?_, ?_, fun a ha => ?_, fun a o e => (hb a (S'.fb a o e)).2, S'.top, hG ▸ S'.gens, ho ▸ S'.os⟩
    · refine S'.kp a o ?_
      rw [hout a fun z => by have := (hap2 a z).2.1; rw [e] at this; cases this]; exact e
    · rcases List.mem_append.mp hx with hx | hx
      · rw [adrs_app]; exact (S'.cl x hx).mono (PH.le.refl _) (asLe.app _ _) fun _ _ _ e => e
      · have := S.cl x (List.mem_append_right _ hx)
        refine this.mono l (by rw [adrs_app, adrs_app, hadr]; exact asLe.refl _) fun b hb o e => S'.kp b o ?_
        rw [hin b (mem_foots hx hb)]; exact e
    · rw [foots_app, List.nodup_append]
      exact ⟨S'.nd, hn2, fun a ha b hb' e => by subst e; exact (hb a (S'.ap a ha).2.1).1 hb'⟩
    · rw [foots_app] at ha
      rcases List.mem_append.mp ha with ha | ha
      · exact ⟨(S'.ap a ha).1, (hb a (S'.ap a ha).2.1).2, (S'.ap a ha).2.2⟩
      · obtain ⟨o, e1, e2⟩ := hK a ha
        refine ⟨?_, (hap2 a ha).2.1, o, S'.kp a o e1⟩
        cases q : F' a with
        | none => rfl
        | some o' => have := S'.fb a o' q; rw [e1] at this; cases this
  exact hQ F' v s' m (cs1 ++ ds) l S2 (d'.mono (PH.le.refl _) (by rw [adrs_app]; exact asLe.app _ _)) (by rw [adrs_app, adrs_app, hadr]; exact asLe.refl _) ⟨cs1, rfl, p⟩
theorem CF.fnD {a cc : Addr} {o : Obj} (f : IsFn w a cc o) (hok : fnOk o = true) (hgen : (funcOf o).scope.isGenerator = false) (ps rest xs0 : List Str) (K0 : Frag) (ds : List Value) {ms dms vs0 : List MV} {R : MV → List CellAt → Prop}
    (hK : ∀ p ∈ K0, IsTop w p.1 p.2) (hds : ∀ F as, DVs w F as dms ds)
    (hb : ∀ (us : List Value) (S : Setting), us.length = ms.length → peek K0 S (bindArgs (funcOf o) ⟨us, []⟩) = some (ps.zip (us ++ ds))) (hlen : ps.length = (ms ++ dms).length) (hxs : ps ++ rest = xs0) (hvs : (ms ++ dms) ++ List.replicate rest.length .unb = vs0) (hnd : xs0.Nodup)
    (hloc : ps.all (fun x => match (funcOf o).scope.names.lookup x with | some .local => true | _ => false) = true)
    (h : ∀ L P, CxOk (FnCx w a o L xs0) → (∀ m cs' vs', asLe (adrs cs) (adrs cs') → R m cs' → P (.ret m) cs' vs') → (∀ cs' vs', asLe (adrs cs) (adrs cs') → R .none cs' → P .next cs' vs') → XS (FnCx w a o L xs0) n cs vs0 [bodyOf o] P) : CF w (n + 1) cs (.ref a) ms R := .mk fun A K F s Q us hA S d hQ => by
  have hx := fun L => XS.of (h L (fun fl cs' _ => asLe (adrs cs) (adrs cs') ∧ ∃ m, (fl = .ret m ∨ (fl = .next ∧ m = .none)) ∧ R m cs') (f.ok hok hnd) (fun m cs' vs' ha hr => ⟨ha, m, .inl rfl, hr⟩) (fun cs' vs' ha hr => ⟨ha, .none, .inr ⟨rfl, rfl⟩, hr⟩))
  subst hxs; subst hvs
  have hl := d.length
  have hd2 : DVs w F (adrs cs) (ms ++ dms) (us ++ ds) := d.append (hds F (adrs cs))
  refine wpAny_call (call_fn f hgen (n := n) hA S (ps := ps) (us := us ++ ds) (rest := rest) (fun Q' hQ' => kp_binds (frag_in hK S) (fun S => hb us S hl.symm) _ _ _ _ hQ') hd2 (by rw [hlen, hd2.length]) (List.nodup_append.mp hnd).1 (fun x hx => by
    have := List.all_eq_true.mp hloc x hx
    refine mem_lu ?_
    cases q : (funcOf o).scope.names.lookup x with
    | none => rw [q] at this; cases this
    | some kd => rw [q] at this; cases kd <;> first | rfl | cases this) (fnOk.nd hok) fun L s1 S2 => ?_)
  refine (hx L).go _ K F s1 _ ⟨hA.handled, by have := hA.depth; show A.depth + 1 + n ≤ _; omega, by have := hA.units; show A.units + 3 + 10 * n ≤ _; omega⟩ S2 fun F' fl s2 fl' cs' vs' l S3 r p => ?_
  obtain ⟨ha, m, hm, p⟩ := p
  have S4 := S3.toSF
  rcases hm with rfl | ⟨rfl, rfl⟩
  · cases r with
    | ret dv => exact hQ F' _ s2 m cs' l S4 dv ha p
  · cases r with
    | next => exact hQ F' _ s2 .none cs' l S4 .none ha p
end
end
open PySem PySem.W PySem.W.X PyProof.Rows
section
set_option Elab.async false
set_option linter.unusedVariables false
section
variable {c : Cx} {n : Nat} {cs : List CellAt} {vs : List MV} {r : List Stmt} {k : List (List Stmt)} {P : Fl → List CellAt → List MV → Prop}
/-- loops whose state is told by a record of what changes (σ): no invariant is taken apart -/
theorem XS.whileG {σ : Type} (cf : σ → List CellAt) (vf : σ → List MV) (J E : σ → Prop) (μ : σ → Nat) {test : Expr} {body : List Stmt} {pos : Pos} (g0 : σ) (h0 : J g0)
    (turn : ∀ g, J g → ∃ b, TV c n (cf g) (vf g) test b ∧ (b = true → ∀ PP : Fl → List CellAt → List MV → Prop, (∀ g', J g' → μ g' < μ g → PP .next (cf g') (vf g')) → XS c n (cf g) (vf g) [body] PP) ∧ (b = false → E g))
    (hB : ∀ g, J g → E g → XS c n (cf g) (vf g) (r :: k) P) : XS c n (cf g0) (vf g0) ((.While test body [] pos :: r) :: k) P :=
  XS.while (fun m cs vs => ∃ g, J g ∧ μ g = m ∧ cs = cf g ∧ vs = vf g) (fun cs vs => ∃ g, J g ∧ E g ∧ cs = cf g ∧ vs = vf g) (μ g0) ⟨g0, h0, rfl, rfl, rfl⟩ (fun _ _ ⟨g, h, e, ec, ev⟩ => ec ▸ ev ▸ hB g h e) fun j cs vs ⟨g, h, hm, ec, ev⟩ => by
    subst hm ec ev
    obtain ⟨b, h1, h2, h3⟩ := turn g h
    exact ⟨b, h1, fun e => h2 e _ fun g' h' hl => ⟨μ g', hl, g', h', rfl, rfl, rfl⟩, fun e => ⟨g, h, h3 e, rfl, rfl⟩⟩
theorem XS.forLG {σ : Type} (cf : σ → List CellAt) (vf : σ → List MV) (J : Nat → σ → Prop) (B : σ → Prop) {t iter : Expr} {body : List Stmt} {pos : Pos} {items : List MV} (g0 : σ) (hi : EV c n (cf g0) (vf g0) iter (.list items)) (h0 : J 0 g0) (hend : ∀ g, J items.length g → B g)
    (turn : ∀ i x g, items[i]? = some x → J i g → ∃ vs1, AS c n (cf g) (vf g) t x vs1 ∧ ∀ PP : Fl → List CellAt → List MV → Prop, (∀ g', J (i + 1) g' → PP .next (cf g') (vf g') ∧ PP .cont (cf g') (vf g')) → (∀ g', B g' → PP .brk (cf g') (vf g')) → XS c n (cf g) vs1 [body] PP)
    (hB : ∀ g, B g → XS c n (cf g) (vf g) (r :: k) P)
    (hs : ∀ x, foldedSetIterable iter c.env x = pure x := by intro _; kernel_rfl) : XS c n (cf g0) (vf g0) ((.For t iter body [] pos :: r) :: k) P :=
  XS.forL (fun m cs vs => ∃ g, J m g ∧ cs = cf g ∧ vs = vf g) (fun cs vs => ∃ g, B g ∧ cs = cf g ∧ vs = vf g) hi ⟨g0, h0, rfl, rfl⟩ (fun _ _ ⟨g, h, ec, ev⟩ => ⟨g, hend g h, ec, ev⟩) (fun _ _ ⟨g, h, ec, ev⟩ => ec ▸ ev ▸ hB g h) (fun i x cs vs hx ⟨g, h, ec, ev⟩ => by
    subst ec ev
    obtain ⟨vs1, h1, h2⟩ := turn i x g hx h
    exact ⟨vs1, h1, h2 _ (fun g' h' => ⟨⟨g', h', rfl, rfl⟩, ⟨g', h', rfl, rfl⟩⟩) fun g' h' => ⟨g', h', rfl, rfl⟩⟩) hs
theorem XS.forRG {σ : Type} (cf : σ → List CellAt) (vf : σ → List MV) (J : Int → σ → Prop) {t : Expr} {x : Str} {p : Pos} {e1 e2 : Expr} {ipos pos : Pos} {body : List Stmt} {a b : Int} (g0 : σ)
    (hf : EV c n (cf g0) (vf g0) (.Name x p) (.val (.type "range"))) (ha : EVs c n (cf g0) (vf g0) [e1, e2] [.int a, .int b]) (hab : a ≤ b) (h1 : -100000 ≤ a) (h2 : b ≤ 100000) (h0 : J a g0)
    (turn : ∀ i g, a ≤ i → i < b → J i g → ∃ vs1, AS c n (cf g) (vf g) t (.int i) vs1 ∧ ∀ PP : Fl → List CellAt → List MV → Prop, (∀ g', J (i + 1) g' → PP .next (cf g') (vf g')) → XS c n (cf g) vs1 [body] PP)
    (hB : ∀ g, J b g → XS c n (cf g) (vf g) (r :: k) P)
    (hs : ∀ x', foldedSetIterable (.Call (.Name x p) [e1, e2] [] ipos) c.env x' = pure x' := by intro _; kernel_rfl)
    (he : starEach [e1, e2] c.env = (false, eval e1 c.env) :: starEach [e2] c.env := by kernel_rfl) (hp : (backTo ipos (starEach [e1, e2] c.env)).any (·.1) = false := by kernel_rfl) : XS c n (cf g0) (vf g0) ((.For t (.Call (.Name x p) [e1, e2] [] ipos) body [] pos :: r) :: k) P :=
  XS.forR (fun m cs vs => ∃ g, J m g ∧ cs = cf g ∧ vs = vf g) (fun cs vs => ∃ g, J b g ∧ cs = cf g ∧ vs = vf g) hf ha hab h1 h2 ⟨g0, h0, rfl, rfl⟩ (fun _ _ h => h) (fun _ _ ⟨g, h, ec, ev⟩ => ec ▸ ev ▸ hB g h) (fun i cs vs y1 y2 ⟨g, h, ec, ev⟩ => by
    subst ec ev
    obtain ⟨vs1, h1, h2⟩ := turn i g y1 y2 h
    exact ⟨vs1, h1, h2 _ fun g' h' => ⟨g', h', rfl, rfl⟩⟩) hs he hp
end
end
local macro_rules | `(tactic| walk_at "m_putn") => `(tactic| first
  | exact PutsN.nil
  | exact PutsN.cons (mem_lu (by kernel_rfl)) (by walk_at "m_at") (by walk_at "m_putn"))
open PySem PySem.W PySem.W.X PyProof.Rows
section
set_option Elab.async false
set_option linter.unusedVariables false
set_option maxRecDepth 100000
set_option maxHeartbeats 1000000
noncomputable def smC2 (x d : Addr) (a b : List Str) (mb op : MV) : CellAt := ⟨x, [d], .inst ["isjunk", "a", "b", "autojunk", "matching_blocks", "opcodes", "fullbcount", "b2j", "bjunk", "bpopular"] [.none, mstrs a, mstrs b, .bool true, mb, op, .none, .sdict (b2jN b b.length), .set0, .set0]⟩
theorem fn196 (w : World) : IsFn w 196 195 (B.o_269 w.params) := IsFn.of (oc := B.o_268 w.params) (by kernel_rfl) (isTop (by kernel_rfl)) rfl (isTop (by kernel_rfl)) rfl rfl
theorem ok196 (P : Params) : fnOk (B.o_269 P) = true := by kernel_rfl
theorem b2jN_spec (b : List Str) (x : Str) : ∀ i, (∀ j ∈ (b2jN b i x).getD [], 0 ≤ j ∧ j < i ∧ b[j.toNat]? = some x) ∧ ((b2jN b i x).getD []).Pairwise (· < ·) ∧ (∀ j : Nat, j < i → b[j]? = some x → (j : Int) ∈ (b2jN b i x).getD [])
  | 0 => ⟨fun j h => by simp [b2jN] at h, by simp [b2jN], fun j h => by lia⟩
  | i + 1 => by
    obtain ⟨h1, h2, h3⟩ := b2jN_spec b x i
    cases q : b[i]? with
    | none =>
      have hN : b2jN b (i + 1) = b2jN b i := by
        show (match b[i]? with | some x => _ | none => _) = _
        rw [q]
      rw [hN]
      refine ⟨fun j hj => ?_, h2, fun j hj e => ?_⟩
      · have := h1 j hj; exact ⟨this.1, by lia, this.2.2⟩
      · refine h3 j ?_ e
        rcases Nat.lt_succ_iff_lt_or_eq.mp hj with h | h
        · exact h
        · rw [h, q] at e; cases e
    | some y =>
      have hN' : b2jN b (i + 1) = upd (b2jN b i) y ((b2jN b i y).getD [] ++ [(i : Int)]) := by
        show (match b[i]? with | some x => _ | none => _) = _
        rw [q]
      have hN : b2jN b (i + 1) x = if x = y then some ((b2jN b i y).getD [] ++ [(i : Int)]) else b2jN b i x := by rw [hN']; rfl
      rw [hN]
      by_cases z : x = y
      · subst z
        rw [if_pos rfl, Option.getD_some]
        refine ⟨fun j hj => ?_, ?_, fun j hj e => ?_⟩
        · rcases List.mem_append.mp hj with hj | hj
          · have := h1 j hj; exact ⟨this.1, by lia, this.2.2⟩
          · rw [List.mem_singleton.mp hj]; exact ⟨by lia, by lia, by simpa using q⟩
        · rw [List.pairwise_append]
          exact ⟨h2, List.pairwise_singleton _ _, fun j hj k hk => by rw [List.mem_singleton.mp hk]; exact (h1 j hj).2.1⟩
        · rcases Nat.lt_succ_iff_lt_or_eq.mp hj with h | h
          · exact List.mem_append_left _ (h3 j h e)
          · rw [h]; exact List.mem_append_right _ (.head _)
      · rw [if_neg z]
        refine ⟨fun j hj => ?_, h2, fun j hj e => ?_⟩
        · have := h1 j hj; exact ⟨this.1, by lia, this.2.2⟩
        · refine h3 j ?_ e
          rcases Nat.lt_succ_iff_lt_or_eq.mp hj with h | h
          · exact h
          · rw [h, q] at e; cases e; exact absurd rfl z
noncomputable def eqAt (a b : List Str) (i j : Int) : Prop := 0 ≤ i ∧ 0 ≤ j ∧ ∃ x, a[i.toNat]? = some x ∧ b[j.toNat]? = some x
/-- a match -/
structure Mt (a b : List Str) (alo ahi blo bhi i j k : Int) : Prop where
  i0 : alo ≤ i
  i1 : i + k ≤ ahi
  j0 : blo ≤ j
  j1 : j + k ≤ bhi
  k0 : 0 ≤ k
  eq : ∀ t, 0 ≤ t → t < k → eqAt a b (i + t) (j + t)
/-- the two parts are alike -/
noncomputable def Dg (a b : List Str) (alo ahi blo bhi : Int) : Prop := bhi - blo = ahi - alo ∧ ∀ t, 0 ≤ t → t < ahi - alo → eqAt a b (alo + t) (blo + t)
noncomputable def Rw (a b : List Str) (alo blo bhi i : Int) (f : Int → Option Int) : Prop := ∀ j v, f j = some v → 1 ≤ v ∧ alo ≤ i - v ∧ blo ≤ j + 1 - v ∧ j < bhi ∧ ∀ t, 0 ≤ t → t < v → eqAt a b (i - 1 - t) (j - t)
noncomputable def DgRow (a b : List Str) (alo ahi blo bhi i : Int) (f : Int → Option Int) (bk : Int) : Prop := Dg a b alo ahi blo bhi → (alo < i → f (blo + (i - 1 - alo)) = some (i - alo)) ∧ i - alo ≤ bk
theorem row_new {a b : List Str} {alo blo bhi i j : Int} {f : Int → Option Int} (hf : Rw a b alo blo bhi i f) (he : eqAt a b i j) (hi : alo ≤ i) (hj : blo ≤ j) :
    1 ≤ (f (j - 1)).getD 0 + 1 ∧ alo ≤ i + 1 - ((f (j - 1)).getD 0 + 1) ∧ blo ≤ j + 1 - ((f (j - 1)).getD 0 + 1) ∧ ∀ t, 0 ≤ t → t < (f (j - 1)).getD 0 + 1 → eqAt a b (i + 1 - 1 - t) (j - t) := by
  cases q : f (j - 1) with
  | none =>
    simp only [Option.getD_none]
    refine ⟨by lia, by lia, by lia, fun t h h' => ?_⟩
    have : t = 0 := by lia
    subst this
    simpa using he
  | some v =>
    obtain ⟨p1, p2, p3, p4, p5⟩ := hf _ _ q
    simp only [Option.getD_some]
    refine ⟨by lia, by lia, by lia, fun t h h' => ?_⟩
    by_cases ht : t = 0
    · subst ht; simpa using he
    · have := p5 (t - 1) (by lia) (by lia)
      rw [show i + 1 - 1 - t = i - 1 - (t - 1) by lia, show j - t = j - 1 - (t - 1) by lia]
      exact this
theorem rw_upd {a b : List Str} {alo blo bhi i j v : Int} {g : Int → Option Int} (hg : Rw a b alo blo bhi i g) (h1 : 1 ≤ v) (h2 : alo ≤ i - v) (h3 : blo ≤ j + 1 - v) (h4 : j < bhi) (h5 : ∀ t, 0 ≤ t → t < v → eqAt a b (i - 1 - t) (j - t)) : Rw a b alo blo bhi i (updI g j v) := by
  intro j' v' h
  unfold updI at h
  by_cases q : j' = j
  · rw [if_pos q] at h; cases h; subst q; exact ⟨h1, h2, h3, h4, h5⟩
  · rw [if_neg q] at h; exact hg j' v' h
theorem mt_new {a b : List Str} {alo blo bhi i j v : Int} (h1 : 1 ≤ v) (h2 : alo ≤ i + 1 - v) (h3 : blo ≤ j + 1 - v) (h4 : j < bhi) (h5 : ∀ t, 0 ≤ t → t < v → eqAt a b (i + 1 - 1 - t) (j - t)) : Mt a b alo (i + 1) blo bhi (i - v + 1) (j - v + 1) v :=
  ⟨by lia, by lia, by lia, by lia, by lia, fun t ht ht' => by
    have := h5 (v - 1 - t) (by lia) (by lia)
    rw [show i + 1 - 1 - (v - 1 - t) = i - v + 1 + t by lia, show j - (v - 1 - t) = j - v + 1 + t by lia] at this
    exact this⟩
theorem Mt.wide {a b : List Str} {alo ahi ahi' blo bhi i j k : Int} (h : Mt a b alo ahi blo bhi i j k) (hh : ahi ≤ ahi') : Mt a b alo ahi' blo bhi i j k := ⟨h.i0, by have := h.i1; lia, h.j0, h.j1, h.k0, h.eq⟩
theorem dg_val {a b : List Str} {alo ahi blo bhi i : Int} {f : Int → Option Int} {bk : Int} (hf : Rw a b alo blo bhi i f) (hd : DgRow a b alo ahi blo bhi i f bk) (hg : Dg a b alo ahi blo bhi) (hi : alo ≤ i) : (f (blo + (i - alo) - 1)).getD 0 + 1 = i + 1 - alo := by
  by_cases h : alo < i
  · have := (hd hg).1 h
    rw [show blo + (i - alo) - 1 = blo + (i - 1 - alo) by lia, this]
    simp only [Option.getD_some]; lia
  · have e : i = alo := by lia
    cases q : f (blo + (i - alo) - 1) with
    | none => simp only [Option.getD_none]; lia
    | some v => obtain ⟨p1, p2, p3, _⟩ := hf _ _ q; lia
theorem mem_take_of_lt {js : List Int} (hp : js.Pairwise (· < ·)) {e j : Int} {m : Nat} (he : e ∈ js) (hj : js[m]? = some j) (hlt : e < j) : e ∈ js.take m := by
  obtain ⟨hm, hjm⟩ := List.getElem?_eq_some_iff.mp hj
  have hs : js = js.take m ++ js.drop m := (List.take_append_drop m js).symm
  rw [hs] at he hp
  rcases List.mem_append.mp he with h | h
  · exact h
  · exfalso
    have hd : js.drop m = j :: js.drop (m + 1) := by rw [List.drop_eq_getElem_cons hm, hjm]
    rw [hd] at h hp
    rcases List.mem_cons.mp h with h | h
    · lia
    · have := (List.pairwise_cons.mp (List.pairwise_append.mp hp).2.1).1 e h
      lia
theorem take_succ_mem {js : List Int} {m : Nat} {j e : Int} (hj : js[m]? = some j) (he : e ∈ js.take (m + 1)) : e ∈ js.take m ∨ e = j := by
  rw [List.take_add_one, hj] at he
  simpa using he
theorem getS {a : List Str} {i : Nat} (h : i < a.length) : (a.map MV.str)[i]? = some (.str (a[i]?.getD Str.empty)) := by
  rw [List.getElem?_map, List.getElem?_eq_getElem h]; rfl
theorem mt_left {a b : List Str} {alo ahi blo bhi i j k : Int} (h : Mt a b alo ahi blo bhi i j k) (h1 : alo < i) (h2 : blo < j) (he : eqAt a b (i - 1) (j - 1)) : Mt a b alo ahi blo bhi (i - 1) (j - 1) (k + 1) :=
  ⟨by lia, by have := h.i1; lia, by lia, by have := h.j1; lia, by have := h.k0; lia, fun t ht ht' => by
    by_cases q : t = 0
    · subst q; simpa using he
    · have := h.eq (t - 1) (by lia) (by lia)
      rw [show i - 1 + t = i + (t - 1) by lia, show j - 1 + t = j + (t - 1) by lia]; exact this⟩
theorem mt_right {a b : List Str} {alo ahi blo bhi i j k : Int} (h : Mt a b alo ahi blo bhi i j k) (h1 : i + k < ahi) (h2 : j + k < bhi) (he : eqAt a b (i + k) (j + k)) : Mt a b alo ahi blo bhi i j (k + 1) :=
  ⟨h.i0, by lia, h.j0, by lia, by have := h.k0; lia, fun t ht ht' => by
    by_cases q : t = k
    · subst q; exact he
    · exact h.eq t ht (by lia)⟩
theorem eqAt_of {a b : List Str} {i j : Int} (h1 : 0 ≤ i) (h2 : i < a.length) (h3 : 0 ≤ j) (h4 : j < b.length) (e : a[i.toNat]?.getD Str.empty = b[j.toNat]?.getD Str.empty) : eqAt a b i j := by
  refine ⟨h1, h3, a[i.toNat], List.getElem?_eq_getElem (by lia), ?_⟩
  rw [List.getElem?_eq_getElem (by lia : i.toNat < a.length), List.getElem?_eq_getElem (by lia : j.toNat < b.length)] at e
  rw [List.getElem?_eq_getElem (by lia : j.toNat < b.length)]
  exact congrArg some e.symm
/-- what changes in the loops of find_longest_match -/
structure FlG where
  f : Int → Option Int
  bi : Int
  bj : Int
  bk : Int
noncomputable abbrev flC (x d : Addr) (a b : List Str) (_ : FlG) : List CellAt := [smC2 x d a b .none .junk]
noncomputable abbrev flV (a b : List Str) (alo ahi blo bhi : Int) (g : FlG) : List MV := [.cell 0, .int alo, .int ahi, .int blo, .int bhi, mstrs a, mstrs b, .sdict (b2jN b b.length), .bm "set.__contains__" .set0, .int g.bi, .int g.bj, .int g.bk, .idict g.f, .list [], .unb, .unb, .unb, .unb, .unb]
structure FlJ (a b : List Str) (alo ahi blo bhi i : Int) (g : FlG) : Prop where
  rw : Rw a b alo blo bhi i g.f
  mt : Mt a b alo i blo bhi g.bi g.bj g.bk
  dg : DgRow a b alo ahi blo bhi i g.f g.bk
structure FlW (a b : List Str) (alo ahi blo bhi : Int) (g : FlG) : Prop where
  mt : Mt a b alo ahi blo bhi g.bi g.bj g.bk
  dg : Dg a b alo ahi blo bhi → ahi - alo ≤ g.bk
structure FlH where
  g : Int → Option Int
  w : Nat
  bi : Int
  bj : Int
  bk : Int
  mj : MV
  ml : MV
noncomputable abbrev flC1 (x d : Addr) (a b : List Str) (y : Addr) (h : FlH) : List CellAt := [smC2 x d a b .none .junk, ⟨y, [], .idict h.g h.w⟩]
noncomputable abbrev flV1 (a b : List Str) (alo ahi blo bhi i : Int) (f : Int → Option Int) (h : FlH) : List MV := [.cell 0, .int alo, .int ahi, .int blo, .int bhi, mstrs a, mstrs b, .sdict (b2jN b b.length), .bm "set.__contains__" .set0, .int h.bi, .int h.bj, .int h.bk, .idict f, .list [], .int i, .bm "dict.get" (.idict f), .cell 1, h.mj, h.ml]
structure FlI (a b : List Str) (alo ahi blo bhi i : Int) (js : List Int) (m : Nat) (h : FlH) : Prop where
  rw : Rw a b alo blo bhi (i + 1) h.g
  mt : Mt a b alo (i + 1) blo bhi h.bi h.bj h.bk
  wm : h.w ≤ m
  dg : Dg a b alo ahi blo bhi → (blo + (i - alo) ∈ js.take m → h.g (blo + (i - alo)) = some (i + 1 - alo) ∧ i + 1 - alo ≤ h.bk) ∧ i - alo ≤ h.bk
structure FlE (a b : List Str) (alo ahi blo bhi i : Int) (h : FlH) : Prop where
  rw : Rw a b alo blo bhi (i + 1) h.g
  mt : Mt a b alo (i + 1) blo bhi h.bi h.bj h.bk
  dg : DgRow a b alo ahi blo bhi (i + 1) h.g h.bk
theorem js_at {a b : List Str} {i : Int} {z : Str} (hz : a[i.toNat]? = some z) (h : 0 ≤ i) : ∀ j, j ∈ (b2jN b b.length z).getD [] → eqAt a b i j := fun j hj =>
  have t := (b2jN_spec b z b.length).1 j hj
  ⟨h, t.1, z, hz, t.2.2⟩
theorem js_in {a b : List Str} {alo ahi blo bhi i : Int} {z : Str} (hz : a[i.toNat]? = some z) (h1 : 0 ≤ alo) (hi : alo ≤ i) (hi' : i < ahi) (h4 : 0 ≤ blo) (hg : Dg a b alo ahi blo bhi) : blo + (i - alo) ∈ (b2jN b b.length z).getD [] := by
  obtain ⟨_, _, y, e1, e2⟩ := hg.2 (i - alo) (by lia) (by lia)
  rw [show alo + (i - alo) = i by lia, hz] at e1
  cases e1
  have := (b2jN_spec b z b.length).2.2 (blo + (i - alo)).toNat (List.getElem?_eq_some_iff.mp e2).1 e2
  rw [show (((blo + (i - alo)).toNat : Nat) : Int) = blo + (i - alo) by lia] at this
  exact this
theorem js_len {b : List Str} (z : Str) (hz : b.length ≤ 100) : ((b2jN b b.length z).getD []).length ≤ 100 := by
  cases q : b2jN b b.length z with
  | none => exact Nat.zero_le _
  | some is => exact Nat.le_trans (b2jN_len b _ z is q) hz
theorem map_at2 {js : List Int} {m : Nat} {v : MV} (h : (js.map MV.int)[m]? = some v) : ∃ j, js[m]? = some j ∧ v = .int j := by
  rw [List.getElem?_map] at h
  cases hj : js[m]? with
  | none => rw [hj] at h; cases h
  | some j => rw [hj] at h; cases h; exact ⟨j, rfl, rfl⟩
theorem fl_fin {a b : List Str} {alo ahi blo bhi i j kk : Int} {js : List Int} {m : Nat} {h : FlH} (hj : js[m]? = some j) (hval : Dg a b alo ahi blo bhi → blo + (i - alo) = j → kk = i + 1 - alo)
    (r3 : Dg a b alo ahi blo bhi → (blo + (i - alo) ∈ js.take m → h.g (blo + (i - alo)) = some (i + 1 - alo) ∧ i + 1 - alo ≤ h.bk) ∧ i - alo ≤ h.bk) (bk' : Int) (hb1 : h.bk ≤ bk') (hb2 : kk ≤ bk') (hg : Dg a b alo ahi blo bhi) :
    (blo + (i - alo) ∈ js.take (m + 1) → updI h.g j kk (blo + (i - alo)) = some (i + 1 - alo) ∧ i + 1 - alo ≤ bk') ∧ i - alo ≤ bk' := by
  refine ⟨fun hin => ?_, Int.le_trans (r3 hg).2 hb1⟩
  unfold updI
  by_cases e : blo + (i - alo) = j
  · rw [if_pos e]
    have := hval hg e
    exact ⟨by rw [this], by lia⟩
  · rw [if_neg e]
    rcases take_succ_mem hj hin with hin | e'
    · have := (r3 hg).1 hin
      exact ⟨this.1, Int.le_trans this.2 hb1⟩
    · exact absurd e' e
section
variable {w : World} {n : Nat}
theorem CF.flm {x d : Addr} {a b : List Str} {alo ahi blo bhi : Int} (hza : a.length ≤ 100) (hz : b.length ≤ 100) (h1 : 0 ≤ alo) (h2 : alo ≤ ahi) (h3 : ahi ≤ a.length) (h4 : 0 ≤ blo) (h5 : blo ≤ bhi) (h6 : bhi ≤ b.length) :
    CF w (n + 8) [smC2 x d a b .none .junk] (.ref 196) [.cell 0, .int alo, .int ahi, .int blo, .int bhi]
    (fun m cs' => cs' = [smC2 x d a b .none .junk] ∧ ∃ i j k, m = .mat [.int i, .int j, .int k] ∧ Mt a b alo ahi blo bhi i j k ∧ (Dg a b alo ahi blo bhi → k = ahi - alo)) := by
  refine CF.fnD (n := n + 7) (dms := []) (vs0 := [.cell 0, .int alo, .int ahi, .int blo, .int bhi, .unb, .unb, .unb, .unb, .unb, .unb, .unb, .unb, .unb, .unb, .unb, .unb, .unb, .unb]) (fn196 w) (ok196 _) rfl ["self", "alo", "ahi", "blo", "bhi"] ["a", "b", "b2j", "isbjunk", "besti", "bestj", "bestsize", "j2len", "nothing", "i", "j2lenget", "newj2len", "j", "k"]
    ["self", "alo", "ahi", "blo", "bhi", "a", "b", "b2j", "isbjunk", "besti", "bestj", "bestsize", "j2len", "nothing", "i", "j2lenget", "newj2len", "j", "k"] [(189, B.o_262 w.params)] [] ?_ ?_ ?_ rfl rfl rfl (by decide) (by kernel_rfl) fun L P ok hR _ => ?_
  · intro p hp
    rw [List.mem_singleton.mp hp]
    exact isTop (by kernel_rfl)
  · intro F as; exact .nil
  · refine all5S fun x y z u v S => ?_
    kernel_rfl
  have hR := fun vs' m i j k hm h h' => hR m [smC2 x d a b .none .junk] vs' (asLe.refl _) ⟨rfl, i, j, k, hm, h, h'⟩
  unfold smC2 at hR ⊢
  refine XS.doc ?_
  refine XS.asgC (EV.tup (EVs.cons (by walk_at "m_ev") (EVs.cons (by walk_at "m_ev") (EVs.cons (by walk_at "m_ev") (EVs.cons (EV.setIn (by walk_at "m_ev")) EVs.nil)))) (Nat.le_of_ble_eq_true rfl)) (AS.tup ok (by walk_at "m_puts")).toC ?_
  refine XS.ite (TV.isNone (by walk_at "m_ev") (by walk_at "m_ev")) (fun h => nomatch h) (fun _ => XS.nil ?_)
  refine XS.ite (TV.isNone (by walk_at "m_ev") (by walk_at "m_ev")) (fun h => nomatch h) (fun _ => XS.nil ?_)
  refine XS.asgSw ok (names := ["besti", "bestj", "bestsize"]) (ms := [.int alo, .int blo, .int 0]) (by walk_at "m_ev") (by kernel_rfl) rfl (by walk_at "m_putn") ?_
  refine XS.asgX (EVx.dictI fun y => ⟨_, _, (ASc.name (by assumption) (mem_lu (by kernel_rfl)) (by walk_at "m_at")), ?_⟩)
  refine XS.frzI (j := 1) rfl ?_
  refine XS.drop (cs := [smC2 x d a b .none .junk]) (ds := [⟨y, [], .dead⟩]) (vs := [.cell 0, .int alo, .int ahi, .int blo, .int bhi, mstrs a, mstrs b, .sdict (b2jN b b.length), .bm "set.__contains__" .set0, .int alo, .int blo, .int 0, .idict (fun _ => none), .unb, .unb, .unb, .unb, .unb, .unb]) ?_
  refine XS.asg ok (EV.listD EVs.nil) (mem_lu (by kernel_rfl)) (by walk_at "m_at") ?_
  refine XS.forRG (σ := FlG) (flC x d a b) (flV a b alo ahi blo bhi) (FlJ a b alo ahi blo bhi) (a := alo) (b := ahi) ⟨fun _ => none, alo, blo, 0⟩
    (EV.bi ok (mem_lu (by kernel_rfl)) (by kernel_rfl) (by kernel_rfl)) (by walk_at "m_evs") h2 (by lia) (by lia)
    ⟨fun j v h => (nomatch h), ⟨Int.le_refl _, Int.le_of_eq (Int.add_zero _), Int.le_refl _, by show blo + 0 ≤ bhi; lia, Int.le_refl _, fun t h h' => by lia⟩, fun _ => ⟨fun h => by lia, by show alo - alo ≤ 0; lia⟩⟩ ?_ ?_
  rotate_left
  · intro g q
    refine XS.whileG (σ := FlG) (flC x d a b) (flV a b alo ahi blo bhi) (FlW a b alo ahi blo bhi) (fun _ => True) (fun h => h.bi.toNat) g ⟨q.mt, fun z => (q.dg z).2⟩ ?_ ?_
    · intro g q
      have i0 := q.mt.i0; have i1 := q.mt.i1; have j0 := q.mt.j0; have j1 := q.mt.j1; have k0 := q.mt.k0
      refine ⟨_, TV.and (.cons (TV.gt (a := g.bi) (b := alo) (by walk_at "m_ev") (by walk_at "m_ev")) fun e1 => .cons (TV.gt (a := g.bj) (b := blo) (by walk_at "m_ev") (by walk_at "m_ev")) fun e2 =>
        .cons (TV.not (TV.bool (EV.inSet (by walk_at "m_ev") (EVs.cons (EV.itemL (xs := b.map .str) (k := g.bj - 1) (by walk_at "m_ev") (by walk_at "m_ev") (by have := of_decide_eq_true e2; lia) (by lia) (getS (by have := of_decide_eq_true e2; lia))) EVs.nil)))) fun e3 =>
        .cons (TV.eqs (EV.itemL (xs := a.map .str) (k := g.bi - 1) (by walk_at "m_ev") (by walk_at "m_ev") (by have := of_decide_eq_true e1; lia) (by lia) (getS (by have := of_decide_eq_true e1; lia))) (EV.itemL (xs := b.map .str) (k := g.bj - 1) (by walk_at "m_ev") (by walk_at "m_ev") (by have := of_decide_eq_true e2; lia) (by lia) (getS (by have := of_decide_eq_true e2; lia)))) fun _ => .nil), fun hb PP hN => ?_, fun _ => trivial⟩
      simp only [Bool.and_eq_true, decide_eq_true_eq, beq_iff_eq, and_true] at hb
      have he := eqAt_of (a := a) (b := b) (i := g.bi - 1) (j := g.bj - 1) (by lia) (by lia) (by lia) (by lia) hb.2.2.2
      refine XS.asgSw ok (names := ["besti", "bestj", "bestsize"]) (ms := [.int (g.bi - 1), .int (g.bj - 1), .int (g.bk + 1)]) (by walk_at "m_ev") (by kernel_rfl) rfl (by walk_at "m_putn") ?_
      exact XS.nil (hN ⟨g.f, g.bi - 1, g.bj - 1, g.bk + 1⟩ ⟨mt_left q.mt hb.1 hb.2.1 he, fun hg => by have := q.dg hg; show ahi - alo ≤ g.bk + 1; lia⟩ (by show (g.bi - 1).toNat < g.bi.toNat; lia))
    intro g q _
    refine XS.whileG (σ := FlG) (flC x d a b) (flV a b alo ahi blo bhi) (FlW a b alo ahi blo bhi) (fun _ => True) (fun h => (ahi - h.bi - h.bk).toNat) g q ?_ ?_
    · intro g q
      have i0 := q.mt.i0; have i1 := q.mt.i1; have j0 := q.mt.j0; have j1 := q.mt.j1; have k0 := q.mt.k0
      refine ⟨_, TV.and (.cons (TV.lt (a := g.bi + g.bk) (b := ahi) (by walk_at "m_ev") (by walk_at "m_ev")) fun e1 => .cons (TV.lt (a := g.bj + g.bk) (b := bhi) (by walk_at "m_ev") (by walk_at "m_ev")) fun e2 =>
        .cons (TV.not (TV.bool (EV.inSet (by walk_at "m_ev") (EVs.cons (EV.itemL (xs := b.map .str) (k := g.bj + g.bk) (by walk_at "m_ev") (by walk_at "m_ev") (by have := of_decide_eq_true e2; lia) (by lia) (getS (by have := of_decide_eq_true e2; lia))) EVs.nil)))) fun e3 =>
        .cons (TV.eqs (EV.itemL (xs := a.map .str) (k := g.bi + g.bk) (by walk_at "m_ev") (by walk_at "m_ev") (by have := of_decide_eq_true e1; lia) (by lia) (getS (by have := of_decide_eq_true e1; lia))) (EV.itemL (xs := b.map .str) (k := g.bj + g.bk) (by walk_at "m_ev") (by walk_at "m_ev") (by have := of_decide_eq_true e2; lia) (by lia) (getS (by have := of_decide_eq_true e2; lia)))) fun _ => .nil), fun hb PP hN => ?_, fun _ => trivial⟩
      simp only [Bool.and_eq_true, decide_eq_true_eq, beq_iff_eq, and_true] at hb
      have he := eqAt_of (a := a) (b := b) (i := g.bi + g.bk) (j := g.bj + g.bk) (by lia) (by lia) (by lia) (by lia) hb.2.2.2
      refine XS.augAdd ok (a := g.bk) (b := 1) (mem_lu (by kernel_rfl)) (by walk_at "m_at") (by walk_at "m_ev") (by walk_at "m_at") ?_
      exact XS.nil (hN ⟨g.f, g.bi, g.bj, g.bk + 1⟩ ⟨mt_right q.mt hb.1 hb.2.1 he, fun hg => by have := q.dg hg; show ahi - alo ≤ g.bk + 1; lia⟩ (by show (ahi - g.bi - (g.bk + 1)).toNat < (ahi - g.bi - g.bk).toNat; lia))
    intro g q _
    refine XS.whileG (σ := FlG) (flC x d a b) (flV a b alo ahi blo bhi) (FlW a b alo ahi blo bhi) (fun _ => True) (fun h => h.bi.toNat) g q ?_ ?_
    · intro g q
      have i0 := q.mt.i0; have i1 := q.mt.i1; have j0 := q.mt.j0; have j1 := q.mt.j1; have k0 := q.mt.k0
      refine ⟨_, TV.and (.cons (TV.gt (a := g.bi) (b := alo) (by walk_at "m_ev") (by walk_at "m_ev")) fun e1 => .cons (TV.gt (a := g.bj) (b := blo) (by walk_at "m_ev") (by walk_at "m_ev")) fun e2 =>
        .cons ((TV.bool (EV.inSet (by walk_at "m_ev") (EVs.cons (EV.itemL (xs := b.map .str) (k := g.bj - 1) (by walk_at "m_ev") (by walk_at "m_ev") (by have := of_decide_eq_true e2; lia) (by lia) (getS (by have := of_decide_eq_true e2; lia))) EVs.nil)))) fun e3 => (nomatch e3 : ANDs _ _ _ _ _ true)), fun hb PP hN => ?_, fun _ => trivial⟩
      simp only [Bool.and_eq_true, Bool.false_eq_true, false_and, and_false] at hb
    intro g q _
    refine XS.whileG (σ := FlG) (flC x d a b) (flV a b alo ahi blo bhi) (FlW a b alo ahi blo bhi) (fun _ => True) (fun h => (ahi - h.bi - h.bk).toNat) g q ?_ ?_
    · intro g q
      have i0 := q.mt.i0; have i1 := q.mt.i1; have j0 := q.mt.j0; have j1 := q.mt.j1; have k0 := q.mt.k0
      refine ⟨_, TV.and (.cons (TV.lt (a := g.bi + g.bk) (b := ahi) (by walk_at "m_ev") (by walk_at "m_ev")) fun e1 => .cons (TV.lt (a := g.bj + g.bk) (b := bhi) (by walk_at "m_ev") (by walk_at "m_ev")) fun e2 =>
        .cons ((TV.bool (EV.inSet (by walk_at "m_ev") (EVs.cons (EV.itemL (xs := b.map .str) (k := g.bj + g.bk) (by walk_at "m_ev") (by walk_at "m_ev") (by have := of_decide_eq_true e2; lia) (by lia) (getS (by have := of_decide_eq_true e2; lia))) EVs.nil)))) fun e3 => (nomatch e3 : ANDs _ _ _ _ _ true)), fun hb PP hN => ?_, fun _ => trivial⟩
      simp only [Bool.and_eq_true, Bool.false_eq_true, false_and, and_false] at hb
    intro g q _
    refine XS.ret (EV.newMat (n := n + 5) (EV.glob ok (mem_lu (by kernel_rfl)) (by kernel_rfl)) (by walk_at "m_evs")) (hR _ _ g.bi g.bj g.bk rfl q.mt fun hg => ?_)
    have := q.dg hg; have := q.mt.i0; have := q.mt.i1
    lia
  · intro i g hi hi' q
    obtain ⟨z, hz'⟩ : ∃ z, a[i.toNat]? = some z := ⟨_, List.getElem?_eq_getElem (by lia)⟩
    refine ⟨_, AS.name ok (mem_lu (by kernel_rfl)) (by walk_at "m_at"), fun PP hN => ?_⟩
    refine XS.asg ok (EV.dictGet (by walk_at "m_ev")) (mem_lu (by kernel_rfl)) (by walk_at "m_at") ?_
    refine XS.asgX (EVx.dictI fun y => ⟨_, _, (ASc.name (by assumption) (mem_lu (by kernel_rfl)) (by walk_at "m_at")), ?_⟩)
    have hAt := js_at (a := a) (b := b) hz' (by lia : 0 ≤ i)
    have hPw := (b2jN_spec b z b.length).2.1
    have hIn := js_in (b := b) (ahi := ahi) (blo := blo) (bhi := bhi) hz' h1 hi hi' h4
    have hjl := js_len (b := b) z hz
    generalize hjs : (b2jN b b.length z).getD [] = js at hAt hPw hIn hjl
    refine XS.forLG (σ := FlH) (flC1 x d a b y) (flV1 a b alo ahi blo bhi i g.f) (FlI a b alo ahi blo bhi i js) (FlE a b alo ahi blo bhi i) (items := js.map .int) ⟨_, _, _, _, _, _, _⟩
      ?_ ⟨fun j v h => (nomatch h), q.mt.wide (by lia), Nat.le_refl _, fun hg => ⟨fun h => by simp at h, (q.dg hg).2⟩⟩ ?_ ?_ ?_
    · rw [← hjs]
      refine EVx.ev (EVx.meth (name := "get") (by walk_at "m_ev") GMv.sget (fun _ _ _ _ => .bi _) (EVs.cons (EV.itemL (xs := a.map .str) (k := i) (by walk_at "m_ev") (by walk_at "m_ev") (by lia) (by lia) (by rw [List.getElem?_map, hz']; rfl)) (EVs.cons (by walk_at "m_ev") EVs.nil)) CS.sget.cx)
    · intro h r
      refine ⟨r.rw, r.mt, fun hg => ?_⟩
      have r3 := r.dg hg
      rw [List.length_map, List.take_length] at r3
      have := r3.1 (hIn hg)
      exact ⟨fun _ => by rw [show blo + (i + 1 - 1 - alo) = blo + (i - alo) by lia]; exact this.1, this.2⟩
    · intro m v h hv r
      obtain ⟨j, hj, rfl⟩ := map_at2 hv
      have hmem : j ∈ js := List.mem_of_getElem? hj
      refine ⟨_, AS.name ok (mem_lu (by kernel_rfl)) (by walk_at "m_at"), fun PP hN hE => ?_⟩
      refine XS.ite (TV.lt (a := j) (b := blo) (by walk_at "m_ev") (by walk_at "m_ev")) (fun h1 => ?_) (fun h1 => XS.nil ?_)
      · have h1 := of_decide_eq_true h1
        refine XS.cont (hN ⟨h.g, h.w, h.bi, h.bj, h.bk, .int j, h.ml⟩ ⟨r.rw, r.mt, Nat.le_succ_of_le r.wm, fun hg => ⟨fun hin => ?_, (r.dg hg).2⟩⟩).2
        rcases take_succ_mem hj hin with hin | e
        · exact (r.dg hg).1 hin
        · lia
      have h1 := of_decide_eq_false h1
      refine XS.ite (TV.ge (a := j) (b := bhi) (by walk_at "m_ev") (by walk_at "m_ev")) (fun h' => ?_) (fun h' => XS.nil ?_)
      · have h' := of_decide_eq_true h'
        refine XS.brk (hE ⟨h.g, h.w, h.bi, h.bj, h.bk, .int j, h.ml⟩ ⟨r.rw, r.mt, fun hg => ?_⟩)
        have := (r.dg hg).1 (mem_take_of_lt hPw (hIn hg) hj (by have := hg.1; lia))
        exact ⟨fun _ => by rw [show blo + (i + 1 - 1 - alo) = blo + (i - alo) by lia]; exact this.1, this.2⟩
      have h' := of_decide_eq_false h'
      have nn := row_new q.rw (hAt j hmem) hi (by lia : blo ≤ j)
      have hval : Dg a b alo ahi blo bhi → blo + (i - alo) = j → (g.f (j - 1)).getD 0 + 1 = i + 1 - alo := fun hg e => by
        rw [← e]; exact dg_val q.rw q.dg hg hi
      have hwm := r.wm
      have hml : m < js.length := (List.getElem?_eq_some_iff.mp hj).1
      refine XS.asgC2 (EV.add (EV.getI (by walk_at "m_ev") (by walk_at "m_evs")) (by walk_at "m_ev")) (ASc.name (by assumption) (mem_lu (by kernel_rfl)) (by walk_at "m_at")) (ASc.subI (j := 1) (by walk_at "m_ev") rfl (by walk_at "m_ev") (by lia)) ?_
      generalize (g.f (j - 1)).getD 0 + 1 = kk at nn hval
      have hR1 := rw_upd r.rw nn.1 nn.2.1 nn.2.2.1 (by lia) nn.2.2.2
      have hfin := fl_fin (h := h) hj hval r.dg
      refine XS.ite (TV.gt (a := kk) (b := h.bk) (by walk_at "m_ev") (by walk_at "m_ev")) (fun h2 => ?_) (fun h2 => XS.nil ?_)
      · have h2 := of_decide_eq_true h2
        refine XS.asgSw ok (names := ["besti", "bestj", "bestsize"]) (ms := [.int (i - kk + 1), .int (j - kk + 1), .int kk]) (by walk_at "m_ev") (by kernel_rfl) rfl (by walk_at "m_putn") ?_
        exact XS.nil (XS.nil (hN ⟨updI h.g j kk, h.w + 1, i - kk + 1, j - kk + 1, kk, .int j, .int kk⟩ ⟨hR1, mt_new nn.1 nn.2.1 nn.2.2.1 (by lia) nn.2.2.2, Nat.succ_le_succ hwm, hfin kk (Int.le_of_lt h2) (Int.le_refl _)⟩).1)
      · have h2 := of_decide_eq_false h2
        exact XS.nil (hN ⟨updI h.g j kk, h.w + 1, h.bi, h.bj, h.bk, .int j, .int kk⟩ ⟨hR1, r.mt, Nat.succ_le_succ hwm, hfin h.bk (Int.le_refl _) (Int.not_lt.mp h2)⟩).1
    · intro h r
      refine XS.asg (by assumption) (by walk_at "m_ev") (mem_lu (by kernel_rfl)) (by walk_at "m_at") ?_
      refine XS.forget (vs' := [.cell 0, .int alo, .int ahi, .int blo, .int bhi, mstrs a, mstrs b, .sdict (b2jN b b.length), .bm "set.__contains__" .set0, .int h.bi, .int h.bj, .int h.bk, .cell 1, .list [], .unb, .unb, .unb, .unb, .unb]) (by walk_at "m_at") ?_
      refine XS.frzI (j := 1) rfl ?_
      refine XS.drop (cs := [smC2 x d a b .none .junk]) (ds := [⟨y, [], .dead⟩]) (vs := flV a b alo ahi blo bhi ⟨h.g, h.bi, h.bj, h.bk⟩) ?_
      exact XS.nil (hN ⟨h.g, h.bi, h.bj, h.bk⟩ ⟨r.rw, r.mt, r.dg⟩)
end
end
open PySem PySem.W PySem.W.X PyProof.Rows
section
set_option Elab.async false
set_option linter.unusedVariables false
set_option maxRecDepth 100000
theorem pk_iter (P : Params) (S : Setting) : peek (KF P) S (typeLookup (.ref 135) "__iter__") = some (some (.builtin "tuple.__iter__")) := by kernel_rfl
theorem pk_subt (P : Params) (S : Setting) : peek (KF P) S (isSubtype (.ref 135) (.type "tuple")) = some true := by kernel_rfl
theorem ti_kind : builtinKind "tuple.__iter__" = some .slot := by decide +kernel
theorem ti_split : splitId "tuple.__iter__" = some ("tuple", "__iter__") := by decide +kernel
theorem ti_plain : plainId "tuple.__iter__" = true := by decide +kernel
section
variable {w : World} {A : Around} {E : Value → Shared → Prop} {s : Shared}
theorem mat_type {x : Addr} {om : Obj} {items : Array Value} {h : Heap} (hx : h.get? x = some om) (hm : isMat om items) : Looks (model pw w) h (typeOf (.ref x)) (.ref 135) := by
  have := (Looks.ld (M := model pw w) (part := some headPart) hx).andThen (f := fun o => pure o.cls) .now
  rw [hm.1] at this; exact this
theorem mat_iter {x : Addr} {om : Obj} {items : Array Value} {h : Heap} (X : (KF w.params).In h) (hx : h.get? x = some om) (hm : isMat om items) : Looks (model pw w) h (specialOf (.ref x) "__iter__") (some (.builtin "tuple.__iter__")) := by
  unfold specialOf
  exact (mat_type hx hm).andThen (Looks.of_peek X (pk_iter _ _))
theorem mat_isTup {x : Addr} {om : Obj} {items : Array Value} {h : Heap} (X : (KF w.params).In h) (hx : h.get? x = some om) (hm : isMat om items) : Looks (model pw w) h (isInstance (.ref x) (.type "tuple")) true := by
  unfold isInstance
  exact (mat_type hx hm).andThen (Looks.of_peek X (pk_subt _ _))
theorem pyIter_mat {x : Addr} {om : Obj} {items : Array Value} {Q : Value → Shared → Prop} (X : (KF w.params).In s.heap) (hx : s.heap.get? x = some om) (hm : isMat om items)
    (hQ : Q (.ref s.heap.objs.size) { s with heap := s.heap.push { cls := .type "tuple_iterator", data := .fields #[.ref x, .int 0 0] } }) : wpAny (model pw w) A (pyIter (.ref x)) Q E s := by
  obtain ⟨hp, g, d, tk, os⟩ := s
  have hs := mat_iter X hx hm
  have hb : Looks (model pw w) hp (bindSpecial (.builtin "tuple.__iter__") (.ref x)) (.builtin "tuple.__iter__", [.ref x]) := Looks.of_pure (PySem.F.slot_tuple_iter.bind _)
  unfold pyIter
  refine wpAny_bind (hs.at ?_)
  dsimp only
  refine wpAny_bind ?_
  unfold callSpecialIfBoundUnlessNone? bindSpecialIfBound?
  repeat lk
  rw [PySem.F.slot_tuple_iter.bind]
  split
  rotate_left
  · refine wpAny_tryCatch ?_
    refine wpAny_bind (wpAny_pure (wpAny_pure ?_))
    dsimp only
    rw [if_neg (by decide)]
    refine wpAny_bind ?_
    refine wpAny_call (codeAny_call_builtin ti_plain PySem.F.entry_tuple_iter (@check_slot (model pw w) _ _ ⟨hp, g, d, tk, os⟩ "tuple.__iter__" "tuple" "__iter__" (.ref x) [] [] _ ti_kind ti_split (mat_isTup X hx hm) (PySem.F.args_tuple_iter_1 _) ?_))
    show wpAny _ _ (do ret (← newFields "tuple_iterator" [.ref x, rawInt 0])) _ _ _
    refine wpAny_bind (wpAny_newObj_type (wpAny_pure (wpAny_pure ?_)))
    refine wpAny_bind (wpAny_specialOf (T := "tuple_iterator") ⟨_, Heap.get?_push_size _ rfl, rfl⟩ PySem.F.slot_tuple_iterator_next.lookup ?_)
    exact wpAny_pure hQ
  · refine wpAny_bind (wpAny_pure (wpAny_pure ?_))
    dsimp only
    rw [if_neg (by decide)]
    refine wpAny_bind ?_
    refine wpAny_call (codeAny_call_builtin ti_plain PySem.F.entry_tuple_iter (@check_slot (model pw w) _ _ ⟨hp, g, d, tk, os⟩ "tuple.__iter__" "tuple" "__iter__" (.ref x) [] [] _ ti_kind ti_split (mat_isTup X hx hm) (PySem.F.args_tuple_iter_1 _) ?_))
    show wpAny _ _ (do ret (← newFields "tuple_iterator" [.ref x, rawInt 0])) _ _ _
    refine wpAny_bind (wpAny_newObj_type (wpAny_pure (wpAny_pure ?_)))
    refine wpAny_bind (wpAny_specialOf (T := "tuple_iterator") ⟨_, Heap.get?_push_size _ rfl, rfl⟩ PySem.F.slot_tuple_iterator_next.lookup ?_)
    exact wpAny_pure hQ
/-- the next of a tuple's iterator, whatever the tuple's class -/
theorem next_item {it t : Addr} {i : Nat} {o : Obj} {items : Array Value} {n : Nat} {x : Value} {Q : Option Value → Shared → Prop} (hit : s.heap.IsTupleIter it t i)
    (ho : s.heap.get? t = some o) (hd : o.data = .seq items n) (hx : items[i]? = some x)
    (hQ : ∀ h', h'.IsTupleIter it t (i + 1) → Heap.SameBut it s.heap h' → Q (some x) { s with heap := h' }) :
    wpAny (model pw w) A (pyNext (.ref it)) Q E s := by
  obtain ⟨oi, hoi, hc, hdi⟩ := id hit
  unfold pyNext
  refine wpAny_bind (wpAny_attempt (wpAny_callSpecial?_slot (name := Str.ofString "__next__") hit.typeIs PySem.F.slot_tuple_iterator_next
    (wpAny_call_entry PySem.F.slot_tuple_iterator_next hit.typeIs PySem.F.entry_tuple_iterator_next ?_ (PySem.F.args_tuple_iterator_next_1 _))))
  show wpAny _ _ (field (.ref it) 0 >>= _) _ _ s
  refine wpAny_bind (wpAny_field hoi hdi (x := .ref t) rfl ?_)
  show wpAny _ _ (if (Value.ref t == Value.none) = true then _ else _) _ _ s
  rw [if_neg (show ¬ ((Value.ref t == Value.none) = true) from Bool.false_ne_true)]
  show wpAny _ _ (field (.ref it) 1 >>= _) _ _ s
  refine wpAny_bind (wpAny_field hoi hdi (x := .int i 0) rfl ?_)
  show wpAny _ _ (seqItems? (.ref t) >>= _) _ _ s
  refine wpAny_bind (wpAny_seqItems ho hd ?_)
  simp only [Int.toNat_natCast, hx]
  refine wpAny_bind (wpAny_setField hoi hdi (by simp) (wpAny_pure ⟨x, rfl, wpAny_pure (hQ _ ?_ (Heap.SameBut.update ..))⟩))
  exact ⟨_, Heap.get?_update_self _ hoi (Obj.isFreed_of_fields (Obj.data_mapFields hdi _)), (Obj.cls_mapFields ..).trans hc, by
    rw [Obj.data_mapFields hdi]; simp [rawInt]⟩
theorem next_end {it t : Addr} {i : Nat} {o : Obj} {items : Array Value} {n : Nat} {Q : Option Value → Shared → Prop} (hh : A.handled = none) (hit : s.heap.IsTupleIter it t i)
    (ho : s.heap.get? t = some o) (hd : o.data = .seq items n) (hx : items[i]? = none)
    (hQ : ∀ h', Heap.ExtBut it s.heap h' → Q none { s with heap := h' }) : wpAny (model pw w) A (pyNext (.ref it)) Q E s := by
  obtain ⟨oi, hoi, hc, hdi⟩ := id hit
  unfold pyNext
  refine wpAny_bind (wpAny_attempt (wpAny_callSpecial?_slot (name := Str.ofString "__next__") hit.typeIs PySem.F.slot_tuple_iterator_next
    (wpAny_call_entry PySem.F.slot_tuple_iterator_next hit.typeIs PySem.F.entry_tuple_iterator_next ?_ (PySem.F.args_tuple_iterator_next_1 _))))
  show wpAny _ _ (field (.ref it) 0 >>= _) _ _ s
  refine wpAny_bind (wpAny_field hoi hdi (x := .ref t) rfl ?_)
  show wpAny _ _ (if (Value.ref t == Value.none) = true then _ else _) _ _ s
  rw [if_neg (show ¬ ((Value.ref t == Value.none) = true) from Bool.false_ne_true)]
  show wpAny _ _ (field (.ref it) 1 >>= _) _ _ s
  refine wpAny_bind (wpAny_field hoi hdi (x := .int i 0) rfl ?_)
  show wpAny _ _ (seqItems? (.ref t) >>= _) _ _ s
  refine wpAny_bind (wpAny_seqItems ho hd ?_)
  simp only [Int.toNat_natCast, hx]
  refine wpAny_bind (wpAny_rule (wpAny_bind (wpAny_setField hoi hdi (by simp) ?_)))
  show wpAny _ _ (newExc (.type "StopIteration") [] >>= _) _ _ _
  refine wpAny_bind ?_
  simp only [newExc, newTuple]
  refine wpAny_bind (wpAny_newObj_type ?_ (by size_fits))
  refine wpAny_bind (m := firstArgMember _ _) (wpAny_of_eq (a := Value.none) (by first | rfl | (simp only [firstArgMember]; rfl)) ?_)
  refine wpAny_newObj_type ?_ (by size_fits)
  simp only [raiseNew]
  refine wpAny_bind (wpAny_handled ?_)
  first | rw [show A.in1.handled = none from hh] | rw [hh]
  refine wpAny_bind (wpAny_pure (wpAny_throw ?_))
  refine wpAny_bind (wpAny_isInstance (T := "StopIteration") (b := true) ⟨_, Heap.get?_push_size _ rfl, rfl⟩ isSubtype_stop ?_)
  exact wpAny_pure (hQ _ (((Heap.SameBut.update ..).extBut.push _).push _))
theorem draw_items {it t : Addr} {o : Obj} {items : Array Value} {k : Nat} (hd : o.data = .seq items k) (hne : t ≠ it) : ∀ (n i : Nat) (s : Shared) (Q : List Value → Shared → Prop), s.heap.IsTupleIter it t i → s.heap.get? t = some o → i + n ≤ items.size →
    (∀ h', h'.IsTupleIter it t (i + n) → Heap.SameBut it s.heap h' → Q ((items.toList.drop i).take n) { s with heap := h' }) → wpAny (model pw w) A (draw (.ref it) n) Q E s
  | 0, i, s, Q, hit, _, _, hQ => wpAny_pure (by simpa using hQ s.heap hit (Heap.SameBut.refl ..))
  | n + 1, i, s, Q, hit, ho, hle, hQ => by
    have hlt : i < items.size := by lia
    show wpAny _ _ (pyNext (.ref it) >>= _) Q E s
    refine wpAny_bind (next_item hit ho hd (x := items[i]) (by simp [hlt]) fun h₁ hit₁ hs₁ => ?_)
    refine wpAny_bind (wpAny_holding (draw_items hd hne n (i + 1) _ _ hit₁ ((hs₁.2 t hne).trans ho) (by lia) fun h₂ hit₂ hs₂ => wpAny_pure ?_))
    have hdr : items.toList.drop i = items[i] :: items.toList.drop (i + 1) := by simp [List.drop_eq_getElem_cons, hlt]
    have := hQ h₂ (by rw [show i + (n + 1) = i + 1 + n by lia]; exact hit₂) (hs₁.trans hs₂)
    rw [hdr, List.take_succ_cons] at this
    exact this
theorem unpack_mat {x : Addr} {om : Obj} {items : Array Value} {Q : List Value → Shared → Prop} (hh : A.handled = none) (X : (KF w.params).In s.heap) (hx : s.heap.get? x = some om) (hm : isMat om items)
    (hQ : ∀ h', Heap.ExtBut s.heap.objs.size s.heap h' → Q items.toList { s with heap := h' }) : wpAny (model pw w) A (unpackItems (.ref x) items.size none) Q E s := by
  have hlt : x ≠ s.heap.objs.size := Nat.ne_of_lt (Heap.lt_size hx)
  obtain ⟨_, _, nn, hd⟩ := id hm
  unfold unpackItems
  refine wpAny_bind ?_
  unfold notIterableAtAll
  refine wpAny_bind ((mat_iter X hx hm).here ?_)
  refine wpAny_pure ?_
  simp only [Bool.false_eq_true, if_false]
  refine wpAny_bind (wpAny_holding (pyIter_mat X hx hm ?_))
  refine wpAny_bind (wpAny_holding (draw_items hd hlt items.size 0 _ _ ⟨_, Heap.get?_push_size _ rfl, rfl, rfl⟩ (Heap.get?_push_of_some _ hx) (by lia) fun h₁ hit₁ hs₁ => ?_))
  have hall : List.take items.size (List.drop 0 items.toList) = items.toList := by
    rw [List.drop_zero]; exact List.take_of_length_le (by simp)
  rw [hall]
  rw [if_neg (by simp)]
  have hx₁ := (hs₁.2 x hlt).trans (Heap.get?_push_of_some { cls := .type "tuple_iterator", data := .fields #[.ref x, .int 0 0] } hx)
  refine wpAny_bind (wpAny_holding (next_end hh hit₁ hx₁ hd (by simp) fun h₂ he₂ => ?_))
  simp only [Option.isSome_none, Bool.false_eq_true, if_false]
  exact wpAny_pure (hQ h₂ fun b o hb e => he₂ b o hb (hs₁.extBut b o hb (Heap.get?_push_of_some _ e)))
end
section
variable {c : Cx} {n : Nat} {cs : List CellAt} {vs : List MV}
theorem AS.mat (ok : CxOk c) {es : List Expr} {k : Nat} {p : Pos} {ms vs' : List MV} (h : PutsTo c es ms vs vs') : AS c n cs vs (.Tuple es k p) (.mat ms) vs' := .mk fun A K F s Q v hA hS hv hQ => by
  obtain ⟨h1, h2, h3⟩ := h.go ok (cs := cs)
  apply hv.matI; intro _ _ _ e q d
  rw [arm_assign_Tuple]
  refine wpAny_bind (wpAny_standAt ?_)
  unfold unpack
  rw [h1, ← arr_len d, h2]
  refine wpAny_bind (wpAny_holding (unpack_mat hA.handled hS.toSF.kf (hS.fz _ _ e) q fun h' hk => ?_))
  exact h3 (hS.ext (keep_of_extBut (Nat.le_refl _) hk) rfl rfl) (d.mono (PH.le.refl _) (asLe.nil _)) fun s' S' => hQ F s' (PH.le.refl _) S'
end
end
open PySem PySem.W PyProof.Rows
section
set_option Elab.async false
set_option linter.unusedVariables false
/-- how a sort goes by the answers, all questions being fair ones -/
noncomputable def Run {α : Type} (V : Nat → Nat → Prop) (lt : Nat → Nat → Bool) : KasT α → (α → Prop) → Prop
  | .ret a, Q => Q a
  | .ask i j k, Q => V i j ∧ Run V lt (k (lt i j)) Q
theorem Run.bind {α β : Type} {V : Nat → Nat → Prop} {lt : Nat → Nat → Bool} {f : α → KasT β} {Q : β → Prop} : ∀ {t : KasT α}, Run V lt t (fun a => Run V lt (f a) Q) → Run V lt (t.bind f) Q
  | .ret _, h => h
  | .ask _ _ _, h => ⟨h.1, Run.bind h.2⟩
theorem Run.mono {α : Type} {V : Nat → Nat → Prop} {lt : Nat → Nat → Bool} {Q Q' : α → Prop} (hq : ∀ a, Q a → Q' a) : ∀ {t : KasT α}, Run V lt t Q → Run V lt t Q'
  | .ret _, h => hq _ h
  | .ask _ _ _, h => ⟨h.1, Run.mono hq h.2⟩
noncomputable def At' (p : Array Nat) (i : Nat) : Nat := p.getD i 0
theorem at_congr {p q : Array Nat} {i j : Nat} (h : p[i]? = q[j]?) : At' p i = At' q j := by
  unfold At'; rw [Array.getD_eq_getD_getElem?, Array.getD_eq_getD_getElem?, h]
section
variable (key : Nat → Int) (n : Nat)
noncomputable def ltK (i j : Nat) : Bool := decide (key i < key j)
noncomputable def Kp' (p : Array Nat) (i : Nat) : Int := key (At' p i)
/-- a rearrangement of 0 .. n-1 -/
noncomputable def Pm (p : Array Nat) : Prop := p.Perm (List.toArray (List.range n))
noncomputable def Up (p : Array Nat) (m : Nat) : Prop := ∀ i j, i ≤ j → j < m → Kp' key p i ≤ Kp' key p j
noncomputable def Dn (p : Array Nat) (m : Nat) : Prop := ∀ i j, i ≤ j → j < m → Kp' key p j ≤ Kp' key p i
noncomputable def Inj : Prop := ∀ i j, i < n → j < n → key i = key j → i = j
variable {key n}
theorem Pm.size {p : Array Nat} (h : Pm n p) : p.size = n := by
  have := h.size_eq; simpa using this
theorem Pm.lt {p : Array Nat} (h : Pm n p) {i : Nat} (hi : i < n) : At' p i < n := by
  have hm : p[i]'(by rw [h.size]; exact hi) ∈ (List.toArray (List.range n)).toList := (Array.perm_iff_toList_perm.mp h).mem_iff.mp (by simp)
  have : At' p i = p[i]'(by rw [h.size]; exact hi) := by unfold At'; simp [Array.getD, h.size, hi]
  rw [this]; simpa using hm
theorem Pm.inj {p : Array Nat} (h : Pm n p) {i j : Nat} (hi : i < n) (hj : j < n) (e : At' p i = At' p j) : i = j := by
  have hnd : p.toList.Nodup := ((Array.perm_iff_toList_perm.mp h).nodup_iff).mpr (by simpa using List.nodup_range)
  have e1 : ∀ k, k < n → p.toList[k]? = some (At' p k) := fun k hk => by
    unfold At'
    have : k < p.size := by rw [h.size]; exact hk
    rw [Array.getElem?_toList]; simp [Array.getD, this]
  exact (List.getElem?_inj (by simpa [h.size] using hi) hnd).mp (by rw [e1 i hi, e1 j hj, e])
theorem Pm.ne {p : Array Nat} (h : Pm n p) (hk : Inj key n) {i j : Nat} (hi : i < n) (hj : j < n) (hne : i ≠ j) : Kp' key p i ≠ Kp' key p j := fun e =>
  hne (h.inj hi hj (hk _ _ (h.lt hi) (h.lt hj) e))
/-- a fair question: two of the items, not the same -/
noncomputable def Fair (i j : Nat) : Prop := i < n ∧ j < n ∧ i ≠ j
theorem Pm.fair {p : Array Nat} (h : Pm n p) {i j : Nat} (hi : i < n) (hj : j < n) (hne : i ≠ j) : Fair (n := n) (p.getD i 0) (p.getD j 0) := ⟨h.lt hi, h.lt hj, fun e => hne (h.inj hi hj e)⟩
theorem asc_spec {p : Array Nat} (hp : Pm n p) : ∀ f m, 1 ≤ m → m + f ≤ n → Up key p m → Run (Fair (n := n)) (ltK key) (kas_asc p f m) fun r => m ≤ r ∧ r ≤ m + f ∧ Up key p r ∧ (r < m + f → Kp' key p r < Kp' key p (r - 1))
  | 0, m, h1, hm, h => ⟨Nat.le_refl _, Nat.le_refl _, h, fun h => absurd h (Nat.lt_irrefl _)⟩
  | f + 1, m, h1, hm, h => by
    refine ⟨hp.fair (by lia) (by lia) (by lia), ?_⟩
    dsimp only
    by_cases c : ltK key (p.getD m 0) (p.getD (m - 1) 0) = true
    · rw [if_pos c]
      exact ⟨Nat.le_refl _, by lia, h, fun _ => by unfold ltK at c; exact of_decide_eq_true c⟩
    · rw [if_neg c]
      have c' : Kp' key p (m - 1) ≤ Kp' key p m := by
        unfold ltK at c
        exact Int.not_lt.mp (of_decide_eq_false (Bool.not_eq_true _ ▸ c))
      have h' : Up key p (m + 1) := fun i j hij hj => by
        by_cases hjm : j < m
        · exact h i j hij hjm
        · have : j = m := by lia
          subst this
          by_cases him : i = j
          · subst him; exact Int.le_refl _
          · exact Int.le_trans (h i (j - 1) (by lia) (by lia)) c'
      exact Run.mono (fun r ⟨h2, h3, h4, h5⟩ => ⟨by lia, by lia, h4, fun h => h5 (by lia)⟩) (asc_spec hp f (m + 1) (by lia) (by lia) h')
theorem desc_spec {p : Array Nat} (hp : Pm n p) (hk : Inj key n) : ∀ f m, 1 ≤ m → m + f ≤ n → Dn key p m → Run (Fair (n := n)) (ltK key) (kas_desc f p m 0) fun x => x.1 = p ∧ x.2.2 = 0 ∧ m ≤ x.2.1 ∧ x.2.1 ≤ m + f ∧ Dn key p x.2.1
  | 0, m, h1, hm, h => ⟨rfl, rfl, Nat.le_refl _, Nat.le_refl _, h⟩
  | f + 1, m, h1, hm, h => by
    refine ⟨hp.fair (by lia) (by lia) (by lia), ?_⟩
    dsimp only
    by_cases c : ltK key (p.getD m 0) (p.getD (m - 1) 0) = true
    · rw [if_pos c, if_neg (Nat.lt_irrefl _)]
      have c' : Kp' key p m < Kp' key p (m - 1) := by unfold ltK at c; exact of_decide_eq_true c
      have h' : Dn key p (m + 1) := fun i j hij hj => by
        by_cases hjm : j < m
        · exact h i j hij hjm
        · have : j = m := by lia
          subst this
          by_cases him : i = j
          · subst him; exact Int.le_refl _
          · exact Int.le_trans (Int.le_of_lt c') (h i (j - 1) (by lia) (by lia))
      exact Run.mono (fun r ⟨h0, h1, h2, h3, h4⟩ => ⟨h0, h1, by lia, by lia, h4⟩) (desc_spec hp hk f (m + 1) (by lia) (by lia) h')
    · rw [if_neg c]
      have c' : Kp' key p (m - 1) < Kp' key p m := by
        unfold ltK at c
        have h1' : Kp' key p (m - 1) ≤ Kp' key p m := Int.not_lt.mp (of_decide_eq_false (Bool.not_eq_true _ ▸ c))
        have := hp.ne hk (i := m - 1) (j := m) (by lia) (by lia) (by lia)
        lia
      refine ⟨hp.fair (by lia) (by lia) (by lia), ?_⟩
      dsimp only
      rw [if_pos (show ltK key (p.getD (m - 1) 0) (p.getD m 0) = true from decide_eq_true c')]
      exact ⟨rfl, rfl, Nat.le_refl _, by show m ≤ m + (f + 1); lia, h⟩
theorem rev_up {p : Array Nat} {m : Nat} (hp : Pm n p) (hm : m ≤ n) (h : Dn key p m) : Up key (kas_rev p 0 m) m := by
  have e : ∀ k, k < m → Kp' key (kas_rev p 0 m) k = Kp' key p (m - 1 - k) := fun k hk => by
    have := getElem?_mirror_all (xs := p) (i := 0) (j := m) (by rw [hp.size]; exact hm) k
    rw [if_pos ⟨Nat.zero_le _, hk⟩] at this
    unfold Kp'
    exact congrArg key (at_congr (by rw [show m - 1 - k = 0 + m - 1 - k by lia]; exact this))
  intro i j hij hj
  rw [e i (by lia), e j hj]
  exact h _ _ (by lia) (by lia)
theorem rev_pm {p : Array Nat} {m : Nat} (hp : Pm n p) : Pm n (kas_rev p 0 m) := (mirror_perm p 0 m _).trans hp
noncomputable def CountOk (x : Nat × Array Nat) : Prop := 1 ≤ x.1 ∧ x.1 ≤ n ∧ Pm n x.2 ∧ Up key x.2 x.1
theorem tail3_spec {p : Array Nat} {m : Nat} (hp : Pm n p) (h1 : 1 ≤ m) (hm : m ≤ n) (h : Dn key p m) : Run (Fair (n := n)) (ltK key) (kas_tail3 m n p) (CountOk (key := key) (n := n)) := by
  unfold kas_tail3
  exact Run.bind (Run.mono (fun r ⟨h2, h3, h4, _⟩ => ⟨by show 1 ≤ r; lia, by show r ≤ n; lia, rev_pm hp, h4⟩) (asc_spec (key := key) (rev_pm hp) (n - m) m h1 (by lia) (rev_up hp hm h)))
theorem descPart_spec {p : Array Nat} {m : Nat} (hp : Pm n p) (hk : Inj key n) (hm : m + 1 ≤ n) (h : Dn key p (m + 1)) : Run (Fair (n := n)) (ltK key) (kas_descPart m n p) (CountOk (key := key) (n := n)) := by
  unfold kas_descPart
  refine Run.bind (Run.mono ?_ (desc_spec hp hk (n - (m + 1)) (m + 1) (by lia) (by lia) h))
  rintro ⟨p', r, q⟩ ⟨h0, h1, h2, h3, h4⟩
  have h0 : p' = p := h0
  have h1 : q = 0 := h1
  subst h0 h1
  have h2 : m + 1 ≤ r := h2
  have h3 : r ≤ m + 1 + (n - (m + 1)) := h3
  show Run _ _ (if 0 > 0 then _ else kas_tail3 r n p') _
  rw [if_neg (Nat.lt_irrefl _)]
  exact tail3_spec hp (by lia) (by lia) h4
theorem count_spec {p : Array Nat} (hp : Pm n p) (hk : Inj key n) (hn : 1 ≤ n) : Run (Fair (n := n)) (ltK key) (kas_count n p) (CountOk (key := key) (n := n)) := by
  unfold kas_count
  refine Run.bind (Run.mono (fun m ⟨h2, h3, h4, h5⟩ => ?_) (asc_spec (key := key) hp (n - 1) 1 (Nat.le_refl _) (by lia) (fun i j hij hj => by have : i = j := (by lia); subst this; exact Int.le_refl _)))
  by_cases hmn : (m == n) = true
  · rw [if_pos hmn]
    exact ⟨h2, by show m ≤ n; lia, hp, h4⟩
  · rw [if_neg hmn]
    have hmn' : m ≠ n := fun z => hmn (by simpa using z)
    have hlt := h5 (by lia)
    by_cases h1 : m > 1
    · rw [if_pos h1]
      have c : Kp' key p 0 < Kp' key p (m - 1) := by
        have a1 := h4 0 (m - 1) (by lia) (by lia)
        have a2 := hp.ne hk (i := 0) (j := m - 1) (by lia) (by lia) (by lia)
        lia
      refine ⟨hp.fair (by lia) (by lia) (by lia), ?_⟩
      dsimp only
      rw [if_pos (show ltK key (p.getD 0 0) (p.getD (m - 1) 0) = true from decide_eq_true c)]
      exact ⟨h2, by show m ≤ n; lia, hp, h4⟩
    · rw [if_neg h1]
      have hm1 : m = 1 := by lia
      subst hm1
      refine descPart_spec hp hk (by lia) ?_
      intro i j hij hj
      by_cases q : i = j
      · subst q; exact Int.le_refl _
      · obtain rfl : i = 0 := by lia
        obtain rfl : j = 1 := by lia
        exact Int.le_of_lt hlt
theorem place_spec {p : Array Nat} {k : Nat} (hp : Pm n p) (hkn : k < n) (hs : Up key p k) : ∀ f l r, l ≤ r → r ≤ k → r - l ≤ f → (∀ i, i < l → Kp' key p i ≤ Kp' key p k) → (∀ i, r ≤ i → i < k → Kp' key p k < Kp' key p i) →
    Run (Fair (n := n)) (ltK key) (kas_place p k f l r) fun m => m ≤ k ∧ (∀ i, i < m → Kp' key p i ≤ Kp' key p k) ∧ (∀ i, m ≤ i → i < k → Kp' key p k < Kp' key p i)
  | 0, l, r, h1, h2, h3, h4, h5 => ⟨by lia, h4, fun i hi => h5 i (by lia)⟩
  | f + 1, l, r, h1, h2, h3, h4, h5 => by
    show Run _ _ (if l ≥ r then KasT.ret l else _) _
    by_cases h : l ≥ r
    · rw [if_pos h]; exact ⟨by lia, h4, fun i hi => h5 i (by lia)⟩
    · rw [if_neg h]
      refine ⟨hp.fair (by lia) (by lia) (by lia), ?_⟩
      dsimp only
      by_cases c : ltK key (p.getD k 0) (p.getD ((l + r) / 2) 0) = true
      · rw [if_pos c]
        have c' : Kp' key p k < Kp' key p ((l + r) / 2) := by unfold ltK at c; exact of_decide_eq_true c
        exact place_spec hp hkn hs f l ((l + r) / 2) (by lia) (by lia) (by lia) h4 fun i hi hik => Int.lt_of_lt_of_le c' (hs _ _ hi hik)
      · rw [if_neg c]
        have c' : Kp' key p ((l + r) / 2) ≤ Kp' key p k := by
          unfold ltK at c
          exact Int.not_lt.mp (of_decide_eq_false (Bool.not_eq_true _ ▸ c))
        exact place_spec hp hkn hs f ((l + r) / 2 + 1) r (by lia) h2 (by lia) (fun i hi => Int.le_trans (hs i ((l + r) / 2) (by lia) (by lia)) c') h5
theorem bin_spec : ∀ f (p : Array Nat) k, Pm n p → k + f = n → Up key p k → Run (Fair (n := n)) (ltK key) (kas_bin f p k) fun q => Pm n q ∧ Up key q n
  | 0, p, k, hp, hk, hs => ⟨hp, by rw [← hk]; exact hs⟩
  | f + 1, p, k, hp, hk, hs => by
    unfold kas_bin
    refine Run.bind (Run.mono (fun m ⟨h1, h2, h3⟩ => ?_) (place_spec hp (by lia) hs k 0 k (Nat.zero_le _) (Nat.le_refl _) (by lia) (fun i hi => absurd hi (Nat.not_lt_zero _)) (fun i hi hik => by lia)))
    refine bin_spec f _ (k + 1) ((bubble_perm p k (k - m)).trans hp) (by lia) ?_
    have hb : ∀ i, Kp' key (bubble p k (k - m)) i = if i = m then Kp' key p k else if m < i ∧ i ≤ k then Kp' key p (i - 1) else Kp' key p i := fun i => by
      have := getElem?_bubble (xs := p) (src := k) (by rw [hp.size]; lia) (k - m) (by lia) i
      rw [show k - (k - m) = m by lia] at this
      unfold Kp'
      by_cases q1 : i = m
      · rw [if_pos q1] at this ⊢; exact congrArg key (at_congr this)
      · rw [if_neg q1] at this ⊢
        by_cases q2 : m < i ∧ i ≤ k
        · rw [if_pos q2] at this ⊢; exact congrArg key (at_congr this)
        · rw [if_neg q2] at this ⊢; exact congrArg key (at_congr this)
    intro i j hij hj
    rw [hb, hb]
    by_cases q1 : i = m
    · rw [if_pos q1]
      by_cases q2 : j = m
      · rw [if_pos q2]; exact Int.le_refl _
      · rw [if_neg q2, if_pos ⟨by lia, by lia⟩]
        exact Int.le_of_lt (h3 (j - 1) (by lia) (by lia))
    · rw [if_neg q1]
      by_cases q3 : m < i ∧ i ≤ k
      · rw [if_pos q3]
        rw [if_neg (by lia), if_pos ⟨by lia, by lia⟩]
        exact hs _ _ (by lia) (by lia)
      · rw [if_neg q3]
        by_cases q2 : j = m
        · rw [if_pos q2]; exact h2 i (by lia)
        · rw [if_neg q2]
          by_cases q4 : m < j ∧ j ≤ k
          · rw [if_pos q4]; exact hs _ _ (by lia) (by lia)
          · rw [if_neg q4]; exact hs _ _ hij (by lia)
theorem sort_spec (hk : Inj key n) (hn : 1 ≤ n) : Run (Fair (n := n)) (ltK key) (kas_sort n) fun q => Pm n q ∧ Up key q n := by
  unfold kas_sort
  refine Run.bind (Run.mono ?_ (count_spec (key := key) (n := n) (p := List.toArray (List.range n)) (Array.Perm.refl _) hk hn))
  rintro ⟨r, q⟩ ⟨h1, h2, h3, h4⟩
  have h1 : 1 ≤ r := h1
  have h2 : r ≤ n := h2
  by_cases h : r < n
  · show Run _ _ (if r < n then _ else _) _
    rw [if_pos h, show max r 1 = r by lia]
    exact bin_spec (key := key) (n - r) q r h3 (by lia) h4
  · show Run _ _ (if r < n then _ else _) _
    rw [if_neg h]
    obtain rfl : r = n := by lia
    exact ⟨h3, h4⟩
end
end
open PySem PySem.W PySem.W.X PyProof.Rows
section
set_option Elab.async false
set_option linter.unusedVariables false
set_option maxRecDepth 100000
theorem pk_lt (P : Params) (S : Setting) : peek (KF P) S (typeLookup (.ref 135) "__lt__") = some (some (.builtin "tuple.__lt__")) := by kernel_rfl
theorem lt_kind : builtinKind "tuple.__lt__" = some .slot := by decide +kernel
theorem lt_split : splitId "tuple.__lt__" = some ("tuple", "__lt__") := by decide +kernel
theorem lt_plain : plainId "tuple.__lt__" = true := by decide +kernel
section
variable {w : World} {A : Around} {E : Value → Shared → Prop} {s : Shared}
theorem mat_lt {x : Addr} {om : Obj} {items : Array Value} {h : Heap} (X : (KF w.params).In h) (hx : h.get? x = some om) (hm : isMat om items) : Looks (model pw w) h (specialOf (.ref x) "__lt__") (some (.builtin "tuple.__lt__")) := by
  unfold specialOf
  exact (mat_type hx hm).andThen (Looks.of_peek X (pk_lt _ _))
theorem tuple_lt_body {x y : Addr} {ox oy : Obj} {u0 v0 : Int} {t0 t0' : Tok} {us vs : List Value} {P : PySem.Fin → Shared → Prop} (X : (KF w.params).In s.heap) (hx : s.heap.get? x = some ox) (hmx : isMat ox (Value.int u0 t0 :: us).toArray) (hy : s.heap.get? y = some oy) (hmy : isMat oy (Value.int v0 t0' :: vs).toArray) (hne : u0 ≠ v0)
    (h : P (.done (.ret (.bool (decide (u0 < v0))))) s) : wpAny (model pw w) A (Builtin.«tuple.__lt__» ⟨[.ref x, .ref y], []⟩) P E s := by
  unfold Builtin.«tuple.__lt__»
  obtain ⟨hx1, hx2, nx, hx3⟩ := id hmx
  obtain ⟨hy1, hy2, ny, hy3⟩ := id hmy
  refine wpAny_bind (m := slotArgs "__lt__" 1 _) (wpAny_of_eq (a := (.ref x, [.ref y])) (by kernel_rfl) ?_)
  refine wpAny_bind ((mat_isTup X hy hmy).here ?_)
  dsimp only
  rw [if_neg (by decide)]
  unfold Builtin.Tuple.tupleItemsOf
  refine wpAny_bind (wpAny_bind (wpAny_seqItems hx hx3 (wpAny_pure ?_)))
  refine wpAny_bind (wpAny_bind (wpAny_seqItems hy hy3 (wpAny_pure ?_)))
  refine wpAny_bind ?_
  rw [show ((Value.int u0 t0 :: us).toArray.toList.zip (Value.int v0 t0' :: vs).toArray.toList) = (Value.int u0 t0, Value.int v0 t0') :: us.zip vs from rfl, List.forIn_cons]
  refine wpAny_bind (wpAny_bind (wpAny_eqBool_int ?_))
  have hb : (u0 == v0) = false := by simpa using hne
  rw [hb, if_pos (by rfl)]
  refine wpAny_bind (wpAny_rule (wpAny_bind ?_))
  show wpAny _ _ (compareOp .Lt (Value.int u0 t0) (Value.int v0 t0')) _ _ _
  refine PyProof.Rows.lt_int ?_
  exact wpAny_bind (wpAny_pure (wpAny_pure (wpAny_pure (wpAny_pure h))))
theorem mat_oneLt {x y : Addr} {ox oy : Obj} {u0 v0 : Int} {t0 t0' : Tok} {us vs : List Value} {Q : Bool → Shared → Prop} (hu : A.units < cLine) (X : (KF w.params).In s.heap) (hx : s.heap.get? x = some ox) (hmx : isMat ox (Value.int u0 t0 :: us).toArray) (hy : s.heap.get? y = some oy) (hmy : isMat oy (Value.int v0 t0' :: vs).toArray) (hne : u0 ≠ v0)
    (h : Q (decide (u0 < v0)) s) : wpAny (model pw w) A (keyLt' oneType' (.ref x) (.ref y)) Q E s := by
  rw [keyLt'_oneType, oneLt'_eq, if_pos rfl]
  refine wpAny_bind (wpAny_cRoomFor hu ?_)
  obtain ⟨hp, g, d, tk, os⟩ := s
  have hs := mat_lt X hx hmx
  have hb : Looks (model pw w) hp (bindSpecial (.builtin "tuple.__lt__") (.ref x)) (.builtin "tuple.__lt__", [.ref x]) := Looks.of_pure (PySem.F.slot_tuple_lt.bind _)
  have fin : ∀ {Q' : Value → Shared → Prop} {E' : Value → Shared → Prop}, Q' (.bool (decide (u0 < v0))) ⟨hp, g, d, tk, os⟩ → wpAny (model pw w) A (call (.builtin "tuple.__lt__") [.ref x, .ref y]) Q' E' ⟨hp, g, d, tk, os⟩ := fun hq => by
    refine wpAny_call (codeAny_call_builtin lt_plain PySem.F.entry_tuple_lt (@check_slot (model pw w) _ _ ⟨hp, g, d, tk, os⟩ "tuple.__lt__" "tuple" "__lt__" (.ref x) [.ref y] [] _ lt_kind lt_split (mat_isTup X hx hmx) (PySem.F.args_tuple_lt_2 _ _) ?_))
    exact tuple_lt_body X hx hmx hy hmy hne hq
  refine wpAny_bind ?_
  unfold callSpecialIfBound? bindSpecialIfBound?
  repeat lk
  rw [PySem.F.slot_tuple_lt.bind]
  split
  · refine wpAny_bind (wpAny_pure (wpAny_pure ?_))
    dsimp only
    refine wpAny_bind (fin (wpAny_pure ?_))
    dsimp only
    refine wpAny_bind (wpAny_truthy_bool ?_)
    exact wpAny_pure h
  · refine wpAny_tryCatch ?_
    refine wpAny_bind (wpAny_pure (wpAny_pure ?_))
    dsimp only
    refine wpAny_bind (fin (wpAny_pure ?_))
    dsimp only
    refine wpAny_bind (wpAny_truthy_bool ?_)
    exact wpAny_pure h
theorem Run.wp {α : Type} {V : Nat → Nat → Prop} {lt : Nat → Nat → Bool} {cmp : Nat → Nat → (Bool → Shared → Prop) → Shared → Prop} {Q : α → Prop} {s : Shared} (hc : ∀ i j C, V i j → C (lt i j) s → cmp i j C s) : ∀ {t : KasT α}, Run V lt t Q → t.kasWp cmp (fun a s' => s' = s ∧ Q a) s
  | .ret _, h => ⟨rfl, h⟩
  | .ask i j k, h => hc i j _ h.1 (Run.wp hc h.2)
/-- a list of matches with different starts -/
noncomputable def Mats (key : Nat → Int) (vs : List Value) (h : Heap) (a : Addr) : Prop := ∀ i, i < vs.length → ∃ x om t us, vs[i]? = some (.ref x) ∧ h.get? x = some om ∧ x ≠ a ∧ isMat om (Value.int (key i) t :: us).toArray
theorem sort_mats {key : Nat → Int} {a : Addr} {vs : List Value} {n : Nat} {P : PySem.Fin → Shared → Prop} (hu : A.units < cLine) (X : (KF w.params).In s.heap) (hXa : (KF w.params).lookup a = none) (ho : s.heap.get? a = some (seqObj "list" vs.toArray n)) (h64 : vs.length < 64) (hM : Mats key vs s.heap a) (hk : Inj key vs.length)
    (h : ∀ (p : Array Nat) h' n', Pm vs.length p → Up key p vs.length → (∀ b o, b ≠ a → s.heap.get? b = some o → h'.get? b = some o) → h'.get? a = some (seqObj "list" (p.toList.map fun i => vs.getD i Value.none).toArray n') → P (.done (.ret .none)) { s with heap := h' }) :
    wpAny (model pw w) A (Builtin.«list.sort» ⟨[.ref a], []⟩) P E s := by
  have ha : a < s.heap.objs.size := Heap.lt_size ho
  have s1 := Heap.SameBut.update s.heap a (Obj.mapSeq fun _ => (#[] : Array Value))
  obtain ⟨e1, ho1⟩ : ∃ e1, (s.heap.update a (Obj.mapSeq fun _ => (#[] : Array Value))).get? a = some (seqObj "list" #[] e1) := ⟨_, get?_update_seq ho fun _ => #[]⟩
  rw [list_sort_plain]
  refine wpAny_bind (listItems_at ho rfl ?_)
  refine wpAny_bind (listUpdate_at ho rfl ?_ (by rw [List.size_toArray, sizeLine_eq]; lia) (Nat.zero_le _))
  refine wpAny_bind (seqEpoch_at ho1 rfl ?_)
  refine wpAny_bind (wpAny_newTuple ?_ (by show vs.length ≤ _; rw [sizeLine_eq]; lia))
  refine wpAny_bind (wpAny_newList ?_ (Nat.zero_le _))
  refine wpAny_holding ?_
  obtain ⟨h3, hh3⟩ : ∃ h3, h3 = ((s.heap.update a (Obj.mapSeq fun _ => (#[] : Array Value))).push (seqObj "tuple" vs.toArray 0)).push (seqObj "list" #[] 0) := ⟨_, rfl⟩
  have k3 : ∀ b o, b ≠ a → s.heap.get? b = some o → h3.get? b = some o := fun b o hb q => by
    rw [hh3]; exact Heap.get?_push_of_some _ (Heap.get?_push_of_some _ ((s1.2 b hb).trans q))
  have ha3 : h3.get? a = some (seqObj "list" #[] e1) := by rw [hh3]; exact Heap.get?_push_of_some _ (Heap.get?_push_of_some _ ho1)
  have X3 : (KF w.params).In h3 := fun b o e => k3 b o (fun z => by rw [z, hXa] at e; cases e) (X b o e)
  show wpAny (model pw w) A _ P E { s with heap := ((s.heap.update a (Obj.mapSeq fun _ => (#[] : Array Value))).push (seqObj "tuple" vs.toArray 0)).push (seqObj "list" #[] 0) }
  rw [← hh3]
  clear hh3
  dsimp only
  have fin : ∀ (st : SortSt) (p : Array Nat), Pm vs.length p → Up key p vs.length → (arrOf st).map (·.2) = List.toArray (p.toList.map fun i => vs.getD i Value.none) → failedOf st = none →
      wpAny (model pw w) A (do
        let touched := (← seqEpoch a) != e1
        Builtin.List.listUpdate (.ref a) fun _ => (arrOf st).map (·.2)
        if let some e := failedOf st then rule "list.sort.comparison-raised"; throw e
        if touched then rule "list.sort.modified"; raiseError "ValueError" "list modified during sort"
        ret .none) P E { s with heap := h3 } := fun st p h1 h2 h4 h5 => by
    rw [h4]
    have hsz : (List.toArray (p.toList.map fun i => vs.getD i Value.none)).size = vs.length := by rw [List.size_toArray, List.length_map, Array.length_toList, h1.size]
    have s2 := Heap.SameBut.update h3 a (Obj.mapSeq fun _ => List.toArray (p.toList.map fun i => vs.getD i Value.none))
    obtain ⟨c2, hc2⟩ : ∃ c2, (h3.update a (Obj.mapSeq fun _ => List.toArray (p.toList.map fun i => vs.getD i Value.none))).get? a = some (seqObj "list" (List.toArray (p.toList.map fun i => vs.getD i Value.none)) c2) := ⟨_, get?_update_seq ha3 fun _ => List.toArray (p.toList.map fun i => vs.getD i Value.none)⟩
    refine wpAny_bind (seqEpoch_at ha3 rfl ?_)
    refine wpAny_bind (listUpdate_at ha3 rfl ?_ (Nat.zero_le _) (Nat.le_trans (Nat.le_of_eq hsz) (by rw [sizeLine_eq]; lia)))
    rw [h5]
    simp only [bne_self_eq_false, Bool.false_eq_true, if_false]
    exact wpAny_pure (h p _ c2 h1 h2 (fun b o hb q => (s2.2 b hb).trans (k3 b o hb q)) hc2)
  by_cases h2 : vs.toArray.size < 2
  · rw [if_pos h2, if_pos h2]
    refine wpAny_bind (wpAny_pure ?_)
    rw [StateT.run_pure]
    refine wpAny_bind (wpAny_pure ?_)
    dsimp only
    refine fin (SortSt.mk' general' (vs.toArray.zip vs.toArray) #[] 7 none) (List.toArray (List.range vs.length)) (Array.Perm.refl _) ?_ ?_ rfl
    · intro i j hij hj
      have : vs.length < 2 := by simpa using h2
      have : i = j := by lia
      subst this; exact Int.le_refl _
    · apply Array.toList_inj.mp
      apply List.ext_getElem?
      intro i
      by_cases hi : i < vs.length
      · simp [hi, List.getElem?_map, List.getElem?_range]
      · simp [hi, Nat.le_of_not_lt hi]
  · rw [if_neg h2, if_neg h2]
    have h2' : 2 ≤ vs.length := by
      have : ¬ vs.length < 2 := by simpa using h2
      lia
    refine wpAny_bind (kas_kind (T := .ref 135) h2' (fun v hv => ?_) (by decide) (by decide) ?_)
    · obtain ⟨i, hi, e⟩ := List.mem_iff_getElem.mp hv
      obtain ⟨x, om, t, us, g1, g2, g3, g4⟩ := hM i hi
      rw [List.getElem?_eq_getElem hi, e] at g1
      cases g1
      exact mat_type (k3 x om g3 g2) g4
    · have est : SortSt.mk' oneType' (vs.toArray.zip vs.toArray) #[] 7 none = kas_st oneType' (pairsOf vs) (List.toArray (List.range vs.length)) := by
        have e := kas_range (pairsOf vs)
        rw [pairsOf_size] at e
        show SortSt.mk' oneType' (pairsOf vs) #[] 7 none = SortSt.mk' oneType' ((List.toArray (List.range vs.length)).map (kas_item (pairsOf vs))) #[] 7 none
        rw [e]
      have ask : (kas_sort vs.length).kasWp (kas_cmp pw w A oneType' (pairsOf vs)) (fun p s' => s' = { s with heap := h3 } ∧ Pm vs.length p ∧ Up key p vs.length) { s with heap := h3 } := by
        refine Run.wp (fun i j C hf hC => ?_) (sort_spec (key := key) hk (by lia))
        obtain ⟨f1, f2, f3⟩ := hf
        obtain ⟨x, om, t, us, g1, g2, g3, g4⟩ := hM i f1
        obtain ⟨y, oy, t', us', q1, q2, q3, q4⟩ := hM j f2
        unfold kas_cmp
        rw [kas_item_eq, kas_item_eq]
        rw [show vs.getD i Value.none = .ref x from by rw [List.getD_eq_getElem?_getD, g1]; rfl, show vs.getD j Value.none = .ref y from by rw [List.getD_eq_getElem?_getD, q1]; rfl]
        exact mat_oneLt hu X3 (k3 x om g3 g2) g4 (k3 y oy q3 q2) q4 (fun e => f3 (hk i j f1 f2 e)) hC
      have run := kas_runs (E := E) (Q := fun _ st' s' => ∃ p : Array Nat, s' = { s with heap := h3 } ∧ Pm vs.length p ∧ Up key p vs.length ∧ arrOf st' = p.map (kas_item (pairsOf vs)) ∧ failedOf st' = none)
        h2' h64 (fun p' st' s' a1 a2 a3 a4 => ⟨p', a4.1, a4.2.1, a4.2.2, a2, a3⟩) ask
      rw [← est] at run
      refine wpAny_bind (wpAny_mono run ?_ fun _ _ e => e)
      rintro ⟨⟨⟩, st'⟩ s' ⟨p, rfl, g1, g2, g3, g4⟩
      dsimp only
      refine fin st' p g1 g2 ?_ g4
      apply Array.toList_inj.mp
      rw [g3, Array.map_map, Array.toList_map]
      exact List.map_congr_left fun i _ => by show (kas_item (pairsOf vs) i).2 = _; rw [kas_item_eq]
end
end
open PySem PySem.W PySem.W.X PyProof.Rows
section
set_option Elab.async false
set_option linter.unusedVariables false
set_option maxRecDepth 100000
theorem SF.kfF {w : World} {K : Kp} {F : PH} {cs : List CellAt} {s : Shared} (h : SF w K F cs s) {a : Addr} {o : Obj} (e : (KF w.params).lookup a = some o) : F a = some o := by
  have m := lookup_mem e
  exact h.top a o (map_at (kf_keys w.params) _ m)
noncomputable def keyM : MV → Int
  | .mat (.int i :: _) => i
  | _ => 0
noncomputable def isMatM : MV → Prop
  | .mat (.int _ :: _) => True
  | _ => False
section
variable {c : Cx} {n : Nat} {cs : List CellAt} {vs : List MV}
theorem GMv.sort {j : Nat} {a : Addr} {xs : List MV} (hk : cs[j]? = some ⟨a, [], .list xs⟩) : GMv c cs vs (.cell j) "sort" (.builtin "list.sort") [.cell j] := .mk fun A K F s Q v pl S d hQ => by
  have hv := cell_addr d hk
  obtain ⟨_, o, us, e1, q, dd⟩ := S.cl _ (List.mem_of_getElem? hk)
  subst hv
  exact getMethod_list_of slot_list_sort (by kernel_rfl) (q.isList e1) ⟨o, e1, q.2.1⟩ (hQ _ s S (.cons d .nil))
theorem matM_of {m : MV} (h : isMatM m) : ∃ i ys, m = .mat (.int i :: ys) := by
  unfold isMatM at h
  split at h
  · exact ⟨_, _, rfl⟩
  · exact h.elim
theorem mat_val {w : World} {F : PH} {as : List Addr} {m : MV} {v : Value} (d : DV w F as m v) (h : isMatM m) : ∃ x om t us, v = .ref x ∧ F x = some om ∧ isMat om (Value.int (keyM m) t :: us).toArray := by
  obtain ⟨i, ys, rfl⟩ := matM_of h
  apply d.matI; intro x om ws e hm dd
  obtain ⟨l⟩ := ws
  have key : ∀ l, DVs w F [] (.int i :: ys) l → isMat om ⟨l⟩ → ∃ t us, isMat om (Value.int i t :: us).toArray := fun l dd => by
    apply dd.consI; intro v us d1 _
    apply d1.intI; intro t hm
    exact ⟨t, us, hm⟩
  obtain ⟨t, us, hx⟩ := key l dd hm
  exact ⟨x, om, t, us, rfl, e, hx⟩
theorem CX.sortM {j : Nat} {a : Addr} {ms : List MV} (hk : cs[j]? = some ⟨a, [], .list ms⟩) (hM : ∀ m ∈ ms, isMatM m) (hd : (ms.map keyM).Nodup) (h64 : ms.length < 64) :
    CX c (n + 1) cs vs (.builtin "list.sort") [.cell j] (fun m' cs' => m' = .none ∧ ∃ ms', ms'.Perm ms ∧ ms'.Pairwise (fun x y => keyM x ≤ keyM y) ∧ cs' = cs.set j ⟨a, [], .list ms'⟩) := .mk fun A K F s Q us hA S d hQ => by
  apply d.consI; intro _ _ d1 d2
  apply d2.nilI
  have hv := cell_addr d1 hk
  obtain ⟨_, o, its, e1, q, dd⟩ := S.cl _ (List.mem_of_getElem? hk)
  subst hv
  obtain ⟨mm, rfl⟩ := q.obj
  have hFa := (S.ap a (mem_foots (List.mem_of_getElem? hk) (.head _))).1
  have hXa : (KF c.w.params).lookup a = none := by
    cases e : (KF c.w.params).lookup a with
    | none => rfl
    | some o => rw [S.toSF.kfF e] at hFa; cases hFa
  have hlen := dd.length
  have hu : A.in1.units < cLine := by
    have := hA.units
    show A.units + 1 < _
    lia
  have ho : s.heap.get? a = some (seqObj "list" its.toList.toArray mm) := by rw [Array.toArray_toList]; exact e1
  refine wpAny_call_entry slot_list_sort ⟨_, e1, rfl⟩ entry_list_sort ?_ (args_list_sort _)
  refine sort_mats (key := fun i => keyM (ms.getD i .none)) hu S.toSF.kf hXa ho (by rw [← hlen]; exact h64) (fun i hi => ?_) (fun i k hi hk' e => ?_) fun p h' n' hp hup hkeep hget => ?_
  · rw [← hlen] at hi
    obtain ⟨v, ev, dv⟩ := dd.get (i := i) (x := ms[i]) (List.getElem?_eq_getElem hi)
    obtain ⟨x, om, t, us, g1, g2, g3⟩ := mat_val dv (hM _ (List.getElem_mem hi))
    have hne : x ≠ a := fun z => by rw [z] at g2; have g2 : F a = some om := g2; rw [hFa] at g2; cases g2
    refine ⟨x, om, t, us, by rw [ev, g1], S.fz _ _ g2, hne, ?_⟩
    dsimp only
    rw [show ms.getD i .none = ms[i] from by rw [List.getD_eq_getElem?_getD, List.getElem?_eq_getElem hi]; rfl]
    exact g3
  · rw [← hlen] at hi hk'
    have e1 : ∀ i, i < ms.length → (ms.map keyM)[i]? = some (keyM (ms.getD i .none)) := fun i hi => by
      rw [List.getElem?_map, List.getElem?_eq_getElem hi, List.getD_eq_getElem?_getD, List.getElem?_eq_getElem hi]; rfl
    exact (List.getElem?_inj (by rw [List.length_map]; exact hi) hd).mp (by rw [e1 i hi, e1 k hk']; exact congrArg some e)
  · refine ⟨_, rfl, ?_⟩
    rw [← hlen] at hp hup
    have hpp : p.toList.Perm (List.range ms.length) := by
      have := Array.perm_iff_toList_perm.mp hp
      simpa using this
    have hids : (List.range ms.length).map (fun i => ms.getD i .none) = ms := by
      apply List.ext_getElem?
      intro i
      by_cases hi : i < ms.length
      · simp [hi]
      · simp [hi]
    refine hQ F .none _ .none _ (PH.le.refl _) (S.setCell (s' := { s with heap := h' }) hk (y := ⟨a, [], .list (p.toList.map fun i => ms.getD i .none)⟩) rfl rfl (fun b o hb e => hkeep b o (fun z => hb (z ▸ .head _)) e) (fun b hb => ?_) ⟨rfl, _, _, hget, ⟨rfl, rfl, rfl, _, rfl⟩, ?_⟩ rfl rfl) .none (by rw [adrs_set hk (y := ⟨a, [], .list (p.toList.map fun i => ms.getD i .none)⟩) rfl]; exact asLe.refl _) ⟨rfl, _, ?_, ?_, rfl⟩
    · have hb : b ∈ ([a] : List Addr) := hb
      rw [List.mem_singleton.mp hb]; exact ⟨_, hget⟩
    · show DVs c.w F [] _ (p.toList.map fun i => its.toList.getD i Value.none)
      have hall : ∀ i ∈ p.toList, i < ms.length := fun i hi => by simpa using hpp.mem_iff.mp hi
      clear hpp hget hup hp
      generalize p.toList = l at hall
      induction l with
      | nil => exact .nil
      | cons i l ih =>
        have hi := hall i (.head _)
        obtain ⟨v, ev, dv⟩ := dd.get (i := i) (x := ms[i]) (List.getElem?_eq_getElem hi)
        rw [List.map_cons, List.map_cons]
        refine .cons ?_ (ih fun j hj => hall j (.tail _ hj))
        rw [List.getD_eq_getElem?_getD, List.getElem?_eq_getElem hi, List.getD_eq_getElem?_getD, ev]
        exact dv
    · have := hpp.map (fun i => ms.getD i .none)
      rw [hids] at this; exact this
    · rw [List.pairwise_map]
      rw [List.pairwise_iff_getElem]
      intro i j hi hj hij
      have hsz : p.size = ms.length := hp.size
      have hi' : i < p.size := by simpa using hi
      have hj' : j < p.size := by simpa using hj
      have := hup i j (by lia) (by lia)
      unfold Kp' At' at this
      simpa [Array.getD, hi', hj'] using this
end
end
open PySem PySem.W PySem.W.X PyProof.Rows
section
set_option Elab.async false
set_option linter.unusedVariables false
set_option maxRecDepth 100000
set_option maxHeartbeats 1000000
theorem pk_len (P : Params) (S : Setting) : peek (KF P) S (typeLookup (.ref 135) "__len__") = some (some (.builtin "tuple.__len__")) := by kernel_rfl
theorem tl_kind : builtinKind "tuple.__len__" = some .slot := by decide +kernel
theorem tl_split : splitId "tuple.__len__" = some ("tuple", "__len__") := by decide +kernel
theorem tl_plain : plainId "tuple.__len__" = true := by decide +kernel
theorem len_mat {w : World} {A : Around} {E : Value → Shared → Prop} {s : Shared} {x : Addr} {om : Obj} {items : Array Value} {Q : Value → Shared → Prop} (X : (KF w.params).In s.heap) (hx : s.heap.get? x = some om) (hm : isMat om items) (hz : items.size ≤ 1000)
    (hQ : ∀ t k, Q (.int items.size t) { s with toks := k }) : wpAny (model pw w) A (call (.builtin "len") [.ref x]) Q E s := by
  refine Calls.call_function_entry kind_len plain_len entry_len (args_len1 _) ?_
  unfold Builtin.«len»
  refine wpAny_bind (m := oneArg "len" _) (wpAny_pure ?_)
  have hs : Looks (model pw w) s.heap (specialOf (.ref x) "__len__") (some (.builtin "tuple.__len__")) := by
    unfold specialOf
    exact (mat_type hx hm).andThen (Looks.of_peek X (pk_len _ _))
  refine wpAny_bind ?_
  unfold callSpecial?
  refine wpAny_bind (hs.here ?_)
  dsimp only
  refine wpAny_holding ?_
  rw [PySem.F.slot_tuple_len.bind]
  refine wpAny_bind (wpAny_pure ?_)
  refine wpAny_bind ?_
  refine wpAny_call (codeAny_call_builtin tl_plain PySem.F.entry_tuple_len (@check_slot (model pw w) _ _ s "tuple.__len__" "tuple" "__len__" (.ref x) [] [] _ tl_kind tl_split (mat_isTup X hx hm) (PySem.F.args_tuple_len_1 _) ?_))
  show wpAny _ _ (do retInt (← Builtin.Tuple.tupleItemsOf (.ref x)).size) _ _ s
  obtain ⟨_, _, nn, hd⟩ := id hm
  unfold Builtin.Tuple.tupleItemsOf
  refine wpAny_bind (wpAny_bind (wpAny_seqItems hx hd (wpAny_pure ?_)))
  refine wpAny_bind (wpAny_mkInt (wpAny_pure (wpAny_pure ?_)))
  dsimp only
  refine wpAny_bind (wpAny_holding (wpAny_pure ?_))
  refine wpAny_bind (wpAny_letGo ?_)
  show wpAny _ _ (if ((items.size : Nat) : Int) < 0 then _ else _) _ _ _
  rw [if_neg (by lia)]
  show wpAny _ _ (if ((items.size : Nat) : Int) ≥ 2 ^ 63 then _ else _) _ _ _
  rw [if_neg (by lia)]
  exact wpAny_bind (wpAny_mkInt (wpAny_pure ⟨_, rfl, hQ _ _⟩))
theorem fn89 (w : World) : IsFn w 89 88 (B.o_84 w.params) := IsFn.of (oc := B.o_83 w.params) (by kernel_rfl) (isTop (by kernel_rfl)) rfl (isTop (by kernel_rfl)) rfl rfl
theorem ok89 (P : Params) : fnOk (B.o_84 P) = true := by kernel_rfl
section
variable {c : Cx} {n : Nat} {cs : List CellAt} {vs : List MV}
theorem CS.lenM {ms : List MV} (hz : ms.length ≤ 1000) : CS c n cs vs (.builtin "len") [.mat ms] (.int ms.length) := .mk fun A K F s Q us hA S d hQ => by
  apply d.consI; intro _ _ d1 d2
  apply d2.nilI
  apply d1.matI; intro _ _ _ e q d
  refine len_mat S.toSF.kf (S.fz _ _ e) q (by rw [arr_len d]; exact hz) fun t k => ?_
  rw [arr_len d]
  exact hQ _ _ _ (PH.le.refl _) (S.toks _) (.int _ _)
end
end
open PySem PySem.W PySem.W.X PyProof.Rows
section
set_option Elab.async false
set_option linter.unusedVariables false
set_option maxRecDepth 100000
theorem slot_map_next : Slot "map" "__next__" "map.__next__" :=
  .of (owner := "map") (n := "__next__") (by rw [typeLookup_type, builtinLookup_eq_fast]; kernel_rfl) (by decide +kernel) (by decide +kernel) (by decide +kernel)
    (by first | exact .inl (by decide +kernel) | exact .inr (by decide +kernel)) (by rw [isSubtype_type]; kernel_rfl)
theorem slot_map_iter : Slot "map" "__iter__" "map.__iter__" :=
  .of (owner := "map") (n := "__iter__") (by rw [typeLookup_type, builtinLookup_eq_fast]; kernel_rfl) (by decide +kernel) (by decide +kernel) (by decide +kernel)
    (by first | exact .inl (by decide +kernel) | exact .inr (by decide +kernel)) (by rw [isSubtype_type]; kernel_rfl)
theorem slot_map_init : Slot "map" "__init__" "object.__init__" :=
  .of (owner := "object") (n := "__init__") (by rw [typeLookup_type, builtinLookup_eq_fast]; kernel_rfl) (by decide +kernel) (by decide +kernel) (by decide +kernel)
    (by first | exact .inl (by decide +kernel) | exact .inr (by decide +kernel)) (by rw [isSubtype_type]; kernel_rfl)
theorem entry_map_next : entryFor table "map.__next__" = some Builtin.«map.__next__» := entryFor_of_tree (by kernel_rfl)
theorem entry_map_new : entryFor table "map.__new__" = some Builtin.«map.__new__» := entryFor_of_tree (by kernel_rfl)
theorem entry_map_iter : entryFor table "map.__iter__" = some Builtin.«dict_keyiterator.__iter__» :=
  entryFor_alias (id' := "dict_keyiterator.__iter__") (by kernel_rfl) (by first | rfl | decide +kernel | (unfold String.splitOn; simp +decide [String.splitOnAux])) (by decide +kernel) (by kernel_rfl)
theorem args_map_next (a : Value) : argsOk "map.__next__" ⟨[a], []⟩ := by unfold argsOk; kernel_rfl
theorem args_map_iter (a : Value) : argsOk "map.__iter__" ⟨[a], []⟩ := by unfold argsOk; kernel_rfl
theorem mro_map : mroOf (.type "map") = pure [.type "map", .type "object"] := by rw [mroOf_type]; kernel_rfl
theorem lookup_map_new : typeLookup (.type "map") "__new__" = pure (some (.builtin "map.__new__")) := by rw [typeLookup_type, builtinLookup_eq_fast]; kernel_rfl
theorem sub_map : isSubtype (.type "map") (.type "map") = pure true := by rw [isSubtype_type]; kernel_rfl
theorem called_map : TypeCalled "map" "map.__new__" "object.__init__" :=
  ⟨by decide +kernel, by decide +kernel, ⟨_, _, mro_map⟩, madeBy_type mro_map lookup_map_new (by decide +kernel), by decide +kernel, sub_map, slot_map_init⟩
theorem typeCall_map (a b : Value) : checkTypeCall "map" ⟨[a, b], []⟩ = pure () := by kernel_rfl
theorem newCall_map (a b : Value) : checkBuiltinCall "map.__new__" ⟨[.type "map", a, b], []⟩ = pure () := by kernel_rfl
theorem map_no_len : typeLookup (.type "map") "__len__" = pure none := by rw [typeLookup_type, builtinLookup_eq_fast]; kernel_rfl
theorem map_no_hint : typeLookup (.type "map") "__length_hint__" = pure none := by rw [typeLookup_type, builtinLookup_eq_fast]; kernel_rfl
noncomputable abbrev mapObj (T q : Addr) : Obj := { cls := .type "map", data := .fields #[.ref T, .ref q] }
noncomputable abbrev tupObj (it : Addr) : Obj := { cls := .type "tuple", data := .seq #[.ref it] }
noncomputable abbrev itObj (l : Addr) (i : Nat) : Obj := { cls := .type "list_iterator", data := .fields #[.ref l, .int i 0] }
theorem meets_map_new (q l : Addr) : Meets (Builtin.«map.__new__» ⟨[.type "map", .ref q, .ref l], []⟩) (fun _ R s => (∃ items, s.heap.IsList l items) ∧
      R (.ok (.ret (.ref (s.heap.objs.size + 2)))) { s with heap := ((s.heap.push (itObj l 0)).push (tupObj s.heap.objs.size)).push (mapObj (s.heap.objs.size + 1) q) }) :=
  .of_wp fun prog w A R s h => by
    obtain ⟨⟨items, hl⟩, h⟩ := h
    unfold Builtin.«map.__new__»
    refine wpAny_bind ?_
    unfold Builtin.SmallTypes.newClass
    refine wpAny_bind (m := isType _) (wpAny_pure ?_)
    rw [if_neg (by decide)]
    refine wpAny_bind (wpAny_of_eq sub_map ?_)
    rw [if_neg (by decide)]
    refine wpAny_pure ?_
    refine wpAny_bind (m := Builtin.SmallTypes.refuseKeywords _ _ _) (wpAny_pure ?_)
    dsimp only
    rw [if_neg (by exact Nat.lt_irrefl 2)]
    refine wpAny_bind ?_
    unfold Builtin.SmallTypes.iterAll
    refine wpAny_bind ?_
    rw [show List.drop 1 [Value.ref q, Value.ref l] = [Value.ref l] from rfl, List.forIn_cons]
    refine wpAny_bind (wpAny_bind (wpAny_holding (wpAny_pyIter_list hl ?_)))
    refine wpAny_pure ?_
    dsimp only
    rw [List.forIn_nil]
    refine wpAny_pure (wpAny_pure ?_)
    refine wpAny_bind (wpAny_newTuple ?_ (show 1 ≤ sizeLine from by decide))
    refine wpAny_bind ?_
    unfold Builtin.SmallTypes.newRecord
    dsimp only
    refine wpAny_newObj_type ?_
    rw [Heap.size_push, Heap.size_push]
    exact wpAny_pure ⟨_, rfl, h⟩
section
variable {w : World} {A : Around} {E : Value → Shared → Prop} {s : Shared}
theorem call_map {q l : Addr} {items : Array Value} {Q : Value → Shared → Prop} (hl : s.heap.IsList l items)
    (h : Q (.ref (s.heap.objs.size + 2)) { s with heap := ((s.heap.push (itObj l 0)).push (tupObj s.heap.objs.size)).push (mapObj (s.heap.objs.size + 1) q) }) : wpAny (model pw w) A (call (.type "map") [.ref q, .ref l]) Q E s := by
  refine callType_new called_map (by decide) (typeCall_map _ _) (newCall_map _ _) (fun obj => PySem.F.initArgs_range_2 obj _ _) entry_map_new (meets_map_new q l) ⟨⟨items, hl⟩, ?_⟩
  refine ⟨⟨mapObj (s.heap.objs.size + 1) q, ?_, rfl⟩, h⟩
  have : s.heap.objs.size + 2 = ((s.heap.push (itObj l 0)).push (tupObj s.heap.objs.size)).objs.size := by rw [Heap.size_push, Heap.size_push]
  rw [this]
  exact Heap.get?_push_size _ rfl
end
end
open PySem PySem.W PySem.W.X PyProof.Rows
section
set_option Elab.async false
set_option linter.unusedVariables false
set_option maxRecDepth 100000
set_option maxHeartbeats 1000000
section
variable {c : Cx} {n : Nat} {cs : List CellAt} {vs : List MV}
/-- a def's code, run -/
theorem code_fnX {a cc : Addr} {o : Obj} (f : IsFn c.w a cc o) (hok : fnOk o = true) (hgen : (funcOf o).scope.isGenerator = false) (ps rest xs0 : List Str) {ms vs0 : List MV} {R : MV → List CellAt → Prop}
    (hb : ∀ us : List Value, us.length = ms.length → bindArgs (funcOf o) ⟨us, []⟩ = pure (ps.zip us)) (hlen : ps.length = ms.length) (hxs : ps ++ rest = xs0) (hvs : ms ++ List.replicate rest.length .unb = vs0) (hnd : xs0.Nodup)
    (hloc : ps.all (fun x => match (funcOf o).scope.names.lookup x with | some .local => true | _ => false) = true)
    (h : ∀ L P, CxOk (FnCx c.w a o L xs0) → (∀ m cs' vs', asLe (adrs cs) (adrs cs') → R m cs' → P (.ret m) cs' vs') → (∀ cs' vs', asLe (adrs cs) (adrs cs') → R .none cs' → P .next cs' vs') → XS (FnCx c.w a o L xs0) n cs vs0 [bodyOf o] P)
    {A : Around} {K : Kp} {F : PH} {s : Shared} {R' : Result → Shared → Prop} {us : List Value} (hA : Room (n + 1) A) (S : St c.w K F cs c.L c.xs vs s) (d : DVs c.w F (adrs cs) ms us)
    (hQ : ∀ F' v s' m cs', PH.le F F' → St c.w K F' cs' c.L c.xs vs s' → DV c.w F' (adrs cs') m v → asLe (adrs cs) (adrs cs') → R m cs' → R' (.ok (.ret v)) s') : codeAny (model pw c.w) A (.call (.ref a) ⟨us, []⟩) R' s := by
  have hx := fun L => XS.of (h L (fun fl cs' _ => asLe (adrs cs) (adrs cs') ∧ ∃ m, (fl = .ret m ∨ (fl = .next ∧ m = .none)) ∧ R m cs') (f.ok hok hnd) (fun m cs' vs' ha hr => ⟨ha, m, .inl rfl, hr⟩) (fun cs' vs' ha hr => ⟨ha, .none, .inr ⟨rfl, rfl⟩, hr⟩))
  subst hxs; subst hvs
  obtain ⟨oL, eL, S1, back⟩ := S.leave
  have hl := d.length
  refine call_fn f hgen (n := n) hA S1 (ps := ps) (us := us) (rest := rest) (fun Q' hQ' => wpAny_of_eq (hb us hl.symm) hQ') d (by rw [hlen, hl]) (List.nodup_append.mp hnd).1 (fun x hx => by
    have := List.all_eq_true.mp hloc x hx
    refine mem_lu ?_
    cases q : (funcOf o).scope.names.lookup x with
    | none => rw [q] at this; cases this
    | some kd => rw [q] at this; cases kd <;> first | rfl | cases this) (fnOk.nd hok) fun L s1 S2 => ?_
  refine (hx L).go _ (K.hold c.L oL) F s1 _ ⟨hA.handled, by have := hA.depth; show A.depth + 1 + n ≤ _; omega, by have := hA.units; show A.units + 3 + 10 * n ≤ _; omega⟩ S2 fun F' fl s2 fl' cs' vs' l S3 r p => ?_
  obtain ⟨ha, m, hm, p⟩ := p
  have S4 := back K F' cs' s2 S.lB (fun m' q => q.mono l ha) S3.toSF
  rcases hm with rfl | ⟨rfl, rfl⟩
  · cases r with
    | ret dv => exact hQ F' _ s2 m cs' l S4 dv ha p
  · cases r with
    | next => exact hQ F' _ s2 .none cs' l S4 .none ha p
theorem make_code {i j k : Int} {A : Around} {K : Kp} {F : PH} {s : Shared} {R' : Result → Shared → Prop} {us : List Value} (hA : Room (n + 1) A) (S : St c.w K F cs c.L c.xs vs s) (d : DVs c.w F (adrs cs) [.val (.ref 135), .tup [.int i, .int j, .int k]] us)
    (hQ : ∀ F' v s', PH.le F F' → St c.w K F' cs c.L c.xs vs s' → DV c.w F' (adrs cs) (.mat [.int i, .int j, .int k]) v → R' (.ok (.ret v)) s') : codeAny (model pw c.w) A (.call (.ref 89) ⟨us, []⟩) R' s := by
  refine code_fnX (n := n) (R := fun m cs' => m = .mat [.int i, .int j, .int k] ∧ cs' = cs) (vs0 := [.val (.ref 135), .tup [.int i, .int j, .int k], .unb]) (fn89 c.w) (ok89 _) rfl ["cls", "iterable"] ["result"] ["cls", "iterable", "result"] ?_ rfl rfl rfl (by decide) (by kernel_rfl) (fun L P ok hR _ => ?_) hA S d fun F' v s' m cs' l S' d' a p => by obtain ⟨rfl, rfl⟩ := p; exact hQ F' v s' l S' d'
  · exact all2 fun x y => rfl
  have hR := fun vs' => hR _ cs vs' (asLe.refl _) ⟨rfl, rfl⟩
  refine XS.doc ?_
  refine XS.asg ok (EVx.ev (EVx.meth (name := "__new__") (mo := .val (.type "tuple")) (EV.bi ok (mem_lu (by kernel_rfl)) (by kernel_rfl) (by kernel_rfl)) GMv.tupleNew (fun _ _ _ _ => .bi _) (by walk_at "m_evs") (CS.matNew (by exact Nat.le_of_ble_eq_true rfl)).cx)) (mem_lu (by kernel_rfl)) (by walk_at "m_at") ?_
  refine XS.ite (TV.nei (a := 3) (b := 3) (EV.callB (EV.bi ok (mem_lu (by kernel_rfl)) (by kernel_rfl) (by kernel_rfl)) (by walk_at "m_evs") (CS.lenM (ms := [.int i, .int j, .int k]) (by exact Nat.le_of_ble_eq_true rfl))) (by walk_at "m_ev")) (fun h => nomatch h) (fun _ => XS.nil ?_)
  exact XS.ret (by walk_at "m_ev") (hR _)
end
theorem fc_make (P : Params) : findCls (KF P) (.ref 135) (.type "type") "_make" = some (.get (.builtin "classmethod.__get__") (.ref 91) .none (.ref 135)) := by kernel_rfl
theorem rec_91 (P : Params) : (recIn (KF P) 91 "classmethod").map (fun l => l.head?) = some (some (.ref 89)) := by kernel_rfl
section
variable {w : World} {A : Around} {E : Value → Shared → Prop} {s : Shared}
theorem getAttr_make {expr : Bool} {Q : Value → Shared → Prop} (X : (KF w.params).In s.heap) (h : Q (.ref s.heap.objs.size) { s with heap := s.heap.push (methodObj (.ref 89) (.ref 135)), toks := s.toks + 1 }) : wpAny (model pw w) A (getAttr (.ref 135) "_make" expr) Q E s := by
  refine cls_bind X (rd_135 _) (fc_make _) (wpAny_call ?_)
  obtain ⟨l, hl, hl2⟩ := Option.map_eq_some_iff.mp (rec_91 w.params)
  cases l with
  | nil => cases hl2
  | cons f rest =>
  cases hl2
  refine cm_get (s := { s with toks := s.toks + 1 }) X hl ?_
  dsimp only
  rw [handedOut_of (by rfl)]
  exact wpAny_pure h
theorem call_method {q f self : Addr} {us : List Value} {Q : Value → Shared → Prop} (hq : s.heap.get? q = some (methodObj (.ref f) (.ref self))) (h : codeAny (model pw w) A (.call (.ref f) ⟨.ref self :: us, []⟩) (wants Q E) s) : wpAny (model pw w) A (call (.ref q) us) Q E s := by
  refine wpAny_call (codeAny_of_tree ?_)
  show wpAny _ _ (callAny (.ref q) ⟨us, []⟩) _ _ _
  unfold callAny
  refine wpAny_bind (wpAny_load hq ?_)
  show wpAny _ _ (again (.call (.ref f) ⟨.ref self :: us, []⟩)) _ _ _
  exact wpAny_pure ⟨rfl, h⟩
theorem pyIter_map {I T q : Addr} {Q : Value → Shared → Prop} (hI : s.heap.get? I = some (mapObj T q)) (h : Q (.ref I) s) : wpAny (model pw w) A (pyIter (.ref I)) Q E s := by
  have hT : s.TypeIs (.ref I) "map" := ⟨_, hI, rfl⟩
  refine wpAny_pyIter_slot hT slot_map_iter (wpAny_call_entry slot_map_iter hT entry_map_iter ?_ (args_map_iter _))
  show wpAny _ _ (ret (.ref I)) _ _ s
  exact wpAny_pure ⟨_, rfl, "map", _, hT, slot_map_next.lookup, h⟩
end
end
open PySem PySem.W PySem.W.X PyProof.Rows
section
set_option Elab.async false
set_option linter.unusedVariables false
set_option maxRecDepth 100000
/-- triples as tuples and as matches -/
noncomputable def tup3 (t : Int × Int × Int) : MV := .tup [.int t.1, .int t.2.1, .int t.2.2]
noncomputable def mat3 (t : Int × Int × Int) : MV := .mat [.int t.1, .int t.2.1, .int t.2.2]
section
variable {c : Cx} {n : Nat} {cs : List CellAt} {vs : List MV} {K : Kp} {F : PH} {s : Shared}
structure MapAt (F : PH) (I T q it l : Addr) (o : Obj) (us : Array Value) : Prop where
  I : F I = some (mapObj T q)
  T : F T = some (tupObj it)
  q : F q = some (methodObj (.ref 89) (.ref 135))
  l : F l = some o
  o : isSeq (.type "list") o us
theorem MapAt.mono {F F' : PH} {I T q it l : Addr} {o : Obj} {us : Array Value} (h : MapAt F I T q it l o us) (hF : PH.le F F') : MapAt F' I T q it l o us := ⟨hF _ _ h.I, hF _ _ h.T, hF _ _ h.q, hF _ _ h.l, h.o⟩
theorem map_next {A : Around} {I T q it l : Addr} {o : Obj} {us : Array Value} {i : Nat} {x : Int × Int × Int} {v : Value} {Q : Option Value → Shared → Prop} (hA : Room (n + 3) A) (M : MapAt F I T q it l o us) (S : St c.w K F cs c.L c.xs vs s) (f : Free K F cs c.L it) (hit : s.heap.IsListIter it l i) (hv : us[i]? = some v) (dv : DV c.w F [] (tup3 x) v)
    (hQ : ∀ F' u s', PH.le F F' → St c.w K F' cs c.L c.xs vs s' → Free K F' cs c.L it → s'.heap.IsListIter it l (i + 1) → DV c.w F' [] (mat3 x) u → Q (some u) s') : wpAny (model pw c.w) A (pyNext (.ref I)) Q NoE s := by
  have hI := S.fz _ _ M.I
  have hTI : s.TypeIs (.ref I) "map" := ⟨_, hI, rfl⟩
  unfold pyNext
  refine wpAny_bind (wpAny_attempt (wpAny_callSpecial?_slot (name := Str.ofString "__next__") hTI slot_map_next (wpAny_call_entry slot_map_next hTI entry_map_next ?_ (args_map_next _))))
  unfold Builtin.«map.__next__»
  refine wpAny_bind (m := slotArgs _ _ _) (wpAny_of_eq (a := (.ref I, [])) rfl ?_)
  dsimp only
  refine wpAny_bind (wpAny_field hI rfl (x := .ref T) rfl ?_)
  refine wpAny_bind (wpAny_seqItems (S.fz _ _ M.T) rfl ?_)
  dsimp only
  refine wpAny_bind ?_
  rw [← Array.forIn_toList]
  show wpAny _ _ (forIn [Value.ref it] _ _) _ _ _
  rw [List.forIn_cons]
  refine wpAny_bind (wpAny_bind (wpAny_holding (wpAny_nextOf_list_item hit (M.o.isList (S.fz _ _ M.l)) hv fun h' hit' hs' => ?_)))
  have S1 : St c.w K F cs c.L c.xs vs { s with heap := h', toks := s.toks } := S.sameBut f fun a o' ha e => (hs'.2 a ha).trans e
  refine wpAny_pure ?_
  dsimp only
  rw [List.forIn_nil]
  refine wpAny_pure ?_
  obtain ⟨oi, ei, ci, di⟩ := hit'
  have S2 := S1.hold f ei
  refine wpAny_bind (wpAny_field (s := { s with heap := h' }) (S1.fz _ _ M.I) rfl (x := .ref q) rfl ?_)
  refine wpAny_bind (wpAny_holding ?_)
  show wpAny _ _ (call (.ref q) [v]) _ _ _
  refine call_method (S1.fz _ _ M.q) ?_
  refine make_code (n := n) (i := x.1) (j := x.2.1) (k := x.2.2) (A := A.in1) ((hA.in1).le (by lia)) S2 (.cons (.val _) (.cons (dv.any _) .nil)) fun F' u s' l' S3 d3 => ?_
  obtain ⟨S4, f4, e4⟩ := S3.unhold f.b
  refine wpAny_bind (wpAny_letGo ?_)
  exact wpAny_pure ⟨u, rfl, wpAny_pure (hQ F' u s' l' S4 f4 ⟨oi, e4, ci, di⟩ (d3.pure rfl))⟩
theorem map_end {A : Around} {I T q it l : Addr} {o : Obj} {us : Array Value} {i : Nat} {Q : Option Value → Shared → Prop} (hA : Room (n + 3) A) (M : MapAt F I T q it l o us) (S : St c.w K F cs c.L c.xs vs s) (f : Free K F cs c.L it) (hit : s.heap.IsListIter it l i) (hv : us[i]? = none)
    (hQ : ∀ s', St c.w K F cs c.L c.xs vs s' → (∀ b o, b ≠ it → s.heap.get? b = some o → s'.heap.get? b = some o) → Q none s') : wpAny (model pw c.w) A (pyNext (.ref I)) Q NoE s := by
  have hI := S.fz _ _ M.I
  have hTI : s.TypeIs (.ref I) "map" := ⟨_, hI, rfl⟩
  unfold pyNext
  refine wpAny_bind (wpAny_attempt (wpAny_callSpecial?_slot (name := Str.ofString "__next__") hTI slot_map_next (wpAny_call_entry slot_map_next hTI entry_map_next ?_ (args_map_next _))))
  unfold Builtin.«map.__next__»
  refine wpAny_bind (m := slotArgs _ _ _) (wpAny_of_eq (a := (.ref I, [])) rfl ?_)
  dsimp only
  refine wpAny_bind (wpAny_field hI rfl (x := .ref T) rfl ?_)
  refine wpAny_bind (wpAny_seqItems (S.fz _ _ M.T) rfl ?_)
  dsimp only
  refine wpAny_bind ?_
  rw [← Array.forIn_toList]
  show wpAny _ _ (forIn [Value.ref it] _ _) _ _ _
  rw [List.forIn_cons]
  refine wpAny_bind (wpAny_bind (wpAny_holding (wpAny_nextOf_list_end hA.handled hit (M.o.isList (S.fz _ _ M.l)) hv fun h' e hs' he => ?_)))
  obtain ⟨oe, he1, he2⟩ := he
  have S1 : St c.w K F cs c.L c.xs vs { s with heap := h', toks := s.toks } := S.sameBut f fun a o' ha e => hs' a o' ha e
  refine wpAny_bind (wpAny_isInstance (s := { s with heap := h' }) (T := "StopIteration") (b := true) ⟨_, he1, he2⟩ isSubtype_stop ?_)
  exact wpAny_pure (hQ _ S1 hs')
theorem ext_loopM {B : Around} (hB : Room (n + 5) B) {I T q it l Sa : Addr} {o : Obj} {us : Array Value} (res : Value) {R : Result → Shared → Prop} : ∀ (xs : List (Int × Int × Int)) (done : List MV) (i : Nat) (acc : Array Value) (cc : Nat) (F : PH) (s : Shared), done.length + xs.length ≤ 100000 →
    MapAt F I T q it l o us → DVs c.w F [] (xs.map tup3) (us.toList.drop i) → St c.w K F cs c.L c.xs vs s → Free K F cs c.L it → Free K F cs c.L Sa → it ≠ Sa → s.heap.IsListIter it l i →
    s.heap.get? Sa = some { cls := .type "list", dict := none, data := .seq acc cc, slots := #[] } → DVs c.w F [] done acc.toList →
    (∀ F' s' acc' c', PH.le F F' → St c.w K F' cs c.L c.xs vs s' → Free K F' cs c.L Sa → s'.heap.get? Sa = some { cls := .type "list", dict := none, data := .seq acc' c', slots := #[] } → DVs c.w F' [] (done ++ xs.map mat3) acc'.toList → R (.ok (.ret res)) s') →
    codeAny (model pw c.w) B (.builtin "list.extend.loop" ⟨[.ref Sa, .ref I, res], []⟩) R s := by
  intro xs
  induction xs with
  | nil =>
    intro done i acc cc F s hz M hd S f g hne hit hS hacc hR
    refine codeAny_builtin PySem.F.entry_extend_loop ?_
    rw [Around.under_plainId PySem.F.plain_extend_loop _]
    show wpAny _ B.in1 (pyNext (.ref I) >>= _) _ _ s
    have hv : us[i]? = none := by
      have := hd.length
      rw [List.length_map, List.length_drop] at this
      rw [← Array.getElem?_toList]
      exact List.getElem?_eq_none (by rw [Array.length_toList]; simp at this; lia)
    refine wpAny_bind (wpAny_noE (map_end (n := n + 1) hB.in1 M S f hit hv fun s' S' hk => ?_))
    exact wpAny_pure (hR F s' acc cc (PH.le.refl _) S' g (hk _ _ (Ne.symm hne) hS) (by rw [List.map_nil, List.append_nil]; exact hacc))
  | cons x xs ih =>
    intro done i acc cc F s hz M hd S f g hne hit hS hacc hR
    refine codeAny_builtin PySem.F.entry_extend_loop ?_
    rw [Around.under_plainId PySem.F.plain_extend_loop _]
    show wpAny _ B.in1 (pyNext (.ref I) >>= _) _ _ s
    obtain ⟨v, hv, dv, hd2⟩ : ∃ v, us[i]? = some v ∧ DV c.w F [] (tup3 x) v ∧ DVs c.w F [] (xs.map tup3) (us.toList.drop (i + 1)) := by
      rw [List.map_cons] at hd
      cases hdr : us.toList.drop i with
      | nil => rw [hdr] at hd; cases hd
      | cons v r =>
        rw [hdr] at hd
        cases hd with
        | cons d1 d2 =>
          have h1 : us.toList[i]? = some v := by
            have := congrArg (·[0]?) hdr
            simpa [List.getElem?_drop] using this
          refine ⟨v, toList_get h1, d1, ?_⟩
          have : us.toList.drop (i + 1) = r := by
            rw [← List.drop_drop, hdr]; rfl
          rw [this]; exact d2
    have hSh := S.hold g hS
    have fh := f.hold (o := { cls := .type "list", dict := none, data := .seq acc cc, slots := #[] }) hne
    refine wpAny_bind (wpAny_noE (map_next (n := n + 1) hB.in1 M hSh fh hit hv dv fun F' u s' l' S' f' hit' d' => ?_))
    obtain ⟨S1, g1, e1⟩ := S'.unhold g.b
    have f1 := f'.unhold hne
    have hlen : acc.size = done.length := arr_len hacc
    rw [List.length_cons] at hz
    show wpAny _ B.in1 (updateSeq Sa (·.push u) >>= _) _ _ _
    refine wpAny_bind (wpAny_updateSeq e1 rfl ?_ (by rw [hlen]; exact Nat.le_trans (show done.length ≤ 100000 by lia) (by decide)) (by show (acc.push u).size ≤ sizeLine + 1; rw [Array.size_push, hlen]; exact Nat.le_trans (show done.length + 1 ≤ 100000 by lia) (by decide)))
    have hself := Heap.get?_update_self (Obj.mapSeq (·.push u)) e1 rfl
    have S2 : St c.w K F' cs c.L c.xs vs { s' with heap := s'.heap.update Sa (Obj.mapSeq (·.push u)), toks := s'.toks } := S1.sameBut g1 fun a o ha e => (Heap.get?_update_other _ _ (Ne.symm ha)).trans e
    obtain ⟨oi, ei, ci, di⟩ := hit'
    refine wpAny_pure ⟨plainId_quiet PySem.F.plain_extend_loop _, ih (done ++ [mat3 x]) (i + 1) (acc.push u) _ F' _ (by rw [List.length_append]; simp only [List.length_singleton]; lia) (M.mono l') (hd2.mono l' (asLe.refl _)) S2 f1 g1 hne ⟨oi, (Heap.get?_update_other _ _ (Ne.symm hne)).trans ei, ci, di⟩ hself ?_ fun F'' s'' acc' c' l'' => ?_⟩
    · rw [Array.toList_push]; exact (hacc.mono l' (asLe.refl _)).append (.cons d' .nil)
    · rw [List.append_assoc]; exact hR F'' s'' acc' c' (l'.trans l'')
end
end
open PySem PySem.W PySem.W.X PyProof.Rows
section
set_option Elab.async false
set_option linter.unusedVariables false
set_option maxRecDepth 100000
section
variable {c : Cx} {n : Nat} {cs : List CellAt} {vs : List MV}
theorem call_list_map {A : Around} {K : Kp} {F : PH} {s : Shared} {I T q it l : Addr} {o : Obj} {us : Array Value} {xs : List (Int × Int × Int)} {Q : Value → Shared → Prop} (hA : Room (n + 8) A) (M : MapAt F I T q it l o us) (hz : xs.length ≤ 100000) (hd : DVs c.w F [] (xs.map tup3) us.toList) (S1 : St c.w K F cs c.L c.xs vs s) (f : Free K F cs c.L it) (hit : s.heap.IsListIter it l 0)
    (hQ : ∀ F' v s', PH.le F F' → St c.w K F' cs c.L c.xs vs s' → DV c.w F' (adrs cs) (.list (xs.map mat3)) v → Q v s') : wpAny (model pw c.w) A (call (.type "list") [.ref I]) Q NoE s := by
  refine callType_codes (Q₁ := fun obj s₁ => obj = .ref s.heap.objs.size ∧ s₁ = { s with heap := s.heap.push { cls := .type "list", data := .seq #[] } }) PySem.F.called_list (PySem.F.typeCall_list_1 _) PySem.F.entry_list_init
    (code_list_new _ ⟨rfl, rfl⟩) fun obj s₁ h₁ => ?_
  obtain ⟨rfl, rfl⟩ := h₁
  have hS : (s.heap.push { cls := .type "list", data := .seq #[] }).get? s.heap.objs.size = some { cls := .type "list", data := .seq #[] } := Heap.get?_push_size _ rfl
  have hfree := S1.free (get_of_ge (Nat.le_refl s.heap.objs.size))
  have hSI : s.heap.objs.size ≠ I := fun e => by
    have := hfree.f; rw [e, M.I] at this; cases this
  have hne : it ≠ s.heap.objs.size := fun e => by
    obtain ⟨oi, ei, _⟩ := hit
    exact Nat.lt_irrefl _ (e ▸ Heap.lt_size ei)
  have S2 := S1.push { cls := .type "list", data := .seq #[] } s.toks
  have hit2 : (s.heap.push { cls := .type "list", data := .seq #[] }).IsListIter it l 0 := by
    obtain ⟨oi, ei, r⟩ := hit
    exact ⟨oi, Heap.get?_push_of_some _ ei, r⟩
  refine ⟨⟨_, hS, rfl⟩, PySem.F.args_list_init_2 _ _, ?_⟩
  revert hS S2 hit2
  generalize s.heap.objs.size = Sa at hfree hSI hne ⊢
  intro hS S2 hit2
  obtain ⟨s1, hs1, S2, hS, hit2⟩ : ∃ s1 : Shared, s1 = { s with heap := s.heap.push { cls := .type "list", data := .seq #[] } } ∧ St c.w K F cs c.L c.xs vs s1 ∧ s1.heap.get? Sa = some { cls := .type "list", data := .seq #[] } ∧ s1.heap.IsListIter it l 0 := ⟨_, rfl, S2, hS, hit2⟩
  show wpAny _ A.in1.in1 _ _ _ { s with heap := s.heap.push { cls := .type "list", data := .seq #[] } }
  rw [← hs1]
  show wpAny _ A.in1.in1 (do let old ← Builtin.List.listItems (.ref Sa); Builtin.List.listUpdate (.ref Sa) (fun _ => #[]); letGo old.toList.reverse; Builtin.List.listExtendWith (.ref Sa) (.ref I) .none) _ _ s1
  refine wpAny_bind ?_
  unfold Builtin.List.listItems
  refine wpAny_bind (wpAny_seqItems hS rfl (wpAny_pure ?_))
  show wpAny _ A.in1.in1 (updateSeq Sa (fun _ => #[]) >>= fun _ => letGo (#[] : Array Value).toList.reverse >>= fun _ => Builtin.List.listExtendWith (.ref Sa) (.ref I) .none) _ _ s1
  refine wpAny_bind (wpAny_updateSeq hS rfl ?_ (Nat.zero_le _) (Nat.zero_le _))
  have hS₂ := Heap.get?_update_self (Obj.mapSeq (fun _ => (#[] : Array Value))) hS rfl
  have S3 : St c.w K F cs c.L c.xs vs { s1 with heap := s1.heap.update Sa (Obj.mapSeq (fun _ => #[])), toks := s1.toks } := S2.sameBut hfree fun a o ha e => (Heap.get?_update_other _ _ (Ne.symm ha)).trans e
  refine wpAny_bind (wpAny_letGo ?_)
  have hty : ∀ s' : Shared, St c.w K F cs c.L c.xs vs s' → s'.TypeIs (.ref I) "map" := fun s' S' => ⟨_, S'.fz _ _ M.I, rfl⟩
  unfold Builtin.List.listExtendWith
  refine wpAny_bind (wpAny_typeOf (hty _ S3) ?_)
  have h1 : Builtin.List.listSameRef (.ref Sa) (.ref I) = false := by simp [Builtin.List.listSameRef, hSI]
  have h2 : (Value.type "map" == Value.type "list") = false := by decide
  have h3 : (Value.type "map" == Value.type "tuple") = false := by decide
  simp only [h1, h2, h3, Bool.or_false, Bool.false_eq_true, if_false]
  refine wpAny_bind (pyIter_map (S3.fz _ _ M.I) ?_)
  refine wpAny_bind (wpAny_holding ?_)
  unfold Builtin.List.listLengthHint
  refine wpAny_bind (wpAny_specialOf (hty _ S3) map_no_len ?_)
  show wpAny _ A.in1.in1 (specialOf (Value.ref I) (Str.ofString "__length_hint__") >>= _) _ _ _
  refine wpAny_bind (wpAny_specialOf (hty _ S3) map_no_hint ?_)
  refine wpAny_pure ?_
  show wpAny _ A.in1.in1 (rule "list.extend.makes-room" >>= fun _ => Builtin.List.listTouch (.ref Sa) >>= fun _ =>
    again (.builtin "list.extend.loop" ⟨[.ref Sa, .ref I, .none], []⟩)) _ _ _
  refine wpAny_bind (wpAny_rule ?_)
  refine wpAny_bind ?_
  show wpAny _ A.in1.in1 (updateSeq Sa (·.push .none) >>= fun _ => updateSeq Sa (·.pop)) _ _ _
  refine wpAny_bind (wpAny_updateSeq hS₂ rfl ?_ (Nat.zero_le _) (Nat.le_add_left 1 _))
  have hS₃ := Heap.get?_update_self (Obj.mapSeq (·.push Value.none)) hS₂ rfl
  have S4 := S3.sameBut (t := s1.toks) hfree (h' := (s1.heap.update Sa (Obj.mapSeq (fun _ => #[]))).update Sa (Obj.mapSeq (·.push Value.none))) fun a o ha e => (Heap.get?_update_other _ _ (Ne.symm ha)).trans e
  refine wpAny_updateSeq hS₃ rfl ?_ (show (1 : Nat) ≤ sizeLine by decide +kernel) (Nat.zero_le _)
  have hS₄ := Heap.get?_update_self (Obj.mapSeq (·.pop)) hS₃ rfl
  have S5 := S4.sameBut (t := s1.toks) hfree (h' := ((s1.heap.update Sa (Obj.mapSeq (fun _ => #[]))).update Sa (Obj.mapSeq (·.push Value.none))).update Sa (Obj.mapSeq (·.pop))) fun a o ha e => (Heap.get?_update_other _ _ (Ne.symm ha)).trans e
  have hit5 : (((s1.heap.update Sa (Obj.mapSeq (fun _ => (#[] : Array Value)))).update Sa (Obj.mapSeq (·.push Value.none))).update Sa (Obj.mapSeq (·.pop))).IsListIter it l 0 := by
    obtain ⟨oi, ei, r⟩ := hit2
    exact ⟨oi, (Heap.get?_update_other _ _ (Ne.symm hne)).trans ((Heap.get?_update_other _ _ (Ne.symm hne)).trans ((Heap.get?_update_other _ _ (Ne.symm hne)).trans ei)), r⟩
  refine wpAny_pure ⟨plainId_quiet PySem.F.plain_extend_loop _, ext_loopM (n := n + 1) (B := A.in1) (K := K) ((hA.in1).le (by lia)) .none xs [] 0 #[] _ F _ (by simpa using hz) M hd S5 f hfree hne hit5 hS₄ .nil fun F' s' acc' c' l' S6 f6 e6 d6 => ?_⟩
  refine ⟨rfl, ?_⟩
  have l7 : PH.le F' (F'.ins Sa _) := PH.le_ins (o := { cls := .type "list", dict := none, data := .seq acc' c', slots := #[] }) f6.f
  refine hQ _ _ s' (l'.trans l7) (S6.grow f6.f f6.b f6.c f6.l e6) (.list (PH.ins_self _ _ _) ⟨rfl, rfl, rfl, _, rfl⟩ ?_)
  rw [List.nil_append] at d6
  exact d6.mono l7 (asLe.refl _)
/-- list(map(Match._make, xs)) -/
theorem EV.listMap {xl xm xM : Str} {pl pm pM pA p1 p2 : Pos} {e : Expr} {xs : List (Int × Int × Int)} (hl : EV c (n + 8) cs vs (.Name xl pl) (.val (.type "list"))) (hm : EV c (n + 8) cs vs (.Name xm pm) (.val (.type "map"))) (hM : EV c (n + 8) cs vs (.Name xM pM) (.val (.ref 135)))
    (he : EV c (n + 8) cs vs e (.list (xs.map tup3))) (hz : xs.length ≤ 100000) (hb : ∀ x, attributeBase (.Name xM pM) "_make" c.env x = x := by intro _; kernel_rfl)
    (hs1 : starEach [.Call (.Name xm pm) [.Attribute (.Name xM pM) "_make" pA, e] [] p1] c.env = (false, eval (.Call (.Name xm pm) [.Attribute (.Name xM pM) "_make" pA, e] [] p1) c.env) :: starEach [] c.env := by kernel_rfl)
    (hs2 : starEach [.Attribute (.Name xM pM) "_make" pA, e] c.env = (false, eval (.Attribute (.Name xM pM) "_make" pA) c.env) :: starEach [e] c.env := by kernel_rfl)
    (hs3 : starEach [e] c.env = (false, eval e c.env) :: starEach [] c.env := by kernel_rfl)
    (hp1 : (backTo p2 (starEach [.Call (.Name xm pm) [.Attribute (.Name xM pM) "_make" pA, e] [] p1] c.env)).any (·.1) = false := by kernel_rfl)
    (hp2 : (backTo p1 (starEach [.Attribute (.Name xM pM) "_make" pA, e] c.env)).any (·.1) = false := by kernel_rfl) :
    EV c (n + 8) cs vs (.Call (.Name xl pl) [.Call (.Name xm pm) [.Attribute (.Name xM pM) "_make" pA, e] [] p1] [] p2) (.list (xs.map mat3)) := .mk fun A K F s Q hA hS hQ => by
  refine PyProof.Rows.Call_ (hl.go A K F s _ hA hS fun F1 u1 s1 l1 S1 d1 => ?_) (eval_call _ _ _ _ _)
  apply d1.valI
  refine (Callee.ty (F := F1) "list").go (w := c.w) (env := c.env) hp1 ?_
  have hin : wpAny (model pw c.w) A (spliced (backTo p2 (starEach [.Call (.Name xm pm) [.Attribute (.Name xM pM) "_make" pA, e] [] p1] c.env))) (fun us s' => PH.le F1 s'.heap.get? ∧ wpAny (model pw c.w) A (PySem.call (.type "list") ([] ++ us)) Q NoE s') NoE s1 := by
    refine PyProof.Rows.args_cons ?_ hs1
    refine PyProof.Rows.Call_ (hm.go A K F1 s1 _ hA S1 fun F2 u2 s2 l2 S2 d2 => ?_) (eval_call _ _ _ _ _)
    apply d2.valI
    refine (Callee.ty (F := F2) "map").go (w := c.w) (env := c.env) hp2 ?_
    have hin2 : wpAny (model pw c.w) A (spliced (backTo p1 (starEach [.Attribute (.Name xM pM) "_make" pA, e] c.env))) (fun us s' => PH.le F2 s'.heap.get? ∧ wpAny (model pw c.w) A (PySem.call (.type "map") ([] ++ us)) (fun v s'' => wpAny (model pw c.w) A (spliced (backTo p2 (starEach [] c.env))) (fun us s' => PH.le F1 s'.heap.get? ∧ wpAny (model pw c.w) A (PySem.call (.type "list") ([] ++ v :: us)) Q NoE s') NoE s'') NoE s') NoE s2 := by
      refine PyProof.Rows.args_cons ?_ hs2
      rw [arm_eval_Attribute, hb]
      refine wpAny_bind (hM.go A K F2 s2 _ hA S2 fun F3 u3 s3 l3 S3 d3 => ?_)
      apply d3.valI
      refine wpAny_bind (wpAny_standAt (wpAny_bind (wpAny_holding (getAttr_make S3.toSF.kf ?_))))
      obtain ⟨S4, l4⟩ := S3.frozenPush (methodObj (.ref 89) (.ref 135)) (s3.toks + 1) rfl
      have hq4 : (F3.ins s3.heap.objs.size (methodObj (.ref 89) (.ref 135))) s3.heap.objs.size = some (methodObj (.ref 89) (.ref 135)) := PH.ins_self _ _ _
      generalize s3.heap.objs.size = q at S4 l4 hq4 ⊢
      refine wpAny_bind (wpAny_letTemporaryGo (wpAny_pure ?_))
      refine PyProof.Rows.args_cons (he.go A K _ _ _ hA S4 fun F5 u5 s5 l5 S5 d5 => ?_) hs3
      refine wpAny_pure ⟨fun b o e => S5.fz b o (l5 b o (l4 b o (l3 b o e))), ?_⟩
      apply d5.listI; intro l o us el ql dl
      have hl5 := ql.isList (S5.fz _ _ el)
      show wpAny _ _ (call (.type "map") [.ref q, .ref l]) _ _ _
      refine call_map hl5 ?_
      have f1 := S5.free (get_of_ge (Nat.le_refl s5.heap.objs.size))
      have S6 := S5.push (itObj l 0) s5.toks
      obtain ⟨S7, l7⟩ := S6.frozenPush (tupObj s5.heap.objs.size) s5.toks rfl
      obtain ⟨S8, l8⟩ := S7.frozenPush (mapObj (s5.heap.objs.size + 1) q) s5.toks rfl
      have z1 : (s5.heap.push (itObj l 0)).objs.size = s5.heap.objs.size + 1 := Heap.size_push ..
      have z2 : ((s5.heap.push (itObj l 0)).push (tupObj s5.heap.objs.size)).objs.size = s5.heap.objs.size + 2 := by rw [Heap.size_push, Heap.size_push]
      dsimp only at S7 l7 S8 l8
      rw [z1] at S7 l7 S8 l8
      rw [z2] at S8 l8
      have hit : (((s5.heap.push (itObj l 0)).push (tupObj s5.heap.objs.size)).push (mapObj (s5.heap.objs.size + 1) q)).IsListIter s5.heap.objs.size l 0 :=
        ⟨_, Heap.get?_push_of_some _ (Heap.get?_push_of_some _ (Heap.get?_push_size _ rfl)), rfl, rfl⟩
      have M : MapAt ((F5.ins (s5.heap.objs.size + 1) (tupObj s5.heap.objs.size)).ins (s5.heap.objs.size + 2) (mapObj (s5.heap.objs.size + 1) q)) (s5.heap.objs.size + 2) (s5.heap.objs.size + 1) q s5.heap.objs.size l o us :=
        ⟨PH.ins_self _ _ _, l8 _ _ (PH.ins_self _ _ _), l8 _ _ (l7 _ _ (l5 _ _ hq4)), l8 _ _ (l7 _ _ el), ql⟩
      have f8 := (f1.ins (o := tupObj s5.heap.objs.size) (a := s5.heap.objs.size + 1) (Nat.ne_of_lt (Nat.lt_succ_self _))).ins (o := mapObj (s5.heap.objs.size + 1) q) (a := s5.heap.objs.size + 2) (Nat.ne_of_lt (Nat.lt_add_of_pos_right (by decide)))
      refine wpAny_pure ⟨fun b o e => S8.fz b o (l8 b o (l7 b o (l5 b o (l4 b o (l3 b o (l2 b o e)))))), ?_⟩
      refine call_list_map (n := n) hA M hz ((dl.mono (l7.trans l8) (asLe.refl _))) S8 f8 hit fun F' v s' l' S' d' => ?_
      exact hQ F' v s' (l1.trans (l2.trans (l3.trans (l4.trans (l5.trans (l7.trans (l8.trans l'))))))) S' d'
    rw [hs2] at hin2 ⊢
    exact Calls.evalArgs_plain (wpAny_mono hin2 (fun us s' ⟨x, y⟩ => ⟨x, rfl, y⟩) fun _ _ x => x)
  rw [hs1] at hin ⊢
  exact Calls.evalArgs_plain (wpAny_mono hin (fun us s' ⟨x, y⟩ => ⟨x, rfl, y⟩) fun _ _ x => x)
end
end
open PySem PySem.W PySem.W.X PyProof.Rows
section
set_option Elab.async false
set_option linter.unusedVariables false
noncomputable abbrev R4 := Int × Int × Int × Int
noncomputable abbrev T3 := Int × Int × Int
noncomputable def rect4 (r : R4) : MV := .tup [.int r.1, .int r.2.1, .int r.2.2.1, .int r.2.2.2]
noncomputable def rectOf (t : T3) : R4 := (t.1, t.1 + t.2.2, t.2.1, t.2.1 + t.2.2)
noncomputable def Sep (p q : R4) : Prop := p.2.1 ≤ q.1 ∧ p.2.2.2 ≤ q.2.2.1
noncomputable def Sp (p q : R4) : Prop := Sep p q ∨ Sep q p
theorem Sp.symm {p q : R4} (h : Sp p q) : Sp q p := h.elim .inr .inl
noncomputable def Sub (p q : R4) : Prop := q.1 ≤ p.1 ∧ p.2.1 ≤ q.2.1 ∧ q.2.2.1 ≤ p.2.2.1 ∧ p.2.2.2 ≤ q.2.2.2
theorem Sp.sub {p q r : R4} (h : Sp q r) (hs : Sub p q) : Sp p r := by
  obtain ⟨x1, x2, x3, x4⟩ := hs
  rcases h with ⟨y1, y2⟩ | ⟨y1, y2⟩
  · exact .inl ⟨by lia, by lia⟩
  · exact .inr ⟨by lia, by lia⟩
noncomputable def sumW : List R4 → Int
  | [] => 0
  | r :: t => (r.2.1 - r.1) + sumW t
theorem sumW_app (x y : List R4) : sumW (x ++ y) = sumW x + sumW y := by
  induction x with
  | nil => simp [sumW]
  | cons r t ih => simp only [List.cons_append, sumW, ih]; lia
noncomputable def meas : List R4 → Nat
  | [] => 0
  | r :: t => (2 * (r.2.1 - r.1).toNat + 1) + meas t
theorem meas_app (x y : List R4) : meas (x ++ y) = meas x + meas y := by
  induction x with
  | nil => simp [meas]
  | cons r t ih => simp only [List.cons_append, meas, ih]; lia
/-- the queue and the blocks -/
structure Q6 (a b : List Str) (qs : List R4) (bs : List T3) : Prop where
  qr : ∀ r ∈ qs, 0 ≤ r.1 ∧ r.1 ≤ r.2.1 ∧ r.2.1 ≤ a.length ∧ 0 ≤ r.2.2.1 ∧ r.2.2.1 ≤ r.2.2.2 ∧ r.2.2.2 ≤ b.length
  bk : ∀ t ∈ bs, 1 ≤ t.2.2 ∧ Mt a b 0 a.length 0 b.length t.1 t.2.1 t.2.2
  qq : qs.Pairwise Sp
  bb : bs.Pairwise fun t u => Sp (rectOf t) (rectOf u)
  qb : ∀ r ∈ qs, ∀ t ∈ bs, Sp r (rectOf t)
  ct : bs.length + sumW qs ≤ a.length
  ql : qs.length ≤ 1 + bs.length
  dg : Dg a b 0 a.length 0 b.length → (qs = [((0, (a.length : Int), 0, (b.length : Int)) : R4)] ∧ bs = []) ∨ (qs = [] ∧ bs = if a.length = 0 then [] else [(0, 0, (a.length : Int))])
theorem sumW_pos : ∀ (qs : List R4), (∀ r ∈ qs, r.1 ≤ r.2.1) → 0 ≤ sumW qs
  | [], _ => Int.le_refl _
  | r :: t, h => by
    have h1 := h r (.head _)
    have h2 := sumW_pos t fun r hr => h r (.tail _ hr)
    simp only [sumW]; lia
theorem Q6.len {a b : List Str} {qs : List R4} {bs : List T3} (h : Q6 a b qs bs) : bs.length ≤ a.length ∧ qs.length ≤ 1 + a.length := by
  have := sumW_pos qs fun r hr => (h.qr r hr).2.1
  have h1 := h.ct; have h2 := h.ql
  lia
theorem Q6.start (a b : List Str) : Q6 a b [(0, (a.length : Int), 0, (b.length : Int))] [] where
  qr := fun r h => by rw [List.mem_singleton.mp h]; exact ⟨Int.le_refl _, by simp, Int.le_refl _, Int.le_refl _, by simp, Int.le_refl _⟩
  bk := fun t h => nomatch h
  qq := List.pairwise_singleton _ _
  bb := .nil
  qb := fun _ _ t h => nomatch h
  ct := by simp [sumW]
  ql := Nat.le_refl _
  dg := fun _ => .inl ⟨rfl, rfl⟩
theorem Q6.skip {a b : List Str} {qs : List R4} {bs : List T3} {r : R4} {i j : Int} (h : Q6 a b (qs ++ [r]) bs) (hg : Dg a b r.1 r.2.1 r.2.2.1 r.2.2.2 → (0 : Int) = r.2.1 - r.1) : Q6 a b qs bs where
  qr := fun r h' => h.qr r (List.mem_append_left _ h')
  bk := h.bk
  qq := (List.pairwise_append.mp h.qq).1
  bb := h.bb
  qb := fun r h' => h.qb r (List.mem_append_left _ h')
  ct := by
    have h1 := h.ct
    have h2 := h.qr r (List.mem_append_right _ (.head _))
    rw [sumW_app] at h1
    simp only [sumW] at h1
    lia
  ql := by have := h.ql; simp only [List.length_append, List.length_cons, List.length_nil] at this; lia
  dg := fun g => by
    rcases h.dg g with ⟨e1, e2⟩ | ⟨e1, e2⟩
    · have e3 : qs ++ [r] = [] ++ [(0, (a.length : Int), 0, (b.length : Int))] := e1
      obtain ⟨e4, e5⟩ := List.append_inj' e3 rfl
      have e6 : r = (0, (a.length : Int), 0, (b.length : Int)) := by simpa using e5
      subst e6
      have := hg g
      refine .inr ⟨e4, ?_⟩
      rw [e2, if_pos (by simpa using this.symm)]
    · exact absurd e1 (by simp)
theorem Q6.take {a b : List Str} {qs : List R4} {bs : List T3} {alo ahi blo bhi i j k : Int} (h : Q6 a b (qs ++ [(alo, ahi, blo, bhi)]) bs) (hm : Mt a b alo ahi blo bhi i j k) (hk : 1 ≤ k) (hg : Dg a b alo ahi blo bhi → k = ahi - alo)
    {l1 l2 : List R4} (h1 : l1 = [] ∨ (l1 = [(alo, i, blo, j)] ∧ alo < i ∧ blo < j)) (h2 : l2 = [] ∨ (l2 = [(i + k, ahi, j + k, bhi)] ∧ i + k < ahi ∧ j + k < bhi)) : Q6 a b (qs ++ l1 ++ l2) (bs ++ [(i, j, k)]) ∧ meas (qs ++ l1 ++ l2) < meas (qs ++ [(alo, ahi, blo, bhi)]) := by
  have hr := h.qr (alo, ahi, blo, bhi) (List.mem_append_right _ (.head _))
  obtain ⟨r1, r2, r3, r4, r5, r6⟩ := hr
  dsimp only at r1 r2 r3 r4 r5 r6
  have m1 := hm.i0; have m2 := hm.i1; have m3 := hm.j0; have m4 := hm.j1
  obtain ⟨p1, _, p3⟩ := List.pairwise_append.mp h.qq
  have s1 : ∀ r ∈ l1, Sub r (alo, ahi, blo, bhi) ∧ Sep r (rectOf (i, j, k)) ∧ 0 ≤ r.1 ∧ r.1 ≤ r.2.1 ∧ r.2.1 ≤ a.length ∧ 0 ≤ r.2.2.1 ∧ r.2.2.1 ≤ r.2.2.2 ∧ r.2.2.2 ≤ b.length ∧ ∀ r' ∈ l2, Sep r r' := fun r hr => by
    rcases h1 with e | ⟨e, e1, e2⟩
    · rw [e] at hr; cases hr
    · rw [e] at hr; rw [List.mem_singleton.mp hr]
      refine ⟨⟨Int.le_refl _, by show i ≤ ahi; lia, Int.le_refl _, by show j ≤ bhi; lia⟩, ⟨Int.le_refl _, Int.le_refl _⟩, r1, by show alo ≤ i; lia, by show i ≤ _; lia, r4, by show blo ≤ j; lia, by show j ≤ _; lia, fun r' hr' => ?_⟩
      rcases h2 with e | ⟨e, e1, e2⟩
      · rw [e] at hr'; cases hr'
      · rw [e] at hr'; rw [List.mem_singleton.mp hr']
        exact ⟨by show i ≤ i + k; lia, by show j ≤ j + k; lia⟩
  have s2 : ∀ r ∈ l2, Sub r (alo, ahi, blo, bhi) ∧ Sep (rectOf (i, j, k)) r ∧ 0 ≤ r.1 ∧ r.1 ≤ r.2.1 ∧ r.2.1 ≤ a.length ∧ 0 ≤ r.2.2.1 ∧ r.2.2.1 ≤ r.2.2.2 ∧ r.2.2.2 ≤ b.length := fun r hr => by
    rcases h2 with e | ⟨e, e1, e2⟩
    · rw [e] at hr; cases hr
    · rw [e] at hr; rw [List.mem_singleton.mp hr]
      exact ⟨⟨by show alo ≤ i + k; lia, Int.le_refl _, by show blo ≤ j + k; lia, Int.le_refl _⟩, ⟨Int.le_refl _, Int.le_refl _⟩, by show 0 ≤ i + k; lia, by show i + k ≤ ahi; lia, r3, by show 0 ≤ j + k; lia, by show j + k ≤ bhi; lia, r6⟩
  have sB : Sub (rectOf (i, j, k)) (alo, ahi, blo, bhi) := ⟨m1, m2, m3, m4⟩
  have hin : ∀ r ∈ qs ++ l1 ++ l2, r ∈ qs ∨ r ∈ l1 ∨ r ∈ l2 := fun r hr => by simpa [or_assoc] using hr
  have w1 : sumW l1 + sumW l2 ≤ ahi - alo - k ∧ meas l1 + meas l2 ≤ 2 * (ahi - alo - k).toNat + 2 := by
    rcases h1 with e | ⟨e, e1, e2⟩ <;> rcases h2 with e' | ⟨e', e3, e4⟩ <;> subst e <;> subst e' <;> simp only [sumW, meas] <;> lia
  refine ⟨⟨fun r hr => ?_, fun t ht => ?_, ?_, ?_, fun r hr t ht => ?_, ?_, ?_, fun g => ?_⟩, ?_⟩
  · rcases hin r hr with hr | hr | hr
    · exact h.qr r (List.mem_append_left _ hr)
    · exact ⟨(s1 r hr).2.2.1, (s1 r hr).2.2.2.1, (s1 r hr).2.2.2.2.1, (s1 r hr).2.2.2.2.2.1, (s1 r hr).2.2.2.2.2.2.1, (s1 r hr).2.2.2.2.2.2.2.1⟩
    · exact (s2 r hr).2.2
  · rcases List.mem_append.mp ht with ht | ht
    · exact h.bk t ht
    · rw [List.mem_singleton.mp ht]
      exact ⟨hk, by show 0 ≤ i; lia, by show i + k ≤ _; lia, by show 0 ≤ j; lia, by show j + k ≤ _; lia, by show 0 ≤ k; lia, hm.eq⟩
  · rw [List.pairwise_append, List.pairwise_append]
    refine ⟨⟨p1, ?_, fun x hx y hy => ((p3 x hx _ (.head _)).symm.sub (s1 y hy).1).symm⟩, ?_, fun x hx y hy => ?_⟩
    · rcases h1 with e | ⟨e, _⟩ <;> subst e <;> first | exact .nil | exact List.pairwise_singleton _ _
    · rcases h2 with e | ⟨e, _⟩ <;> subst e <;> first | exact .nil | exact List.pairwise_singleton _ _
    · rcases List.mem_append.mp hx with hx | hx
      · exact ((p3 x hx _ (.head _)).symm.sub (s2 y hy).1).symm
      · exact .inl ((s1 x hx).2.2.2.2.2.2.2.2 y hy)
  · rw [List.pairwise_append]
    refine ⟨h.bb, List.pairwise_singleton _ _, fun t ht u hu => ?_⟩
    rw [List.mem_singleton.mp hu]
    exact ((h.qb _ (List.mem_append_right _ (.head _)) t ht).sub sB).symm
  · rcases List.mem_append.mp ht with ht | ht
    · rcases hin r hr with hr | hr | hr
      · exact h.qb r (List.mem_append_left _ hr) t ht
      · exact (h.qb _ (List.mem_append_right _ (.head _)) t ht).sub (s1 r hr).1
      · exact (h.qb _ (List.mem_append_right _ (.head _)) t ht).sub (s2 r hr).1
    · rw [List.mem_singleton.mp ht]
      rcases hin r hr with hr | hr | hr
      · exact ((p3 r hr _ (.head _)).symm.sub sB).symm
      · exact .inl (s1 r hr).2.1
      · exact .inr (s2 r hr).2.1
  · have h1 := h.ct
    rw [sumW_app] at h1
    simp only [sumW] at h1
    rw [sumW_app, sumW_app, List.length_append]
    have := w1.1
    simp only [List.length_cons, List.length_nil]
    lia
  · have := h.ql
    have z1 : l1.length ≤ 1 := by rcases h1 with e | ⟨e, _⟩ <;> rw [e] <;> simp
    have z2 : l2.length ≤ 1 := by rcases h2 with e | ⟨e, _⟩ <;> rw [e] <;> simp
    simp only [List.length_append, List.length_cons, List.length_nil] at this ⊢
    lia
  · rcases h.dg g with ⟨e1, e2⟩ | ⟨e1, e2⟩
    · have e3 : qs ++ [(alo, ahi, blo, bhi)] = [] ++ [(0, (a.length : Int), 0, (b.length : Int))] := e1
      obtain ⟨e4, e5⟩ := List.append_inj' e3 rfl
      have e6 : (alo, ahi, blo, bhi) = ((0 : Int), (a.length : Int), (0 : Int), (b.length : Int)) := by simpa using e5
      simp only [Prod.mk.injEq] at e6
      obtain ⟨rfl, rfl, rfl, rfl⟩ := e6
      have hk' := hg g
      have hl := g.1
      have z1 : i = 0 := by lia
      have z2 : j = 0 := by lia
      refine .inr ⟨?_, ?_⟩
      · rcases h1 with e | ⟨e, e1, e2⟩
        · rcases h2 with e' | ⟨e', e3, e4⟩
          · rw [e4, e, e']; rfl
          · lia
        · lia
      · rw [e2, if_neg (by lia), z1, z2, hk', Int.sub_zero]; rfl
    · exact absurd e1 (by simp)
  · have := w1.2
    rw [meas_app, meas_app, meas_app]
    simp only [meas]
    lia
/-- blocks in turn -/
inductive Chain (a b : List Str) : List T3 → Int → Int → Prop
  | nil : Chain a b [] 0 0
  | one {xs : List T3} {i j i' j' k : Int} : Chain a b xs i j → i ≤ i' → j ≤ j' → (xs = [] ∨ i < i' ∨ j < j') → 1 ≤ k → (∀ t, 0 ≤ t → t < k → eqAt a b (i' + t) (j' + t)) → Chain a b (xs ++ [(i', j', k)]) (i' + k) (j' + k)
noncomputable def MS (a b : List Str) (na : List T3) (i1 j1 k1 : Int) : Prop :=
  (k1 = 0 ∧ na = [] ∧ i1 = 0 ∧ j1 = 0) ∨ (1 ≤ k1 ∧ ∃ i j, Chain a b na i j ∧ i ≤ i1 ∧ j ≤ j1 ∧ (na = [] ∨ i < i1 ∨ j < j1) ∧ ∀ t, 0 ≤ t → t < k1 → eqAt a b (i1 + t) (j1 + t))
theorem MS.done {a b : List Str} {na : List T3} {i1 j1 k1 : Int} (h : MS a b na i1 j1 k1) : Chain a b (if k1 = 0 then na else na ++ [(i1, j1, k1)]) (i1 + k1) (j1 + k1) := by
  rcases h with ⟨e1, e2, e3, e4⟩ | ⟨e1, i, j, e2, e3, e4, e5, e6⟩
  · subst e1; subst e2; subst e3; subst e4; exact .nil
  · rw [if_neg (by lia)]; exact .one e2 e3 e4 e5 e1 e6
theorem MS.join {a b : List Str} {na : List T3} {i1 j1 k1 i2 j2 k2 : Int} (h : MS a b na i1 j1 k1) (e1 : i1 + k1 = i2) (e2 : j1 + k1 = j2) (hk : 1 ≤ k2) (he : ∀ t, 0 ≤ t → t < k2 → eqAt a b (i2 + t) (j2 + t)) : MS a b na i1 j1 (k1 + k2) := by
  rcases h with ⟨z1, z2, z3, z4⟩ | ⟨z1, i, j, z2, z3, z4, z5, z6⟩
  · subst z1; subst z2; subst z3; subst z4
    refine .inr ⟨by lia, 0, 0, .nil, by lia, by lia, .inl rfl, fun t h1 h2 => ?_⟩
    have := he t h1 (by lia)
    rw [← e1, ← e2] at this
    simpa using this
  · refine .inr ⟨by lia, i, j, z2, z3, z4, z5, fun t h1 h2 => ?_⟩
    by_cases q : t < k1
    · exact z6 t h1 q
    · have := he (t - k1) (by lia) (by lia)
      rw [← e1, ← e2] at this
      rw [show i1 + t = i1 + k1 + (t - k1) by lia, show j1 + t = j1 + k1 + (t - k1) by lia]; exact this
theorem MS.next {a b : List Str} {na : List T3} {i1 j1 k1 i2 j2 k2 : Int} (h : MS a b na i1 j1 k1) (e1 : i1 + k1 ≤ i2) (e2 : j1 + k1 ≤ j2) (hne : ¬ (i1 + k1 = i2 ∧ j1 + k1 = j2)) (hk : 1 ≤ k2) (he : ∀ t, 0 ≤ t → t < k2 → eqAt a b (i2 + t) (j2 + t)) : MS a b (if k1 = 0 then na else na ++ [(i1, j1, k1)]) i2 j2 k2 :=
  .inr ⟨hk, _, _, h.done, e1, e2, .inr (by lia), he⟩
noncomputable def un3 : MV → T3
  | .mat [.int i, .int j, .int k] => (i, j, k)
  | _ => (0, 0, 0)
theorem un3_mat3 (t : T3) : un3 (mat3 t) = t := rfl
/-- the sorted blocks -/
theorem sorted {a b : List Str} {bs : List T3} {ms : List MV} (h : Q6 a b [] bs) (hp : ms.Perm (bs.map mat3)) (hs : ms.Pairwise fun x y => keyM x ≤ keyM y) :
    ∃ ts : List T3, ms = ts.map mat3 ∧ ts.length ≤ a.length ∧ (∀ t ∈ ts, 1 ≤ t.2.2 ∧ Mt a b 0 a.length 0 b.length t.1 t.2.1 t.2.2) ∧ ts.Pairwise (fun t u => Sep (rectOf t) (rectOf u)) ∧ (Dg a b 0 a.length 0 b.length → ts = if a.length = 0 then [] else [(0, 0, (a.length : Int))]) := by
  have hq : (ms.map un3).Perm bs := by
    have := hp.map un3
    rw [List.map_map] at this
    have e : bs.map (un3 ∘ mat3) = bs := by
      conv => rhs; rw [← List.map_id bs]
      exact List.map_congr_left fun t _ => un3_mat3 t
    rwa [e] at this
  have he : ms = (ms.map un3).map mat3 := by
    rw [List.map_map]
    conv => lhs; rw [← List.map_id ms]
    refine List.map_congr_left fun m hm => ?_
    obtain ⟨t, _, e⟩ := List.mem_map.mp (hp.mem_iff.mp hm)
    rw [← e]; rfl
  refine ⟨ms.map un3, he, ?_, fun t ht => h.bk t (hq.mem_iff.mp ht), ?_, fun g => ?_⟩
  · have := h.ct; rw [hq.length_eq]; simp only [sumW] at this; lia
  · have h1 := hq.symm.pairwise h.bb (fun {x y} h => h.symm)
    have h2 : (ms.map un3).Pairwise fun t u => t.1 ≤ u.1 := by
      rw [he, List.pairwise_map] at hs
      exact hs
    refine (h1.and h2).imp_of_mem fun {t u} ht hu ⟨x, y⟩ => ?_
    rcases x with x | ⟨x, _⟩
    · exact x
    · have := (h.bk u (hq.mem_iff.mp hu)).1
      have x : u.1 + u.2.2 ≤ t.1 := x
      lia
  · rcases h.dg g with ⟨e, _⟩ | ⟨_, e⟩
    · cases e
    · rw [e] at hq
      rw [e] at h
      by_cases z : a.length = 0
      · rw [if_pos z] at hq ⊢; exact List.perm_nil.mp hq
      · rw [if_neg z] at hq ⊢; exact List.perm_singleton.mp hq
theorem keys_nodup {a b : List Str} {bs : List T3} (h : Q6 a b [] bs) : ((bs.map mat3).map keyM).Nodup := by
  rw [List.map_map]
  unfold List.Nodup
  rw [List.pairwise_map]
  refine h.bb.imp_of_mem fun {t u} ht hu x e => ?_
  have h1 := (h.bk t ht).1
  have h2 := (h.bk u hu).1
  have e : t.1 = u.1 := e
  rcases x with ⟨x, _⟩ | ⟨x, _⟩
  · have x : t.1 + t.2.2 ≤ u.1 := x
    lia
  · have x : u.1 + u.2.2 ≤ t.1 := x
    lia
end
open PySem PySem.W PySem.W.X PyProof.Rows
section
set_option Elab.async false
set_option linter.unusedVariables false
set_option maxRecDepth 100000
noncomputable def JoinP (J : List CellAt → List MV → Prop) (P : Fl → List CellAt → List MV → Prop) : Fl → List CellAt → List MV → Prop
  | .next, cs, vs => J cs vs
  | fl, cs, vs => P fl cs vs
section
variable {c : Cx} {n : Nat} {cs : List CellAt} {vs : List MV} {r : List Stmt} {k : List (List Stmt)} {P : Fl → List CellAt → List MV → Prop}
/-- an if whose two ways meet -/
theorem XS.iteJ {t : Expr} {b1 b2 : List Stmt} {pos : Pos} {b : Bool} (J : List CellAt → List MV → Prop) (ht : TV c n cs vs t b) (h1 : b = true → XS c n cs vs [b1] (JoinP J P)) (h2 : b = false → XS c n cs vs [b2] (JoinP J P)) (hJ : ∀ cs' vs', J cs' vs' → XS c n cs' vs' (r :: k) P) :
    XS c n cs vs ((.If t b1 b2 pos :: r) :: k) P :=
  XS.cons (EX1.ite ht (fun e => EX.mono (XS.of (h1 e)) fun fl cs' vs' p => by cases fl <;> first | exact hJ _ _ p | exact p) (fun e => EX.mono (XS.of (h2 e)) fun fl cs' vs' p => by cases fl <;> first | exact hJ _ _ p | exact p))
theorem XS.norm {ss : List (List Stmt)} (cs' : List CellAt) (vs' : List MV) (h : XS c n cs' vs' ss P) (e1 : cs = cs' := by rfl) (e2 : vs = vs' := by rfl) : XS c n cs vs ss P := by subst e1; subst e2; exact h
theorem XS.asgC3 {t1 t2 t3 e : Expr} {pos : Pos} {mv : MV} {cs1 cs2 cs3 : List CellAt} {vs1 vs2 vs3 : List MV} (h : EV c n cs vs e mv) (ha : ASc c n cs vs t1 mv cs1 vs1) (hb : ASc c n cs1 vs1 t2 mv cs2 vs2) (hd : ASc c n cs2 vs2 t3 mv cs3 vs3) (hx : XS c n cs3 vs3 (r :: k) P)
    (hw : swappedStores [t1, t2, t3] e c.env = pure none := by kernel_rfl) (he : (assignEach [t1, t2, t3] c.env).map (·.2) = [assign t1 c.env, assign t2 c.env, assign t3 c.env] := by kernel_rfl) : XS c n cs vs ((.Assign [t1, t2, t3] e pos :: r) :: k) P :=
  XS.cons (.mk fun A K F s Q hA hS hQ => wpAny_Assign_three (h.go A K F s _ hA hS fun F1 v s1 l1 S1 d1 => by
    exact ha.go A K F1 s1 _ v hA S1 d1 fun F2 s2 l2 S2 => hb.go A K F2 s2 _ v hA S2 (d1.mono l2 ha.le) fun F3 s3 l3 S3 => hd.go A K F3 s3 _ v hA S3 (d1.mono (l2.trans l3) (ha.le.trans hb.le)) fun F4 s4 l4 S4 => hQ F4 _ s4 .next cs3 vs3 (l1.trans (l2.trans (l3.trans l4))) S4 .next hx) he hw)
/-- x.append(e) on a list cell -/
theorem XS.app {o e : Expr} {apos p pos : Pos} {j : Nat} {a : Addr} {xs : List MV} {m : MV} (ho : EV c n cs vs o (.cell j)) (hk : cs[j]? = some ⟨a, [], .list xs⟩) (he : EV c n cs vs e m) (hm : m.nc = true) (hz : xs.length ≤ 100000)
    (hx : XS c n (cs.set j ⟨a, [], .list (xs ++ [m])⟩) vs (r :: k) P)
    (hbo : ∀ x, attributeBase o "append" c.env x = x := by intro _; kernel_rfl) (hfo : methodCallForm ([e].length + 0) (backTo p (starEach [e] c.env)) [] = true := by kernel_rfl) (hlo : (apos.endLine == p.line) = true := by kernel_rfl)
    (he' : starEach [e] c.env = (false, eval e c.env) :: starEach [] c.env := by kernel_rfl) (hp : (backTo p (starEach [e] c.env)).any (·.1) = false := by kernel_rfl)
    (hi : interactive c.env = false := by kernel_rfl) (hs : swapsWith (.Call (.Attribute o "append" apos) [e] [] p) none pos.line c.env = pure false := by kernel_rfl) :
    XS c n cs vs ((.Expr (.Call (.Attribute o "append" apos) [e] [] p) pos :: r) :: k) P :=
  XS.expr (EVx.meth (name := "append") ho (GMv.append hk) (fun _ _ _ _ => .bi _) (EVs.cons he EVs.nil he') (CX.mono (CX.append hk hm hz) fun m cs' h => ⟨h.1, by obtain ⟨_, rfl⟩ := h; exact hx⟩) hbo hfo hlo he' hp) hi hs
theorem CS.lenA {a : List Str} (hz : a.length ≤ 100000) : CS c n cs vs (.builtin "len") [mstrs a] (.int a.length) := by
  have := CS.lenL (c := c) (n := n) (cs := cs) (vs := vs) (xs := a.map .str) (by rw [List.length_map]; exact hz)
  rwa [List.length_map] at this
end
end
open PySem PySem.W PySem.W.X PyProof.Rows
section
set_option Elab.async false
set_option linter.unusedVariables false
section
variable {c : Cx} {n : Nat} {cs : List CellAt} {vs : List MV} {r : List Stmt} {k : List (List Stmt)} {P : Fl → List CellAt → List MV → Prop}
/-- an if whose two ways meet in a state told by a record -/
theorem XS.iteG {σ : Type} (cf : σ → List CellAt) (vf : σ → List MV) (J : σ → Prop) {t : Expr} {b1 b2 : List Stmt} {pos : Pos} {b : Bool} (ht : TV c n cs vs t b)
    (h1 : b = true → ∀ PP : Fl → List CellAt → List MV → Prop, (∀ g, J g → PP .next (cf g) (vf g)) → XS c n cs vs [b1] PP) (h2 : b = false → ∀ PP : Fl → List CellAt → List MV → Prop, (∀ g, J g → PP .next (cf g) (vf g)) → XS c n cs vs [b2] PP)
    (hJ : ∀ g, J g → XS c n (cf g) (vf g) (r :: k) P) : XS c n cs vs ((.If t b1 b2 pos :: r) :: k) P :=
  XS.iteJ (fun cs' vs' => ∃ g, J g ∧ cs' = cf g ∧ vs' = vf g) ht (fun e => h1 e _ fun g h => ⟨g, h, rfl, rfl⟩) (fun e => h2 e _ fun g h => ⟨g, h, rfl, rfl⟩) fun _ _ ⟨g, h, ec, ev⟩ => ec ▸ ev ▸ hJ g h
theorem XS.appE {o e : Expr} {apos p pos : Pos} {j : Nat} {a : Addr} {xs ys : List MV} {m : MV} (ho : EV c n cs vs o (.cell j)) (hk : cs[j]? = some ⟨a, [], .list xs⟩) (he : EV c n cs vs e m) (hm : m.nc = true) (hz : xs.length ≤ 100000) (hy : xs ++ [m] = ys)
    (hx : XS c n (cs.set j ⟨a, [], .list ys⟩) vs (r :: k) P)
    (hbo : ∀ x, attributeBase o "append" c.env x = x := by intro _; kernel_rfl) (hfo : methodCallForm ([e].length + 0) (backTo p (starEach [e] c.env)) [] = true := by kernel_rfl) (hlo : (apos.endLine == p.line) = true := by kernel_rfl)
    (he' : starEach [e] c.env = (false, eval e c.env) :: starEach [] c.env := by kernel_rfl) (hp : (backTo p (starEach [e] c.env)).any (·.1) = false := by kernel_rfl)
    (hi : interactive c.env = false := by kernel_rfl) (hs : swapsWith (.Call (.Attribute o "append" apos) [e] [] p) none pos.line c.env = pure false := by kernel_rfl) :
    XS c n cs vs ((.Expr (.Call (.Attribute o "append" apos) [e] [] p) pos :: r) :: k) P :=
  XS.app ho hk he hm hz (hy ▸ hx) hbo hfo hlo he' hp hi hs
theorem map_snoc {α : Type} (f : α → MV) (l : List α) (x : α) : l.map f ++ [f x] = (l ++ [x]).map f := by rw [List.map_append]; rfl
end
end
open PySem PySem.W PySem.W.X PyProof.Rows
section
set_option Elab.async false
set_option linter.unusedVariables false
set_option maxRecDepth 100000
set_option maxHeartbeats 1000000
theorem fn203 (w : World) : IsFn w 203 202 (B.o_276 w.params) := IsFn.of (oc := B.o_275 w.params) (by kernel_rfl) (isTop (by kernel_rfl)) rfl (isTop (by kernel_rfl)) rfl rfl
theorem ok203 (P : Params) : fnOk (B.o_276 P) = true := by kernel_rfl
/-- what get_matching_blocks answers -/
structure Blocks (a b : List Str) (xs : List T3) : Prop where
  ch : ∃ i j, Chain a b xs i j ∧ i ≤ a.length ∧ j ≤ b.length
  ln : xs.length ≤ a.length + 1
  dg : Dg a b 0 a.length 0 b.length → xs = if a.length = 0 then [] else [(0, 0, (a.length : Int))]
theorem Q6.takeE {a b : List Str} {qs q1 q2 : List R4} {bs : List T3} {r : R4} {i j k : Int} (h : Q6 a b (qs ++ [r]) bs) (hm : Mt a b r.1 r.2.1 r.2.2.1 r.2.2.2 i j k) (hk : 1 ≤ k) (hg : Dg a b r.1 r.2.1 r.2.2.1 r.2.2.2 → k = r.2.1 - r.1)
    (h1 : q1 = qs ∨ (q1 = qs ++ [(r.1, i, r.2.2.1, j)] ∧ r.1 < i ∧ r.2.2.1 < j)) (h2 : q2 = q1 ∨ (q2 = q1 ++ [(i + k, r.2.1, j + k, r.2.2.2)] ∧ i + k < r.2.1 ∧ j + k < r.2.2.2)) : Q6 a b q2 (bs ++ [(i, j, k)]) ∧ meas q2 < meas (qs ++ [r]) := by
  have e1 : ∃ l1, q1 = qs ++ l1 ∧ (l1 = [] ∨ (l1 = [(r.1, i, r.2.2.1, j)] ∧ r.1 < i ∧ r.2.2.1 < j)) := by
    rcases h1 with e | ⟨e, x⟩
    · exact ⟨[], by rw [e, List.append_nil], .inl rfl⟩
    · exact ⟨_, e, .inr ⟨rfl, x⟩⟩
  have e2 : ∃ l2, q2 = q1 ++ l2 ∧ (l2 = [] ∨ (l2 = [(i + k, r.2.1, j + k, r.2.2.2)] ∧ i + k < r.2.1 ∧ j + k < r.2.2.2)) := by
    rcases h2 with e | ⟨e, x⟩
    · exact ⟨[], by rw [e, List.append_nil], .inl rfl⟩
    · exact ⟨_, e, .inr ⟨rfl, x⟩⟩
  obtain ⟨l1, rfl, x1⟩ := e1
  obtain ⟨l2, rfl, x2⟩ := e2
  exact h.take hm hk hg x1 x2
theorem snoc_of {α : Type} {l : List α} (h : (!l.isEmpty) = true) : ∃ l' r, l = l' ++ [r] := by
  rcases List.eq_nil_or_concat l with e | ⟨l', r, e⟩
  · subst e; cases h
  · exact ⟨l', r, by rw [e, List.concat_eq_append]⟩
/-- what changes in the loops of get_matching_blocks -/
structure MbG where
  qs : List R4
  bs : List T3
  f5 : MV
  f6 : MV
  f7 : MV
  f8 : MV
  f9 : MV
  f10 : MV
  f11 : MV
  f12 : MV
noncomputable abbrev mbC (x d : Addr) (a b : List Str) (q y : Addr) (qs : List R4) (bs : List T3) : List CellAt := [smC2 x d a b .none .junk, ⟨q, [], .list (qs.map rect4)⟩, ⟨y, [], .list (bs.map mat3)⟩]
noncomputable abbrev mbV (a b : List Str) (g : MbG) : List MV := [.cell 0, .int a.length, .int b.length, .cell 1, .cell 2, g.f5, g.f6, g.f7, g.f8, g.f9, g.f10, g.f11, g.f12, .unb, .unb, .unb, .unb, .unb, .unb, .unb]
structure MbH where
  na : List T3
  i1 : Int
  j1 : Int
  k1 : Int
  g1 : MV
  g2 : MV
  g3 : MV
noncomputable abbrev mbC1 (x d : Addr) (a b : List Str) (q y z : Addr) (na : List T3) : List CellAt := [smC2 x d a b .none .junk, ⟨q, [], .dead⟩, ⟨y, [], .dead⟩, ⟨z, [], .list (na.map tup3)⟩]
noncomputable abbrev mbV1 (a b : List Str) (ts : List T3) (h : MbH) : List MV := [.cell 0, .int a.length, .int b.length, .unb, .list (ts.map mat3), .unb, .unb, .unb, .unb, .unb, .unb, .unb, .unb, .int h.i1, .int h.j1, .int h.k1, .cell 3, h.g1, h.g2, h.g3]
/-- what is known of the sorted blocks -/
structure TsOk (a b : List Str) (ts : List T3) : Prop where
  len : ts.length ≤ a.length
  mt : ∀ t ∈ ts, 1 ≤ t.2.2 ∧ Mt a b 0 a.length 0 b.length t.1 t.2.1 t.2.2
  pw : ts.Pairwise (fun t u => Sep (rectOf t) (rectOf u))
  dg : Dg a b 0 a.length 0 b.length → ts = if a.length = 0 then [] else [(0, 0, (a.length : Int))]
structure MbI (a b : List Str) (ts : List T3) (m : Nat) (h : MbH) : Prop where
  ms : MS a b h.na h.i1 h.j1 h.k1
  nl : h.na.length ≤ m
  ml : m ≤ ts.length
  dr : ∀ t ∈ ts.drop m, h.i1 + h.k1 ≤ t.1 ∧ h.j1 + h.k1 ≤ t.2.1
  il : h.i1 + h.k1 ≤ a.length
  jl : h.j1 + h.k1 ≤ b.length
  dg : Dg a b 0 a.length 0 b.length → h.na = [] ∧ h.i1 = 0 ∧ h.j1 = 0 ∧ (m = 0 → h.k1 = 0) ∧ (m ≠ 0 → h.k1 = a.length)
noncomputable def MbH.all (h : MbH) : List T3 := if h.k1 = 0 then h.na else h.na ++ [(h.i1, h.j1, h.k1)]
section
variable {a b : List Str} {ts : List T3} {m : Nat} {h : MbH} {t : T3}
theorem MbI.start (q : TsOk a b ts) {g1 g2 g3 : MV} : MbI a b ts 0 ⟨[], 0, 0, 0, g1, g2, g3⟩ :=
  ⟨.inl ⟨rfl, rfl, rfl, rfl⟩, Nat.le_refl _, Nat.zero_le _, fun t ht => ⟨(q.mt t ht).2.i0, (q.mt t ht).2.j0⟩, Int.natCast_nonneg _, Int.natCast_nonneg _, fun g => ⟨rfl, rfl, rfl, fun _ => rfl, fun h => absurd rfl h⟩⟩
theorem MbH.len (h : MbH) {m : Nat} (q : h.na.length ≤ m) : h.all.length ≤ m + 1 := by
  unfold MbH.all; split
  · exact Nat.le_succ_of_le q
  · rw [List.length_append, List.length_singleton]; exact Nat.succ_le_succ q
theorem MbI.blocks (r : MbI a b ts ts.length h) (q : TsOk a b ts) : Blocks a b h.all := by
  refine ⟨⟨_, _, r.ms.done, r.il, r.jl⟩, Nat.le_trans (h.len r.nl) (Nat.succ_le_succ q.len), fun g => ?_⟩
  obtain ⟨z1, z2, z3, z4, z5⟩ := r.dg g
  have e := q.dg g
  unfold MbH.all
  rw [z1, z2, z3]
  by_cases e0 : a.length = 0
  · rw [if_pos e0] at e ⊢
    rw [if_pos (z4 (by rw [e]; rfl))]
  · rw [if_neg e0] at e ⊢
    have := z5 (by rw [e]; simp)
    rw [if_neg (by lia), this]; rfl
theorem MbI.at (r : MbI a b ts m h) (q : TsOk a b ts) (ht : ts[m]? = some t) : m < ts.length ∧ 1 ≤ t.2.2 ∧ Mt a b 0 a.length 0 b.length t.1 t.2.1 t.2.2 ∧ h.i1 + h.k1 ≤ t.1 ∧ h.j1 + h.k1 ≤ t.2.1 ∧ (∀ u ∈ ts.drop (m + 1), t.1 + t.2.2 ≤ u.1 ∧ t.2.1 + t.2.2 ≤ u.2.1) ∧
    (Dg a b 0 a.length 0 b.length → m = 0 ∧ t = (0, 0, (a.length : Int))) := by
  have hml : m < ts.length := (List.getElem?_eq_some_iff.mp ht).1
  have hmem : t ∈ ts := List.mem_of_getElem? ht
  have hdr : ts.drop m = t :: ts.drop (m + 1) := by rw [List.drop_eq_getElem_cons hml, (List.getElem?_eq_some_iff.mp ht).2]
  have hle := r.dr t (by rw [hdr]; exact .head _)
  refine ⟨hml, (q.mt _ hmem).1, (q.mt _ hmem).2, hle.1, hle.2, fun u hu => ?_, fun g => ?_⟩
  · have hp' := q.pw.sublist (List.drop_sublist m ts)
    rw [hdr] at hp'
    exact (List.pairwise_cons.mp hp').1 u hu
  · have e := q.dg g
    by_cases e0 : a.length = 0
    · rw [if_pos e0] at e; rw [e] at hmem; cases hmem
    · rw [if_neg e0] at e
      rw [e] at hmem hml
      exact ⟨Nat.lt_one_iff.mp hml, List.mem_singleton.mp hmem⟩
theorem MbI.join (r : MbI a b ts m h) (q : TsOk a b ts) (ht : ts[m]? = some t) (e1 : h.i1 + h.k1 = t.1) (e2 : h.j1 + h.k1 = t.2.1) {g1 g2 g3 : MV} : MbI a b ts (m + 1) ⟨h.na, h.i1, h.j1, h.k1 + t.2.2, g1, g2, g3⟩ := by
  obtain ⟨p1, p2, p3, p4, p5, p6, p7⟩ := r.at q ht
  have m1 := p3.i1; have m2 := p3.j1
  refine ⟨r.ms.join e1 e2 p2 p3.eq, Nat.le_succ_of_le r.nl, p1, fun u hu => ?_, ?_, ?_, fun g => ?_⟩
  · have := p6 u hu; dsimp only; lia
  · dsimp only; lia
  · dsimp only; lia
  · obtain ⟨z1, z2, z3, z4, z5⟩ := r.dg g
    obtain ⟨y1, y2⟩ := p7 g
    exact ⟨z1, z2, z3, fun h => absurd h (Nat.succ_ne_zero _), fun _ => by dsimp only; rw [z4 y1, y2]; simp⟩
theorem MbI.next (r : MbI a b ts m h) (q : TsOk a b ts) (ht : ts[m]? = some t) (hb : ¬ (h.i1 + h.k1 = t.1 ∧ h.j1 + h.k1 = t.2.1)) {g1 g2 g3 : MV} : MbI a b ts (m + 1) ⟨h.all, t.1, t.2.1, t.2.2, g1, g2, g3⟩ := by
  obtain ⟨p1, p2, p3, p4, p5, p6, p7⟩ := r.at q ht
  refine ⟨r.ms.next p4 p5 hb p2 p3.eq, h.len r.nl, p1, p6, p3.i1, p3.j1, fun g => ?_⟩
  obtain ⟨z1, z2, z3, z4, z5⟩ := r.dg g
  obtain ⟨y1, y2⟩ := p7 g
  exact absurd ⟨by rw [z2, z4 y1, y2]; rfl, by rw [z3, z4 y1, y2]; rfl⟩ hb
end
theorem map_at3 {ts : List T3} {m : Nat} {v : MV} (h : (ts.map mat3)[m]? = some v) : ∃ t, ts[m]? = some t ∧ v = mat3 t := by
  rw [List.getElem?_map] at h
  cases hj : ts[m]? with
  | none => rw [hj] at h; cases h
  | some j => rw [hj] at h; cases h; exact ⟨j, rfl, rfl⟩
theorem all_if (h : MbH) : (h.k1 ≠ 0 → h.na ++ [(h.i1, h.j1, h.k1)] = h.all) ∧ (h.k1 = 0 → h.na = h.all) := ⟨fun e => (if_neg e).symm, fun e => (if_pos e).symm⟩
theorem mats_ok {bs : List T3} : ∀ m ∈ bs.map mat3, isMatM m := fun m hm => by
  obtain ⟨t, _, rfl⟩ := List.mem_map.mp hm
  trivial
theorem sortedC {a b : List Str} {bs : List T3} {m' : MV} {cs' : List CellAt} {f : List MV → List CellAt} {G : Prop} (h : Q6 a b [] bs) (hm : m' = .none ∧ ∃ ms', ms'.Perm (bs.map mat3) ∧ ms'.Pairwise (fun x y => keyM x ≤ keyM y) ∧ cs' = f ms') (K : ∀ ts : List T3, m' = .none → cs' = f (ts.map mat3) → TsOk a b ts → G) : G := by
  obtain ⟨e, ms', hp, hs, h1⟩ := hm
  obtain ⟨ts, rfl, htl, htm, htp, htd⟩ := sorted h hp hs
  exact K ts e h1 ⟨htl, htm, htp, htd⟩
section
variable {w : World} {n : Nat}
theorem CF.gmb {x d : Addr} {a b : List Str} (hza : a.length ≤ 60) (hz : b.length ≤ 100) :
    CF w (n + 9) [smC2 x d a b .none .junk] (.ref 203) [.cell 0] (fun m cs' => ∃ xs, Blocks a b xs ∧ m = .list ((xs ++ [((a.length : Int), (b.length : Int), (0 : Int))]).map mat3) ∧ cs' = [smC2 x d a b m .junk]) := by
  refine CF.fnD (n := n + 8) (dms := []) (vs0 := [.cell 0, .unb, .unb, .unb, .unb, .unb, .unb, .unb, .unb, .unb, .unb, .unb, .unb, .unb, .unb, .unb, .unb, .unb, .unb, .unb]) (fn203 w) (ok203 _) rfl ["self"] ["la", "lb", "queue", "matching_blocks", "alo", "ahi", "blo", "bhi", "i", "j", "k", "x", "i1", "j1", "k1", "non_adjacent", "i2", "j2", "k2"]
    ["self", "la", "lb", "queue", "matching_blocks", "alo", "ahi", "blo", "bhi", "i", "j", "k", "x", "i1", "j1", "k1", "non_adjacent", "i2", "j2", "k2"] [] [] (fun p h => nomatch h) (fun F as => .nil) ?_ rfl rfl rfl (by decide) (by kernel_rfl) fun L P ok hR _ => ?_
  · refine all1S fun x S => ?_
    kernel_rfl
  have hR := fun vs' xs (h : Blocks a b xs) => hR _ [smC2 x d a b (.list ((xs ++ [((a.length : Int), (b.length : Int), (0 : Int))]).map mat3)) .junk] vs' (asLe.refl _) ⟨xs, h, rfl, rfl⟩
  unfold smC2 at hR ⊢
  refine XS.doc ?_
  refine XS.ite (TV.isNotNoneF (by walk_at "m_ev") (by walk_at "m_ev")) (fun h => nomatch h) (fun _ => XS.nil ?_)
  refine XS.asgSw ok (names := ["la", "lb"]) (ms := [.int a.length, .int b.length]) (EV.tup (EVs.cons (EV.callB (EV.bi ok (mem_lu (by kernel_rfl)) (by kernel_rfl) (by kernel_rfl)) (by walk_at "m_evs") (CS.lenA (a := a) (by lia))) (EVs.cons (EV.callB (EV.bi ok (mem_lu (by kernel_rfl)) (by kernel_rfl) (by kernel_rfl)) (by walk_at "m_evs") (CS.lenA (a := b) (by lia))) EVs.nil)) (Nat.le_of_ble_eq_true rfl)) (by kernel_rfl) rfl (by walk_at "m_putn") ?_
  refine XS.asgX (EVx.listC (by walk_at "m_evs") (hz := Nat.le_of_ble_eq_true rfl) (hR := fun qa => ⟨_, _, (ASc.name (by assumption) (mem_lu (by kernel_rfl)) (by walk_at "m_at")), ?_⟩))
  refine XS.asgX (EVx.listC EVs.nil (hR := fun y => ⟨_, _, (ASc.name (by assumption) (mem_lu (by kernel_rfl)) (by walk_at "m_at")), ?_⟩))
  refine XS.whileG (σ := MbG) (fun g => mbC x d a b qa y g.qs g.bs) (mbV a b) (fun g => Q6 a b g.qs g.bs) (fun g => g.qs = []) (fun g => meas g.qs) ⟨[((0 : Int), (a.length : Int), (0 : Int), (b.length : Int))], [], _, _, _, _, _, _, _, _⟩ (Q6.start a b) ?_ ?_
  rotate_left
  · intro g hq he
    have hq : Q6 a b [] g.bs := he ▸ hq
    refine XS.forget (vs' := [.cell 0, .int a.length, .int b.length, .cell 1, .cell 2, .unb, .unb, .unb, .unb, .unb, .unb, .unb, .unb, .unb, .unb, .unb, .unb, .unb, .unb, .unb]) (by walk_at "m_at") ?_
    refine XS.frzL (j := 1) rfl ?_
    refine XS.norm [smC2 x d a b .none .junk, ⟨qa, [], .dead⟩, ⟨y, [], .list (g.bs.map mat3)⟩] [.cell 0, .int a.length, .int b.length, .list (g.qs.map rect4), .cell 2, .unb, .unb, .unb, .unb, .unb, .unb, .unb, .unb, .unb, .unb, .unb, .unb, .unb, .unb, .unb] ?_
    refine XS.forget (vs' := [.cell 0, .int a.length, .int b.length, .unb, .cell 2, .unb, .unb, .unb, .unb, .unb, .unb, .unb, .unb, .unb, .unb, .unb, .unb, .unb, .unb, .unb]) (by walk_at "m_at") ?_
    have hbl := hq.len.1
    refine XS.expr (EVx.meth0 (name := "sort") (by walk_at "m_ev") (GMv.sort (j := 2) rfl) (fun _ _ _ _ => .bi _) (CX.mono (CX.sortM (n := n + 7) (j := 2) (ms := g.bs.map mat3) rfl mats_ok (keys_nodup hq) (by rw [List.length_map]; lia)) fun m cs1 hm => ?_))
    refine sortedC hq hm fun ts e1 e2 q => ?_
    subst e2
    refine ⟨e1, ?_⟩
    refine XS.norm [smC2 x d a b .none .junk, ⟨qa, [], .dead⟩, ⟨y, [], .list (ts.map mat3)⟩] _ ?_
    refine XS.asgC3 (mv := .int 0) (by walk_at "m_ev") (ASc.name (by assumption) (mem_lu (by kernel_rfl)) (by walk_at "m_at")) (ASc.name (by assumption) (mem_lu (by kernel_rfl)) (by walk_at "m_at")) (ASc.name (by assumption) (mem_lu (by kernel_rfl)) (by walk_at "m_at")) ?_
    refine XS.frzL (j := 2) rfl ?_
    refine XS.norm [smC2 x d a b .none .junk, ⟨qa, [], .dead⟩, ⟨y, [], .dead⟩] [.cell 0, .int a.length, .int b.length, .unb, .list (ts.map mat3), .unb, .unb, .unb, .unb, .unb, .unb, .unb, .unb, .int 0, .int 0, .int 0, .unb, .unb, .unb, .unb] ?_
    refine XS.asgX (EVx.listC EVs.nil (hR := fun z => ⟨_, _, (ASc.name (by assumption) (mem_lu (by kernel_rfl)) (by walk_at "m_at")), ?_⟩))
    refine XS.forLG (σ := MbH) (fun h => mbC1 x d a b qa y z h.na) (mbV1 a b ts) (MbI a b ts) (MbI a b ts ts.length) (items := ts.map mat3) ⟨[], 0, 0, 0, .unb, .unb, .unb⟩ (by walk_at "m_ev") (MbI.start q) (fun h r => by rw [List.length_map] at r; exact r) ?_ ?_
    rotate_left
    · intro h r
      have hnl := h.len r.nl
      have hml := q.len
      have hbk := r.blocks q
      refine XS.iteG (σ := Unit) (fun _ => mbC1 x d a b qa y z h.all) (fun _ => mbV1 a b ts h) (fun _ => True) (TV.int (i := h.k1) (by walk_at "m_ev")) (fun hk PP hP => ?_) (fun hk PP hP => ?_) fun _ _ => ?_
      · exact XS.appE (j := 3) (xs := h.na.map tup3) (ys := h.all.map tup3) (m := .tup [.int h.i1, .int h.j1, .int h.k1]) (by walk_at "m_ev") rfl (by walk_at "m_ev") rfl (by rw [List.length_map]; have := r.nl; lia) ((map_snoc tup3 h.na (h.i1, h.j1, h.k1)).trans (congrArg _ ((all_if h).1 (by simpa using hk)))) (XS.nil (hP () trivial))
      · exact XS.nil ((congrArg (fun l => mbC1 x d a b qa y z l) ((all_if h).2 (by simpa using hk))) ▸ hP () trivial)
      refine XS.appE (j := 3) (xs := h.all.map tup3) (m := .tup [.int a.length, .int b.length, .int 0]) (by walk_at "m_ev") rfl (by walk_at "m_ev") rfl (by rw [List.length_map]; lia) (map_snoc tup3 h.all ((a.length : Int), (b.length : Int), (0 : Int))) ?_
      refine XS.forget (vs' := [.cell 0, .int a.length, .int b.length, .unb, .unb, .unb, .unb, .unb, .unb, .unb, .unb, .unb, .unb, .unb, .unb, .unb, .cell 3, .unb, .unb, .unb]) (by walk_at "m_at") ?_
      refine XS.frzL (j := 3) rfl ?_
      refine XS.drop (cs := [smC2 x d a b .none .junk]) (ds := [⟨qa, [], .dead⟩, ⟨y, [], .dead⟩, ⟨z, [], .dead⟩]) (vs := [.cell 0, .int a.length, .int b.length, .unb, .unb, .unb, .unb, .unb, .unb, .unb, .unb, .unb, .unb, .unb, .unb, .unb, .list ((h.all ++ [((a.length : Int), (b.length : Int), (0 : Int))]).map tup3), .unb, .unb, .unb]) ?_
      unfold smC2
      refine XS.asgC (EV.listMap (n := n) (EV.bi ok (mem_lu (by kernel_rfl)) (by kernel_rfl) (by kernel_rfl)) (EV.bi ok (mem_lu (by kernel_rfl)) (by kernel_rfl) (by kernel_rfl)) (EV.glob ok (mem_lu (by kernel_rfl)) (by kernel_rfl)) (by walk_at "m_ev") (by rw [List.length_append, List.length_singleton]; lia)) (ASc.attr (by walk_at "m_ev") (by exact rfl) (by walk_at "m_at") (by decide) (by decide)) ?_
      exact XS.ret (by walk_at "m_ev") (hR _ h.all hbk)
    · intro m v h hv r
      obtain ⟨t, ht, rfl⟩ := map_at3 hv
      have hnl := r.nl; have hml := r.ml; have htl := q.len
      refine ⟨_, AS.mat (ms := [.int t.1, .int t.2.1, .int t.2.2]) ok (by walk_at "m_puts"), fun PP hN hE => ?_⟩
      refine XS.ite (TV.and (.cons (TV.eqi (a := h.i1 + h.k1) (b := t.1) (by walk_at "m_ev") (by walk_at "m_ev")) fun e1 => .cons (TV.eqi (a := h.j1 + h.k1) (b := t.2.1) (by walk_at "m_ev") (by walk_at "m_ev")) fun e2 => .nil)) (fun hb => ?_) (fun hb => ?_)
      · simp only [Bool.and_eq_true, beq_iff_eq, and_true] at hb
        refine XS.augAdd ok (a := h.k1) (b := t.2.2) (mem_lu (by kernel_rfl)) (by walk_at "m_at") (by walk_at "m_ev") (by walk_at "m_at") ?_
        exact XS.nil (XS.nil (hN ⟨h.na, h.i1, h.j1, h.k1 + t.2.2, .int t.1, .int t.2.1, .int t.2.2⟩ (r.join q ht hb.1 hb.2)).1)
      · have hb : ¬ (h.i1 + h.k1 = t.1 ∧ h.j1 + h.k1 = t.2.1) := fun ⟨x1, x2⟩ => by
          rw [x1, x2] at hb; simp at hb
        refine XS.iteG (σ := Unit) (fun _ => mbC1 x d a b qa y z h.all) (fun _ => mbV1 a b ts ⟨h.na, h.i1, h.j1, h.k1, .int t.1, .int t.2.1, .int t.2.2⟩) (fun _ => True) (TV.int (i := h.k1) (by walk_at "m_ev")) (fun hk PP hP => ?_) (fun hk PP hP => ?_) fun _ _ => ?_
        · exact XS.appE (j := 3) (xs := h.na.map tup3) (ys := h.all.map tup3) (m := .tup [.int h.i1, .int h.j1, .int h.k1]) (by walk_at "m_ev") rfl (by walk_at "m_ev") rfl (by rw [List.length_map]; lia) ((map_snoc tup3 h.na (h.i1, h.j1, h.k1)).trans (congrArg _ ((all_if h).1 (by simpa using hk)))) (XS.nil (hP () trivial))
        · exact XS.nil ((congrArg (fun l => mbC1 x d a b qa y z l) ((all_if h).2 (by simpa using hk))) ▸ hP () trivial)
        refine XS.asgSw ok (names := ["i1", "j1", "k1"]) (ms := [.int t.1, .int t.2.1, .int t.2.2]) (by walk_at "m_ev") (by kernel_rfl) rfl (by walk_at "m_putn") ?_
        exact XS.nil (XS.nil (hN ⟨h.all, t.1, t.2.1, t.2.2, .int t.1, .int t.2.1, .int t.2.2⟩ (r.next q ht hb)).1)
  · intro g hq
    have hlen := hq.len
    refine ⟨_, TV.cellL (j := 1) (xs := g.qs.map rect4) (by walk_at "m_ev") rfl (by rw [List.length_map]; lia), fun hb PP hN => ?_, fun hb => by simpa using hb⟩
    obtain ⟨qs, r, he⟩ := snoc_of (l := g.qs) (by simpa using hb)
    have hc : g.qs.map rect4 = qs.map rect4 ++ [.tup [.int r.1, .int r.2.1, .int r.2.2.1, .int r.2.2.2]] := by rw [he, List.map_append]; rfl
    have hq : Q6 a b (qs ++ [r]) g.bs := he ▸ hq
    have hN := fun g' h1 h2 => hN g' h1 (he ▸ h2)
    have hql : (qs.map rect4).length ≤ 100 := by
      have := hq.len.2; rw [List.length_append, List.length_singleton] at this; rw [List.length_map]; lia
    have hbl : (g.bs.map mat3).length ≤ 100 := by rw [List.length_map]; lia
    have hrr := hq.qr r (List.mem_append_right _ (.head _))
    refine XS.asgX (EVx.meth0 (name := "pop") (by walk_at "m_ev") (GMv.pop (j := 1) rfl) (fun _ _ _ _ => .bi _) (CX.mono (CX.pop (j := 1) (a := qa) (xs := qs.map rect4) (m := .tup [.int r.1, .int r.2.1, .int r.2.2.1, .int r.2.2.2]) (hc ▸ rfl) (by lia)) fun m cs1 hm => ?_))
    obtain ⟨rfl, rfl⟩ := hm
    refine ⟨_, _, (AS.tup ok (by walk_at "m_puts")).toC, ?_⟩
    refine XS.norm (mbC x d a b qa y qs g.bs) _ ?_
    refine XS.asgX2 (EVx.meth (name := "find_longest_match") (ms := [.int r.1, .int r.2.1, .int r.2.2.1, .int r.2.2.2]) (by walk_at "m_ev") (GMv.instF (fn196 w) rfl rfl (by kernel_rfl) (by decide) (by kernel_rfl)) (fun _ _ _ h => (fn196 w).callee h) (by walk_at "m_evs")
      (CX.mono (CF.cx (CF.wide (ds := [⟨qa, [], .list (qs.map rect4)⟩, ⟨y, [], .list (g.bs.map mat3)⟩]) (CF.flm (n := n) (x := x) (d := d) (a := a) (b := b) (by lia) hz hrr.1 hrr.2.1 hrr.2.2.1 hrr.2.2.2.1 hrr.2.2.2.2.1 hrr.2.2.2.2.2) (fun m cs' h => by rw [h.1]) rfl rfl)) ?_))
    rintro m cs1 ⟨cs2, rfl, rfl, i, j, k, rfl, hm, hg⟩
    refine ⟨_, _, _, _, (AS.mat ok (by walk_at "m_puts")).toC, (ASc.name (by assumption) (mem_lu (by kernel_rfl)) (by walk_at "m_at")), ?_⟩
    refine XS.ite (TV.int (i := k) (by walk_at "m_ev")) (fun hk => ?_) (fun hk => XS.nil ?_)
    rotate_left
    · have hk : k = 0 := by simpa using hk
      subst hk
      refine XS.nil (hN ⟨qs, g.bs, _, _, _, _, _, _, _, _⟩ (hq.skip (i := i) (j := j) hg) ?_)
      rw [meas_app]; simp only [meas]; lia
    have hk : k ≠ 0 := by simpa using hk
    have hk : 1 ≤ k := by have := hm.k0; lia
    refine XS.appE (j := 2) (xs := g.bs.map mat3) (m := .mat [.int i, .int j, .int k]) (by walk_at "m_ev") rfl (by walk_at "m_ev") rfl (by lia) (map_snoc mat3 g.bs (i, j, k)) ?_
    refine XS.iteG (σ := List R4) (fun q1 => mbC x d a b qa y q1 (g.bs ++ [(i, j, k)])) (fun _ => mbV a b ⟨[], [], .int r.1, .int r.2.1, .int r.2.2.1, .int r.2.2.2, .int i, .int j, .int k, .mat [.int i, .int j, .int k]⟩) (fun q1 => q1 = qs ∨ (q1 = qs ++ [(r.1, i, r.2.2.1, j)] ∧ r.1 < i ∧ r.2.2.1 < j))
      (TV.and (.cons (TV.lt (a := r.1) (b := i) (by walk_at "m_ev") (by walk_at "m_ev")) fun e1 => .cons (TV.lt (a := r.2.2.1) (b := j) (by walk_at "m_ev") (by walk_at "m_ev")) fun e2 => .nil)) (fun hb PP hP => ?_) (fun hb PP hP => XS.nil (hP qs (.inl rfl))) fun q1 h1 => ?_
    · simp only [Bool.and_eq_true, decide_eq_true_eq, and_true] at hb
      exact XS.appE (j := 1) (xs := qs.map rect4) (m := .tup [.int r.1, .int i, .int r.2.2.1, .int j]) (by walk_at "m_ev") rfl (by walk_at "m_ev") rfl (by lia) (map_snoc rect4 qs (r.1, i, r.2.2.1, j)) (XS.nil (hP _ (.inr ⟨rfl, hb⟩)))
    refine XS.ite (TV.and (.cons (TV.lt (a := i + k) (b := r.2.1) (by walk_at "m_ev") (by walk_at "m_ev")) fun e1 => .cons (TV.lt (a := j + k) (b := r.2.2.2) (by walk_at "m_ev") (by walk_at "m_ev")) fun e2 => .nil)) (fun hb => ?_) (fun hb => ?_)
    · simp only [Bool.and_eq_true, decide_eq_true_eq, and_true] at hb
      have hl3 : (q1.map rect4).length ≤ 200 := by
        rw [List.length_map] at hql ⊢
        rcases h1 with e | ⟨e, _⟩
        · rw [e]; lia
        · rw [e, List.length_append, List.length_singleton]; lia
      have := hq.takeE hm hk hg h1 (.inr ⟨rfl, hb⟩)
      exact XS.appE (j := 1) (xs := q1.map rect4) (m := .tup [.int (i + k), .int r.2.1, .int (j + k), .int r.2.2.2]) (by walk_at "m_ev") rfl (by walk_at "m_ev") rfl (by lia) (map_snoc rect4 q1 (i + k, r.2.1, j + k, r.2.2.2)) (XS.nil (XS.nil (XS.nil (hN ⟨_, _, _, _, _, _, _, _, _, _⟩ this.1 this.2))))
    · have := hq.takeE hm hk hg h1 (.inl rfl)
      exact XS.nil (XS.nil (XS.nil (hN ⟨_, _, _, _, _, _, _, _, _, _⟩ this.1 this.2)))
end
end
open PySem PySem.W PySem.W.X PyProof.Rows
section
set_option Elab.async false
set_option linter.unusedVariables false
set_option maxRecDepth 100000
inductive JunkTo : List MV → List MV → Prop
  | nil : JunkTo [] []
  | keep {v vs vs'} : JunkTo vs vs' → JunkTo (v :: vs) (v :: vs')
  | drop {v vs vs'} : JunkTo vs vs' → JunkTo (v :: vs) (.junk :: vs')
theorem JunkTo.at {x : Str} {m : MV} {vs vs' : List MV} (h : JunkTo vs vs') : ∀ {xs : List Str}, At x m xs vs' → ∃ m', At x m' xs vs ∧ (m = m' ∨ m = .junk) := by
  induction h with
  | nil => intro xs h; cases h
  | keep _ ih =>
    intro xs h
    cases h with
    | here => exact ⟨_, .here, .inl rfl⟩
    | there h => obtain ⟨m', a, e⟩ := ih h; exact ⟨m', .there a, e⟩
  | drop _ ih =>
    intro xs h
    cases h with
    | here => exact ⟨_, .here, .inr rfl⟩
    | there h => obtain ⟨m', a, e⟩ := ih h; exact ⟨m', .there a, e⟩
theorem JunkTo.unb {vs vs' : List MV} (h : JunkTo vs vs') (hu : MV.unb ∉ vs) : MV.unb ∉ vs' := by
  induction h with
  | nil => exact hu
  | keep _ ih => intro e; cases e with
    | head => exact hu (.head _)
    | tail _ e => exact ih (fun z => hu (.tail _ z)) e
  | drop _ ih => intro e; cases e with
    | tail _ e => exact ih (fun z => hu (.tail _ z)) e
section
variable {c : Cx} {n : Nat} {cs : List CellAt} {vs : List MV} {r : List Stmt} {k : List (List Stmt)} {P : Fl → List CellAt → List MV → Prop}
theorem XS.junkA {ss : List Stmt} {j : Nat} {a : Addr} {more : List Addr} {ns : List Str} {us us' : List MV} (hk : cs[j]? = some ⟨a, more, .inst ns us⟩) (hj : JunkTo us us') (h : XS c n (cs.set j ⟨a, more, .inst ns us'⟩) vs (ss :: k) P) : XS c n cs vs (ss :: k) P :=
  EX.mk fun A K F s Q hA hS hQ => by
    refine EX.go h A K F s Q hA (hS.setCell hk (y := ⟨a, more, .inst ns us'⟩) rfl rfl (fun _ _ _ e => e) (fun b hb => ?_) ?_ rfl rfl) hQ
    · exact (hS.ap b (mem_foots (List.mem_of_getElem? hk) hb)).2.2
    · obtain ⟨mA, d, o, e1, e2, e3, e4, e5, e6, e7⟩ := hS.cl _ (List.mem_of_getElem? hk)
      refine ⟨mA, d, o, e1, e2, e3, e4, fun x m ha hm => ?_, e6, hj.unb e7⟩
      obtain ⟨m', ha', hmm⟩ := hj.at ha
      have hm' : m' ≠ .unb := fun z => e7 (z ▸ ha'.mem2)
      obtain ⟨v, ev, dv⟩ := e5 x m' ha' hm'
      rcases hmm with rfl | rfl
      · exact ⟨v, ev, dv⟩
      · exact ⟨v, ev, .junk v⟩
theorem XS.forLX {t iter : Expr} {body : List Stmt} {pos : Pos} (B : List CellAt → List MV → Prop)
    (hi : EVx c n cs vs iter (fun m cs1 => ∃ items : List MV, ∃ I : Nat → List CellAt → List MV → Prop, m = .list items ∧ I 0 cs1 vs ∧ (∀ cs' vs', I items.length cs' vs' → B cs' vs') ∧
      (∀ i x cs vs, items[i]? = some x → I i cs vs → ∃ vs1, AS c n cs vs t x vs1 ∧ XS c n cs vs1 [body] (LoopP (I (i + 1)) B (fun m => P (.ret m))))))
    (hB : ∀ cs' vs', B cs' vs' → XS c n cs' vs' (r :: k) P)
    (hs : ∀ x, foldedSetIterable iter c.env x = pure x := by intro _; kernel_rfl) : XS c n cs vs ((.For t iter body [] pos :: r) :: k) P :=
  XS.cons (EX1.forLX (hi.mono fun m cs1 h => by
    obtain ⟨items, I, h1, h0, hend, turn⟩ := h
    refine ⟨items, I, h1, h0, fun cs' vs' hI => hB _ _ (hend _ _ hI), fun i x cs vs hx hI => ?_⟩
    obtain ⟨vs1, h1, h2⟩ := turn i x cs vs hx hI
    refine ⟨vs1, h1, EX.mono (XS.of h2) fun fl cs' vs' p => ?_⟩
    cases fl with
    | next => exact p
    | cont => exact p
    | brk => exact hB _ _ p
    | ret m => exact p) hs)
end
end
open PySem PySem.W PySem.W.X PyProof.Rows
section
set_option Elab.async false
set_option linter.unusedVariables false
section
variable {c : Cx} {n : Nat} {cs : List CellAt} {vs : List MV} {r : List Stmt} {k : List (List Stmt)} {P : Fl → List CellAt → List MV → Prop}
/-- the loop of a for over a list made on the spot, its state told by a record -/
theorem XS.forLXG {t iter : Expr} {body : List Stmt} {pos : Pos}
    (hi : EVx c n cs vs iter (fun m cs1 => ∃ (σ : Type) (cf : σ → List CellAt) (vf : σ → List MV) (J : Nat → σ → Prop) (items : List MV) (g0 : σ), m = .list items ∧ cs1 = cf g0 ∧ vs = vf g0 ∧ J 0 g0 ∧ (∀ g, J items.length g → XS c n (cf g) (vf g) (r :: k) P) ∧
      (∀ i x g, items[i]? = some x → J i g → ∃ vs1, AS c n (cf g) (vf g) t x vs1 ∧ ∀ PP : Fl → List CellAt → List MV → Prop, (∀ g', J (i + 1) g' → PP .next (cf g') (vf g')) → XS c n (cf g) vs1 [body] PP)))
    (hs : ∀ x, foldedSetIterable iter c.env x = pure x := by intro _; kernel_rfl) : XS c n cs vs ((.For t iter body [] pos :: r) :: k) P :=
  XS.forLX (fun cs' vs' => XS c n cs' vs' (r :: k) P) (hi.mono fun m cs1 h => by
    obtain ⟨σ, cf, vf, J, items, g0, h1, h2, h3, h4, h5, h6⟩ := h
    refine ⟨items, fun i cs vs => ∃ g, J i g ∧ cs = cf g ∧ vs = vf g, h1, ⟨g0, h4, h2, h3⟩, fun cs' vs' ⟨g, h, ec, ev⟩ => ec ▸ ev ▸ h5 g h, fun i x cs vs hx ⟨g, h, ec, ev⟩ => ?_⟩
    subst ec ev
    obtain ⟨vs1, ha, hb⟩ := h6 i x g hx h
    exact ⟨vs1, ha, hb _ fun g' h' => ⟨g', h', rfl, rfl⟩⟩) (fun _ _ h => h) hs
end
end
open PySem PySem.W PySem.W.X PyProof.Rows
section
set_option Elab.async false
set_option linter.unusedVariables false
set_option maxRecDepth 100000
set_option maxHeartbeats 1000000

theorem fn210 (w : World) : IsFn w 210 209 (B.o_283 w.params) := IsFn.of (oc := B.o_282 w.params) (by kernel_rfl) (isTop (by kernel_rfl)) rfl (isTop (by kernel_rfl)) rfl rfl
theorem ok210 (P : Params) : fnOk (B.o_283 P) = true := by kernel_rfl
noncomputable abbrev Op5 := Str × Int × Int × Int × Int
noncomputable def op5 (o : Op5) : MV := .tup [.str o.1, .int o.2.1, .int o.2.2.1, .int o.2.2.2.1, .int o.2.2.2.2]
noncomputable def tagOf (i ai j bj : Int) : Str := if i < ai ∧ j < bj then "replace" else if i < ai then "delete" else if j < bj then "insert" else ""
noncomputable def opsT (i ai j bj : Int) : List Op5 := if tagOf i ai j bj = "" then [] else [(tagOf i ai j bj, i, ai, j, bj)]
noncomputable def opsE (ai bj sz : Int) : List Op5 := if sz = 0 then [] else [("equal", ai, ai + sz, bj, bj + sz)]
noncomputable def opsOf : List T3 → Int → Int → List Op5
  | [], _, _ => []
  | (ai, bj, sz) :: r, i, j => opsT i ai j bj ++ opsE ai bj sz ++ opsOf r (ai + sz) (bj + sz)
theorem opsOf_len : ∀ (xs : List T3) (i j : Int), (opsOf xs i j).length ≤ 2 * xs.length
  | [], _, _ => Nat.le_refl _
  | (ai, bj, sz) :: r, i, j => by
    have := opsOf_len r (ai + sz) (bj + sz)
    have h1 : (opsT i ai j bj).length ≤ 1 := by unfold opsT; split <;> simp
    have h2 : (opsE ai bj sz).length ≤ 1 := by unfold opsE; split <;> simp
    simp only [opsOf, List.length_append, List.length_cons]; lia
/-- the operations of the blocks -/
noncomputable def opsAll (a b : List Str) (xs : List T3) : List Op5 := opsOf (xs ++ [((a.length : Int), (b.length : Int), (0 : Int))]) 0 0
theorem tag_len (i ai j bj : Int) : (tagOf i ai j bj).length ≤ 7 := by
  unfold tagOf
  split
  · decide
  · split
    · decide
    · split <;> decide
theorem tag_ne (i ai j bj : Int) : (((tagOf i ai j bj).length : Int) != 0) = !(decide (tagOf i ai j bj = "")) := by
  unfold tagOf
  split
  · decide
  · split
    · decide
    · split <;> decide
theorem opsT_len (i ai j bj : Int) : (opsT i ai j bj).length ≤ 1 := by unfold opsT; split <;> simp
theorem opsE_len (ai bj sz : Int) : (opsE ai bj sz).length ≤ 1 := by unfold opsE; split <;> simp
/-- what changes in the loop of get_opcodes -/
structure GoG where
  done : List Op5
  i : Int
  j : Int
  f1 : MV
  f2 : MV
  f3 : MV
  f4 : MV
noncomputable abbrev goC (x d : Addr) (a b : List Str) (y : Addr) (all : List T3) (done : List Op5) : List CellAt := [smC2 x d a b (.list (all.map mat3)) .junk, ⟨y, [], .list (done.map op5)⟩]
noncomputable abbrev goV (g : GoG) : List MV := [.cell 0, .int g.i, .int g.j, .cell 1, g.f1, g.f2, g.f3, g.f4]
structure GoJ (all : List T3) (tot : List Op5) (m : Nat) (g : GoG) : Prop where
  l : g.done.length ≤ 2 * m
  e : g.done ++ opsOf (all.drop m) g.i g.j = tot
theorem GoJ.next {all : List T3} {tot : List Op5} {m : Nat} {g : GoG} (r : GoJ all tot m g) {t : T3} (ht : all[m]? = some t) {f1 f2 f3 f4 : MV} : GoJ all tot (m + 1) ⟨g.done ++ opsT g.i t.1 g.j t.2.1 ++ opsE t.1 t.2.1 t.2.2, t.1 + t.2.2, t.2.1 + t.2.2, f1, f2, f3, f4⟩ := by
  have h2 := r.e
  rw [List.drop_eq_getElem_cons (List.getElem?_eq_some_iff.mp ht).1, (List.getElem?_eq_some_iff.mp ht).2, opsOf] at h2
  refine ⟨?_, ?_⟩
  · have := r.l; have := opsT_len g.i t.1 g.j t.2.1; have := opsE_len t.1 t.2.1 t.2.2
    dsimp only; rw [List.length_append, List.length_append]; lia
  · rw [← h2]; simp only [List.append_assoc]
section
variable {w : World} {n : Nat}
theorem CF.gop {x d : Addr} {a b : List Str} (hza : a.length ≤ 60) (hz : b.length ≤ 100) :
    CF w (n + 10) [smCell x d a b] (.ref 210) [.cell 0] (fun m cs' => m = .cell 1 ∧ ∃ xs mb y, Blocks a b xs ∧ mb.nc = true ∧ cs' = [smC2 x d a b mb .junk, ⟨y, [], .list ((opsAll a b xs).map op5)⟩]) := by
  refine CF.fnD (n := n + 9) (dms := []) (vs0 := [.cell 0, .unb, .unb, .unb, .unb, .unb, .unb, .unb]) (fn210 w) (ok210 _) rfl ["self"] ["i", "j", "answer", "ai", "bj", "size", "tag"]
    ["self", "i", "j", "answer", "ai", "bj", "size", "tag"] [] [] (fun p h => nomatch h) (fun F as => .nil) ?_ rfl rfl rfl (by decide) (by kernel_rfl) fun L P ok hR _ => ?_
  · refine all1S fun x S => ?_
    kernel_rfl
  have hR := fun vs' xs mb y (hn : mb.nc = true) (h : Blocks a b xs) => hR _ [smC2 x d a b mb .junk, ⟨y, [], .list ((opsAll a b xs).map op5)⟩] vs' (by show asLe (adrs [smCell x d a b]) (adrs ([smC2 x d a b mb .junk] ++ [_])); rw [adrs_app]; exact asLe.app _ _) ⟨rfl, xs, mb, y, h, hn, rfl⟩
  unfold smC2 at hR
  unfold smCell
  refine XS.doc ?_
  refine XS.ite (TV.isNotNoneF (by walk_at "m_ev") (by walk_at "m_ev")) (fun h => nomatch h) (fun _ => XS.nil ?_)
  refine XS.asgC2 (mv := .int 0) (by walk_at "m_ev") (ASc.name (by assumption) (mem_lu (by kernel_rfl)) (by walk_at "m_at")) (ASc.name (by assumption) (mem_lu (by kernel_rfl)) (by walk_at "m_at")) ?_
  refine XS.asgX2 (EVx.listC EVs.nil (hR := fun y => ⟨_, _, _, _, (ASc.attr (by walk_at "m_ev") (by exact rfl) (by walk_at "m_at") (by decide) (by decide)), (ASc.name (by assumption) (mem_lu (by kernel_rfl)) (by walk_at "m_at")), ?_⟩))
  refine XS.junkA (j := 0) (us' := [.none, mstrs a, mstrs b, .bool true, .none, .junk, .none, .sdict (b2jN b b.length), .set0, .set0]) rfl (by repeat (first | exact JunkTo.nil | with_reducible apply JunkTo.keep | with_reducible apply JunkTo.drop)) ?_
  refine XS.norm [smC2 x d a b .none .junk, ⟨y, [], .list []⟩] [.cell 0, .int 0, .int 0, .cell 1, .unb, .unb, .unb, .unb] ?_
  unfold smC2
  refine XS.forLXG
    (EVx.meth0 (name := "get_matching_blocks") (by walk_at "m_ev") (GMv.instF (fn203 w) rfl rfl (by kernel_rfl) (by decide) (by kernel_rfl)) (fun _ _ _ h => (fn203 w).callee h)
      (CX.mono (CF.cx (CF.wide (ds := [⟨y, [], .list []⟩]) (CF.gmb (n := n) (x := x) (d := d) (a := a) (b := b) hza hz) (fun m cs' h => by obtain ⟨xs, _, _, rfl⟩ := h; rfl) rfl rfl)) ?_))
  rintro m cs1 ⟨cs2, rfl, xs, hB, rfl, rfl⟩
  have hR := fun vs' mb h => hR vs' xs mb y h hB
  have hal : (xs ++ [((a.length : Int), (b.length : Int), (0 : Int))]).length ≤ 62 := by have := hB.ln; rw [List.length_append, List.length_singleton]; lia
  have htot : [] ++ opsOf ((xs ++ [((a.length : Int), (b.length : Int), (0 : Int))]).drop 0) 0 0 = opsAll a b xs := rfl
  generalize opsAll a b xs = tot at hR htot
  generalize xs ++ [((a.length : Int), (b.length : Int), (0 : Int))] = all at hal htot ⊢
  refine ⟨GoG, fun g => goC x d a b y all g.done, goV, GoJ all tot, all.map mat3, ⟨[], 0, 0, .unb, .unb, .unb, .unb⟩, rfl, rfl, rfl, ⟨Nat.le_refl _, htot⟩, fun g r => ?_, fun m v g hv r => ?_⟩
  · have h2 := r.e
    rw [List.length_map, List.drop_length, opsOf, List.append_nil] at h2
    exact XS.ret (by walk_at "m_ev") (h2 ▸ hR _ _ rfl)
  · obtain ⟨t, ht, rfl⟩ := map_at3 hv
    have hml : m < all.length := (List.getElem?_eq_some_iff.mp ht).1
    have hdl := r.l
    refine ⟨_, AS.mat (ms := [.int t.1, .int t.2.1, .int t.2.2]) ok (by walk_at "m_puts"), fun PP hN => ?_⟩
    refine XS.asg (by assumption) (by walk_at "m_ev") (mem_lu (by kernel_rfl)) (by walk_at "m_at") ?_
    have hb0 := tag_len g.i t.1 g.j t.2.1
    refine XS.iteG (σ := Unit) (fun _ => goC x d a b y all g.done) (fun _ => [.cell 0, .int g.i, .int g.j, .cell 1, .int t.1, .int t.2.1, .int t.2.2, .str (tagOf g.i t.1 g.j t.2.1)]) (fun _ => True)
      (TV.and (.cons (TV.lt (a := g.i) (b := t.1) (by walk_at "m_ev") (by walk_at "m_ev")) fun e1 => .cons (TV.lt (a := g.j) (b := t.2.1) (by walk_at "m_ev") (by walk_at "m_ev")) fun e2 => .nil)) (fun hb PP hP => ?_) (fun hb PP hP => ?_) fun _ _ => ?_
    · simp only [Bool.and_eq_true, decide_eq_true_eq, and_true] at hb
      have e : tagOf g.i t.1 g.j t.2.1 = "replace" := if_pos hb
      rw [e] at hP
      refine XS.asg (by assumption) (by walk_at "m_ev") (mem_lu (by kernel_rfl)) (by walk_at "m_at") ?_
      exact XS.nil (hP () trivial)
    · have hb : ¬ (g.i < t.1 ∧ g.j < t.2.1) := fun h => by simp [h.1, h.2] at hb
      refine XS.ite (TV.lt (a := g.i) (b := t.1) (by walk_at "m_ev") (by walk_at "m_ev")) (fun h3 => ?_) (fun h3 => ?_)
      · have e : tagOf g.i t.1 g.j t.2.1 = "delete" := (if_neg hb).trans (if_pos (of_decide_eq_true h3))
        rw [e] at hP
        refine XS.asg (by assumption) (by walk_at "m_ev") (mem_lu (by kernel_rfl)) (by walk_at "m_at") ?_
        exact XS.nil (XS.nil (hP () trivial))
      · refine XS.ite (TV.lt (a := g.j) (b := t.2.1) (by walk_at "m_ev") (by walk_at "m_ev")) (fun h4 => ?_) (fun h4 => ?_)
        · have e : tagOf g.i t.1 g.j t.2.1 = "insert" := (if_neg hb).trans ((if_neg (of_decide_eq_false h3)).trans (if_pos (of_decide_eq_true h4)))
          rw [e] at hP
          refine XS.asg (by assumption) (by walk_at "m_ev") (mem_lu (by kernel_rfl)) (by walk_at "m_at") ?_
          exact XS.nil (XS.nil (XS.nil (hP () trivial)))
        · have e : tagOf g.i t.1 g.j t.2.1 = "" := (if_neg hb).trans ((if_neg (of_decide_eq_false h3)).trans (if_neg (of_decide_eq_false h4)))
          rw [e] at hP
          exact XS.nil (XS.nil (XS.nil (hP () trivial)))
    refine XS.iteG (σ := Unit) (fun _ => goC x d a b y all (g.done ++ opsT g.i t.1 g.j t.2.1)) (fun _ => [.cell 0, .int g.i, .int g.j, .cell 1, .int t.1, .int t.2.1, .int t.2.2, .str (tagOf g.i t.1 g.j t.2.1)]) (fun _ => True)
      (TV.str (x := tagOf g.i t.1 g.j t.2.1) (by walk_at "m_ev") (by lia)) (fun hb PP hP => ?_) (fun hb PP hP => ?_) fun _ _ => ?_
    · rw [tag_ne] at hb
      have hb : ¬ tagOf g.i t.1 g.j t.2.1 = "" := fun e => by simp [e] at hb
      have e : opsT g.i t.1 g.j t.2.1 = [(tagOf g.i t.1 g.j t.2.1, g.i, t.1, g.j, t.2.1)] := if_neg hb
      exact XS.appE (j := 1) (xs := g.done.map op5) (m := .tup [.str (tagOf g.i t.1 g.j t.2.1), .int g.i, .int t.1, .int g.j, .int t.2.1]) (by walk_at "m_ev") rfl (by walk_at "m_ev") rfl (by rw [List.length_map]; lia)
        ((map_snoc op5 g.done (tagOf g.i t.1 g.j t.2.1, g.i, t.1, g.j, t.2.1)).trans (congrArg (fun l => (g.done ++ l).map op5) e.symm)) (XS.nil (hP () trivial))
    · rw [tag_ne] at hb
      have hb : tagOf g.i t.1 g.j t.2.1 = "" := by simpa using hb
      have e : g.done ++ opsT g.i t.1 g.j t.2.1 = g.done := by rw [show opsT g.i t.1 g.j t.2.1 = [] from if_pos hb, List.append_nil]
      rw [e] at hP
      exact XS.nil (hP () trivial)
    have hT := opsT_len g.i t.1 g.j t.2.1
    refine XS.asgSw ok (names := ["i", "j"]) (ms := [.int (t.1 + t.2.2), .int (t.2.1 + t.2.2)]) (by walk_at "m_ev") (by kernel_rfl) rfl (by walk_at "m_putn") ?_
    have hN := hN _ (r.next ht (f1 := .int t.1) (f2 := .int t.2.1) (f3 := .int t.2.2) (f4 := .str (tagOf g.i t.1 g.j t.2.1)))
    refine XS.ite (TV.int (i := t.2.2) (by walk_at "m_ev")) (fun hb => ?_) (fun hb => ?_)
    · have hb : t.2.2 ≠ 0 := by simpa using hb
      exact XS.appE (j := 1) (xs := (g.done ++ opsT g.i t.1 g.j t.2.1).map op5) (m := .tup [.str "equal", .int t.1, .int (t.1 + t.2.2), .int t.2.1, .int (t.2.1 + t.2.2)]) (by walk_at "m_ev") rfl (by walk_at "m_ev") rfl (by rw [List.length_map, List.length_append]; lia)
        ((map_snoc op5 (g.done ++ opsT g.i t.1 g.j t.2.1) ("equal", t.1, t.1 + t.2.2, t.2.1, t.2.1 + t.2.2)).trans (congrArg (fun l => (g.done ++ opsT g.i t.1 g.j t.2.1 ++ l).map op5) (show _ = opsE t.1 t.2.1 t.2.2 from (if_neg hb).symm))) (XS.nil (XS.nil hN))
    · have hb : t.2.2 = 0 := by simpa using hb
      have e : g.done ++ opsT g.i t.1 g.j t.2.1 ++ opsE t.1 t.2.1 t.2.2 = g.done ++ opsT g.i t.1 g.j t.2.1 := by rw [show opsE t.1 t.2.1 t.2.2 = [] from if_pos hb, List.append_nil]
      have hN : PP .next (goC x d a b y all (g.done ++ opsT g.i t.1 g.j t.2.1)) _ := e ▸ hN
      exact XS.nil (XS.nil hN)
end
end
open PySem PySem.W PySem.W.X PyProof.Rows
section
set_option Elab.async false
set_option linter.unusedVariables false
set_option maxRecDepth 100000
/-- a generator that chooses what it yields when it first wakes -/
noncomputable def LiveX (w : World) (A : Around) (Y : List MV → Prop) (gs : GenState) (H : Kp) (F : PH) : Prop := LiveP w A gs H F (fun K F e s => ∃ ys, Y ys ∧ Emits w A ys K F e s)
theorem SX.emitsX {w : World} {A : Around} {co : Code} {t : Sem Fin} {fs : List Frame} {s : Shared} {Y : List MV → Prop} {K : Kp} {F0 F : PH} (hF : PH.le F0 F) (h : SX w A co t fs s (fun e s' => ∃ ys, Y ys ∧ Emits w A ys K F e s')) : SX w A co t fs s (fun e s' => ∃ ys, Y ys ∧ Emits w A ys K F0 e s') :=
  SegX.mono h fun _ _ ⟨ys, y, x⟩ => ⟨ys, y, x.mono hF⟩
theorem SX.pick {w : World} {A : Around} {co : Code} {t : Sem Fin} {fs : List Frame} {s : Shared} {Y : List MV → Prop} {K : Kp} {F : PH} {ys : List MV} (hy : Y ys) (h : SX w A co t fs s (Emits w A ys K F)) : SX w A co t fs s (fun e s' => ∃ ys, Y ys ∧ Emits w A ys K F e s') :=
  SegX.mono h fun _ _ x => ⟨ys, hy, x⟩
section
variable {w : World} {K K2 : Kp} {F F' : PH} {cs : List CellAt} {L : Addr} {xs : List Str} {vs : List MV} {s : Shared}
theorem wpAny_next_genX {A : Around} {n : Nat} {H : Kp} {v : Value} {g : Nat} {gs : GenState} {Y : List MV → Prop} {as : List Addr} {Q : Option Value → Shared → Prop} (hA : Room (n + 1) A) (hd : DV w F as (.gen g) v) (live : LiveX w A.in1 Y gs H F) (hHg : H.G g = none)
    (S : St w (K.wi (H.gset g gs)) F cs L xs vs s) (ap : Apart (H.gset g gs) K F)
    (hy : ∀ y ys', Y (y :: ys') → ∀ F' u s' gs' H', PH.le F F' → St w (K.wi (H'.gset g gs')) F' cs L xs vs s' → Apart (H'.gset g gs') K F' → H'.G g = none → DV w F' [] y u → Live w A.in1 ys' gs' H' F' → Q (some u) s')
    (hn : Y [] → ∀ F' s', PH.le F F' → St w K F' cs L xs vs s' → Q none s') : wpAny (model pw w) A (pyNext v) Q NoE s := by
  apply hd.genI; intro a o e ig
  obtain ⟨Hc, hG, S2, ap2, back⟩ := S.suspend
  have hg : s.heap.IsGen a g := by
    obtain ⟨c1, ⟨nm, qn, c2⟩, c3⟩ := ig
    exact ⟨o, nm, qn, S.fz _ _ e, c1, c2, c3⟩
  have hself : (H.gset g gs).G g = some gs := if_pos rfl
  have hgs : s.gens[g]? = some gs := S.gens.1 g gs (Kp.wi_g hself)
  have hKg : K.G g = none := ap.g g gs hself
  refine wpAny_nextX hA.handled S.noLimit (by have := hA.depth; omega) hg hgs ?_
  -- the consumer's own part, the generator's part
  have hsep : ∀ b x, Hc.B b = some x → H.B b = none ∧ K.B b = none := fun b x q => by
    have := Kp.wi_nn (ap2.b b x q).1
    exact this
  have S3 : SF w (((K.wi Hc).gset g .running).wi H) F [] (s.setGen g .running) := by
    refine S2.setGen (K2 := ((K.wi Hc).gset g .running).wi H) hgs rfl ?_ rfl ?_
    · funext b
      show (match H.B b with | some o => some o | none => (match Hc.B b with | some o => some o | none => K.B b)) = (match Hc.B b with | some o => some o | none => (match H.B b with | some o => some o | none => K.B b))
      cases q : Hc.B b with
      | none => rfl
      | some x => rw [(hsep b x q).1]
    · intro i z q
      by_cases z1 : i = g
      · subst z1
        left
        rw [Kp.wi_gn hHg] at q
        rw [show ((K.wi Hc).gset i .running).G i = some .running from if_pos rfl] at q
        cases q; exact ⟨rfl, rfl⟩
      · right
        refine ⟨z1, ?_⟩
        rw [Kp.wi_gn (hG i)]
        cases r : H.G i with
        | some z' =>
          rw [Kp.wi_g r] at q
          rw [Kp.wi_g (show (H.gset g gs).G i = some z' from (if_neg z1).trans r)]
          exact q
        | none =>
          rw [Kp.wi_gn r] at q
          have : ((K.wi Hc).gset g .running).G i = K.G i := (if_neg z1).trans (Kp.wi_gn (hG i))
          rw [this] at q
          rw [Kp.wi_gn (show (H.gset g gs).G i = none from (if_neg z1).trans r)]
          exact q
  have ap3 : Apart H ((K.wi Hc).gset g .running) F := ⟨fun b x q => (by
    have h1 := ap.b b x q
    refine ⟨?_, h1.2⟩
    show (K.wi Hc).B b = none
    refine Kp.wi_ok ?_ h1.1
    cases r : Hc.B b with
    | none => rfl
    | some z => rw [(hsep b z r).1] at q; cases q), fun i x q => by
    have hne : i ≠ g := fun z => by rw [z, hHg] at q; cases q
    show (if i = g then _ else (K.wi Hc).G i) = none
    rw [if_neg hne, Kp.wi_gn (hG i)]
    exact ap.g i x ((if_neg hne).trans q)⟩
  have hWk := live ((K.wi Hc).gset g .running) F (s.setGen g .running) (PH.le.refl _) S3 ap3
  have conv : ∀ e1 s1, (∃ ys, Y ys ∧ Emits w A.in1 ys ((K.wi Hc).gset g .running) F e1 s1) → (e1 = .ret (.ok (.ret .none)) ∧ ∀ h', Keep s1.heap h' → Q none { s1.setGen g .finished with heap := h' }) ∨ ∃ v, e1.result = .yielded v ∧ Q (some v) (s1.setGen g e1.genState) := by
    intro e1 s1 hE
    obtain ⟨ys, hYs, hE⟩ := hE
    cases ys with
    | nil =>
      obtain ⟨h1, F', l, h2⟩ := hE
      refine .inl ⟨h1, fun h' hk => hn hYs F' _ l (back K F' _ l ?_ ?_)⟩
      · have h3 : s1.gens[g]? = some .running := h2.gens.1 g _ (if_pos rfl)
        have h4 : SF w (K.wi Hc) F' [] (s1.setGen g .finished) := h2.setGen (K2 := K.wi Hc) h3 rfl rfl rfl fun i z q => by
          right
          refine ⟨fun z1 => ?_, ?_⟩
          · rw [z1, Kp.wi_gn (hG g), hKg] at q; cases q
          · have : i ≠ g := fun z1 => by rw [z1, Kp.wi_gn (hG g), hKg] at q; cases q
            exact (if_neg this).trans q
        exact h4.ext (fun b o q => hk b o q) rfl rfl
      · exact ⟨fun b o q => ⟨(hsep b o q).2, by
          cases r : F' b with
          | none => rfl
          | some x => have := h2.fb b x r; rw [show ((K.wi Hc).gset g .running).B b = some o from Kp.wi_b q] at this; cases this⟩, fun i x q => by rw [hG i] at q; cases q⟩
    | cons y ys =>
      obtain ⟨u, F', H', h1, h2, l, h3, h4, h5, h6⟩ := hE
      refine .inr ⟨u, h1, ?_⟩
      have hH'g : H'.G g = none := by
        cases r : H'.G g with
        | none => rfl
        | some x => have := h5.g g x r; rw [show ((K.wi Hc).gset g .running).G g = some .running from if_pos rfl] at this; cases this
      have h7 : s1.gens[g]? = some .running := h4.gens.1 g _ (by rw [Kp.wi_gn hH'g]; exact if_pos rfl)
      have hsep' : ∀ b x, H'.B b = some x → Hc.B b = none ∧ K.B b = none := fun b x q => by
        have := Kp.wi_nn (show (K.wi Hc).B b = none from (h5.b b x q).1)
        exact this
      have h8 : SF w ((K.wi (H'.gset g e1.genState)).wi Hc) F' [] (s1.setGen g e1.genState) := by
        refine h4.setGen (K2 := (K.wi (H'.gset g e1.genState)).wi Hc) h7 (End.bare_of_quiet h2) ?_ rfl ?_
        · funext b
          show (match Hc.B b with | some o => some o | none => (match H'.B b with | some o => some o | none => K.B b)) = (match H'.B b with | some o => some o | none => (match Hc.B b with | some o => some o | none => K.B b))
          cases q : H'.B b with
          | none => rfl
          | some x => rw [(hsep' b x q).1]
        · intro i z q
          rw [Kp.wi_gn (hG i)] at q
          by_cases z1 : i = g
          · subst z1
            left
            rw [Kp.wi_g (show (H'.gset i e1.genState).G i = some e1.genState from if_pos rfl)] at q
            cases q; exact ⟨rfl, rfl⟩
          · right
            refine ⟨z1, ?_⟩
            cases r : H'.G i with
            | some z' =>
              rw [Kp.wi_g r]
              rw [Kp.wi_g (show (H'.gset g e1.genState).G i = some z' from (if_neg z1).trans r)] at q
              exact q
            | none =>
              rw [Kp.wi_gn r]
              rw [Kp.wi_gn (show (H'.gset g e1.genState).G i = none from (if_neg z1).trans r)] at q
              exact (if_neg z1).trans ((Kp.wi_gn (hG i)).trans q)
      refine hy y ys hYs F' u _ e1.genState H' l (back (K.wi (H'.gset g e1.genState)) F' _ l h8 ⟨fun b o q => ⟨Kp.wi_ok ?_ (hsep b o q).2, ?_⟩, fun i x q => by rw [hG i] at q; cases q⟩) ⟨fun b o q => ⟨(hsep' b o q).2, (h5.b b o q).2⟩, fun i x q => ?_⟩ hH'g h3 h6
      · show H'.B b = none
        cases r : H'.B b with
        | none => rfl
        | some x => rw [(hsep' b x r).1] at q; cases q
      · cases r : F' b with
        | none => rfl
        | some x =>
          have h9 := h4.fb b x r
          rw [Kp.wi_n (show H'.B b = none by
            cases r : H'.B b with
            | none => rfl
            | some x => rw [(hsep' b x r).1] at q; cases q)] at h9
          rw [show ((K.wi Hc).gset g .running).B b = some o from Kp.wi_b q] at h9; cases h9
      · by_cases z1 : i = g
        · rw [z1]; exact hKg
        · have := h5.g i x ((if_neg z1).symm.trans q)
          rw [show ((K.wi Hc).gset g .running).G i = (K.wi Hc).G i from if_neg z1, Kp.wi_gn (hG i)] at this
          exact this
  cases gs with
  | fresh c => exact SegX.mono hWk conv
  | suspended k₀ l₀ c₀ p₀ fs₀ cl => exact SegX.mono hWk conv
  | running => exact hWk.elim
  | finished => exact hWk.elim
end
section
variable {w : World} {K : Kp} {F F' : PH} {cs : List CellAt} {L : Addr} {xs : List Str} {vs : List MV} {s : Shared}
theorem ext_loopXX {n : Nat} {B : Around} (hB : Room (n + 3) B) {I S : Addr} {g : Nat} (res : Value) {R : Result → Shared → Prop} {Y : List MV → Prop} (hz : ∀ ys, Y ys → ys.length ≤ 100000) (acc : Array Value) (c : Nat) (gs : GenState) (H : Kp) (F : PH) (as : List Addr) (s : Shared)
    (hd : DV w F as (.gen g) (.ref I)) (live : LiveX w B.in1.in1 Y gs H F) (hHg : H.G g = none) (S1 : St w (K.wi (H.gset g gs)) F cs L xs vs s) (ap : Apart (H.gset g gs) K F) (fr : Free (K.wi (H.gset g gs)) F cs L S)
    (hS : s.heap.get? S = some { cls := .type "list", dict := none, data := .seq acc c, slots := #[] }) (hacc : DVs w F [] [] acc.toList)
    (hR : ∀ ys, Y ys → ∀ F' s' acc' c', PH.le F F' → St w K F' cs L xs vs s' → Free K F' cs L S → s'.heap.get? S = some { cls := .type "list", dict := none, data := .seq acc' c', slots := #[] } → DVs w F' [] ys acc'.toList → R (.ok (.ret res)) s') :
    codeAny (model pw w) B (.builtin "list.extend.loop" ⟨[.ref S, .ref I, res], []⟩) R s := by
  refine codeAny_builtin PySem.F.entry_extend_loop ?_
  rw [Around.under_plainId PySem.F.plain_extend_loop _]
  show wpAny _ B.in1 (pyNext (.ref I) >>= _) _ _ s
  have hb := Kp.wi_nn fr.b
  have S2 := S1.hold fr hS
  rw [hold_wi' hb.1] at S2
  refine wpAny_bind (wpAny_noE (wpAny_next_genX (n := n + 1) hB.in1 hd live hHg S2 (ap.hold hb.1) (fun y' ys' e F' u s' gs' H' l S3 ap3 hH'g d3 live3 => ?_) fun e F' s' l S3 => ?_))
  · have hz1 := hz _ e
    obtain ⟨hb3, ap4⟩ := ap3.unhold
    rw [← hold_wi' hb3] at S3
    obtain ⟨S4, f4, e4⟩ := S3.unhold (Kp.wi_ok hb3 hb.2)
    have hlen : acc.size = 0 := arr_len hacc
    rw [List.length_cons] at hz1
    show wpAny _ B.in1 (updateSeq S (·.push u) >>= _) _ _ _
    refine wpAny_bind (wpAny_updateSeq e4 rfl ?_ (by rw [hlen]; exact Nat.zero_le _) (by show (acc.push u).size ≤ sizeLine + 1; rw [Array.size_push, hlen]; exact Nat.le_add_left _ _))
    have hself := Heap.get?_update_self (Obj.mapSeq (·.push u)) e4 rfl
    have S5 : St w (K.wi (H'.gset g gs')) F' cs L xs vs { s' with heap := s'.heap.update S (Obj.mapSeq (·.push u)), toks := s'.toks } := S4.sameBut f4 fun a o ha e => (Heap.get?_update_other _ _ (Ne.symm ha)).trans e
    refine wpAny_pure ⟨plainId_quiet PySem.F.plain_extend_loop _, ext_loopX (n := n) hB res ys' [y'] (acc.push u) _ gs' H' F' as _ (by simp only [List.length_singleton]; omega) (hd.mono l (asLe.refl _)) live3 hH'g S5 (ap4 hb.2) f4 hself ?_ fun F'' s'' acc' c' l' S6 f6 e6 d6 => ?_⟩
    · rw [Array.toList_push]; exact (hacc.mono l (asLe.refl _)).append (.cons d3 .nil)
    · exact hR _ e F'' s'' acc' c' (l.trans l') S6 f6 e6 d6
  · obtain ⟨S4, f4, e4⟩ := S3.unhold hb.2
    exact wpAny_pure (hR _ e F' s' acc c l S4 f4 e4 (hacc.mono l (asLe.refl _)))
theorem call_list_genXX {n : Nat} {A : Around} (hA : Room (n + 6) A) {v : Value} {g : Nat} {gs : GenState} {H : Kp} {Y : List MV → Prop} {as : List Addr} {Q : Value → Shared → Prop} {E : Value → Shared → Prop} (hd : DV w F as (.gen g) v) (live : ∀ A', Room n A' → LiveX w A' Y gs H F) (hHg : H.G g = none)
    (S1 : St w (K.wi (H.gset g gs)) F cs L xs vs s) (ap : Apart (H.gset g gs) K F) (hz : ∀ ys, Y ys → ys.length ≤ 100000)
    (hQ : ∀ ys, Y ys → ∀ F' v s', PH.le F F' → St w K F' cs L xs vs s' → DV w F' [] (.list ys) v → Q v s') : wpAny (model pw w) A (call (.type "list") [v]) Q E s := by
  apply hd.genI; intro I oI eI ig
  refine callType_codes (Q₁ := fun obj s₁ => obj = .ref s.heap.objs.size ∧ s₁ = { s with heap := s.heap.push { cls := .type "list", data := .seq #[] } }) PySem.F.called_list (PySem.F.typeCall_list_1 _) PySem.F.entry_list_init
    (code_list_new _ ⟨rfl, rfl⟩) fun obj s₁ h₁ => ?_
  obtain ⟨rfl, rfl⟩ := h₁
  have hS : (s.heap.push { cls := .type "list", data := .seq #[] }).get? s.heap.objs.size = some { cls := .type "list", data := .seq #[] } := Heap.get?_push_size _ rfl
  have hfree := S1.free (get_of_ge (Nat.le_refl s.heap.objs.size))
  have hSI : s.heap.objs.size ≠ I := fun e => by
    have := hfree.f; rw [e, eI] at this; cases this
  have S2 := S1.push { cls := .type "list", data := .seq #[] } s.toks
  refine ⟨⟨_, hS, rfl⟩, PySem.F.args_list_init_2 _ _, ?_⟩
  revert hS S2
  generalize s.heap.objs.size = S at hfree hSI ⊢
  intro hS S2
  have S2 : St w (K.wi (H.gset g gs)) F cs L xs vs { s with heap := s.heap.push { cls := .type "list", data := .seq #[] } } := S2
  obtain ⟨s1, hs1, S2, hS⟩ : ∃ s1 : Shared, s1 = { s with heap := s.heap.push { cls := .type "list", data := .seq #[] } } ∧ St w (K.wi (H.gset g gs)) F cs L xs vs s1 ∧ s1.heap.get? S = some { cls := .type "list", data := .seq #[] } := ⟨_, rfl, S2, hS⟩
  show wpAny _ A.in1.in1 _ _ _ { s with heap := s.heap.push { cls := .type "list", data := .seq #[] } }
  rw [← hs1]
  show wpAny _ A.in1.in1 (do let old ← Builtin.List.listItems (.ref S); Builtin.List.listUpdate (.ref S) (fun _ => #[]); letGo old.toList.reverse; Builtin.List.listExtendWith (.ref S) (.ref I) .none) _ _ s1
  refine wpAny_bind ?_
  unfold Builtin.List.listItems
  have hS' : s1.heap.get? S = some { cls := .type "list", data := .seq #[] } := hS
  refine wpAny_bind (wpAny_seqItems hS' rfl (wpAny_pure ?_))
  show wpAny _ A.in1.in1 (updateSeq S (fun _ => #[]) >>= fun _ => letGo (#[] : Array Value).toList.reverse >>= fun _ => Builtin.List.listExtendWith (.ref S) (.ref I) .none) _ _ s1
  refine wpAny_bind (wpAny_updateSeq hS' rfl ?_ (Nat.zero_le _) (Nat.zero_le _))
  have hS₂ := Heap.get?_update_self (Obj.mapSeq (fun _ => (#[] : Array Value))) hS' rfl
  have S3 : St w (K.wi (H.gset g gs)) F cs L xs vs { s1 with heap := s1.heap.update S (Obj.mapSeq (fun _ => #[])), toks := s1.toks } := S2.sameBut hfree fun a o ha e => (Heap.get?_update_other _ _ (Ne.symm ha)).trans e
  refine wpAny_bind (wpAny_letGo ?_)
  have hty : ∀ s' : Shared, St w (K.wi (H.gset g gs)) F cs L xs vs s' → s'.TypeIs (.ref I) "generator" := fun s' S' => ⟨oI, S'.fz _ _ eI, ig.1⟩
  unfold Builtin.List.listExtendWith
  refine wpAny_bind (wpAny_typeOf (hty _ S3) ?_)
  have h1 : Builtin.List.listSameRef (.ref S) (.ref I) = false := by simp [Builtin.List.listSameRef, hSI]
  have h2 : (Value.type "generator" == Value.type "list") = false := by decide
  have h3 : (Value.type "generator" == Value.type "tuple") = false := by decide
  simp only [h1, h2, h3, Bool.or_false, Bool.false_eq_true, if_false]
  have hgen : ∀ s' : Shared, St w (K.wi (H.gset g gs)) F cs L xs vs s' → s'.heap.IsGen I g := fun s' S' => by
    obtain ⟨c1, ⟨nm, qn, c2⟩, c3⟩ := ig
    exact ⟨oI, nm, qn, S'.fz _ _ eI, c1, c2, c3⟩
  refine wpAny_bind (wpAny_pyIter_gen (hgen _ S3) ?_)
  refine wpAny_bind (wpAny_holding ?_)
  unfold Builtin.List.listLengthHint
  refine wpAny_bind (wpAny_specialOf (hty _ S3) PySem.F.gen_no_len ?_)
  show wpAny _ A.in1.in1 (specialOf (Value.ref I) (Str.ofString "__length_hint__") >>= _) _ _ _
  refine wpAny_bind (wpAny_specialOf (hty _ S3) PySem.F.gen_no_hint ?_)
  refine wpAny_pure ?_
  show wpAny _ A.in1.in1 (rule "list.extend.makes-room" >>= fun _ => Builtin.List.listTouch (.ref S) >>= fun _ =>
    again (.builtin "list.extend.loop" ⟨[.ref S, .ref I, .none], []⟩)) _ _ _
  refine wpAny_bind (wpAny_rule ?_)
  refine wpAny_bind ?_
  show wpAny _ A.in1.in1 (updateSeq S (·.push .none) >>= fun _ => updateSeq S (·.pop)) _ _ _
  refine wpAny_bind (wpAny_updateSeq hS₂ rfl ?_ (Nat.zero_le _) (Nat.le_add_left 1 _))
  have hS₃ := Heap.get?_update_self (Obj.mapSeq (·.push Value.none)) hS₂ rfl
  have S4 := S3.sameBut (t := s1.toks) hfree (h' := (s1.heap.update S (Obj.mapSeq (fun _ => #[]))).update S (Obj.mapSeq (·.push Value.none))) fun a o ha e => (Heap.get?_update_other _ _ (Ne.symm ha)).trans e
  refine wpAny_updateSeq hS₃ rfl ?_ (show (1 : Nat) ≤ sizeLine by decide +kernel) (Nat.zero_le _)
  have hS₄ := Heap.get?_update_self (Obj.mapSeq (·.pop)) hS₃ rfl
  have S5 := S4.sameBut (t := s1.toks) hfree (h' := ((s1.heap.update S (Obj.mapSeq (fun _ => #[]))).update S (Obj.mapSeq (·.push Value.none))).update S (Obj.mapSeq (·.pop))) fun a o ha e => (Heap.get?_update_other _ _ (Ne.symm ha)).trans e
  refine wpAny_pure ⟨plainId_quiet PySem.F.plain_extend_loop _, ext_loopXX (n := n) (B := A.in1) (K := K) ((hA.le (m := n + 4) (by omega)).in1) .none hz #[] _ gs H F as _ (.gen eI ig) (live _ (((hA.in1.le (m := n + 2) (by omega)).in1).in1)) hHg S5 ap hfree hS₄ .nil fun ys hys F' s' acc' c' l S6 f6 e6 d6 => ?_⟩
  refine ⟨rfl, ?_⟩
  obtain ⟨S7, l7⟩ := (⟨S6.toSF.grow f6.f f6.b f6.c e6, PH.le_ins f6.f⟩ : SF w K (F'.ins S _) cs s' ∧ PH.le F' (F'.ins S _))
  refine hQ _ hys _ _ s' (l.trans l7) (S6.grow f6.f f6.b f6.c f6.l e6) (.list (PH.ins_self _ _ _) ⟨rfl, rfl, rfl, _, rfl⟩ (d6.mono l7 (asLe.refl _)))
end

/-- the statements of a generator's body that choose what is yielded -/
structure GE (c : Cx) (n : Nat) (cs : List CellAt) (vs : List MV) (ss : List Stmt) (Y : List MV → Prop) (P : Fl → List CellAt → List MV → Prop) : Prop where
  go : ∀ (A : Around) (co : Code) (fs : List Frame) (K Hin : Kp) (F : PH) (s : Shared) (KK : Flow → Sem Fin) (HH : Value → Sem Fin) (gd : Bool → Bool) (lv : List Value → List Value),
    Room n (A.over co fs) → splitAtGen fs = none → fs.any Frame.guarded = false → gd false = false → St c.w (K.wi Hin) F cs c.L c.xs vs s → Apart Hin K F →
    (∀ K' F' f s' fl cs' vs', PH.le F F' → St c.w (K'.wi Hin) F' cs' c.L c.xs vs' s' → Apart Hin K' F' → FlR c.w F' (adrs cs') fl f → P fl cs' vs' → SX c.w A co (KK f) fs s' (Emits c.w A [] K' F')) →
    SX c.w A co ((execs ss c.env).wrap KK HH gd lv) fs s (fun e s' => ∃ ys, Y ys ∧ Emits c.w A ys K F e s')
section
variable {c : Cx} {n m : Nat} {cs : List CellAt} {vs : List MV} {P : Fl → List CellAt → List MV → Prop} {Y : List MV → Prop}
theorem GE.gx {ss : List Stmt} {ys : List MV} (hy : Y ys) (h : GX c n cs vs ss ys P) : GE c n cs vs ss Y P := .mk fun A co fs K Hin F s KK HH gd lv hA h1 h2 h3 S ap hK => by
  refine SX.pick hy ?_
  have := h.go A co fs K Hin F s KK HH gd lv [] hA h1 h2 h3 S ap hK
  rwa [List.append_nil] at this
theorem execs_two_wrap (ss1 ss2 : List Stmt) (env : Env) (KK : Flow → Sem Fin) (HH : Value → Sem Fin) (gd : Bool → Bool) (lv : List Value → List Value) :
    (execs (ss1 ++ ss2) env).wrap KK HH gd lv = (execs ss1 env).wrap (fun f => match f with | .next => (execs ss2 env).wrap KK HH gd lv | f => KK f) HH gd lv := by
  induction ss1 with
  | nil => rfl
  | cons st r ih =>
    rw [List.cons_append, execs_cons_wrap, execs_cons_wrap]
    exact Sem.wrap_congr _ _ _ (fun f => by cases f <;> first | exact ih | rfl) fun _ => rfl
theorem GE.pre (k : Nat) {ss : List Stmt} (h : XS c n cs vs [ss.take k] (JoinP (fun cs' vs' => GE c n cs' vs' (ss.drop k) Y P) (fun fl cs' vs' => Y [] ∧ P fl cs' vs'))) : GE c n cs vs ss Y P := .mk fun A co fs K Hin F s KK HH gd lv hA h1 h2 h3 S ap hK => by
  rw [← List.take_append_drop k ss, execs_two_wrap]
  refine sx_wrap ((XS.of h).go (A.over co fs) (K.wi Hin) F s _ hA S fun F' f s' fl cs' vs' l S' r p => ?_)
  refine SX.emitsX l ?_
  cases r with
  | next => exact GE.go p A co fs K Hin F' s' KK HH gd lv hA h1 h2 h3 S' (ap.le S'.toSF) fun K'' F'' f' s'' fl' cs'' vs'' l' => hK K'' F'' f' s'' fl' cs'' vs'' (l.trans l')
  | brk => exact SX.pick p.1 (hK K F' _ s' .brk cs' vs' l S' (ap.le S'.toSF) .brk p.2)
  | cont => exact SX.pick p.1 (hK K F' _ s' .cont cs' vs' l S' (ap.le S'.toSF) .cont p.2)
  | ret d => exact SX.pick p.1 (hK K F' _ s' _ cs' vs' l S' (ap.le S'.toSF) (.ret d) p.2)
theorem GX.pre (k : Nat) {ss : List Stmt} {ys : List MV} (h : XS c n cs vs [ss.take k] (JoinP (fun cs' vs' => GX c n cs' vs' (ss.drop k) ys P) (fun fl cs' vs' => ys = [] ∧ P fl cs' vs'))) : GX c n cs vs ss ys P := .mk fun A co fs K Hin F s KK HH gd lv rest hA h1 h2 h3 S ap hK => by
  rw [← List.take_append_drop k ss, execs_two_wrap]
  refine sx_wrap ((XS.of h).go (A.over co fs) (K.wi Hin) F s _ hA S fun F' f s' fl cs' vs' l S' r p => ?_)
  refine SX.emits l ?_
  cases r with
  | next => exact GX.go p A co fs K Hin F' s' KK HH gd lv rest hA h1 h2 h3 S' (ap.le S'.toSF) fun K'' F'' f' s'' fl' cs'' vs'' l' => hK K'' F'' f' s'' fl' cs'' vs'' (l.trans l')
  | brk => obtain ⟨rfl, p⟩ := p; exact hK K F' _ s' .brk cs' vs' l S' (ap.le S'.toSF) .brk p
  | cont => obtain ⟨rfl, p⟩ := p; exact hK K F' _ s' .cont cs' vs' l S' (ap.le S'.toSF) .cont p
  | ret d => obtain ⟨rfl, p⟩ := p; exact hK K F' _ s' _ cs' vs' l S' (ap.le S'.toSF) (.ret d) p
end
section
variable {w : World} {K K2 : Kp} {F F' : PH} {cs : List CellAt} {L : Addr} {xs : List Str} {vs : List MV} {s : Shared}
theorem call_genX {a cc : Addr} {o : Obj} (f : IsFn w a cc o) (hgen : (funcOf o).scope.isGenerator = true) (hco : (funcOf o).scope.isCoroutine = false) {n : Nat} {A : Around} {args : Args} {ps : List Str} {us : List Value} {ms : List MV} {rest : List Str} {Y : List MV → Prop} {R : Result → Shared → Prop}
    (hA : A.depth < recursionLimit) (hS : St w K F cs L xs vs s) (hnc : ∀ v ∈ vs, v.nc = true)
    (hb : ∀ (Q : List (Str × Value) → Shared → Prop), Q (ps.zip us) s → wpAny (model pw w) A.in1 (bindArgs (funcOf o) args) Q (fun e s' => R (.error e) s') s)
    (hd : DVs w F (adrs cs) ms us) (hlen : ps.length = us.length) (hnd : ps.Nodup) (hloc : ∀ x ∈ ps, (x, NameKind.local) ∈ (funcOf o).scope.names) (hndk : ((funcOf o).scope.names.map (·.1)).Nodup)
    (hbody : ∀ L, GE (FnCx w a o L (ps ++ rest)) n cs (ms ++ List.replicate rest.length .unb) (bodyOf o) Y (fun fl _ _ => fl = .next ∨ fl = .ret .none))
    (hQ : ∀ F' v s' g gs H, PH.le F F' → St w (K.wi (H.gset g gs)) F' [] L xs vs s' → Apart (H.gset g gs) K F' → H.G g = none → DV w F' [] (.gen g) v → (∀ A', Room (n + 1) A' → LiveX w A' Y gs H F') → R (.ok (.ret v)) s') :
    codeAny (model pw w) A (.call (.ref a) args) R s := by
  refine codeAny_call_generator hA (f.obj hS.toSF) f.isf f.cor hgen f.body (f.codeRec hS.toSF) (hb _ ?_)
  refine wpAny_newFunctionEnv f.nocell (fun x hx => lookup_mem2 (hloc x.1 ((List.of_mem_zip (a := x.1) (b := x.2) hx).1)) hndk) (fun h' hn hs => ?_) f.kind
  have hsz : s.heap.get? s.heap.objs.size = none := get_of_ge (Nat.le_refl _)
  obtain ⟨oL, eL, S1, back⟩ := hS.leave
  have hk1 : Keep s.heap h' := fun b x e => (hs.2 b (Nat.ne_of_lt (Heap.lt_size e))).trans (Heap.get?_push_of_some _ e)
  have hS1 : SF w (K.hold L oL) F cs { s with heap := h', toks := s.toks + (ps.zip us).length } := S1.ext hk1 rfl rfl
  obtain ⟨x1, x2, x3⟩ := S1.fresh hsz
  have henv : newEnv (funcOf o).scope s.heap.objs.size (funcOf o).globals (funcOf o).closure ((funcOf o).qualname ++ ".<locals>.") (some a) (funcOf o).code none (funcOf o).builtins = (FnCx w a o s.heap.objs.size (ps ++ rest)).env := by
    rw [f.glob, f.clos, f.bi]; rfl
  rw [henv]
  generalize s.heap.objs.size = L' at *
  have hl2 : ps.length = ms.length := by rw [hd.length]; exact hlen
  have S2 : St w (K.hold L oL) F cs L' (ps ++ rest) (ms ++ List.replicate rest.length .unb) { s with heap := h', toks := s.toks + (ps.zip us).length } := ⟨hS1, ⟨_, hn, fun x mv ha hu => by
    rcases ha.app hl2 with ha | ha
    · exact lookup_zip hnd hd ha
    · exact absurd ha.unbs hu⟩, x3, x1, x2⟩
  refine ⟨hS1.noLimit, ?_⟩
  generalize ({ s with heap := h', toks := s.toks + (ps.zip us).length } : Shared) = s1 at S2 hS1 ⊢
  obtain ⟨H, hG, S3, ap3, wake⟩ := S2.suspend
  generalize hgs : GenState.fresh (.func (bodyOf o) (FnCx w a o L' (ps ++ rest)).env) = gs
  have hbare : gs.bare = true := by rw [← hgs]; rfl
  obtain ⟨og, hog⟩ : ∃ og : Obj, og = { cls := .type "generator", data := .fields #[.int s1.gens.size 0, .str (funcOf o).name s1.toks, .str (funcOf o).qualname (s1.toks + 1)] } := ⟨_, rfl⟩
  rw [← hog]
  have S4 := S3.pushGen (x := gs) hbare (hp := s1.heap.push og) (t := s1.toks + 1 + 1) (Keep.push _ _)
  have hgn : s1.heap.get? s1.heap.objs.size = none := get_of_ge (Nat.le_refl _)
  obtain ⟨y1, y2, y3⟩ := S3.fresh hgn
  have S5 := S4.grow (a := s1.heap.objs.size) (o := og) y1 y2 (fun hm => nomatch hm) (Heap.get?_push_size _ (by rw [hog]; rfl))
  have l5 : PH.le F (F.ins s1.heap.objs.size og) := PH.le_ins y1
  have hKg : K.G s1.gens.size = none := by
    cases e : K.G s1.gens.size with
    | none => rfl
    | some x =>
      have := S2.gens.1 s1.gens.size x e
      have := (Array.getElem?_eq_some_iff.mp this).1
      omega
  generalize s1.heap.objs.size = ga at *
  generalize s1.gens.size = g at *
  have hLH : H.B L = none := by
    cases e : H.B L with
    | none => rfl
    | some x => have := (ap3.b L x e).1; rw [show (K.hold L oL).B L = some oL from if_pos rfl] at this; cases this
  obtain ⟨_, ap4⟩ := ap3.unhold
  have ap5 := ap4 hS.lB
  have hHga := (Kp.wi_nn y2).1
  have ek : ((K.hold L oL).wi H).gset g gs = (K.wi (H.gset g gs)).hold L oL := by
    unfold Kp.wi Kp.hold Kp.gset
    refine Kp.eq ?_ ?_
    · funext b
      by_cases e : b = L
      · subst e; simp only [hLH, if_true]
      · simp only [if_neg e]
    · funext i
      by_cases e : i = g
      · simp only [if_pos e]
      · simp only [if_neg e]
  rw [ek] at S5
  have S6 := back (K.wi (H.gset g gs)) _ [] _ (Kp.wi_ok hLH hS.lB) (fun m q => q.pure l5 hnc) S5
  refine hQ _ (.ref ga) _ g gs H l5 S6 ⟨fun b x e => ⟨(ap5.b b x e).1, ?_⟩, fun i x e => ?_⟩ (hG g) (.gen (PH.ins_self _ _ _) (by rw [hog]; exact ⟨rfl, ⟨_, _, rfl⟩, rfl⟩)) fun A' hA' K' F'' s'' l S7 ap7 => ?_
  · rw [PH.ins_ne (fun z => by rw [z] at e; have e : H.B ga = some x := e; rw [hHga] at e; cases e)]
    exact (ap5.b b x e).2
  · by_cases z : i = g
    · rw [z]; exact hKg
    · have : H.G i = some x := (if_neg z).symm.trans e
      rw [hG i] at this; cases this
  · rw [← hgs]
    show SX w A' (.func (bodyOf o) (FnCx w a o L' (ps ++ rest)).env) (.point [] fun _ => ((execs (bodyOf o) (FnCx w a o L' (ps ++ rest)).env).onRaise _) >>= _) [] s'' _
    refine sx_point ?_
    rw [Sem.onRaise_eq_wrap, Sem.bind_eq_wrap', Sem.wrap_wrap]
    have S8 := wake K' F'' s'' (l5.trans l) S7 ap7
    have hb' := (hbody L').go A' (.func (bodyOf o) (FnCx w a o L' (ps ++ rest)).env) [] K' (Kp.emp K'.o) F'' s''
    refine hb' _ _ _ _ (room_func hA') rfl rfl rfl S8 (Apart.emp _ _ _) fun K2 F2 f2 s2 fl cs2 vs2 l2 S9 ap9 r p => ?_
    have fin : SX w A' (.func (bodyOf o) (FnCx w a o L' (ps ++ rest)).env) (.pure (.done (.ret .none))) [] s2 (Emits w A' [] K2 F2) :=
      s_end pw w A' _ _ s2 (.ok (.ret .none)) _ rfl ⟨rfl, F2, PH.le.refl _, S9.toSF.none⟩
    rcases p with rfl | rfl
    · cases r; exact fin
    · cases r with
      | ret d => (apply d.noneI); exact fin
end

structure EVGX (c : Cx) (n m : Nat) (vs : List MV) (e : Expr) (Z : List MV → Prop) : Prop where
  go : ∀ (A : Around) (K : Kp) (F : PH) (s : Shared) (Q : Value → Shared → Prop), Room n A → St c.w K F [] c.L c.xs vs s →
    (∀ F' v s' g gs H, PH.le F F' → St c.w (K.wi (H.gset g gs)) F' [] c.L c.xs vs s' → Apart (H.gset g gs) K F' → H.G g = none → DV c.w F' [] (.gen g) v → (∀ A', Room m A' → LiveX c.w A' Z gs H F') → Q v s') → wpAny (model pw c.w) A (eval e c.env) Q NoE s
section
variable {c : Cx} {n m : Nat} {vs : List MV} {P : Fl → List CellAt → List MV → Prop}
theorem GE.forG (ok : CxOk c) {x : Str} {px : Pos} {iter : Expr} {body : List Stmt} {pos : Pos} {Z Y : List MV → Prop} (hx : (x, NameKind.local) ∈ c.sc.names) (hi : EVGX c n m vs iter Z) (hm : m + 2 ≤ n)
    (h : ∀ zs, Z zs → ∃ ys0, Y ys0 ∧ ∃ I : Nat → List MV → List MV → Prop, I 0 ys0 vs ∧ (∀ ys vs', I zs.length ys vs' → ys = [] ∧ P .next [] vs') ∧
      (∀ i z ys vs, zs[i]? = some z → I i ys vs → ∃ vs1 y1 y2, ys = y1 ++ y2 ∧ Put x z c.xs vs vs1 ∧ GX c n [] vs1 body y1 (fun fl cs' vs' => match fl with | .next | .cont => cs' = [] ∧ I (i + 1) y2 vs' | _ => False)))
    (hs : ∀ x, foldedSetIterable iter c.env x = pure x := by intro _; kernel_rfl) : GE c n [] vs [.For (.Name x px) iter body [] pos] Y P := .mk fun A co fs K Hin F s KK0 HH gd lv hA q1 q2 q3 S ap hK0 => by
  rw [execs_cons_wrap]
  generalize hKK : (fun f => match f with | .next => (execs [] c.env).wrap KK0 HH gd lv | f => KK0 f : Flow → Sem Fin) = KK
  have hK : ∀ K' F' f s' fl cs' vs', PH.le F F' → St c.w (K'.wi Hin) F' cs' c.L c.xs vs' s' → Apart Hin K' F' → FlR c.w F' (adrs cs') fl f → P fl cs' vs' → SX c.w A co (KK f) fs s' (Emits c.w A [] K' F') := fun K' F' f s' fl cs' vs' l S' ap' r p => by
    have := hK0 K' F' f s' fl cs' vs' l S' ap' r p
    subst hKK
    cases r <;> exact this
  refine sx_For (x := .none) (hi.go (A.over co fs) (K.wi Hin) F s _ hA S fun F1 v s1 g gs H l1 S1 ap1 hHg d1 live => ?_) hs
  obtain ⟨ga, og, rfl, eg, ig⟩ := d1.isGen
  refine wpAny_pyIter_gen (ig.at (S1.fz _ _ eg)) fun p k kp hkk => ?_
  have hA2 := room_for (t := .Name x px) (it := .ref ga) (body := body) (orelse := []) (env := c.env) (k := k) (g := gd false) (l := lv []) (p := p) (kp := kp) hA
  have hfs2 : splitAtGen (.ret k none (gd false) (lv []) co p kp :: fs) = none := by simp only [splitAtGen, q1, Option.map_none]
  have hgd2 : (Frame.ret k none (gd false) (lv []) co p kp :: fs).any Frame.guarded = false := by simp only [List.any_cons, Frame.guarded, q3, q2, Bool.or_false]
  refine SX.emitsX l1 ?_
  generalize hB : A.over (.forLoop (.Name x px) (.ref ga) body [] c.env) (.ret k none (gd false) (lv []) co p kp :: fs) = B at hA2
  have main : ∀ (zs : List MV) (I : Nat → List MV → List MV → Prop) (hend : ∀ ys vs', I zs.length ys vs' → ys = [] ∧ P .next [] vs') (turn : ∀ i z ys vs, zs[i]? = some z → I i ys vs → ∃ vs1 y1 y2, ys = y1 ++ y2 ∧ Put x z c.xs vs vs1 ∧ GX c n [] vs1 body y1 (fun fl cs' vs' => match fl with | .next | .cont => cs' = [] ∧ I (i + 1) y2 vs' | _ => False)), ∀ j i, j + i = zs.length → ∀ K F' gs H vs' ys s, PH.le F1 F' → St c.w ((K.wi Hin).wi (H.gset g gs)) F' [] c.L c.xs vs' s → Apart Hin K F' → Apart (H.gset g gs) (K.wi Hin) F' → H.G g = none → Live c.w B.in1 (zs.drop i) gs H F' → I i ys vs' →
      SX c.w A (.forLoop (.Name x px) (.ref ga) body [] c.env) (denote table (.forLoop (.Name x px) (.ref ga) body [] c.env)) (.ret k none (gd false) (lv []) co p kp :: fs) s (Emits c.w A (ys) K F') := by
    intro zs I hend turn j
    induction j with
    | zero =>
      intro i hi K3 F3 gs3 H3 vs3 ys s3 l3 S3 ap3 apg3 hH3 live3 i3
      obtain rfl : i = zs.length := by omega
      rw [List.drop_length] at live3
      refine sx_forTurn ?_
      rw [hB]
      refine wpAny_next_gen (n := m + 1) (A := B) (hA2.le (by omega)) (.gen (l3 _ _ eg) ig : DV c.w F3 [] (.gen g) (.ref ga)) live3 hH3 S3 apg3 (fun y ys' e => by cases e) fun _ F4 s4 l4 S4 => ?_
      refine sx_forEnd (sx_pop ?_)
      rw [hkk]
      obtain ⟨rfl, p'⟩ := hend ys vs3 i3
      exact (hK K3 F4 _ _ .next [] vs3 (l1.trans (l3.trans l4)) S4 (ap3.le S4.toSF) .next p').emits l4
    | succ j ih =>
      intro i hi K3 F3 gs3 H3 vs3 ys s3 l3 S3 ap3 apg3 hH3 live3 i3
      have hlt : i < zs.length := by omega
      obtain ⟨z, hz⟩ : ∃ z, zs[i]? = some z := ⟨_, List.getElem?_eq_getElem hlt⟩
      obtain ⟨vs4, y1, y2, rfl, hp, hb⟩ := turn i z ys vs3 hz i3
      have hdr : zs.drop i = z :: zs.drop (i + 1) := by
        rw [List.drop_eq_getElem_cons hlt]
        rw [List.getElem?_eq_getElem hlt] at hz
        cases hz; rfl
      rw [hdr] at live3
      refine sx_forTurn ?_
      rw [hB]
      refine wpAny_next_gen (n := m + 1) (A := B) (hA2.le (by omega)) (.gen (l3 _ _ eg) ig : DV c.w F3 [] (.gen g) (.ref ga)) live3 hH3 S3 apg3 (fun y ys' e F4 u s4 gs4 H4 l4 S4 apg4 hH4 d4 live4 => ?_) (fun e => by cases e)
      cases e
      refine wpAny_pure ?_
      refine wpAny_assign_Name (bind_name ok hx hp S4 d4 fun s5 S5 => ?_)
      have ap4 : Apart Hin K3 F4 := ap3.le2 S4.toSF
      rw [Kp.wi_assoc] at S5
      refine SX.emits l4 (hb.go A _ _ K3 (Hin.wi (H4.gset g gs4)) F4 s5 _ _ id id (y2) (hB ▸ hA2) hfs2 hgd2 rfl S5 (ap4.two apg4) fun K6 F6 f s6 fl cs6 vs6 l6 S6 ap6 r pf => ?_)
      obtain ⟨ap7, apg7⟩ := ap6.split apg4
      cases r with
      | next =>
        obtain ⟨rfl, pf⟩ := pf
        exact sx_again rfl (ih (i + 1) (by omega) K6 F6 gs4 H4 vs6 y2 s6 (l3.trans (l4.trans l6)) (by rw [Kp.wi_assoc]; exact S6) ap7 apg7 hH4 (live4.mono l6) pf)
      | cont =>
        obtain ⟨rfl, pf⟩ := pf
        exact sx_again rfl (ih (i + 1) (by omega) K6 F6 gs4 H4 vs6 y2 s6 (l3.trans (l4.trans l6)) (by rw [Kp.wi_assoc]; exact S6) ap7 apg7 hH4 (live4.mono l6) pf)
      | brk => exact pf.elim
      | ret dr => exact pf.elim
  refine sx_forTurn ?_
  rw [hB]
  refine wpAny_next_genX (n := m + 1) (A := B) (hA2.le (by omega)) (.gen eg ig : DV c.w F1 [] (.gen g) (.ref ga)) (live _ ((hA2.le (m := m + 1) (by omega)).in1)) hHg S1 ap1 (fun z zs' e F4 u s4 gs4 H4 l4 S4 apg4 hH4 d4 live4 => ?_) (fun e F4 s4 l4 S4 => ?_)
  · obtain ⟨ys, hY, I, h0, hend, turn⟩ := h _ e
    have main := main _ I hend turn
    obtain ⟨vs4, y1, y2, rfl, hp, hb⟩ := turn 0 z ys vs rfl h0
    refine wpAny_pure ?_
    refine wpAny_assign_Name (bind_name ok hx hp S4 d4 fun s5 S5 => ?_)
    have ap4 : Apart Hin K F4 := (ap.le2 S1.toSF).le2 S4.toSF
    rw [Kp.wi_assoc] at S5
    refine SX.pick hY ?_
    refine SX.emits l4 (hb.go A _ _ K (Hin.wi (H4.gset g gs4)) F4 s5 _ _ id id y2 (hB ▸ hA2) hfs2 hgd2 rfl S5 (ap4.two apg4) fun K6 F6 f s6 fl cs6 vs6 l6 S6 ap6 r pf => ?_)
    obtain ⟨ap7, apg7⟩ := ap6.split apg4
    cases r with
    | next =>
      obtain ⟨rfl, pf⟩ := pf
      exact sx_again rfl (main zs'.length 1 (by rw [List.length_cons]) K6 F6 gs4 H4 vs6 y2 s6 (l4.trans l6) (by rw [Kp.wi_assoc]; exact S6) ap7 apg7 hH4 (live4.mono l6) pf)
    | cont =>
      obtain ⟨rfl, pf⟩ := pf
      exact sx_again rfl (main zs'.length 1 (by rw [List.length_cons]) K6 F6 gs4 H4 vs6 y2 s6 (l4.trans l6) (by rw [Kp.wi_assoc]; exact S6) ap7 apg7 hH4 (live4.mono l6) pf)
    | brk => exact pf.elim
    | ret dr => exact pf.elim
  · obtain ⟨ys, hY, I, h0, hend, turn⟩ := h _ e
    refine SX.pick hY ?_
    refine sx_forEnd (sx_pop ?_)
    rw [hkk]
    obtain ⟨rfl, p'⟩ := hend ys vs h0
    exact (hK K F4 _ _ .next [] vs (l1.trans l4) S4 ((ap.le2 S1.toSF).le S4.toSF) .next p').emits l4
end
end
open PySem PySem.W PySem.W.X PyProof.Rows
section
set_option Elab.async false
set_option linter.unusedVariables false
set_option maxRecDepth 100000
section
variable {prog : Program} {w : World} {A : Around} {E : Value → Shared → Prop} {s : Shared}
theorem setItem_list_neg {l : Addr} {items : Array Value} {k : Int} {t : Tok} {v : Value} {Q : Unit → Shared → Prop} (hl : s.heap.IsList l items)
    (h0 : k < 0) (h1 : -(items.size : Int) ≤ k) (hfit : -(2 ^ 63) ≤ k)
    (hQ : Q () { s with heap := s.heap.update l (Obj.mapSeq (·.setIfInBounds (k + items.size).toNat v)) }) :
    wpAny (model prog w) A (setItem (.ref l) (.int k t) v) Q E s := by
  obtain ⟨o, ho, hc, ne, hd⟩ := id hl
  unfold setItem
  try with_reducible refine wpAny_holding ?_
  first | refine wpAny_bind (wpAny_pure ?_) | skip
  refine wpAny_bind (wpAny_sequenceKey hl.typeIs (by decide) ?_)
  refine wpAny_bind (wpAny_callSpecial?_slot (name := Str.ofString "__setitem__") hl.typeIs slot_list_setitem
    (wpAny_call_entry slot_list_setitem hl.typeIs entry_list_setitem ?_ (args_list_setitem _ _ _)))
  show wpAny _ _ (Builtin.List.listSubscript? (.int k t) >>= _) _ _ s
  refine wpAny_bind (wpAny_listSubscript_int (fitsIndex_neg h0 hfit) ?_)
  clear hfit
  have hidx := seqIndex_neg h0 h1
  have hj : (k + items.size).toNat < items.size := by lia
  have hx' : items[(k + items.size).toNat]? = some items[(k + items.size).toNat] := Array.getElem?_eq_getElem hj
  generalize (k + items.size).toNat = j at *
  obtain ⟨i, rfl⟩ : ∃ i : Nat, k = Int.negSucc i := by
    cases k with
    | ofNat n => exact absurd h0 (Int.not_lt.mpr (Int.ofNat_nonneg n))
    | negSucc n => exact ⟨n, rfl⟩
  show wpAny _ _ ((Builtin.List.listItems (.ref l) >>= fun xs => pure ((seqIndex? (Int.negSucc i) xs.size).bind fun i => xs[i]?.map (i, ·))) >>= _) _ _ s
  refine wpAny_bind (wpAny_bind ?_)
  show wpAny _ _ (seqItems? (.ref l) >>= _) _ _ s
  refine wpAny_bind (wpAny_seqItems ho hd (wpAny_pure (wpAny_pure ?_)))
  rw [hidx]
  simp only [Option.bind_some, hx', Option.map_some]
  show wpAny _ _ (setSeqItemAt l j v >>= _) _ _ s
  refine wpAny_bind (wpAny_setSeqItemAt ho hd ?_)
  first
    | exact wpAny_bind (wpAny_pure (wpAny_pure ⟨.none, rfl, wpAny_pure hQ⟩))
    | exact wpAny_pure ⟨.none, rfl, wpAny_pure hQ⟩
theorem setItem_list_pos {l : Addr} {items : Array Value} {k : Int} {t : Tok} {v : Value} {Q : Unit → Shared → Prop} (hl : s.heap.IsList l items)
    (h0 : 0 ≤ k) (hfit : k < 2 ^ 63) (hn : k < items.size)
    (hQ : Q () { s with heap := s.heap.update l (Obj.mapSeq (·.setIfInBounds k.toNat v)) }) :
    wpAny (model prog w) A (setItem (.ref l) (.int k t) v) Q E s := by
  obtain ⟨o, ho, hc, ne, hd⟩ := id hl
  unfold setItem
  try with_reducible refine wpAny_holding ?_
  first | refine wpAny_bind (wpAny_pure ?_) | skip
  refine wpAny_bind (wpAny_sequenceKey hl.typeIs (by decide) ?_)
  refine wpAny_bind (wpAny_callSpecial?_slot (name := Str.ofString "__setitem__") hl.typeIs slot_list_setitem
    (wpAny_call_entry slot_list_setitem hl.typeIs entry_list_setitem ?_ (args_list_setitem _ _ _)))
  show wpAny _ _ (Builtin.List.listSubscript? (.int k t) >>= _) _ _ s
  refine wpAny_bind (wpAny_listSubscript_int (fitsIndex_of h0 hfit) ?_)
  clear hfit
  obtain ⟨j, rfl⟩ := Int.eq_ofNat_of_zero_le h0
  have hj : j < items.size := by lia
  have hx' : items[j]? = some items[j] := Array.getElem?_eq_getElem hj
  show wpAny _ _ ((seqItemAt l j >>= fun r => pure (r.map (j, ·))) >>= _) _ _ s
  refine wpAny_bind (wpAny_bind (wpAny_seqItemAt ho hd (wpAny_pure ?_)))
  rw [hx']
  show wpAny _ _ (setSeqItemAt l j v >>= _) _ _ s
  refine wpAny_bind (wpAny_setSeqItemAt ho hd ?_)
  first
    | exact wpAny_bind (wpAny_pure (wpAny_pure ⟨.none, rfl, wpAny_pure hQ⟩))
    | exact wpAny_pure ⟨.none, rfl, wpAny_pure hQ⟩
end
section
variable {c : Cx} {n : Nat} {cs : List CellAt} {vs : List MV} {r : List Stmt} {k : List (List Stmt)} {P : Fl → List CellAt → List MV → Prop}
noncomputable def imax (a b : Int) : Int := if b > a then b else a
noncomputable def imin (a b : Int) : Int := if b < a then b else a
theorem CS.max2 {a b : Int} : CS c n cs vs (.builtin "max") [.int a, .int b] (.int (imax a b)) := .mk fun A K F s Q us hA S d hQ => by
  apply d.consI; intro _ _ d1 d2
  apply d2.consI; intro _ _ d2 d3
  apply d3.nilI; apply d1.intI; intro _; apply d2.intI; intro _
  refine max_two_ints hA.handled fun h' tk hk => ?_
  have S2 := S.ext (s' := { s with heap := h', toks := tk }) hk rfl rfl
  refine hQ F _ _ (PH.le.refl _) S2 ?_
  unfold imax
  split <;> exact .int _ _
theorem CS.min2 {a b : Int} : CS c n cs vs (.builtin "min") [.int a, .int b] (.int (imin a b)) := .mk fun A K F s Q us hA S d hQ => by
  apply d.consI; intro _ _ d1 d2
  apply d2.consI; intro _ _ d2 d3
  apply d3.nilI; apply d1.intI; intro _; apply d2.intI; intro _
  refine min_two_ints hA.handled fun h' tk hk => ?_
  have S2 := S.ext (s' := { s with heap := h', toks := tk }) hk rfl rfl
  refine hQ F _ _ (PH.le.refl _) S2 ?_
  unfold imin
  split <;> exact .int _ _
theorem EV.itemC {b i : Expr} {pos : Pos} {j : Nat} {a : Addr} {xs : List MV} {k : Int} {mv : MV} (hb : EV c n cs vs b (.cell j)) (hk : cs[j]? = some ⟨a, [], .list xs⟩) (hi : EV c n cs vs i (.int k)) (h0 : 0 ≤ k) (h1 : k < 2 ^ 63) (hx : xs[k.toNat]? = some mv)
    (hs : ∀ u v, ∃ ops, subscripted i false u v = operate ops (getItem u v) := by exact fun _ _ => ⟨_, rfl⟩) : EV c n cs vs (.Subscript b i pos) mv :=
  EV.sub' hb hi slot_list_getitem.lookup (fun A K F s Q u v hA S d1 d2 hQ => by
    apply d2.intI; intro _
    have := cell_addr d1 hk
    subst this
    obtain ⟨_, o, us, e, q, d⟩ := S.cl _ (List.mem_of_getElem? hk)
    obtain ⟨v, ev, dv⟩ := d.get hx
    exact ⟨⟨_, e, q.1⟩, wpAny_getItem_list (q.isList e) h0 h1 (toList_get ev) (hQ _ _ _ (PH.le.refl _) S (dv.any _))⟩) hs
theorem EV.itemCneg {b i : Expr} {pos : Pos} {j : Nat} {a : Addr} {xs : List MV} {k : Int} {mv : MV} (hb : EV c n cs vs b (.cell j)) (hk : cs[j]? = some ⟨a, [], .list xs⟩) (hi : EV c n cs vs i (.int k)) (h0 : k < 0) (h1 : -(xs.length : Int) ≤ k) (h2 : -(2 ^ 63) ≤ k) (hx : xs[(k + xs.length).toNat]? = some mv)
    (hs : ∀ u v, ∃ ops, subscripted i false u v = operate ops (getItem u v) := by exact fun _ _ => ⟨_, rfl⟩) : EV c n cs vs (.Subscript b i pos) mv :=
  EV.sub' hb hi slot_list_getitem.lookup (fun A K F s Q u v hA S d1 d2 hQ => by
    apply d2.intI; intro _
    have := cell_addr d1 hk
    subst this
    obtain ⟨_, o, us, e, q, d⟩ := S.cl _ (List.mem_of_getElem? hk)
    obtain ⟨v, ev, dv⟩ := d.get hx
    exact ⟨⟨_, e, q.1⟩, wpAny_getItem_list_neg (q.isList e) h0 (by rw [arr_len d]; exact h1) h2 (toList_get (by rw [arr_len d]; exact ev)) (hQ _ _ _ (PH.le.refl _) S (dv.any _))⟩) hs
theorem DVs.set {w : World} {F : PH} {as : List Addr} {xs : List MV} {us : List Value} (d : DVs w F as xs us) {m : MV} {v : Value} (dv : DV w F as m v) : ∀ i, DVs w F as (xs.set i m) (us.set i v) := by
  induction xs generalizing us with
  | nil => (apply d.nilI); intro i; exact .nil
  | cons x xs ih =>
    apply d.consI; intro _ _ d1 d2
    intro i
    cases i with
    | zero => exact .cons dv d2
    | succ i => exact .cons d1 (ih d2 i)
/-- an item of a list is stored -/
theorem ASc.subL {o i : Expr} {pos : Pos} {j : Nat} {a : Addr} {xs : List MV} {x : Int} {m : MV} {q : Nat} (ho : EV c n cs vs o (.cell j)) (hk : cs[j]? = some ⟨a, [], .list xs⟩) (hi : EV c n cs vs i (.int x)) (hm : m.nc = true) (hz : xs.length ≤ 100000)
    (hx : (0 ≤ x ∧ x < xs.length ∧ q = x.toNat) ∨ (x < 0 ∧ -(xs.length : Int) ≤ x ∧ q = (x + xs.length).toNat)) :
    ASc c n cs vs (.Subscript o i pos) m (cs.set j ⟨a, [], .list (xs.set q m)⟩) vs := by
  refine ⟨by rw [adrs_set hk (y := ⟨a, [], .list (xs.set q m)⟩) rfl]; exact asLe.refl _, fun A K F s Q w hA hS dv hQ => ?_⟩
  rw [assign_Subscript]
  refine wpAny_bind (wpAny_holding (ho.go A K F s _ hA hS fun F1 u s1 l1 S1 d1 => ?_))
  rw [cell_addr d1 hk]
  refine wpAny_bind (wpAny_holding (hi.go A K F1 s1 _ hA S1 fun F2 iv s2 l2 S2 d2 => ?_))
  apply d2.intI; intro _
  rename_i ti
  refine wpAny_bind (wpAny_standAt (wpAny_bind (wpAny_holding ?_)))
  obtain ⟨_, ob, us, e, qq, d⟩ := S2.cl _ (List.mem_of_getElem? hk)
  have hsz := arr_len d
  have hdv : DV c.w F2 [] m w := (dv.mono (l1.trans l2) (asLe.refl _)).pure hm
  have hself := Heap.get?_update_self (Obj.mapSeq (·.setIfInBounds q w)) e (by obtain ⟨_, _, _, nn, hd⟩ := qq; exact Obj.isFreed_of_seq (Obj.data_mapSeq hd (·.setIfInBounds q w)).choose_spec)
  have S3 : St c.w K F2 (cs.set j ⟨a, [], .list (xs.set q m)⟩) c.L c.xs vs { s2 with heap := s2.heap.update a (Obj.mapSeq (·.setIfInBounds q w)) } := by
    refine S2.setCell hk (y := ⟨a, [], .list (xs.set q m)⟩) rfl rfl (fun b o hb q => (Heap.get?_update_other _ _ (fun z => hb (by rw [← z]; exact .head _))).trans q) (fun b hb => ?_) ?_ rfl rfl
    · have hb : b ∈ ([a] : List Addr) := hb
      rw [List.mem_singleton.mp hb]; exact ⟨_, hself⟩
    · refine ⟨rfl, _, us.setIfInBounds q w, hself, ?_, ?_⟩
      · obtain ⟨m', rfl⟩ := qq.obj
        exact ⟨rfl, rfl, rfl, _, rfl⟩
      · rw [Array.toList_setIfInBounds]
        exact d.set hdv q
  rcases hx with ⟨h0, h1, hq⟩ | ⟨h0, h1, hq⟩
  · refine setItem_list_pos (qq.isList e) h0 (by lia) (by rw [hsz]; exact h1) ?_
    rw [← hq]
    exact wpAny_release (hQ F2 _ (l1.trans l2) S3)
  · refine setItem_list_neg (qq.isList e) h0 (by rw [hsz]; exact h1) (by lia) ?_
    rw [hsz, ← hq]
    exact wpAny_release (hQ F2 _ (l1.trans l2) S3)
/-- a cell that nobody reads any more -/
theorem St.kill {w : World} {K : Kp} {F : PH} {L : Addr} {xs : List Str} {s : Shared} {j : Nat} {x : CellAt} (h : St w K F cs L xs vs s) (hk : cs[j]? = some x) : St w K F (cs.set j ⟨x.a, [], .dead⟩) L xs vs s := by
  have hadr : adrs (cs.set j ⟨x.a, [], .dead⟩) = adrs cs := adrs_set hk rfl
  have hsub := (foots_dead hk).1
  refine ⟨⟨h.fz, h.kp, fun y hy => ?_, h.nd.sublist hsub, fun a ha => h.ap a (hsub.subset ha), h.fb, h.top, h.gens, h.os⟩, ?_, fun hm => h.lf (hsub.subset hm), h.lF, h.lB⟩
  · rw [hadr]
    rcases List.mem_or_eq_of_mem_set hy with hy | rfl
    · exact h.cl y hy
    · trivial
  · rw [hadr]; exact h.ns
theorem XS.kill {ss : List Stmt} {j : Nat} {x : CellAt} (hk : cs[j]? = some x) (h : XS c n (cs.set j ⟨x.a, [], .dead⟩) vs (ss :: k) P) : XS c n cs vs (ss :: k) P :=
  EX.mk fun A K F s Q hA hS hQ => EX.go h A K F s Q hA (hS.kill hk) hQ
noncomputable def MV.ren (j k : Nat) : MV → MV
  | .cell i => if i = j then .cell k else .cell i
  | v => v
/-- a list cell gets another number: the last -/
theorem XS.move {ss : List Stmt} {j : Nat} {a : Addr} {ms : List MV} (hk : cs[j]? = some ⟨a, [], .list ms⟩) (h : XS c n (cs.set j ⟨a, [], .dead⟩ ++ [⟨a, [], .list ms⟩]) (vs.map (MV.ren j cs.length)) (ss :: k) P) : XS c n cs vs (ss :: k) P :=
  EX.mk fun A K F s Q hA hS hQ => by
    refine EX.go h A K F s Q hA ?_ hQ
    have hadr : adrs (cs.set j ⟨a, [], .dead⟩ ++ [⟨a, [], .list ms⟩]) = adrs cs ++ [a] := by rw [adrs_app, adrs_set (y := ⟨a, [], .dead⟩) hk rfl]; rfl
    have hsub := (foots_dead hk).1
    have hd := (foots_dead hk).2 hS.nd
    have hf : foots (cs.set j ⟨a, [], .dead⟩ ++ [⟨a, [], .list ms⟩]) = foots (cs.set j ⟨a, [], .dead⟩) ++ [a] := by rw [foots_app]; rfl
    have hmem : a ∈ foots cs := mem_foots (List.mem_of_getElem? hk) (.head _)
    have hin : ∀ b, b ∈ foots (cs.set j ⟨a, [], .dead⟩ ++ [⟨a, [], .list ms⟩]) → b ∈ foots cs := fun b hb => by
      rw [hf] at hb
      rcases List.mem_append.mp hb with hb | hb
      · exact hsub.subset hb
      · rw [List.mem_singleton.mp hb]; exact hmem
    refine ⟨⟨hS.fz, hS.kp, fun y hy => ?_, ?_, fun b hb => hS.ap b (hin b hb), hS.fb, hS.top, hS.gens, hS.os⟩, ?_, fun hm => hS.lf (hin _ hm), hS.lF, hS.lB⟩
    · rw [hadr]
      rcases List.mem_append.mp hy with hy | hy
      · rcases List.mem_or_eq_of_mem_set hy with hy | rfl
        · exact (hS.cl y hy).mono (PH.le.refl _) (asLe.app _ _) fun _ _ _ e => e
        · trivial
      · rw [List.mem_singleton.mp hy]
        exact (hS.cl _ (List.mem_of_getElem? hk)).mono (PH.le.refl _) (asLe.app _ _) fun _ _ _ e => e
    · rw [hf, List.nodup_append]
      refine ⟨hS.nd.sublist hsub, by simp, fun b hb b' hb' e => ?_⟩
      rw [List.mem_singleton.mp hb'] at e
      exact hd b hb (e ▸ .head _)
    · obtain ⟨m, hn, hm⟩ := hS.ns
      refine ⟨m, hn, fun x mv hat hne => ?_⟩
      obtain ⟨u, hu, e⟩ := At.map hat
      have hune : u ≠ .unb := fun z => by rw [z] at e; exact hne e.symm
      obtain ⟨v, ev, dv⟩ := hm x u hu hune
      refine ⟨v, ev, ?_⟩
      rw [hadr, ← e]
      have d2 := dv.mono (PH.le.refl F) (asLe.app (adrs cs) [a])
      cases u with
      | cell i =>
        show DV c.w F _ (if i = j then .cell cs.length else .cell i) v
        by_cases z : i = j
        · rw [if_pos z]
          subst z
          rw [cell_addr dv hk]
          refine .cell ?_
          have : (adrs cs).length = cs.length := List.length_map _
          rw [← this, List.getElem?_append_right (Nat.le_refl _), Nat.sub_self]; rfl
        · rw [if_neg z]; exact d2
      | _ => exact d2
end
end
open PySem PySem.W PySem.W.X PyProof.Rows
section
set_option Elab.async false
set_option linter.unusedVariables false
section
variable {c : Cx} {n : Nat} {P : Fl → List CellAt → List MV → Prop}
/-- a for of a generator's body, its state told by a record -/
theorem GX1.forLG {σ : Type} (cf : σ → List CellAt) (vf : σ → List MV) (yf : Nat → σ → List MV) (J : Nat → σ → Prop) {t iter : Expr} {body : List Stmt} {pos : Pos} {items : List MV} (g0 : σ) (hi : EV c n (cf g0) (vf g0) iter (.list items))
    (turn : ∀ i x g, items[i]? = some x → J i g → ∃ vs1 y1 y2, yf i g = y1 ++ y2 ∧ AS c n (cf g) (vf g) t x vs1 ∧ ∀ PP : Fl → List CellAt → List MV → Prop, (∀ g', J (i + 1) g' → y2 = yf (i + 1) g' → PP .next (cf g') (vf g') ∧ PP .cont (cf g') (vf g')) → GX c n (cf g) vs1 body y1 PP)
    (h0 : J 0 g0) (hend : ∀ g, J items.length g → yf items.length g = [] ∧ P .next (cf g) (vf g))
    (hs : ∀ x, foldedSetIterable iter c.env x = pure x := by intro _; kernel_rfl) : GX1 c n (cf g0) (vf g0) (.For t iter body [] pos) (yf 0 g0) P :=
  GX1.forL (fun i ys cs vs => ∃ g, J i g ∧ ys = yf i g ∧ cs = cf g ∧ vs = vf g) hi (fun i x ys cs vs hx ⟨g, h, ey, ec, ev⟩ => by
    subst ey ec ev
    obtain ⟨vs1, y1, y2, e, ha, hb⟩ := turn i x g hx h
    exact ⟨vs1, y1, y2, e, ha, hb _ fun g' h' e' => ⟨⟨g', h', e', rfl, rfl⟩, ⟨g', h', e', rfl, rfl⟩⟩⟩) ⟨g0, h0, rfl, rfl, rfl⟩ (fun ys cs vs ⟨g, h, ey, ec, ev⟩ => by
    subst ey ec ev; exact hend g h) hs
end
end
open PySem PySem.W PySem.W.X PyProof.Rows
section
set_option Elab.async false
set_option linter.unusedVariables false
set_option maxRecDepth 100000
set_option maxHeartbeats 1000000

theorem fn218 (w : World) : IsFn w 218 217 (B.o_291 w.params) := IsFn.of (oc := B.o_290 w.params) (by kernel_rfl) (isTop (by kernel_rfl)) rfl (isTop (by kernel_rfl)) rfl rfl
theorem ok218 (P : Params) : fnOk (B.o_291 P) = true := by kernel_rfl
noncomputable def clipL (k : Int) (o : Op5) : Op5 := if o.1 = "equal" then (o.1, imax o.2.1 (o.2.2.1 - k), o.2.2.1, imax o.2.2.2.1 (o.2.2.2.2 - k), o.2.2.2.2) else o
noncomputable def clipR (k : Int) (o : Op5) : Op5 := if o.1 = "equal" then (o.1, o.2.1, imin o.2.2.1 (o.2.1 + k), o.2.2.2.1, imin o.2.2.2.2 (o.2.2.2.1 + k)) else o
noncomputable def modFirst (f : Op5 → Op5) : List Op5 → List Op5
  | [] => []
  | o :: r => f o :: r
noncomputable def modLast (f : Op5 → Op5) (l : List Op5) : List Op5 := (modFirst f l.reverse).reverse
noncomputable def codes0 (ops : List Op5) : List Op5 := if ops = [] then [("equal", 0, 1, 0, 1)] else ops
noncomputable def codesOf (k : Int) (ops : List Op5) : List Op5 := modLast (clipR k) (modFirst (clipL k) (codes0 ops))
noncomputable def grpY (k : Int) : List Op5 → List Op5 → List (List Op5)
  | _, [] => []
  | g, o :: r => if o.1 = "equal" ∧ k + k < o.2.2.1 - o.2.1 then
      (g ++ [(o.1, o.2.1, imin o.2.2.1 (o.2.1 + k), o.2.2.2.1, imin o.2.2.2.2 (o.2.2.2.1 + k))]) :: grpY k [(o.1, imax o.2.1 (o.2.2.1 - k), o.2.2.1, imax o.2.2.2.1 (o.2.2.2.2 - k), o.2.2.2.2)] r
    else grpY k (g ++ [o]) r
noncomputable def grpE (k : Int) : List Op5 → List Op5 → List Op5
  | g, [] => g
  | g, o :: r => if o.1 = "equal" ∧ k + k < o.2.2.1 - o.2.1 then grpE k [(o.1, imax o.2.1 (o.2.2.1 - k), o.2.2.1, imax o.2.2.2.1 (o.2.2.2.2 - k), o.2.2.2.2)] r
    else grpE k (g ++ [o]) r
noncomputable def okLast (g : List Op5) : Bool := !g.isEmpty && !((g.length : Int) == 1 && (g.headD ("", 0, 0, 0, 0)).1 == "equal")
noncomputable def groupsOf (k : Int) (codes : List Op5) : List (List Op5) := grpY k [] codes ++ (if okLast (grpE k [] codes) then [grpE k [] codes] else [])
noncomputable def gmv (g : List Op5) : MV := .list (g.map op5)
/-- what get_grouped_opcodes yields -/
noncomputable def GrpY (a b : List Str) (k : Int) (ys : List MV) : Prop := ∃ xs, Blocks a b xs ∧ ys = (groupsOf k (codesOf k (opsAll a b xs))).map gmv
noncomputable def opL (k : Int) (o : Op5) : Op5 := (o.1, o.2.1, imin o.2.2.1 (o.2.1 + k), o.2.2.2.1, imin o.2.2.2.2 (o.2.2.2.1 + k))
noncomputable def opR (k : Int) (o : Op5) : Op5 := (o.1, imax o.2.1 (o.2.2.1 - k), o.2.2.1, imax o.2.2.2.1 (o.2.2.2.2 - k), o.2.2.2.2)
theorem codes0_nil {ops : List Op5} (hb : (!(!(ops.map op5).isEmpty)) = true) : codes0 ops = [(("equal", 0, 1, 0, 1) : Op5)] := by
  cases ops with
  | nil => rfl
  | cons => cases hb
theorem codes0_c {ops : List Op5} {G : Prop} (h : ops.length ≤ 200) (K : ∀ o r, codes0 ops = o :: r → r.length ≤ 200 → G) : G := by
  cases ops with
  | nil => exact K _ _ rfl (Nat.zero_le _)
  | cons o r => exact K o r (if_neg (by simp)) (by rw [List.length_cons] at h; lia)
theorem modF_c {f : Op5 → Op5} {l r : List Op5} {o : Op5} {G : Prop} (e : l = o :: r) (h : r.length ≤ 200) (K : ∀ q o', modFirst f l = q ++ [o'] → q.length ≤ 200 → G) : G := by
  subst e
  rcases List.eq_nil_or_concat (modFirst f (o :: r)) with e | ⟨q, o', e⟩
  · cases e
  · refine K q o' (by rw [e, List.concat_eq_append]) ?_
    have : (modFirst f (o :: r)).length = r.length + 1 := rfl
    rw [e, List.concat_eq_append, List.length_append, List.length_singleton] at this
    lia
theorem last_get {l q : List Op5} {o : Op5} (e : l = q ++ [o]) : (l.map op5).length = q.length + 1 ∧ (l.map op5)[(-1 + ((l.map op5).length : Int)).toNat]? = some (op5 o) := by
  subst e
  have hxl : ((q ++ [o]).map op5).length = q.length + 1 := by rw [List.length_map, List.length_append]; rfl
  refine ⟨hxl, ?_⟩
  rw [hxl, show (-1 + ((q.length + 1 : Nat) : Int)).toNat = (q.map op5).length by rw [List.length_map]; lia, List.map_append, List.getElem?_append_right (Nat.le_refl _), Nat.sub_self]; rfl
theorem modL_eq {f : Op5 → Op5} {l q : List Op5} {o : Op5} (e : l = q ++ [o]) : modLast f l = q ++ [f o] := by subst e; simp [modLast, modFirst]
theorem set_last {l q : List Op5} {o o' : Op5} (e : l = q ++ [o]) : (l.map op5).set q.length (op5 o') = (q ++ [o']).map op5 := by
  subst e
  rw [List.map_append, List.map_append, ← List.length_map (as := q) (f := op5), List.set_append_right _ _ (Nat.le_refl _), Nat.sub_self]; rfl
theorem map_at5 {ts : List Op5} {m : Nat} {v : MV} (h : (ts.map op5)[m]? = some v) : ∃ t, ts[m]? = some t ∧ v = op5 t := by
  rw [List.getElem?_map] at h
  cases hj : ts[m]? with
  | none => rw [hj] at h; cases h
  | some j => rw [hj] at h; cases h; exact ⟨j, rfl, rfl⟩
theorem grp_cut {k : Int} {g cl : List Op5} {i : Nat} {t : Op5} (ht : cl[i]? = some t) (hc : t.1 = "equal" ∧ k + k < t.2.2.1 - t.2.1) : grpY k g (cl.drop i) = (g ++ [opL k t]) :: grpY k [opR k t] (cl.drop (i + 1)) ∧ grpE k g (cl.drop i) = grpE k [opR k t] (cl.drop (i + 1)) := by
  rw [List.drop_eq_getElem_cons (List.getElem?_eq_some_iff.mp ht).1, (List.getElem?_eq_some_iff.mp ht).2]
  exact ⟨if_pos hc, if_pos hc⟩
theorem grp_on {k : Int} {g cl : List Op5} {i : Nat} {t : Op5} (ht : cl[i]? = some t) (hc : ¬ (t.1 = "equal" ∧ k + k < t.2.2.1 - t.2.1)) : grpY k g (cl.drop i) = grpY k (g ++ [t]) (cl.drop (i + 1)) ∧ grpE k g (cl.drop i) = grpE k (g ++ [t]) (cl.drop (i + 1)) := by
  rw [List.drop_eq_getElem_cons (List.getElem?_eq_some_iff.mp ht).1, (List.getElem?_eq_some_iff.mp ht).2]
  exact ⟨if_neg hc, if_neg hc⟩
/-- what changes in the loop of get_grouped_opcodes -/
structure GgG where
  g : List Op5
  y : Addr
  f3 : MV
  f4 : MV
  f5 : MV
  f6 : MV
  f7 : MV
noncomputable abbrev ggC (G : GgG) : List CellAt := [⟨G.y, [], .list (G.g.map op5)⟩]
noncomputable abbrev ggV (k : Int) (cl : List Op5) (G : GgG) : List MV := [.unb, .int k, .list (cl.map op5), G.f3, G.f4, G.f5, G.f6, G.f7, .int (k + k), .cell 0]
structure GgJ (k : Int) (cl : List Op5) (i : Nat) (G : GgG) : Prop where
  e : grpE k G.g (cl.drop i) = grpE k [] cl
  l : G.g.length ≤ i + 1
noncomputable abbrev ggD (x y z : Addr) (l : List Op5) : List CellAt := [⟨x, [], .dead⟩, ⟨y, [], .dead⟩, ⟨z, [], .list (l.map op5)⟩]
noncomputable abbrev ggW (k : Int) : List MV := [.unb, .int k, .cell 2, .unb, .unb, .unb, .unb, .unb, .unb, .unb]
theorem okLast_eq (g : List Op5) : okLast g = ((!(g.map op5).isEmpty) && ((!((((g.map op5).length : Int) == 1) && (((g.headD ("", 0, 0, 0, 0)).1 == "equal") && true))) && true)) := by
  unfold okLast
  cases g <;> simp
theorem head_get {g : List Op5} (h : (!(g.map op5).isEmpty) = true) : (g.map op5)[(0 : Int).toNat]? = some (op5 (g.headD ("", 0, 0, 0, 0))) := by
  cases g with
  | nil => cases h
  | cons o r => rfl
section
variable {w : World} {n : Nat}
theorem GE.ggo {L : Addr} {x d : Addr} {a b : List Str} {k : Int} (hza : a.length ≤ 60) (hz : b.length ≤ 100) :
    GE (FnCx w 218 (B.o_291 w.params) L ["self", "n", "codes", "tag", "i1", "i2", "j1", "j2", "nn", "group"]) (n + 10) [smCell x d a b] [.cell 0, .int k, .unb, .unb, .unb, .unb, .unb, .unb, .unb, .unb] (bodyOf (B.o_291 w.params)) (GrpY a b k) (fun fl _ _ => fl = .next ∨ fl = .ret .none) := by
  have ok : CxOk (FnCx w 218 (B.o_291 w.params) L ["self", "n", "codes", "tag", "i1", "i2", "j1", "j2", "nn", "group"]) := (fn218 w).ok (ok218 _) (by decide)
  refine GE.pre 7 ?_
  unfold smCell
  refine XS.doc ?_
  refine XS.asgX (EVx.meth0 (name := "get_opcodes") (by walk_at "m_ev") (GMv.instF (fn210 w) rfl rfl (by kernel_rfl) (by decide) (by kernel_rfl)) (fun _ _ _ h => (fn210 w).callee h)
      (CX.mono (CF.cx (CF.gop (n := n) (x := x) (d := d) (a := a) (b := b) hza hz)) ?_))
  rintro m cs1 ⟨rfl, xs, mb, y, hB, hmb, rfl⟩
  refine ⟨_, _, (ASc.name (by assumption) (mem_lu (by kernel_rfl)) (by walk_at "m_at")), ?_⟩
  have hol : (opsAll a b xs).length ≤ 200 := by
    have := opsOf_len (xs ++ [((a.length : Int), (b.length : Int), (0 : Int))]) 0 0
    have h2 := hB.ln
    rw [List.length_append, List.length_singleton] at this
    unfold opsAll; lia
  have hGY : ∀ ys, ys = (groupsOf k (codesOf k (opsAll a b xs))).map gmv → GrpY a b k ys := fun ys e => ⟨xs, hB, e⟩
  generalize hops : opsAll a b xs = ops at hol hGY ⊢
  unfold codesOf at hGY
  unfold smC2
  refine XS.iteG (σ := Addr) (fun z => ggD x y z (codes0 ops)) (fun _ => ggW k) (fun _ => True)
    (TV.not (TV.cellL (j := 1) (xs := ops.map op5) (by walk_at "m_ev") rfl (by rw [List.length_map]; lia))) (fun hb PP hP => ?_) (fun hb PP hP => ?_) fun z _ => ?_
  · have he := codes0_nil (ops := ops) hb
    refine XS.asgX (EVx.listC (EVs.cons (by walk_at "m_ev") EVs.nil) (hz := Nat.le_of_ble_eq_true rfl) (hR := fun z => ⟨_, _, (ASc.name (by assumption) (mem_lu (by kernel_rfl)) (by walk_at "m_at")), ?_⟩))
    refine XS.kill (j := 0) rfl ?_
    refine XS.kill (j := 1) rfl ?_
    refine XS.norm (ggD x y z (codes0 ops)) [.cell 0, .int k, .cell 2, .unb, .unb, .unb, .unb, .unb, .unb, .unb] ?_ (by rw [he]; rfl)
    refine XS.forget (vs' := ggW k) (by walk_at "m_at") ?_
    exact XS.nil (hP z trivial)
  · have he : codes0 ops = ops := if_neg fun e => by rw [e] at hb; cases hb
    refine XS.move (j := 1) rfl ?_
    refine XS.kill (j := 0) rfl ?_
    refine XS.norm (ggD x y y (codes0 ops)) [.cell 0, .int k, .cell 2, .unb, .unb, .unb, .unb, .unb, .unb, .unb] ?_ (by rw [he]; rfl)
    refine XS.forget (vs' := ggW k) (by walk_at "m_at") ?_
    exact XS.nil (hP y trivial)
  refine codes0_c hol fun o r hco hrl => ?_
  have hl : ((codes0 ops).map op5).length = r.length + 1 := by rw [hco, List.length_map, List.length_cons]
  have h0 : ((codes0 ops).map op5)[(0 : Int).toNat]? = some (.tup [.str o.1, .int o.2.1, .int o.2.2.1, .int o.2.2.2.1, .int o.2.2.2.2]) := by rw [hco]; rfl
  refine XS.iteG (σ := Unit) (fun _ => ggD x y z (modFirst (clipL k) (codes0 ops))) (fun _ => ggW k) (fun _ => True)
    (TV.eqs (a := o.1) (b := "equal") (EV.itemT (xs := [.str o.1, .int o.2.1, .int o.2.2.1, .int o.2.2.2.1, .int o.2.2.2.2]) (k := 0) (EV.itemC (j := 2) (k := 0) (by walk_at "m_ev") rfl (by walk_at "m_ev") (by decide) (by decide) h0) (by walk_at "m_ev") (by decide) (by decide) rfl) (by walk_at "m_ev")) (fun hb PP hP => ?_) (fun hb PP hP => ?_) fun _ _ => ?_
  · have hb : o.1 = "equal" := by simpa using hb
    refine XS.asgC (EV.itemC (j := 2) (k := 0) (mv := .tup [.str o.1, .int o.2.1, .int o.2.2.1, .int o.2.2.2.1, .int o.2.2.2.2]) (by walk_at "m_ev") rfl (by walk_at "m_ev") (by decide) (by decide) h0) (AS.tup ok (by walk_at "m_puts")).toC ?_
    refine XS.asgC (EV.tup (EVs.cons (by walk_at "m_ev") (EVs.cons (EV.callB (EV.bi ok (mem_lu (by kernel_rfl)) (by kernel_rfl) (by kernel_rfl)) (by walk_at "m_evs") (CS.max2 (a := o.2.1) (b := o.2.2.1 - k))) (EVs.cons (by walk_at "m_ev") (EVs.cons (EV.callB (EV.bi ok (mem_lu (by kernel_rfl)) (by kernel_rfl) (by kernel_rfl)) (by walk_at "m_evs") (CS.max2 (a := o.2.2.2.1) (b := o.2.2.2.2 - k))) (EVs.cons (by walk_at "m_ev") EVs.nil))))) (Nat.le_of_ble_eq_true rfl))
      (ASc.subL (j := 2) (x := 0) (q := 0) (by walk_at "m_ev") rfl (by walk_at "m_ev") rfl (by rw [hl]; lia) (.inl ⟨Int.le_refl _, by rw [hl]; lia, rfl⟩)) ?_
    refine XS.norm (ggD x y z (modFirst (clipL k) (codes0 ops))) _ ?_ (by rw [hco, modFirst, clipL, if_pos hb]; rfl)
    refine XS.forget (vs' := ggW k) (by walk_at "m_at") ?_
    exact XS.nil (hP () trivial)
  · have hb : ¬ o.1 = "equal" := by simpa using hb
    refine XS.norm (ggD x y z (modFirst (clipL k) (codes0 ops))) (ggW k) ?_ (by rw [hco, modFirst, clipL, if_neg hb])
    exact XS.nil (hP () trivial)
  refine modF_c (f := clipL k) hco hrl fun q o hm2 hql => ?_
  generalize modFirst (clipL k) (codes0 ops) = ml at hm2 hGY ⊢
  have hlg := last_get hm2
  have hget : (ml.map op5)[(-1 + ((ml.map op5).length : Int)).toNat]? = some (.tup [.str o.1, .int o.2.1, .int o.2.2.1, .int o.2.2.2.1, .int o.2.2.2.2]) := hlg.2
  refine XS.iteG (σ := Unit) (fun _ => ggD x y z (modLast (clipR k) ml)) (fun _ => ggW k) (fun _ => True)
    (TV.eqs (a := o.1) (b := "equal") (EV.itemT (xs := [.str o.1, .int o.2.1, .int o.2.2.1, .int o.2.2.2.1, .int o.2.2.2.2]) (k := 0) (EV.itemCneg (j := 2) (k := -1) (by walk_at "m_ev") rfl (EV.neg EV.cint) (by decide) (by rw [hlg.1]; lia) (by decide) hget) (by walk_at "m_ev") (by decide) (by decide) rfl) (by walk_at "m_ev")) (fun hb PP hP => ?_) (fun hb PP hP => ?_) fun _ _ => ?_
  · have hb : o.1 = "equal" := by simpa using hb
    refine XS.asgC (EV.itemCneg (j := 2) (k := -1) (mv := .tup [.str o.1, .int o.2.1, .int o.2.2.1, .int o.2.2.2.1, .int o.2.2.2.2]) (by walk_at "m_ev") rfl (EV.neg EV.cint) (by decide) (by rw [hlg.1]; lia) (by decide) hget) (AS.tup ok (by walk_at "m_puts")).toC ?_
    refine XS.asgC (EV.tup (EVs.cons (by walk_at "m_ev") (EVs.cons (by walk_at "m_ev") (EVs.cons (EV.callB (EV.bi ok (mem_lu (by kernel_rfl)) (by kernel_rfl) (by kernel_rfl)) (by walk_at "m_evs") (CS.min2 (a := o.2.2.1) (b := o.2.1 + k))) (EVs.cons (by walk_at "m_ev") (EVs.cons (EV.callB (EV.bi ok (mem_lu (by kernel_rfl)) (by kernel_rfl) (by kernel_rfl)) (by walk_at "m_evs") (CS.min2 (a := o.2.2.2.2) (b := o.2.2.2.1 + k))) EVs.nil))))) (Nat.le_of_ble_eq_true rfl))
      (ASc.subL (j := 2) (x := -1) (q := q.length) (by walk_at "m_ev") rfl (EV.neg EV.cint) rfl (by rw [hlg.1]; lia) (.inr ⟨by decide, by rw [hlg.1]; lia, by rw [hlg.1]; lia⟩)) ?_
    refine XS.norm (ggD x y z (modLast (clipR k) ml)) _ ?_ (by rw [modL_eq hm2, clipR, if_pos hb]; exact congrArg (fun l => [(⟨x, [], .dead⟩ : CellAt), ⟨y, [], .dead⟩, ⟨z, [], .list l⟩]) (set_last (o' := opL k o) hm2))
    refine XS.forget (vs' := ggW k) (by walk_at "m_at") ?_
    exact XS.nil (hP () trivial)
  · have hb : ¬ o.1 = "equal" := by simpa using hb
    refine XS.norm (ggD x y z (modLast (clipR k) ml)) (ggW k) ?_ (by rw [modL_eq hm2, clipR, if_neg hb, hm2])
    exact XS.nil (hP () trivial)
  have hcl2 : (modLast (clipR k) ml).length ≤ 201 := by rw [modL_eq hm2, List.length_append, List.length_singleton]; lia
  generalize modLast (clipR k) ml = cl at hGY hcl2 ⊢
  refine XS.asg (by assumption) (by walk_at "m_ev") (mem_lu (by kernel_rfl)) (by walk_at "m_at") ?_
  refine XS.frzL (j := 2) rfl ?_
  refine XS.drop (cs := []) (ds := [⟨x, [], .dead⟩, ⟨y, [], .dead⟩, ⟨z, [], .dead⟩]) (vs := [.unb, .int k, .list (cl.map op5), .unb, .unb, .unb, .unb, .unb, .int (k + k), .unb]) ?_
  refine XS.asgX (EVx.listC EVs.nil (hR := fun y => ⟨_, _, (ASc.name (by assumption) (mem_lu (by kernel_rfl)) (by walk_at "m_at")), ?_⟩))
  refine XS.nil ?_
  refine GE.gx (hGY _ rfl) ?_
  have hys : (groupsOf k cl).map gmv = (grpY k [] (cl.drop 0)).map gmv ++ (if okLast (grpE k [] cl) then [gmv (grpE k [] cl)] else []) := by
    unfold groupsOf; rw [List.map_append]; split <;> rfl
  rw [hys]
  refine GX.cons (GX1.forLG (σ := GgG) ggC (ggV k cl) (fun i G => (grpY k G.g (cl.drop i)).map gmv) (GgJ k cl) (items := cl.map op5) ⟨[], y, _, _, _, _, _⟩
    (by walk_at "m_ev") ?_ ⟨rfl, Nat.zero_le _⟩ ?_)
  · intro i v G hv r
    obtain ⟨t, ht, rfl⟩ := map_at5 hv
    have hml : i < cl.length := (List.getElem?_eq_some_iff.mp ht).1
    have hgl := r.l
    by_cases hc : t.1 = "equal" ∧ k + k < t.2.2.1 - t.2.1
    · have e := grp_cut (g := G.g) ht hc
      refine ⟨_, [gmv (G.g ++ [opL k t])], (grpY k [opR k t] (cl.drop (i + 1))).map gmv, congrArg (List.map gmv) e.1, AS.tup (ms := [.str t.1, .int t.2.1, .int t.2.2.1, .int t.2.2.2.1, .int t.2.2.2.2]) ok (by walk_at "m_puts"), fun PP hN => ?_⟩
      show GX _ _ _ _ _ ([gmv (G.g ++ [opL k t])] ++ []) _
      refine GX.cons (GX1.ite (TV.and (.cons (TV.eqs (a := t.1) (b := "equal") (by walk_at "m_ev") (by walk_at "m_ev")) fun e1 => .cons (TV.gt (a := t.2.2.1 - t.2.1) (b := k + k) (by walk_at "m_ev") (by walk_at "m_ev")) fun e2 => .nil)) (fun hb => ?_) (fun hb => by rw [hc.1] at hb; simp [hc.2] at hb))
      refine GX.pre 1 ?_
      refine XS.appE (j := 0) (xs := G.g.map op5) (m := .tup [.str t.1, .int t.2.1, .int (imin t.2.2.1 (t.2.1 + k)), .int t.2.2.2.1, .int (imin t.2.2.2.2 (t.2.2.2.1 + k))]) (by walk_at "m_ev") rfl
        (EV.tup (EVs.cons (by walk_at "m_ev") (EVs.cons (by walk_at "m_ev") (EVs.cons (EV.callB (EV.bi ok (mem_lu (by kernel_rfl)) (by kernel_rfl) (by kernel_rfl)) (by walk_at "m_evs") (CS.min2 (a := t.2.2.1) (b := t.2.1 + k))) (EVs.cons (by walk_at "m_ev") (EVs.cons (EV.callB (EV.bi ok (mem_lu (by kernel_rfl)) (by kernel_rfl) (by kernel_rfl)) (by walk_at "m_evs") (CS.min2 (a := t.2.2.2.2) (b := t.2.2.2.1 + k))) EVs.nil))))) (Nat.le_of_ble_eq_true rfl)) rfl (by rw [List.length_map]; lia) (map_snoc op5 G.g (opL k t)) ?_
      refine XS.frzL (j := 0) rfl ?_
      refine XS.norm [⟨G.y, [], .dead⟩] [.unb, .int k, .list (cl.map op5), .str t.1, .int t.2.1, .int t.2.2.1, .int t.2.2.2.1, .int t.2.2.2.2, .int (k + k), gmv (G.g ++ [opL k t])] ?_
      refine XS.drop (cs := []) (ds := [⟨G.y, [], .dead⟩]) ?_
      refine XS.nil ?_
      show GX _ _ _ _ _ ([gmv (G.g ++ [opL k t])] ++ []) _
      refine GX.cons (GX1.yield (by walk_at "m_ev") rfl ?_ rfl (by kernel_rfl))
      refine GX.pre 2 ?_
      refine XS.asgX (EVx.listC EVs.nil (hR := fun y' => ⟨_, _, (ASc.name (by assumption) (mem_lu (by kernel_rfl)) (by walk_at "m_at")), ?_⟩))
      refine XS.norm [⟨y', [], .list []⟩] [.unb, .int k, .list (cl.map op5), .str t.1, .int t.2.1, .int t.2.2.1, .int t.2.2.2.1, .int t.2.2.2.2, .int (k + k), .cell 0] ?_
      refine XS.asgSw ok (names := ["i1", "j1"]) (ms := [.int (imax t.2.1 (t.2.2.1 - k)), .int (imax t.2.2.2.1 (t.2.2.2.2 - k))]) (EV.tup (EVs.cons (EV.callB (EV.bi ok (mem_lu (by kernel_rfl)) (by kernel_rfl) (by kernel_rfl)) (by walk_at "m_evs") (CS.max2 (a := t.2.1) (b := t.2.2.1 - k))) (EVs.cons (EV.callB (EV.bi ok (mem_lu (by kernel_rfl)) (by kernel_rfl) (by kernel_rfl)) (by walk_at "m_evs") (CS.max2 (a := t.2.2.2.1) (b := t.2.2.2.2 - k))) EVs.nil)) (Nat.le_of_ble_eq_true rfl)) (by kernel_rfl) rfl (by walk_at "m_putn") ?_
      refine XS.nil (GX.nil ?_)
      refine GX.pre 1 ?_
      refine XS.app (j := 0) (xs := []) (m := .tup [.str t.1, .int (imax t.2.1 (t.2.2.1 - k)), .int t.2.2.1, .int (imax t.2.2.2.1 (t.2.2.2.2 - k)), .int t.2.2.2.2]) (by walk_at "m_ev") rfl (by walk_at "m_ev") rfl (Nat.zero_le _) ?_
      exact XS.nil (GX.nil (hN ⟨[opR k t], y', _, _, _, _, _⟩ ⟨e.2.symm.trans r.e, Nat.succ_le_succ (Nat.zero_le _)⟩ rfl).1)
    · have e := grp_on (g := G.g) ht hc
      refine ⟨_, [], (grpY k (G.g ++ [t]) (cl.drop (i + 1))).map gmv, congrArg (List.map gmv) e.1, AS.tup (ms := [.str t.1, .int t.2.1, .int t.2.2.1, .int t.2.2.2.1, .int t.2.2.2.2]) ok (by walk_at "m_puts"), fun PP hN => ?_⟩
      show GX _ _ _ _ _ ([] ++ []) _
      refine GX.cons (GX1.ite (TV.and (.cons (TV.eqs (a := t.1) (b := "equal") (by walk_at "m_ev") (by walk_at "m_ev")) fun e1 => .cons (TV.gt (a := t.2.2.1 - t.2.1) (b := k + k) (by walk_at "m_ev") (by walk_at "m_ev")) fun e2 => .nil)) (fun hb => ?_) (fun hb => ?_))
      · simp only [Bool.and_eq_true, beq_iff_eq, decide_eq_true_eq, and_true] at hb
        exact absurd hb hc
      · refine GX.nil ?_
        refine GX.pre 1 ?_
        refine XS.appE (j := 0) (xs := G.g.map op5) (m := .tup [.str t.1, .int t.2.1, .int t.2.2.1, .int t.2.2.2.1, .int t.2.2.2.2]) (by walk_at "m_ev") rfl (by walk_at "m_ev") rfl (by rw [List.length_map]; lia) (map_snoc op5 G.g t) ?_
        exact XS.nil (GX.nil (hN ⟨G.g ++ [t], G.y, _, _, _, _, _⟩ ⟨e.2.symm.trans r.e, by rw [List.length_append, List.length_singleton]; exact Nat.succ_le_succ hgl⟩ rfl).1)
  · intro G r
    have hE := r.e; have hgl := r.l
    rw [List.length_map] at hgl
    rw [List.length_map, List.drop_length] at hE ⊢
    refine ⟨rfl, ?_⟩
    rw [← hE]
    show GX _ _ _ _ _ (if okLast G.g = true then [gmv G.g] else []) _
    refine GX.pre 0 ?_
    refine XS.forget (vs' := [.unb, .int k, .list (cl.map op5), .unb, .unb, .unb, .unb, .unb, .int (k + k), .cell 0]) (by walk_at "m_at") ?_
    refine XS.frzL (j := 0) rfl ?_
    refine XS.norm [⟨G.y, [], .dead⟩] [.unb, .int k, .list (cl.map op5), .unb, .unb, .unb, .unb, .unb, .int (k + k), .list (G.g.map op5)] ?_
    refine XS.drop (cs := []) (ds := [⟨G.y, [], .dead⟩]) ?_
    refine XS.nil ?_
    rw [← List.append_nil (if okLast G.g = true then [gmv G.g] else [])]
    refine GX.cons (GX1.ite (b := okLast G.g) (okLast_eq G.g ▸ ?_) (fun hb => ?_) (fun hb => ?_))
    · refine TV.and (.cons (TV.list (xs := G.g.map op5) (by walk_at "m_ev") (by rw [List.length_map]; lia)) fun e1 => .cons (TV.not (TV.and (.cons (TV.eqi (EV.callB (EV.bi ok (mem_lu (by kernel_rfl)) (by kernel_rfl) (by kernel_rfl)) (by walk_at "m_evs") (CS.lenL (xs := G.g.map op5) (by rw [List.length_map]; lia))) (by walk_at "m_ev")) fun e2 =>
        .cons (TV.eqs (EV.itemT (xs := [.str (G.g.headD ("", 0, 0, 0, 0)).1, .int (G.g.headD ("", 0, 0, 0, 0)).2.1, .int (G.g.headD ("", 0, 0, 0, 0)).2.2.1, .int (G.g.headD ("", 0, 0, 0, 0)).2.2.2.1, .int (G.g.headD ("", 0, 0, 0, 0)).2.2.2.2]) (k := 0) (EV.itemL (xs := G.g.map op5) (k := 0) (by walk_at "m_ev") (by walk_at "m_ev") (by decide) (by decide) (head_get e1)) (by walk_at "m_ev") (by decide) (by decide) rfl) (by walk_at "m_ev")) fun _ => .nil))) fun _ => .nil)
    · rw [if_pos hb]
      show GX _ _ _ _ _ ([MV.list (G.g.map op5)] ++ []) _
      exact GX.cons (GX1.yield (by walk_at "m_ev") rfl (GX.nil (GX.nil (.inl rfl))) rfl (by kernel_rfl))
    · rw [if_neg (by rw [hb]; decide)]
      exact GX.nil (GX.nil (.inl rfl))
end
end
open PySem PySem.W PySem.W.X PyProof.Rows
section
set_option Elab.async false
set_option linter.unusedVariables false
set_option maxRecDepth 100000
theorem letGo_tup {t : Expr} {it l : Addr} {i : Nat} {v : Value} {A : Around} {w : World} {Q : Unit → Shared → Prop} {E : Value → Shared → Prop} {s : Shared} (hit : s.heap.IsTupleIter it l i) (hQ : Q () s) : wpAny (model pw w) A (letOwnedTupleGo t (.ref it) v) Q E s := by
  obtain ⟨o, e, hc, hd⟩ := hit
  cases t with
  | Tuple es k p =>
    cases v with
    | ref a =>
      unfold letOwnedTupleGo
      refine wpAny_bind (wpAny_load e ?_)
      rw [hc, hd]
      exact wpAny_pure hQ
    | _ => exact wpAny_pure hQ
  | List es p =>
    cases v with
    | ref a =>
      unfold letOwnedTupleGo
      refine wpAny_bind (wpAny_load e ?_)
      rw [hc, hd]
      exact wpAny_pure hQ
    | _ => exact wpAny_pure hQ
  | _ => exact wpAny_pure hQ
section
variable {c : Cx} {n : Nat} {cs : List CellAt} {vs : List MV} {r : List Stmt} {k : List (List Stmt)} {P : Fl → List CellAt → List MV → Prop}
theorem CS.isStr {x : Str} : CS c n cs vs (.builtin "isinstance") [.str x, .val (.type "str")] (.bool true) := .mk fun A K F s Q us hA S d hQ => by
  apply d.consI; intro _ _ d1 d2
  apply d2.consI; intro _ _ d2 d3
  apply d3.nilI; apply d1.strI; intro _; apply d2.valI
  exact call_isinstance (isinstance_true (Tx := "str") (by rfl) (by rfl)) ⟨rfl, hQ F _ s (PH.le.refl _) S (.bool _)⟩
/-- a for over a tuple -/
theorem EX1.forT {t iter : Expr} {body : List Stmt} {pos : Pos} {items : List MV} {P : Fl → List CellAt → List MV → Prop} (I : Nat → List CellAt → List MV → Prop) (hi : EV c n cs vs iter (.tup items))
    (turn : ∀ i x cs vs, items[i]? = some x → I i cs vs → ∃ vs1, AS c n cs vs t x vs1 ∧ EX c n cs vs1 body (fun fl cs' vs' => match fl with | .next | .cont => I (i + 1) cs' vs' | .brk => P .next cs' vs' | .ret r => P (.ret r) cs' vs'))
    (h0 : I 0 cs vs) (hend : ∀ cs' vs', I items.length cs' vs' → P .next cs' vs')
    (hs : ∀ x, foldedSetIterable iter c.env x = pure x := by intro _; kernel_rfl) : EX1 c n cs vs (.For t iter body [] pos) P := .mk fun A K F s Q hA hS hQ => by
  refine wpAny_For (hi.go A K F s _ hA hS fun F1 v s1 l1 S1 d1 => ?_) hs
  apply d1.tupI; intro l o us e q d
  refine wpAny_pyIter_tuple (q.isTup (S1.fz _ _ e)) ?_
  have hf := S1.free (get_of_ge (Nat.le_refl s1.heap.objs.size))
  have S2 := S1.push { cls := .type "tuple_iterator", data := .fields #[.ref l, .int 0 0] } s1.toks
  have hit0 := Heap.get?_push_size s1.heap (o := { cls := .type "tuple_iterator", data := .fields #[.ref l, .int 0 0] }) rfl
  generalize s1.heap.objs.size = it at hf hit0 ⊢
  refine for_turns items.length (fun i o => o.cls = .type "tuple_iterator" ∧ o.data = .fields #[.ref l, .int i 0]) (fun i => items[i]?.getD .unb) I hA (fun F' f s' fl cs' vs' l => hQ F' f s' fl cs' vs' (l1.trans l)) (fun i cs vs hi => turn i _ cs vs (by rw [List.getElem?_eq_getElem hi]; rfl)) hend
    (fun i s3 oi G E hi lz ei hT hG => ?_) (fun s3 oi G E lz ei hT hG => ?_) S2 hf ⟨_, hit0, rfl, rfl⟩ h0
  · obtain ⟨v, hv, dv⟩ := d.get (List.getElem?_eq_getElem hi)
    refine wpAny_pyNext_tuple_item ⟨oi, ei, hT.1, hT.2⟩ (q.isTup (lz _ _ e)) (toList_get hv) fun h' ⟨oj, ej, cj, dj⟩ hs4 => ?_
    exact hG h' s3.toks v oj ej ⟨cj, dj⟩ (fun a o ha' e' => (hs4.2 a ha').trans e') (by rw [List.getElem?_eq_getElem hi]; exact dv) fun s Q E' e' hq => letGo_tup (l := l) (i := i + 1) ⟨oj, e', cj, dj⟩ hq
  · exact wpAny_pyNext_tuple_end hA.handled ⟨oi, ei, hT.1, hT.2⟩ (q.isTup (lz _ _ e)) (by rw [← Array.getElem?_toList]; exact List.getElem?_eq_none (by rw [← d.length]; exact Nat.le_refl _)) fun h' hs4 => hG h' fun a o ha' e' => hs4 a o ha' e'
theorem XS.forT {t iter : Expr} {body : List Stmt} {pos : Pos} {items : List MV} (I : Nat → List CellAt → List MV → Prop) (B : List CellAt → List MV → Prop) (hi : EV c n cs vs iter (.tup items)) (h0 : I 0 cs vs)
    (hend : ∀ cs' vs', I items.length cs' vs' → B cs' vs') (hB : ∀ cs' vs', B cs' vs' → XS c n cs' vs' (r :: k) P)
    (turn : ∀ i x cs vs, items[i]? = some x → I i cs vs → ∃ vs1, AS c n cs vs t x vs1 ∧ XS c n cs vs1 [body] (LoopP (I (i + 1)) B (fun m => P (.ret m))))
    (hs : ∀ x, foldedSetIterable iter c.env x = pure x := by intro _; kernel_rfl) : XS c n cs vs ((.For t iter body [] pos :: r) :: k) P :=
  XS.cons (EX1.forT I hi (fun i x cs vs hx hI => by
    obtain ⟨vs1, h1, h2⟩ := turn i x cs vs hx hI
    refine ⟨vs1, h1, EX.mono (XS.of h2) fun fl cs' vs' p => ?_⟩
    cases fl with
    | next => exact p
    | cont => exact p
    | brk => exact hB _ _ p
    | ret m => exact p) h0 (fun cs' vs' hI => hB _ _ (hend _ _ hI)) hs)
end
end
open PySem PySem.W PySem.W.X PyProof.Rows
section
set_option Elab.async false
set_option linter.unusedVariables false
set_option maxRecDepth 100000
section
variable {w : World} {K : Kp} {F : PH} {cs : List CellAt} {s : Shared}
theorem call_fnV {a cc : Addr} {o : Obj} (f : IsFn w a cc o) (hgen : (funcOf o).scope.isGenerator = false) {n : Nat} {A : Around} {args : Args} {ps : List Str} {ms : List MV} {rest : List Str} {R : Result → Shared → Prop}
    (hA : Room (n + 1) A) (hS : SF w K F cs s)
    (hb : ∀ (Q : List (Str × Value) → Shared → Prop), (∀ F' us s', PH.le F F' → SF w K F' cs s' → DVs w F' (adrs cs) ms us → ps.length = us.length → Q (ps.zip us) s') → wpAny (model pw w) A.in1 (bindArgs (funcOf o) args) Q (fun e s' => R (.error e) s') s)
    (hnd : ps.Nodup) (hloc : ∀ x ∈ ps, (x, NameKind.local) ∈ (funcOf o).scope.names) (hndk : ((funcOf o).scope.names.map (·.1)).Nodup)
    (h : ∀ F' L s', PH.le F F' → St w K F' cs L (ps ++ rest) (ms ++ List.replicate rest.length .unb) s' → 
      wpAny (model pw w) (A.deeper (FnCx w a o L (ps ++ rest)).env) (execs (bodyOf o) (FnCx w a o L (ps ++ rest)).env) (fun fl s' => R (.ok (.ret (match fl with | .ret v => v | _ => .none))) s') NoE s') :
    codeAny (model pw w) A (.call (.ref a) args) R s := by
  refine codeAny_call_function (by have := hA.depth; omega) (f.obj hS) f.isf f.cor hgen f.body (f.codeRec hS) (hb _ fun F' us s' lF hS' hd hlen => ?_)
  refine wpAny_newFunctionEnv f.nocell (fun x hx => lookup_mem2 (hloc x.1 ((List.of_mem_zip (a := x.1) (b := x.2) hx).1)) hndk) (fun h' hn hs => ?_) f.kind
  have hsz : s'.heap.get? s'.heap.objs.size = none := get_of_ge (Nat.le_refl _)
  have hS1 : SF w K F' cs { s' with heap := h', toks := s'.toks + (ps.zip us).length } := by
    refine hS'.ext (fun b x e => ?_) rfl rfl
    exact (hs.2 b (Nat.ne_of_lt (Heap.lt_size e))).trans (Heap.get?_push_of_some _ e)
  obtain ⟨x1, x2, x3⟩ := hS'.fresh hsz
  refine ⟨hS1.noLimit, ?_⟩
  have henv : newEnv (funcOf o).scope s'.heap.objs.size (funcOf o).globals (funcOf o).closure ((funcOf o).qualname ++ ".<locals>.") (some a) (funcOf o).code none (funcOf o).builtins = (FnCx w a o s'.heap.objs.size (ps ++ rest)).env := by
    rw [f.glob, f.clos, f.bi]; rfl
  rw [henv]
  refine codeAny_func (wpAny_noE (h F' s'.heap.objs.size _ lF ⟨hS1, ⟨_, hn, fun x mv ha hu => ?_⟩, x3, x1, x2⟩))
  have hl2 : ps.length = ms.length := by rw [hd.length]; exact hlen
  rcases ha.app hl2 with ha | ha
  · exact lookup_zip hnd hd ha
  · exact absurd ha.unbs hu
end
section
variable {w : World} {n : Nat} {cs : List CellAt} {vs : List MV}
theorem CF.fnV {a cc : Addr} {o : Obj} (f : IsFn w a cc o) (hok : fnOk o = true) (hgen : (funcOf o).scope.isGenerator = false) (ps rest xs0 : List Str) {ms dms vs0 : List MV} {R : MV → List CellAt → Prop}
    (hb : ∀ (A : Around) (K : Kp) (F : PH) (s : Shared) (us : List Value) (Q : List (Str × Value) → Shared → Prop) (E : Value → Shared → Prop), SF w K F cs s → DVs w F (adrs cs) ms us →
      (∀ F' us' s', PH.le F F' → SF w K F' cs s' → DVs w F' (adrs cs) dms us' → Q (ps.zip us') s') → wpAny (model pw w) A (bindArgs (funcOf o) ⟨us, []⟩) Q E s) (hlen : ps.length = dms.length) (hxs : ps ++ rest = xs0) (hvs : dms ++ List.replicate rest.length .unb = vs0) (hnd : xs0.Nodup)
    (hloc : ps.all (fun x => match (funcOf o).scope.names.lookup x with | some .local => true | _ => false) = true)
    (h : ∀ L P, CxOk (FnCx w a o L xs0) → (∀ m cs' vs', asLe (adrs cs) (adrs cs') → R m cs' → P (.ret m) cs' vs') → (∀ cs' vs', asLe (adrs cs) (adrs cs') → R .none cs' → P .next cs' vs') → XS (FnCx w a o L xs0) n cs vs0 [bodyOf o] P) : CF w (n + 1) cs (.ref a) ms R := .mk fun A K F s Q us hA S d hQ => by
  have hx := fun L => XS.of (h L (fun fl cs' _ => asLe (adrs cs) (adrs cs') ∧ ∃ m, (fl = .ret m ∨ (fl = .next ∧ m = .none)) ∧ R m cs') (f.ok hok hnd) (fun m cs' vs' ha hr => ⟨ha, m, .inl rfl, hr⟩) (fun cs' vs' ha hr => ⟨ha, .none, .inr ⟨rfl, rfl⟩, hr⟩))
  subst hxs; subst hvs
  refine wpAny_call (call_fnV f hgen (n := n) hA S (ps := ps) (ms := dms) (rest := rest) (fun Q' hQ' => hb _ K F s us Q' _ S d fun F' us' s' l S' d' => hQ' F' us' s' l S' d' (by rw [hlen, d'.length])) (List.nodup_append.mp hnd).1 (fun x hx => by
    have := List.all_eq_true.mp hloc x hx
    refine mem_lu ?_
    cases q : (funcOf o).scope.names.lookup x with
    | none => rw [q] at this; cases this
    | some kd => rw [q] at this; cases kd <;> first | rfl | cases this) (fnOk.nd hok) fun F1 L s1 l1 S2 => ?_)
  refine (hx L).go _ K F1 s1 _ ⟨hA.handled, by have := hA.depth; show A.depth + 1 + n ≤ _; omega, by have := hA.units; show A.units + 3 + 10 * n ≤ _; omega⟩ S2 fun F' fl s2 fl' cs' vs' l S3 r p => ?_
  obtain ⟨ha, m, hm, p⟩ := p
  have S4 := S3.toSF
  rcases hm with rfl | ⟨rfl, rfl⟩
  · cases r with
    | ret dv => exact hQ F' _ s2 m cs' (l1.trans l) S4 dv ha p
  · cases r with
    | next => exact hQ F' _ s2 .none cs' (l1.trans l) S4 .none ha p
end
end
open PySem PySem.W PySem.W.X PyProof.Rows
section
set_option Elab.async false
set_option linter.unusedVariables false
set_option maxRecDepth 100000
set_option maxHeartbeats 1000000

theorem fn268 (w : World) : IsFn w 268 267 (B.o_415 w.params) := IsFn.of (oc := B.o_414 w.params) (by kernel_rfl) (isTop (by kernel_rfl)) rfl (isTop (by kernel_rfl)) rfl rfl
theorem ok268 (P : Params) : fnOk (B.o_415 P) = true := by kernel_rfl
theorem bind268 (P : Params) (x1 x2 x3 x4 x5 x6 x7 : Value) : bindArgs (funcOf (B.o_415 P)) ⟨[x1, x2, x3, x4, x5, x6, x7], []⟩ = (newTuple [x3, x4, x5, x6, x7] >>= fun t => pure [((Str.ofString "a"), x1), ((Str.ofString "b"), x2), ((Str.ofString "args"), t)]) := by kernel_rfl
section
variable {w : World} {n : Nat}
theorem CF.ckt {a b : List Str} {s1 s2 s3 s4 s5 : Str} (hza : a.length ≤ 100) (hz : b.length ≤ 100) :
    CF w (n + 1) [] (.ref 268) [mstrs a, mstrs b, .str s1, .str s2, .str s3, .str s4, .str s5] (fun m cs' => m = .none ∧ cs' = []) := by
  refine CF.fnV (n := n) (dms := [mstrs a, mstrs b, .tup [.str s1, .str s2, .str s3, .str s4, .str s5]]) (vs0 := [mstrs a, mstrs b, .tup [.str s1, .str s2, .str s3, .str s4, .str s5], .unb]) (fn268 w) (ok268 _) rfl ["a", "b", "args"] ["arg"]
    ["a", "b", "args", "arg"] ?_ rfl rfl rfl (by decide) (by kernel_rfl) fun L P ok _ hR => ?_
  · intro A K F s us Q E S d hQ
    apply d.consI; intro x1 _ d1 d
    apply d.consI; intro x2 _ d2 d
    apply d.consI; intro x3 _ d3 d
    apply d.consI; intro x4 _ d4 d
    apply d.consI; intro x5 _ d5 d
    apply d.consI; intro x6 _ d6 d
    apply d.consI; intro x7 _ d7 d
    apply d.nilI
    rw [bind268]
    obtain ⟨y1, y2, y3⟩ := S.fresh (get_of_ge (Nat.le_refl s.heap.objs.size))
    have S2 := (S.ext (s' := { s with heap := s.heap.push { cls := .type "tuple", data := .seq #[x3, x4, x5, x6, x7] } }) (Keep.push _ _) rfl rfl).grow y1 y2 y3 (Heap.get?_push_size _ rfl)
    have l2 := PH.le_ins (o := { cls := .type "tuple", data := .seq #[x3, x4, x5, x6, x7] }) y1
    exact wpAny_bind (wpAny_newTuple (wpAny_pure (hQ _ [x1, x2, .ref s.heap.objs.size] _ l2 S2
      (.cons (d1.mono l2 (asLe.refl _)) (.cons (d2.mono l2 (asLe.refl _)) (.cons (.tup (PH.ins_self _ _ _) ⟨rfl, rfl, rfl, _, rfl⟩ ((DVs.pure (.cons d3 (.cons d4 (.cons d5 (.cons d6 (.cons d7 .nil))))) rfl).mono l2 (asLe.refl _))) .nil))))) (Nat.le_of_ble_eq_true (by kernel_rfl)))
  have hR := fun vs' => hR [] vs' (asLe.refl _) ⟨rfl, rfl⟩
  refine XS.ite (b := false) ?_ (fun h => nomatch h) (fun _ => XS.nil ?_)
  · have e : false = ((!(a.map MV.str).isEmpty) && (!true && true)) := by simp
    rw [e]
    refine TV.and (.cons (TV.list (xs := a.map .str) (by walk_at "m_ev") (by rw [List.length_map]; lia)) fun e1 => .cons (TV.not (TV.bool (EV.callB (EV.bi ok (mem_lu (by kernel_rfl)) (by kernel_rfl) (by kernel_rfl)) (EVs.cons (EV.itemL (xs := a.map .str) (k := 0) (mv := .str (a[0]?.getD Str.empty)) (by walk_at "m_ev") (by walk_at "m_ev") (by decide) (by decide) ?_) (EVs.cons (EV.bi ok (mem_lu (by kernel_rfl)) (by kernel_rfl) (by kernel_rfl)) EVs.nil)) CS.isStr))) fun _ => .nil)
    cases a with
    | nil => simp at e1
    | cons x r => rfl
  refine XS.ite (b := false) ?_ (fun h => nomatch h) (fun _ => XS.nil ?_)
  · have e : false = ((!(b.map MV.str).isEmpty) && (!true && true)) := by simp
    rw [e]
    refine TV.and (.cons (TV.list (xs := b.map .str) (by walk_at "m_ev") (by rw [List.length_map]; lia)) fun e1 => .cons (TV.not (TV.bool (EV.callB (EV.bi ok (mem_lu (by kernel_rfl)) (by kernel_rfl) (by kernel_rfl)) (EVs.cons (EV.itemL (xs := b.map .str) (k := 0) (mv := .str (b[0]?.getD Str.empty)) (by walk_at "m_ev") (by walk_at "m_ev") (by decide) (by decide) ?_) (EVs.cons (EV.bi ok (mem_lu (by kernel_rfl)) (by kernel_rfl) (by kernel_rfl)) EVs.nil)) CS.isStr))) fun _ => .nil)
    cases b with
    | nil => simp at e1
    | cons x r => rfl
  refine XS.forT (items := [.str s1, .str s2, .str s3, .str s4, .str s5]) (fun i cs' vs' => ∃ f, cs' = [] ∧ vs' = [mstrs a, mstrs b, .tup [.str s1, .str s2, .str s3, .str s4, .str s5], f])
    (fun cs' vs' => cs' = []) (by walk_at "m_ev") ⟨_, rfl, rfl⟩ (fun cs' vs' ⟨_, h, _⟩ => h) (fun cs' vs' h => ?_) ?_
  · subst h; exact XS.nil (hR vs')
  · rintro i x cs' vs' hx ⟨f, rfl, rfl⟩
    obtain ⟨y, rfl⟩ : ∃ y, x = .str y := by
      have := List.mem_of_getElem? hx
      simp only [List.mem_cons, List.not_mem_nil, or_false] at this
      rcases this with rfl | rfl | rfl | rfl | rfl <;> exact ⟨_, rfl⟩
    refine ⟨_, AS.name ok (mem_lu (by kernel_rfl)) (by walk_at "m_at"), ?_⟩
    refine XS.ite (b := !true) (TV.not (TV.bool (EV.callB (EV.bi ok (mem_lu (by kernel_rfl)) (by kernel_rfl) (by kernel_rfl)) (EVs.cons (by walk_at "m_ev") (EVs.cons (EV.bi ok (mem_lu (by kernel_rfl)) (by kernel_rfl) (by kernel_rfl)) EVs.nil)) CS.isStr))) (fun h => nomatch h) (fun _ => XS.nil (XS.nil ⟨_, rfl, rfl⟩))
end
end
open PySem PySem.W PySem.W.X PyProof.Rows
section
set_option Elab.async false
set_option linter.unusedVariables false
set_option maxRecDepth 100000
section
variable {c : Cx} {n : Nat} {cs : List CellAt} {vs : List MV}
theorem set_unled {w : World} {A : Around} {E : Value → Shared → Prop} {s : Shared} {S : Str → Bool} {n : Nat} {sa : Addr} {Q : Unit → Shared → Prop} (hS : s.heap.SetOf (strKind pw w) sa S n) (hb : n < scanBound)
    (h : ∀ h', Heap.SameBut sa s.heap h' → h'.SetOf (strKind pw w) sa S n → Q () { s with heap := h' }) : wpAny (model pw w) A (setUnled sa) Q E s := by
  obtain ⟨o, es, ep, t, ho, hex, hd, hel, hmem, hb0, hf, hn⟩ := hS
  have hb' : es.size < scanBound := by rw [hn]; exact hb
  have hf' : ({ t with led := false } : SetTable).fits es.size = true := by cases t; exact hf
  unfold setUnled
  refine wpAny_bind (wpAny_setState_of ho hd hf ?_)
  dsimp only
  refine wpAny_storeSet_of ho hd ?_ (fits_of_scanBound hb')
  obtain ⟨_, hS⟩ := SetOf_store (knd := strKind pw w) ho hex hd hel hmem hb' hf'
  rw [hn] at hS
  exact h _ (Heap.SameBut.update s.heap sa (Obj.putSet es { t with led := false })) hS
theorem set_add {A : Around} {K : Kp} {F : PH} {s : Shared} {E : Value → Shared → Prop} {S : Str → Bool} {m : Nat} {sa : Addr} {x : Str} {t : Tok} {Q : Bool → Shared → Prop} (S1 : St c.w K F cs c.L c.xs vs s) (f : Free K F cs c.L sa) (hS : s.heap.SetOf (strKind pw c.w) sa S m) (hb : m + 1 < scanBound)
    (h : ∀ s', St c.w K F cs c.L c.xs vs s' → s'.heap.SetOf (strKind pw c.w) sa (fun k' => S k' || decide (k' = x)) (if S x then m else m + 1) → Q (!S x) s') : wpAny (model pw c.w) A (setAdd sa (.str x t)) Q E s := by
  unfold setAdd
  refine wpAny_holding (wpAny_bind ((strKind pw c.w).pyHash (k := x) (strKind_is _ _ _ _) ?_))
  refine wpAny_setAddHashed_of (s := { s with toks := s.toks + 1 }) (strKind_is _ _ x _) rfl hS hb fun h' hsb hS' => ?_
  exact h _ (S1.sameBut (h' := h') (t := s.toks + 1) f fun a o ha e => (hsb.2 a ha).trans e) hS'
/-- x in {c1, c2}, signs of two texts -/
theorem TV.inSet2 {l : Expr} {p1 p2 ps pos : Pos} {k1 k2 : Nat} {y x1 x2 : Str} (hl : EV c n cs vs l (.str y)) (hne : x1 ≠ x2) (hm : behindInMarks .In (.Set [.Constant (.str x1) k1 p1, .Constant (.str x2) k2 p2] 0 ps) = true := by kernel_rfl)
    (hc : kdsCode (KF c.w.params) c.env.code = true := by kernel_rfl) : TV c n cs vs (.Compare l [.In] [.Set [.Constant (.str x1) k1 p1, .Constant (.str x2) k2 p2] 0 ps] pos) (decide (y = x1) || decide (y = x2)) := .mk fun A K F s Q hA hS hQ => by
  refine kdi_test hm (hl.go A K F s _ hA hS fun F1 u s1 l1 S1 d1 => ?_)
  apply d1.strI; intro _
  rw [arm_eval_Set]
  refine wpAny_bind (wpAny_standAt ?_)
  refine wpAny_bind (kds_main S1.toSF.kf hc fun b => ?_)
  rw [kds_star _ rfl, List.map_map]
  refine kds_core (ts := (evalEach [.Constant (.str x1) k1 p1, .Constant (.str x2) k2 p2] c.env).map fun t => do let v ← t; standAt ps; pure v) rfl ?_ ?_ ?_ fun led => ?_
  · refine List.findIdx?_eq_none_iff.mpr fun x hx => ?_
    obtain ⟨t, _, rfl⟩ := List.mem_map.mp hx
    rfl
  · rw [List.length_map, kds_len]; exact Nat.le_of_ble_eq_true rfl
  · rw [List.map_map]; rfl
  · refine kds_all ps _ _ _ ?_
    have hn : s1.heap.get? s1.heap.objs.size = Option.none := get_of_ge (Nat.le_refl _)
    have f1 := S1.free hn
    have S2 := S1.push { cls := .type "set", dict := Option.none, data := .set #[] 0 (.fresh 0 0 led) } s1.toks
    have g2 : (s1.heap.push { cls := .type "set", dict := Option.none, data := .set #[] 0 (.fresh 0 0 led) }).get? s1.heap.objs.size = some { cls := .type "set", dict := Option.none, data := .set #[] 0 (.fresh 0 0 led) } := Heap.get?_push_size _ rfl
    generalize s1.heap.objs.size = sa at f1 g2 ⊢
    refine (EV.cstr (c := c) (n := n) (cs := cs) (vs := vs)).go A _ F1 _ _ hA (S2.hold f1 g2) fun F2 v2 s2 l2 S3 e2 => ?_
    apply e2.strI; intro _
    refine (EV.cstr (c := c) (n := n) (cs := cs) (vs := vs)).go A _ F2 _ _ hA S3 fun F3 v3 s3 l3 S4 e3 => ?_
    apply e3.strI; intro _
    obtain ⟨S5, f5, g5⟩ := S4.unhold f1.b
    have h5 : s3.heap.SetOf (strKind pw c.w) sa (fun _ => false) 0 := (setObjOf_fresh led).setOf g5 (by decide)
    refine kds_fill_cons (set_add S5 f5 h5 (by decide) fun s6 S6 h6 => ?_)
    refine kds_fill_cons (set_add S6 f5 h6 (by decide) fun s7 S7 h7 => ?_)
    refine kds_fill_nil rfl ?_
    have hz : (if ((fun k' : Str => false || decide (k' = x1)) x2) = true then (if (false = true) then 0 else 0 + 1) else (if (false = true) then 0 else 0 + 1) + 1) = 2 := by
      have : decide (x2 = x1) = false := decide_eq_false (Ne.symm hne)
      simp [this]
    rw [hz] at h7
    refine kdi_mark (set_unled h7 (by decide) fun h' hsb h8 => ?_)
    have S8 := S7.sameBut (h' := h') (t := s7.toks) f5 fun a o ha e => (hsb.2 a ha).trans e
    refine wpAny_inSet_of (strKind_is _ _ y _) rfl h8 ?_
    refine wpAny_truthy_bool ?_
    have := hQ F3 _ (l1.trans (l2.trans l3)) (S8.toks (s7.toks + 1))
    simpa using this
end
end
open PySem PySem.W PySem.W.X PyProof.Rows
section
set_option Elab.async false
set_option linter.unusedVariables false
set_option maxRecDepth 100000
section
variable {c : Cx} {n : Nat} {vs : List MV}
theorem bind218 (P : Params) (S : Setting) (x1 x2 : Value) : peek [(211, B.o_284 P)] S (bindArgs (funcOf (B.o_291 P)) ⟨[x1, x2], []⟩) = some [(Str.ofString "self", x1), (Str.ofString "n", x2)] := by kernel_rfl
theorem EVGX.sm {o e : Expr} {apos pos : Pos} {a b : List Str} {k : Int} (hza : a.length ≤ 60) (hz : b.length ≤ 100) (ho : EVx c (n + 13) [] vs o (fun m cs' => m = .cell 0 ∧ ∃ x d, cs' = [smCell x d a b])) (ha : ∀ cs, EV c (n + 13) cs vs e (.int k)) (hnc : vs.all MV.nc = true)
    (hbo : ∀ x, attributeBase o "get_grouped_opcodes" c.env x = x := by intro _; kernel_rfl) (hfo : methodCallForm ([e].length + 0) (backTo pos (starEach [e] c.env)) [] = true := by kernel_rfl) (hlo : (apos.endLine == pos.line) = true := by kernel_rfl)
    (he : starEach [e] c.env = (false, eval e c.env) :: starEach [] c.env := by kernel_rfl) (hp : (backTo pos (starEach [e] c.env)).any (·.1) = false := by kernel_rfl) :
    EVGX c (n + 13) (n + 11) vs (.Call (.Attribute o "get_grouped_opcodes" apos) [e] [] pos) (GrpY a b k) := .mk fun A K F s Q hA hS hQ => by
  have he1 := eval_meth o "get_grouped_opcodes" apos pos [e] c.env hbo hfo hlo
  refine PyProof.Rows.MethodCall_ (ho.go A K F s _ hA hS fun F1 u s1 m1 cs1 l1 S1 d1 a1 p1 => ?_) he1
  obtain ⟨rfl, x, d, rfl⟩ := p1
  have hg : GMv c [smCell x d a b] vs (.cell 0) "get_grouped_opcodes" (.ref 218) [.cell 0] := GMv.instF (fn218 c.w) rfl rfl (by kernel_rfl) (by decide) (by kernel_rfl)
  refine hg.go A K F1 s1 _ u _ S1 d1 fun fs s2 S2 d2 => ?_
  refine ((fn218 c.w).callee S2.toSF).go (w := c.w) (env := c.env) hp ?_
  have := (EVs.cons (ha _) EVs.nil he).go pos A K F1 s2 (fun us s3 => PH.le F1 s3.heap.get? ∧ wpAny (model pw c.w) A (PySem.call (.ref 218) (fs ++ us)) Q NoE s3) hA S2 fun F2 us s3 l2 S3 d3 => ⟨fun a o q => S3.fz a o (l2 a o q), ?_⟩
  · rw [he] at this ⊢
    exact Calls.evalArgs_plain (wpAny_mono this (fun us s' ⟨x, y⟩ => ⟨x, rfl, y⟩) fun _ _ x => x)
  have dd := (d2.mono l2 (asLe.refl _)).append d3
  have hfr : Frag.In [(211, B.o_284 c.w.params)] s3.heap := frag_in (fun p hp => by rw [List.mem_singleton.mp hp]; exact isTop (by kernel_rfl)) S3.toSF
  generalize fs ++ us = args at dd ⊢
  obtain ⟨x1, x2, rfl⟩ : ∃ x1 x2, args = [x1, x2] := by
    apply dd.consI; intro _ _ e1 dd
    apply dd.consI; intro _ _ e2 dd
    apply dd.nilI; exact ⟨_, _, rfl⟩
  refine wpAny_call (call_genX (fn218 c.w) rfl rfl (n := n + 10) (ps := ["self", "n"]) (us := [x1, x2]) (ms := [.cell 0, .int k]) (rest := ["codes", "tag", "i1", "i2", "j1", "j2", "nn", "group"]) (Y := GrpY a b k) (by have := hA.depth; lia) S3 (fun v hv => List.all_eq_true.mp hnc v hv)
    (fun Q' hQ' => kp_binds hfr (fun S => bind218 _ S x1 x2) _ _ _ _ hQ') dd rfl (by decide) ?_ (fnOk.nd (ok218 _)) (fun L => GE.ggo (n := n) (x := x) (d := d) hza hz) fun F' v s' g gs H l S' ap hHg dv live => ?_)
  · intro x hx
    rcases List.mem_cons.mp hx with rfl | hx
    · exact mem_lu (by kernel_rfl)
    · rw [List.mem_singleton.mp hx]; exact mem_lu (by kernel_rfl)
  · exact hQ F' v s' g gs H (l1.trans (l2.trans l)) S' ap hHg dv live
end
end
open PySem PySem.W PySem.W.X PyProof.Rows
section
set_option Elab.async false
set_option linter.unusedVariables false
set_option maxRecDepth 100000
noncomputable def sl {α : Type} (xs : List α) (i j : Int) : List α := (xs.drop (kms_lo (some i) xs.length)).take (kms_hi (some j) xs.length - kms_lo (some i) xs.length)
theorem sl_map {α β : Type} (f : α → β) (xs : List α) (i j : Int) : sl (xs.map f) i j = (sl xs i j).map f := by
  unfold sl; rw [List.length_map, List.map_take, List.map_drop]
theorem sl_mem {α : Type} {xs : List α} {i j : Int} {x : α} (h : x ∈ sl xs i j) : x ∈ xs := List.mem_of_mem_drop (List.mem_of_mem_take h)
section
variable {c : Cx} {n : Nat} {cs : List CellAt} {vs : List MV} {P : Fl → List CellAt → List MV → Prop}
theorem EV.sliceA {b : Expr} {lo hi : Expr} {p pos : Pos} {a : List Str} {i j : Int} (hb : EV c n cs vs b (mstrs a)) (h1 : EV c n cs vs lo (.int i)) (h2 : EV c n cs vs hi (.int j)) (hz : a.length ≤ 100000) :
    EV c n cs vs (.Subscript b (.Slice (some lo) (some hi) none p) pos) (.list ((sl a i j).map .str)) := by
  have := EV.sliceL (pos := pos) (p := p) hb (.some h1) (.some h2) (by rw [List.length_map]; exact hz)
  have e := sl_map MV.str a i j
  unfold sl at e
  rw [e] at this
  exact this
/-- the lines of a part, each behind a sign -/
theorem GX1.lines (ok : CxOk c) {xl : Str} {sg : Str} {k : Nat} {pl p1 p2 p3 p4 p5 pos : Pos} {iter : Expr} {L : List Str} (V : MV → List MV) (f0 : MV) (hk : (xl, NameKind.local) ∈ c.sc.names) (hput : ∀ f m, Put xl m c.xs (V f) (V m)) (hat : ∀ m, At xl m c.xs (V m))
    (hi : EV c n [] (V f0) iter (.list (L.map .str))) (hP : ∀ f, P .next [] (V f)) (hsz : ∀ x ∈ L, x.length ≤ 100) (hsg : sg.length ≤ 100) (hdbg : (xl == ("__debug__" : Str)) = false := by decide) (hco : c.sc.isCoroutine = false := by rfl) (hin : interactive c.env = false := by kernel_rfl)
    (hs : ∀ x, foldedSetIterable iter c.env x = pure x := by intro _; kernel_rfl) :
    GX1 c n [] (V f0) (.For (.Name xl pl) iter [.Expr (.Yield (some (.BinOp (.Constant (.str sg) k p1) .Add (.Name xl p2) p3)) p4) p5] [] pos) ((L.map (sg ++ ·)).map .str) P := by
  refine GX1.forL (items := L.map .str) (fun m ys cs' vs' => ∃ f, cs' = [] ∧ vs' = V f ∧ ys = ((L.drop m).map (sg ++ ·)).map .str) hi ?_ ⟨f0, rfl, rfl, rfl⟩ ?_ hs
  · rintro i v ys cs' vs' hv ⟨f, rfl, rfl, rfl⟩
    rw [List.getElem?_map] at hv
    cases ht : L[i]? with
    | none => rw [ht] at hv; cases hv
    | some x =>
      rw [ht] at hv; cases hv
      have hml : i < L.length := (List.getElem?_eq_some_iff.mp ht).1
      have hdr : L.drop i = x :: L.drop (i + 1) := by
        rw [List.drop_eq_getElem_cons hml, (List.getElem?_eq_some_iff.mp ht).2]
      have hx := hsz x (List.mem_of_getElem? ht)
      rw [hdr]
      refine ⟨V (.str x), [.str (sg ++ x)], _, rfl, AS.name ok hk (hput _ _), ?_⟩
      show GX _ _ _ _ _ ([MV.str (sg ++ x)] ++ []) _
      exact GX.cons (GX1.yield (EV.cat EV.cstr (EV.name ok hk (hat _) (by nofun) hdbg) (by lia)) rfl (GX.nil ⟨_, rfl, rfl, rfl⟩) hco hin)
  · rintro ys cs' vs' ⟨f, rfl, rfl, rfl⟩
    rw [List.length_map, List.drop_length]
    exact ⟨rfl, hP f⟩
end
end
open PySem PySem.W PySem.W.X PyProof.Rows
section
set_option Elab.async false
set_option linter.unusedVariables false
set_option maxRecDepth 100000
open Builtin Builtin.Str
noncomputable def f00 : Field := { name := [], conversion := none, spec := [], nested := false }
noncomputable def Shows (v : Value) (y : PySem.Str) : Prop := (∃ t, v = .str y t) ∨ ∃ i t, v = .int i t ∧ y = PySem.Str.ofString (toString i) ∧ i.natAbs.log2 < 1920
noncomputable def Numb (num : Numbering) (i : Nat) : Prop := (num = .unset ∧ i = 0) ∨ num = .auto i
inductive Fm (L : Nat) (a : Array Value) : Nat → Nat → List Nat → PySem.Str → Prop
  | nil {i} : Fm L a 0 i [] PySem.Str.empty
  | fld {m i r lit rest v y T} : r.isEmpty = false → nextMarkup r = .ok (lit, some f00, rest) → (lit.length == L) = false → a[i]? = some v → Shows v y → Fm L a m (i + 1) rest T → Fm L a (m + 1) i r ((PySem.Str.mk lit.toArray ++ y) ++ T)
  | lit {m i r lit rest T} : r.isEmpty = false → nextMarkup r = .ok (lit, none, rest) → (lit.length == L) = false → Fm L a m i rest T → Fm L a (m + 1) i r (PySem.Str.mk lit.toArray ++ T)
section
variable {prog : Program} {w : World} {A : Around} {E : Value → Shared → Prop}
theorem fm_go {L : Nat} {a : Array Value} {f : Nat → Writer × Numbering × List Nat → Sem (ForInStep (Writer × Numbering × List Nat))}
    (hE : ∀ x W num (Q : ForInStep (Writer × Numbering × List Nat) → Shared → Prop) s, Q (.done (W, num, [])) s → wpAny (model prog w) A (f x (W, num, [])) Q E s)
    (hF : ∀ x W num r i lit rest v y (Q : ForInStep (Writer × Numbering × List Nat) → Shared → Prop) s, r.isEmpty = false → ¬ (tooLong W.total = true) → nextMarkup r = .ok (lit, some f00, rest) → (lit.length == L) = false → Numb num i → a[i]? = some v → Shows v y →
      (∀ o2 k, KPc.Obj o2 y → Q (.yield ((W.add ⟨lit.toArray⟩ none).add y o2, .auto (i + 1), rest)) { s with toks := k }) → wpAny (model prog w) A (f x (W, num, r)) Q E s)
    (hL : ∀ x W num r lit rest (Q : ForInStep (Writer × Numbering × List Nat) → Shared → Prop) s, r.isEmpty = false → ¬ (tooLong W.total = true) → nextMarkup r = .ok (lit, none, rest) → (lit.length == L) = false →
      Q (.yield (W.add ⟨lit.toArray⟩ none, num, rest)) s → wpAny (model prog w) A (f x (W, num, r)) Q E s) :
    ∀ {m i r T}, Fm L a m i r T → ∀ (k j : Nat) (W : Writer) (num : Numbering) (T0 : PySem.Str) (N : Nat) (s : Shared) (Q : Writer × Numbering × List Nat → Shared → Prop), m ≤ k → KPc.Good W T0 N → N + T.length ≤ 16777216 → (Numb num i) →
      (∀ W' num' k', KPc.Good W' (T0 ++ T) (N + T.length) → Q (W', num', []) { s with toks := k' }) → wpAny (model prog w) A (forIn (List.range' j k 1) (W, num, r) f) Q E s := by
  intro m i r T h
  induction h with
  | nil =>
    intro k j W num T0 N s Q _ g hN hn hQ
    have fin : Q (W, num, []) s := hQ W num s.toks (by rw [show T0 ++ PySem.Str.empty = T0 from KFm.cat_t]; exact g)
    cases k with
    | zero => exact wpAny_pure fin
    | succ k => exact KPc.turn (hE _ _ _ _ _ fin)
  | @fld m i r lit rest v y T h1 h2 h3 h4 h5 _ ih =>
    intro k j W num T0 N s Q hk g hN hn hQ
    rw [PySem.Str.length_append, PySem.Str.length_append] at hN
    obtain ⟨k, rfl⟩ : ∃ k', k = k' + 1 := ⟨k - 1, by lia⟩
    refine KPc.turn (hF _ _ _ _ i lit rest v y _ _ h1 (KPc.short_good g (by lia)) h2 h3 hn h4 h5 fun o2 t ho => ?_)
    refine ih k _ _ _ _ _ _ _ (by lia) (KPc.good_add (KPc.good_add g (KPc.obj_none rfl)) ho) (by lia) (.inr rfl) fun W' num' k' g' => ?_
    refine hQ W' num' k' ?_
    rw [PySem.Str.length_append, PySem.Str.length_append]
    rw [show T0 ++ (PySem.Str.mk lit.toArray ++ y ++ T) = T0 ++ PySem.Str.mk lit.toArray ++ y ++ T from by simp only [PySem.Str.append_assoc]]
    rw [show N + ((PySem.Str.mk lit.toArray).length + y.length + T.length) = N + (PySem.Str.mk lit.toArray).length + y.length + T.length from by lia]
    exact g'
  | @lit m i r lit rest T h1 h2 h3 _ ih =>
    intro k j W num T0 N s Q hk g hN hn hQ
    rw [PySem.Str.length_append] at hN
    obtain ⟨k, rfl⟩ : ∃ k', k = k' + 1 := ⟨k - 1, by lia⟩
    refine KPc.turn (hL _ _ _ _ lit rest _ _ h1 (KPc.short_good g (by lia)) h2 h3 ?_)
    refine ih k _ _ _ _ _ _ _ (by lia) (KPc.good_add g (KPc.obj_none rfl)) (by lia) hn fun W' num' k' g' => ?_
    refine hQ W' num' k' ?_
    rw [PySem.Str.length_append]
    rw [show T0 ++ (PySem.Str.mk lit.toArray ++ T) = T0 ++ PySem.Str.mk lit.toArray ++ T from by simp only [PySem.Str.append_assoc]]
    rw [show N + ((PySem.Str.mk lit.toArray).length + T.length) = N + (PySem.Str.mk lit.toArray).length + T.length from by lia]
    exact g'
theorem fmt_meets {X T : PySem.Str} {t : Tok} {vs : List Value} {m : Nat} (hf : Fm X.cps.toList.length vs.toArray m 0 X.cps.toList T) (hm : m ≤ X.cps.toList.length) (hT : T.length ≤ 16777216) : 
    Meets («str.format» ⟨.str X t :: vs, []⟩) (fun _ R s => ∀ t' k, R (.ok (.ret (.str T t'))) { s with toks := k }) := by
  apply KPc.meets_of
  intro prog w A s Q E h
  unfold Builtin.«str.format»
  refine wpAny_bind (wpAny_of_eq (a := (_, _, _)) rfl ?_)
  refine wpAny_bind ?_
  unfold Builtin.Str.buildString
  refine wpAny_bind ?_
  rw [KPc.range_list]
  refine fm_go ?_ ?_ ?_ hf _ _ _ _ _ 0 _ _ hm KPc.good0 (by lia) (.inl ⟨rfl, rfl⟩) fun W' num' k' g => ?_
  · intro x W num Q s hQ
    refine wpAny_ite (KPc.ite_yes rfl (wpAny_pure hQ))
  · intro x W num r i lit rest v y Q s h1 h2 h3 h4 hn h5 h6 hQ
    refine wpAny_ite (KPc.ite_no (by rw [h1]; exact Bool.false_ne_true) ?_)
    refine wpAny_ite (KPc.ite_no h2 ?_)
    rw [h3]
    dsimp only
    rw [h4]
    refine wpAny_bind (KFm.field_auto hn h5 ?_)
    refine wpAny_bind (wpAny_holding (wpAny_of_eq (a := v) rfl ?_))
    refine wpAny_ite (KPc.ite_no Bool.false_ne_true ?_)
    refine wpAny_bind (wpAny_pure ?_)
    rcases h6 with ⟨ty, rfl⟩ | ⟨j, tj, rfl, rfl, hl⟩
    · refine wpAny_bind (wpAny_holding (wpAny_of_eq (KFm.formatOf_str _ _) ?_))
      refine wpAny_bind (wpAny_of_eq (a := some _) rfl ?_)
      refine wpAny_pure (hQ _ s.toks ?_)
      intro u hu
      split at hu
      · cases hu; exact ⟨_, rfl⟩
      · cases hu
    · refine wpAny_bind (wpAny_holding (KFm.formatOf_int hl fun t' k => ?_))
      refine wpAny_bind (wpAny_of_eq (a := some _) rfl ?_)
      refine wpAny_pure (hQ _ k ?_)
      intro u hu
      split at hu
      · cases hu; exact ⟨_, rfl⟩
      · cases hu
  · intro x W num r lit rest Q s h1 h2 h3 h4 hQ
    refine wpAny_ite (KPc.ite_no (by rw [h1]; exact Bool.false_ne_true) ?_)
    refine wpAny_ite (KPc.ite_no h2 ?_)
    rw [h3]
    dsimp only
    rw [h4]
    exact wpAny_pure hQ
  · refine wpAny_pure ?_
    refine KPc.finish_ok g (by lia) (KPc.empty_app _) ?_
    exact fun t k => h t k
theorem raw_fmt {X T : PySem.Str} {t : Tok} {vs : List Value} {m : Nat} {s : Shared} {Q : Value → Shared → Prop} (ha : argsOk "str.format" ⟨.str X t :: vs, []⟩) (hf : Fm X.cps.toList.length vs.toArray m 0 X.cps.toList T) (hm : m ≤ X.cps.toList.length) (hT : T.length ≤ 16777216)
    (h : ∀ t k, Q (.str T t) { s with toks := k }) : wpAny (model prog w) A (call (.builtin "str.format") (.str X t :: vs)) Q E s :=
  KFm.call_k rfl ha (fmt_meets hf hm hT) h
end
end
section
open Builtin Builtin.Str
section
variable {c : Cx} {n : Nat} {cs : List CellAt} {vs : List MV}
theorem fmt_i {a : Array Value} {v : Value} {y : PySem.Str} (ha : a[0]? = some v) (h : Shows v y) : Fm (PySem.Str.ofString "{}").cps.toList.length a 1 0 (PySem.Str.ofString "{}").cps.toList ((PySem.Str.mk #[] ++ y) ++ PySem.Str.empty) :=
  .fld (lit := []) (rest := []) (by decide +kernel) (by kernel_rfl) (by decide +kernel) ha h .nil
theorem fmt_ii {a : Array Value} {v u : Value} {y z : PySem.Str} (ha : a[0]? = some v) (h : Shows v y) (ha' : a[1]? = some u) (h' : Shows u z) : Fm (PySem.Str.ofString "{},{}").cps.toList.length a 2 0 (PySem.Str.ofString "{},{}").cps.toList ((PySem.Str.mk #[] ++ y) ++ ((PySem.Str.mk #[44] ++ z) ++ PySem.Str.empty)) :=
  .fld (lit := []) (rest := [44, 123, 125]) (by decide +kernel) (by kernel_rfl) (by decide +kernel) ha h (.fld (lit := [44]) (rest := []) (by decide +kernel) (by kernel_rfl) (by decide +kernel) ha' h' .nil)
theorem fmt_at {a : Array Value} {v u x : Value} {y z q : PySem.Str} (ha : a[0]? = some v) (h : Shows v y) (ha' : a[1]? = some u) (h' : Shows u z) (ha'' : a[2]? = some x) (h'' : Shows x q) : Fm (PySem.Str.ofString "@@ -{} +{} @@{}").cps.toList.length a 3 0 (PySem.Str.ofString "@@ -{} +{} @@{}").cps.toList ((PySem.Str.mk #[64, 64, 32, 45] ++ y) ++ ((PySem.Str.mk #[32, 43] ++ z) ++ ((PySem.Str.mk #[32, 64, 64] ++ q) ++ PySem.Str.empty))) :=
  .fld (lit := [64, 64, 32, 45]) (rest := [32, 43, 123, 125, 32, 64, 64, 123, 125]) (by decide +kernel) (by kernel_rfl) (by decide +kernel) ha h (.fld (lit := [32, 43]) (rest := [32, 64, 64, 123, 125]) (by decide +kernel) (by kernel_rfl) (by decide +kernel) ha' h' (.fld (lit := [32, 64, 64]) (rest := []) (by decide +kernel) (by kernel_rfl) (by decide +kernel) ha'' h'' .nil))
theorem fmt_min {a : Array Value} {v u x : Value} {y z q : PySem.Str} (ha : a[0]? = some v) (h : Shows v y) (ha' : a[1]? = some u) (h' : Shows u z) (ha'' : a[2]? = some x) (h'' : Shows x q) : Fm (PySem.Str.ofString "--- {}{}{}").cps.toList.length a 3 0 (PySem.Str.ofString "--- {}{}{}").cps.toList ((PySem.Str.mk #[45, 45, 45, 32] ++ y) ++ ((PySem.Str.mk #[] ++ z) ++ ((PySem.Str.mk #[] ++ q) ++ PySem.Str.empty))) :=
  .fld (lit := [45, 45, 45, 32]) (rest := [123, 125, 123, 125]) (by decide +kernel) (by kernel_rfl) (by decide +kernel) ha h (.fld (lit := []) (rest := [123, 125]) (by decide +kernel) (by kernel_rfl) (by decide +kernel) ha' h' (.fld (lit := []) (rest := []) (by decide +kernel) (by kernel_rfl) (by decide +kernel) ha'' h'' .nil))
theorem fmt_plus {a : Array Value} {v u x : Value} {y z q : PySem.Str} (ha : a[0]? = some v) (h : Shows v y) (ha' : a[1]? = some u) (h' : Shows u z) (ha'' : a[2]? = some x) (h'' : Shows x q) : Fm (PySem.Str.ofString "+++ {}{}{}").cps.toList.length a 3 0 (PySem.Str.ofString "+++ {}{}{}").cps.toList ((PySem.Str.mk #[43, 43, 43, 32] ++ y) ++ ((PySem.Str.mk #[] ++ z) ++ ((PySem.Str.mk #[] ++ q) ++ PySem.Str.empty))) :=
  .fld (lit := [43, 43, 43, 32]) (rest := [123, 125, 123, 125]) (by decide +kernel) (by kernel_rfl) (by decide +kernel) ha h (.fld (lit := []) (rest := [123, 125]) (by decide +kernel) (by kernel_rfl) (by decide +kernel) ha' h' (.fld (lit := []) (rest := []) (by decide +kernel) (by kernel_rfl) (by decide +kernel) ha'' h'' .nil))
/-- what a value shows as, when it is formatted -/
inductive ShowsM : MV → PySem.Str → Prop
  | int (i : Int) : i.natAbs.log2 < 1920 → ShowsM (.int i) (PySem.Str.ofString (toString i))
  | str (x : PySem.Str) : ShowsM (.str x) x
theorem ShowsM.go {w : World} {F : PH} {as : List Addr} {m : MV} {v : Value} {y : PySem.Str} (h : ShowsM m y) (d : DV w F as m v) : Shows v y := by
  cases h with
  | int i hl => (apply d.intI; intro _); exact .inr ⟨i, _, rfl, rfl, hl⟩
  | str x => (apply d.strI; intro _); exact .inl ⟨_, rfl⟩
theorem GMv.fmt {x : PySem.Str} : GMv c cs vs (.str x) "format" (.builtin "str.format") [.str x] := .mk fun A K F s Q v pl S d hQ => by
  apply d.strI; intro _
  with_reducible refine KFm.method ?_
  exact hQ _ s S (.cons (.str _ _) .nil)
theorem CS.fmt1 {m : MV} {y : PySem.Str} (h : ShowsM m y) (hz : y.length ≤ 100000) : CS c n cs vs (.builtin "str.format") [.str "{}", m] (.str ((PySem.Str.mk #[] ++ y) ++ PySem.Str.empty)) := .mk fun A K F s Q us hA S d hQ => by
  apply d.consI; intro _ _ d1 d2
  apply d2.consI; intro _ _ d2 d3
  apply d3.nilI
  apply d1.strI; intro _
  refine raw_fmt (KFm.args_2 _ _) (fmt_i rfl (h.go d2)) (by decide +kernel) ?_ fun t k => hQ F _ _ (PH.le.refl _) (S.toks k) (.str _ _)
  simp only [PySem.Str.length_append]
  have e1 : (PySem.Str.mk #[]).length = 0 := rfl
  have e2 : PySem.Str.empty.length = 0 := rfl
  lia
theorem CS.fmt2 {m m' : MV} {y z : PySem.Str} (h : ShowsM m y) (h' : ShowsM m' z) (hz : y.length ≤ 100000) (hz' : z.length ≤ 100000) : CS c n cs vs (.builtin "str.format") [.str "{},{}", m, m'] (.str ((PySem.Str.mk #[] ++ y) ++ ((PySem.Str.mk #[44] ++ z) ++ PySem.Str.empty))) := .mk fun A K F s Q us hA S d hQ => by
  apply d.consI; intro _ _ d1 d2
  apply d2.consI; intro _ _ d2 d3
  apply d3.consI; intro _ _ d3 d4
  apply d4.nilI
  apply d1.strI; intro _
  refine raw_fmt (KFm.args_3 _ _ _) (fmt_ii rfl (h.go d2) rfl (h'.go d3)) (by decide +kernel) ?_ fun t k => hQ F _ _ (PH.le.refl _) (S.toks k) (.str _ _)
  simp only [PySem.Str.length_append]
  have e1 : (PySem.Str.mk #[]).length = 0 := rfl
  have e3 : (PySem.Str.mk #[44]).length = 1 := rfl
  have e2 : PySem.Str.empty.length = 0 := rfl
  lia
theorem CS.fmtAt {m m' m'' : MV} {y z q : PySem.Str} (h : ShowsM m y) (h' : ShowsM m' z) (h'' : ShowsM m'' q) (hz : y.length ≤ 100000) (hz' : z.length ≤ 100000) (hz'' : q.length ≤ 100000) : CS c n cs vs (.builtin "str.format") [.str "@@ -{} +{} @@{}", m, m', m''] (.str ((PySem.Str.mk #[64, 64, 32, 45] ++ y) ++ ((PySem.Str.mk #[32, 43] ++ z) ++ ((PySem.Str.mk #[32, 64, 64] ++ q) ++ PySem.Str.empty)))) := .mk fun A K F s Q us hA S d hQ => by
  apply d.consI; intro _ _ d1 d2
  apply d2.consI; intro _ _ d2 d3
  apply d3.consI; intro _ _ d3 d4
  apply d4.consI; intro _ _ d4 d5
  apply d5.nilI
  apply d1.strI; intro _
  refine raw_fmt (KFm.args_4 _ _ _ _) (fmt_at rfl (h.go d2) rfl (h'.go d3) rfl (h''.go d4)) (by decide +kernel) ?_ fun t k => hQ F _ _ (PH.le.refl _) (S.toks k) (.str _ _)
  simp only [PySem.Str.length_append]
  have e1 : (PySem.Str.mk #[64, 64, 32, 45]).length ≤ 100 := by decide +kernel
  have e2 : (PySem.Str.mk #[32, 43]).length ≤ 100 := by decide +kernel
  have e3 : (PySem.Str.mk #[32, 64, 64]).length ≤ 100 := by decide +kernel
  have e4 : PySem.Str.empty.length = 0 := rfl
  lia
theorem CS.fmtMin {m m' m'' : MV} {y z q : PySem.Str} (h : ShowsM m y) (h' : ShowsM m' z) (h'' : ShowsM m'' q) (hz : y.length ≤ 100000) (hz' : z.length ≤ 100000) (hz'' : q.length ≤ 100000) : CS c n cs vs (.builtin "str.format") [.str "--- {}{}{}", m, m', m''] (.str ((PySem.Str.mk #[45, 45, 45, 32] ++ y) ++ ((PySem.Str.mk #[] ++ z) ++ ((PySem.Str.mk #[] ++ q) ++ PySem.Str.empty)))) := .mk fun A K F s Q us hA S d hQ => by
  apply d.consI; intro _ _ d1 d2
  apply d2.consI; intro _ _ d2 d3
  apply d3.consI; intro _ _ d3 d4
  apply d4.consI; intro _ _ d4 d5
  apply d5.nilI
  apply d1.strI; intro _
  refine raw_fmt (KFm.args_4 _ _ _ _) (fmt_min rfl (h.go d2) rfl (h'.go d3) rfl (h''.go d4)) (by decide +kernel) ?_ fun t k => hQ F _ _ (PH.le.refl _) (S.toks k) (.str _ _)
  simp only [PySem.Str.length_append]
  have e1 : (PySem.Str.mk #[45, 45, 45, 32]).length ≤ 100 := by decide +kernel
  have e2 : (PySem.Str.mk #[]).length ≤ 100 := by decide +kernel
  have e3 : (PySem.Str.mk #[]).length ≤ 100 := by decide +kernel
  have e4 : PySem.Str.empty.length = 0 := rfl
  lia
theorem CS.fmtPlus {m m' m'' : MV} {y z q : PySem.Str} (h : ShowsM m y) (h' : ShowsM m' z) (h'' : ShowsM m'' q) (hz : y.length ≤ 100000) (hz' : z.length ≤ 100000) (hz'' : q.length ≤ 100000) : CS c n cs vs (.builtin "str.format") [.str "+++ {}{}{}", m, m', m''] (.str ((PySem.Str.mk #[43, 43, 43, 32] ++ y) ++ ((PySem.Str.mk #[] ++ z) ++ ((PySem.Str.mk #[] ++ q) ++ PySem.Str.empty)))) := .mk fun A K F s Q us hA S d hQ => by
  apply d.consI; intro _ _ d1 d2
  apply d2.consI; intro _ _ d2 d3
  apply d3.consI; intro _ _ d3 d4
  apply d4.consI; intro _ _ d4 d5
  apply d5.nilI
  apply d1.strI; intro _
  refine raw_fmt (KFm.args_4 _ _ _ _) (fmt_plus rfl (h.go d2) rfl (h'.go d3) rfl (h''.go d4)) (by decide +kernel) ?_ fun t k => hQ F _ _ (PH.le.refl _) (S.toks k) (.str _ _)
  simp only [PySem.Str.length_append]
  have e1 : (PySem.Str.mk #[43, 43, 43, 32]).length ≤ 100 := by decide +kernel
  have e2 : (PySem.Str.mk #[]).length ≤ 100 := by decide +kernel
  have e3 : (PySem.Str.mk #[]).length ≤ 100 := by decide +kernel
  have e4 : PySem.Str.empty.length = 0 := rfl
  lia
end
end
open PySem PySem.W PySem.W.X PyProof.Rows
section
set_option Elab.async false
set_option linter.unusedVariables false
set_option maxRecDepth 100000


noncomputable def fru (start stop : Int) : Str := if stop - start = 1 then Str.ofString (toString (start + 1)) else
  Str.ofString (toString (if stop - start = 0 then start else start + 1)) ++ Str.ofString "," ++ Str.ofString (toString (stop - start))
theorem str_e2 {x y : Str} : (Str.mk #[] ++ x) ++ ((Str.mk #[44] ++ y) ++ Str.empty) = x ++ Str.ofString "," ++ y := by
  rw [show (Str.mk #[] ++ x) = x from KPc.empty_app x, show (Str.mk #[44] ++ y) ++ Str.empty = Str.mk #[44] ++ y from KFm.cat_t, ← Str.append_assoc]
  rfl
theorem small_log {i : Int} (h0 : 0 ≤ i) (h1 : i ≤ 1000000) : i.natAbs.log2 < 1920 := by
  by_cases h : i.natAbs = 0
  · rw [h]; decide
  · refine (Nat.log2_lt h).mpr (Nat.lt_of_le_of_lt (show i.natAbs ≤ 2 ^ 20 by omega) (by
      exact Nat.pow_lt_pow_right (by decide) (by decide)))
theorem small_len {i : Int} (h0 : 0 ≤ i) (h1 : i ≤ 1000000) : (Str.ofString (toString i)).length ≤ 100000 :=
  Nat.le_trans (toString_length_le (k := 10) h0 (by decide) (by omega)) (by decide)
theorem str_e1 {x : Str} : (Str.mk #[] ++ x) ++ Str.empty = x := by
  rw [show (Str.mk #[] ++ x) = x from KPc.empty_app x]
  exact KFm.cat_t
section
variable {c : Cx} {n : Nat} {cs : List CellAt} {vs : List MV}
theorem CS.fru {a b : Int} (h0 : 0 ≤ a) (h1 : a ≤ b) (h2 : b ≤ 100000) : CS c (n + 4) cs vs (.ref 253) [.int a, .int b] (.str (Mine.fru a b)) := by
  refine CX.toCS (CX.fnX (n := n + 3) (vs0 := [.int a, .int b, .unb, .unb]) (fn253 c.w) (ok253 _) rfl ["start", "stop"] ["beginning", "length"] ["start", "stop", "beginning", "length"] ?_ rfl rfl rfl (by decide) (by kernel_rfl) fun L P ok hR _ => ?_)
  · exact all2 fun x y => rfl
  have hR := fun vs' => hR _ cs vs' (asLe.refl _) ⟨rfl, rfl⟩
  refine XS.doc ?_
  refine XS.asg (by assumption) (by walk_at "m_ev") (mem_lu (by kernel_rfl)) (by walk_at "m_at") ?_
  refine XS.asg (by assumption) (by walk_at "m_ev") (mem_lu (by kernel_rfl)) (by walk_at "m_at") ?_
  refine XS.ite (TV.eqi (a := b - a) (b := 1) (by walk_at "m_ev") (by walk_at "m_ev")) (fun hb => ?_) (fun hb => ?_)
  · have hb := beq_iff_eq.mp hb
    refine XS.ret ?_ (hR _)
    have e : Mine.fru a b = (Str.mk #[] ++ Str.ofString (toString (a + 1))) ++ Str.empty := by
      unfold Mine.fru
      rw [if_pos hb, str_e1]
    rw [e]
    refine' EVx.ev (EVx.meth (name := "format") ?ho GMv.fmt (fun _ _ _ _ => .bi _) ?hx ?hc)
    case ho => exact EV.cstr
    case hx => walk_at "m_evs"
    case hc => exact (CS.fmt1 (.int _ (small_log (by omega) (by omega))) (small_len (by omega) (by omega))).cx
  · have hb : b - a ≠ 1 := fun e => by rw [e] at hb; cases hb
    refine XS.nil ?_
    refine XS.ite (TV.not (TV.int (i := b - a) (by walk_at "m_ev"))) (fun hc => ?_) (fun hc => ?_)
    · have hz : b - a = 0 := by simpa using hc
      refine XS.augSub ok (b := 1) (mem_lu (by kernel_rfl)) (by walk_at "m_at") (by walk_at "m_ev") (by walk_at "m_at") ?_
      refine XS.nil ?_
      refine XS.ret ?_ (hR _)
      have e : Mine.fru a b = (Str.mk #[] ++ Str.ofString (toString (a + 1 - 1))) ++ ((Str.mk #[44] ++ Str.ofString (toString (b - a))) ++ Str.empty) := by
        unfold Mine.fru
        rw [if_neg hb, if_pos hz, str_e2, show a + 1 - 1 = a from by omega]
      rw [e]
      refine' EVx.ev (EVx.meth (name := "format") ?ho GMv.fmt (fun _ _ _ _ => .bi _) ?hx ?hc)
      case ho => exact EV.cstr
      case hx => walk_at "m_evs"
      case hc => exact (CS.fmt2 (.int _ (small_log (by omega) (by omega))) (.int _ (small_log (by omega) (by omega))) (small_len (by omega) (by omega)) (small_len (by omega) (by omega))).cx
    · have hz : b - a ≠ 0 := by simpa using hc
      refine XS.nil ?_
      refine XS.ret ?_ (hR _)
      have e : Mine.fru a b = (Str.mk #[] ++ Str.ofString (toString (a + 1))) ++ ((Str.mk #[44] ++ Str.ofString (toString (b - a))) ++ Str.empty) := by
        unfold Mine.fru
        rw [if_neg hb, if_neg hz, str_e2]
      rw [e]
      refine' EVx.ev (EVx.meth (name := "format") ?ho GMv.fmt (fun _ _ _ _ => .bi _) ?hx ?hc)
      case ho => exact EV.cstr
      case hx => walk_at "m_evs"
      case hc => exact (CS.fmt2 (.int _ (small_log (by omega) (by omega))) (.int _ (small_log (by omega) (by omega))) (small_len (by omega) (by omega)) (small_len (by omega) (by omega))).cx
end
end
open PySem PySem.W PySem.W.X PyProof.Rows
section
set_option Elab.async false
set_option linter.unusedVariables false
set_option maxRecDepth 100000
set_option maxHeartbeats 1000000

theorem fn261 (w : World) : IsFn w 261 260 (B.o_408 w.params) := IsFn.of (oc := B.o_407 w.params) (by kernel_rfl) (isTop (by kernel_rfl)) rfl (isTop (by kernel_rfl)) rfl rfl
theorem ok261 (P : Params) : fnOk (B.o_408 P) = true := by kernel_rfl
noncomputable def d0 : Op5 := ("", 0, 0, 0, 0)
noncomputable def hdLine (p : Str) (x : Str) : Str := (p ++ x) ++ ((Str.mk #[] ++ "") ++ ((Str.mk #[] ++ "\n") ++ Str.empty))
noncomputable def hd1 : Str := hdLine (Str.mk #[45, 45, 45, 32]) "old"
noncomputable def hd2 : Str := hdLine (Str.mk #[43, 43, 43, 32]) "new"
noncomputable def atLine (f l : Op5) : Str := (Str.mk #[64, 64, 32, 45] ++ fru f.2.1 l.2.2.1) ++ ((Str.mk #[32, 43] ++ fru f.2.2.2.1 l.2.2.2.2) ++ ((Str.mk #[32, 64, 64] ++ "\n") ++ Str.empty))
noncomputable def opLines (a b : List Str) (o : Op5) : List Str :=
  if o.1 = "equal" then (sl a o.2.1 o.2.2.1).map ((" " : Str) ++ ·)
  else (if o.1 = "replace" ∨ o.1 = "delete" then (sl a o.2.1 o.2.2.1).map (("-" : Str) ++ ·) else []) ++ (if o.1 = "replace" ∨ o.1 = "insert" then (sl b o.2.2.2.1 o.2.2.2.2).map (("+" : Str) ++ ·) else [])
noncomputable def grpLines (a b : List Str) (g : List Op5) : List Str := atLine (g.headD d0) (g.getLastD d0) :: g.flatMap (opLines a b)
noncomputable def udLines (a b : List Str) (gs : List (List Op5)) : List Str := if gs = [] then [] else hd1 :: hd2 :: gs.flatMap (grpLines a b)
/-- what holds of every group -/
noncomputable def GrpOk (g : List Op5) : Prop := ∃ f l, g.head? = some f ∧ g.getLast? = some l ∧ 0 ≤ f.2.1 ∧ f.2.1 ≤ l.2.2.1 ∧ l.2.2.1 ≤ 1000 ∧ 0 ≤ f.2.2.2.1 ∧ f.2.2.2.1 ≤ l.2.2.2.2 ∧ l.2.2.2.2 ≤ 1000
noncomputable def UdY (a b : List Str) (k : Int) (ys : List MV) : Prop := ∃ xs, Blocks a b xs ∧ ys = (udLines a b (groupsOf k (codesOf k (opsAll a b xs)))).map .str
theorem fru_len {x y : Int} (h0 : 0 ≤ x) (h1 : x ≤ y) (h2 : y ≤ 1000) : (fru x y).length ≤ 100000 := by
  have e1 := toString_length_le (k := 10) (v := x + 1) (by lia) (by decide) (by lia)
  have e2 := toString_length_le (k := 10) (v := if y - x = 0 then x else x + 1) (by split <;> lia) (by decide) (by split <;> lia)
  have e3 := toString_length_le (k := 10) (v := y - x) (by lia) (by decide) (by lia)
  unfold fru
  split
  · lia
  · rw [Str.length_append, Str.length_append]
    have : (Str.ofString ",").length = 1 := by decide
    lia
/-- unified_diff's names (what the header alone uses is forgotten) -/
noncomputable abbrev udV (a b : List Str) (k : Int) (s gr fi la r1 r2 tg i1 i2 j1 j2 ln : MV) : List MV := [mstrs a, mstrs b, .str "old", .str "new", .str "", .str "", .int k, .str "\n", s, gr, .unb, .unb, fi, la, r1, r2, tg, i1, i2, j1, j2, ln]
structure UdG where
  tg : MV
  i1 : MV
  i2 : MV
  j1 : MV
  j2 : MV
  ln : MV
theorem op_at {g : List Op5} {m : Nat} {v : MV} (h : (g.map op5)[m]? = some v) : ∃ o, g[m]? = some o ∧ v = op5 o ∧ g.drop m = o :: g.drop (m + 1) := by
  rw [List.getElem?_map] at h
  cases ht : g[m]? with
  | none => rw [ht] at h; cases h
  | some o =>
    rw [ht] at h; cases h
    exact ⟨o, rfl, rfl, by rw [List.drop_eq_getElem_cons (List.getElem?_eq_some_iff.mp ht).1, (List.getElem?_eq_some_iff.mp ht).2]⟩
noncomputable def udU (a b : List Str) (gs : List (List Op5)) (i : Nat) : List Str := if i = 0 then udLines a b gs else (gs.drop i).flatMap (grpLines a b)
theorem udU_next {a b : List Str} {gs : List (List Op5)} {i : Nat} {g : List Op5} (hdr : gs.drop i = g :: gs.drop (i + 1)) : udU a b gs i = ((if i = 0 then [hd1, hd2] else []) ++ grpLines a b g) ++ udU a b gs (i + 1) := by
  unfold udU
  rw [if_neg (Nat.succ_ne_zero i)]
  by_cases h : i = 0
  · subst h
    rw [if_pos rfl, if_pos rfl]
    have : gs = g :: gs.drop 1 := hdr
    rw [this]; rfl
  · rw [if_neg h, if_neg h, hdr]; rfl
theorem udU_end {a b : List Str} {gs : List (List Op5)} : udU a b gs gs.length = [] := by
  unfold udU
  split
  · rename_i h
    rw [List.eq_nil_of_length_eq_zero h]; rfl
  · rw [List.drop_length]; rfl
theorem grp_ends {g : List Op5} {f l : Op5} (hf : g.head? = some f) (hl : g.getLast? = some l) : (g.map op5)[(0 : Int).toNat]? = some (op5 f) ∧ (g.map op5)[(-1 + ((g.map op5).length : Int)).toNat]? = some (op5 l) ∧ 1 ≤ (g.map op5).length := by
  obtain ⟨q, hq⟩ := List.getLast?_eq_some_iff.mp hl
  refine ⟨?_, (last_get hq).2, by rw [(last_get hq).1]; exact Nat.succ_le_succ (Nat.zero_le _)⟩
  rw [List.getElem?_map]
  show (g[0]?).map op5 = _
  rw [← List.head?_eq_getElem?, hf]; rfl
theorem grpL_eq {a b : List Str} {g : List Op5} {f l : Op5} (hf : g.head? = some f) (hl : g.getLast? = some l) : grpLines a b g = atLine f l :: g.flatMap (opLines a b) := by
  unfold grpLines
  rw [show g.headD d0 = f by rw [List.headD_eq_head?_getD, hf]; rfl, show g.getLastD d0 = l by rw [List.getLastD_eq_getLast?, hl]; rfl]
theorem gmv_at {gs : List (List Op5)} {i : Nat} {z : MV} (h : (gs.map gmv)[i]? = some z) : ∃ g, gs[i]? = some g ∧ z = .list (g.map op5) ∧ gs.drop i = g :: gs.drop (i + 1) := by
  rw [List.getElem?_map] at h
  cases ht : gs[i]? with
  | none => rw [ht] at h; cases h
  | some g =>
    rw [ht] at h; cases h
    exact ⟨g, rfl, rfl, by rw [List.drop_eq_getElem_cons (List.getElem?_eq_some_iff.mp ht).1, (List.getElem?_eq_some_iff.mp ht).2]⟩
section
variable {w : World} {n : Nat}
theorem GE.ud {L : Addr} {a b : List Str} {k : Int} (hza : a.length ≤ 60) (hz : b.length ≤ 60) (hla : ∀ x ∈ a, x.length ≤ 100) (hlb : ∀ x ∈ b, x.length ≤ 100)
    (hG : ∀ xs, Blocks a b xs → ∀ g ∈ groupsOf k (codesOf k (opsAll a b xs)), GrpOk g) :
    GE (FnCx w 261 (B.o_408 w.params) L ["a", "b", "fromfile", "tofile", "fromfiledate", "tofiledate", "n", "lineterm", "started", "group", "fromdate", "todate", "first", "last", "file1_range", "file2_range", "tag", "i1", "i2", "j1", "j2", "line"]) (n + 13) [] (udV a b k .unb .unb .unb .unb .unb .unb .unb .unb .unb .unb .unb .unb) (bodyOf (B.o_408 w.params)) (UdY a b k) (fun fl _ _ => fl = .next ∨ fl = .ret .none) := by
  have ok : CxOk (FnCx w 261 (B.o_408 w.params) L ["a", "b", "fromfile", "tofile", "fromfiledate", "tofiledate", "n", "lineterm", "started", "group", "fromdate", "todate", "first", "last", "file1_range", "file2_range", "tag", "i1", "i2", "j1", "j2", "line"]) := (fn261 w).ok (ok261 _) (by decide)
  refine GE.pre 3 ?_
  refine XS.doc ?_
  refine XS.expr (EVx.call (EV.glob ok (mem_lu (by kernel_rfl)) (by kernel_rfl)) (fun _ _ _ h => (fn268 w).callee h) (by walk_at "m_evs") (CX.mono (CF.cx (CF.ckt (n := n + 12) (by lia) (by lia))) ?_))
  rintro m cs' ⟨rfl, rfl⟩
  refine ⟨rfl, ?_⟩
  refine XS.asg (by assumption) (by walk_at "m_ev") (mem_lu (by kernel_rfl)) (by walk_at "m_at") ?_
  refine XS.nil ?_
  refine GE.forG ok (Z := GrpY a b k) (m := n + 11) (mem_lu (by kernel_rfl)) (EVGX.sm (n := n) hza (by lia) (EVx.callSM (EV.glob ok (mem_lu (by kernel_rfl)) (by kernel_rfl)) (by walk_at "m_evs") (CX.newMatcher (n := n + 8) (by lia))) (fun cs => EV.name ok (mem_lu (by kernel_rfl)) (by walk_at "m_at")) rfl) (by lia) ?_
  rintro zs ⟨xs, hB, rfl⟩
  have hG := hG xs hB
  refine ⟨_, ⟨xs, hB, rfl⟩, ?_⟩
  generalize groupsOf k (codesOf k (opsAll a b xs)) = gs at hG ⊢
  refine ⟨fun i ys vs' => ys = (udU a b gs i).map .str ∧ vs' = udV a b k (.bool (decide (0 < i))) .unb .unb .unb .unb .unb .unb .unb .unb .unb .unb .unb, ⟨rfl, rfl⟩, ?_, ?_⟩
  · rintro ys vs' ⟨rfl, rfl⟩
    rw [List.length_map, udU_end]
    exact ⟨rfl, .inl rfl⟩
  · rintro i z ys vs' hv ⟨rfl, rfl⟩
    obtain ⟨g, ht, rfl, hdr⟩ := gmv_at hv
    obtain ⟨f, l, hf, hl, o1, o2, o3, o4, o5, o6⟩ := hG g (List.mem_of_getElem? ht)
    rw [udU_next hdr, List.map_append]
    refine ⟨_, _, _, rfl, by walk_at "m_at", ?_⟩
    rw [List.map_append]
    refine GX.cons (GX1.mono (P := fun fl cs' vs' => fl = .next ∧ cs' = [] ∧ vs' = udV a b k (.bool true) (.list (g.map op5)) .unb .unb .unb .unb .unb .unb .unb .unb .unb .unb) (GX1.ite (b := !(decide (0 < i))) (TV.not (TV.bool (by walk_at "m_ev"))) (fun hb => ?_) (fun hb => ?_)) ?_)
    · have hi : i = 0 := by simpa using hb
      rw [if_pos hi]
      refine GX.pre 3 ?_
      refine XS.asg (by assumption) (by walk_at "m_ev") (mem_lu (by kernel_rfl)) (by walk_at "m_at") ?_
      refine XS.asg ok (EV.ifexp (b := false) (TV.str (x := "") (by walk_at "m_ev") (by decide)) (fun h => nomatch h) (fun _ => by walk_at "m_ev")) (mem_lu (by kernel_rfl)) (by walk_at "m_at") ?_
      refine XS.asg ok (EV.ifexp (b := false) (TV.str (x := "") (by walk_at "m_ev") (by decide)) (fun h => nomatch h) (fun _ => by walk_at "m_ev")) (mem_lu (by kernel_rfl)) (by walk_at "m_at") ?_
      refine XS.nil ?_
      show GX _ _ _ _ _ ([MV.str hd1] ++ ([MV.str hd2] ++ [])) _
      refine GX.cons (GX1.yield (EVx.ev (EVx.meth (name := "format") (by walk_at "m_ev") GMv.fmt (fun _ _ _ _ => .bi _) (by walk_at "m_evs") (CS.fmtMin (.str "old") (.str "") (.str "\n") (by decide) (by decide) (by decide)).cx)) rfl ?_ rfl (by kernel_rfl))
      refine GX.cons (GX1.yield (EVx.ev (EVx.meth (name := "format") (by walk_at "m_ev") GMv.fmt (fun _ _ _ _ => .bi _) (by walk_at "m_evs") (CS.fmtPlus (.str "new") (.str "") (.str "\n") (by decide) (by decide) (by decide)).cx)) rfl ?_ rfl (by kernel_rfl))
      refine GX.pre 0 ?_
      refine XS.forget (vs' := udV a b k (.bool true) (.list (g.map op5)) .unb .unb .unb .unb .unb .unb .unb .unb .unb .unb) (by walk_at "m_at") ?_
      exact XS.nil (GX.nil ⟨rfl, rfl, rfl⟩)
    · have hi : 0 < i := by simpa using hb
      rw [if_neg (by lia)]
      exact GX.nil ⟨rfl, rfl, by rw [decide_eq_true hi]⟩
    rintro fl cs' vs' ⟨rfl, rfl, rfl⟩
    show GX _ _ _ _ _ _ _
    refine GX.pre 3 ?_
    obtain ⟨hgf, hgl, hg1⟩ := grp_ends hf hl
    refine XS.asgSw ok (names := ["first", "last"]) (ms := [.tup [.str f.1, .int f.2.1, .int f.2.2.1, .int f.2.2.2.1, .int f.2.2.2.2], .tup [.str l.1, .int l.2.1, .int l.2.2.1, .int l.2.2.2.1, .int l.2.2.2.2]])
      (EV.tup (EVs.cons (EV.itemL (xs := g.map op5) (k := 0) (EV.name ok (mem_lu (by kernel_rfl)) (by walk_at "m_at")) (by walk_at "m_ev") (by decide) (by decide) hgf) (EVs.cons (EV.itemLneg (xs := g.map op5) (k := -1) (EV.name ok (mem_lu (by kernel_rfl)) (by walk_at "m_at")) (EV.neg EV.cint) (by decide) (by lia) (by decide) hgl) EVs.nil)) (Nat.le_of_ble_eq_true rfl)) (by kernel_rfl) rfl (by walk_at "m_putn") ?_
    refine XS.asg ok (EVx.ev (EVx.call (EV.glob ok (mem_lu (by kernel_rfl)) (by kernel_rfl)) (fun _ _ _ h => (fn253 w).callee h) (EVs.cons (EV.itemT (k := 1) (mv := .int f.2.1) (by walk_at "m_ev") (by walk_at "m_ev") (by decide) (by decide) rfl) (EVs.cons (EV.itemT (k := 2) (mv := .int l.2.2.1) (by walk_at "m_ev") (by walk_at "m_ev") (by decide) (by decide) rfl) EVs.nil)) (CS.fru (n := n + 9) o1 o2 (by lia)).cx)) (mem_lu (by kernel_rfl)) (by walk_at "m_at") ?_
    refine XS.asg ok (EVx.ev (EVx.call (EV.glob ok (mem_lu (by kernel_rfl)) (by kernel_rfl)) (fun _ _ _ h => (fn253 w).callee h) (EVs.cons (EV.itemT (k := 3) (mv := .int f.2.2.2.1) (by walk_at "m_ev") (by walk_at "m_ev") (by decide) (by decide) rfl) (EVs.cons (EV.itemT (k := 4) (mv := .int l.2.2.2.2) (by walk_at "m_ev") (by walk_at "m_ev") (by decide) (by decide) rfl) EVs.nil)) (CS.fru (n := n + 9) o4 o5 (by lia)).cx)) (mem_lu (by kernel_rfl)) (by walk_at "m_at") ?_
    refine XS.nil ?_
    rw [grpL_eq hf hl]
    show GX _ _ _ _ _ ([MV.str (atLine f l)] ++ (g.flatMap (opLines a b)).map .str) _
    refine GX.cons (GX1.yield (EVx.ev (EVx.meth (name := "format") (by walk_at "m_ev") GMv.fmt (fun _ _ _ _ => .bi _) (by walk_at "m_evs") (CS.fmtAt (.str _) (.str _) (.str "\n") (fru_len o1 o2 o3) (fru_len o4 o5 o6) (by decide)).cx)) rfl ?_ rfl (by kernel_rfl))
    have hap : ∀ x : List MV, x = x ++ [] := fun x => (List.append_nil x).symm
    rw [hap ((g.flatMap (opLines a b)).map MV.str)]
    refine GX.cons (GX1.forLG (σ := UdG) (fun _ => []) (fun G => udV a b k (.bool true) (.list (g.map op5)) (.tup [.str f.1, .int f.2.1, .int f.2.2.1, .int f.2.2.2.1, .int f.2.2.2.2]) (.tup [.str l.1, .int l.2.1, .int l.2.2.1, .int l.2.2.2.1, .int l.2.2.2.2]) (.str (fru f.2.1 l.2.2.1)) (.str (fru f.2.2.2.1 l.2.2.2.2)) G.tg G.i1 G.i2 G.j1 G.j2 G.ln) (fun m _ => ((g.drop m).flatMap (opLines a b)).map .str) (fun _ _ => True) (items := g.map op5) ⟨_, _, _, _, _, _⟩
      (by walk_at "m_ev") ?_ trivial ?_)
    · intro m v G hv _
      obtain ⟨o, ht, rfl, hdr⟩ := op_at hv
      have hys : ((g.drop m).flatMap (opLines a b)).map MV.str = (opLines a b o).map .str ++ ((g.drop (m + 1)).flatMap (opLines a b)).map .str := by rw [hdr, List.flatMap_cons, List.map_append]
      refine ⟨_, _, _, hys, AS.tup (ms := [.str o.1, .int o.2.1, .int o.2.2.1, .int o.2.2.2.1, .int o.2.2.2.2]) ok (by walk_at "m_puts"), fun PP hN => ?_⟩
      have hN := fun G => hN G trivial rfl
      have hsa : ∀ x ∈ sl a o.2.1 o.2.2.1, x.length ≤ 100 := fun x hx => hla x (sl_mem hx)
      have hsb : ∀ x ∈ sl b o.2.2.2.1 o.2.2.2.2, x.length ≤ 100 := fun x hx => hlb x (sl_mem hx)
      by_cases hc : o.1 = "equal"
      · have e : opLines a b o = (sl a o.2.1 o.2.2.1).map ((" " : Str) ++ ·) := if_pos hc
        rw [e, hap (((sl a o.2.1 o.2.2.1).map ((" " : Str) ++ ·)).map MV.str)]
        refine GX.cons (GX1.ite (b := o.1 == "equal") (TV.eqs (by walk_at "m_ev") (by walk_at "m_ev")) (fun _ => ?_) (fun hb => by rw [hc] at hb; cases hb))
        rw [hap (((sl a o.2.1 o.2.2.1).map ((" " : Str) ++ ·)).map MV.str)]
        refine GX.cons (GX1.lines ok (fun ml => (udV a b k (.bool true) (.list (g.map op5)) (.tup [.str f.1, .int f.2.1, .int f.2.2.1, .int f.2.2.2.1, .int f.2.2.2.2]) (.tup [.str l.1, .int l.2.1, .int l.2.2.1, .int l.2.2.2.1, .int l.2.2.2.2]) (.str (fru f.2.1 l.2.2.1)) (.str (fru f.2.2.2.1 l.2.2.2.2)) (.str o.1) (.int o.2.1) (.int o.2.2.1) (.int o.2.2.2.1) (.int o.2.2.2.2) ml)) G.ln (mem_lu (by kernel_rfl)) (fun _ _ => by walk_at "m_at") (fun _ => by walk_at "m_at")
          (EV.sliceA (by walk_at "m_ev") (by walk_at "m_ev") (by walk_at "m_ev") (by lia)) (fun f => ?_) hsa (by decide))
        show GX _ _ _ _ _ ([] ++ []) _
        exact GX.cons (GX1.of (EX1.cont ⟨rfl, rfl, (hN ⟨_, _, _, _, _, _⟩).2⟩))
      · have e : opLines a b o = (if o.1 = "replace" ∨ o.1 = "delete" then (sl a o.2.1 o.2.2.1).map (("-" : Str) ++ ·) else []) ++ (if o.1 = "replace" ∨ o.1 = "insert" then (sl b o.2.2.2.1 o.2.2.2.2).map (("+" : Str) ++ ·) else []) := if_neg hc
        rw [e]
        rw [← List.nil_append (((if o.1 = "replace" ∨ o.1 = "delete" then (sl a o.2.1 o.2.2.1).map (("-" : Str) ++ ·) else []) ++ (if o.1 = "replace" ∨ o.1 = "insert" then (sl b o.2.2.2.1 o.2.2.2.2).map (("+" : Str) ++ ·) else [])).map MV.str)]
        refine GX.cons (GX1.ite (b := o.1 == "equal") (TV.eqs (by walk_at "m_ev") (by walk_at "m_ev")) (fun hb => absurd (by simpa using hb) hc) (fun _ => GX.nil ?_))
        rw [List.map_append]
        refine GX.cons (GX1.mono (P := fun fl cs' vs' => fl = .next ∧ cs' = [] ∧ ∃ e6, vs' = (udV a b k (.bool true) (.list (g.map op5)) (.tup [.str f.1, .int f.2.1, .int f.2.2.1, .int f.2.2.2.1, .int f.2.2.2.2]) (.tup [.str l.1, .int l.2.1, .int l.2.2.1, .int l.2.2.2.1, .int l.2.2.2.2]) (.str (fru f.2.1 l.2.2.1)) (.str (fru f.2.2.2.1 l.2.2.2.2)) (.str o.1) (.int o.2.1) (.int o.2.2.1) (.int o.2.2.2.1) (.int o.2.2.2.2) e6)) (GX1.ite (TV.inSet2 (by walk_at "m_ev") (by decide)) (fun hb => ?_) (fun hb => ?_)) ?_)
        · rw [if_pos (by simpa using hb), hap (((sl a o.2.1 o.2.2.1).map (("-" : Str) ++ ·)).map MV.str)]
          exact GX.cons (GX1.lines ok (fun ml => (udV a b k (.bool true) (.list (g.map op5)) (.tup [.str f.1, .int f.2.1, .int f.2.2.1, .int f.2.2.2.1, .int f.2.2.2.2]) (.tup [.str l.1, .int l.2.1, .int l.2.2.1, .int l.2.2.2.1, .int l.2.2.2.2]) (.str (fru f.2.1 l.2.2.1)) (.str (fru f.2.2.2.1 l.2.2.2.2)) (.str o.1) (.int o.2.1) (.int o.2.2.1) (.int o.2.2.2.1) (.int o.2.2.2.2) ml)) G.ln (mem_lu (by kernel_rfl)) (fun _ _ => by walk_at "m_at") (fun _ => by walk_at "m_at")
            (EV.sliceA (by walk_at "m_ev") (by walk_at "m_ev") (by walk_at "m_ev") (by lia)) (fun f => GX.nil ⟨rfl, rfl, _, rfl⟩) hsa (by decide))
        · rw [if_neg (by simpa using hb)]
          exact GX.nil ⟨rfl, rfl, _, rfl⟩
        rintro fl cs' vs' ⟨rfl, rfl, e7, rfl⟩
        show GX _ _ _ _ _ _ _
        rw [hap ((if o.1 = "replace" ∨ o.1 = "insert" then (sl b o.2.2.2.1 o.2.2.2.2).map (("+" : Str) ++ ·) else []).map MV.str)]
        refine GX.cons (GX1.ite (TV.inSet2 (by walk_at "m_ev") (by decide)) (fun hb => ?_) (fun hb => ?_))
        · rw [if_pos (by simpa using hb), hap (((sl b o.2.2.2.1 o.2.2.2.2).map (("+" : Str) ++ ·)).map MV.str)]
          exact GX.cons (GX1.lines ok (fun ml => (udV a b k (.bool true) (.list (g.map op5)) (.tup [.str f.1, .int f.2.1, .int f.2.2.1, .int f.2.2.2.1, .int f.2.2.2.2]) (.tup [.str l.1, .int l.2.1, .int l.2.2.1, .int l.2.2.2.1, .int l.2.2.2.2]) (.str (fru f.2.1 l.2.2.1)) (.str (fru f.2.2.2.1 l.2.2.2.2)) (.str o.1) (.int o.2.1) (.int o.2.2.1) (.int o.2.2.2.1) (.int o.2.2.2.2) ml)) e7 (mem_lu (by kernel_rfl)) (fun _ _ => by walk_at "m_at") (fun _ => by walk_at "m_at")
            (EV.sliceA (by walk_at "m_ev") (by walk_at "m_ev") (by walk_at "m_ev") (by lia)) (fun f => GX.nil (GX.nil (hN ⟨_, _, _, _, _, _⟩).1)) hsb (by decide))
        · rw [if_neg (by simpa using hb)]
          exact GX.nil (GX.nil (hN ⟨_, _, _, _, _, _⟩).1)
    · intro G _
      rw [List.length_map, List.drop_length]
      refine ⟨rfl, ?_⟩
      refine GX.pre 0 ?_
      refine XS.forget (vs' := udV a b k (.bool true) .unb .unb .unb .unb .unb .unb .unb .unb .unb .unb .unb) (by walk_at "m_at") ?_
      exact XS.nil (GX.nil ⟨rfl, rfl, by rw [decide_eq_true (Nat.succ_pos i)]⟩)
end
end
open PySem PySem.W PySem.W.X PyProof.Rows
section
set_option Elab.async false
set_option linter.unusedVariables false
set_option maxRecDepth 100000
section
variable {c : Cx} {n : Nat} {cs : List CellAt} {vs : List MV}
/-- a method of a text -/
theorem GMv.strm {x : Str} {name : Str} {id : String} (slot : Slot "str" name id) (ty : typeOf (.builtin id) = pure (.type "method_descriptor")) : GMv c cs vs (.str x) name (.builtin id) [.str x] := .mk fun A K F s Q v pl S d hQ => by
  apply d.strI; intro _
  rename_i t
  exact GM.of (.str x t) (typeIs_str _ _ _) slot ty GM.noRef (hQ _ s S (.cons (.str _ _) .nil))
noncomputable def splitS (x y : Str) : List Str := if (decide (x.length < y.length) || decide (Builtin.Str.strKind x < Builtin.Str.strKind y)) = true then [x] else if (Builtin.Str.occurrences x y 0 x.length (x.length + 1)).isEmpty = true then [x] else Builtin.Str.partsBetween x (Builtin.Str.occurrences x y 0 x.length (x.length + 1)) y.length
theorem strsFrom_dv {w : World} {F : PH} : ∀ (L : List Str) (t : Nat), DVs w F [] (L.map .str) (strsFrom t L)
  | [], _ => .nil
  | x :: r, t => .cons (.str _ _) (strsFrom_dv r (t + 1))
theorem CS.split {x y : Str} (hy : (y.length == 0) = false) (hx : x.length ≤ 100000) (hn : (splitS x y).length ≤ 100000) : CS c n cs vs (.builtin "str.split") [.str x, .str y] (.list ((splitS x y).map .str)) := .mk fun A K F s Q us hA S d hQ => by
  apply d.consI; intro _ _ d1 d2
  apply d2.consI; intro _ _ d2 d3
  apply d3.nilI; apply d1.strI; intro _; apply d2.strI; intro _
  rename_i t u
  by_cases h1 : (decide (x.length < y.length) || decide (Builtin.Str.strKind x < Builtin.Str.strKind y)) = true
  · have e : splitS x y = [x] := if_pos h1
    rw [e] at hQ
    refine call_meets PySem.F.slot_str_split rfl PySem.F.entry_str_split (PySem.F.args_str_split_2 _ _) (meets_str_split_cannot_occur x y t u h1) ?_
    obtain ⟨S2, l2⟩ := S.frozenPush { cls := .type "list", data := .seq [Value.str x t].toArray } s.toks rfl
    exact hQ _ _ _ l2 S2 (.list (PH.ins_self _ _ _) ⟨rfl, rfl, rfl, _, rfl⟩ (.cons (.str _ _) .nil))
  · have h1' : (decide (x.length < y.length) || decide (Builtin.Str.strKind x < Builtin.Str.strKind y)) = false := by simpa using h1
    by_cases h2 : (Builtin.Str.occurrences x y 0 x.length (x.length + 1)).isEmpty = true
    · have e : splitS x y = [x] := (if_neg h1).trans (if_pos h2)
      rw [e] at hQ
      refine call_meets PySem.F.slot_str_split rfl PySem.F.entry_str_split (PySem.F.args_str_split_2 _ _) (meets_str_split_not_found x y t u h1' hy h2) ?_
      obtain ⟨S2, l2⟩ := S.frozenPush { cls := .type "list", data := .seq [Value.str x t].toArray } s.toks rfl
      exact hQ _ _ _ l2 S2 (.list (PH.ins_self _ _ _) ⟨rfl, rfl, rfl, _, rfl⟩ (.cons (.str _ _) .nil))
    · have h2' : (Builtin.Str.occurrences x y 0 x.length (x.length + 1)).isEmpty = false := by simpa using h2
      have e : splitS x y = Builtin.Str.partsBetween x (Builtin.Str.occurrences x y 0 x.length (x.length + 1)) y.length := (if_neg h1).trans (if_neg h2)
      rw [e] at hQ hn
      refine call_meets PySem.F.slot_str_split rfl PySem.F.entry_str_split (PySem.F.args_str_split_2 _ _) (meets_str_split_sep x y t u h1' hy h2' (Nat.le_trans hx (by decide)) (Nat.le_trans hn (by decide))) ?_
      obtain ⟨S2, l2⟩ := S.frozenPush { cls := .type "list", data := .seq (strsFrom s.toks (Builtin.Str.partsBetween x (Builtin.Str.occurrences x y 0 x.length (x.length + 1)) y.length)).toArray } (s.toks + (Builtin.Str.partsBetween x (Builtin.Str.occurrences x y 0 x.length (x.length + 1)) y.length).length) rfl
      exact hQ _ _ _ l2 S2 (.list (PH.ins_self _ _ _) ⟨rfl, rfl, rfl, _, rfl⟩ (strsFrom_dv _ _))
noncomputable def stripC (l r : Bool) (x y : Str) : Str := if PySem.stripSame y.cps.contains l r x = true then x else PySem.stripped y.cps.contains l r x
theorem strip_post {x y : Str} {l r : Bool} {t : Tok} {K : Kp} {F : PH} {s : Shared} {Q : Value → Shared → Prop} (hx : x.length ≤ 100000) (S : St c.w K F cs c.L c.xs vs s)
    (hQ : ∀ F' v s', PH.le F F' → St c.w K F' cs c.L c.xs vs s' → DV c.w F' (adrs cs) (.str (stripC l r x y)) v → Q v s') : (if PySem.stripSame y.cps.contains l r x = true then Made.val (.str x t) else Made.str (PySem.stripped y.cps.contains l r x)).post Q s := by
  refine post_val_or_made (fun _ => fits_stripped _ _ _ (Nat.le_trans hx (by decide))) fun t' k => ?_
  exact hQ F _ _ (PH.le.refl _) (S.toks k) (.str _ _)
theorem CS.stripS {x y : Str} (hx : x.length ≤ 100000) : CS c n cs vs (.builtin "str.strip") [.str x, .str y] (.str (stripC true true x y)) := .mk fun A K F s Q us hA S d hQ => by
  apply d.consI; intro _ _ d1 d2
  apply d2.consI; intro _ _ d2 d3
  apply d3.nilI; apply d1.strI; intro _; apply d2.strI; intro _
  exact call_gives PySem.F.slot_str_strip rfl PySem.F.entry_str_strip (PySem.F.args_str_strip_2 _ _) (gives_str_strip_chars x y _ _) (strip_post hx S hQ)
theorem CS.lstripS {x y : Str} (hx : x.length ≤ 100000) : CS c n cs vs (.builtin "str.lstrip") [.str x, .str y] (.str (stripC true false x y)) := .mk fun A K F s Q us hA S d hQ => by
  apply d.consI; intro _ _ d1 d2
  apply d2.consI; intro _ _ d2 d3
  apply d3.nilI; apply d1.strI; intro _; apply d2.strI; intro _
  exact call_gives PySem.F.slot_str_lstrip rfl PySem.F.entry_str_lstrip (PySem.F.args_str_lstrip_2 _ _) (gives_str_lstrip_chars x y _ _) (strip_post hx S hQ)
theorem CS.rstripS {x y : Str} (hx : x.length ≤ 100000) : CS c n cs vs (.builtin "str.rstrip") [.str x, .str y] (.str (stripC false true x y)) := .mk fun A K F s Q us hA S d hQ => by
  apply d.consI; intro _ _ d1 d2
  apply d2.consI; intro _ _ d2 d3
  apply d3.nilI; apply d1.strI; intro _; apply d2.strI; intro _
  exact call_gives PySem.F.slot_str_rstrip rfl PySem.F.entry_str_rstrip (PySem.F.args_str_rstrip_2 _ _) (gives_str_rstrip_chars x y _ _) (strip_post hx S hQ)
end
end
open PySem PySem.W PySem.W.X PyProof.Rows
section
set_option Elab.async false
set_option linter.unusedVariables false
set_option maxRecDepth 100000
section
variable {c : Cx} {n : Nat} {cs : List CellAt} {vs : List MV}
theorem EV.catL {l r : Expr} {pos : Pos} {xs ys : List MV} (h1 : EV c n cs vs l (.list xs)) (h2 : EV c n cs vs r (.list ys)) (hz : xs.length + ys.length ≤ 100000) : EV c n cs vs (.BinOp l .Add r pos) (.list (xs ++ ys)) :=
  EV.bin h1 h2 (fun A K F s Q u v hA S d1 d2 hQ => by
    apply d1.listI; intro l o us e q d
    apply d2.listI; intro b o2 us2 e2 q2 dd2
    obtain ⟨m1, rfl⟩ := q.obj
    obtain ⟨m2, rfl⟩ := q2.obj
    have hl := arr_len d; have hl2 := arr_len dd2
    refine concat_meets ⟨_, S.fz _ _ e, rfl⟩ ⟨_, S.fz _ _ e2, rfl⟩ noFill_list_add seq_list_add PySem.F.slot_list_add PySem.F.entry_list_add (PySem.F.args_list_add_2 _ _) (list_addW l b us us2 m1 m2 none none #[] #[] (by rw [hl, hl2]; exact Nat.le_trans hz (by decide))) ⟨S.fz _ _ e, S.fz _ _ e2, ?_⟩
    obtain ⟨S2, l2⟩ := S.frozenPush { cls := .type "list", data := .seq (us ++ us2) } s.toks rfl
    refine hQ _ _ _ l2 S2 (.list (PH.ins_self _ _ _) ⟨rfl, rfl, rfl, _, rfl⟩ ?_)
    rw [Array.toList_append]
    exact (d.append dd2).mono l2 (asLe.refl _))
theorem CS.intB {b : Bool} : CS c n cs vs (.type "int") [.bool b] (.int (if b then 1 else 0)) := .mk fun A K F s Q us hA S d hQ => by
  apply d.consI; intro _ _ d1 d2
  apply d2.nilI; apply d1.boolI
  exact call_int_bool (hQ F _ _ (PH.le.refl _) (S.toks _) (.int _ _))
theorem CS.intS {x : Str} {i : Int} (hl : x.length ≤ 640) (hn : PySem.intText? x = some i) : CS c n cs vs (.type "int") [.str x] (.int i) := .mk fun A K F s Q us hA S d hQ => by
  apply d.consI; intro _ _ d1 d2
  apply d2.nilI; apply d1.strI; intro _
  exact PySem.W.KIN.call_text hn hl (hQ F _ _ (PH.le.refl _) (S.toks _) (.int _ _))
theorem all_eq {a b : List Str} (hl : a.length = b.length) : (List.range a.length).all (fun j => a[j]?.getD Str.empty == b[j]?.getD Str.empty) = (a == b) := by
  rw [Bool.eq_iff_iff, List.all_eq_true, beq_iff_eq]
  constructor
  · intro h
    refine List.ext_getElem hl fun i h1 h2 => ?_
    have := h i (List.mem_range.mpr h1)
    rw [List.getElem?_eq_getElem h1, List.getElem?_eq_getElem h2] at this
    simpa using this
  · intro h j _
    rw [h]; exact beq_self_eq_true _
theorem eq_lists {A : Around} {K : Kp} {F : PH} {s : Shared} {a b : List Str} {u v : Value} {E : Value → Shared → Prop} {Q : Value → Shared → Prop} (hu : A.units < cLine) (S : St c.w K F cs c.L c.xs vs s) (d1 : DV c.w F (adrs cs) (mstrs a) u) (d2 : DV c.w F (adrs cs) (mstrs b) v)
    (hQ : Q (.bool (a == b)) s) : wpAny (model pw c.w) A (compareOp .Eq u v) Q E s := by
  apply d1.listI; intro l o us e q d
  apply d2.listI; intro l2 o2 us2 e2 q2 dd2
  have hl := arr_len d; have hl2 := arr_len dd2
  rw [List.length_map] at hl hl2
  by_cases hsz : us.size = us2.size
  · refine PySem.SeqAt.eq_listAt (e := fun j => a[j]?.getD Str.empty == b[j]?.getD Str.empty) (q.isList (S.fz _ _ e)) (q2.isList (S.fz _ _ e2)) hsz hu (fun j h1 h2 => ?_) ?_
    · obtain ⟨x, hx⟩ : ∃ x, a[j]? = some x := ⟨_, List.getElem?_eq_getElem (by lia)⟩
      obtain ⟨y, hy⟩ : ∃ y, b[j]? = some y := ⟨_, List.getElem?_eq_getElem (by lia)⟩
      obtain ⟨v1, ev1, dv1⟩ := d.get (i := j) (x := .str x) (by rw [List.getElem?_map, hx]; rfl)
      obtain ⟨v2, ev2, dv2⟩ := dd2.get (i := j) (x := .str y) (by rw [List.getElem?_map, hy]; rfl)
      have e1 := toList_get ev1
      have e2' := toList_get ev2
      rw [Array.getElem?_eq_getElem h1] at e1
      rw [Array.getElem?_eq_getElem h2] at e2'
      cases e1; cases e2'
      generalize us[j] = v1 at dv1
      generalize us2[j] = v2 at dv2
      apply dv1.strI; intro _; apply dv2.strI; intro _
      rw [hx, hy]
      exact PySem.SeqAt.EqAt.str_str _ _ _ _
    · rw [hl, all_eq (by lia)]; exact hQ
  · refine PySem.SeqAt.eq_list_lengthsAt (q.isList (S.fz _ _ e)) (q2.isList (S.fz _ _ e2)) (by simpa using hsz) hu ?_
    have : (a == b) = false := by
      refine Bool.eq_false_iff.mpr fun h => hsz ?_
      rw [beq_iff_eq] at h
      rw [hl, hl2, h]
    rw [← this]; exact hQ
theorem ne_lists {A : Around} {K : Kp} {F : PH} {s : Shared} {a b : List Str} {u v : Value} {E : Value → Shared → Prop} {Q : Value → Shared → Prop} (hu : A.units < cLine) (S : St c.w K F cs c.L c.xs vs s) (d1 : DV c.w F (adrs cs) (mstrs a) u) (d2 : DV c.w F (adrs cs) (mstrs b) v)
    (hQ : Q (.bool (!(a == b))) s) : wpAny (model pw c.w) A (compareOp .NotEq u v) Q E s := by
  apply d1.listI; intro l o us e q d
  apply d2.listI; intro l2 o2 us2 e2 q2 dd2
  have hl := arr_len d; have hl2 := arr_len dd2
  rw [List.length_map] at hl hl2
  by_cases hsz : us.size = us2.size
  · refine PySem.SeqAt.RcNeAt.lists (e := fun j => a[j]?.getD Str.empty == b[j]?.getD Str.empty) (q.isList (S.fz _ _ e)) (q2.isList (S.fz _ _ e2)) hsz hu (fun j h1 h2 => ?_) pw c.w E Q ?_
    · obtain ⟨x, hx⟩ : ∃ x, a[j]? = some x := ⟨_, List.getElem?_eq_getElem (by lia)⟩
      obtain ⟨y, hy⟩ : ∃ y, b[j]? = some y := ⟨_, List.getElem?_eq_getElem (by lia)⟩
      obtain ⟨v1, ev1, dv1⟩ := d.get (i := j) (x := .str x) (by rw [List.getElem?_map, hx]; rfl)
      obtain ⟨v2, ev2, dv2⟩ := dd2.get (i := j) (x := .str y) (by rw [List.getElem?_map, hy]; rfl)
      have e1 := toList_get ev1
      have e2' := toList_get ev2
      rw [Array.getElem?_eq_getElem h1] at e1
      rw [Array.getElem?_eq_getElem h2] at e2'
      cases e1; cases e2'
      generalize us[j] = v1 at dv1
      generalize us2[j] = v2 at dv2
      apply dv1.strI; intro _; apply dv2.strI; intro _
      rw [hx, hy]
      exact PySem.SeqAt.EqAt.str_str _ _ _ _
    · rw [hl, all_eq (by lia)]; exact hQ
  · refine PySem.SeqAt.RcNeAt.lists_lengths (q.isList (S.fz _ _ e)) (q2.isList (S.fz _ _ e2)) (by simpa using hsz) hu pw c.w E Q ?_
    have : (a == b) = false := by
      refine Bool.eq_false_iff.mpr fun h => hsz ?_
      rw [beq_iff_eq] at h
      rw [hl, hl2, h]
    rw [this] at hQ; exact hQ
theorem TV.eqL {l r : Expr} {pos : Pos} {a b : List Str} (h1 : EV c (n + 1) cs vs l (mstrs a)) (h2 : EV c (n + 1) cs vs r (mstrs b)) (hm : behindInMarks .Eq r = false := by kernel_rfl) : TV c (n + 1) cs vs (.Compare l [.Eq] [r] pos) (a == b) :=
  TV.cmp h1 h2 (fun A K F s Q u v hA S d1 d2 hQ => eq_lists (by have := hA.units; lia) S d1 d2 (hQ _ _ (PH.le.refl _) S)) hm
theorem TV.neL {l r : Expr} {pos : Pos} {a b : List Str} (h1 : EV c (n + 1) cs vs l (mstrs a)) (h2 : EV c (n + 1) cs vs r (mstrs b)) (hm : behindInMarks .NotEq r = false := by kernel_rfl) : TV c (n + 1) cs vs (.Compare l [.NotEq] [r] pos) (!(a == b)) :=
  TV.cmp h1 h2 (fun A K F s Q u v hA S d1 d2 hQ => ne_lists (by have := hA.units; lia) S d1 d2 (hQ _ _ (PH.le.refl _) S)) hm
end
end
open PySem PySem.W PySem.W.X PyProof.Rows
section
set_option Elab.async false
set_option linter.unusedVariables false
set_option maxRecDepth 100000
set_option maxHeartbeats 1000000

theorem fn275 (w : World) : IsFn w 275 274 (B.o_422 w.params) := IsFn.of (oc := B.o_421 w.params) (by kernel_rfl) (isTop (by kernel_rfl)) rfl (isTop (by kernel_rfl)) rfl rfl
theorem ok275 (P : Params) : fnOk (B.o_422 P) = true := by kernel_rfl
noncomputable def rngParts (x y : Int) : List Str := if y - x = 1 then [Str.ofString (toString (x + 1))] else [Str.ofString (toString (if y - x = 0 then x else x + 1)), Str.ofString (toString (y - x))]
theorem split_fru0 : (List.range 13).all (fun a => (List.range 13).all fun b => decide (b < a) || (splitS (fru a b) "," == rngParts a b)) = true := by decide +kernel
theorem split_fru {x y : Int} (h0 : 0 ≤ x) (h1 : x ≤ y) (h2 : y ≤ 12) : splitS (fru x y) "," = rngParts x y := by
  obtain ⟨a, rfl⟩ := Int.eq_ofNat_of_zero_le h0
  obtain ⟨b, rfl⟩ := Int.eq_ofNat_of_zero_le (show 0 ≤ y by lia)
  have h := List.all_eq_true.mp (List.all_eq_true.mp split_fru0 a (List.mem_range.mpr (by lia))) b (List.mem_range.mpr (by lia))
  rw [Bool.or_eq_true, decide_eq_true_eq, beq_iff_eq] at h
  rcases h with h | h
  · lia
  · exact h
section
variable {c : Cx} {n : Nat} {cs : List CellAt} {vs : List MV}
theorem EV.gtB {l r : Expr} {pos : Pos} {a b : Int} (h1 : EV c n cs vs l (.int a)) (h2 : EV c n cs vs r (.int b)) (hm : behindInMarks .Gt r = false := by kernel_rfl) : EV c n cs vs (.Compare l [.Gt] [r] pos) (.bool (decide (b < a))) := .mk fun A K F s Q hA hS hQ =>
  wpAny_Compare1 (h1.go A K F s _ hA hS fun F1 u s1 l1 S1 d1 => h2.go A K F1 s1 _ hA S1 fun F2 v s2 l2 S2 d2 => by
    apply d1.intI; intro _; apply d2.intI; intro _
    exact PyProof.Rows.gt_int (hQ F2 _ _ (l1.trans l2) S2 (.bool _))) hm
/-- int(e) -/
theorem EV.intS {x : Str} {p : Pos} {e : Expr} {pos : Pos} {i : Int} (hf : EV c n cs vs (.Name x p) (.val (.type "int"))) (ha : EV c n cs vs e (.str (Str.ofString (toString i)))) (h0 : 0 ≤ i) (h1 : i ≤ 1000)
    (he : starEach [e] c.env = (false, eval e c.env) :: starEach [] c.env := by kernel_rfl) (hp : (backTo pos (starEach [e] c.env)).any (·.1) = false := by kernel_rfl) : EV c n cs vs (.Call (.Name x p) [e] [] pos) (.int i) :=
  EVx.ev (EVx.call hf (fun _ _ _ _ => Callee.ty "int") (EVs.cons ha EVs.nil he) (CS.intS (Nat.le_trans (toString_length_le (k := 10) (v := i) h0 (by decide) (by lia)) (by decide)) (PySem.W.KIN.num_reads h0 (by lia))).cx he hp)
theorem EV.intB {x : Str} {p : Pos} {e : Expr} {pos : Pos} {b : Bool} (hf : EV c n cs vs (.Name x p) (.val (.type "int"))) (ha : EV c n cs vs e (.bool b))
    (he : starEach [e] c.env = (false, eval e c.env) :: starEach [] c.env := by kernel_rfl) (hp : (backTo pos (starEach [e] c.env)).any (·.1) = false := by kernel_rfl) : EV c n cs vs (.Call (.Name x p) [e] [] pos) (.int (if b then 1 else 0)) :=
  EVx.ev (EVx.call hf (fun _ _ _ _ => Callee.ty "int") (EVs.cons ha EVs.nil he) CS.intB.cx he hp)
end
section
variable {w : World} {n : Nat}
theorem CF.lrg {x y : Int} (h0 : 0 ≤ x) (h1 : x ≤ y) (h2 : y ≤ 12) : CF w (n + 1) [] (.ref 275) [.str (fru x y)] (fun m cs' => m = .tup [.int x, .int (y - x)] ∧ cs' = []) := by
  refine CF.fnD (n := n) (dms := []) (vs0 := [.str (fru x y), .unb, .unb]) (fn275 w) (ok275 _) rfl ["text"] ["parts", "many"] ["text", "parts", "many"] [] [] (fun p h => nomatch h) (fun F as => .nil) ?_ rfl rfl rfl (by decide) (by kernel_rfl) fun L P ok hR _ => ?_
  · refine all1S fun x S => ?_
    kernel_rfl
  have hR := fun vs' m hm => hR m [] vs' (asLe.refl _) ⟨hm, rfl⟩
  have hsp := split_fru h0 h1 h2
  have hsl : (splitS (fru x y) ",").length ≤ 2 := by
    rw [hsp]; unfold rngParts; split <;> simp
  have hev := CS.split (c := FnCx w 275 (B.o_422 w.params) L ["text", "parts", "many"]) (n := n) (cs := []) (vs := [.str (fru x y), .unb, .unb]) (x := fru x y) (y := ",") (by decide) (fru_len h0 h1 (by lia)) (by lia)
  rw [hsp] at hev
  refine XS.asg ok (EVx.ev (EVx.meth (name := "split") (by walk_at "m_ev") (GMv.strm PySem.F.slot_str_split PySem.F.type_str_split) (fun _ _ _ _ => .bi _) (by walk_at "m_evs") hev.cx)) (mem_lu (by kernel_rfl)) (by walk_at "m_at") ?_
  by_cases hc : y - x = 1
  · have e : rngParts x y = [Str.ofString (toString (x + 1))] := if_pos hc
    rw [e]
    refine XS.norm [] [.str (fru x y), .list [.str (Str.ofString (toString (x + 1)))], .unb] ?_
    refine XS.asg (mv := .int 1) ok (EV.ifexp (b := false) (TV.eqi (a := 1) (b := 2) (EV.callB (EV.bi ok (mem_lu (by kernel_rfl)) (by kernel_rfl) (by kernel_rfl)) (by walk_at "m_evs") (CS.lenL (xs := [.str (Str.ofString (toString (x + 1)))]) (Nat.le_of_ble_eq_true rfl))) (by walk_at "m_ev")) (fun h => nomatch h) (fun _ => by walk_at "m_ev")) (mem_lu (by kernel_rfl)) (by walk_at "m_at") ?_
    refine XS.ret (EV.tup (EVs.cons (EV.sub (a := x + 1) (b := 1) (EV.intS (i := x + 1) (EV.bi ok (mem_lu (by kernel_rfl)) (by kernel_rfl) (by kernel_rfl)) (EV.itemL (xs := [.str (Str.ofString (toString (x + 1)))]) (k := 0) (by walk_at "m_ev") (by walk_at "m_ev") (by decide) (by decide) rfl) (by lia) (by lia)) (EV.intB (b := true) (EV.bi ok (mem_lu (by kernel_rfl)) (by kernel_rfl) (by kernel_rfl)) (EV.gtB (a := 1) (b := 0) (by walk_at "m_ev") (by walk_at "m_ev")))) (EVs.cons (by walk_at "m_ev") EVs.nil)) (Nat.le_of_ble_eq_true rfl)) (hR _ _ ?_)
    rw [hc, show x + 1 - 1 = x by lia]
  · have e : rngParts x y = [Str.ofString (toString (if y - x = 0 then x else x + 1)), Str.ofString (toString (y - x))] := if_neg hc
    rw [e]
    refine XS.norm [] [.str (fru x y), .list [.str (Str.ofString (toString (if y - x = 0 then x else x + 1))), .str (Str.ofString (toString (y - x)))], .unb] ?_
    refine XS.asg (mv := .int (y - x)) ok (EV.ifexp (b := true) (TV.eqi (a := 2) (b := 2) (EV.callB (EV.bi ok (mem_lu (by kernel_rfl)) (by kernel_rfl) (by kernel_rfl)) (by walk_at "m_evs") (CS.lenL (xs := [.str (Str.ofString (toString (if y - x = 0 then x else x + 1))), .str (Str.ofString (toString (y - x)))]) (Nat.le_of_ble_eq_true rfl))) (by walk_at "m_ev")) (fun _ => EV.intS (EV.bi ok (mem_lu (by kernel_rfl)) (by kernel_rfl) (by kernel_rfl)) (EV.itemL (xs := [.str (Str.ofString (toString (if y - x = 0 then x else x + 1))), .str (Str.ofString (toString (y - x)))]) (k := 1) (by walk_at "m_ev") (by walk_at "m_ev") (by decide) (by decide) rfl) (by lia) (by lia)) (fun h => nomatch h)) (mem_lu (by kernel_rfl)) (by walk_at "m_at") ?_
    refine XS.ret (EV.tup (EVs.cons (EV.sub (EV.intS (i := if y - x = 0 then x else x + 1) (EV.bi ok (mem_lu (by kernel_rfl)) (by kernel_rfl) (by kernel_rfl)) (EV.itemL (xs := [.str (Str.ofString (toString (if y - x = 0 then x else x + 1))), .str (Str.ofString (toString (y - x)))]) (k := 0) (by walk_at "m_ev") (by walk_at "m_ev") (by decide) (by decide) rfl) (by split <;> lia) (by split <;> lia)) (EV.intB (EV.bi ok (mem_lu (by kernel_rfl)) (by kernel_rfl) (by kernel_rfl)) (EV.gtB (a := y - x) (b := 0) (by walk_at "m_ev") (by walk_at "m_ev")))) (EVs.cons (by walk_at "m_ev") EVs.nil)) (Nat.le_of_ble_eq_true rfl)) (hR _ _ ?_)
    by_cases hz : y - x = 0
    · rw [if_pos hz, hz]
      show MV.tup [.int (x - 0), .int 0] = _
      rw [Int.sub_zero]
    · rw [if_neg hz, show decide (0 < y - x) = true from decide_eq_true (by lia)]
      show MV.tup [.int (x + 1 - 1), _] = _
      rw [show x + 1 - 1 = x by lia]
end
end
open PySem PySem.W PySem.W.X PyProof.Rows
section
set_option Elab.async false
set_option linter.unusedVariables false
set_option maxRecDepth 100000
section
variable {c : Cx} {n : Nat} {cs : List CellAt} {vs : List MV}
/-- x[i:] of a text -/
noncomputable def tailS (x : Str) (i : Int) : Str := if ((slicePicked x (some (i, 0)) none none).length == x.length) = true then x else ⟨((slicePicked x (some (i, 0)) none none).filterMap (x.cps[·]?)).toArray⟩
theorem EV.tailS {b lo : Expr} {p pos : Pos} {x : Str} {i : Int} (hb : EV c n cs vs b (.str x)) (h1 : EV c n cs vs lo (.int i)) (hz : x.length ≤ 100000)
    (hs : ∀ u v, ∃ ops, subscripted (.Slice (some lo) none none p) false u v = operate ops (getItem u v) := by exact fun _ _ => ⟨_, rfl⟩) :
    EV c n cs vs (.Subscript b (.Slice (some lo) none none p) pos) (.str (Mine.tailS x i)) := .mk fun A K F s Q hA hS hQ =>
  PyProof.Rows.Subscript_ (hb.go A K F s _ hA hS fun F1 u s1 l1 S1 d1 => wpAny_Slice ((EVo.some h1).go hA S1 fun F2 v1 s2 l2 S2 p1 => EVo.none.go hA S2 fun F3 v2 s3 l3 S3 p2 => by
    refine wpAny_pure ?_
    obtain ⟨ops, e⟩ := hs u (.ref s3.heap.objs.size)
    revert e; apply d1.strI; intro t e
    cases p1
    rename_i ti
    cases p2
    have S4 := S3.push { cls := .type "slice", data := .fields #[.int i ti, .none, .none] } s3.toks
    refine PyProof.Rows.tail_any (T := "str") rfl slot_str_getitem.lookup ?_ e
    refine wpAny_getItem_str_slice (l := some (i, ti)) (u := Option.none) (st := Option.none) ⟨_, Heap.get?_push_size _ rfl, rfl, rfl⟩ rfl ?_
    have hlen : ((slicePicked x (some (i, ti)) Option.none Option.none).filterMap (x.cps[·]?)).length ≤ 100000 := by
      exact Nat.le_trans (Nat.le_trans (List.length_filterMap_le _ _) (indices_len_le (some i) Option.none x.length)) hz
    refine post_val_or_made (c := (((Option.none : Option (Int × Tok)).map (·.1)).getD 1 == 1 && (slicePicked x (some (i, ti)) Option.none Option.none).length == x.length) = true) (fun _ => Nat.le_trans hlen (by decide)) fun t' k => ?_
    exact hQ F3 _ _ (l1.trans (l2.trans l3)) (S4.toks k) (.str _ _)))
end
end
open PySem PySem.W PySem.W.X PyProof.Rows
section
set_option Elab.async false
set_option linter.unusedVariables false
/-- side by side, from (i, j) to (i', j') -/
noncomputable def Cont : Int → Int → List Op5 → Int → Int → Prop
  | i, j, [], i', j' => i = i' ∧ j = j'
  | i, j, o :: r, i', j' => o.2.1 = i ∧ o.2.2.2.1 = j ∧ Cont o.2.2.1 o.2.2.2.2 r i' j'
theorem Cont.app {x y : List Op5} : ∀ {i j k l m n : Int}, Cont i j x k l → Cont k l y m n → Cont i j (x ++ y) m n := by
  induction x with
  | nil => intro i j k l m n h1 h2; obtain ⟨rfl, rfl⟩ := h1; exact h2
  | cons o r ih => intro i j k l m n h1 h2; exact ⟨h1.1, h1.2.1, ih h1.2.2 h2⟩
structure OpOk (a b : List Str) (o : Op5) : Prop where
  i0 : 0 ≤ o.2.1
  i1 : o.2.1 ≤ o.2.2.1
  i2 : o.2.2.1 ≤ a.length
  j0 : 0 ≤ o.2.2.2.1
  j1 : o.2.2.2.1 ≤ o.2.2.2.2
  j2 : o.2.2.2.2 ≤ b.length
  tg : (o.1 = "equal" ∧ o.2.2.1 - o.2.1 = o.2.2.2.2 - o.2.2.2.1 ∧ ∀ t, 0 ≤ t → t < o.2.2.1 - o.2.1 → eqAt a b (o.2.1 + t) (o.2.2.2.1 + t)) ∨ (o.1 = "replace" ∧ o.2.1 < o.2.2.1 ∧ o.2.2.2.1 < o.2.2.2.2) ∨ (o.1 = "delete" ∧ o.2.1 < o.2.2.1 ∧ o.2.2.2.1 = o.2.2.2.2) ∨ (o.1 = "insert" ∧ o.2.1 = o.2.2.1 ∧ o.2.2.2.1 < o.2.2.2.2)
/-- no two parts that are alike side by side -/
noncomputable def NoEE : List Op5 → Prop
  | o :: p :: r => (o.1 = "equal" → p.1 ≠ "equal") ∧ NoEE (p :: r)
  | _ => True
theorem NoEE.app {x y : List Op5} (h1 : NoEE x) (h2 : NoEE y) (h : ∀ o p, x.getLast? = some o → y.head? = some p → o.1 = "equal" → p.1 ≠ "equal") : NoEE (x ++ y) := by
  induction x with
  | nil => exact h2
  | cons o r ih =>
    cases r with
    | nil =>
      cases y with
      | nil => trivial
      | cons p y => exact ⟨h o p rfl rfl, h2⟩
    | cons q r =>
      exact ⟨h1.1, ih h1.2 fun o p e1 e2 => h o p (by rw [List.getLast?_cons_cons]; exact e1) e2⟩
noncomputable def endI (xs : List T3) (i : Int) : Int := match xs.getLast? with | some t => t.1 + t.2.2 | none => i
noncomputable def endJ (xs : List T3) (j : Int) : Int := match xs.getLast? with | some t => t.2.1 + t.2.2 | none => j
theorem opsOf_snoc (t : T3) : ∀ (xs : List T3) (i j : Int), opsOf (xs ++ [t]) i j = opsOf xs i j ++ opsOf [t] (endI xs i) (endJ xs j)
  | [], i, j => rfl
  | [u], i, j => by
    obtain ⟨ai, bj, sz⟩ := u
    simp only [List.singleton_append, opsOf, List.append_nil]
    rfl
  | u :: v :: r, i, j => by
    obtain ⟨ai, bj, sz⟩ := u
    rw [List.cons_append]
    have := opsOf_snoc t (v :: r) (ai + sz) (bj + sz)
    show opsT i ai j bj ++ opsE ai bj sz ++ opsOf ((v :: r) ++ [t]) (ai + sz) (bj + sz) = opsT i ai j bj ++ opsE ai bj sz ++ opsOf (v :: r) (ai + sz) (bj + sz) ++ _
    rw [this]
    have e1 : endI (v :: r) (ai + sz) = endI ((ai, bj, sz) :: v :: r) i := by unfold endI; rw [List.getLast?_cons_cons]; cases h : (v :: r).getLast? with | none => simp at h | some => rfl
    have e2 : endJ (v :: r) (bj + sz) = endJ ((ai, bj, sz) :: v :: r) j := by unfold endJ; rw [List.getLast?_cons_cons]; cases h : (v :: r).getLast? with | none => simp at h | some => rfl
    rw [e1, e2]; simp only [List.append_assoc]
/-- a gap's operation -/
theorem opsT_ok {a b : List Str} {i ai j bj : Int} (h0 : 0 ≤ i) (h1 : i ≤ ai) (h2 : ai ≤ a.length) (h3 : 0 ≤ j) (h4 : j ≤ bj) (h5 : bj ≤ b.length) :
    Cont i j (opsT i ai j bj) ai bj ∧ (∀ o ∈ opsT i ai j bj, OpOk a b o ∧ o.1 ≠ "equal") ∧ NoEE (opsT i ai j bj) ∧ (opsT i ai j bj = [] ↔ i = ai ∧ j = bj) := by
  have hT : (i < ai ∧ j < bj ∧ tagOf i ai j bj = "replace") ∨ (i < ai ∧ j = bj ∧ tagOf i ai j bj = "delete") ∨ (i = ai ∧ j < bj ∧ tagOf i ai j bj = "insert") ∨ (i = ai ∧ j = bj ∧ tagOf i ai j bj = "") := by
    by_cases x1 : i < ai
    · by_cases x2 : j < bj
      · exact .inl ⟨x1, x2, if_pos ⟨x1, x2⟩⟩
      · exact .inr (.inl ⟨x1, by lia, (if_neg fun h => x2 h.2).trans (if_pos x1)⟩)
    · by_cases x2 : j < bj
      · exact .inr (.inr (.inl ⟨by lia, x2, (if_neg fun h => x1 h.1).trans ((if_neg x1).trans (if_pos x2))⟩))
      · exact .inr (.inr (.inr ⟨by lia, by lia, (if_neg fun h => x1 h.1).trans ((if_neg x1).trans (if_neg x2))⟩))
  unfold opsT
  rcases hT with ⟨x, y, e⟩ | ⟨x, y, e⟩ | ⟨x, y, e⟩ | ⟨x, y, e⟩ <;> rw [e]
  · rw [if_neg (by decide)]
    refine ⟨⟨rfl, rfl, rfl, rfl⟩, fun o ho => ?_, trivial, by simp; lia⟩
    rw [List.mem_singleton.mp ho]
    exact ⟨⟨h0, h1, h2, h3, h4, h5, .inr (.inl ⟨rfl, x, y⟩)⟩, (by decide : Str.ofString "replace" ≠ Str.ofString "equal")⟩
  · rw [if_neg (by decide)]
    refine ⟨⟨rfl, rfl, rfl, rfl⟩, fun o ho => ?_, trivial, by simp; lia⟩
    rw [List.mem_singleton.mp ho]
    exact ⟨⟨h0, h1, h2, h3, h4, h5, .inr (.inr (.inl ⟨rfl, x, y⟩))⟩, (by decide : Str.ofString "delete" ≠ Str.ofString "equal")⟩
  · rw [if_neg (by decide)]
    refine ⟨⟨rfl, rfl, rfl, rfl⟩, fun o ho => ?_, trivial, by simp; lia⟩
    rw [List.mem_singleton.mp ho]
    exact ⟨⟨h0, h1, h2, h3, h4, h5, .inr (.inr (.inr ⟨rfl, x, y⟩))⟩, (by decide : Str.ofString "insert" ≠ Str.ofString "equal")⟩
  · rw [if_pos rfl]
    exact ⟨⟨x, y⟩, fun o ho => (nomatch ho), trivial, by simp; lia⟩
theorem Chain.end {a b : List Str} {xs : List T3} {i j : Int} (h : Chain a b xs i j) : endI xs 0 = i ∧ endJ xs 0 = j := by
  cases h with
  | nil => exact ⟨rfl, rfl⟩
  | one _ _ _ _ _ _ => unfold endI endJ; rw [List.getLast?_append]; exact ⟨rfl, rfl⟩
theorem Chain.pos {a b : List Str} {xs : List T3} {i j : Int} (h : Chain a b xs i j) : 0 ≤ i ∧ 0 ≤ j := by
  induction h with
  | nil => exact ⟨Int.le_refl _, Int.le_refl _⟩
  | one _ h1 h2 _ h4 _ ih => lia
theorem chain_ops {a b : List Str} {xs : List T3} {i j : Int} (h : Chain a b xs i j) : i ≤ a.length → j ≤ b.length →
    Cont 0 0 (opsOf xs 0 0) i j ∧ (∀ o ∈ opsOf xs 0 0, OpOk a b o) ∧ NoEE (opsOf xs 0 0) := by
  induction h with
  | nil => intro _ _; exact ⟨⟨rfl, rfl⟩, fun o ho => (nomatch ho), trivial⟩
  | @one xs i j i' j' k h h1 h2 h3 h4 h5 ih =>
    intro ha hb
    obtain ⟨c1, c2, c3⟩ := ih (by lia) (by lia)
    obtain ⟨p1, p2⟩ := h.pos
    rw [opsOf_snoc, h.end.1, h.end.2]
    obtain ⟨t1, t2, t3, t4⟩ := opsT_ok (a := a) (b := b) (i := i) (ai := i') (j := j) (bj := j') p1 h1 (by lia) p2 h2 (by lia)
    have e1 : opsOf [(i', j', k)] i j = opsT i i' j j' ++ [(("equal", i', i' + k, j', j' + k) : Op5)] := by
      show opsT i i' j j' ++ opsE i' j' k ++ [] = _
      rw [List.append_nil, show opsE i' j' k = [(("equal", i', i' + k, j', j' + k) : Op5)] from if_neg (by lia)]
    rw [e1]
    have hE : OpOk a b (("equal", i', i' + k, j', j' + k) : Op5) := ⟨by show 0 ≤ i'; lia, by show i' ≤ i' + k; lia, ha, by show 0 ≤ j'; lia, by show j' ≤ j' + k; lia, hb, .inl ⟨rfl, by show i' + k - i' = j' + k - j'; lia, fun t x y => h5 t x (by have y : t < i' + k - i' := y; lia)⟩⟩
    refine ⟨c1.app (t1.app ⟨rfl, rfl, rfl, rfl⟩), fun o ho => ?_, c3.app (t3.app trivial fun o p eo ep he => ?_) fun o p eo ep he => ?_⟩
    · rcases List.mem_append.mp ho with ho | ho
      · exact c2 o ho
      · rcases List.mem_append.mp ho with ho | ho
        · exact (t2 o ho).1
        · rw [List.mem_singleton.mp ho]; exact hE
    · exact absurd he (t2 o (List.mem_of_getLast? eo)).2
    · cases q : opsT i i' j j' with
      | nil =>
        obtain ⟨z1, z2⟩ := t4.mp q
        rcases h3 with z | z | z
        · subst z; cases eo
        · lia
        · lia
      | cons u r =>
        rw [q] at ep
        cases ep
        exact (t2 _ (by rw [q]; exact .head _)).2
/-- the operations of the blocks: side by side, right, no two that are alike together -/
theorem ops_ok {a b : List Str} {xs : List T3} (h : Blocks a b xs) : Cont 0 0 (opsAll a b xs) a.length b.length ∧ (∀ o ∈ opsAll a b xs, OpOk a b o) ∧ NoEE (opsAll a b xs) := by
  obtain ⟨i, j, hc, h1, h2⟩ := h.ch
  obtain ⟨c1, c2, c3⟩ := chain_ops hc h1 h2
  obtain ⟨p1, p2⟩ := hc.pos
  obtain ⟨t1, t2, t3, t4⟩ := opsT_ok (a := a) (b := b) (i := i) (ai := a.length) (j := j) (bj := b.length) p1 h1 (Int.le_refl _) p2 h2 (Int.le_refl _)
  unfold opsAll
  rw [opsOf_snoc, hc.end.1, hc.end.2]
  have e1 : opsOf [((a.length : Int), (b.length : Int), (0 : Int))] i j = opsT i a.length j b.length := by
    show opsT i a.length j b.length ++ opsE _ _ 0 ++ [] = _
    rw [show opsE (a.length : Int) (b.length : Int) 0 = [] from if_pos rfl, List.append_nil, List.append_nil]
  rw [e1]
  refine ⟨c1.app t1, fun o ho => ?_, c3.app t3 fun o p eo ep he => (t2 p (List.mem_of_head? ep)).2⟩
  rcases List.mem_append.mp ho with ho | ho
  · exact c2 o ho
  · exact (t2 o ho).1
end
open PySem PySem.W PySem.W.X PyProof.Rows
section
set_option Elab.async false
set_option linter.unusedVariables false
/-- alike from (i, j) to (i', j') -/
structure Gap (a b : List Str) (i j i' j' : Int) : Prop where
  i0 : 0 ≤ i
  j0 : 0 ≤ j
  le : i ≤ i'
  df : i' - i = j' - j
  eq : ∀ t, 0 ≤ t → t < i' - i → eqAt a b (i + t) (j + t)
theorem Gap.trans {a b : List Str} {i j i' j' i'' j'' : Int} (h : Gap a b i j i' j') (g : Gap a b i' j' i'' j'') : Gap a b i j i'' j'' := by
  have h1 := h.df; have h2 := g.df; have h3 := h.le; have h4 := g.le
  refine ⟨h.i0, h.j0, by lia, by lia, fun t x y => ?_⟩
  by_cases z : t < i' - i
  · exact h.eq t x z
  · have := g.eq (t - (i' - i)) (by lia) (by lia)
    rw [show i' + (t - (i' - i)) = i + t by lia, show j' + (t - (i' - i)) = j + t by lia] at this
    exact this
theorem Gap.refl {a b : List Str} {i j : Int} (h1 : 0 ≤ i) (h2 : 0 ≤ j) : Gap a b i j i j := ⟨h1, h2, Int.le_refl _, by lia, fun t x y => by lia⟩
theorem OpOk.gap {a b : List Str} {o : Op5} (h : OpOk a b o) (he : o.1 = "equal") : Gap a b o.2.1 o.2.2.2.1 o.2.2.1 o.2.2.2.2 := by
  rcases h.tg with ⟨_, h1, h2⟩ | ⟨h1, _⟩ | ⟨h1, _⟩ | ⟨h1, _⟩
  · exact ⟨h.i0, h.j0, h.i1, h1, h2⟩
  all_goals (rw [he] at h1; exact absurd h1 (by decide))
noncomputable def Short (k : Int) (o : Op5) : Prop := o.1 = "equal" → o.2.2.1 - o.2.1 ≤ k
structure GrpFine (a b : List Str) (k : Int) (i j : Int) (g : List Op5) (i' j' : Int) : Prop where
  ct : Cont i j g i' j'
  ok : ∀ o ∈ g, OpOk a b o
  ne : NoEE g
  hd : ∀ o, g.head? = some o → Short k o
  ls : ∀ o, g.getLast? = some o → Short k o
  ch : ∃ o ∈ g, o.1 ≠ "equal"
inductive Grps (a b : List Str) (k : Int) : Int → Int → List (List Op5) → Prop
  | done {i j} : Gap a b i j a.length b.length → Grps a b k i j []
  | grp {i j i1 j1 i2 j2 g gs} : Gap a b i j i1 j1 → GrpFine a b k i1 j1 g i2 j2 → Grps a b k i2 j2 gs → Grps a b k i j (g :: gs)
theorem NoEE.left {x y : List Op5} (h : NoEE (x ++ y)) : NoEE x := by
  induction x with
  | nil => trivial
  | cons o r ih =>
    cases r with
    | nil => trivial
    | cons q r => exact ⟨h.1, ih h.2⟩
theorem NoEE.right {x y : List Op5} (h : NoEE (x ++ y)) : NoEE y := by
  induction x with
  | nil => exact h
  | cons o r ih =>
    cases r with
    | nil => cases y with
      | nil => trivial
      | cons p y => exact h.2
    | cons q r => exact ih h.2
theorem NoEE.mid {x y : List Op5} {o p : Op5} (h : NoEE (x ++ [o] ++ p :: y)) : o.1 = "equal" → p.1 ≠ "equal" := by
  have : NoEE ([o] ++ p :: y) := by rw [List.append_assoc] at h; exact h.right
  exact this.1
theorem NoEE.last {x : List Op5} {o o' : Op5} (h : NoEE (x ++ [o])) (e : o'.1 = o.1) : NoEE (x ++ [o']) := by
  induction x with
  | nil => trivial
  | cons u r ih =>
    cases r with
    | nil => exact ⟨fun z => e ▸ h.1 z, trivial⟩
    | cons q r => exact ⟨h.1, ih h.2⟩
theorem NoEE.first {x : List Op5} {o o' : Op5} (h : NoEE (o :: x)) (e : o'.1 = o.1) : NoEE (o' :: x) := by
  cases x with
  | nil => trivial
  | cons q r => exact ⟨fun z => h.1 (e ▸ z), h.2⟩
theorem Cont.split {x y : List Op5} : ∀ {i j m n : Int}, Cont i j (x ++ y) m n → ∃ k l, Cont i j x k l ∧ Cont k l y m n := by
  induction x with
  | nil => intro i j m n h; exact ⟨i, j, ⟨rfl, rfl⟩, h⟩
  | cons o r ih =>
    intro i j m n h
    obtain ⟨k, l, h1, h2⟩ := ih h.2.2
    exact ⟨k, l, ⟨h.1, h.2.1, h1⟩, h2⟩
theorem grps_main {a b : List Str} {k : Int} (hk : 0 ≤ k) : ∀ (r g : List Op5) (i0 j0 i1 j1 i j i' j' : Int), Gap a b i0 j0 i1 j1 → Cont i1 j1 g i j → Cont i j r i' j' → Gap a b i' j' a.length b.length →
    (∀ o ∈ g ++ r, OpOk a b o) → NoEE (g ++ r) → (∀ o, (g ++ r).head? = some o → Short k o) → (∀ o, (g ++ r).getLast? = some o → Short k o) →
    Grps a b k i0 j0 (grpY k g r ++ if okLast (grpE k g r) then [grpE k g r] else [])
  | [], g, i0, j0, i1, j1, i, j, i', j', gap, c1, c2, tl, ok, ne, hd, ls => by
    obtain ⟨rfl, rfl⟩ := c2
    rw [List.append_nil] at ok ne hd ls
    show Grps a b k i0 j0 (if okLast g then [g] else [])
    by_cases h : okLast g = true
    · rw [if_pos h]
      refine .grp gap ⟨c1, ok, ne, hd, ls, ?_⟩ (.done tl)
      match g, h, ne with
      | [o], h, _ =>
        refine ⟨o, .head _, fun e => ?_⟩
        simp [okLast, e] at h
      | o :: p :: r, h, ne =>
        by_cases e : o.1 = "equal"
        · exact ⟨p, .tail _ (.head _), ne.1 e⟩
        · exact ⟨o, .head _, e⟩
    · rw [if_neg h]
      match g, h, c1, ok with
      | [], _, c1, _ =>
        obtain ⟨rfl, rfl⟩ := c1
        exact .done (gap.trans tl)
      | [o], h, c1, ok =>
        obtain ⟨rfl, rfl, rfl, rfl⟩ := c1
        have e : o.1 = "equal" := by simpa [okLast] using h
        exact .done ((gap.trans ((ok o (.head _)).gap e)).trans tl)
      | o :: p :: r, h, _, _ =>
        exfalso
        refine h ?_
        have : ((o :: p :: r).length : Int) ≠ 1 := by simp only [List.length_cons]; lia
        simp [okLast]; lia
  | op :: r, g, i0, j0, i1, j1, i, j, i', j', gap, c1, c2, tl, ok, ne, hd, ls => by
    obtain ⟨rfl, rfl, c2⟩ := c2
    try dsimp only at c1 c2
    by_cases hc : op.1 = "equal" ∧ k + k < op.2.2.1 - op.2.1
    · have e1 : grpY k g (op :: r) = (g ++ [(op.1, op.2.1, imin op.2.2.1 (op.2.1 + k), op.2.2.2.1, imin op.2.2.2.2 (op.2.2.2.1 + k))]) :: grpY k [(op.1, imax op.2.1 (op.2.2.1 - k), op.2.2.1, imax op.2.2.2.1 (op.2.2.2.2 - k), op.2.2.2.2)] r := if_pos hc
      have e2 : grpE k g (op :: r) = grpE k [(op.1, imax op.2.1 (op.2.2.1 - k), op.2.2.1, imax op.2.2.2.1 (op.2.2.2.2 - k), op.2.2.2.2)] r := if_pos hc
      rw [e1, e2]
      have hoo := ok op (List.mem_append_right _ (.head _))
      have hg := hoo.gap hc.1
      have z1 := hg.i0; have z2 := hg.j0; have z3 := hg.le; have z4 := hg.df
      have b1 := hoo.i2; have b2 := hoo.j2
      try dsimp only at z1 z2 z3 z4 b1 b2
      have m1 : imin op.2.2.1 (op.2.1 + k) = op.2.1 + k := by unfold imin; rw [if_pos (by lia)]
      have m2 : imin op.2.2.2.2 (op.2.2.2.1 + k) = op.2.2.2.1 + k := by unfold imin; rw [if_pos (by lia)]
      have m3 : imax op.2.1 (op.2.2.1 - k) = op.2.2.1 - k := by unfold imax; rw [if_pos (by lia)]
      have m4 : imax op.2.2.2.1 (op.2.2.2.2 - k) = op.2.2.2.2 - k := by unfold imax; rw [if_pos (by lia)]
      rw [m1, m2, m3, m4]
      have hgne : g ≠ [] := fun e => by
        subst e
        have := hd _ rfl hc.1
        try dsimp only at this
        lia
      have hrne : r ≠ [] := fun e => by
        subst e
        have := ls op (by rw [List.getLast?_append]; rfl) hc.1
        try dsimp only at this
        lia
      have ne2 : NoEE (op :: r) := ne.right
      have ne1 : NoEE (g ++ [op]) := by
        have e3 : g ++ op :: r = (g ++ [op]) ++ r := by simp
        rw [e3] at ne; exact ne.left
      have hu : ∃ u ∈ g, u.1 ≠ "equal" := by
        rcases List.eq_nil_or_concat g with e | ⟨q, u, e⟩
        · exact absurd e hgne
        · rw [List.concat_eq_append] at e
          refine ⟨u, by rw [e]; simp, fun z => ?_⟩
          rw [e] at ne
          exact ne.mid z hc.1
      have ok1 : OpOk a b (op.1, op.2.1, op.2.1 + k, op.2.2.2.1, op.2.2.2.1 + k) := ⟨z1, by show op.2.1 ≤ op.2.1 + k; lia, by show op.2.1 + k ≤ _; lia, z2, by show op.2.2.2.1 ≤ op.2.2.2.1 + k; lia, by show op.2.2.2.1 + k ≤ _; lia, .inl ⟨hc.1, by show op.2.1 + k - op.2.1 = op.2.2.2.1 + k - op.2.2.2.1; lia, fun t h h' => hg.eq t h (by have h' : t < op.2.1 + k - op.2.1 := h'; show t < op.2.2.1 - op.2.1; lia)⟩⟩
      have ok2 : OpOk a b (op.1, op.2.2.1 - k, op.2.2.1, op.2.2.2.2 - k, op.2.2.2.2) := ⟨by show 0 ≤ op.2.2.1 - k; lia, by show op.2.2.1 - k ≤ op.2.2.1; lia, b1, by show 0 ≤ op.2.2.2.2 - k; lia, by show op.2.2.2.2 - k ≤ op.2.2.2.2; lia, b2, .inl ⟨hc.1, by show op.2.2.1 - (op.2.2.1 - k) = op.2.2.2.2 - (op.2.2.2.2 - k); lia, fun t h h' => by
        have h' : t < op.2.2.1 - (op.2.2.1 - k) := h'
        have := hg.eq (op.2.2.1 - k - op.2.1 + t) (by lia) (by show _ < op.2.2.1 - op.2.1; lia)
        try dsimp only at this ⊢
        rw [show op.2.1 + (op.2.2.1 - k - op.2.1 + t) = op.2.2.1 - k + t by lia, show op.2.2.2.1 + (op.2.2.1 - k - op.2.1 + t) = op.2.2.2.2 - k + t by lia] at this
        exact this⟩⟩
      refine .grp gap (i2 := op.2.1 + k) (j2 := op.2.2.2.1 + k) ⟨c1.app ⟨rfl, rfl, rfl, rfl⟩, fun o ho => ?_, ne1.last rfl, fun o ho => hd o ?_, fun o ho => ?_, ?_⟩ ?_
      · rcases List.mem_append.mp ho with ho | ho
        · exact ok o (List.mem_append_left _ ho)
        · rw [List.mem_singleton.mp ho]; exact ok1
      · obtain ⟨u, g', rfl⟩ := List.exists_cons_of_ne_nil hgne
        exact ho
      · rw [List.getLast?_append] at ho
        cases ho
        intro _
        show op.2.1 + k - op.2.1 ≤ k
        lia
      · obtain ⟨u, h1, h2⟩ := hu
        exact ⟨u, List.mem_append_left _ h1, h2⟩
      · refine grps_main hk r [(op.1, op.2.2.1 - k, op.2.2.1, op.2.2.2.2 - k, op.2.2.2.2)] (op.2.1 + k) (op.2.2.2.1 + k) (op.2.2.1 - k) (op.2.2.2.2 - k) op.2.2.1 op.2.2.2.2 i' j' ⟨by lia, by lia, by lia, by lia, fun t h h' => ?_⟩ ⟨rfl, rfl, rfl, rfl⟩ c2 tl (fun o ho => ?_) (ne2.first rfl) (fun o ho => ?_) (fun o ho => ?_)
        · have := hg.eq (k + t) (by lia) (by show _ < op.2.2.1 - op.2.1; lia)
          try dsimp only at this
          rw [show op.2.1 + (k + t) = op.2.1 + k + t by lia, show op.2.2.2.1 + (k + t) = op.2.2.2.1 + k + t by lia] at this
          exact this
        · rcases List.mem_cons.mp ho with rfl | ho
          · exact ok2
          · exact ok o (List.mem_append_right _ (.tail _ ho))
        · cases ho
          intro _
          show op.2.2.1 - (op.2.2.1 - k) ≤ k
          lia
        · refine ls o ?_
          obtain ⟨p, r', rfl⟩ := List.exists_cons_of_ne_nil hrne
          rw [List.getLast?_append]
          have ho : ((op.1, op.2.2.1 - k, op.2.2.1, op.2.2.2.2 - k, op.2.2.2.2) :: p :: r').getLast? = some o := ho
          rw [List.getLast?_cons_cons] at ho ⊢
          rw [ho]; rfl
    · have e1 : grpY k g (op :: r) = grpY k (g ++ [op]) r := if_neg hc
      have e2 : grpE k g (op :: r) = grpE k (g ++ [op]) r := if_neg hc
      rw [e1, e2]
      have e3 : g ++ op :: r = (g ++ [op]) ++ r := by simp
      rw [e3] at ok ne hd ls
      exact grps_main hk r _ i0 j0 i1 j1 op.2.2.1 op.2.2.2.2 i' j' gap (c1.app ⟨rfl, rfl, rfl, rfl⟩) c2 tl ok ne hd ls
end
open PySem PySem.W PySem.W.X PyProof.Rows
section
set_option Elab.async false
set_option linter.unusedVariables false
theorem clipL_ok {a b : List Str} {k : Int} {o : Op5} (hk : 0 ≤ k) (h : OpOk a b o) : OpOk a b (clipL k o) ∧ (clipL k o).1 = o.1 ∧ (clipL k o).2.2.1 = o.2.2.1 ∧ (clipL k o).2.2.2.2 = o.2.2.2.2 ∧ Gap a b o.2.1 o.2.2.2.1 (clipL k o).2.1 (clipL k o).2.2.2.1 ∧ Short k (clipL k o) := by
  obtain ⟨tag, x1, x2, y1, y2⟩ := o
  by_cases hc : tag = "equal"
  · have e : clipL k (tag, x1, x2, y1, y2) = (tag, imax x1 (x2 - k), x2, imax y1 (y2 - k), y2) := if_pos hc
    rw [e]
    have hg := h.gap hc
    have z1 := hg.i0; have z2 := hg.j0; have z3 := hg.le; have z4 := hg.df
    have b1 := h.i2; have b2 := h.j2
    dsimp only at z1 z2 z3 z4 b1 b2
    have hm : ∃ d, 0 ≤ d ∧ imax x1 (x2 - k) = x1 + d ∧ imax y1 (y2 - k) = y1 + d ∧ x1 + d ≤ x2 ∧ x2 - (x1 + d) ≤ k := by
      unfold imax
      by_cases q : x2 - k > x1
      · exact ⟨x2 - k - x1, by lia, by rw [if_pos q]; lia, by rw [if_pos (by lia)]; lia, by lia, by lia⟩
      · exact ⟨0, by lia, by rw [if_neg q]; lia, by rw [if_neg (by lia)]; lia, by lia, by lia⟩
    obtain ⟨d, d0, e1, e2, d1, d2⟩ := hm
    rw [e1, e2]
    refine ⟨⟨by show 0 ≤ x1 + d; lia, d1, b1, by show 0 ≤ y1 + d; lia, by show y1 + d ≤ y2; lia, b2, .inl ⟨hc, by show x2 - (x1 + d) = y2 - (y1 + d); lia, fun t p q => ?_⟩⟩, rfl, rfl, rfl, ⟨z1, z2, by show x1 ≤ x1 + d; lia, by show x1 + d - x1 = y1 + d - y1; lia, fun t p q => ?_⟩, fun _ => d2⟩
    · have q : t < x2 - (x1 + d) := q
      have := hg.eq (d + t) (by lia) (by show _ < x2 - x1; lia)
      dsimp only at this ⊢
      rw [show x1 + (d + t) = x1 + d + t by lia, show y1 + (d + t) = y1 + d + t by lia] at this
      exact this
    · have q : t < x1 + d - x1 := q
      exact hg.eq t p (by show t < x2 - x1; lia)
  · have e : clipL k (tag, x1, x2, y1, y2) = (tag, x1, x2, y1, y2) := if_neg hc
    rw [e]
    exact ⟨h, rfl, rfl, rfl, Gap.refl h.i0 h.j0, fun z => absurd z hc⟩
theorem clipR_ok {a b : List Str} {k : Int} {o : Op5} (hk : 0 ≤ k) (h : OpOk a b o) : OpOk a b (clipR k o) ∧ (clipR k o).1 = o.1 ∧ (clipR k o).2.1 = o.2.1 ∧ (clipR k o).2.2.2.1 = o.2.2.2.1 ∧ Gap a b (clipR k o).2.2.1 (clipR k o).2.2.2.2 o.2.2.1 o.2.2.2.2 ∧ Short k (clipR k o) := by
  obtain ⟨tag, x1, x2, y1, y2⟩ := o
  by_cases hc : tag = "equal"
  · have e : clipR k (tag, x1, x2, y1, y2) = (tag, x1, imin x2 (x1 + k), y1, imin y2 (y1 + k)) := if_pos hc
    rw [e]
    have hg := h.gap hc
    have z1 := hg.i0; have z2 := hg.j0; have z3 := hg.le; have z4 := hg.df
    have b1 := h.i2; have b2 := h.j2
    dsimp only at z1 z2 z3 z4 b1 b2
    have hm : ∃ d, 0 ≤ d ∧ imin x2 (x1 + k) = x1 + d ∧ imin y2 (y1 + k) = y1 + d ∧ x1 + d ≤ x2 ∧ d ≤ k := by
      unfold imin
      by_cases q : x1 + k < x2
      · exact ⟨k, by lia, by rw [if_pos q], by rw [if_pos (by lia)], by lia, by lia⟩
      · exact ⟨x2 - x1, by lia, by rw [if_neg q]; lia, by rw [if_neg (by lia)]; lia, by lia, by lia⟩
    obtain ⟨d, d0, e1, e2, d1, d2⟩ := hm
    rw [e1, e2]
    refine ⟨⟨z1, by show x1 ≤ x1 + d; lia, by show x1 + d ≤ _; lia, z2, by show y1 ≤ y1 + d; lia, by show y1 + d ≤ _; lia, .inl ⟨hc, by show x1 + d - x1 = y1 + d - y1; lia, fun t p q => hg.eq t p (by have q : t < x1 + d - x1 := q; show t < x2 - x1; lia)⟩⟩, rfl, rfl, rfl,
      ⟨by show 0 ≤ x1 + d; lia, by show 0 ≤ y1 + d; lia, d1, by show x2 - (x1 + d) = y2 - (y1 + d); lia, fun t p q => ?_⟩, fun _ => by show x1 + d - x1 ≤ k; lia⟩
    have q : t < x2 - (x1 + d) := q
    have := hg.eq (d + t) (by lia) (by show _ < x2 - x1; lia)
    dsimp only at this ⊢
    rw [show x1 + (d + t) = x1 + d + t by lia, show y1 + (d + t) = y1 + d + t by lia] at this
    exact this
  · have e : clipR k (tag, x1, x2, y1, y2) = (tag, x1, x2, y1, y2) := if_neg hc
    rw [e]
    exact ⟨h, rfl, rfl, rfl, Gap.refl (by have := h.i0; have := h.i1; dsimp only at *; lia) (by have := h.j0; have := h.j1; dsimp only at *; lia), fun z => absurd z hc⟩
/-- the groups of right operations -/
theorem groups_ok {a b : List Str} {k : Int} {ops : List Op5} (hk : 0 ≤ k) (hc : Cont 0 0 ops a.length b.length) (ok : ∀ o ∈ ops, OpOk a b o) (ne : NoEE ops) : Grps a b k 0 0 (groupsOf k (codesOf k ops)) := by
  cases ops with
  | nil =>
    obtain ⟨e1, e2⟩ := hc
    have e : groupsOf k (codesOf k []) = [] := by
      have q1 : codes0 [] = [(("equal", 0, 1, 0, 1) : Op5)] := if_pos rfl
      unfold codesOf
      rw [q1]
      have q2 : modLast (clipR k) (modFirst (clipL k) [(("equal", 0, 1, 0, 1) : Op5)]) = [clipR k (clipL k ("equal", 0, 1, 0, 1))] := rfl
      rw [q2]
      have q3 : ∃ x1 x2 y1 y2, clipR k (clipL k ("equal", 0, 1, 0, 1)) = (("equal", x1, x2, y1, y2) : Op5) ∧ x2 - x1 ≤ k + k := by
        have q4 : clipL k ("equal", 0, 1, 0, 1) = (("equal", imax 0 (1 - k), 1, imax 0 (1 - k), 1) : Op5) := if_pos rfl
        rw [q4]
        refine ⟨imax 0 (1 - k), imin 1 (imax 0 (1 - k) + k), imax 0 (1 - k), imin 1 (imax 0 (1 - k) + k), if_pos rfl, ?_⟩
        unfold imin; split <;> lia
      obtain ⟨x1, x2, y1, y2, q3, q5⟩ := q3
      rw [q3]
      have q6 : grpY k [] [(("equal", x1, x2, y1, y2) : Op5)] = [] := by
        show (if _ then _ else _) = _
        rw [if_neg (by intro h; have := h.2; dsimp only at this; lia)]; rfl
      have q7 : grpE k [] [(("equal", x1, x2, y1, y2) : Op5)] = [(("equal", x1, x2, y1, y2) : Op5)] := by
        show (if _ then _ else _) = _
        rw [if_neg (by intro h; have := h.2; dsimp only at this; lia)]; rfl
      unfold groupsOf
      rw [q6, q7]
      have : okLast [(("equal", x1, x2, y1, y2) : Op5)] = false := by simp [okLast]
      rw [this]; rfl
    rw [e]
    exact .done (by rw [← e1, ← e2]; exact Gap.refl (Int.le_refl _) (Int.le_refl _))
  | cons o r =>
    obtain ⟨f1, f2, f3, f4, f5, f6⟩ := clipL_ok hk (ok o (.head _))
    obtain ⟨h1, h2, h3⟩ := hc
    have e0 : codes0 (o :: r) = o :: r := if_neg (by simp)
    have hc1 : Cont (clipL k o).2.1 (clipL k o).2.2.2.1 (clipL k o :: r) a.length b.length := ⟨rfl, rfl, by rw [f3, f4]; exact h3⟩
    have ok1 : ∀ p ∈ clipL k o :: r, OpOk a b p := fun p hp => by
      rcases List.mem_cons.mp hp with rfl | hp
      · exact f1
      · exact ok p (.tail _ hp)
    have ne1 : NoEE (clipL k o :: r) := ne.first f2
    have gap1 : Gap a b 0 0 (clipL k o).2.1 (clipL k o).2.2.2.1 := by rw [h1, h2] at f5; exact f5
    have hcd : codesOf k (o :: r) = modLast (clipR k) (clipL k o :: r) := by unfold codesOf; rw [e0]; rfl
    rw [hcd]
    have hd1 : ∀ p, (clipL k o :: r).head? = some p → Short k p := fun p hp => by cases hp; exact f6
    have hne : clipL k o :: r ≠ [] := by simp
    clear hcd
    generalize (clipL k o).2.1 = s1 at hc1 gap1
    generalize (clipL k o).2.2.2.1 = s2 at hc1 gap1
    generalize clipL k o :: r = l at hc1 ok1 ne1 hd1 hne ⊢
    rcases List.eq_nil_or_concat l with e | ⟨q, u, e⟩
    · exact absurd e hne
    rw [List.concat_eq_append] at e
    subst e
    have hm : modLast (clipR k) (q ++ [u]) = q ++ [clipR k u] := by simp [modLast, modFirst]
    rw [hm]
    obtain ⟨g1, g2, g3, g4, g5, g6⟩ := clipR_ok hk (ok1 u (List.mem_append_right _ (.head _)))
    obtain ⟨m, n, c1, c2⟩ := hc1.split
    obtain ⟨c3, c4, c5, c6⟩ := c2
    refine grps_main hk (q ++ [clipR k u]) [] 0 0 s1 s2 s1 s2 (clipR k u).2.2.1 (clipR k u).2.2.2.2 gap1 ⟨rfl, rfl⟩ (c1.app ⟨g3.trans c3, g4.trans c4, rfl, rfl⟩) (by rw [c5, c6] at g5; exact g5) (fun p hp => ?_) (ne1.last g2) (fun p hp => ?_) (fun p hp => ?_)
    · have hp : p ∈ q ++ [clipR k u] := hp
      rcases List.mem_append.mp hp with hp | hp
      · exact ok1 p (List.mem_append_left _ hp)
      · rw [List.mem_singleton.mp hp]; exact g1
    · cases q with
      | nil => cases hp; exact g6
      | cons v q => exact hd1 p hp
    · have hp : (q ++ [clipR k u]).getLast? = some p := hp
      rw [List.getLast?_append] at hp
      cases hp; exact g6
/-- what the groups of the blocks are -/
theorem blocks_groups {a b : List Str} {xs : List T3} {k : Int} (hk : 0 ≤ k) (h : Blocks a b xs) : Grps a b k 0 0 (groupsOf k (codesOf k (opsAll a b xs))) := by
  obtain ⟨h1, h2, h3⟩ := ops_ok h
  exact groups_ok hk h1 h2 h3
theorem Cont.le {a b : List Str} : ∀ {g : List Op5} {i j i' j' : Int}, Cont i j g i' j' → (∀ o ∈ g, OpOk a b o) → i ≤ i' ∧ j ≤ j'
  | [], _, _, _, _, h, _ => by obtain ⟨rfl, rfl⟩ := h; exact ⟨Int.le_refl _, Int.le_refl _⟩
  | o :: r, _, _, _, _, h, ok => by
    obtain ⟨rfl, rfl, h⟩ := h
    have h1 := ok o (.head _)
    have h2 := h.le fun p hp => ok p (.tail _ hp)
    have := h1.i1; have := h1.j1
    lia
theorem GrpFine.ends {a b : List Str} {k i j i' j' : Int} {g : List Op5} (h : GrpFine a b k i j g i' j') : ∃ f l, g.head? = some f ∧ g.getLast? = some l ∧ f.2.1 = i ∧ f.2.2.2.1 = j ∧ l.2.2.1 = i' ∧ l.2.2.2.2 = j' ∧ 0 ≤ i ∧ 0 ≤ j ∧ i ≤ i' ∧ j ≤ j' ∧ i' ≤ a.length ∧ j' ≤ b.length := by
  obtain ⟨o, ho, _⟩ := h.ch
  have hle := h.ct.le h.ok
  have hct := h.ct
  rcases List.eq_nil_or_concat g with e | ⟨q, l, e⟩
  · subst e; cases ho
  rw [List.concat_eq_append] at e
  subst e
  obtain ⟨m, n, c1, c3, c4, c5, c6⟩ := h.ct.split
  have hl := h.ok l (List.mem_append_right _ (.head _))
  have := hl.i2; have := hl.j2
  cases q with
  | nil =>
    obtain ⟨rfl, rfl⟩ := c1
    have := hl.i0; have := hl.j0
    exact ⟨l, l, rfl, rfl, c3, c4, c5, c6, by lia, by lia, hle.1, hle.2, by lia, by lia⟩
  | cons f q =>
    have hf := h.ok f (.head _)
    have := hf.i0; have := hf.j0
    have d1 := hct.1; have d2 := hct.2.1
    exact ⟨f, l, rfl, by rw [List.getLast?_append]; rfl, d1, d2, c5, c6, by lia, by lia, hle.1, hle.2, by lia, by lia⟩
theorem Grps.mem {a b : List Str} {k : Int} {gs : List (List Op5)} {i j : Int} (h : Grps a b k i j gs) : ∀ g ∈ gs, ∃ i1 j1 i2 j2, GrpFine a b k i1 j1 g i2 j2 := by
  induction h with
  | done _ => intro g hg; cases hg
  | grp _ hf _ ih =>
    intro g hg
    rcases List.mem_cons.mp hg with rfl | hg
    · exact ⟨_, _, _, _, hf⟩
    · exact ih g hg
/-- the premise of the walk of unified_diff -/
theorem grps_ok {a b : List Str} {k : Int} (hk : 0 ≤ k) (hza : a.length ≤ 60) (hzb : b.length ≤ 60) : ∀ xs, Blocks a b xs → ∀ g ∈ groupsOf k (codesOf k (opsAll a b xs)), GrpOk g := fun xs h g hg => by
  obtain ⟨i1, j1, i2, j2, hf⟩ := (blocks_groups hk h).mem g hg
  obtain ⟨f, l, e1, e2, e3, e4, e5, e6, r⟩ := hf.ends
  exact ⟨f, l, e1, e2, by lia, by lia, by lia, by lia, by lia, by lia⟩
end
open PySem PySem.W PySem.W.X PyProof.Rows
section
set_option Elab.async false
set_option linter.unusedVariables false
theorem groups_single {k : Int} (hk : 0 ≤ k) {x1 x2 y1 y2 : Int} (h : x2 - x1 ≤ k) : groupsOf k [(("equal", x1, x2, y1, y2) : Op5)] = [] := by
  have q6 : grpY k [] [(("equal", x1, x2, y1, y2) : Op5)] = [] := by
    show (if _ then _ else _) = _
    rw [if_neg (by intro h; have := h.2; dsimp only at this; lia)]; rfl
  have q7 : grpE k [] [(("equal", x1, x2, y1, y2) : Op5)] = [(("equal", x1, x2, y1, y2) : Op5)] := by
    show (if _ then _ else _) = _
    rw [if_neg (by intro h; have := h.2; dsimp only at this; lia)]; rfl
  unfold groupsOf
  rw [q6, q7]
  have : okLast [(("equal", x1, x2, y1, y2) : Op5)] = false := by simp [okLast]
  rw [this]; rfl
theorem codes_single {k : Int} (hk : 0 ≤ k) {x1 x2 y1 y2 : Int} : ∃ z1 z2 w1 w2, modLast (clipR k) (modFirst (clipL k) [(("equal", x1, x2, y1, y2) : Op5)]) = [(("equal", z1, z2, w1, w2) : Op5)] ∧ z2 - z1 ≤ k := by
  have q4 : clipL k ("equal", x1, x2, y1, y2) = (("equal", imax x1 (x2 - k), x2, imax y1 (y2 - k), y2) : Op5) := if_pos rfl
  have q2 : modLast (clipR k) (modFirst (clipL k) [(("equal", x1, x2, y1, y2) : Op5)]) = [clipR k (clipL k ("equal", x1, x2, y1, y2))] := rfl
  rw [q2, q4]
  refine ⟨imax x1 (x2 - k), imin x2 (imax x1 (x2 - k) + k), imax y1 (y2 - k), imin y2 (imax y1 (y2 - k) + k), ?_, ?_⟩
  · show [if _ then _ else _] = _
    rw [if_pos rfl]
  · unfold imin; split <;> lia
/-- texts that are alike: no groups -/
theorem whole_none {a : List Str} {k : Int} (hk : 0 ≤ k) {xs : List T3} (h : Blocks a a xs) : groupsOf k (codesOf k (opsAll a a xs)) = [] := by
  have hD : Dg a a 0 a.length 0 a.length := ⟨rfl, fun t h1 h2 => by
    have : t.toNat < a.length := by lia
    exact ⟨by lia, by lia, a[t.toNat], by rw [Int.zero_add]; exact List.getElem?_eq_getElem this, by rw [Int.zero_add]; exact List.getElem?_eq_getElem this⟩⟩
  have hx := h.dg hD
  have ho : ∃ x1 x2 y1 y2, codes0 (opsAll a a xs) = [(("equal", x1, x2, y1, y2) : Op5)] := by
    by_cases e : a.length = 0
    · rw [if_pos e] at hx
      subst hx
      have : opsAll a a [] = [] := by
        show opsT 0 (a.length : Int) 0 (a.length : Int) ++ opsE (a.length : Int) (a.length : Int) 0 ++ [] = []
        rw [e]; rfl
      rw [this]
      exact ⟨0, 1, 0, 1, rfl⟩
    · rw [if_neg e] at hx
      subst hx
      have e1 : opsT 0 0 0 0 = [] := rfl
      have e2 : opsE 0 0 (a.length : Int) = [(("equal", 0, 0 + (a.length : Int), 0, 0 + (a.length : Int)) : Op5)] := if_neg (by lia)
      have e3 : opsT (0 + (a.length : Int)) (a.length : Int) (0 + (a.length : Int)) (a.length : Int) = [] := by
        have ht : tagOf (0 + (a.length : Int)) (a.length : Int) (0 + (a.length : Int)) (a.length : Int) = "" := by
          unfold tagOf
          rw [if_neg (by lia), if_neg (by lia), if_neg (by lia)]
        unfold opsT
        rw [if_pos ht]
      have e4 : opsE (a.length : Int) (a.length : Int) 0 = [] := if_pos rfl
      have : opsAll a a [(0, 0, (a.length : Int))] = [(("equal", 0, 0 + (a.length : Int), 0, 0 + (a.length : Int)) : Op5)] := by
        show opsT 0 0 0 0 ++ opsE 0 0 (a.length : Int) ++ (opsT (0 + (a.length : Int)) (a.length : Int) (0 + (a.length : Int)) (a.length : Int) ++ opsE (a.length : Int) (a.length : Int) 0 ++ []) = _
        rw [e1, e2, e3, e4]; rfl
      rw [this]
      exact ⟨_, _, _, _, if_neg (by simp)⟩
  obtain ⟨x1, x2, y1, y2, ho⟩ := ho
  unfold codesOf
  rw [ho]
  obtain ⟨z1, z2, w1, w2, e, hs⟩ := codes_single (k := k) hk (x1 := x1) (x2 := x2) (y1 := y1) (y2 := y2)
  rw [e]
  exact groups_single hk hs
/-- no groups: the texts are alike -/
theorem Gap.whole {a b : List Str} (h : Gap a b 0 0 a.length b.length) : a = b := by
  have hd := h.df
  refine List.ext_getElem (by lia) fun i h1 h2 => ?_
  obtain ⟨_, _, x, e1, e2⟩ := h.eq i (by lia) (by lia)
  rw [Int.zero_add, Int.toNat_natCast, List.getElem?_eq_getElem h1] at e1
  rw [Int.zero_add, Int.toNat_natCast, List.getElem?_eq_getElem h2] at e2
  cases e1; exact (Option.some.inj e2).symm
theorem none_whole {a b : List Str} {k : Int} (h : Grps a b k 0 0 []) : a = b := by
  cases h with
  | done g => exact g.whole
end
open PySem PySem.W PySem.W.X PyProof.Rows
section
set_option Elab.async false
set_option linter.unusedVariables false
noncomputable abbrev Ln := Str × Str
noncomputable def lnT (p : Ln) : Str := p.1 ++ p.2
/-- lines that lead from (i, j) to (i', j') -/
inductive Scr (a b : List Str) : Int → Int → List Ln → Int → Int → Prop
  | nil {i j} : Scr a b i j [] i j
  | eq {i j i' j' x L} : 0 ≤ i → 0 ≤ j → a[i.toNat]? = some x → b[j.toNat]? = some x → Scr a b (i + 1) (j + 1) L i' j' → Scr a b i j ((" ", x) :: L) i' j'
  | del {i j i' j' x L} : 0 ≤ i → 0 ≤ j → a[i.toNat]? = some x → Scr a b (i + 1) j L i' j' → Scr a b i j (("-", x) :: L) i' j'
  | ins {i j i' j' x L} : 0 ≤ i → 0 ≤ j → b[j.toNat]? = some x → Scr a b i (j + 1) L i' j' → Scr a b i j (("+", x) :: L) i' j'
theorem Scr.app {a b : List Str} {x y : List Ln} {i j k l m n : Int} (h1 : Scr a b i j x k l) (h2 : Scr a b k l y m n) : Scr a b i j (x ++ y) m n := by
  induction h1 with
  | nil => exact h2
  | eq p1 p2 p3 p4 _ ih => exact .eq p1 p2 p3 p4 (ih h2)
  | del p1 p2 p3 _ ih => exact .del p1 p2 p3 (ih h2)
  | ins p1 p2 p3 _ ih => exact .ins p1 p2 p3 (ih h2)
theorem sl_eq {α : Type} {xs : List α} {i j : Int} (h0 : 0 ≤ i) (h1 : i ≤ j) (h2 : j ≤ xs.length) : sl xs i j = (xs.drop i.toNat).take (j.toNat - i.toNat) := by
  unfold sl
  have e1 : kms_lo (some i) xs.length = i.toNat := by
    show (if i < 0 then _ else min i.toNat xs.length) = _
    rw [if_neg (by lia)]; lia
  have e2 : kms_hi (some j) xs.length = j.toNat := by
    show (if j < 0 then _ else min j.toNat xs.length) = _
    rw [if_neg (by lia)]; lia
  rw [e1, e2]
theorem sl_nil {α : Type} {xs : List α} {i : Int} (h0 : 0 ≤ i) (h2 : i ≤ xs.length) : sl xs i i = [] := by
  rw [sl_eq h0 (Int.le_refl _) h2, Nat.sub_self, List.take_zero]
theorem sl_cons {α : Type} {xs : List α} {i j : Int} (h0 : 0 ≤ i) (h1 : i < j) (h2 : j ≤ xs.length) : ∃ x, xs[i.toNat]? = some x ∧ sl xs i j = x :: sl xs (i + 1) j := by
  have hl : i.toNat < xs.length := by lia
  refine ⟨xs[i.toNat], List.getElem?_eq_getElem hl, ?_⟩
  rw [sl_eq h0 (by lia) h2, sl_eq (by lia) (by lia) h2, List.drop_eq_getElem_cons hl, show j.toNat - i.toNat = (j.toNat - (i + 1).toNat) + 1 by lia, List.take_succ_cons, show (i + 1).toNat = i.toNat + 1 by lia]
theorem scr_del {a b : List Str} : ∀ (n : Nat) {i i' j : Int}, (i' - i).toNat = n → 0 ≤ i → i ≤ i' → i' ≤ a.length → 0 ≤ j → Scr a b i j ((sl a i i').map (fun x => ("-", x))) i' j
  | 0, i, i', j, hn, h0, h1, h2, h3 => by
    have : i = i' := by lia
    subst this
    rw [sl_nil h0 h2]; exact .nil
  | n + 1, i, i', j, hn, h0, h1, h2, h3 => by
    obtain ⟨x, e1, e2⟩ := sl_cons (xs := a) h0 (show i < i' by lia) h2
    rw [e2]
    exact .del h0 h3 e1 (scr_del n (by lia) (by lia) (by lia) h2 h3)
theorem scr_ins {a b : List Str} : ∀ (n : Nat) {i j j' : Int}, (j' - j).toNat = n → 0 ≤ j → j ≤ j' → j' ≤ b.length → 0 ≤ i → Scr a b i j ((sl b j j').map (fun x => ("+", x))) i j'
  | 0, i, j, j', hn, h0, h1, h2, h3 => by
    have : j = j' := by lia
    subst this
    rw [sl_nil h0 h2]; exact .nil
  | n + 1, i, j, j', hn, h0, h1, h2, h3 => by
    obtain ⟨x, e1, e2⟩ := sl_cons (xs := b) h0 (show j < j' by lia) h2
    rw [e2]
    exact .ins h3 h0 e1 (scr_ins n (by lia) (by lia) (by lia) h2 h3)
theorem scr_eq {a b : List Str} : ∀ (n : Nat) {i i' j j' : Int}, (i' - i).toNat = n → Gap a b i j i' j' → i' ≤ a.length → Scr a b i j ((sl a i i').map (fun x => (" ", x))) i' j'
  | 0, i, i', j, j', hn, hg, h2 => by
    have h1 := hg.le; have h3 := hg.df
    have e : i = i' := by lia
    have e' : j = j' := by lia
    subst e; subst e'
    rw [sl_nil hg.i0 h2]; exact .nil
  | n + 1, i, i', j, j', hn, hg, h2 => by
    have h1 := hg.le; have h3 := hg.df
    obtain ⟨x, e1, e2⟩ := sl_cons (xs := a) hg.i0 (show i < i' by lia) h2
    rw [e2]
    obtain ⟨_, _, y, f1, f2⟩ := hg.eq 0 (Int.le_refl _) (by lia)
    rw [Int.add_zero] at f1 f2
    rw [e1] at f1; cases f1
    refine .eq hg.i0 hg.j0 e1 f2 (scr_eq n (by lia) ⟨by have := hg.i0; lia, by have := hg.j0; lia, by lia, by lia, fun t p q => ?_⟩ h2)
    have := hg.eq (1 + t) (by lia) (by lia)
    rw [show i + (1 + t) = i + 1 + t by lia, show j + (1 + t) = j + 1 + t by lia] at this
    exact this
noncomputable def opLns (a b : List Str) (o : Op5) : List Ln :=
  if o.1 = "equal" then (sl a o.2.1 o.2.2.1).map (fun x => ((" ", x) : Ln))
  else (if o.1 = "replace" ∨ o.1 = "delete" then (sl a o.2.1 o.2.2.1).map (fun x => (("-", x) : Ln)) else []) ++ (if o.1 = "replace" ∨ o.1 = "insert" then (sl b o.2.2.2.1 o.2.2.2.2).map (fun x => (("+", x) : Ln)) else [])
theorem opLines_lns (a b : List Str) (o : Op5) : opLines a b o = (opLns a b o).map lnT := by
  unfold opLines opLns
  split
  · rw [List.map_map]; rfl
  · rw [List.map_append]
    congr 1
    · split
      · rw [List.map_map]; rfl
      · rfl
    · split
      · rw [List.map_map]; rfl
      · rfl
theorem op_scr {a b : List Str} {o : Op5} (h : OpOk a b o) : Scr a b o.2.1 o.2.2.2.1 (opLns a b o) o.2.2.1 o.2.2.2.2 := by
  have i0 := h.i0; have j0 := h.j0
  have d := scr_del (a := a) (b := b) (j := o.2.2.2.1) _ rfl h.i0 h.i1 h.i2 h.j0
  have s := scr_ins (a := a) (b := b) (i := o.2.2.1) _ rfl h.j0 h.j1 h.j2 (by have := h.i1; lia)
  rcases h.tg with ⟨e, _⟩ | ⟨e, _⟩ | ⟨e, _, e2⟩ | ⟨e, e1, _⟩
  · unfold opLns; rw [if_pos e]
    exact scr_eq _ rfl (h.gap e) h.i2
  · unfold opLns; rw [if_neg (by rw [e]; decide), if_pos (.inl e), if_pos (.inl e)]
    exact d.app s
  · unfold opLns; rw [if_neg (by rw [e]; decide), if_pos (.inr e), if_neg (by rw [e]; decide), List.append_nil]
    rw [← e2]; exact d
  · unfold opLns; rw [if_neg (by rw [e]; decide), if_neg (by rw [e]; decide), if_pos (.inr e), List.nil_append]
    rw [← e1] at s ⊢; exact s
theorem grp_scr {a b : List Str} : ∀ {g : List Op5} {i j i' j' : Int}, Cont i j g i' j' → (∀ o ∈ g, OpOk a b o) → Scr a b i j (g.flatMap (opLns a b)) i' j'
  | [], _, _, _, _, h, _ => by obtain ⟨rfl, rfl⟩ := h; exact .nil
  | o :: r, _, _, _, _, h, ok => by
    obtain ⟨rfl, rfl, h⟩ := h
    rw [List.flatMap_cons]
    exact (op_scr (ok o (.head _))).app (grp_scr h fun p hp => ok p (.tail _ hp))
theorem grp_lines (a b : List Str) (g : List Op5) : g.flatMap (opLines a b) = (g.flatMap (opLns a b)).map lnT := by
  induction g with
  | nil => rfl
  | cons o r ih => rw [List.flatMap_cons, List.flatMap_cons, List.map_append, ih, opLines_lns]
end
open PySem PySem.W PySem.W.X PyProof.Rows
section
set_option Elab.async false
set_option linter.unusedVariables false
theorem sl_len {α : Type} {xs : List α} {i j : Int} (h0 : 0 ≤ i) (h1 : i ≤ j) (h2 : j ≤ xs.length) : (sl xs i j).length = (j - i).toNat := by
  obtain ⟨i, rfl⟩ := Int.eq_ofNat_of_zero_le h0
  obtain ⟨j, rfl⟩ := Int.eq_ofNat_of_zero_le (Int.le_trans h0 h1)
  rw [sl_eq h0 h1 h2, List.length_take, List.length_drop, Int.toNat_natCast, Int.toNat_natCast, Int.toNat_sub]
  exact Nat.min_eq_left (Nat.sub_le_sub_right (Int.ofNat_le.mp h2) _)
theorem nb_lines {a b : List Str} {o : Op5} (h : OpOk a b o) (he : o.1 ≠ "equal") : (∃ p L, opLns a b o = p :: L) ∧ ∀ p ∈ opLns a b o, p.1 ≠ (" " : Str) := by
  have hall : ∀ p ∈ opLns a b o, p.1 ≠ (" " : Str) := fun p hp => by
    unfold opLns at hp
    rw [if_neg he] at hp
    rcases List.mem_append.mp hp with hp | hp
    · split at hp
      · obtain ⟨x, _, rfl⟩ := List.mem_map.mp hp
        exact (by decide : Str.ofString "-" ≠ Str.ofString " ")
      · cases hp
    · split at hp
      · obtain ⟨x, _, rfl⟩ := List.mem_map.mp hp
        exact (by decide : Str.ofString "+" ≠ Str.ofString " ")
      · cases hp
  refine ⟨?_, hall⟩
  have hl : 0 < (opLns a b o).length := by
    have l1 := sl_len h.i0 h.i1 h.i2
    have l2 := sl_len h.j0 h.j1 h.j2
    unfold opLns
    rw [if_neg he, List.length_append]
    rcases h.tg with ⟨e, _⟩ | ⟨e, z, _⟩ | ⟨e, z, _⟩ | ⟨e, _, z⟩
    · exact absurd e he
    · rw [if_pos (.inl e), List.length_map, l1]; lia
    · rw [if_pos (.inr e), List.length_map, l1]; lia
    · rw [if_pos (c := o.1 = "replace" ∨ o.1 = "insert") (.inr e), List.length_map, l2]; lia
  cases q : opLns a b o with
  | nil => rw [q] at hl; cases hl
  | cons p L => exact ⟨p, L, rfl⟩
theorem eq_lines {a b : List Str} {o : Op5} (h : OpOk a b o) (he : o.1 = "equal") : (opLns a b o).length = (o.2.2.1 - o.2.1).toNat ∧ ∀ p ∈ opLns a b o, p.1 = (" " : Str) := by
  unfold opLns
  rw [if_pos he]
  refine ⟨by rw [List.length_map, sl_len h.i0 h.i1 h.i2], fun p hp => ?_⟩
  obtain ⟨x, _, rfl⟩ := List.mem_map.mp hp
  rfl
/-- at the head at most k blanks, then a line that is no blank -/
theorem GrpFine.lead {a b : List Str} {k i j i' j' : Int} {g : List Op5} (hk : 0 ≤ k) (h : GrpFine a b k i j g i' j') : ∃ L1 p L2, g.flatMap (opLns a b) = L1 ++ p :: L2 ∧ p.1 ≠ (" " : Str) ∧ (L1.length : Int) ≤ k ∧ ∀ q ∈ L1, q.1 = (" " : Str) := by
  obtain ⟨o0, ho0, hne0⟩ := h.ch
  cases g with
  | nil => cases ho0
  | cons o r =>
    have hok := h.ok o (.head _)
    by_cases e : o.1 = "equal"
    · obtain ⟨l1, l2⟩ := eq_lines hok e
      have hs := h.hd o rfl e
      cases r with
      | nil =>
        rw [List.mem_singleton.mp ho0] at hne0
        exact absurd e hne0
      | cons p r =>
        have hp := h.ne.1 e
        obtain ⟨⟨q, L, hq⟩, hall⟩ := nb_lines (h.ok p (.tail _ (.head _))) hp
        refine ⟨opLns a b o, q, L ++ r.flatMap (opLns a b), ?_, hall q (by rw [hq]; exact .head _), by rw [l1]; lia, l2⟩
        rw [List.flatMap_cons, List.flatMap_cons, hq]; rfl
    · obtain ⟨⟨q, L, hq⟩, hall⟩ := nb_lines hok e
      exact ⟨[], q, L ++ r.flatMap (opLns a b), by rw [List.flatMap_cons, hq]; rfl, hall q (by rw [hq]; exact .head _), hk, fun _ h => (nomatch h)⟩
/-- at the end at most k blanks, before them a line that is no blank -/
theorem GrpFine.trail {a b : List Str} {k i j i' j' : Int} {g : List Op5} (hk : 0 ≤ k) (h : GrpFine a b k i j g i' j') : ∃ L1 p L2, g.flatMap (opLns a b) = L1 ++ p :: L2 ∧ p.1 ≠ (" " : Str) ∧ (L2.length : Int) ≤ k ∧ ∀ q ∈ L2, q.1 = (" " : Str) := by
  obtain ⟨o0, ho0, hne0⟩ := h.ch
  rcases List.eq_nil_or_concat g with e | ⟨q, o, e⟩
  · subst e; cases ho0
  rw [List.concat_eq_append] at e
  subst e
  have hok := h.ok o (List.mem_append_right _ (.head _))
  have last : ∀ u : Op5, OpOk a b u → u.1 ≠ "equal" → ∃ L p, opLns a b u = L ++ [p] ∧ p.1 ≠ (" " : Str) := fun u hu he => by
    obtain ⟨⟨q, L, hq⟩, hall⟩ := nb_lines hu he
    rcases List.eq_nil_or_concat (opLns a b u) with e | ⟨L', p, e⟩
    · rw [hq] at e; cases e
    · rw [List.concat_eq_append] at e
      exact ⟨L', p, e, hall p (by rw [e]; simp)⟩
  rw [List.flatMap_append, List.flatMap_cons, List.flatMap_nil, List.append_nil]
  by_cases e : o.1 = "equal"
  · obtain ⟨l1, l2⟩ := eq_lines hok e
    have hs := h.ls o (by rw [List.getLast?_append]; rfl) e
    rcases List.eq_nil_or_concat q with eq | ⟨q', u, eq⟩
    · subst eq
      rw [List.nil_append] at ho0
      rw [List.mem_singleton.mp ho0] at hne0
      exact absurd e hne0
    · rw [List.concat_eq_append] at eq
      subst eq
      have hu : u.1 ≠ "equal" := fun z => h.ne.mid z e
      obtain ⟨L, p, e1, e2⟩ := last u (h.ok u (by simp)) hu
      refine ⟨q'.flatMap (opLns a b) ++ L, p, opLns a b o, ?_, e2, by rw [l1]; lia, l2⟩
      rw [List.flatMap_append, List.flatMap_cons, List.flatMap_nil, List.append_nil, e1]
      simp only [List.append_assoc]; rfl
  · obtain ⟨L, p, e1, e2⟩ := last o hok e
    exact ⟨q.flatMap (opLns a b) ++ L, p, [], by rw [e1, List.append_assoc], e2, hk, fun _ h => (nomatch h)⟩
end
open PySem PySem.W PySem.W.X PyProof.Rows
section
set_option Elab.async false
set_option linter.unusedVariables false
theorem app_cut {c : Nat} : ∀ {p q r s : List Nat}, c ∉ p → c ∉ q → p ++ c :: r = q ++ c :: s → p = q ∧ r = s
  | [], [], _, _, _, _, h => ⟨rfl, (List.cons.inj h).2⟩
  | [], y :: q, _, _, _, hq, h => absurd (List.cons.inj h).1 (fun e => hq (e ▸ .head _))
  | x :: p, [], _, _, hp, _, h => absurd (List.cons.inj h).1 (fun e => hp (e ▸ .head _))
  | x :: p, y :: q, r, s, hp, hq, h => by
    obtain ⟨e1, e2⟩ := List.cons.inj h
    obtain ⟨e3, e4⟩ := app_cut (fun m => hp (.tail _ m)) (fun m => hq (.tail _ m)) e2
    exact ⟨by rw [e1, e3], e4⟩
theorem str_list {x y : Str} (h : x.cps.toList = y.cps.toList) : x = y := Str.ext' (Array.toList_inj.mp h)
theorem join_list (c : Nat) (x y : Str) (r : List Str) : (Str.join ⟨#[c]⟩ (x :: y :: r)).cps.toList = x.cps.toList ++ c :: (Str.join ⟨#[c]⟩ (y :: r)).cps.toList := by
  show (x ++ (⟨#[c]⟩ : Str) ++ Str.join ⟨#[c]⟩ (y :: r)).cps.toList = _
  rw [Str.cps_append, Str.cps_append, Array.toList_append, Array.toList_append]
  simp
theorem join_inj {c : Nat} : ∀ {L M : List Str}, L ≠ [] → M ≠ [] → (∀ p ∈ L, c ∉ p.cps.toList) → (∀ p ∈ M, c ∉ p.cps.toList) → (Str.join ⟨#[c]⟩ L).cps.toList = (Str.join ⟨#[c]⟩ M).cps.toList → L = M
  | [], _, h, _, _, _, _ => absurd rfl h
  | _, [], _, h, _, _, _ => absurd rfl h
  | [x], [y], _, _, _, _, h => by rw [str_list (x := x) (y := y) h]
  | [x], y :: z :: r, _, _, hp, _, h => by
    rw [join_list] at h
    exact absurd (show c ∈ x.cps.toList by rw [show x.cps.toList = _ from h]; simp) (hp x (.head _))
  | x :: z :: r, [y], _, _, _, hp, h => by
    rw [join_list] at h
    exact absurd (show c ∈ y.cps.toList by rw [show y.cps.toList = _ from h.symm]; simp) (hp y (.head _))
  | x :: x' :: r, y :: y' :: s, _, _, h1, h2, h => by
    rw [join_list, join_list] at h
    obtain ⟨e1, e2⟩ := app_cut (h1 x (.head _)) (h2 y (.head _)) h
    rw [str_list e1, join_inj (L := x' :: r) (M := y' :: s) nofun nofun (fun p hp => h1 p (.tail _ hp)) (fun p hp => h2 p (.tail _ hp)) e2]
theorem splitS_ne (x y : Str) : splitS x y ≠ [] := by
  unfold splitS
  split
  · nofun
  · split
    · nofun
    · rw [StrLaws.partsBetween_eq]
      obtain ⟨p, r, e⟩ := StrLaws.partsFrom_ne x y.length 0 (Builtin.Str.occurrences x y 0 x.length (x.length + 1))
      rw [e]; nofun
/-- texts that hold no such sign, joined by it, are what split gives back -/
theorem splitS_of {c : Nat} {L : List Str} (hn : L ≠ []) (h : ∀ p ∈ L, c ∉ p.cps.toList) : splitS (Str.join ⟨#[c]⟩ L) ⟨#[c]⟩ = L :=
  join_inj (splitS_ne _ _) hn (StrLaws.split_free _ c) h (congrArg (fun z : Str => z.cps.toList) (StrLaws.join_split (Str.join ⟨#[c]⟩ L) ⟨#[c]⟩))
theorem fru_blank0 : (List.range 13).all (fun a => (List.range 13).all fun b => decide (b < a) || !((fru a b).cps.toList.contains 32)) = true := by decide +kernel
theorem fru_blank {x y : Int} (h0 : 0 ≤ x) (h1 : x ≤ y) (h2 : y ≤ 12) : 32 ∉ (fru x y).cps.toList := by
  obtain ⟨a, rfl⟩ := Int.eq_ofNat_of_zero_le h0
  obtain ⟨b, rfl⟩ := Int.eq_ofNat_of_zero_le (show 0 ≤ y by lia)
  have h := List.all_eq_true.mp (List.all_eq_true.mp fru_blank0 a (List.mem_range.mpr (by lia))) b (List.mem_range.mpr (by lia))
  rw [Bool.or_eq_true, decide_eq_true_eq, Bool.not_eq_true', ← Bool.not_eq_true, List.contains_iff_mem] at h
  rcases h with h | h
  · lia
  · exact h
noncomputable def w1 (f : Str) : Str := ⟨#[45]⟩ ++ f
noncomputable def w2 (f : Str) : Str := ⟨#[43]⟩ ++ f
noncomputable def wds (f g : Str) : List Str := [Str.ofString "@@", w1 f, w2 g, Str.ofString "@@\n"]
theorem sg_at : Str.ofString "@@" = ⟨#[64, 64]⟩ := by decide +kernel
theorem sg_atn : Str.ofString "@@\n" = ⟨#[64, 64, 10]⟩ := by decide +kernel
theorem sg_bl : Str.ofString " " = ⟨#[32]⟩ := by decide +kernel
theorem sg_mi : Str.ofString "-" = ⟨#[45]⟩ := by decide +kernel
theorem sg_pl : Str.ofString "+" = ⟨#[43]⟩ := by decide +kernel
theorem sg_nl : Str.ofString "\n" = ⟨#[10]⟩ := by decide +kernel
theorem sg_a : Str.ofString "@" = ⟨#[64]⟩ := by decide +kernel
theorem at_join (f g : Str) : (Str.mk #[64, 64, 32, 45] ++ f) ++ ((Str.mk #[32, 43] ++ g) ++ ((Str.mk #[32, 64, 64] ++ Str.ofString "\n") ++ Str.empty)) = Str.join ⟨#[32]⟩ (wds f g) := by
  apply str_list
  unfold wds
  rw [join_list, join_list, join_list, sg_at, sg_nl]
  show _ = _ ++ 32 :: (_ ++ 32 :: (_ ++ 32 :: (Str.ofString "@@\n").cps.toList))
  rw [sg_atn]
  simp [w1, w2, Str.cps_append, Str.empty]
theorem split_at {f g : Str} (hf : 32 ∉ f.cps.toList) (hg : 32 ∉ g.cps.toList) : splitS ((Str.mk #[64, 64, 32, 45] ++ f) ++ ((Str.mk #[32, 43] ++ g) ++ ((Str.mk #[32, 64, 64] ++ Str.ofString "\n") ++ Str.empty))) (Str.ofString " ") = wds f g := by
  rw [at_join, sg_bl]
  refine splitS_of nofun fun p hp => ?_
  simp only [wds, List.mem_cons, List.not_mem_nil, or_false] at hp
  rcases hp with rfl | rfl | rfl | rfl
  · rw [sg_at]; decide
  · unfold w1; rw [Str.cps_append, Array.toList_append]; simpa using hf
  · unfold w2; rw [Str.cps_append, Array.toList_append]; simpa using hg
  · rw [sg_atn]; decide
theorem tailS_list (x : Str) (h : 1 ≤ x.length) : (tailS x 1).cps.toList = x.cps.toList.drop 1 := by
  have e : slicePicked x (some ((1 : Int), (0 : Tok))) none none = (List.range (x.length - 1)).map (fun k => 1 + k) := by
    have := StrLaws.strSliceIndices_plain (a := 1) (b := x.length) (len := x.length) h (Nat.le_refl _)
    have e2 : Builtin.Str.strSliceIndices (some ((1 : Nat) : Int)) (some (x.length : Int)) 1 x.length = Builtin.Str.strSliceIndices (some (1 : Int)) none 1 x.length := by
      unfold Builtin.Str.strSliceIndices
      simp only [show ((1 : Int) > 0) = True from by simp, if_true]
      rw [if_neg (show ¬ ((x.length : Int) < 0) by lia), show max (0 : Int) (min (x.length : Int) (x.length : Int)) = x.length by lia]
      rfl
    rw [e2] at this
    exact this
  have hl : x.length = x.cps.toList.length := by simp [Str.length]
  have e3 : (slicePicked x (some ((1 : Int), (0 : Tok))) none none).filterMap (x.cps[·]?) = x.cps.toList.drop 1 := by
    rw [e]
    have := StrLaws.picks x.cps.toList (x.length - 1) 1 (by lia)
    rw [List.take_of_length_le (by rw [List.length_drop]; lia)] at this
    simpa using this
  unfold tailS
  rw [if_neg (by rw [e, List.length_map, List.length_range, beq_iff_eq]; lia)]
  show (List.filterMap _ _).toArray.toList = _
  rw [e3]
theorem tailS_cons (c : Nat) (f : Str) : tailS (⟨#[c]⟩ ++ f) 1 = f := by
  apply str_list
  rw [tailS_list _ (by rw [Str.length_append]; show 1 ≤ 1 + _; lia), Str.cps_append, Array.toList_append]
  rfl
theorem head_cons (c : Nat) (f : Str) : ((⟨#[c]⟩ ++ f : Str)).cps[0]? = some c := by
  rw [← Array.getElem?_toList, Str.cps_append, Array.toList_append]; rfl
/-- the signs, as a text -/
noncomputable def sgs (l : List Nat) : Str := ⟨l.toArray⟩
theorem sgs_snoc (l : List Nat) (c : Nat) : sgs l ++ ⟨#[c]⟩ = sgs (l ++ [c]) := str_list (by rw [Str.cps_append, Array.toList_append]; simp [sgs])
theorem sgs_len (l : List Nat) : (sgs l).length = l.length := by simp [sgs, Str.length]
theorem stripC_eq (l r : Bool) (x y : Str) : stripC l r x y = Builtin.Str.strSub x (stripLo y.cps.contains l x) (stripHi y.cps.contains r x (stripLo y.cps.contains l x)) := PyProof.Rows.stripBy_eq _ l r x
theorem bl_con (c : Nat) : (Str.ofString " ").cps.contains c = (c == 32) := by
  rw [sg_bl]
  show Array.contains #[32] c = _
  rw [Bool.eq_iff_iff]; simp
theorem tw_run {A B : List Nat} {c : Nat} (hA : ∀ x ∈ A, x = 32) (hc : c ≠ 32) : ((A ++ c :: B).takeWhile (Str.ofString " ").cps.contains) = A := by
  rw [List.takeWhile_append_of_pos (fun a ha => by rw [bl_con, hA a ha]; rfl), List.takeWhile_cons, bl_con, if_neg (by simpa using hc), List.append_nil]
theorem tw_le {A B : List Nat} {c : Nat} (hc : c ≠ 32) : ((A ++ c :: B).takeWhile (Str.ofString " ").cps.contains).length ≤ A.length := by
  induction A with
  | nil => rw [List.nil_append, List.takeWhile_cons, bl_con, if_neg (by simpa using hc)]; exact Nat.le_refl _
  | cons x A ih =>
    rw [List.cons_append, List.takeWhile_cons]
    split
    · rw [List.length_cons, List.length_cons]; lia
    · exact Nat.zero_le _
theorem strSub_len (x : Str) {i j : Nat} (hj : j ≤ x.length) : (Builtin.Str.strSub x i j).length = j - i := by
  show (x.cps.extract i j).size = _
  rw [Array.size_extract, Nat.min_eq_left (show j ≤ x.cps.size from hj)]
theorem lstrip_len {A B : List Nat} {c : Nat} (hA : ∀ x ∈ A, x = 32) (hc : c ≠ 32) : (stripC true false (sgs (A ++ c :: B)) (Str.ofString " ")).length = (A ++ c :: B).length - A.length := by
  rw [stripC_eq]
  have e : stripLo (Str.ofString " ").cps.contains true (sgs (A ++ c :: B)) = A.length := by
    show ((A ++ c :: B).takeWhile (Str.ofString " ").cps.contains).length = _
    rw [tw_run hA hc]
  rw [e]
  show (Builtin.Str.strSub _ _ (sgs (A ++ c :: B)).length).length = _
  rw [strSub_len _ (Nat.le_refl _), sgs_len]
theorem rstrip_len {A B : List Nat} {c : Nat} (hB : ∀ x ∈ B, x = 32) (hc : c ≠ 32) : (stripC false true (sgs (A ++ c :: B)) (Str.ofString " ")).length = (A ++ c :: B).length - B.length := by
  rw [stripC_eq]
  have e : stripHi (Str.ofString " ").cps.contains true (sgs (A ++ c :: B)) 0 = (A ++ c :: B).length - B.length := by
    show (sgs (A ++ c :: B)).length - (((A ++ c :: B).drop 0).reverse.takeWhile (Str.ofString " ").cps.contains).length = _
    rw [List.drop_zero, List.reverse_append, List.reverse_cons, List.append_assoc, List.singleton_append, tw_run (fun x hx => hB x (List.mem_reverse.mp hx)) hc, List.length_reverse, sgs_len]
  show (Builtin.Str.strSub _ 0 (stripHi _ true _ 0)).length = _
  rw [e, strSub_len _ (by rw [sgs_len]; lia)]; lia
theorem strip_some {A B : List Nat} {c : Nat} (hc : c ≠ 32) : (stripC true true (sgs (A ++ c :: B)) (Str.ofString " ") == Str.ofString "") = false := by
  rw [beq_eq_false_iff_ne]
  intro h
  have h := congrArg Str.length h
  rw [stripC_eq] at h
  have hl : stripLo (Str.ofString " ").cps.contains true (sgs (A ++ c :: B)) ≤ A.length := tw_le hc
  generalize stripLo (Str.ofString " ").cps.contains true (sgs (A ++ c :: B)) = m at h hl
  have e : stripHi (Str.ofString " ").cps.contains true (sgs (A ++ c :: B)) m = (A ++ c :: B).length - (((A ++ c :: B).drop m).reverse.takeWhile (Str.ofString " ").cps.contains).length := by
    show (sgs (A ++ c :: B)).length - _ = _
    rw [sgs_len]; rfl
  have h2 : (((A ++ c :: B).drop m).reverse.takeWhile (Str.ofString " ").cps.contains).length ≤ B.length := by
    rw [List.drop_append_of_le_length hl, List.reverse_append, List.reverse_cons, List.append_assoc, List.singleton_append]
    have := tw_le (A := B.reverse) (B := (A.drop m).reverse) hc
    rwa [List.length_reverse] at this
  rw [e, strSub_len _ (by rw [sgs_len]; lia), List.length_append, List.length_cons] at h
  have : (Str.ofString "").length = 0 := by decide +kernel
  lia
end
open PySem PySem.W PySem.W.X PyProof.Rows
section
set_option Elab.async false
set_option linter.unusedVariables false
theorem Scr.len {a b : List Str} {i j i' j' : Int} {L : List Ln} (h : Scr a b i j L i' j') : i ≤ i' ∧ j ≤ j' ∧ (L.length : Int) ≤ (i' - i) + (j' - j) := by
  induction h with
  | nil => exact ⟨Int.le_refl _, Int.le_refl _, by simp⟩
  | eq _ _ _ _ _ ih => obtain ⟨x, y, z⟩ := ih; rw [List.length_cons]; refine ⟨by lia, by lia, by lia⟩
  | del _ _ _ _ ih => obtain ⟨x, y, z⟩ := ih; rw [List.length_cons]; refine ⟨by lia, by lia, by lia⟩
  | ins _ _ _ _ ih => obtain ⟨x, y, z⟩ := ih; rw [List.length_cons]; refine ⟨by lia, by lia, by lia⟩
theorem take_snoc {b : List Str} {j : Int} {x : Str} (h0 : 0 ≤ j) (h : b[j.toNat]? = some x) : b.take j.toNat ++ [x] = b.take (j + 1).toNat := by
  rw [show (j + 1).toNat = j.toNat + 1 by lia, List.take_add_one, h]; rfl
theorem gap_take {a b : List Str} : ∀ (n : Nat) {i i' j j' : Int}, (i' - i).toNat = n → Gap a b i j i' j' → i' ≤ a.length → b.take j.toNat ++ sl a i i' = b.take j'.toNat
  | 0, i, i', j, j', hn, hg, h2 => by
    have h1 := hg.le; have h3 := hg.df
    have e : i = i' := by lia
    have e' : j = j' := by lia
    subst e; subst e'
    rw [sl_nil hg.i0 h2, List.append_nil]
  | n + 1, i, i', j, j', hn, hg, h2 => by
    have h1 := hg.le; have h3 := hg.df
    obtain ⟨x, e1, e2⟩ := sl_cons (xs := a) hg.i0 (show i < i' by lia) h2
    obtain ⟨_, _, y, f1, f2⟩ := hg.eq 0 (Int.le_refl _) (by lia)
    rw [Int.add_zero] at f1 f2
    rw [e1] at f1; cases f1
    have hg' : Gap a b (i + 1) (j + 1) i' j' := ⟨by have := hg.i0; lia, by have := hg.j0; lia, by lia, by lia, fun t p q => by
      have := hg.eq (1 + t) (by lia) (by lia)
      rw [show i + (1 + t) = i + 1 + t by lia, show j + (1 + t) = j + 1 + t by lia] at this
      exact this⟩
    rw [e2, List.append_cons, take_snoc hg.j0 f2]
    exact gap_take n (by lia) hg' h2
theorem gap_end {a b : List Str} {i j : Int} (h : Gap a b i j a.length b.length) : b.take j.toNat ++ a.drop i.toNat = b := by
  have := gap_take _ rfl h (Int.le_refl _)
  rw [sl_eq h.i0 h.le (Int.le_refl _), Int.toNat_natCast, Int.toNat_natCast, List.take_length] at this
  rwa [List.take_of_length_le (l := a.drop i.toNat) (by rw [List.length_drop]; lia)] at this
theorem grps_len {a b : List Str} {k i j : Int} {gs : List (List Op5)} (hk : 0 ≤ k) (h : Grps a b k i j gs) : ((gs.flatMap (grpLines a b)).length : Int) ≤ 2 * ((a.length - i) + (b.length - j)) := by
  induction h with
  | @done i j g =>
    have h1 := g.le; have h2 := g.df
    simp only [List.flatMap_nil, List.length_nil]; lia
  | @grp i j i1 j1 i2 j2 g gs hg hf hr ih =>
    have h1 := hg.le; have h2 := hg.df
    obtain ⟨s1, s2, s3⟩ := (grp_scr hf.ct hf.ok).len
    obtain ⟨L1, p, L2, e, _⟩ := hf.lead hk
    have : 1 ≤ (g.flatMap (opLns a b)).length := by rw [e, List.length_append, List.length_cons]; lia
    have hl : (grpLines a b g).length = (g.flatMap (opLns a b)).length + 1 := by
      unfold grpLines
      rw [List.length_cons, grp_lines, List.length_map]
    rw [List.flatMap_cons, List.length_append, hl]
    lia
/-- the lines behind a group: none, or the next group's first -/
noncomputable def TailOk (T : List Str) : Prop := T = [] ∨ ∃ x r, T = x :: r ∧ x.cps[0]? = some 64
theorem tail_ok (a b : List Str) (gs : List (List Op5)) : TailOk (gs.flatMap (grpLines a b)) := by
  cases gs with
  | nil => exact .inl rfl
  | cons g r =>
    refine .inr ⟨_, _, rfl, ?_⟩
    unfold atLine
    rw [← Array.getElem?_toList, Str.cps_append, Array.toList_append, Str.cps_append, Array.toList_append]; rfl
theorem at_mid {P Q : List Str} {x : Str} {i : Nat} (h : i = P.length) : (P ++ x :: Q)[i]? = some x := by
  subst h
  rw [List.getElem?_append_right (Nat.le_refl _), Nat.sub_self]; rfl
noncomputable def sgn (p : Ln) : Nat := p.1.cps.toList.headD 0
theorem sgn_bl (x : Str) : sgn (Str.ofString " ", x) = 32 := by unfold sgn; rw [sg_bl]; rfl
theorem sgn_mi (x : Str) : sgn (Str.ofString "-", x) = 45 := by unfold sgn; rw [sg_mi]; rfl
theorem sgn_pl (x : Str) : sgn (Str.ofString "+", x) = 43 := by unfold sgn; rw [sg_pl]; rfl
theorem Scr.sg {a b : List Str} {i j i' j' : Int} {L : List Ln} (h : Scr a b i j L i' j') : ∀ p ∈ L, p.1 ≠ (" " : Str) → sgn p ≠ 32 := by
  have e1 : (Str.ofString " " : Str) = " " := rfl
  induction h with
  | nil => exact fun p h => nomatch h
  | eq _ _ _ _ _ ih =>
    intro p hp hne
    rcases List.mem_cons.mp hp with rfl | hp
    · exact absurd rfl hne
    · exact ih p hp hne
  | @del _ _ _ _ x _ _ _ _ _ ih =>
    intro p hp hne
    rcases List.mem_cons.mp hp with rfl | hp
    · rw [show sgn _ = 45 from sgn_mi x]; decide
    · exact ih p hp hne
  | @ins _ _ _ _ x _ _ _ _ _ ih =>
    intro p hp hne
    rcases List.mem_cons.mp hp with rfl | hp
    · rw [show sgn _ = 43 from sgn_pl x]; decide
    · exact ih p hp hne
theorem sgn_blank {p : Ln} (h : p.1 = (" " : Str)) : sgn p = 32 := by
  obtain ⟨u, x⟩ := p
  subst h; exact sgn_bl x
theorem lnT_c {s x : Str} {c : Nat} (h : s = ⟨#[c]⟩) : (lnT (s, x)).cps[0]? = some c ∧ tailS (lnT (s, x)) 1 = x := by
  subst h
  exact ⟨head_cons c x, tailS_cons c x⟩
/-- one line of a script -/
theorem Scr.step {a b : List Str} {i j i' j' : Int} {p : Ln} {L : List Ln} (h : Scr a b i j (p :: L) i' j') (hi : i' ≤ a.length) : ∃ c i1 j1, p.1 = (⟨#[c]⟩ : Str) ∧ c ≠ 64 ∧ 0 ≤ i ∧ 0 ≤ j ∧ (c = 43 → i1 = i) ∧ (c ≠ 43 → i1 = i + 1 ∧ sl a i (i + 1) = [p.2]) ∧ (c = 45 → j1 = j) ∧
    (c ≠ 45 → b.take j.toNat ++ [p.2] = b.take j1.toNat) ∧ Scr a b i1 j1 L i' j' := by
  have one : ∀ x, 0 ≤ i → i + 1 ≤ i' → a[i.toNat]? = some x → sl a i (i + 1) = [x] := fun x h0 h1 e => by
    obtain ⟨y, e1, e2⟩ := sl_cons (xs := a) h0 (show i < i + 1 by lia) (show i + 1 ≤ a.length by lia)
    rw [e] at e1; cases e1
    rw [e2, sl_nil (by lia) (by lia)]
  cases h with
  | eq h0 h1 e1 e2 hr => exact ⟨32, i + 1, j + 1, sg_bl, by decide, h0, h1, fun z => absurd z (by decide), fun _ => ⟨rfl, one _ h0 hr.len.1 e1⟩, fun z => absurd z (by decide), fun _ => take_snoc h1 e2, hr⟩
  | del h0 h1 e1 hr => exact ⟨45, i + 1, j, sg_mi, by decide, h0, h1, fun z => absurd z (by decide), fun _ => ⟨rfl, one _ h0 hr.len.1 e1⟩, fun _ => rfl, fun z => absurd rfl z, hr⟩
  | ins h0 h1 e2 hr => exact ⟨43, i, j + 1, sg_pl, by decide, h0, h1, fun _ => rfl, fun z => absurd rfl z, fun z => absurd z (by decide), fun _ => take_snoc h1 e2, hr⟩
noncomputable def atL (i1 i2 j1 j2 : Int) : Str := (Str.mk #[64, 64, 32, 45] ++ fru i1 i2) ++ ((Str.mk #[32, 43] ++ fru j1 j2) ++ ((Str.mk #[32, 64, 64] ++ Str.ofString "\n") ++ Str.empty))
theorem GrpFine.lines {a b : List Str} {k i1 j1 i2 j2 : Int} {g : List Op5} (h : GrpFine a b k i1 j1 g i2 j2) : grpLines a b g = atL i1 i2 j1 j2 :: (g.flatMap (opLns a b)).map lnT := by
  obtain ⟨f, l, hf, hl, e1, e2, e3, e4, _⟩ := h.ends
  unfold grpLines
  rw [grp_lines, show g.headD d0 = f by rw [List.headD_eq_head?_getD, hf]; rfl, show g.getLastD d0 = l by rw [List.getLastD_eq_getLast?, hl]; rfl]
  unfold atLine
  rw [e1, e2, e3, e4]; rfl
theorem atL_split {i1 i2 j1 j2 : Int} (h1 : 0 ≤ i1) (h2 : i1 ≤ i2) (h3 : i2 ≤ 12) (h4 : 0 ≤ j1) (h5 : j1 ≤ j2) (h6 : j2 ≤ 12) : splitS (atL i1 i2 j1 j2) (Str.ofString " ") = wds (fru i1 i2) (fru j1 j2) := split_at (fru_blank h1 h2 h3) (fru_blank h4 h5 h6)
theorem fru_short0 : (List.range 13).all (fun a => (List.range 13).all fun b => decide (b < a) || decide ((fru a b).length ≤ 100)) = true := by decide +kernel
theorem fru_short {x y : Int} (h0 : 0 ≤ x) (h1 : x ≤ y) (h2 : y ≤ 12) : (fru x y).length ≤ 100 := by
  obtain ⟨a, rfl⟩ := Int.eq_ofNat_of_zero_le h0
  obtain ⟨b, rfl⟩ := Int.eq_ofNat_of_zero_le (show 0 ≤ y by lia)
  have h := List.all_eq_true.mp (List.all_eq_true.mp fru_short0 a (List.mem_range.mpr (by lia))) b (List.mem_range.mpr (by lia))
  rw [Bool.or_eq_true, decide_eq_true_eq, decide_eq_true_eq] at h
  rcases h with h | h
  · lia
  · exact h
theorem atL_len {i1 i2 j1 j2 : Int} (h1 : 0 ≤ i1) (h2 : i1 ≤ i2) (h3 : i2 ≤ 12) (h4 : 0 ≤ j1) (h5 : j1 ≤ j2) (h6 : j2 ≤ 12) : (atL i1 i2 j1 j2).length ≤ 1000 := by
  have e1 := fru_short h1 h2 h3
  have e2 := fru_short h4 h5 h6
  unfold atL
  rw [Str.length_append, Str.length_append, Str.length_append, Str.length_append, Str.length_append, sg_nl]
  show 4 + _ + (2 + _ + (3 + 1 + 0)) ≤ _
  lia
theorem Scr.pos {a b : List Str} {i j i' j' : Int} {L : List Ln} (h : Scr a b i j L i' j') {A : Nat} (hm : ∀ x ∈ a, x.length ≤ A) (hm' : ∀ x ∈ b, x.length ≤ A) : ∀ p ∈ L, (lnT p).length ≤ A + 1 := by
  have key : ∀ (s x : Str) (c : Nat), s = ⟨#[c]⟩ → x.length ≤ A → (lnT (s, x)).length ≤ A + 1 := fun s x c e hx => by
    subst e; unfold lnT; rw [Str.length_append]; show 1 + x.length ≤ _; lia
  induction h with
  | nil => exact fun p h => nomatch h
  | eq _ _ e _ _ ih =>
    intro p hp
    rcases List.mem_cons.mp hp with rfl | hp
    · exact key _ _ _ sg_bl (hm _ (List.mem_of_getElem? e))
    · exact ih p hp
  | del _ _ e _ ih =>
    intro p hp
    rcases List.mem_cons.mp hp with rfl | hp
    · exact key _ _ _ sg_mi (hm _ (List.mem_of_getElem? e))
    · exact ih p hp
  | ins _ _ e _ ih =>
    intro p hp
    rcases List.mem_cons.mp hp with rfl | hp
    · exact key _ _ _ sg_pl (hm' _ (List.mem_of_getElem? e))
    · exact ih p hp
end
open PySem PySem.W PySem.W.X PyProof.Rows
section
set_option Elab.async false
set_option linter.unusedVariables false
set_option maxRecDepth 100000
section
variable {c : Cx} {n : Nat} {cs : List CellAt} {vs : List MV} {r : List Stmt} {k : List (List Stmt)} {P : Fl → List CellAt → List MV → Prop}
theorem EV.to {e : Expr} {m m' : MV} (h : EV c n cs vs e m) (q : m = m') : EV c n cs vs e m' := q ▸ h
theorem EV.toS {e : Expr} {x y : Str} (h : EV c n cs vs e (.str x)) (q : x = y) : EV c n cs vs e (.str y) := q ▸ h
theorem TV.to {e : Expr} {b b' : Bool} (h : TV c n cs vs e b) (q : b = b') : TV c n cs vs e b' := q ▸ h
theorem TV.nesF {l r : Expr} {pos : Pos} {a b : Str} (h1 : EV c n cs vs l (.str a)) (h2 : EV c n cs vs r (.str b)) (e : a = b) (hm : behindInMarks .NotEq r = false := by kernel_rfl) : TV c n cs vs (.Compare l [.NotEq] [r] pos) false :=
  (TV.nes h1 h2 hm).to (by subst e; exact bne_self_eq_false _)
theorem TV.nesT {l r : Expr} {pos : Pos} {a b : Str} (h1 : EV c n cs vs l (.str a)) (h2 : EV c n cs vs r (.str b)) (e : a ≠ b) (hm : behindInMarks .NotEq r = false := by kernel_rfl) : TV c n cs vs (.Compare l [.NotEq] [r] pos) true :=
  (TV.nes h1 h2 hm).to (bne_iff_ne.mpr e)
theorem TV.neiF {l r : Expr} {pos : Pos} {a b : Int} (h1 : EV c n cs vs l (.int a)) (h2 : EV c n cs vs r (.int b)) (e : a = b) (hm : behindInMarks .NotEq r = false := by kernel_rfl) : TV c n cs vs (.Compare l [.NotEq] [r] pos) false :=
  (TV.nei h1 h2 hm).to (by subst e; exact bne_self_eq_false _)
theorem ORs.consF {e : Expr} {es : List Expr} {b : Bool} (h : TV c n cs vs e false) (hr : ORs c n cs vs es b) : ORs c n cs vs (e :: es) b := ORs.cons (b := false) h fun _ => hr
theorem ANDs.consT {e : Expr} {es : List Expr} {b : Bool} (h : TV c n cs vs e true) (hr : ANDs c n cs vs es b) : ANDs c n cs vs (e :: es) b := ANDs.cons (b := true) h fun _ => hr
theorem ANDs.stopF {e : Expr} {es : List Expr} (h : TV c n cs vs e false) : ANDs c n cs vs (e :: es) false := ANDs.cons (b := false) (d := true) h (fun x => nomatch x)
theorem XS.iteF {t : Expr} {b1 b2 : List Stmt} {pos : Pos} (ht : TV c n cs vs t false) (h : XS c n cs vs (b2 :: r :: k) P) : XS c n cs vs ((.If t b1 b2 pos :: r) :: k) P := XS.ite ht (fun x => nomatch x) fun _ => h
theorem CS.lenMs {a : List Str} (hz : a.length ≤ 100000) : CS c n cs vs (.builtin "len") [mstrs a] (.int a.length) := by
  have := CS.lenL (c := c) (n := n) (cs := cs) (vs := vs) (xs := a.map MV.str) (by rw [List.length_map]; exact hz)
  rwa [List.length_map] at this
theorem CS.splitTo {x y : Str} {L : List Str} (hy : (y.length == 0) = false) (hx : x.length ≤ 100000) (h : splitS x y = L) (hn : L.length ≤ 100000) : CS c n cs vs (.builtin "str.split") [.str x, .str y] (mstrs L) := by
  subst h; exact CS.split hy hx hn
theorem EV.catM {l r : Expr} {pos : Pos} {a b : List Str} (h1 : EV c n cs vs l (mstrs a)) (h2 : EV c n cs vs r (mstrs b)) (hz : a.length + b.length ≤ 100000) : EV c n cs vs (.BinOp l .Add r pos) (mstrs (a ++ b)) := by
  have := EV.catL (pos := pos) h1 h2 (by rw [List.length_map, List.length_map]; exact hz)
  rwa [← List.map_append] at this
theorem EV.sliceM {b lo hi : Expr} {p pos : Pos} {a s : List Str} {i j : Int} (hb : EV c n cs vs b (mstrs a)) (h1 : EV c n cs vs lo (.int i)) (h2 : EV c n cs vs hi (.int j)) (hz : a.length ≤ 100000) (hs : sl a i j = s) :
    EV c n cs vs (.Subscript b (.Slice (some lo) (some hi) none p) pos) (mstrs s) := by
  subst hs; exact EV.sliceA hb h1 h2 hz
theorem EV.sliceR {b lo : Expr} {p pos : Pos} {a : List Str} {i : Int} (hb : EV c n cs vs b (mstrs a)) (h1 : EV c n cs vs lo (.int i)) (h0 : 0 ≤ i) (h2 : i ≤ a.length) (hz : a.length ≤ 100000) :
    EV c n cs vs (.Subscript b (.Slice (some lo) none none p) pos) (mstrs (a.drop i.toNat)) := by
  have := EV.sliceL (pos := pos) (p := p) hb (.some h1) .none (by rw [List.length_map]; exact hz)
  have e1 : kms_lo (some i) (a.map MV.str).length = i.toNat := by
    rw [List.length_map]
    show (if i < 0 then _ else min i.toNat a.length) = _
    rw [if_neg (by lia)]; lia
  have e2 : kms_hi none (a.map MV.str).length = a.length := List.length_map _
  rw [e1, e2, ← List.map_drop, List.take_of_length_le (by rw [List.length_map, List.length_drop]; lia)] at this
  exact this
theorem EV.itemM {b i : Expr} {pos : Pos} {a : List Str} {k : Int} {x : Str} (hb : EV c n cs vs b (mstrs a)) (hi : EV c n cs vs i (.int k)) (h0 : 0 ≤ k) (h1 : k < 2 ^ 63) (hx : a[k.toNat]? = some x)
    (hs : ∀ u v, ∃ ops, subscripted i false u v = operate ops (getItem u v) := by exact fun _ _ => ⟨_, rfl⟩) : EV c n cs vs (.Subscript b i pos) (.str x) :=
  EV.itemL hb hi h0 h1 (by rw [List.getElem?_map, hx]; rfl) hs
structure Hit (a : List Str) (k : Int) (x : Str) : Prop where
  lo : 0 ≤ k
  hi : k < 2 ^ 63
  get : a[k.toNat]? = some x
structure Sgn0 (x : Str) (cp : Nat) : Prop where
  get : x.cps[(0 : Int).toNat]? = some cp
structure Tl1 (x y : Str) : Prop where
  len : x.length ≤ 100000
  eq : tailS x 1 = y
theorem EV.itemH {b i : Expr} {pos : Pos} {a : List Str} {k : Int} {x : Str} (hb : EV c n cs vs b (mstrs a)) (hi : EV c n cs vs i (.int k)) (h : Hit a k x)
    (hs : ∀ u v, ∃ ops, subscripted i false u v = operate ops (getItem u v) := by exact fun _ _ => ⟨_, rfl⟩) : EV c n cs vs (.Subscript b i pos) (.str x) :=
  EV.itemM hb hi h.lo h.hi h.get hs
theorem EV.item0 {b : Expr} {p pos : Pos} {j : Nat} {x : Str} {cp : Nat} (hb : EV c n cs vs b (.str x)) (h : Sgn0 x cp) : EV c n cs vs (.Subscript b (.Constant (.int 0) j p) pos) (.str ⟨#[cp]⟩) :=
  EV.itemS (k := 0) hb EV.cint (by decide) (by decide) h.get
theorem EV.tail1 {b : Expr} {p p' pos : Pos} {j : Nat} {x y : Str} (hb : EV c n cs vs b (.str x)) (h : Tl1 x y) : EV c n cs vs (.Subscript b (.Slice (some (.Constant (.int 1) j p)) none none p') pos) (.str y) :=
  (EV.tailS hb EV.cint h.len).toS h.eq
/-- a loop without break: what stands behind its body is a name, not told again -/
theorem XS.whileP {test : Expr} {body : List Stmt} {pos : Pos} (I : Nat → List CellAt → List MV → Prop) (B : List CellAt → List MV → Prop) (j : Nat) (h0 : I j cs vs) (hB : ∀ cs' vs', B cs' vs' → XS c n cs' vs' (r :: k) P)
    (turn : ∀ j cs vs, I j cs vs → ∃ b, TV c n cs vs test b ∧ (b = true → ∀ PP : Fl → List CellAt → List MV → Prop, (∀ m cs' vs', m < j → I m cs' vs' → PP .next cs' vs') → XS c n cs vs [body] PP) ∧ (b = false → B cs vs)) : XS c n cs vs ((.While test body [] pos :: r) :: k) P :=
  XS.while I B j h0 hB fun j cs vs hI => by
    obtain ⟨b, h1, h2, h3⟩ := turn j cs vs hI
    exact ⟨b, h1, fun e => h2 e _ fun m cs' vs' hm hI => ⟨m, hm, hI⟩, h3⟩
/-- an if whose two ways lead to one state -/
theorem XS.iteTo {t : Expr} {b1 b2 : List Stmt} {pos : Pos} {b : Bool} (cs1 : List CellAt) (vs1 : List MV) (ht : TV c n cs vs t b) (h1 : b = true → ∀ PP : Fl → List CellAt → List MV → Prop, PP .next cs1 vs1 → XS c n cs vs [b1] PP) (h2 : b = false → ∀ PP : Fl → List CellAt → List MV → Prop, PP .next cs1 vs1 → XS c n cs vs [b2] PP)
    (hJ : XS c n cs1 vs1 (r :: k) P) : XS c n cs vs ((.If t b1 b2 pos :: r) :: k) P :=
  XS.iteJ (fun cs' vs' => cs' = cs1 ∧ vs' = vs1) ht (fun e => h1 e _ ⟨rfl, rfl⟩) (fun e => h2 e _ ⟨rfl, rfl⟩) fun cs' vs' h => by obtain ⟨rfl, rfl⟩ := h; exact hJ
end
theorem GrpFine.endsC {a b : List Str} {k i j i' j' : Int} {g : List Op5} {G : Prop} (h : GrpFine a b k i j g i' j') (K : 0 ≤ i → 0 ≤ j → i ≤ i' → j ≤ j' → i' ≤ a.length → j' ≤ b.length → G) : G := by
  obtain ⟨_, _, _, _, _, _, _, _, q1, q2, q3, q4, q5, q6⟩ := h.ends
  exact K q1 q2 q3 q4 q5 q6
theorem Scr.stepC {a b : List Str} {i j i' j' : Int} {p : Ln} {L : List Ln} {G : Prop} (h : Scr a b i j (p :: L) i' j') (hi : i' ≤ a.length)
    (K : ∀ c x i1 j1, p = (⟨#[c]⟩, x) → c ≠ 64 → 0 ≤ i → 0 ≤ j → (c = 43 → i1 = i) → (c ≠ 43 → i1 = i + 1 ∧ sl a i (i + 1) = [x]) → (c = 45 → j1 = j) → (c ≠ 45 → b.take j.toNat ++ [x] = b.take j1.toNat) → Scr a b i1 j1 L i' j' → G) : G := by
  obtain ⟨c, i1, j1, h1, h2, h3, h4, h5, h6, h7, h8, h9⟩ := h.step hi
  obtain ⟨s, x⟩ := p
  cases h1
  exact K c x i1 j1 rfl h2 h3 h4 h5 h6 h7 h8 h9
/-- what the signs of a piece give -/
structure SgOk (X : List Ln) (k : Int) : Prop where
  st : (stripC true true (sgs (X.map sgn)) (Str.ofString " ") == Str.ofString "") = false
  ls : ((X.length : Int) - (stripC true false (sgs (X.map sgn)) (Str.ofString " ")).length) ≤ k
  rs : ((X.length : Int) - (stripC false true (sgs (X.map sgn)) (Str.ofString " ")).length) ≤ k
  lz : (stripC true false (sgs (X.map sgn)) (Str.ofString " ")).length ≤ X.length
  rz : (stripC false true (sgs (X.map sgn)) (Str.ofString " ")).length ≤ X.length
theorem GrpFine.signs {a b : List Str} {k i j i' j' : Int} {g : List Op5} (hk : 0 ≤ k) (h : GrpFine a b k i j g i' j') : SgOk (g.flatMap (opLns a b)) k := by
  obtain ⟨LA, lp, LB, hlead, hlp, hla, hlab⟩ := h.lead hk
  obtain ⟨TA, tp, TB, htrail, htp, htb, htbb⟩ := h.trail hk
  have hsgn := (grp_scr h.ct h.ok).sg
  generalize g.flatMap (opLns a b) = X at hlead htrail hsgn
  have hne32 : sgn lp ≠ 32 := hsgn lp (by rw [hlead]; simp) hlp
  have hne32' : sgn tp ≠ 32 := hsgn tp (by rw [htrail]; simp) htp
  have hls : (stripC true false (sgs (X.map sgn)) (Str.ofString " ")).length = X.length - LA.length := by
    have := lstrip_len (A := LA.map sgn) (B := LB.map sgn) (c := sgn lp) (fun x hx => by obtain ⟨q, hq, rfl⟩ := List.mem_map.mp hx; exact sgn_blank (hlab q hq)) hne32
    rw [← List.map_cons, ← List.map_append, ← hlead, List.length_map, List.length_map] at this
    exact this
  have hrs : (stripC false true (sgs (X.map sgn)) (Str.ofString " ")).length = X.length - TB.length := by
    have := rstrip_len (A := TA.map sgn) (B := TB.map sgn) (c := sgn tp) (fun x hx => by obtain ⟨q, hq, rfl⟩ := List.mem_map.mp hx; exact sgn_blank (htbb q hq)) hne32'
    rw [← List.map_cons, ← List.map_append, ← htrail, List.length_map, List.length_map] at this
    exact this
  have hla2 : LA.length ≤ X.length := by rw [hlead, List.length_append]; lia
  have htb2 : TB.length ≤ X.length := by rw [htrail, List.length_append, List.length_cons]; lia
  exact ⟨by rw [hlead, List.map_append, List.map_cons]; exact strip_some hne32, by rw [hls]; lia, by rw [hrs]; lia, by rw [hls]; lia, by rw [hrs]; lia⟩
end
open PySem PySem.W PySem.W.X PyProof.Rows
section
set_option Elab.async false
set_option linter.unusedVariables false
set_option maxRecDepth 100000
set_option maxHeartbeats 1000000

theorem fn282 (w : World) : IsFn w 282 281 (B.o_429 w.params) := IsFn.of (oc := B.o_428 w.params) (by kernel_rfl) (isTop (by kernel_rfl)) rfl (isTop (by kernel_rfl)) rfl rfl
theorem ok282 (P : Params) : fnOk (B.o_429 P) = true := by kernel_rfl
inductive LaidO (a b Y : List Str) (k0 : Int) : Nat → List CellAt → List MV → Prop
  | mk {pre gs i jj wd bg mn th mo sg} : Y = pre ++ gs.flatMap (grpLines a b) → Grps a b k0 i jj gs → LaidO a b Y k0 gs.length [] [mstrs a, mstrs Y, .int k0, mstrs (b.take jj.toNat), .int i, .int (pre.length : Nat), wd, bg, mn, th, mo, sg]
inductive LaidE (a b Y : List Str) (k0 : Int) : List CellAt → List MV → Prop
  | mk {i jj kk wd bg mn th mo sg} : Gap a b i jj a.length b.length → LaidE a b Y k0 [] [mstrs a, mstrs Y, .int k0, mstrs (b.take jj.toNat), .int i, kk, wd, bg, mn, th, mo, sg]
inductive LaidI (a b Y : List Str) (k0 i1 i2 j1 j2 : Int) (W1 W2 : Str) (K : Nat) (X : List Ln) : Nat → List CellAt → List MV → Prop
  | mk {done rest i j} : X = done ++ rest → Scr a b i j rest i2 j2 → LaidI a b Y k0 i1 i2 j1 j2 W1 W2 K X rest.length [] [mstrs a, mstrs Y, .int k0, mstrs (b.take j.toNat), .int i, .int ((K + done.length : Nat) : Int), .list [.str (Str.ofString "@@"), .str W1, .str W2, .str (Str.ofString "@@\n")], .int i1, .int (i2 - i1), .int j1, .int (j2 - j1), .str (sgs (done.map sgn))]
inductive LaidF (a b Y : List Str) (k0 i1 i2 j1 j2 : Int) (W1 W2 : Str) (K : Nat) (X : List Ln) : List CellAt → List MV → Prop
  | mk : LaidF a b Y k0 i1 i2 j1 j2 W1 W2 K X [] [mstrs a, mstrs Y, .int k0, mstrs (b.take j2.toNat), .int i2, .int ((K + X.length : Nat) : Int), .list [.str (Str.ofString "@@"), .str W1, .str W2, .str (Str.ofString "@@\n")], .int i1, .int (i2 - i1), .int j1, .int (j2 - j1), .str (sgs (X.map sgn))]
theorem tk12 {α : Type} {b : List α} {k : Nat} (h : b.length ≤ 12) : (b.take k).length ≤ 12 := Nat.le_trans (by rw [List.length_take]; exact Nat.min_le_right _ _) h
theorem dr12 {α : Type} {a : List α} {k : Nat} (h : a.length ≤ 12) : (a.drop k).length ≤ 12 := Nat.le_trans (by rw [List.length_drop]; exact Nat.sub_le _ _) h
theorem sum12 {x y : Nat} (h : x ≤ 12) (h' : y ≤ 12) : x + y ≤ 100000 := Nat.le_trans (Nat.add_le_add h h') (by decide)
section
variable {w : World} {n : Nat}
theorem CF.laid {a b : List Str} {k0 : Int} {gs : List (List Op5)} (hk : 0 ≤ k0) (ha : a.length ≤ 12) (hb : b.length ≤ 12) (hsa : ∀ x ∈ a, x.length ≤ 100) (hsb : ∀ x ∈ b, x.length ≤ 100) (hg : Grps a b k0 0 0 gs) (hne : gs ≠ []) :
    CF w (n + 5) [] (.ref 282) [mstrs a, mstrs (udLines a b gs), .int k0] (fun m cs' => m = mstrs b ∧ cs' = []) := by
  have hU : udLines a b gs = [hd1, hd2] ++ gs.flatMap (grpLines a b) := if_neg hne
  have hlen : (udLines a b gs).length ≤ 100 := by
    have := grps_len hk hg
    rw [hU, List.length_append]; simp only [List.length_cons, List.length_nil]; lia
  generalize udLines a b gs = Y at hU hlen ⊢
  refine CF.fnD (n := n + 4) (dms := []) (vs0 := [mstrs a, mstrs Y, .int k0, .unb, .unb, .unb, .unb, .unb, .unb, .unb, .unb, .unb]) (fn282 w) (ok282 _) rfl ["rows", "listing", "around"] ["made", "at", "k", "words", "begin", "many", "there", "more", "signs"] ["rows", "listing", "around", "made", "at", "k", "words", "begin", "many", "there", "more", "signs"] [] [] (fun p h => nomatch h) (fun F as => .nil) ?_ rfl rfl rfl (by decide) (by kernel_rfl) fun L P ok hR _ => ?_
  · refine all3S fun x y z S => ?_
    kernel_rfl
  have hR := fun vs' m hm => hR m [] vs' (asLe.refl _) ⟨hm, rfl⟩
  refine XS.asg (mv := mstrs []) ok (EV.listD EVs.nil) (mem_lu (by kernel_rfl)) (by walk_at "m_at") ?_
  refine XS.asg (by assumption) (by walk_at "m_ev") (mem_lu (by kernel_rfl)) (by walk_at "m_at") ?_
  refine XS.asg (by assumption) (by walk_at "m_ev") (mem_lu (by kernel_rfl)) (by walk_at "m_at") ?_
  refine XS.whileP (LaidO a b Y k0) (LaidE a b Y k0) gs.length ?_ ?_ ?_
  · exact .mk (pre := [hd1, hd2]) hU hg
  · intro cs' vs' hE
    cases hE with
    | @mk i jj kk wd bg mn th mo sg gp =>
      have h1 := gp.le; have h2 := gp.df; have h3 := gp.i0; have h4 := gp.j0
      exact XS.ret ((EV.catM (by walk_at "m_ev") (EV.sliceR (by walk_at "m_ev") (by walk_at "m_ev") gp.i0 h1 (by lia)) (sum12 (tk12 (by assumption)) (dr12 (by assumption)))).to (by rw [gap_end gp])) (hR _ _ rfl)
  · intro j cs' vs' hO
    cases hO with
    | @mk pre gs' i jj wd bg mn th mo sg hY hgr =>
    refine ⟨_, TV.lt (by walk_at "m_ev") (EV.callB (EV.bi (by assumption) (mem_lu (by kernel_rfl)) (by kernel_rfl) (by kernel_rfl)) (by walk_at "m_evs") (CS.lenMs (by lia))), fun ht PP hPP => ?_, fun hf => ?_⟩
    rotate_left
    · cases gs' with
      | nil => cases hgr with
        | done gp => exact .mk gp
      | cons g r =>
        refine absurd (of_decide_eq_false hf) ?_
        rw [hY, List.length_append, List.flatMap_cons]
        unfold grpLines
        simp only [List.length_append, List.length_cons]; lia
    cases hgr with
    | done _ =>
      refine absurd (of_decide_eq_true ht) ?_
      rw [hY, List.length_append]; simp only [List.flatMap_nil, List.length_nil]; lia
    | @grp _ _ i1 j1 i2 j2 g r hgap hf hrest =>
      refine hf.endsC fun q1 q2 q3 q4 q5 q6 => ?_
      have g1 := hgap.le; have g2 := hgap.df; have g3 := hgap.i0; have g4 := hgap.j0
      have hscr := grp_scr hf.ct hf.ok
      have hsig := hf.signs hk
      have hlens := hscr.pos hsa hsb
      rw [List.flatMap_cons, hf.lines] at hY
      have htail := tail_ok a b r
      generalize g.flatMap (opLns a b) = X at hscr hsig hY hlens
      generalize hT : r.flatMap (grpLines a b) = T at htail hY
      have hA := fru_short q1 q3 (by lia)
      have hB := fru_short q2 q4 (by lia)
      have hsp := atL_split q1 q3 (show i2 ≤ 12 by lia) q2 q4 (show j2 ≤ 12 by lia)
      have hal := atL_len q1 q3 (show i2 ≤ 12 by lia) q2 q4 (show j2 ≤ 12 by lia)
      have hYn : Y.length = pre.length + (1 + X.length + T.length) := by rw [hY]; simp only [List.length_append, List.length_cons, List.length_map]; lia
      have hit : Y[((pre.length : Nat) : Int).toNat]? = some (atL i1 i2 j1 j2) := by rw [hY, Int.toNat_natCast]; exact at_mid rfl
      have hit : Hit Y ((pre.length : Nat) : Int) (atL i1 i2 j1 j2) := ⟨by lia, by lia, hit⟩
      refine XS.asg (mv := .list [.str (Str.ofString "@@"), .str (w1 (fru i1 i2)), .str (w2 (fru j1 j2)), .str (Str.ofString "@@\n")]) ok (EVx.ev (EVx.meth (name := "split") (EV.itemH (by walk_at "m_ev") (by walk_at "m_ev") (by assumption)) (GMv.strm PySem.F.slot_str_split PySem.F.type_str_split) (fun _ _ _ _ => .bi _) (by walk_at "m_evs") (CS.splitTo (L := wds (fru i1 i2) (fru j1 j2)) (by decide) (by lia) hsp (Nat.le_of_ble_eq_true rfl)).cx)) (mem_lu (by kernel_rfl)) (by walk_at "m_at") ?_
      have e10 : (w1 (fru i1 i2)).cps[(0 : Int).toNat]? = some 45 := head_cons _ _
      have e20 : (w2 (fru j1 j2)).cps[(0 : Int).toNat]? = some 43 := head_cons _ _
      have e1t : tailS (w1 (fru i1 i2)) 1 = fru i1 i2 := tailS_cons _ _
      have e2t : tailS (w2 (fru j1 j2)) 1 = fru j1 j2 := tailS_cons _ _
      have l1 : (w1 (fru i1 i2)).length ≤ 100000 := by unfold w1; rw [Str.length_append]; show 1 + _ ≤ _; lia
      have l2 : (w2 (fru j1 j2)).length ≤ 100000 := by unfold w2; rw [Str.length_append]; show 1 + _ ≤ _; lia
      generalize hW1 : w1 (fru i1 i2) = W1 at e10 e1t l1 ⊢
      generalize hW2 : w2 (fru j1 j2) = W2 at e20 e2t l2 ⊢
      refine XS.iteF (TV.or (ORs.consF (TV.neiF (a := 4) (b := 4) (EV.callB (EV.bi (by assumption) (mem_lu (by kernel_rfl)) (by kernel_rfl) (by kernel_rfl)) (by walk_at "m_evs") (CS.lenL (xs := [.str (Str.ofString "@@"), .str W1, .str W2, .str (Str.ofString "@@\n")]) (Nat.le_of_ble_eq_true rfl))) (by walk_at "m_ev") rfl)
        (ORs.consF (TV.nesF (EV.itemL (k := 0) (mv := .str (Str.ofString "@@")) (by walk_at "m_ev") (by walk_at "m_ev") (by decide) (by decide) rfl) EV.cstr rfl)
        (ORs.consF (TV.nesF (EV.itemL (k := 3) (mv := .str (Str.ofString "@@\n")) (by walk_at "m_ev") (by walk_at "m_ev") (by decide) (by decide) rfl) EV.cstr rfl)
        (ORs.consF (TV.nesF (EV.itemS (k := 0) (EV.itemL (k := 1) (mv := .str W1) (by walk_at "m_ev") (by walk_at "m_ev") (by decide) (by decide) rfl) EV.cint (by decide) (by decide) e10) EV.cstr sg_mi.symm)
        (ORs.consF (TV.nesF (EV.itemS (k := 0) (EV.itemL (k := 2) (mv := .str W2) (by walk_at "m_ev") (by walk_at "m_ev") (by decide) (by decide) rfl) EV.cint (by decide) (by decide) e20) EV.cstr sg_pl.symm) ORs.nil)))))) (XS.nil ?_)
      refine XS.asgC (EVx.ev (EVx.call (EV.glob ok (mem_lu (by kernel_rfl)) (by kernel_rfl)) (fun _ _ _ h => (fn275 w).callee h) (EVs.cons ((EV.tailS (EV.itemL (k := 1) (mv := .str W1) (by walk_at "m_ev") (by walk_at "m_ev") (by decide) (by decide) rfl) EV.cint l1).toS e1t) EVs.nil) (CF.lrg (n := n + 3) q1 q3 (by lia)).cx)) (AS.toC (AS.tup ok (by walk_at "m_puts"))) ?_
      refine XS.asgC (EVx.ev (EVx.call (EV.glob ok (mem_lu (by kernel_rfl)) (by kernel_rfl)) (fun _ _ _ h => (fn275 w).callee h) (EVs.cons ((EV.tailS (EV.itemL (k := 2) (mv := .str W2) (by walk_at "m_ev") (by walk_at "m_ev") (by decide) (by decide) rfl) EV.cint l2).toS e2t) EVs.nil) (CF.lrg (n := n + 3) q2 q4 (by lia)).cx)) (AS.toC (AS.tup ok (by walk_at "m_puts"))) ?_
      refine XS.iteF (TV.or (ORs.consF ((TV.lt (a := i1) (b := i) (by walk_at "m_ev") (by walk_at "m_ev")).to (decide_eq_false (by lia)))
        (ORs.consF (TV.nesF (EVx.ev (EVx.call (EV.glob ok (mem_lu (by kernel_rfl)) (by kernel_rfl)) (fun _ _ _ h => (fn253 w).callee h) (EVs.cons (by walk_at "m_ev") (EVs.cons (EV.add (a := i1) (b := i2 - i1) (by walk_at "m_ev") (by walk_at "m_ev")) EVs.nil)) (CS.fru (n := n) q1 (by lia) (by lia)).cx)) ((EV.tailS (EV.itemL (k := 1) (mv := .str W1) (by walk_at "m_ev") (by walk_at "m_ev") (by decide) (by decide) rfl) EV.cint l1).toS e1t) (by rw [show i1 + (i2 - i1) = i2 by lia]))
        (ORs.consF (TV.nesF (EVx.ev (EVx.call (EV.glob ok (mem_lu (by kernel_rfl)) (by kernel_rfl)) (fun _ _ _ h => (fn253 w).callee h) (EVs.cons (by walk_at "m_ev") (EVs.cons (EV.add (a := j1) (b := j2 - j1) (by walk_at "m_ev") (by walk_at "m_ev")) EVs.nil)) (CS.fru (n := n) q2 (by lia) (by lia)).cx)) ((EV.tailS (EV.itemL (k := 2) (mv := .str W2) (by walk_at "m_ev") (by walk_at "m_ev") (by decide) (by decide) rfl) EV.cint l2).toS e2t) (by rw [show j1 + (j2 - j1) = j2 by lia])) ORs.nil)))) (XS.nil ?_)
      have hmade := gap_take _ rfl hgap (by lia)
      refine XS.asg (mv := mstrs (b.take j1.toNat)) ok ((EV.catM (by walk_at "m_ev") (EV.sliceM (i := i) (j := i1) (by walk_at "m_ev") (by walk_at "m_ev") (by walk_at "m_ev") (by lia) rfl) (by rw [sl_len g3 g1 (by lia)]; exact sum12 (tk12 (by assumption)) (by lia))).to (by rw [hmade])) (mem_lu (by kernel_rfl)) (by walk_at "m_at") ?_
      refine XS.iteF (TV.neiF (EV.callB (EV.bi (by assumption) (mem_lu (by kernel_rfl)) (by kernel_rfl) (by kernel_rfl)) (by walk_at "m_evs") (CS.lenMs (Nat.le_trans (tk12 (by assumption)) (by decide)))) (by walk_at "m_ev") (by rw [List.length_take]; lia)) (XS.nil ?_)
      refine XS.asg (by assumption) (by walk_at "m_ev") (mem_lu (by kernel_rfl)) (by walk_at "m_at") ?_
      refine XS.asg (by assumption) (by walk_at "m_ev") (mem_lu (by kernel_rfl)) (by walk_at "m_at") ?_
      refine XS.asg (by assumption) (by walk_at "m_ev") (mem_lu (by kernel_rfl)) (by walk_at "m_at") ?_
      refine XS.whileP (LaidI a b Y k0 i1 i2 j1 j2 W1 W2 (pre.length + 1) X) (LaidF a b Y k0 i1 i2 j1 j2 W1 W2 (pre.length + 1) X) X.length ?_ ?_ ?_
      · exact .mk (done := []) rfl hscr
      · intro cs' vs' hF
        cases hF with
        | mk =>
        have hxl : (sgs (X.map sgn)).length ≤ 100000 := by rw [sgs_len, List.length_map]; lia
        have hst := hsig.st
        have hls := hsig.ls
        have hrs := hsig.rs
        have hlz := hsig.lz
        have hrz := hsig.rz
        have hsl : (sgs (X.map sgn)).length = X.length := by rw [sgs_len, List.length_map]
        refine XS.iteF (TV.or (ORs.consF (TV.neiF (b := i1 + (i2 - i1)) (by walk_at "m_ev") (EV.add (by walk_at "m_ev") (by walk_at "m_ev")) (by lia))
          (ORs.consF (TV.neiF (b := j1 + (j2 - j1)) (EV.callB (EV.bi (by assumption) (mem_lu (by kernel_rfl)) (by kernel_rfl) (by kernel_rfl)) (by walk_at "m_evs") (CS.lenMs (Nat.le_trans (tk12 (by assumption)) (by decide)))) (EV.add (by walk_at "m_ev") (by walk_at "m_ev")) (by rw [List.length_take]; lia))
          (ORs.consF ((TV.eqs (EVx.ev (EVx.meth (name := "strip") (by walk_at "m_ev") (GMv.strm PySem.F.slot_str_strip PySem.F.type_str_strip) (fun _ _ _ _ => .bi _) (by walk_at "m_evs") (CS.stripS hxl).cx)) EV.cstr).to hst) ORs.nil)))) (XS.nil ?_)
        refine XS.iteF (TV.or (ORs.consF ((TV.gt (EV.sub (EV.callB (EV.bi (by assumption) (mem_lu (by kernel_rfl)) (by kernel_rfl) (by kernel_rfl)) (by walk_at "m_evs") (CS.lenS hxl)) (EV.callB (EV.bi (by assumption) (mem_lu (by kernel_rfl)) (by kernel_rfl) (by kernel_rfl)) (EVs.cons (EVx.ev (EVx.meth (name := "lstrip") (by walk_at "m_ev") (GMv.strm PySem.F.slot_str_lstrip PySem.F.type_str_lstrip) (fun _ _ _ _ => .bi _) (by walk_at "m_evs") (CS.lstripS hxl).cx)) EVs.nil) (CS.lenS (by lia)))) (by walk_at "m_ev")).to (decide_eq_false (by rw [hsl]; lia)))
          (ORs.consF ((TV.gt (EV.sub (EV.callB (EV.bi (by assumption) (mem_lu (by kernel_rfl)) (by kernel_rfl) (by kernel_rfl)) (by walk_at "m_evs") (CS.lenS hxl)) (EV.callB (EV.bi (by assumption) (mem_lu (by kernel_rfl)) (by kernel_rfl) (by kernel_rfl)) (EVs.cons (EVx.ev (EVx.meth (name := "rstrip") (by walk_at "m_ev") (GMv.strm PySem.F.slot_str_rstrip PySem.F.type_str_rstrip) (fun _ _ _ _ => .bi _) (by walk_at "m_evs") (CS.rstripS hxl).cx)) EVs.nil) (CS.lenS (by lia)))) (by walk_at "m_ev")).to (decide_eq_false (by rw [hsl]; lia))) ORs.nil))) (XS.nil (XS.nil ?_))
        have hlenP : (pre ++ atL i1 i2 j1 j2 :: X.map lnT).length = pre.length + 1 + X.length := by
          rw [List.length_append, List.length_cons, List.length_map]; lia
        rw [← hlenP]
        exact hPP _ _ _ (Nat.lt_succ_self _) (.mk (by rw [hY, hT, List.append_assoc]) hrest)
      · intro m cs' vs' hI
        cases hI with
        | @mk done rest i' j' hX hsc =>
        have hXl : X.length = done.length + rest.length := by rw [hX, List.length_append]
        cases rest with
        | nil =>
          rw [List.append_nil] at hX
          subst hX
          cases hsc
          refine ⟨false, TV.and ?_, nofun, fun _ => .mk⟩
          rcases htail with rfl | ⟨x, r', rfl, hx⟩
          · exact ANDs.stopF ((TV.lt (by walk_at "m_ev") (EV.callB (EV.bi (by assumption) (mem_lu (by kernel_rfl)) (by kernel_rfl) (by kernel_rfl)) (by walk_at "m_evs") (CS.lenMs (by lia)))).to (decide_eq_false (by rw [hYn, List.length_nil]; lia)))
          · have hit2 : Y[((pre.length + 1 + X.length : Nat) : Int).toNat]? = some x := by
              rw [hY, Int.toNat_natCast, ← List.append_assoc]
              exact at_mid (by rw [List.length_append, List.length_cons, List.length_map]; lia)
            have hit2 : Hit Y ((pre.length + 1 + X.length : Nat) : Int) x := ⟨by lia, by lia, hit2⟩
            have hx : Sgn0 x 64 := ⟨hx⟩
            exact ANDs.consT ((TV.lt (by walk_at "m_ev") (EV.callB (EV.bi (by assumption) (mem_lu (by kernel_rfl)) (by kernel_rfl) (by kernel_rfl)) (by walk_at "m_evs") (CS.lenMs (by lia)))).to (decide_eq_true (by rw [hYn, List.length_cons]; lia))) (ANDs.stopF (TV.nesF (EV.item0 (EV.itemH (by walk_at "m_ev") (by walk_at "m_ev") (by assumption)) (by assumption)) EV.cstr sg_a.symm))
        | cons p rest =>
          have hlp := hlens p (by rw [hX]; simp)
          have hin := hsc.len
          refine hsc.stepC (by lia) fun c x i3 j3 hp1 hp2 hi hj s1 s2 s3 s4 hrs => ?_
          cases hp1
          obtain ⟨hc, htl⟩ := lnT_c (s := ⟨#[c]⟩) (x := x) (c := c) rfl
          have hit3 : Y[((pre.length + 1 + done.length : Nat) : Int).toNat]? = some (lnT (⟨#[c]⟩, x)) := by
            rw [hY, hX, Int.toNat_natCast, List.map_append, List.map_cons, ← List.cons_append, List.append_assoc, ← List.append_assoc]
            exact at_mid (by rw [List.length_append, List.length_cons, List.length_map]; lia)
          generalize lnT (⟨#[c]⟩, x) = ln at hc htl hit3 hlp
          have hc : Sgn0 ln c := ⟨hc⟩
          have htl : Tl1 ln x := ⟨by lia, htl⟩
          have hit3 : Hit Y ((pre.length + 1 + done.length : Nat) : Int) ln := ⟨by lia, by lia, hit3⟩
          rw [List.length_cons] at hXl
          refine ⟨true, TV.and (ANDs.consT ((TV.lt (by walk_at "m_ev") (EV.callB (EV.bi (by assumption) (mem_lu (by kernel_rfl)) (by kernel_rfl) (by kernel_rfl)) (by walk_at "m_evs") (CS.lenMs (by lia)))).to (decide_eq_true (by lia))) (ANDs.consT (TV.nesT (EV.item0 (EV.itemH (by walk_at "m_ev") (by walk_at "m_ev") (by assumption)) (by assumption)) EV.cstr (by rw [sg_a]; intro e; cases e; exact hp2 rfl)) ANDs.nil)), fun _ PQ hPQ => ?_, nofun⟩
          refine XS.asg (mv := .str (sgs ((done ++ [((⟨#[c]⟩ : Str), x)]).map sgn))) ok ((EV.cat (by walk_at "m_ev") (EV.item0 (EV.itemH (by walk_at "m_ev") (by walk_at "m_ev") (by assumption)) (by assumption)) (by rw [sgs_len, List.length_map]; show done.length + 1 ≤ _; lia)).toS (by rw [sgs_snoc, List.map_append]; rfl)) (mem_lu (by kernel_rfl)) (by walk_at "m_at") ?_
          generalize hSG : sgs ((done ++ [((⟨#[c]⟩ : Str), x)]).map sgn) = SG
          refine XS.iteTo [] [mstrs a, mstrs Y, .int k0, mstrs (b.take j'.toNat), .int i3, .int ((pre.length + 1 + done.length : Nat) : Int), .list [.str (Str.ofString "@@"), .str W1, .str W2, .str (Str.ofString "@@\n")], .int i1, .int (i2 - i1), .int j1, .int (j2 - j1), .str SG] (TV.nes (EV.item0 (EV.itemH (by walk_at "m_ev") (by walk_at "m_ev") (by assumption)) (by assumption)) EV.cstr) (fun h PR hPR => ?_) (fun h PR hPR => ?_) ?_
          · have hc43 : c ≠ 43 := fun e => by subst e; rw [bne_iff_ne] at h; exact h sg_pl.symm
            obtain ⟨rfl, hsl⟩ := s2 hc43
            refine XS.iteF ((TV.neL (n := n + 3) (a := [x]) (b := [x]) (EV.sliceM (i := i') (j := i' + 1) (by walk_at "m_ev") (by walk_at "m_ev") (by walk_at "m_ev") (by lia) hsl) (EV.listD (ms := [.str x]) (EVs.cons (EV.tail1 (EV.itemH (by walk_at "m_ev") (by walk_at "m_ev") (by assumption)) (by assumption)) EVs.nil) (Nat.le_of_ble_eq_true rfl))).to (by rw [beq_self_eq_true]; rfl)) (XS.nil ?_)
            refine XS.asg (by assumption) (by walk_at "m_ev") (mem_lu (by kernel_rfl)) (by walk_at "m_at") ?_
            exact XS.nil hPR
          · have hc43 : c = 43 := by
              rw [bne_eq_false_iff_eq] at h
              rw [sg_pl] at h; cases h; rfl
            rw [s1 hc43] at hPR
            exact XS.nil hPR
          refine XS.iteTo [] [mstrs a, mstrs Y, .int k0, mstrs (b.take j3.toNat), .int i3, .int ((pre.length + 1 + done.length : Nat) : Int), .list [.str (Str.ofString "@@"), .str W1, .str W2, .str (Str.ofString "@@\n")], .int i1, .int (i2 - i1), .int j1, .int (j2 - j1), .str SG] (TV.nes (EV.item0 (EV.itemH (by walk_at "m_ev") (by walk_at "m_ev") (by assumption)) (by assumption)) EV.cstr) (fun h PR hPR => ?_) (fun h PR hPR => ?_) ?_
          · have hc45 : c ≠ 45 := fun e => by subst e; rw [bne_iff_ne] at h; exact h sg_mi.symm
            refine XS.asg (mv := mstrs (b.take j3.toNat)) ok ((EV.catM (b := [x]) (by walk_at "m_ev") (EV.listD (ms := [.str x]) (EVs.cons (EV.tail1 (EV.itemH (by walk_at "m_ev") (by walk_at "m_ev") (by assumption)) (by assumption)) EVs.nil) (Nat.le_of_ble_eq_true rfl)) (by rw [List.length_take, List.length_singleton]; lia)).to (by rw [s4 hc45])) (mem_lu (by kernel_rfl)) (by walk_at "m_at") ?_
            exact XS.nil hPR
          · have hc45 : c = 45 := by
              rw [bne_eq_false_iff_eq] at h
              rw [sg_mi] at h; cases h; rfl
            rw [s3 hc45] at hPR
            exact XS.nil hPR
          refine XS.asg (mv := .int ((pre.length + 1 + (done ++ [((⟨#[c]⟩ : Str), x)]).length : Nat) : Int)) ok ((EV.add (a := ((pre.length + 1 + done.length : Nat) : Int)) (b := 1) (by walk_at "m_ev") (by walk_at "m_ev")).to (congrArg MV.int (by rw [List.length_append, List.length_singleton]; lia))) (mem_lu (by kernel_rfl)) (by walk_at "m_at") ?_
          subst hSG
          exact XS.nil (hPQ _ _ _ (Nat.lt_succ_self _) (.mk (by rw [hX, List.append_assoc]; rfl) hrs))
end
end
open PySem PySem.W PySem.W.X PyProof.Rows
section
set_option Elab.async false
set_option linter.unusedVariables false
set_option maxRecDepth 100000
theorem bind261 (P : Params) (S : Setting) (x1 x2 x3 x4 x5 : Value) : peek [(254, B.o_401 P)] S (bindArgs (funcOf (B.o_408 P)) ⟨[x1, x2, x3, x4], [(Str.ofString "n", x5)]⟩) =
    some [(Str.ofString "a", x1), (Str.ofString "b", x2), (Str.ofString "fromfile", x3), (Str.ofString "tofile", x4), (Str.ofString "fromfiledate", .str (Str.ofString "") 605), (Str.ofString "tofiledate", .str (Str.ofString "") 606), (Str.ofString "n", x5), (Str.ofString "lineterm", .str (Str.ofString "\n") 608)] := by kernel_rfl
section
variable {c : Cx} {n m : Nat} {vs : List MV}
/-- list(generator) -/
theorem EVx.listG {x : Str} {p : Pos} {e : Expr} {pos : Pos} {Z : List MV → Prop} (hf : EV c (m + 6) [] vs (.Name x p) (.val (.type "list"))) (he : EVGX c (m + 6) m vs e Z) (hz : ∀ ys, Z ys → ys.length ≤ 100000)
    (hs : starEach [e] c.env = (false, eval e c.env) :: starEach [] c.env := by kernel_rfl) :
    EVx c (m + 6) [] vs (.Call (.Name x p) [e] [] pos) (fun r cs' => ∃ ys, Z ys ∧ r = .list ys ∧ cs' = []) := .mk fun A K F s Q hA hS hQ =>
  PyProof.Rows.Call_ (hf.go A K F s _ hA hS fun F1 u s1 l1 S1 d1 => by
    apply d1.valI
    refine PyProof.Rows.callWith_type1 (PyProof.Rows.args_cons (he.go A K F1 s1 _ hA S1 fun F2 v s2 g gs H l2 S2 ap hHg dv live => ?_) hs) hs rfl
    exact Calls.spliced_nil (call_list_genXX (n := m) hA dv live hHg S2 ap hz fun ys hy F3 v3 s3 l3 S3 d3 => hQ F3 v3 s3 (.list ys) [] (l1.trans (l2.trans l3)) S3 d3 (asLe.refl _) ⟨ys, hy, rfl, rfl⟩)) (eval_call _ _ _ _ _)
/-- unified_diff(a, b, 'old', 'new', n=k) -/
theorem EVGX.ud {a b : List Str} {k : Int} {x kn : Str} {ea eb ec ed en : Expr} {p pos kp : Pos} (hza : a.length ≤ 60) (hz : b.length ≤ 60) (hla : ∀ x ∈ a, x.length ≤ 100) (hlb : ∀ x ∈ b, x.length ≤ 100)
    (hG : ∀ xs, Blocks a b xs → ∀ g ∈ groupsOf k (codesOf k (opsAll a b xs)), GrpOk g) (hkn : kn = Str.ofString "n")
    (hf : EV c (n + 13) [] vs (.Name x p) (.val (.ref 261))) (ha : EVs c (n + 13) [] vs [ea, eb, ec, ed] [mstrs a, mstrs b, .str "old", .str "new"]) (hn : EV c (n + 13) [] vs en (.int k)) (hnc : vs.all MV.nc = true)
    (he : starEach [ea, eb, ec, ed] c.env = (false, eval ea c.env) :: starEach [eb, ec, ed] c.env := by kernel_rfl) :
    EVGX c (n + 13) (n + 14) vs (.Call (.Name x p) [ea, eb, ec, ed] [⟨some kn, en, kp⟩] pos) (UdY a b k) := .mk fun A K F s Q hA hS hQ =>
  wpAny_Call_Name_kw (hf.go A K F s _ hA hS fun F1 u s1 l1 S1 d1 => by
    apply d1.valI
    subst hkn
    refine callWith_function_kw (o := B.o_408 c.w.params) (fd := funcOf (B.o_408 c.w.params)) ?_
    have hsp := ha.go pos A K F1 s1 (fun us s2 => wpAny (model pw c.w) A (evalAll ((backToKw pos (keywordEach [⟨some (Str.ofString "n"), en, kp⟩] c.env)).map (·.2))) (fun ks s3 => (s3.heap.get? 261 = some (B.o_408 c.w.params) ∧ (B.o_408 c.w.params).data = .func (funcOf (B.o_408 c.w.params))) ∧
      wpAny (model pw c.w) A (PySem.call (.ref 261) us ([Str.ofString "n"].zip ks)) Q NoE s3) NoE s2) hA S1 fun F2 us s2 l2 S2 d2 => ?_
    · rw [he] at hsp ⊢
      exact evalArgs_kw rfl hsp
    refine kws_cons (hn.go A K F2 s2 _ hA S2 fun F3 v s3 l3 S3 d3 => kws_nil ?_)
    refine ⟨⟨(fn261 c.w).obj S3.toSF, (fn261 c.w).isf⟩, ?_⟩
    show wpAny (model pw c.w) A (PySem.call (.ref 261) us [(Str.ofString "n", v)]) Q NoE s3
    have dd := d2.mono l3 (asLe.refl _)
    apply dd.fourI; intro x1 x2 x3 x4 e1 e2 e3 e4
    have hfr : Frag.In [(254, B.o_401 c.w.params)] s3.heap := frag_in (fun p hp => by rw [List.mem_singleton.mp hp]; exact isTop (by kernel_rfl)) S3.toSF
    refine wpAny_call (call_genX (fn261 c.w) rfl rfl (n := n + 13) (ps := ["a", "b", "fromfile", "tofile", "fromfiledate", "tofiledate", "n", "lineterm"]) (us := [x1, x2, x3, x4, .str (Str.ofString "") 605, .str (Str.ofString "") 606, v, .str (Str.ofString "\n") 608])
      (ms := [mstrs a, mstrs b, .str "old", .str "new", .str "", .str "", .int k, .str "\n"]) (rest := ["started", "group", "fromdate", "todate", "first", "last", "file1_range", "file2_range", "tag", "i1", "i2", "j1", "j2", "line"]) (Y := UdY a b k) (by have := hA.depth; lia) S3 (fun v hv => List.all_eq_true.mp hnc v hv)
      (fun Q' hQ' => kp_binds hfr (fun S => bind261 _ S x1 x2 x3 x4 v) _ _ _ _ hQ') ?_ rfl (by decide) ?_ (fnOk.nd (ok261 _)) (fun L => GE.ud (n := n) hza hz hla hlb hG) fun F' v s' g gs H l S' ap hHg dv live => ?_)
    · exact .cons e1 (.cons e2 (.cons e3 (.cons e4 (.cons (.str _ _) (.cons (.str _ _) (.cons d3 (.cons (.str _ _) .nil)))))))
    · have h8 : ∀ x ∈ (["a", "b", "fromfile", "tofile", "fromfiledate", "tofiledate", "n", "lineterm"] : List Str), (match (funcOf (B.o_408 c.w.params)).scope.names.lookup x with | some .local => true | _ => false) = true := List.all_eq_true.mp (by kernel_rfl)
      intro x hx
      have := h8 x hx
      refine mem_lu ?_
      cases q : (funcOf (B.o_408 c.w.params)).scope.names.lookup x with
      | none => rw [q] at this; cases this
      | some kd => rw [q] at this; cases kd <;> first | rfl | cases this
    · exact hQ F' v s' g gs H (l1.trans (l2.trans (l3.trans l))) S' ap hHg dv live)
end
end
open PySem PySem.W PySem.W.X PyProof.Rows
section
set_option Elab.async false
set_option linter.unusedVariables false
set_option maxRecDepth 100000
set_option maxHeartbeats 1000000

noncomputable abbrev LwCx (w : World) (L : Addr) : Cx := ⟨w, (funcOf (B.o_434 w.params)).qualname, (funcOf (B.o_434 w.params)).scope, L, 287, (funcOf (B.o_434 w.params)).code, ["rows", "around", "one", "other", "listing"], [(Str.ofString "script", L + 1)]⟩
theorem law_facts (P : Params) : ((funcOf (B.o_434 P)).scope.kind == .function && !(funcOf (B.o_434 P)).scope.isCoroutine && decide (((funcOf (B.o_434 P)).scope.names.map (·.1)).Nodup)) = true := by kernel_rfl
theorem law_ok (w : World) (L : Addr) : CxOk (LwCx w L) := by
  have h := law_facts w.params
  simp only [Bool.and_eq_true, decide_eq_true_eq] at h
  exact ⟨beq_iff_eq.mp h.1.1, by simpa using h.1.2, (by decide : (["rows", "around", "one", "other", "listing"] : List Str).Nodup), h.2⟩
structure Rows12 (a : List Str) : Prop where
  len : a.length ≤ 12
  short : ∀ x ∈ a, x.length ≤ 100
theorem EVGX.mono {c : Cx} {n n' m : Nat} {vs : List MV} {e : Expr} {Z : List MV → Prop} (h : EVGX c n m vs e Z) (hn : n ≤ n') : EVGX c n' m vs e Z := .mk fun A K F s Q hA => h.go A K F s Q (hA.le hn)
theorem ud_len {a b : List Str} {k : Int} (hk : 0 ≤ k) (ha : Rows12 a) (hb : Rows12 b) {xs : List T3} (h : Blocks a b xs) : (udLines a b (groupsOf k (codesOf k (opsAll a b xs)))).length ≤ 100 := by
  have := grps_len hk (blocks_groups hk h)
  have := ha.len; have := hb.len
  unfold udLines
  split
  · exact Nat.zero_le _
  · simp only [List.length_cons]; lia
theorem hd1_eq : hd1 = Str.ofString "--- old\n" := by decide +kernel
theorem hd2_eq : hd2 = Str.ofString "+++ new\n" := by decide +kernel
section
variable {w : World} {n : Nat}
theorem EV.slice2 {c : Cx} {n : Nat} {cs : List CellAt} {vs : List MV} {b hi : Expr} {p pos : Pos} {x y : Str} {r : List Str} (hb : EV c n cs vs b (mstrs (x :: y :: r))) (h1 : EV c n cs vs hi (.int 2)) (hz : (x :: y :: r).length ≤ 100000) :
    EV c n cs vs (.Subscript b (.Slice none (some hi) none p) pos) (mstrs [x, y]) := by
  have := EV.sliceL (pos := pos) (p := p) hb .none (.some h1) (by rw [List.length_map]; exact hz)
  refine this.to (congrArg MV.list ?_)
  have e1 : kms_lo none ((x :: y :: r).map MV.str).length = 0 := rfl
  have e2 : kms_hi (some 2) ((x :: y :: r).map MV.str).length = 2 := by
    unfold kms_hi
    dsimp only
    rw [if_neg (by decide), List.length_map, List.length_cons, List.length_cons]
    show min 2 _ = 2
    lia
  rw [e1, e2]; rfl
theorem law_rest {L : Addr} {a b : List Str} {k : Int} (hk : 0 ≤ k) (ha : Rows12 a) (hb : Rows12 b) {P : Fl → List CellAt → List MV → Prop} (hP : ∀ vs', P (.ret (.bool true)) [] vs') :
    XS (LwCx w L) (n + 20) [] [.list [mstrs a, mstrs b], .int k, .unb, .unb, .unb] [(bodyOf (B.o_434 w.params)).drop 2] P := by
  have ok := law_ok w L
  refine XS.forL (items := [.tup [mstrs a, mstrs b], .tup [mstrs b, mstrs a], .tup [mstrs a, mstrs a]]) (fun i cs' vs' => cs' = [] ∧ ∃ o1 o2 l, l.nc = true ∧ vs' = [.list [mstrs a, mstrs b], .int k, o1, o2, l]) (fun cs' vs' => cs' = [] ∧ ∃ o1 o2 l, l.nc = true ∧ vs' = [.list [mstrs a, mstrs b], .int k, o1, o2, l])
    (EV.listD (EVs.cons (EV.tup (EVs.cons (EV.itemL (by walk_at "m_ev") (by walk_at "m_ev") (by decide) (by decide) (by exact rfl)) (EVs.cons (EV.itemL (by walk_at "m_ev") (by walk_at "m_ev") (by decide) (by decide) (by exact rfl)) EVs.nil)) (Nat.le_of_ble_eq_true rfl)) (EVs.cons (EV.tup (EVs.cons (EV.itemL (by walk_at "m_ev") (by walk_at "m_ev") (by decide) (by decide) (by exact rfl)) (EVs.cons (EV.itemL (by walk_at "m_ev") (by walk_at "m_ev") (by decide) (by decide) (by exact rfl)) EVs.nil)) (Nat.le_of_ble_eq_true rfl)) (EVs.cons (EV.tup (EVs.cons (EV.itemL (by walk_at "m_ev") (by walk_at "m_ev") (by decide) (by decide) (by exact rfl)) (EVs.cons (EV.itemL (by walk_at "m_ev") (by walk_at "m_ev") (by decide) (by decide) (by exact rfl)) EVs.nil)) (Nat.le_of_ble_eq_true rfl)) EVs.nil))) (Nat.le_of_ble_eq_true rfl)) ⟨rfl, _, _, _, rfl, rfl⟩ (fun cs' vs' h => h) ?_ ?_
  · rintro _ _ ⟨rfl, o1, o2, l, hl, rfl⟩
    exact XS.ret (by walk_at "m_ev") (hP _)
  · rintro i x _ _ hx ⟨rfl, o1, o2, l, hl, rfl⟩
    obtain ⟨u, v, rfl, hu, hv⟩ : ∃ u v, x = .tup [mstrs u, mstrs v] ∧ Rows12 u ∧ Rows12 v := by
      match i, hx with
      | 0, hx => cases hx; exact ⟨a, b, rfl, ha, hb⟩
      | 1, hx => cases hx; exact ⟨b, a, rfl, hb, ha⟩
      | 2, hx => cases hx; exact ⟨a, a, rfl, ha, ha⟩
    refine ⟨_, AS.tup ok (by walk_at "m_puts"), ?_⟩
    have u1 := hu.len; have v1 := hv.len
    refine XS.asgX (EVx.mono (EVx.listG (m := n + 14) (EV.bi (by assumption) (mem_lu (by kernel_rfl)) (by kernel_rfl) (by kernel_rfl)) (EVGX.mono (EVGX.ud (n := n) (a := u) (b := v) (k := k) (by lia) (by lia) hu.short hv.short (grps_ok hk (by lia) (by lia)) rfl (EV.glob ok (mem_lu (by kernel_rfl)) (by kernel_rfl)) (by walk_at "m_evs") (by walk_at "m_ev") (by show (true && (true && (true && (true && (MV.nc l && true))))) = true; rw [hl]; rfl)) (by lia))
      (fun ys hy => by obtain ⟨xs, hbl, rfl⟩ := hy; rw [List.length_map]; exact Nat.le_trans (ud_len hk hu hv hbl) (by decide))) ?_)
    rintro _ _ ⟨ys, ⟨xs, hbl, rfl⟩, rfl, rfl⟩
    refine ⟨[], _, AS.toC (AS.name ok (mem_lu (by kernel_rfl)) (by walk_at "m_at")), ?_⟩
    have hul := ud_len hk hu hv hbl
    have hgr := blocks_groups hk hbl
    refine XS.ite (TV.eqL (n := n + 19) (a := u) (b := v) (by walk_at "m_ev") (by walk_at "m_ev")) (fun h => ?_) (fun h => ?_)
    · obtain rfl := beq_iff_eq.mp h
      have hz : udLines u u (groupsOf k (codesOf k (opsAll u u xs))) = [] := by rw [whole_none hk hbl]; exact if_pos rfl
      rw [hz]
      refine XS.iteF ((TV.neL (n := n + 19) (a := []) (b := []) (by walk_at "m_ev") (EV.listD EVs.nil)).to rfl) (XS.nil (XS.nil ?_))
      exact XS.nil ⟨rfl, _, _, _, rfl, rfl⟩
    · have hne : u ≠ v := fun e => by subst e; rw [beq_self_eq_true] at h; cases h
      generalize hgs : groupsOf k (codesOf k (opsAll u v xs)) = gs at hul hgr
      have hgn : gs ≠ [] := fun e => by subst e; exact hne (none_whole hgr)
      have hU : udLines u v gs = hd1 :: hd2 :: gs.flatMap (grpLines u v) := if_neg hgn
      refine XS.iteF (TV.or (ORs.consF ((TV.neL (n := n + 19) (a := [hd1, hd2]) (b := [Str.ofString "--- old\n", Str.ofString "+++ new\n"]) (EV.slice2 (r := gs.flatMap (grpLines u v)) (EV.to (m := mstrs (udLines u v gs)) (by walk_at "m_ev") (by rw [hU])) (by walk_at "m_ev") (by rw [← hU]; lia)) (EV.listD (by walk_at "m_evs"))).to (by rw [hd1_eq, hd2_eq, beq_self_eq_true]; rfl))
        (ORs.consF ((TV.neL (n := n + 19) (a := v) (b := v) (EVx.ev (EVx.call (EV.glob ok (mem_lu (by kernel_rfl)) (by kernel_rfl)) (fun _ _ _ h => (fn282 w).callee h) (by walk_at "m_evs") (CF.laid (n := n + 15) hk u1 v1 hu.short hv.short hgr hgn).cx)) (by walk_at "m_ev")).to (by rw [beq_self_eq_true]; rfl)) ORs.nil))) (XS.nil (XS.nil ?_))
      exact XS.nil ⟨rfl, _, _, _, rfl, rfl⟩
end
end
open PySem PySem.W PySem.W.X PyProof.Rows
section
set_option Elab.async false
set_option linter.unusedVariables false
set_option maxRecDepth 100000
section
variable {w : World} {A : Around} {E : Value → Shared → Prop} {s : Shared} {env : Env}
theorem nm_bi {x : Str} {v : Value} {pos : Pos} {Q : Value → Shared → Prop} (hT : s.heap.get? 3 = some (B.o_392 w.params)) (hT0 : s.heap.get? 0 = some (boot_o_0 w.params)) (hk : env.scope.kind = .function) (hx : env.kindOf x = some .globalImplicit) (hg : env.globals = mainGlobals) (hb : env.builtins = builtinsNs)
    (hm : nsOf (B.o_392 w.params) x = none) (hv : nsOf (boot_o_0 w.params) x = some v) (h : Q v s) (hd : (x == ("__debug__" : Str)) = false := by decide) : wpAny (model pw w) A (eval (.Name x pos) env) Q E s :=
  Calls.Name_function_global hk hx (Calls.loadGlobal_builtin (by rw [hg]; exact nsOk_at (nsOk3 _) hT) hm (by rw [hb]; exact nsOk_at (nsOk0 _) hT0) hv h) hd
theorem nm_cell {x : Str} {c : Addr} {v : Value} {pos : Pos} {Q : Value → Shared → Prop} (hk : env.scope.kind = .function) (hl : env.kindOf x = some .cell) (hc : env.cells.lookup x = some c) (hv : s.heap.IsCell c (some v)) (h : Q v s)
    (hd : (x == ("__debug__" : Str)) = false := by decide) : wpAny (model pw w) A (eval (.Name x pos) env) Q E s := wpAny_Name (wpAny_loadName_cell hk hl hc hv h) hd
theorem nm_loc {x : Str} {v : Value} {pos : Pos} {m : Str → Option Value} {Q : Value → Shared → Prop} (hk : env.scope.kind = .function) (hl : env.kindOf x = some .local) (hn : s.heap.Ns env.locals m) (hv : m x = some v) (h : Q v s)
    (hd : (x == ("__debug__" : Str)) = false := by decide) : wpAny (model pw w) A (eval (.Name x pos) env) Q E s := wpAny_Name (wpAny_loadName_local hk hl hn hv h) hd
theorem sub_at {b i : Expr} {pos : Pos} {Q : Value → Shared → Prop} {T id : String} (hl : typeLookup (.type T) "__getitem__" = pure (some (.builtin id)))
    (h : wpAny (model pw w) A (eval b env) (fun u s1 => wpAny (model pw w) A (eval i env) (fun v s2 => s2.TypeIs u T ∧ wpAny (model pw w) A (getItem u v) Q E s2) E s1) E s)
    (hs : ∀ u v, ∃ ops, subscripted i false u v = operate ops (getItem u v)) : wpAny (model pw w) A (eval (.Subscript b i pos) env) Q E s :=
  PyProof.Rows.Subscript_ (wpAny_mono h (fun u s1 h1 => wpAny_mono h1 (fun v s2 ⟨t, g⟩ => by obtain ⟨ops, e⟩ := hs u v; exact PyProof.Rows.tail_any t hl g e) fun _ _ x => x) fun _ _ x => x)
theorem el_test {J : Addr} {i j : Int} {t u : Tok} {m : Str → Option Value} {q : Nat} {p1 p2 p3 p4 p5 : Pos} (hk : env.scope.kind = .function) (hkk : env.kindOf (Str.ofString "k") = some .local) (hkj : env.kindOf (Str.ofString "j") = some .cell)
    (hcj : env.cells.lookup (Str.ofString "j") = some J) (hn : s.heap.Ns env.locals m) (hm : m (Str.ofString "k") = some (.int i t)) (hJ : s.heap.IsCell J (some (.int j u))) :
    wpAny (model pw w) A (isTrue (.Compare (.BinOp (.Name (Str.ofString "k") p1) .Mod (.Constant (.int 2) q p2) p3) [.Eq] [.Name (Str.ofString "j") p4] p5) env (eval (.Compare (.BinOp (.Name (Str.ofString "k") p1) .Mod (.Constant (.int 2) q p2) p3) [.Eq] [.Name (Str.ofString "j") p4] p5) env))
      (fun ok s' => ok = (i.fmod 2 == j) ∧ Keeps s s') E s :=
  wpAny_isTrue_Compare1 (wpAny_BinOp (nm_loc hk hkk hn hm (wpAny_Constant_int (PyProof.Rows.mod_int (by decide) (nm_cell hk hkj hcj hJ (PyProof.Rows.eq_int (wpAny_truthy_bool ⟨rfl, _, _, rfl, fun _ _ e => e⟩))))))) rfl
theorem ints_at {us : List Value} {is : List Int} (h : IntsAre us is) : ∀ {i : Nat}, i < us.length → ∃ x t, us[i]? = some (.int x t) := by
  induction h with
  | nil => intro i hi; exact absurd hi (Nat.not_lt_zero _)
  | cons n t _ ih =>
    intro i hi
    cases i with
    | zero => exact ⟨n, t, rfl⟩
    | succ i => exact ih (Nat.lt_of_succ_lt_succ hi)
theorem el_val {S l : Addr} {us : Array Value} {is : List Int} {i : Int} {t : Tok} {m : Str → Option Value} {q1 q2 q3 : Nat} {p1 p2 p3 p4 p5 p6 p7 p8 p9 : Pos} (hk : env.scope.kind = .function) (hkk : env.kindOf (Str.ofString "k") = some .local) (hks : env.kindOf (Str.ofString "script") = some .cell)
    (hcs : env.cells.lookup (Str.ofString "script") = some S) (hn : s.heap.Ns env.locals m) (hm : m (Str.ofString "k") = some (.int i t)) (hS : s.heap.IsCell S (some (.ref l))) (hl : s.heap.IsList l us) (hI : IntsAre us.toList is) (h0 : 0 ≤ i) (h1 : i < us.size) (hz : us.size ≤ 63) :
    wpAny (model pw w) A (eval (.BinOp (.Subscript (.Constant (.str (Str.ofString "abc")) q1 p1) (.BinOp (.Subscript (.Name (Str.ofString "script") p2) (.Name (Str.ofString "k") p3) p4) .Mod (.Constant (.int 3) q2 p5) p6) p7) .Add (.Constant (.str (Str.ofString "\n")) q3 p8) p9) env)
      (fun y s' => (∃ x u, y = .str x u ∧ x.length ≤ 100) ∧ Keeps s s') E s := by
  obtain ⟨x, tx, hx⟩ := ints_at hI (i := i.toNat) (by rw [Array.length_toList]; lia)
  refine wpAny_BinOp (sub_at slot_str_getitem.lookup (wpAny_Constant_str (wpAny_BinOp (sub_at slot_list_getitem.lookup (nm_cell hk hks hcs hS (nm_loc hk hkk hn hm ⟨?_, ?_⟩)) (fun _ _ => ⟨_, rfl⟩)))) (fun _ _ => ⟨_, rfl⟩))
  · obtain ⟨o, ho, hc, _⟩ := hl; exact ⟨o, ho, hc⟩
  refine wpAny_getItem_list hl h0 (by lia) (toList_get hx) (wpAny_Constant_int (PyProof.Rows.mod_int (by decide) ⟨rfl, ?_⟩))
  have m0 : 0 ≤ x.fmod 3 := Int.fmod_nonneg_of_pos _ (by decide)
  have m1 : x.fmod 3 < 3 := Int.fmod_lt_of_pos _ (by decide)
  obtain ⟨cp, hcp⟩ : ∃ cp, (Str.ofString "abc").cps[(x.fmod 3).toNat]? = some cp := by
    have hsz : (Str.ofString "abc").cps.size = 3 := by decide +kernel
    exact ⟨_, Array.getElem?_eq_getElem (by rw [hsz]; lia)⟩
  have hlen : (Str.ofString "abc").length = 3 := by decide +kernel
  refine PyProof.Rows.getItem_str (c := cp) (by simp only [Bool.or_eq_false_iff, decide_eq_false_iff_not]; lia) ?_ (wpAny_Constant_str (PyProof.Rows.add_str (fun t' tk => ⟨⟨_, _, rfl, ?_⟩, _, _, rfl, fun _ _ e => e⟩) ?_))
  · have : seqIndex? (x.fmod 3) (Str.ofString "abc").length = some (x.fmod 3).toNat := by
      unfold seqIndex?
      simp only [if_neg (Int.not_lt.mpr m0)]
      rw [if_pos]
      simp only [Bool.and_eq_true, decide_eq_true_eq]
      rw [hlen]; lia
    rw [this]; exact hcp
  · rw [Str.length_append]
    have : (Str.ofString "\n").length = 1 := by decide +kernel
    show 1 + _ ≤ _
    lia
  · have : (Str.ofString "\n").length = 1 := by decide +kernel
    show 1 + _ ≤ _
    rw [this]; decide
end
end
open PySem PySem.W PySem.W.X PyProof.Rows
section
set_option Elab.async false
set_option linter.unusedVariables false
set_option maxRecDepth 100000
noncomputable def sc1 : Scope := { kind := .function, names := [(Str.ofString ".0", .local), (Str.ofString "j", .cell), (Str.ofString "range", .globalImplicit), (Str.ofString "min", .globalImplicit), (Str.ofString "len", .globalImplicit), (Str.ofString "script", .free)], isGenerator := false, isCoroutine := false, more := [] }
noncomputable def sc2 : Scope := { kind := .function, names := [(Str.ofString ".0", .local), (Str.ofString "k", .local), (Str.ofString "j", .free), (Str.ofString "script", .free)], isGenerator := false, isCoroutine := false, more := [] }
noncomputable abbrev envA (w : World) (L J C : Addr) : Env := compEnvC sc1 [(Str.ofString "j", J), (Str.ofString "script", L + 1)] C (LwCx w L).env
section
variable {w : World} {A : Around} {E : Value → Shared → Prop} {s : Shared} {env : Env}
theorem el_iter {S l : Addr} {us : Array Value} {q : Nat} {p1 p2 p3 p4 p5 p6 p7 p8 : Pos} {Q : Value → Shared → Prop} (hh : A.handled = none) (hT : s.heap.get? 3 = some (B.o_392 w.params)) (hT0 : s.heap.get? 0 = some (boot_o_0 w.params)) (hk : env.scope.kind = .function) (hg : env.globals = mainGlobals) (hb : env.builtins = builtinsNs)
    (hr : env.kindOf (Str.ofString "range") = some .globalImplicit) (hmn : env.kindOf (Str.ofString "min") = some .globalImplicit) (hln : env.kindOf (Str.ofString "len") = some .globalImplicit) (hks : env.kindOf (Str.ofString "script") = some .cell)
    (hcs : env.cells.lookup (Str.ofString "script") = some S) (hS : s.heap.IsCell S (some (.ref l))) (hl : s.heap.IsList l us) (hz : us.size ≤ 63)
    (hQ : ∀ (n : Nat) r h' tk t1 t2 t3, n ≤ 24 → n ≤ us.size → Keep s.heap h' → IsRange h' r 0 n 1 t1 t2 t3 → Q (.ref r) { s with heap := h', toks := tk }) :
    wpAny (model pw w) A (eval (.Call (.Name (Str.ofString "range") p1) [.Call (.Name (Str.ofString "min") p2) [.Constant (.int 24) q p3, .Call (.Name (Str.ofString "len") p4) [.Name (Str.ofString "script") p5] [] p6] [] p7] [] p8) env) Q E s := by
  refine PyProof.Rows.Call_ (nm_bi (v := .type "range") hT hT0 hk hr hg hb (by kernel_rfl) (by kernel_rfl) (PyProof.Rows.callWith_type1 (PyProof.Rows.args_cons ?_)))
  refine PyProof.Rows.Call_ (nm_bi (v := .builtin "min") hT hT0 hk hmn hg hb (by kernel_rfl) (by kernel_rfl) (PyProof.Rows.callWith_builtin1 (PyProof.Rows.args_cons (wpAny_Constant_int (PyProof.Rows.args_cons ?_)))))
  refine PyProof.Rows.Call_ (nm_bi (v := .builtin "len") hT hT0 hk hln hg hb (by kernel_rfl) (by kernel_rfl) (PyProof.Rows.callWith_builtin1 (PyProof.Rows.args_cons (nm_cell hk hks hcs hS (PyProof.Rows.args_nil (PyProof.Rows.len_list hl (by lia) (PyProof.Rows.args_nil (min_two_ints hh fun h' tk hkp => PyProof.Rows.args_nil ?_))))))))
  split
  · exact call_range_1 (hQ us.size _ _ _ _ _ _ (by lia) (Nat.le_refl _) (Keep.trans hkp (Keep.push _ _)) (IsRange.new _ _ _ _ _ _ _))
  · exact call_range_1 (hQ 24 _ _ _ _ _ _ (by lia) (by lia) (Keep.trans hkp (Keep.push _ _)) (IsRange.new _ _ _ _ _ _ _))
end
noncomputable def parP (jv : Int) (v : Value) : Bool := match v with | .int i _ => i.fmod 2 == jv | _ => false
theorem par_count0 : (List.range 25).all (fun n => decide (((List.range n).countP fun (k : Nat) => ((0 : Int) + (k : Int) * 1).fmod 2 == 0) ≤ 12) && decide (((List.range n).countP fun (k : Nat) => ((0 : Int) + (k : Int) * 1).fmod 2 == 1) ≤ 12)) = true := by decide +kernel
theorem par_count {jv : Int} (hj : jv = 0 ∨ jv = 1) {vs : List Value} {n : Nat} (hl : vs.length = n) (hn : n ≤ 24) (h : ∀ (j : Nat) v, vs[j]? = some v → ∃ t, v = .int (0 + (j : Int) * 1) t) : (vs.filter (parP jv)).length ≤ 12 := by
  have key : (vs.filter (parP jv)).length = (List.range n).countP fun (k : Nat) => ((0 : Int) + (k : Int) * 1).fmod 2 == jv := by
    rw [← List.countP_eq_length_filter]
    have e : vs.map (parP jv) = (List.range n).map (fun (k : Nat) => ((0 : Int) + (k : Int) * 1).fmod 2 == jv) := by
      refine List.ext_getElem? fun i => ?_
      rw [List.getElem?_map, List.getElem?_map]
      by_cases hi : i < n
      · obtain ⟨v, hv⟩ : ∃ v, vs[i]? = some v := ⟨_, List.getElem?_eq_getElem (by lia)⟩
        obtain ⟨t, rfl⟩ := h i v hv
        rw [hv, List.getElem?_range hi]; rfl
      · rw [List.getElem?_eq_none (by lia), List.getElem?_eq_none (by rw [List.length_range]; lia)]; rfl
    have c1 : vs.countP (parP jv) = (vs.map (parP jv)).countP id := by rw [List.countP_map]; rfl
    have c2 : ((List.range n).countP fun (k : Nat) => ((0 : Int) + (k : Int) * 1).fmod 2 == jv) = ((List.range n).map (fun (k : Nat) => ((0 : Int) + (k : Int) * 1).fmod 2 == jv)).countP id := by rw [List.countP_map]; rfl
    rw [c1, c2, e]
  rw [key]
  have := List.all_eq_true.mp par_count0 n (List.mem_range.mpr (by lia))
  simp only [Bool.and_eq_true, decide_eq_true_eq] at this
  rcases hj with rfl | rfl
  · exact this.1
  · exact this.2
noncomputable def ShortStr (v y : Value) : Prop := ∃ x u, y = .str x u ∧ x.length ≤ 100
theorem short_strs {vs ys : List Value} (h : Paired ShortStr vs ys) : ∃ a : List Str, a.length = vs.length ∧ (∀ x ∈ a, x.length ≤ 100) ∧ ∀ (w : World) (F : PH) (as : List Addr), DVs w F as (a.map .str) ys := by
  induction h with
  | nil => exact ⟨[], rfl, fun x hx => (nomatch hx), fun _ _ _ => .nil⟩
  | cons hF _ ih =>
    obtain ⟨x, u, rfl, hx⟩ := hF
    obtain ⟨a, h1, h2, h3⟩ := ih
    refine ⟨x :: a, by rw [List.length_cons, List.length_cons, h1], fun y hy => ?_, fun w F as => .cons (.str _ _) (h3 w F as)⟩
    rcases List.mem_cons.mp hy with rfl | hy
    · exact hx
    · exact h2 y hy
theorem walks_rangeB {prog : Program} {w : World} {A : Around} (hh : A.handled = none) (I : Addr) (a c : Int) (n : Nat) :
    Walks prog w A I [I] [I] n (fun i v => i < n ∧ ∃ t, v = .int (a + i * c) t) (fun i h => IsRangeIter h I (a + (i : Nat) * c) ((n : Int) - (i : Nat)) c) where
  sub := (Walks.range (prog := prog) (w := w) hh I a c n).sub
  frame := (Walks.range (prog := prog) (w := w) hh I a c n).frame
  item := fun i s Q E hi st hQ => (Walks.range (prog := prog) (w := w) hh I a c n).item i s Q E hi st fun v h' tk hP => hQ v h' tk ⟨hi, hP⟩
  done := (Walks.range (prog := prog) (w := w) hh I a c n).done
  self := (Walks.range (prog := prog) (w := w) hh I a c n).self
section
variable {w : World} {A : Around} {E : Value → Shared → Prop} {s : Shared}
theorem clos2 (w : World) (L J C : Addr) : closureFor sc2 (envA w L J C) = pure [(Str.ofString "script", L + 1), (Str.ofString "j", J)] := by kernel_rfl
theorem inner_comp {L J C l : Addr} {us : Array Value} {is : List Int} {j : Int} {u : Tok} {q1 q2 q3 q4 q5 : Nat} {p1 p2 p3 p4 p5 p6 p7 p8 p9 r1 r2 r3 r4 r5 r6 r7 r8 t1 t2 t3 t4 t5 pk pos : Pos} {Q : Value → Shared → Prop} (hh : A.handled = none)
    (hT : s.heap.get? 3 = some (B.o_392 w.params)) (hT0 : s.heap.get? 0 = some (boot_o_0 w.params)) (hS : s.heap.IsCell (L + 1) (some (.ref l))) (hl : s.heap.IsList l us) (hI : IntsAre us.toList is) (hz : us.size ≤ 63) (hJ : s.heap.IsCell J (some (.int j u))) (hj : j = 0 ∨ j = 1)
    (hQ : ∀ D us2 a h' tk, s.heap.get? D = none → Keep s.heap h' → h'.PlainList D us2 → Rows12 a → (∀ (F : PH) (as : List Addr), DVs w F as (a.map .str) us2.toList) → Q (.ref D) { s with heap := h', toks := tk }) :
    wpAny (model pw w) A (eval (.ListComp (.BinOp (.Subscript (.Constant (.str (Str.ofString "abc")) q1 p1) (.BinOp (.Subscript (.Name (Str.ofString "script") p2) (.Name (Str.ofString "k") p3) p4) .Mod (.Constant (.int 3) q2 p5) p6) p7) .Add (.Constant (.str (Str.ofString "\n")) q3 p8) p9)
      [⟨.Name (Str.ofString "k") pk, .Call (.Name (Str.ofString "range") r1) [.Call (.Name (Str.ofString "min") r2) [.Constant (.int 24) q4 r3, .Call (.Name (Str.ofString "len") r4) [.Name (Str.ofString "script") r5] [] r6] [] r7] [] r8,
        [.Compare (.BinOp (.Name (Str.ofString "k") t1) .Mod (.Constant (.int 2) q5 t2) t3) [.Eq] [.Name (Str.ofString "j") t4] t5], 0⟩] sc2 pos) (envA w L J C)) Q E s := by
  refine wpAny_ListComp_free (parP j) ShortStr (clos2 w L J C) (by decide) rfl (by decide) rfl ?_ (by intro _; rfl)
  refine el_iter (S := L + 1) hh hT hT0 rfl rfl rfl (by kernel_rfl) (by kernel_rfl) (by kernel_rfl) (by kernel_rfl) (by kernel_rfl) hS hl hz fun n r h1 tk1 a1 a2 a3 hn hnu hk1 hr => ?_
  refine wpAny_pyIter_range hr (small_one (by decide) (by decide) (by lia) (by lia)) ?_
  rw [rangeSize_one]
  have hx : (if (0 : Int) < (n : Int) then (n : Int) - 0 else 0) = n := by split <;> lia
  rw [hx]
  have hk2 : Keep s.heap (h1.push { cls := .type "range_iterator", data := .fields #[rawInt 0, rawInt n, rawInt 1] }) := Keep.trans hk1 (Keep.push _ _)
  have hit : IsRangeIter (h1.push { cls := .type "range_iterator", data := .fields #[rawInt 0, rawInt n, rawInt 1] }) h1.objs.size 0 n 1 := Heap.get?_push_size _ rfl
  have hold : ∀ b o, s.heap.get? b = some o → b ≠ h1.objs.size := fun b o e => Nat.ne_of_lt (Heap.lt_size (hk1 b o e))
  have hIs : h1.objs.size < (h1.push { cls := .type "range_iterator", data := .fields #[rawInt 0, rawInt n, rawInt 1] }).objs.size := by rw [Heap.size_push]; exact Nat.lt_succ_self _
  dsimp only
  generalize h1.push { cls := .type "range_iterator", data := .fields #[rawInt 0, rawInt n, rawInt 1] } = h2 at hk2 hit hIs ⊢
  generalize h1.objs.size = I at hit hold hIs ⊢
  have cellK : ∀ {s3 : Shared} {c : Addr} {v : Option Value}, s.heap.IsCell c v → (∀ b o, b ∉ [I] → h2.get? b = some o → s3.heap.get? b = some o) → s3.heap.IsCell c v := fun {s3 c v} ⟨o, ho, hd⟩ hold3 => ⟨o, hold3 c o (by rw [List.mem_singleton]; exact hold c o ho) (hk2 c o ho), hd⟩
  refine ⟨I, [I], [I], n, _, _, rfl, walks_rangeB hh I 0 1 n, Nat.le_trans hn (by decide), ?_, ?_, ⟨?_, ?_⟩, ?_⟩
  · show IsRangeIter h2 I (0 + ((0 : Nat) : Int) * 1) ((n : Int) - ((0 : Nat) : Int)) 1
    rw [show (0 : Int) + ((0 : Nat) : Int) * 1 = 0 by lia, show (n : Int) - ((0 : Nat) : Int) = n by lia]
    exact hit
  · intro b hb
    rw [List.mem_singleton.mp hb]; exact hIs
  · rintro C2 i v s3 m3 E' hC ⟨hi, t, rfl⟩ hn3 hm3 hold3 htk
    refine wpAny_tests_one (el_test (J := J) (j := j) (u := u) rfl (by kernel_rfl) (by kernel_rfl) (by kernel_rfl) hn3 hm3 (cellK hJ hold3))
  · rintro C2 i v s3 m3 E' hC ⟨hi, t, rfl⟩ hp hn3 hm3 hold3 htk
    obtain ⟨ol, el, cl, xl⟩ := hl
    exact el_val (S := L + 1) (l := l) (us := us) (is := is) rfl (by kernel_rfl) (by kernel_rfl) (by kernel_rfl) hn3 hm3 (cellK hS hold3) ⟨ol, hold3 l ol (by rw [List.mem_singleton]; exact hold l ol el) (hk2 l ol el), cl, xl⟩ hI (by lia) (by lia) hz
  · intro D h3 tk3 ys vs hD _ hpl hlen hP hF hk3
    obtain ⟨a, ha, hsh, hdv⟩ := short_strs hF
    refine hQ D ys a h3 tk3 ?_ (fun b o e => hk3 b o (by rw [List.mem_singleton]; exact hold b o e) (hk2 b o e)) hpl ⟨?_, hsh⟩ (hdv w)
    · cases e : s.heap.get? D with
      | none => rfl
      | some o => have := hk2 D o e; rw [hD] at this; cases this
    · rw [ha]; exact par_count hj hlen hn fun j v e => (hP j v e).2
end
end
open PySem PySem.W PySem.W.X PyProof.Rows
section
set_option Elab.async false
set_option linter.unusedVariables false
set_option maxRecDepth 100000
section
variable {w : World} {A : Around} {E : Value → Shared → Prop} {s : Shared}
theorem new_envA {L : Addr} {Q : Env → Shared → Prop} (h : Q { scope := sc1, locals := s.heap.objs.size, globals := (LwCx w L).env.globals, cells := [(Str.ofString "j", s.heap.objs.size + 1), (Str.ofString "script", L + 1)], qual := (LwCx w L).env.qual, func := none, code := (LwCx w L).env.code, frame := (LwCx w L).env.frame, builtins := (LwCx w L).env.builtins }
      { s with heap := (s.heap.push { cls := .type "dict", data := .dict #[] }).push { cls := .type "cell", data := .cell none } }) :
    wpAny (model pw w) A (newFunctionEnv sc1 (LwCx w L).env.globals [(Str.ofString "script", L + 1)] [] (LwCx w L).env.qual none .none (some (LwCx w L).env)) Q E s := by
  simp only [newFunctionEnv, Option.isSome_some, if_true]
  refine wpAny_bind (wpAny_alloc ?_)
  refine wpAny_bind (wpAny_layCells _ (fun name kind cells => by cases hkc : kind == NameKind.cell <;> simp) _ _ _ _ ?_)
  simp only [List.forIn_nil]
  refine wpAny_bind (wpAny_pure (wpAny_pure ?_))
  rw [show ({ s with heap := s.heap.push { cls := .type "dict", data := .dict #[] } } : Shared).heap.objs.size = s.heap.objs.size + 1 from Heap.size_push ..]
  exact h
structure RowsInv (w : World) (K : Kp) (F : PH) (L : Addr) (xs : List Str) (vs : List MV) (I D C J : Addr) (i : Nat) (F' : PH) (rs : List (List Str)) (z : Shared) : Prop where
  le : PH.le F F'
  st : St w K F' [] L xs vs z
  it : IsRangeIter z.heap I (i : Int) (2 - i) 1
  dl : ∃ items : Array Value, z.heap.PlainList D items ∧ DVs w F' [] (rs.map fun a => mstrs a) items.toList
  cj : ∃ v, z.heap.IsCell J v
  nc : ∃ m, z.heap.Ns C m
  fI : Free K F' [] L I
  fD : Free K F' [] L D
  fC : Free K F' [] L C
  fJ : Free K F' [] L J
  len : rs.length = i
  ok : ∀ a ∈ rs, Rows12 a
theorem clos1 (w : World) (L : Addr) : closureFor sc1 (LwCx w L).env = pure [(Str.ofString "script", L + 1)] := by kernel_rfl
theorem get_push2 (h : Heap) (o1 o2 : Obj) (hf : o2.isFreed = false) : ((h.push o1).push o2).get? (h.objs.size + 1) = some o2 := by
  rw [← Heap.size_push h o1]; exact Heap.get?_push_size _ hf
noncomputable abbrev lawXs : List Str := ["rows", "around", "one", "other", "listing"]
/-- the rows' element, as the loop needs it -/
noncomputable def EltOk (w : World) (A : Around) (L l : Addr) (us : Array Value) (elt : Expr) : Prop := ∀ (s : Shared) (J C : Addr) (j : Int) (u : Tok) (E : Value → Shared → Prop) (Q : Value → Shared → Prop), s.heap.get? 3 = some (B.o_392 w.params) → s.heap.get? 0 = some (boot_o_0 w.params) → s.heap.IsCell (L + 1) (some (.ref l)) → s.heap.IsList l us → s.heap.IsCell J (some (.int j u)) → (j = 0 ∨ j = 1) →
  (∀ D us2 a h' tk, s.heap.get? D = none → Keep s.heap h' → h'.PlainList D us2 → Rows12 a → (∀ (F : PH) (as : List Addr), DVs w F as (a.map .str) us2.toList) → Q (.ref D) { s with heap := h', toks := tk }) → wpAny (model pw w) A (eval elt (envA w L J C)) Q E s
theorem law_rows_loop {K : Kp} {F : PH} {L l I D C J : Addr} {ob ol : Obj} {us : Array Value} {elt iter : Expr} {py pj pos : Pos} {Q : Flow → Shared → Prop} (hh : A.handled = none)
    (hbox : F (L + 1) = some ob) (hob : ob.data = .cell (some (.ref l))) (hl : F l = some ol) (hq : ol.cls = .type "list" ∧ ∃ n, ol.data = .seq us n) (helt : EltOk w A L l us elt)
    (h0 : RowsInv w K F L lawXs [.unb, .unb, .unb, .unb, .unb] I D C J 0 F [] s) (nID : I ≠ D) (nIC : I ≠ C) (nIJ : I ≠ J) (nDC : D ≠ C) (nDJ : D ≠ J) (nCJ : C ≠ J)
    (hQ : ∀ F' s' a b, PH.le F F' → Rows12 a → Rows12 b → St w K F' [] L lawXs [.list [mstrs a, mstrs b], .unb, .unb, .unb, .unb] s' → Q .next s') :
    codeAny (model pw w) A (.compStart (.ListComp elt [⟨.Name (Str.ofString "j") pj, iter, [], 0⟩] sc1 pos) 0 (.ref I) (.ref D) (envA w L J C)) (compPost (model pw w) A E (some (assign (.Name (Str.ofString "rows") py) (LwCx w L).env)) (fun _ s' => Q .next s') (.ref D) C) s := by
  have loop : codeAny (model pw w) A (.compLoop (.ListComp elt [⟨.Name (Str.ofString "j") pj, iter, [], 0⟩] sc1 pos) 0 (.ref I) (.ref D) (envA w L J C)) (compPost (model pw w) A E (some (assign (.Name (Str.ofString "rows") py) (LwCx w L).env)) (fun _ s' => Q .next s') (.ref D) C) s := by
    refine codeAny_compLoop_list (fun n z => ∃ i F' rs, n + i = 2 ∧ RowsInv w K F L lawXs [.unb, .unb, .unb, .unb, .unb] I D C J i F' rs z) ?_ 2 ⟨0, F, [], rfl, h0⟩
    rintro n z ⟨i, F', rs, hn, v⟩
    by_cases hi : i < 2
    · refine wpAny_pyNext_range_item v.it (by lia) fun h1 hit1 hs1 => ?_
      have S1 := v.st.sameBut (t := z.toks + 1) v.fI fun a o ha e => (hs1.2 a ha).trans e
      obtain ⟨items, hpl, hdv⟩ := v.dl
      obtain ⟨v0, cj⟩ := v.cj
      obtain ⟨mc, nc⟩ := v.nc
      refine wpAny_assign_Name (wpAny_storeName_cell rfl (by kernel_rfl) (by kernel_rfl) (cj.sameBut hs1 (Ne.symm nIJ)) fun h2 hJ2 hs2 => ?_)
      have S2 := S1.sameBut (t := z.toks + 1) v.fJ fun a o ha e => (hs2.2 a ha).trans e
      have bx : h2.IsCell (L + 1) (some (.ref l)) := ⟨ob, S2.fz _ _ (v.le _ _ hbox), hob⟩
      have ls : h2.IsList l us := ⟨ol, S2.fz _ _ (v.le _ _ hl), hq⟩
      refine helt _ J C (i : Int) _ _ _ ((top3 w).get S2.toSF) ((top0 w).get S2.toSF) bx ls hJ2 (by lia) fun D2 us2 a h3 tk hD2 hk3 hpl2 hra hdv2 => ?_
      have k12 : ∀ b o, b ≠ I → b ≠ J → z.heap.get? b = some o → h3.get? b = some o := fun b o x y e => hk3 b o ((hs2.2 b y).trans ((hs1.2 b x).trans e))
      obtain ⟨n2, e2⟩ := hpl2
      obtain ⟨S3, l3⟩ := S2.frozen (s' := ⟨h3, z.gens, z.drawn, tk, z.os⟩) hD2 e2 hk3 rfl rfl
      have ex : ∀ b o, b ≠ I → b ≠ J → z.heap.get? b = some o → b ≠ D2 := fun b o x y e q => by
        subst q
        have := (hs2.2 b y).trans ((hs1.2 b x).trans e)
        rw [show h2.get? b = none from hD2] at this; cases this
      have nD2 : D ≠ D2 := by obtain ⟨_, e⟩ := hpl; exact ex D _ (Ne.symm nID) nDJ e
      have nC2 : C ≠ D2 := by obtain ⟨o, _, _, e, _⟩ := nc; exact ex C o (Ne.symm nIC) nCJ e
      have nJ2 : J ≠ D2 := fun q => by
        obtain ⟨o, e, _⟩ := hJ2
        rw [q, hD2] at e; cases e
      have nI2 : I ≠ D2 := fun q => by
        have e := (hs2.2 I nIJ).trans hit1
        rw [q, hD2] at e; cases e
      have hplD : h3.PlainList D items := hpl.at fun o e => k12 D o (Ne.symm nID) nDJ e
      refine wpAny_list_append_plain hplD (fun h4 hpl4 hs4 => ?_) (by rw [← Array.length_toList, ← hdv.length, List.length_map, v.len]; exact Nat.le_trans (show i ≤ 2 by lia) (by decide))
      refine ⟨n - 1, by lia, i + 1, _, rs ++ [a], by lia, v.le.trans l3, S3.sameBut (v.fD.ins nD2) fun a o ha e => (hs4.2 a ha).trans e, ?_, ⟨_, hpl4, ?_⟩, ?_, ?_, v.fI.ins nI2, v.fD.ins nD2, v.fC.ins nC2, v.fJ.ins nJ2, by rw [List.length_append, v.len]; rfl, ?_⟩
      · have e : h4.get? I = _ := (hs4.2 I nID).trans (hk3 I _ ((hs2.2 I nIJ).trans hit1))
        show IsRangeIter h4 I ((i + 1 : Nat) : Int) (2 - ((i + 1 : Nat) : Int)) 1
        rw [show ((i + 1 : Nat) : Int) = (i : Int) + 1 by lia, show (2 : Int) - ((i : Int) + 1) = 2 - i - 1 by lia]
        exact e
      · rw [Array.toList_push, List.map_append]
        exact (hdv.mono l3 (asLe.refl _)).append (.cons (.list (PH.ins_self _ _ _) ⟨rfl, rfl, rfl, _, rfl⟩ (hdv2 _ _)) .nil)
      · exact ⟨_, (hJ2.keeps hk3).sameBut hs4 (Ne.symm nDJ)⟩
      · exact ⟨mc, (nc.at' fun o e => k12 C o (Ne.symm nIC) nCJ e).sameBut hs4 (Ne.symm nDC)⟩
      · intro b hb
        rcases List.mem_append.mp hb with hb | hb
        · exact v.ok b hb
        · rw [List.mem_singleton.mp hb]; exact hra
    · have hi2 : i = 2 := by lia
      subst hi2
      refine wpAny_pyNext_range_end hh v.it (by lia) fun h1 hs1 => ?_
      have S1 := v.st.sameBut (t := z.toks) v.fI fun a o ha e => hs1 a o ha e
      obtain ⟨items, ⟨nn, hpl⟩, hdv⟩ := v.dl
      obtain ⟨mc, nc⟩ := v.nc
      have eD : h1.get? D = some _ := hs1 D _ (Ne.symm nID) hpl
      have S2 := S1.grow v.fD.f v.fD.b v.fD.c v.fD.l eD
      obtain ⟨a, b, rfl⟩ : ∃ a b, rs = [a, b] := by
        match rs, v.len with
        | [a, b], _ => exact ⟨a, b, rfl⟩
      have dD : DV w (F'.ins D { cls := .type "list", data := .seq items nn }) (adrs []) (.list [mstrs a, mstrs b]) (.ref D) := .list (PH.ins_self _ _ _) ⟨rfl, rfl, rfl, _, rfl⟩ (hdv.mono (PH.le_ins v.fD.f) (asLe.refl _))
      obtain ⟨m, hnL, hfr⟩ := S2.ns
      have ok := law_ok w L
      show wpAny _ A (assign (.Name (Str.ofString "rows") py) (LwCx w L).env (.ref D)) _ _ _
      refine wpAny_assign_Name (wpAny_storeName_local (by kernel_rfl) hnL (fun h2 hn2 hs2 => ?_) (by kernel_rfl))
      have S3 := S2.store (t := z.toks) (x := Str.ofString "rows") hnL hfr ok.nd Put.here dD hn2 hs2
      have nCL : C ≠ L := v.fC.l
      refine ⟨mc, (nc.at' fun o e => hs1 C o (Ne.symm nIC) e).sameBut hs2 nCL, fun h3 hs3 => ?_⟩
      exact hQ _ _ a b (v.le.trans (PH.le_ins v.fD.f)) (v.ok a (.head _)) (v.ok b (.tail _ (.head _))) (S3.sameBut (v.fC.ins (Ne.symm nDC)) fun a o ha e => (hs3.2 a ha).trans e)
  exact codeAny_compStart_list loop (wpAny_pyIter_rangeiter h0.it loop)
theorem law_rows {K : Kp} {F : PH} {L l : Addr} {ob ol : Obj} {us : Array Value} {elt : Expr} {q : Nat} {py pj p1 p2 p3 pos spos : Pos} {Q : Flow → Shared → Prop} (hh : A.handled = none)
    (S : St w K F [] L lawXs [.unb, .unb, .unb, .unb, .unb] s) (hbox : F (L + 1) = some ob) (hob : ob.data = .cell (some (.ref l))) (hl : F l = some ol) (hq : ol.cls = .type "list" ∧ ∃ n, ol.data = .seq us n) (helt : EltOk w A L l us elt)
    (hsw : swapsWith (.ListComp elt [⟨.Name (Str.ofString "j") pj, .Call (.Name (Str.ofString "range") p1) [.Constant (.int 2) q p2] [] p3, [], 0⟩] sc1 pos) (some (.Name (Str.ofString "rows") py)) spos.line (LwCx w L).env = pure true)
    (hQ : ∀ F' s' a b, PH.le F F' → Rows12 a → Rows12 b → St w K F' [] L lawXs [.list [mstrs a, mstrs b], .unb, .unb, .unb, .unb] s' → Q .next s') :
    wpAny (model pw w) A (exec (.Assign [.Name (Str.ofString "rows") py] (.ListComp elt [⟨.Name (Str.ofString "j") pj, .Call (.Name (Str.ofString "range") p1) [.Constant (.int 2) q p2] [] p3, [], 0⟩] sc1 pos) spos) (LwCx w L).env) Q E s := by
  rw [exec_Assign_Name_used _ _ _ _ hsw]
  refine wpAny_bind (wpAny_standAt (wpAny_bind ?_))
  show wpAny _ A (do let _ ← comprehension (.ListComp elt [⟨.Name (Str.ofString "j") pj, .Call (.Name (Str.ofString "range") p1) [.Constant (.int 2) q p2] [] p3, [], 0⟩] sc1 pos) sc1 (LwCx w L).env _ (newList []) false (eval (.Call (.Name (Str.ofString "range") p1) [.Constant (.int 2) q p2] [] p3) (LwCx w L).env) (some (assign (.Name (Str.ofString "rows") py) (LwCx w L).env))) _ _ s
  refine wpAny_bind (wpAny_mono (wpAny_comprehension_free (use := some (assign (.Name (Str.ofString "rows") py) (LwCx w L).env)) (Q := fun _ s' => Q .next s') rfl (by intro _; rfl) (clos1 w L) rfl (by decide) ?_) (fun _ s' hq => wpAny_pure (wpAny_pure hq)) fun _ _ e => e)
  obtain ⟨h0, g0, dr0, tk0, os0⟩ := s
  refine PyProof.Rows.Call_ (nm_bi (v := .type "range") ((top3 w).get S.toSF) ((top0 w).get S.toSF) rfl (by kernel_rfl) rfl rfl (by kernel_rfl) (by kernel_rfl) (PyProof.Rows.callWith_type1 (PyProof.Rows.args_cons (wpAny_Constant_int (PyProof.Rows.args_nil (call_range_1 ?_))))))
  refine wpAny_pyIter_range (IsRange.new _ _ _ _ _ _ _) (small_one (by decide) (by decide) (by decide) (by decide)) ?_
  rw [rangeSize_one]
  refine wpAny_newObj_type ?_
  refine new_envA ?_
  dsimp only
  have fr : ∀ b, h0.objs.size ≤ b → Free K F [] L b := fun b hb => S.free (get_of_ge hb)
  have z1 := fun (h : Heap) (o : Obj) => Heap.size_push h o
  refine law_rows_loop hh hbox hob hl hq helt ⟨PH.le.refl _, ((((S.push _ tk0).push _ tk0).push _ tk0).push _ tk0).push _ _, ?_, ⟨#[], ?_, .nil⟩, ⟨none, ?_⟩, ⟨fun _ => none, ?_⟩, fr _ ?_, fr _ ?_, fr _ ?_, fr _ ?_, rfl, fun _ h => (nomatch h)⟩ ?_ ?_ ?_ ?_ ?_ ?_ hQ
  · exact Heap.get?_push_of_some _ (Heap.get?_push_of_some _ (Heap.get?_push_of_some _ (Heap.get?_push_size _ rfl)))
  · exact ⟨_, Heap.get?_push_of_some _ (Heap.get?_push_of_some _ (Heap.get?_push_size _ rfl))⟩
  · exact ⟨{ cls := .type "cell", data := .cell none }, get_push2 _ _ _ rfl, rfl⟩
  · exact (Heap.Ns.new _ (.type "dict")).keeps (Keep.push _ _)
  all_goals (simp only [Heap.size_push]; first | lia | exact Nat.ne_of_lt (by lia))
end
end
open PySem PySem.W PySem.W.X PyProof.Rows
section
set_option Elab.async false
set_option linter.unusedVariables false
set_option maxRecDepth 100000
section
variable {w : World} {A : Around} {s : Shared}
theorem pick_ints {us : Array Value} {is : List Int} (h : IntsAre us.toList is) (i j : Option Int) : ∃ xs : Array (Int × Tok), (kms_pick us.toList i j).toArray = intItems xs := by
  refine AllInts.items fun v hv => ?_
  have hm : v ∈ us.toList := List.mem_of_mem_drop (List.mem_of_mem_take (by simpa [kms_pick] using hv))
  have := h.allInts
  exact this v (by simpa using hm)
theorem law_around {n : Nat} {K : Kp} {F : PH} {L l : Addr} {r : MV} {ob ol : Obj} {us : Array Value} {is : List Int} {q1 q2 : Nat} {p1 p2 p3 p4 p5 p6 p7 p8 p9 p10 : Pos} {Q : Flow → Shared → Prop} (hA : Room n A)
    (S : St w K F [] L lawXs [r, .unb, .unb, .unb, .unb] s) (hbox : F (L + 1) = some ob) (hob : ob.data = .cell (some (.ref l))) (hl : F l = some ol) (hq : ol.cls = .type "list" ∧ ∃ n, ol.data = .seq us n) (hI : IntsAre us.toList is) (hz : us.size ≤ 63)
    (hQ : ∀ F' s' k, PH.le F F' → 0 ≤ k → St w K F' [] L lawXs [r, .int k, .unb, .unb, .unb] s' → Q .next s') :
    wpAny (model pw w) A (exec (.Assign [.Name (Str.ofString "around") p1] (.BinOp (.Call (.Name (Str.ofString "sum") p2) [.Subscript (.Name (Str.ofString "script") p3) (.Slice none (some (.Constant (.int 1) q1 p4)) none p5) p6] [] p7) .Mod (.Constant (.int 4) q2 p8) p9) p10) (LwCx w L).env) Q NoE s := by
  have ok := law_ok w L
  refine wpAny_Assign_Name (wpAny_BinOp (PyProof.Rows.Call_ (nm_bi (v := .builtin "sum") ((top3 w).get S.toSF) ((top0 w).get S.toSF) rfl (by kernel_rfl) rfl rfl (by kernel_rfl) (by kernel_rfl) (PyProof.Rows.callWith_builtin1 (PyProof.Rows.args_cons ?_))))) (by kernel_rfl)
  have hs : ∀ u v, ∃ ops, subscripted (.Slice none (some (.Constant (.int 1) q1 p4)) none p5) false u v = operate ops (getItem u v) := fun _ _ => ⟨_, rfl⟩
  refine PyProof.Rows.Subscript_ (nm_cell rfl (by kernel_rfl) (c := L + 1) (by kernel_rfl) ⟨ob, S.fz _ _ hbox, hob⟩ (wpAny_Slice ((EVo.none (c := LwCx w L) (n := n)).go hA S fun F2 v1 s2 l2 S2 d1 => (EVo.some (c := LwCx w L) (n := n) EV.cint).go hA S2 fun F3 v2 s3 l3 S3 d2 => ?_)))
  refine wpAny_pure ?_
  obtain ⟨ops, e⟩ := hs (.ref l) (.ref s3.heap.objs.size)
  have hl3 := l3 _ _ (l2 _ _ hl)
  have S4 := S3.push { cls := .type "slice", data := .fields #[v1, v2, .none] } s3.toks
  have hz2 : us.size ≤ 1000 := by lia
  refine PyProof.Rows.tail_any (T := "list") ⟨_, S4.fz _ _ hl3, hq.1⟩ slot_list_getitem.lookup ?_ e
  refine wpAny_getItem_list_slice ⟨ol, S4.fz _ _ hl3, hq⟩ (Heap.IsSliceOf.new _ _ _ _) d1 d2 .none nofun ?_ (Nat.le_trans hz2 (by decide))
  rw [kms_pick_eq]
  obtain ⟨xs, hxs⟩ := pick_ints hI none (some 1)
  obtain ⟨S5, l5⟩ := S4.frozenPush { cls := .type "list", data := .seq (kms_pick us.toList none (some 1)).toArray } s3.toks rfl
  refine PyProof.Rows.args_nil (sum_intListG (xs := xs) hA.handled ⟨_, Heap.get?_push_size _ rfl, rfl, _, by rw [hxs]⟩ fun h' tk t' hk => ?_)
  have S6 := S5.ext (s' := ⟨h', s3.gens, s3.drawn, tk, s3.os⟩) hk rfl rfl
  refine wpAny_Constant_int (PyProof.Rows.mod_int (by decide) ?_)
  exact bind_name ok (by exact mem_lu (by kernel_rfl)) (.there .here) (S6.toks _) (.int _ _) fun s7 S7 => hQ _ s7 _ (l2.trans (l3.trans l5)) (Int.fmod_nonneg_of_pos _ (by decide)) S7
end
end
open PySem PySem.W PySem.W.X PyProof.Rows
section
set_option Elab.async false
set_option linter.unusedVariables false
set_option maxRecDepth 100000
theorem law_obj (P : Params) : (at6 P 287, at6 P 286) = (some (B.o_434 P), some (B.o_433 P)) := by kernel_rfl
theorem law_code (P : Params) : ∃ us : Array Value, ∃ t : Tok, (B.o_433 P).data = .fields us ∧ us[1]? = some (.str (funcOf (B.o_434 P)).qualname t) := ⟨_, _, rfl, rfl⟩
theorem law_env (w : World) (L : Addr) : callEnvC (funcOf (B.o_434 w.params)) L 287 = (LwCx w L).env := by kernel_rfl
theorem law_bind (P : Params) (v : Value) : bindArgs (funcOf (B.o_434 P)) ⟨[v], []⟩ = pure [(Str.ofString "script", v)] := by kernel_rfl
theorem law_kinds (P : Params) (L : Addr) : (funcOf (B.o_434 P)).scope.names.lookup (Str.ofString "script") = some .cell ∧ ((cellsFrom (L + 1) (funcOf (B.o_434 P)).scope.names []).lookup (Str.ofString "script")).isSome = true := ⟨by kernel_rfl, by kernel_rfl⟩
theorem law_cell (w : World) (L : Addr) (v : Value) : bindC (LwCx w L).env.kindOf [(Str.ofString "script", v)] (fun _ => none) (Str.ofString "script") = some v := by kernel_rfl
theorem law_walk {w : World} {s : Shared} {l : Addr} {us : Array Value} {is : List Int} {Q : Value → Shared → Prop} {E : Value → Shared → Prop} (Y : YP1 w s.heap) (hg : s.gens = #[]) (hl : s.heap.IsList l us) (hI : IntsAre us.toList is) (hz : us.size ≤ 63)
    (hQ : ∀ s', Keep s.heap s'.heap → s'.os = s.os → (∀ y ∈ s'.gens, y.bare = true) → Q (.bool true) s') : wpAny (model pw w) callerA (call (.ref 287) [.ref l]) Q E s := by
  have e1 := (Prod.mk.inj (law_obj w.params)).1
  have e2 := (Prod.mk.inj (law_obj w.params)).2
  have o1 := Y 287 _ e1
  have o2 := Y 286 _ e2
  obtain ⟨ol, el, hq⟩ := hl
  have hcd : s.heap.CodeRec (funcOf (B.o_434 w.params)).code (funcOf (B.o_434 w.params)).qualname := by
    obtain ⟨vs, t, x1, x2⟩ := law_code w.params
    exact ⟨286, _, vs, t, rfl, o2, x1, x2⟩
  have hlim : s.heap.NoLimit := ⟨fun _ => none, ⟨boot_o_2 w.params, #[], 0, Y 2 _ (boot2_at _), rfl, fun e he => by simp at he, fun _ => rfl⟩, rfl⟩
  refine wpAny_call (codeAny_call_cells (fd := funcOf (B.o_434 w.params)) (body := bodyOf (B.o_434 w.params)) (binds := [(Str.ofString "script", .ref l)]) (by decide +kernel) o1 rfl hlim hcd rfl (law_bind _ _) rfl (fun x hx => ?_) (fun s1 x => ?_) rfl rfl rfl)
  · rw [List.mem_singleton.mp hx]; exact .inr (law_kinds _ _)
  rw [law_env] at x ⊢
  have hbox := x.cell (Str.ofString "script") (s.heap.objs.size + 1) (by kernel_rfl)
  rw [law_cell] at hbox
  obtain ⟨ob, eb, hob⟩ := hbox
  obtain ⟨h1, tk1, rfl⟩ := x.toInCall.same
  have keep := x.toInCall.keep
  have hns := x.toInCall.ns
  generalize hL : s.heap.objs.size = L at eb hns ⊢
  have hnone : ∀ b, L ≤ b → s.heap.get? b = none := fun b hb => get_of_ge (hL ▸ hb)
  have hF : ∀ b o, s.heap.get? b = some o → (PH.ins s.heap.get? (L + 1) ob) b = some o := fun b o e => (PH.ins_ne fun q => by rw [q, hnone _ (Nat.le_succ L)] at e; cases e).trans e
  have S : St w ⟨fun _ => none, fun _ => none, s.os⟩ (PH.ins s.heap.get? (L + 1) ob) [] L lawXs [.unb, .unb, .unb, .unb, .unb] ⟨h1, s.gens, s.drawn, tk1, s.os⟩ := by
    refine ⟨⟨fun b o e => ?_, fun b o e => (nomatch e), fun x hx => (nomatch hx), List.nodup_nil, fun a ha => (nomatch ha), fun a o e => rfl, fun a o ha => hF a o (Y a o ha), ⟨fun i x e => (nomatch e), fun x hx => ?_⟩, rfl⟩, ⟨_, hns, fun x mv ha hu => ?_⟩, fun h => (nomatch h), ?_, rfl⟩
    · by_cases q : b = L + 1
      · subst q; rw [PH.ins_self] at e; cases e; exact eb
      · rw [PH.ins_ne q] at e; exact keep b o e
    · rw [show (⟨h1, s.gens, s.drawn, tk1, s.os⟩ : Shared).gens = #[] from hg] at hx; simp at hx
    · exact absurd (At.unbs (k := 5) ha) hu
    · exact (PH.ins_ne (Nat.ne_of_lt (Nat.lt_succ_self L))).trans (hnone L (Nat.le_refl _))
  have hA : Room 60 (callerA.deeper (LwCx w L).env) := ⟨rfl, by show 1 + claimMargin + 1 + 60 ≤ recursionLimit; decide +kernel, by show 4 + 3 + 10 * 60 ≤ cLine; decide +kernel⟩
  refine wpAny_noE ?_
  refine wpAny_execs_cons (law_rows hA.handled S (PH.ins_self _ _ _) hob (hF _ _ el) hq (fun s J C j u E Q a1 a2 a3 a4 a5 a6 a7 => inner_comp hA.handled a1 a2 a3 a4 hI hz a5 a6 a7) (by kernel_rfl) fun F2 s2 a b l2 ha hb S2 => ?_)
  refine wpAny_execs_cons (law_around hA S2 (l2 _ _ (PH.ins_self _ _ _)) hob (l2 _ _ (hF _ _ el)) hq hI hz fun F3 s3 k l3 hk S3 => ?_)
  have W := law_rest (w := w) (n := 40) (L := L) hk ha hb (P := fun fl cs' vs' => fl = .ret (.bool true) ∧ cs' = []) (fun vs' => ⟨rfl, rfl⟩)
  refine (XS.of W).go _ _ F3 s3 _ hA S3 fun F4 f s4 fl cs' vs' l4 S4 r p => ?_
  obtain ⟨rfl, rfl⟩ := p
  cases r with
  | ret d =>
    apply d.boolI
    exact hQ s4 (fun b o e => S4.fz b o (l4 _ _ (l3 _ _ (l2 _ _ (hF b o e))))) S4.os S4.gens.2
end
open PySem PySem.W PySem.W.X PyProof.Rows
section
noncomputable section
set_option Elab.async false
set_option maxRecDepth 100000
set_option maxHeartbeats 0
theorem said1 : OpenLaw.wellSaid PySem.Challenge.rw_xg0001_01 = true := by kernel_rfl
end
end
open PySem PySem.W PySem.W.X PyProof.Rows
section
set_option Elab.async false
set_option linter.unusedVariables false
set_option maxRecDepth 100000
theorem ns_one {h : Heap} {a : Addr} {m m' : Str → Option Value} (x : h.Ns a m) (y : h.Ns a m') (n : Str) : m n = m' n := by
  obtain ⟨o, es, ep, e, d, _, hm⟩ := x
  obtain ⟨o', es', ep', e', d', _, hm'⟩ := y
  rw [e] at e'; cases e'
  rw [d] at d'; cases d'
  rw [← hm, ← hm']
theorem ints_len {vs : List Value} {is : List Int} (h : IntsAre vs is) : vs.length = is.length := by
  induction h with
  | nil => rfl
  | cons _ _ _ ih => rw [List.length_cons, List.length_cons, ih]
theorem law_fin {c : ClaimW} {cl : Str → Option Addr} {mean : ExcName → Option Value} {args : List WData} {w : World} {s1 : Shared} {mg : Str → Option Value} {fa l : Addr} {vs : List Value} {is : List Int} (Y : YP1 w s1.heap) (hn : s1.heap.Ns mainGlobals mg) (hmg : mg (Str.ofString "law") = some (.ref fa)) (hg : s1.gens = #[])
    (hl : s1.heap.IsList l vs.toArray) (hI : IntsAre vs is) (hz : ¬ (63 : Int) < is.length) (hr : ∀ cls, c.raises args cls = false) (hp : c.post args (.bool true) args = true) :
    wpAny (model pw w) callerA (call (.ref fa) [.ref l]) (fun v s' => GoodWG c cl mean args s1 (.ok (.ret v)) s') (fun e s' => GoodWG c cl mean args s1 (.error e) s') s1 := by
  have h3 : s1.heap.Ns mainGlobals (nsOf (B.o_392 w.params)) := nsOk_at (nsOk3 _) (Y 3 _ (top3 w))
  have e := ns_one hn h3 (Str.ofString "law")
  rw [hmg, show nsOf (B.o_392 w.params) (Str.ofString "law") = some (.ref 287) by kernel_rfl] at e
  cases e
  refine law_walk (us := vs.toArray) (is := is) Y hg hl hI (by have := ints_len hI; rw [List.size_toArray]; lia) fun s' hk ho hb => ?_
  exact ⟨.inl ⟨_, _, [], rfl, hr, ReadsW.bool true, hp, fun _ => ⟨List.nodup_nil, fun _ hm => (nomatch hm)⟩⟩, OldK.of_keep hk, ho, hb⟩
end
end Mine
set_option maxHeartbeats 8000000 in
theorem PySem.Challenge.cw_xg0001_01_holds : PySem.Challenge.rw_xg0001_01.Holds := by
  refine holds_law Mine.said1 fun said => ?_
  refine holds_open (q := Mine.q1) (loose := Mine.loose1) (Xt := Mine.Xt1) (XP := XL Mine.q1 []) (Yf := Mine.Yf1) (Ya := Mine.Ya1) (YP := Mine.YP1) (N := 5000) Mine.left1 Mine.yp_of Mine.yp_keeps
    (fun s e => xl_of s (Mine.xt_of e).1) XL.keeps (by rfl) (by rfl) (by rfl) (fun s e => recFacts_of (Mine.xt_of e).2) (by rfl)
    (by first | assumption | decide +kernel) (by decide +kernel) ⟨rfl, rfl, rfl, rfl, rfl, by decide +kernel⟩ ?hw ?hc
  case hw => exact ⟨[.list []], by decide +kernel, by decide +kernel⟩
  case hc =>
    intro w s0 s1 mg mb G Y fa o pm cd doc dV kV ho hd hcd hD hmg hg args vals as hpre hlay hrd hwl hlo
    wrow_args hpre hlay hrd hwl hlo
    exact Mine.law_fin Y G.T.g hmg hg (by assumption) (by assumption) (by assumption) (fun _ => rfl) (by first | rfl | wrow_post)
