import PyProof.Rows.All
import Wide.All
import OpenK.AllK
import Wide.FinOn
import PySem.Challenge.RW_dm0054_12
set_option compiler.extract_closed false
section
open PySem PySem.W
set_option maxRecDepth 100000
set_option maxHeartbeats 0
set_option Elab.async false
namespace Mine
noncomputable def anyA {α : Type} (a : Array α) (p : α → Bool) (start : Nat := 0) (stop : Nat := a.size) : Bool :=
  @Bool.rec (fun _ => Bool) (Array.any a p start stop) (R.anyR a.toList p) (Nat.beq start 0 && Nat.beq stop a.size)
theorem any_eq : @Array.any.{0} = @anyA := by
  funext α a p s t
  unfold anyA
  cases h : (Nat.beq s 0 && Nat.beq t a.size) with
  | false => rfl
  | true =>
    simp only [Bool.and_eq_true] at h
    have h1 := Nat.eq_of_beq_eq_true h.1
    have h2 := Nat.eq_of_beq_eq_true h.2
    subst h1 h2
    show _ = R.anyR a.toList p
    rw [← R.anyR_eq]; simp
structure Carry (a : Builtin) : Type where
  u : Unit
noncomputable def Carry.get {a : Builtin} (_ : Carry a) : Builtin := a
noncomputable def tnF : Builtin := by
  have c : Carry PySem.W.Fast.tw4202317264376624991 := ⟨()⟩
  delta PySem.W.Fast.tw4202317264376624991 at c
  exact (any_eq ▸ c).get
theorem tnF_eq : PySem.W.Fast.tw4202317264376624991 = tnF := by
  have h : PySem.W.Fast.tw4202317264376624991 = PySem.W.Fast.tw4202317264376624991 := rfl
  conv at h =>
    rhs
    delta PySem.W.Fast.tw4202317264376624991
  rw [any_eq] at h
  exact h
noncomputable def tb (n : String) : Option Builtin :=
  @Bool.rec (fun _ => Option Builtin) (PySem.W.Fast.tw14364793385576792824 n) (some tnF) (PySem.W.S.eqLit 29827186395103491166823348853 n)
theorem tb_eq : treeTable = tb := by
  funext n
  have e : (n == "type.__new__") = PySem.W.S.eqLit 29827186395103491166823348853 n := congrFun (PySem.W.S.eqLit_eq "type.__new__" 29827186395103491166823348853 (by decide +kernel)) n
  unfold tb
  rw [← e]
  cases h : (n == "type.__new__") with
  | false => exact congrFun PySem.W.Fast.te14364793385576792824 n
  | true =>
    have hn : n = "type.__new__" := beq_iff_eq.mp h
    subst hn
    show treeTable "type.__new__" = some tnF
    rw [← tnF_eq]
    exact (congrFun PySem.W.Fast.te14364793385576792824 _).trans (by kernel_rfl!)
end Mine
end
section
open PySem PySem.W PyProof.Rows
set_option maxRecDepth 100000
set_option maxHeartbeats 0
set_option Elab.async false
set_option linter.unusedVariables false
namespace Mine
noncomputable section
noncomputable def pw : Program := PySem.Challenge.pw_dm0054_12
noncomputable def pos0 : Pos := ⟨0, 0, 0, 0⟩
noncomputable def top (i : Nat) : Stmt := (pw.main.body[i]?).getD (.Pass pos0)
noncomputable def clsBody : Stmt → List Stmt
  | .ClassDef _ _ _ b .. => b
  | _ => []
noncomputable def mem (i j : Nat) : Stmt := ((clsBody (top i))[j]?).getD (.Pass pos0)
noncomputable def fnBody : Stmt → List Stmt
  | .FunctionDef _ _ b .. => b
  | _ => []
noncomputable def fnScope : Stmt → Scope
  | .FunctionDef _ _ _ _ _ _ s .. => s
  | _ => default
noncomputable def fnArgs : Stmt → Arguments
  | .FunctionDef _ a .. => a
  | _ => default
noncomputable def fnName : Stmt → Str
  | .FunctionDef n .. => n
  | _ => Str.empty
noncomputable def headDoc : List Stmt → Str
  | .Expr (.Constant (.str d) _ _) _ :: _ => d
  | _ => Str.empty
noncomputable def docV (st : Stmt) (t : Tok) : Value := .str (headDoc (fnBody st)) t
noncomputable def doc5 : Str := headDoc (clsBody (top 5))
structure OfL (s : Str) : Type where
  l : List Char
  h : s = ⟨(l.map Char.toNat).toArray⟩
theorem ofL_self (s : String) (l : List Char) (h : String.ofList l = s) : Str.ofString s = ⟨(l.map Char.toNat).toArray⟩ := by subst h; exact PySem.W.Fast.ofString_ofList l
noncomputable def doc5L : OfL doc5 := by
  delta doc5
  refine OfL.mk ?l ?h
  case h =>
    refine ofL_self ?s ?l ?g
    case g => exact rfl
noncomputable def docFast : Str := ⟨(doc5L.l.map Char.toNat).toArray⟩
theorem doc_eq : doc5 = docFast := doc5L.h
noncomputable def setDoc (d : Str) : Stmt → Stmt
  | .ClassDef n bs ks (.Expr (.Constant (.str _) k p) p' :: r) ds tp sc ts bi sa pos => .ClassDef n bs ks (.Expr (.Constant (.str d) k p) p' :: r) ds tp sc ts bi sa pos
  | s => s
noncomputable def bodyD (d : Str) : List Stmt := pw.main.body.take 5 ++ setDoc d (top 5) :: pw.main.body.drop 6
noncomputable def pwD (d : Str) : Program := { pw with main := { pw.main with body := bodyD d } }
noncomputable def topD (d : Str) (i : Nat) : Stmt := ((bodyD d)[i]?).getD (.Pass pos0)
noncomputable def fdOf (st : Stmt) (qual : Str) (g : Addr) (cl : List (Str × Addr)) (dV kV doc pm : Value) (an : Option Addr) (cd ct : Value) (b : Addr) : FuncData :=
  { name := fnName st, qualname := qual, params := fnArgs st, body := .stmts (fnBody st), scope := fnScope st, globals := g, closure := cl, defaults := dV, kwdefaults := kV, doc := doc, pyModule := pm, annotations := an, code := cd, closureTuple := ct, builtins := b }
noncomputable def o11 : Obj := { cls := Value.type "tuple", data := Data.seq #[] }
noncomputable def o12 : Obj := { cls := Value.none, data := Data.fields #[] }
noncomputable def o13 : Obj := { cls := Value.type "code", data := Data.fields #[Value.str "<module>" 182, Value.str "<module>" 183, Value.str "/claim/cut.py" 184, Value.int 1 0, Value.int 0 0, Value.int 0 0, Value.int 0 0, Value.int 0 0, Value.ref 11, Value.bool false,
        Value.int 181 0, Value.ref 12, Value.none, Value.none, Value.none, Value.none, Value.int 185 0, Value.int 1 0, Value.str "/claim/cut.py" 186] }
noncomputable def o14 : Obj := { cls := Value.type "frame", slots := #[some (Value.ref 13), some (Value.ref 3), some (Value.ref 3), none, some (Value.str "__main__" 164), none, some (Value.ref 0)] }
noncomputable def tree1 (P : Params) : BT := (BT.node (boot_o_0 P) (BT.node (boot_o_1 P) (BT.node (boot_o_3 P) (BT.node (boot_o_7 P) .nil .nil) (BT.node (o11) .nil .nil)) (BT.node (boot_o_5 P) (BT.node (boot_o_9 P) .nil .nil) (BT.node (o13) .nil .nil))) (BT.node (boot_o_2 P) (BT.node (boot_o_4 P) (BT.node (boot_o_8 P) .nil .nil) (BT.node (o12) .nil .nil)) (BT.node (boot_o_6 P) (BT.node (boot_o_10 P) .nil .nil) (BT.node (o14) .nil .nil))))
noncomputable def S1T (w : World) (os : OsState) : SharedT := ⟨tree1 w.params, 15, {}, #[], boot_drawn, 187, os⟩
noncomputable def env1 : Env := { scope := pw.main.scope, locals := mainNs, globals := mainNs, cells := [], code := .ref 13, frame := some 14 }
noncomputable def code1 : Code := .body pw.main.body env1
noncomputable def q : Program := { pw with main := { pw.main with body := [0, 2, 3, 4, 5, 7, 8, 9].map top } }
noncomputable def qD (d : Str) : Program := { pw with main := { pw.main with body := [0, 2, 3, 4, 5, 7, 8, 9].map (topD d) } }
noncomputable def loose : List Str := ["_tuplegetter", "Match", "SequenceMatcher"]
noncomputable def xt (s : Shared) : Bool := xlAt q [] s && recOk [] s
noncomputable def k2 (P : Params) : Obj := ⟨.none, none, .dict #[] 0, #[]⟩
noncomputable def k3 (P : Params) : Obj := ⟨(.type "dict"), none, .dict #[⟨PyData.keyHash P "__name__", (.str "__name__" 165), (.str "law_dm0054_12" 575)⟩, ⟨PyData.keyHash P "__doc__", (.str "__doc__" 166), .none⟩, ⟨PyData.keyHash P "__package__", (.str "__package__" 167), .none⟩, ⟨PyData.keyHash P "__loader__", (.str "__loader__" 168), (.builtin "__main__.__loader__#opaque")⟩, ⟨PyData.keyHash P "__spec__", (.str "__spec__" 169), .none⟩, ⟨PyData.keyHash P "__annotations__", (.str "__annotations__" 170), (.ref 6)⟩, ⟨PyData.keyHash P "__builtins__", (.str "__builtins__" 171), (.ref 4)⟩, ⟨PyData.keyHash P "__file__", (.str "__file__" 173), (.str "/claim/cut.py" 172)⟩, ⟨PyData.keyHash P "__cached__", (.str "__cached__" 174), .none⟩, ⟨PyData.keyHash P "_wall", (.str "_wall" 193), (.ref 21)⟩, ⟨PyData.keyHash P "_tuplegetter", (.str "_tuplegetter" 252), (.ref 60)⟩, ⟨PyData.keyHash P "Match", (.str "Match" 380), (.ref 135)⟩, ⟨PyData.keyHash P "_calculate_ratio", (.str "_calculate_ratio" 388), (.ref 145)⟩, ⟨PyData.keyHash P "SequenceMatcher", (.str "SequenceMatcher" 574), (.ref 242)⟩, ⟨PyData.keyHash P "_law_put", (.str "_law_put" 589), (.ref 253)⟩, ⟨PyData.keyHash P "_law_in_place", (.str "_law_in_place" 595), (.ref 258)⟩, ⟨PyData.keyHash P "law", (.str "law" 601), (.ref 263)⟩] 17, #[]⟩
noncomputable def k81 (P : Params) : Obj := ⟨(.type "code"), none, .fields #[(.str "__new__" 274), (.str "Match.__new__" 275), (.str "/claim/cut.py" 276), (.int (29) 0), (.int (4) 0), (.int (0) 0), (.int (0) 0), (.int (3) 0), (.ref 76), (.bool true), (.int (181) 0), (.ref 77), .none, (.ref 78), (.ref 79), (.ref 80), (.int (281) 0), (.int (29) 0), (.str "/claim/cut.py" 282)], #[]⟩
noncomputable def k82 (P : Params) : Obj := ⟨(.type "function"), none, .func (fdOf (mem 3 4) "Match.__new__" 3 [] .none .none (docV (mem 3 4) 283) (.str "cpy313.difflib" 194) none (.ref 81) .none 0), #[]⟩
noncomputable def k88 (P : Params) : Obj := ⟨(.type "code"), none, .fields #[(.str "_make" 285), (.str "Match._make" 286), (.str "/claim/cut.py" 287), (.int (33) 0), (.int (2) 0), (.int (0) 0), (.int (0) 0), (.int (3) 0), (.ref 83), (.bool true), (.int (181) 0), (.ref 84), .none, (.ref 85), (.ref 86), (.ref 87), (.int (291) 0), (.int (33) 0), (.str "/claim/cut.py" 292)], #[]⟩
noncomputable def k89 (P : Params) : Obj := ⟨(.type "function"), none, .func (fdOf (mem 3 5) "Match._make" 3 [] .none .none (docV (mem 3 5) 293) (.str "cpy313.difflib" 194) (some 92) (.ref 88) .none 0), #[]⟩
noncomputable def k91 (P : Params) : Obj := ⟨(.type "classmethod"), (some 90), .fields #[(.ref 89), (.bool false)], #[]⟩
noncomputable def k134 (P : Params) : Obj := ⟨(.type "dict"), none, .dict #[⟨PyData.keyHash P "__module__", (.str "__module__" 260), (.str "cpy313.difflib" 194)⟩, ⟨PyData.keyHash P "__firstlineno__", (.str "__firstlineno__" 264), (.int (23) 263)⟩, ⟨PyData.keyHash P "__doc__", (.str "__doc__" 266), (.str "Match(a, b, size)" 265)⟩, ⟨PyData.keyHash P "__slots__", (.str "__slots__" 268), (.ref 73)⟩, ⟨PyData.keyHash P "_fields", (.str "_fields" 272), (.ref 74)⟩, ⟨PyData.keyHash P "_field_defaults", (.str "_field_defaults" 273), (.ref 75)⟩, ⟨PyData.keyHash P "__new__", (.str "__new__" 284), (.ref 136)⟩, ⟨PyData.keyHash P "_make", (.str "_make" 306), (.ref 91)⟩, ⟨PyData.keyHash P "_replace", (.str "_replace" 317), (.ref 100)⟩, ⟨PyData.keyHash P "__replace__", (.str "__replace__" 318), (.ref 100)⟩, ⟨PyData.keyHash P "__repr__", (.str "__repr__" 326), (.ref 107)⟩, ⟨PyData.keyHash P "_asdict", (.str "_asdict" 333), (.ref 114)⟩, ⟨PyData.keyHash P "__getnewargs__", (.str "__getnewargs__" 341), (.ref 121)⟩, ⟨PyData.keyHash P "__match_args__", (.str "__match_args__" 345), (.ref 122)⟩, ⟨PyData.keyHash P "a", (.str "a" 355), (.ref 124)⟩, ⟨PyData.keyHash P "b", (.str "b" 365), (.ref 127)⟩, ⟨PyData.keyHash P "size", (.str "size" 375), (.ref 130)⟩, ⟨PyData.keyHash P "__static_attributes__", (.str "__static_attributes__" 376), (.ref 132)⟩] 2, #[]⟩
noncomputable def k135 (P : Params) : Obj := ⟨(.type "type"), none, .cls { name := "Match", bases := [(.type "tuple")], mro := [(.ref 135), (.type "tuple"), (.type "object")], ns := 134, qualname := "Match", hasDict := false, slotNames := [], subclasses := [], abstract := false, collection := none, hasDel := false }, #[(some (.ref 65)), none, (some (.str "Match" 253)), (some (.str "Match" 261)), (some .none), (some (.bool false))]⟩
noncomputable def k136 (P : Params) : Obj := ⟨(.type "staticmethod"), none, .fields #[(.ref 82)], #[]⟩
noncomputable def k153 (P : Params) : Obj := ⟨(.type "tuple"), none, .seq #[.none, (.str "" 404), (.str "" 405), (.bool true)] 0, #[]⟩
noncomputable def k159 (P : Params) : Obj := ⟨(.type "code"), none, .fields #[(.str "__init__" 406), (.str "SequenceMatcher.__init__" 407), (.str "/claim/cut.py" 408), (.int (145) 0), (.int (5) 0), (.int (0) 0), (.int (0) 0), (.int (3) 0), (.ref 154), (.bool true), (.int (181) 0), (.ref 155), .none, (.ref 156), (.ref 157), (.ref 158), (.int (414) 0), (.int (145) 0), (.str "/claim/cut.py" 415)], #[]⟩
noncomputable def k160 (P : Params) : Obj := ⟨(.type "function"), none, .func (fdOf (mem 5 1) "SequenceMatcher.__init__" 3 [] (.ref 153) .none (docV (mem 5 1) 416) (.str "cpy313.difflib" 194) none (.ref 159) .none 0), #[]⟩
noncomputable def k166 (P : Params) : Obj := ⟨(.type "code"), none, .fields #[(.str "set_seqs" 418), (.str "SequenceMatcher.set_seqs" 419), (.str "/claim/cut.py" 420), (.int (173) 0), (.int (3) 0), (.int (0) 0), (.int (0) 0), (.int (3) 0), (.ref 161), (.bool true), (.int (181) 0), (.ref 162), .none, (.ref 163), (.ref 164), (.ref 165), (.int (424) 0), (.int (173) 0), (.str "/claim/cut.py" 425)], #[]⟩
noncomputable def k167 (P : Params) : Obj := ⟨(.type "function"), none, .func (fdOf (mem 5 2) "SequenceMatcher.set_seqs" 3 [] .none .none (docV (mem 5 2) 426) (.str "cpy313.difflib" 194) none (.ref 166) .none 0), #[]⟩
noncomputable def k173 (P : Params) : Obj := ⟨(.type "code"), none, .fields #[(.str "set_seq1" 428), (.str "SequenceMatcher.set_seq1" 429), (.str "/claim/cut.py" 430), (.int (184) 0), (.int (2) 0), (.int (0) 0), (.int (0) 0), (.int (3) 0), (.ref 168), (.bool true), (.int (181) 0), (.ref 169), .none, (.ref 170), (.ref 171), (.ref 172), (.int (433) 0), (.int (184) 0), (.str "/claim/cut.py" 434)], #[]⟩
noncomputable def k174 (P : Params) : Obj := ⟨(.type "function"), none, .func (fdOf (mem 5 3) "SequenceMatcher.set_seq1" 3 [] .none .none (docV (mem 5 3) 435) (.str "cpy313.difflib" 194) none (.ref 173) .none 0), #[]⟩
noncomputable def k180 (P : Params) : Obj := ⟨(.type "code"), none, .fields #[(.str "set_seq2" 437), (.str "SequenceMatcher.set_seq2" 438), (.str "/claim/cut.py" 439), (.int (209) 0), (.int (2) 0), (.int (0) 0), (.int (0) 0), (.int (3) 0), (.ref 175), (.bool true), (.int (181) 0), (.ref 176), .none, (.ref 177), (.ref 178), (.ref 179), (.int (442) 0), (.int (209) 0), (.str "/claim/cut.py" 443)], #[]⟩
noncomputable def k181 (P : Params) : Obj := ⟨(.type "function"), none, .func (fdOf (mem 5 4) "SequenceMatcher.set_seq2" 3 [] .none .none (docV (mem 5 4) 444) (.str "cpy313.difflib" 194) none (.ref 180) .none 0), #[]⟩
noncomputable def k187 (P : Params) : Obj := ⟨(.type "code"), none, .fields #[(.str "__chain_b" 446), (.str "SequenceMatcher.__chain_b" 447), (.str "/claim/cut.py" 448), (.int (236) 0), (.int (1) 0), (.int (0) 0), (.int (0) 0), (.int (3) 0), (.ref 182), (.bool true), (.int (181) 0), (.ref 183), .none, (.ref 184), (.ref 185), (.ref 186), (.int (461) 0), (.int (236) 0), (.str "/claim/cut.py" 462)], #[]⟩
noncomputable def k188 (P : Params) : Obj := ⟨(.type "function"), none, .func (fdOf (mem 5 5) "SequenceMatcher.__chain_b" 3 [] .none .none .none (.str "cpy313.difflib" 194) none (.ref 187) .none 0), #[]⟩
noncomputable def k189 (P : Params) : Obj := ⟨(.type "tuple"), none, .seq #[(.int (0) 464), .none, (.int (0) 465), .none] 0, #[]⟩
noncomputable def k195 (P : Params) : Obj := ⟨(.type "code"), none, .fields #[(.str "find_longest_match" 466), (.str "SequenceMatcher.find_longest_match" 467), (.str "/claim/cut.py" 468), (.int (260) 0), (.int (5) 0), (.int (0) 0), (.int (0) 0), (.int (3) 0), (.ref 190), (.bool true), (.int (181) 0), (.ref 191), .none, (.ref 192), (.ref 193), (.ref 194), (.int (488) 0), (.int (260) 0), (.str "/claim/cut.py" 489)], #[]⟩
noncomputable def k196 (P : Params) : Obj := ⟨(.type "function"), none, .func (fdOf (mem 5 6) "SequenceMatcher.find_longest_match" 3 [] (.ref 189) .none (docV (mem 5 6) 490) (.str "cpy313.difflib" 194) none (.ref 195) .none 0), #[]⟩
noncomputable def k202 (P : Params) : Obj := ⟨(.type "code"), none, .fields #[(.str "get_matching_blocks" 492), (.str "SequenceMatcher.get_matching_blocks" 493), (.str "/claim/cut.py" 494), (.int (335) 0), (.int (1) 0), (.int (0) 0), (.int (0) 0), (.int (3) 0), (.ref 197), (.bool true), (.int (181) 0), (.ref 198), .none, (.ref 199), (.ref 200), (.ref 201), (.int (515) 0), (.int (335) 0), (.str "/claim/cut.py" 516)], #[]⟩
noncomputable def k203 (P : Params) : Obj := ⟨(.type "function"), none, .func (fdOf (mem 5 7) "SequenceMatcher.get_matching_blocks" 3 [] .none .none (docV (mem 5 7) 517) (.str "cpy313.difflib" 194) none (.ref 202) .none 0), #[]⟩
noncomputable def k241D (d : Str) (P : Params) : Obj := ⟨(.type "dict"), none, .dict #[⟨PyData.keyHash P "__module__", (.str "__module__" 396), (.str "cpy313.difflib" 194)⟩, ⟨PyData.keyHash P "__firstlineno__", (.str "__firstlineno__" 400), (.int (70) 399)⟩, ⟨PyData.keyHash P "__doc__", (.str "__doc__" 402), .str d 401⟩, ⟨PyData.keyHash P "__init__", (.str "__init__" 417), (.ref 160)⟩, ⟨PyData.keyHash P "set_seqs", (.str "set_seqs" 427), (.ref 167)⟩, ⟨PyData.keyHash P "set_seq1", (.str "set_seq1" 436), (.ref 174)⟩, ⟨PyData.keyHash P "set_seq2", (.str "set_seq2" 445), (.ref 181)⟩, ⟨PyData.keyHash P "_SequenceMatcher__chain_b", (.str "_SequenceMatcher__chain_b" 463), (.ref 188)⟩, ⟨PyData.keyHash P "find_longest_match", (.str "find_longest_match" 491), (.ref 196)⟩, ⟨PyData.keyHash P "get_matching_blocks", (.str "get_matching_blocks" 518), (.ref 203)⟩, ⟨PyData.keyHash P "get_opcodes", (.str "get_opcodes" 525), (.ref 210)⟩, ⟨PyData.keyHash P "get_grouped_opcodes", (.str "get_grouped_opcodes" 534), (.ref 218)⟩, ⟨PyData.keyHash P "ratio", (.str "ratio" 543), (.ref 225)⟩, ⟨PyData.keyHash P "quick_ratio", (.str "quick_ratio" 550), (.ref 232)⟩, ⟨PyData.keyHash P "real_quick_ratio", (.str "real_quick_ratio" 557), (.ref 239)⟩, ⟨PyData.keyHash P "__static_attributes__", (.str "__static_attributes__" 568), (.ref 240)⟩, ⟨PyData.keyHash P "__dict__", (.str "__dict__" 570), (.ref 243)⟩, ⟨PyData.keyHash P "__weakref__", (.str "__weakref__" 572), (.ref 244)⟩] 3, #[]⟩
noncomputable def k241 (P : Params) : Obj := k241D doc5 P
noncomputable def k242 (P : Params) : Obj := ⟨(.type "type"), none, .cls { name := "SequenceMatcher", bases := [(.type "object")], mro := [(.ref 242), (.type "object")], ns := 241, qualname := "SequenceMatcher", hasDict := true, slotNames := [], subclasses := [], abstract := false, collection := none, hasDel := false }, #[none, none, (some (.str "SequenceMatcher" 389)), (some (.str "SequenceMatcher" 397)), (some (.builtin "object.__new__")), (some (.bool true))]⟩
noncomputable def k252 (P : Params) : Obj := ⟨(.type "code"), none, .fields #[(.str "_law_put" 577), (.str "_law_put" 578), (.str "/claim/cut.py" 579), (.int (419) 0), (.int (3) 0), (.int (0) 0), (.int (0) 0), (.int (3) 0), (.ref 247), (.bool true), (.int (181) 0), (.ref 248), .none, (.ref 249), (.ref 250), (.ref 251), (.int (587) 0), (.int (419) 0), (.str "/claim/cut.py" 588)], #[]⟩
noncomputable def k253 (P : Params) : Obj := ⟨(.type "function"), none, .func (fdOf (top 7) "_law_put" 3 [] .none .none .none (.str "law_dm0054_12" 575) none (.ref 252) .none 0), #[]⟩
noncomputable def k257 (P : Params) : Obj := ⟨(.type "code"), none, .fields #[(.str "_law_in_place" 590), (.str "_law_in_place" 591), (.str "/claim/cut.py" 592), (.int (427) 0), (.int (4) 0), (.int (0) 0), (.int (0) 0), (.int (3) 0), (.ref 254), (.bool true), (.int (181) 0), (.ref 255), .none, .none, .none, (.ref 256), (.int (593) 0), (.int (427) 0), (.str "/claim/cut.py" 594)], #[]⟩
noncomputable def k258 (P : Params) : Obj := ⟨(.type "function"), none, .func (fdOf (top 8) "_law_in_place" 3 [] .none .none .none (.str "law_dm0054_12" 575) none (.ref 257) .none 0), #[]⟩
noncomputable def k262 (P : Params) : Obj := ⟨(.type "code"), none, .fields #[(.str "law" 596), (.str "law" 597), (.str "/claim/cut.py" 598), (.int (435) 0), (.int (1) 0), (.int (0) 0), (.int (0) 0), (.int (3) 0), (.ref 259), (.bool true), (.int (181) 0), (.ref 260), .none, .none, .none, (.ref 261), (.int (599) 0), (.int (435) 0), (.str "/claim/cut.py" 600)], #[]⟩
noncomputable def k263 (P : Params) : Obj := ⟨(.type "function"), none, .func (fdOf (top 9) "law" 3 [] .none .none .none (.str "law_dm0054_12" 575) none (.ref 262) .none 0), #[]⟩
noncomputable def K (P : Params) : Frag := (nat_lit 2, k2 P) :: (nat_lit 3, k3 P) :: (nat_lit 81, k81 P) :: (nat_lit 82, k82 P) :: (nat_lit 88, k88 P) :: (nat_lit 89, k89 P) :: (nat_lit 91, k91 P) :: (nat_lit 134, k134 P) :: (nat_lit 135, k135 P) :: (nat_lit 136, k136 P) :: (nat_lit 153, k153 P) :: (nat_lit 159, k159 P) :: (nat_lit 160, k160 P) :: (nat_lit 166, k166 P) :: (nat_lit 167, k167 P) :: (nat_lit 173, k173 P) :: (nat_lit 174, k174 P) :: (nat_lit 180, k180 P) :: (nat_lit 181, k181 P) :: (nat_lit 187, k187 P) :: (nat_lit 188, k188 P) :: (nat_lit 189, k189 P) :: (nat_lit 195, k195 P) :: (nat_lit 196, k196 P) :: (nat_lit 202, k202 P) :: (nat_lit 203, k203 P) :: (nat_lit 241, k241 P) :: (nat_lit 242, k242 P) :: (nat_lit 252, k252 P) :: (nat_lit 253, k253 P) :: (nat_lit 257, k257 P) :: (nat_lit 258, k258 P) :: (nat_lit 262, k262 P) :: (nat_lit 263, k263 P) :: []
noncomputable def kAs : List Addr := [2, 3, 81, 82, 88, 89, 91, 134, 135, 136, 153, 159, 160, 166, 167, 173, 174, 180, 181, 187, 188, 189, 195, 196, 202, 203, 241, 242, 252, 253, 257, 258, 262, 263]
noncomputable def seenK (h : Heap) : List (Option Obj) := [h.get? 2, h.get? 3, h.get? 81, h.get? 82, h.get? 88, h.get? 89, h.get? 91, h.get? 134, h.get? 135, h.get? 136, h.get? 153, h.get? 159, h.get? 160, h.get? 166, h.get? 167, h.get? 173, h.get? 174, h.get? 180, h.get? 181, h.get? 187, h.get? 188, h.get? 189, h.get? 195, h.get? 196, h.get? 202, h.get? 203, h.get? 241, h.get? 242, h.get? 252, h.get? 253, h.get? 257, h.get? 258, h.get? 262, h.get? 263]
noncomputable def goodK (P : Params) : List (Option Obj) := [some (k2 P), some (k3 P), some (k81 P), some (k82 P), some (k88 P), some (k89 P), some (k91 P), some (k134 P), some (k135 P), some (k136 P), some (k153 P), some (k159 P), some (k160 P), some (k166 P), some (k167 P), some (k173 P), some (k174 P), some (k180 P), some (k181 P), some (k187 P), some (k188 P), some (k189 P), some (k195 P), some (k196 P), some (k202 P), some (k203 P), some (k241 P), some (k242 P), some (k252 P), some (k253 P), some (k257 P), some (k258 P), some (k262 P), some (k263 P)]
noncomputable def looksP (p : Program) (P : Params) (s : Shared) : Bool := staticsOk [] (boot_heap P) s.heap && namesBound p s.heap && gensDone s && laidKept (boot_heap P) s.heap
noncomputable def looks (P : Params) (s : Shared) : Bool := looksP pw P s
noncomputable def RP (p : Program) (en : Env) (co : Code) (w : World) (os : OsState) : Option (Flow × SharedT × Code × Pos) :=
  segRunT tb p w 11 (some (.ref 6)) 1 2300 (S1T w os) (piecesOf p.main.body en co pos0 [topFrame pos0])
noncomputable def R (w : World) (os : OsState) : Option (Flow × SharedT × Code × Pos) := RP pw env1 code1 w os
noncomputable def evG (p q : Program) (en : Env) (co : Code) (w : World) (os : OsState) := (RP p en co w os).map (fun r => ((r.1, r.2.2.1), looksP p w.params r.2.1.abs, openSeen q loose [] (fun s => xlAt q [] s && recOk [] s) true r.2.1.abs, seenK r.2.1.abs.heap))
noncomputable def evZ (w : World) (os : OsState) := evG pw q env1 code1 w os
noncomputable def goodKD (d : Str) (P : Params) : List (Option Obj) := [some (k2 P), some (k3 P), some (k81 P), some (k82 P), some (k88 P), some (k89 P), some (k91 P), some (k134 P), some (k135 P), some (k136 P), some (k153 P), some (k159 P), some (k160 P), some (k166 P), some (k167 P), some (k173 P), some (k174 P), some (k180 P), some (k181 P), some (k187 P), some (k188 P), some (k189 P), some (k195 P), some (k196 P), some (k202 P), some (k203 P), some (k241D d P), some (k242 P), some (k252 P), some (k253 P), some (k257 P), some (k258 P), some (k262 P), some (k263 P)]
noncomputable def goodG (q : Program) (co : Code) (l : List (Option Obj)) := some ((Flow.next, co), true, openGood q loose, l)
noncomputable def goodZ (w : World) := goodG q code1 (goodK w.params)
theorem evG_self : @evG = @evG := rfl
name_quick mineEvG for Mine.evG by Mine.evG_self
noncomputable def code1D (d : Str) : Code := .body (bodyD d) env1
theorem evFast_ok (w : World) (os : OsState) : evG (pwD docFast) (qD docFast) env1 (code1D docFast) w os = goodG (qD docFast) (code1D docFast) (goodKD docFast w.params) :=
  (congrFun (congrFun (congrFun (congrFun (congrFun (congrFun PySem.W.Fast.mineEvG_eq (pwD docFast)) (qD docFast)) env1) (code1D docFast)) w) os).trans (by kernel_rfl! : PySem.W.Fast.mineEvG (pwD docFast) (qD docFast) env1 (code1D docFast) w os = goodG (qD docFast) (code1D docFast) (goodKD docFast w.params))
theorem pwD_eq : pwD doc5 = pw := by kernel_rfl!
theorem qD_eq : qD doc5 = q := by kernel_rfl!
theorem codeD_eq : code1D doc5 = code1 := by kernel_rfl!
theorem goodKD_eq (P : Params) : goodKD doc5 P = goodK P := by kernel_rfl!
theorem evZ_ok (w : World) (os : OsState) : evZ w os = goodZ w := by
  have h := evFast_ok w os
  rw [← doc_eq, pwD_eq, qD_eq, codeD_eq, goodKD_eq] at h
  exact h
noncomputable def evA (w : World) (os : OsState) := (R w os).map (fun r => (r.1, r.2.2.1))
noncomputable def goodA (w : World) := some ((Flow.next, code1))
theorem evA_ok (w : World) (os : OsState) : evA w os = goodA w := by
  have h := congrArg (Option.map fun z => z.1) (evZ_ok w os)
  unfold evZ evG goodZ goodG at h
  rw [Option.map_map] at h
  exact h
noncomputable def evB (w : World) (os : OsState) := (R w os).map (fun r => looks w.params r.2.1.abs)
noncomputable def goodB (w : World) := some true
theorem evB_ok (w : World) (os : OsState) : evB w os = goodB w := by
  have h := congrArg (Option.map fun z => z.2.1) (evZ_ok w os)
  unfold evZ evG goodZ goodG at h
  rw [Option.map_map] at h
  exact h
noncomputable def evC (w : World) (os : OsState) := (R w os).map (fun r => openSeen q loose [] xt true r.2.1.abs)
noncomputable def goodC (w : World) := some (openGood q loose)
theorem evC_ok (w : World) (os : OsState) : evC w os = goodC w := by
  have h := congrArg (Option.map fun z => z.2.2.1) (evZ_ok w os)
  unfold evZ evG goodZ goodG at h
  rw [Option.map_map] at h
  exact h
noncomputable def evD (w : World) (os : OsState) := (R w os).map (fun r => seenK r.2.1.abs.heap)
noncomputable def goodD (w : World) := some (goodK w.params)
theorem evD_ok (w : World) (os : OsState) : evD w os = goodD w := by
  have h := congrArg (Option.map fun z => z.2.2.2) (evZ_ok w os)
  unfold evZ evG goodZ goodG at h
  rw [Option.map_map] at h
  exact h

end
end Mine
end
section
open Lean PySem PySem.W PySem.Calls PyProof.Rows
set_option compiler.extract_closed false
namespace Mine
/- Lines of the walk, said briefly: a rule, a word for each premise, the names that it hands on. -/
def nd (k : Name) (as : List Syntax) : Syntax := .node .none k as.toArray
def sq (ts : List Syntax) : Syntax := nd ``Parser.Tactic.tacticSeq [nd ``Parser.Tactic.tacticSeq1Indented [nd `null (ts.intersperse (mkAtom ";"))]]
def par (ts : List Syntax) : Syntax := nd ``Parser.Tactic.paren [mkAtom "(", sq ts, mkAtom ")"]
def tpar (t : Syntax) : Syntax := nd ``Parser.Term.paren [nd `Lean.Parser.Term.hygienicLParen [mkAtom "(", nd `hygieneInfo [mkIdent .anonymous]], t, mkAtom ")"]
def app (f : Syntax) (as : List Syntax) : Syntax := if as.isEmpty then f else nd ``Parser.Term.app [f, nd `null as]
def hole : Syntax := nd ``Parser.Term.hole [mkAtom "_"]
def qhole (x : Syntax) : Syntax := nd ``Parser.Term.syntheticHole [mkAtom "?", x]
def tby (t : Syntax) : Syntax := tpar (nd ``Parser.Term.byTactic [mkAtom "by", sq [t]])
def exa (t : Syntax) : Syntax := nd ``Parser.Tactic.exact [mkAtom "exact", t]
def tryT (t : Syntax) : Syntax := nd ``Parser.Tactic.tacticTry_ [mkAtom "try", sq [t]]
def wred (t : Syntax) : Syntax := par [nd ``Parser.Tactic.withReducible [mkAtom "with_reducible", sq [t]]]
def tails : Nat → Syntax → Syntax
  | 0, t => t
  | n + 1, t => tails n (app (nd ``Parser.Term.dotIdent [mkAtom ".", mkIdent `tail]) [hole, tpar t])
def hd0 : Syntax := app (nd ``Parser.Term.dotIdent [mkAtom ".", mkIdent `head]) [hole]
def words : List (String × Name) := [("k_asm", ``PySem.W.tacticK_asm), ("k_mem", ``PySem.W.tacticK_mem), ("k_upd", ``PySem.W.tacticK_upd), ("assumption", ``Parser.Tactic.assumption), ("rfl", ``Parser.Tactic.tacticRfl),
  ("kmk_part", ``PySem.W.tacticKmk_part), ("kmk_pure", ``PySem.W.tacticKmk_pure), ("k_handed", ``PySem.W.tacticK_handed), ("size_fits", ``tacticSize_fits)]
def premN (more : String → Option Syntax) : Nat → String → Syntax
  | 0, _ => .missing
  | n + 1, c =>
    match c.splitOn "|" with
    | a :: b :: r => nd ``Parser.Tactic.first [mkAtom "first", nd `null ((a :: b :: r).map fun x => nd `group [mkAtom "|", sq [premN more n x]])]
    | _ =>
    match words.lookup c, more c with
    | some k, _ => nd k [mkAtom c]
    | _, some t => t
    | _, _ =>
      if c == "decK" then nd ``Parser.Tactic.decide [mkAtom "decide", nd ``Parser.Tactic.optConfig [nd `null [nd ``Parser.Tactic.configItem [nd ``Parser.Tactic.posConfigItem [mkAtom "+", mkIdent `kernel]]]]]
      else if c == "wrf" then nd ``Parser.Tactic.withUnfoldingAll [mkAtom "with_unfolding_all", sq [nd ``Parser.Tactic.tacticRfl [mkAtom "rfl"]]]
      else if c == "omega" then nd ``Parser.Tactic.omega [mkAtom "omega", nd ``Parser.Tactic.optConfig [nd `null []]]
      else if c.startsWith "d" && (c.drop 1).isNat then exa (tails (c.drop 1).toNat! hd0)
      else if c.startsWith "m" && (c.drop 1).isNat then exa (tails (c.drop 1).toNat! (tby (nd ``Parser.Tactic.assumption [mkAtom "assumption"])))
      else match c.splitOn "+" with
        | f :: as => exa (app (mkIdent f.toName) (as.map fun a => if a == "_" then hole else tby (premN more n a)))
        | _ => .missing
def more0 : String → Option Syntax := fun _ => none
def openNe (x : Syntax) : Syntax := nd ``Parser.Tactic.simp [mkAtom "simp", nd ``Parser.Tactic.optConfig [nd `null []], nd `null [], nd `null [mkAtom "only"], nd `null [mkAtom "[", nd `null [nd ``Parser.Tactic.simpLemma [nd `null [], nd `null [], mkIdent `Mine.AllNe]], mkAtom "]"], nd `null [nd ``Parser.Tactic.location [mkAtom "at", nd ``Parser.Tactic.locationHyp [nd `null [x], nd `null []]]]]
def hands (g : String → Syntax) (is : String) (sweep : Bool) : List Syntax :=
  if is.isEmpty then [] else
  let xs := (is.splitOn " ").map fun x => (g (x.dropEndWhile fun c => c == '!' || c == '~').toString, if x.endsWith "!" then some (nd ``PySem.W.tacticK_lt_ [mkAtom "k_lt", g (x.dropEnd 1).toString]) else if x.endsWith "~" then some (openNe (g (x.dropEnd 1).toString)) else none)
  nd ``Parser.Tactic.intro [mkAtom "intro", nd `null (xs.map (·.1))] :: (xs.filterMap (·.2)).map tryT ++
    (if sweep then [tryT (nd ``PySem.W.tacticK_sweep [mkAtom "k_sweep"])] else [])
def rul (more : String → Option Syntax) (g : String → Syntax) (f : Syntax) (ps : String) (whole : Bool) : Syntax :=
  let cs := (ps.splitOn " ").zipIdx.map fun (c, i) => (c, g s!"k{i}")
  par (nd ``Parser.Tactic.refine' [mkAtom "refine'", app f (cs.map fun (c, k) => qhole (if c == "_" then mkAtom "_" else k))] ::
    (cs.filter fun (c, _) => c != "_").map (fun (c, k) => nd ``Parser.Tactic.case [mkAtom "case", nd `null [nd ``Parser.Tactic.caseArg [nd ``Lean.binderIdent [k], nd `null []]], mkAtom "=>", sq [premN more 3 c]]) ++
    (if whole then [nd ``PySem.W.tacticK_whole [mkAtom "k_whole"]] else []))
def fresh : MacroM (String → Syntax) := do
  let v := extractMacroScopes (← Macro.addMacroScope `x)
  return fun x => mkIdent { v with name := .mkSimple x }.review
def ln (n : Name) (ps is : String) (whole : Bool := true) (sweep : Bool := true) (sh : List Syntax := []) (more : String → Option Syntax := more0) (here : Bool := true) (tl : List Syntax := []) : MacroM Syntax := do
  let g ← fresh
  return par ((if here then [nd ``PySem.W.tacticK_here [mkAtom "k_here"]] else []) ++ sh ++ nd ``PySem.W.tacticK_dflt_ [mkAtom "k_dflt", rul more g (mkCIdent n) ps whole] :: hands g is sweep ++ tl)
def meth (how : Name) (m : String) : List Syntax :=
  [wred (nd ``Parser.Tactic.show [mkAtom "show", app (mkCIdent ``wpAny) [hole, hole, tpar (app (mkCIdent how) [tpar (app (mkCIdent ``Value.ref) [hole]), tpar (app (mkCIdent ``PySem.Str.ofString) [Syntax.mkStrLit m]), hole]), hole, hole, hole]])]
def stop (n : Name) : MacroM Syntax := return wred (nd ``Parser.Tactic.refine [mkAtom "refine", app (mkCIdent n) [qhole (mkAtom "_")]])
theorem siz_of {α : Type} {l : List α} {n : Nat} (h : l.length ≤ n) : l.toArray.size ≤ n := by simpa using h
theorem app1 {α : Type} {l : List α} {x : α} {n : Nat} (h : l.length + 1 < n) : (l ++ [x]).length < n := by simpa using h
noncomputable def upd (m : Str → Option Value) (x : Str) (v : Value) : Str → Option Value := fun y => if y = x then some v else m y
theorem storeU {M : Model} {A : Around} {E : Value → Shared → Prop} {s : Shared} {h₀ : Heap} {L a : Addr} {m : Str → Option Value} {cn : Str} {cs : Scope} {ccd : Value} {cl : List (Str × Addr)} {x : Str} {v : Value} {Q : Unit → Shared → Prop} {news : List (Addr × Obj)} (F : Fr h₀ L s.heap m) (N : News h₀ L s.heap news)
    (h : ∀ h', Fr h₀ L h' (upd m x v) → News h₀ L h' news → Q () { s with heap := h', toks := s.toks + 1 })
    (hk : cs.kind = .function) (hx : (envX cn cs L a ccd cl).kindOf x = some .local) : wpAny M A (storeName (envX cn cs L a ccd cl) x v) Q E s := storeX_L F N h hk hx
def calls (n : Nat) : List Syntax :=
  [wred (nd ``Parser.Tactic.show [mkAtom "show", app (mkCIdent ``wpAny) [hole, hole, tpar (app (mkCIdent ``PySem.call) [tpar (app (mkCIdent ``Value.ref) [Syntax.mkNatLit n]), hole, hole]), hole, hole, hole]])]
def apps : MacroM Syntax := `(tactic| (try dsimp only [List.nil_append, List.cons_append]))
def prem (c : String) : MacroM Syntax := return premN more0 3 c
end Mine
end
section
open PySem PySem.W PySem.Calls PyProof.Rows
set_option maxRecDepth 100000
set_option maxHeartbeats 4000000
set_option Elab.async false
set_option linter.unusedVariables false
namespace Mine
theorem typeOf_sc : typeOf (.builtin "set.__contains__") = pure (.type "method_descriptor") := by kernel_rfl
theorem typeOf_dg : typeOf (.builtin "dict.get") = pure (.type "method_descriptor") := by kernel_rfl
theorem lk_sc : typeLookup (.type "set") "__contains__" = pure (some (.builtin "set.__contains__")) := by rw [typeLookup_type, builtinLookup_eq_fast]; kernel_rfl
theorem lk_dg : typeLookup (.type "dict") "get" = pure (some (.builtin "dict.get")) := by rw [typeLookup_type, builtinLookup_eq_fast]; kernel_rfl
theorem md_noset : typeLookup (.type "method_descriptor") "__set__" = pure none := by rw [typeLookup_type, builtinLookup_eq_fast]; kernel_rfl
theorem md_nodel : typeLookup (.type "method_descriptor") "__delete__" = pure none := by rw [typeLookup_type, builtinLookup_eq_fast]; kernel_rfl
theorem slot_md_get : Slot "method_descriptor" "__get__" "method_descriptor.__get__" :=
  .of (owner := "method_descriptor") (n := "__get__") (by rw [typeLookup_type, builtinLookup_eq_fast]; kernel_rfl) (by decide +kernel) (by decide +kernel) (by decide +kernel)
    (by first | exact .inl (by decide +kernel) | exact .inr (by decide +kernel)) (by rw [isSubtype_type]; kernel_rfl)
theorem entry_md_get : entryFor table "method_descriptor.__get__" = some Builtin.«method_descriptor.__get__» := entryFor_of_tree (by kernel_rfl)
theorem args_md_get (a b c : Value) : argsOk "method_descriptor.__get__" ⟨[a, b, c], []⟩ := by unfold argsOk; kernel_rfl
theorem own_sc : (".".intercalate ("set.__contains__".cutAt '.').dropLast) = "set" := by
  have e0 : "set.__contains__".cutAt '.' = ["set", "__contains__"] := by first | rfl | decide +kernel
  rw [e0]; decide +kernel
theorem own_dg : (".".intercalate ("dict.get".cutAt '.').dropLast) = "dict" := by
  have e0 : "dict.get".cutAt '.' = ["dict", "get"] := by first | rfl | decide +kernel
  rw [e0]; decide +kernel
theorem sub_sc : isSubtype (.type "set") (.type (".".intercalate ("set.__contains__".cutAt '.').dropLast)) = pure true := by rw [own_sc, isSubtype_type]; kernel_rfl
theorem sub_dg : isSubtype (.type "dict") (.type (".".intercalate ("dict.get".cutAt '.').dropLast)) = pure true := by rw [own_dg, isSubtype_type]; kernel_rfl
section
variable {prog : Program} {w : World} {A : Around} {E : Value → Shared → Prop} {h : Heap} {g : Array GenState} {d : Drawn} {t : Nat} {os : OsState} {a : Addr} {es : Array (Int × Value)} {ds : Array DictEntry} {n : Nat} {st : SetTable} {sl : Array (Option Value)}
noncomputable abbrev boundB (id : String) (a : Addr) : Obj := { cls := .type "builtin_function_or_method", data := .fields #[.builtin id, .ref a] }
theorem sc_get {R : Result → Shared → Prop} (hx : h.get? a = some ⟨.type "set", none, .set es n st, sl⟩) (hq : R (.ok (.ret (.ref h.objs.size))) ⟨h.push (boundB "set.__contains__" a), g, d, t, os⟩) :
    codeAny (model prog w) A (.call (.builtin "method_descriptor.__get__") ⟨[.builtin "set.__contains__", .ref a, .type "set"], []⟩) R ⟨h, g, d, t, os⟩ := by
  have hT : (⟨h, g, d, t, os⟩ : Shared).TypeIs (.ref a) "set" := ⟨_, hx, rfl⟩
  have hT5 : (⟨h, g, d, t, os⟩ : Shared).TypeIs (.builtin "set.__contains__") "method_descriptor" := typeOf_sc
  have f8 := sub_sc
  refine codeAny_call_builtin slot_md_get.plain entry_md_get (slot_md_get.check _ _ _ _ _ _ _ _ hT5 (args_md_get _ _ _) ?_)
  repeat (any_goals (first | assumption | wp_step))
theorem sc_entry {tk : Tok} {Q : PySem.Fin → Shared → Prop} (hx : h.get? a = some ⟨.type "set", none, .set es n st, sl⟩) (hq : Q (.done (.ret (.ref h.objs.size))) ⟨h.push (boundB "set.__contains__" a), g, d, t, os⟩) :
    wpAny (model prog w) A (Builtin.«object.__getattribute__» ⟨[.ref a, .str "__contains__" tk], []⟩) Q E ⟨h, g, d, t, os⟩ := by
  have hT : (⟨h, g, d, t, os⟩ : Shared).TypeIs (.ref a) "set" := ⟨_, hx, rfl⟩
  have hT5 : (⟨h, g, d, t, os⟩ : Shared).TypeIs (.builtin "set.__contains__") "method_descriptor" := typeOf_sc
  have f4 := lk_sc
  have f5 := typeOf_sc
  have f6 := slot_md_get.lookup
  have f7 := md_noset
  have f8 := md_nodel
  repeat (any_goals (first | assumption | with_reducible apply sc_get hx | wp_step))
theorem sc_call {tk : Tok} {R : Result → Shared → Prop} (hx : h.get? a = some ⟨.type "set", none, .set es n st, sl⟩) (hq : R (.ok (.ret (.ref h.objs.size))) ⟨h.push (boundB "set.__contains__" a), g, d, t, os⟩) :
    codeAny (model prog w) A (.call (.builtin "set.__getattribute__") ⟨[.ref a, .str "__contains__" tk], []⟩) R ⟨h, g, d, t, os⟩ :=
  codeAny_call_builtin F.slot_set_getattribute.plain F.entry_set_ga (F.slot_set_getattribute.check _ _ _ _ _ _ _ _ (show (⟨h, g, d, t, os⟩ : Shared).TypeIs (.ref a) "set" from ⟨_, hx, rfl⟩) (F.args_set_getattribute_2 _ _) (sc_entry hx hq))
theorem sc_attr {Q : Value → Shared → Prop} (hx : h.get? a = some ⟨.type "set", none, .set es n st, sl⟩) (hq : Q (.ref h.objs.size) ⟨h.push (boundB "set.__contains__" a), g, d, t + 1, os⟩) :
    wpAny (model prog w) A (getAttr (.ref a) "__contains__" true) Q E ⟨h, g, d, t, os⟩ := by
  have hT : (⟨h, g, d, t, os⟩ : Shared).TypeIs (.ref a) "set" := ⟨_, hx, rfl⟩
  have hT' : (⟨h, g, d, t + 1, os⟩ : Shared).TypeIs (.ref a) "set" := ⟨_, hx, rfl⟩
  have f2 := F.slot_set_getattribute.lookup
  have f3 := F.slot_set_getattribute.bind (.ref a)
  unfold getAttr
  repeat (any_goals (first | assumption | wp_step))
  refine sc_call hx ?_
  repeat (any_goals (first | assumption | wp_step))
theorem dg_get {R : Result → Shared → Prop} (hx : h.get? a = some ⟨.type "dict", none, .dict ds n, sl⟩) (hq : R (.ok (.ret (.ref h.objs.size))) ⟨h.push (boundB "dict.get" a), g, d, t, os⟩) :
    codeAny (model prog w) A (.call (.builtin "method_descriptor.__get__") ⟨[.builtin "dict.get", .ref a, .type "dict"], []⟩) R ⟨h, g, d, t, os⟩ := by
  have hT : (⟨h, g, d, t, os⟩ : Shared).TypeIs (.ref a) "dict" := ⟨_, hx, rfl⟩
  have hT5 : (⟨h, g, d, t, os⟩ : Shared).TypeIs (.builtin "dict.get") "method_descriptor" := typeOf_dg
  have f8 := sub_dg
  refine codeAny_call_builtin slot_md_get.plain entry_md_get (slot_md_get.check _ _ _ _ _ _ _ _ hT5 (args_md_get _ _ _) ?_)
  repeat (any_goals (first | assumption | wp_step))
theorem dg_entry {tk : Tok} {Q : PySem.Fin → Shared → Prop} (hx : h.get? a = some ⟨.type "dict", none, .dict ds n, sl⟩) (hq : Q (.done (.ret (.ref h.objs.size))) ⟨h.push (boundB "dict.get" a), g, d, t, os⟩) :
    wpAny (model prog w) A (Builtin.«object.__getattribute__» ⟨[.ref a, .str "get" tk], []⟩) Q E ⟨h, g, d, t, os⟩ := by
  have hT : (⟨h, g, d, t, os⟩ : Shared).TypeIs (.ref a) "dict" := ⟨_, hx, rfl⟩
  have hT5 : (⟨h, g, d, t, os⟩ : Shared).TypeIs (.builtin "dict.get") "method_descriptor" := typeOf_dg
  have f4 := lk_dg
  have f5 := typeOf_dg
  have f6 := slot_md_get.lookup
  have f7 := md_noset
  have f8 := md_nodel
  repeat (any_goals (first | assumption | with_reducible apply dg_get hx | wp_step))
theorem dg_call {tk : Tok} {R : Result → Shared → Prop} (hx : h.get? a = some ⟨.type "dict", none, .dict ds n, sl⟩) (hq : R (.ok (.ret (.ref h.objs.size))) ⟨h.push (boundB "dict.get" a), g, d, t, os⟩) :
    codeAny (model prog w) A (.call (.builtin "dict.__getattribute__") ⟨[.ref a, .str "get" tk], []⟩) R ⟨h, g, d, t, os⟩ :=
  codeAny_call_builtin F.slot_dict_getattribute.plain F.entry_dict_ga (F.slot_dict_getattribute.check _ _ _ _ _ _ _ _ (show (⟨h, g, d, t, os⟩ : Shared).TypeIs (.ref a) "dict" from ⟨_, hx, rfl⟩) (F.args_dict_getattribute_2 _ _) (dg_entry hx hq))
theorem dg_attr {Q : Value → Shared → Prop} (hx : h.get? a = some ⟨.type "dict", none, .dict ds n, sl⟩) (hq : Q (.ref h.objs.size) ⟨h.push (boundB "dict.get" a), g, d, t + 1, os⟩) :
    wpAny (model prog w) A (getAttr (.ref a) "get" true) Q E ⟨h, g, d, t, os⟩ := by
  have hT : (⟨h, g, d, t, os⟩ : Shared).TypeIs (.ref a) "dict" := ⟨_, hx, rfl⟩
  have hT' : (⟨h, g, d, t + 1, os⟩ : Shared).TypeIs (.ref a) "dict" := ⟨_, hx, rfl⟩
  have f2 := F.slot_dict_getattribute.lookup
  have f3 := F.slot_dict_getattribute.bind (.ref a)
  unfold getAttr
  repeat (any_goals (first | assumption | wp_step))
  refine dg_call hx ?_
  repeat (any_goals (first | assumption | wp_step))
end
end Mine
end
section
open PySem PySem.W PySem.Calls PyProof.Rows
set_option maxRecDepth 100000
set_option maxHeartbeats 4000000
set_option Elab.async false
set_option linter.unusedVariables false
namespace Mine
noncomputable abbrev fnAt (i j : Nat) (qual : Str) (dV : Value) (doc : Value) (cdv : Value) : FuncData := fnOf (fnName (mem i j)) qual (fnArgs (mem i j)) (fnBody (mem i j)) (fnScope (mem i j)) dV .none doc (.str "cpy313.difflib" 194) none cdv .none
noncomputable abbrev ent (P : Params) (k : Str) (t : Tok) (v : Value) : DictEntry := ⟨PyData.keyHash P k, .str k t, v⟩
noncomputable abbrev selfD (P : Params) (ts : Nat → Tok) (ij a b aj mbk oc fb b2 bj bp : Value) : Obj :=
  dictOf [ent P "isjunk" (ts 0) ij, ent P "a" (ts 1) a, ent P "b" (ts 2) b, ent P "autojunk" (ts 3) aj, ent P "matching_blocks" (ts 4) mbk, ent P "opcodes" (ts 5) oc, ent P "fullbcount" (ts 6) fb, ent P "b2j" (ts 7) b2, ent P "bjunk" (ts 8) bj, ent P "bpopular" (ts 9) bp] 10
noncomputable abbrev Kept (h h' : Heap) : Prop := ∀ b o, h.get? b = some o → h'.get? b = some o
section
variable {w : World} {A : Around} {R : Result → Shared → Prop} {s : Shared} {base : Heap} {mg mb : Str → Option Value} {means : ExcName → Option Value} {p : Program} {ls : List Str}
theorem enter {K : Frag} {prog : Program} {name qual : Str} {params : Arguments} {body : List Stmt} {scope : Scope} {dV kV doc pm cdv ct oc : Value} {an od : Option Addr} {osl : Array (Option Value)} {f : Addr} {args : Args} {binds : List (Str × Value)} (mods : List Addr)
    (X : K.In base) (T : Top p ls means mg mb base) (kb : Kept base s.heap) (hm : ∀ a ∈ mods, base.get? a = none)
    (hroom : A.depth < recursionLimit) (ho : K.lookup f = some ⟨oc, od, .func (fnOf name qual params body scope dV kV doc pm an cdv ct), osl⟩) (hcd : codeIn K cdv qual = true)
    (hbind : BindsTo s (fnOf name qual params body scope dV kV doc pm an cdv ct) args binds) (hloc : ∀ y ∈ binds, scope.names.lookup y.1 = some .local)
    (h : ∀ L h₁, K.In (hideAll s.heap mods) → Top p ls means mg mb (hideAll s.heap mods) → Fr (hideAll s.heap mods) L h₁ (fun y => binds.reverse.lookup y) → Kept s.heap h₁ → L = s.heap.objs.size →
      wpAny (model prog w) (A.deeper (envOf qual scope L f cdv)) (execs body (envOf qual scope L f cdv))
        (fun fl s' => R (.ok (.ret (match fl with | .ret v => v | _ => .none))) s') (fun _ _ => False) { s with heap := h₁, toks := s.toks + binds.length })
    (hco : scope.isCoroutine = false) (hgen : scope.isGenerator = false) (hk : scope.kind = .function) (hcell : ∀ x ∈ scope.names, x.2 ≠ .cell) :
    codeAny (model prog w) A (.call (.ref f) args) R s := by
  have X' := X.keeps kb
  refine codeAny_call_def (fd := fnOf name qual params body scope dV kV doc pm an cdv ct) (body := body) (binds := binds) hroom (X' _ _ ho) rfl (T.nolimit.keeps kb) (codeRec_of X' hcd) rfl hbind hcell hloc (fun h₁ hns hk₁ => ?_) hco hgen hk
  have st : Kept base (hideAll s.heap mods) := fun b o e => hideAll_get _ (kb b o e) fun q => by rw [hm b q] at e; cases e
  exact wpAny_mono (h s.heap.objs.size h₁ (X.keeps st) (T.keeps st) ⟨hns, fun b o e => hk₁ b o (of_hideAll _ e), Nat.le_of_eq (hideAll_size _ _)⟩ hk₁ rfl) (fun _ _ y => y) fun _ _ y => y.elim
theorem mods_news {h h₁ : Heap} {L : Addr} {news : List (Addr × Obj)} (hn : ∀ p ∈ news, h.get? p.1 = some p.2) (k : Kept h h₁) (hL : L = h.objs.size) : News (hideAll h (news.map (·.1))) L h₁ news :=
  fun p hp => ⟨k _ _ (hn p hp), fun q => Nat.lt_irrefl _ (hL ▸ q ▸ Heap.lt_size (hn p hp)), hideAll_none _ (List.mem_map_of_mem hp)⟩
end
section
variable {prog : Program} {w : World} {A : Around} {E : Value → Shared → Prop} {s : Shared} {h₀ : Heap} {L a : Addr} {m : Str → Option Value} {news : List (Addr × Obj)}
theorem sc_attrN {es : Array (Int × Value)} {n : Nat} {st : SetTable} {sl : Array (Option Value)} {Q : Value → Shared → Prop} (F : Fr h₀ L s.heap m) (N : News h₀ L s.heap news) (hx : s.heap.get? a = some ⟨.type "set", none, .set es n st, sl⟩)
    (h : ∀ q h', Fr h₀ L h' m → News h₀ L h' ((q, boundB "set.__contains__" a) :: news) → (∀ p ∈ news, p.1 < q) → Q (.ref q) { s with heap := h', toks := s.toks + 1 }) :
    wpAny (model prog w) A (getAttr (.ref a) "__contains__" true) Q E s := by
  obtain ⟨hp, g, d, t, os⟩ := s
  exact sc_attr hx (h _ _ (F.push _) (N.push F _) fun p hp => Heap.lt_size (N p hp).1)
theorem dg_attrN {es : Array DictEntry} {n : Nat} {sl : Array (Option Value)} {Q : Value → Shared → Prop} (F : Fr h₀ L s.heap m) (N : News h₀ L s.heap news) (hx : s.heap.get? a = some ⟨.type "dict", none, .dict es n, sl⟩)
    (h : ∀ q h', Fr h₀ L h' m → News h₀ L h' ((q, boundB "dict.get" a) :: news) → (∀ p ∈ news, p.1 < q) → Q (.ref q) { s with heap := h', toks := s.toks + 1 }) :
    wpAny (model prog w) A (getAttr (.ref a) "get" true) Q E s := by
  obtain ⟨hp, g, d, t, os⟩ := s
  exact dg_attr hx (h _ _ (F.push _) (N.push F _) fun p hp => Heap.lt_size (N p hp).1)
end
theorem dg_attrD {prog : Program} {w : World} {A : Around} {E : Value → Shared → Prop} {s : Shared} {h₀ : Heap} {L a : Addr} {m : Str → Option Value} {news : List (Addr × Obj)} {o : Obj} {kv : List (Int × Value)} {Q : Value → Shared → Prop} (F : Fr h₀ L s.heap m) (N : News h₀ L s.heap news) (hx : (a, o) ∈ news) (ho : o.IsDictOf (intKind prog w) kv)
    (h : ∀ q h', Fr h₀ L h' m → News h₀ L h' ((q, boundB "dict.get" a) :: news) → (∀ p ∈ news, p.1 < q) → Q (.ref q) { s with heap := h', toks := s.toks + 1 }) :
    wpAny (model prog w) A (getAttr (.ref a) "get" true) Q E s := by
  obtain ⟨es, ep, hc, hd, _⟩ := ho
  obtain ⟨c, od, dt, sl⟩ := o
  obtain ⟨rfl, rfl, rfl⟩ := hc
  simp only at hd; subst hd
  exact dg_attrN F N (N _ hx).1 h
theorem inst_keeps {h₀ h : Heap} {L x C : Addr} {m : Str → Option Value} {ox : Obj} {od : Option Obj} (F : Fr h₀ L h m) (I : InstAt h₀ x ox C od) : InstAt h x ox C od := by
  obtain ⟨a, b, c, d⟩ := I
  refine ⟨F.keep _ _ a, b, c, ?_⟩
  cases e : ox.dict with
  | none => cases od with
    | none => trivial
    | some o => rw [e] at d; exact d
  | some dx => cases od with
    | none => rw [e] at d; exact d
    | some o => rw [e] at d; exact F.keep _ _ d
theorem flm_at (P : Params) : (K P).lookup 196 = some ⟨.type "function", none, .func (fnAt 5 6 "SequenceMatcher.find_longest_match" (.ref 189) (docV (mem 5 6) 490) (.ref 195)), #[]⟩ := by kernel_rfl!
theorem flm_code (P : Params) : codeIn (K P) (.ref 195) "SequenceMatcher.find_longest_match" = true := by kernel_rfl!
theorem k189_in (P : Params) : (K P).lookup 189 = some (k189 P) := by kernel_rfl!
theorem flm_binds {s : Shared} {P : Params} (X : (K P).In s.heap) (x a b c d : Value) : BindsTo s (fnAt 5 6 "SequenceMatcher.find_longest_match" (.ref 189) (docV (mem 5 6) 490) (.ref 195)) ⟨[x, a, b, c, d], []⟩ [(Str.ofString "self", x), (Str.ofString "alo", a), (Str.ofString "ahi", b), (Str.ofString "blo", c), (Str.ofString "bhi", d)] :=
  BindsTo.of_defaults rfl (X _ _ (k189_in _)) rfl rfl rfl
theorem flm_loc (x a b c d : Value) : ([(Str.ofString "self", x), (Str.ofString "alo", a), (Str.ofString "ahi", b), (Str.ofString "blo", c), (Str.ofString "bhi", d)].all fun x => decide ((fnScope (mem 5 6)).names.lookup x.1 = some .local)) = true := by kernel_rfl!
end Mine
end
section
open PySem PySem.W PySem.Calls PyProof.Rows
set_option maxRecDepth 100000
set_option maxHeartbeats 4000000
set_option Elab.async false
set_option linter.unusedVariables false
namespace Mine
section
variable {prog : Program} {w : World} {A : Around} {E : Value → Shared → Prop} {s : Shared} {env : Env} {h₀ : Heap} {x : Str} {body : List Stmt} {Q : Flow → Shared → Prop}
noncomputable def TurnPost (h₀ : Heap) (L I : Addr) (oI : Obj) (J : (Str → Option Value) → List (Addr × Obj) → Prop) (Q : Flow → Shared → Prop) (s : Shared) (f : Flow) (s₂ : Shared) : Prop := match f with
  | .ret v => Q (.ret v) s₂
  | .brk => Q .next s₂
  | _ => ∃ h' tk' m' news', s₂ = { s with heap := h', toks := tk' } ∧ Fr h₀ L h' m' ∧ News h₀ L h' ((I, oI) :: news') ∧ (∀ p ∈ news', p.1 ≠ I) ∧ J m' news'
theorem TurnPost.next {L I : Addr} {oI : Obj} {J : (Str → Option Value) → List (Addr × Obj) → Prop} {h' : Heap} {tk' : Nat} {m' : Str → Option Value} {news' : List (Addr × Obj)} (F : Fr h₀ L h' m') (N : News h₀ L h' ((I, oI) :: news')) (hn : ∀ p ∈ news', p.1 ≠ I) (hj : J m' news') :
    TurnPost h₀ L I oI J Q s .next { s with heap := h', toks := tk' } := ⟨h', tk', m', news', rfl, F, N, hn, hj⟩
theorem TurnPost.cont {L I : Addr} {oI : Obj} {J : (Str → Option Value) → List (Addr × Obj) → Prop} {h' : Heap} {tk' : Nat} {m' : Str → Option Value} {news' : List (Addr × Obj)} (F : Fr h₀ L h' m') (N : News h₀ L h' ((I, oI) :: news')) (hn : ∀ p ∈ news', p.1 ≠ I) (hj : J m' news') :
    TurnPost h₀ L I oI J Q s .cont { s with heap := h', toks := tk' } := ⟨h', tk', m', news', rfl, F, N, hn, hj⟩
theorem news_sub {h : Heap} {L : Addr} {news news' : List (Addr × Obj)} (N : News h₀ L h news) (hs : ∀ p ∈ news', p ∈ news) : News h₀ L h news' := fun p hp => N p (hs p hp)
theorem loop_walks {fp : List Addr} {n : Nat} {P : Nat → Value → Prop} {St : Nat → Heap → Prop} {m₀ : Str → Option Value} {news : List (Addr × Obj)} {s₂ : Shared} {I : Addr} (J : Nat → (Str → Option Value) → List (Addr × Obj) → Prop)
    (W : Walks prog w A I fp [I] n P St) (hLf : env.locals ∉ fp) (hI : h₀.get? I = none) (hfp : ∀ b ∈ fp, b = I ∨ ∃ o, h₀.get? b = some o) (live : ∀ i h, St i h → ∃ o, h.get? I = some o) (hst : St 0 s₂.heap) (F : Fr h₀ env.locals s₂.heap m₀) (N : News h₀ env.locals s₂.heap news) (hne : ∀ p ∈ news, p.1 ≠ I) (hj : J 0 m₀ news)
    (turn : ∀ i v m₁ news₁ h tk oI, i < n → P i v → J i m₁ news₁ → (∀ p ∈ news₁, p.1 ≠ I) → Fr h₀ env.locals h (fun y => if y = x then some v else m₁ y) → News h₀ env.locals h ((I, oI) :: news₁) →
      wpAny (model prog w) A (execs body env) (TurnPost h₀ env.locals I oI (J (i + 1)) Q { s₂ with heap := h, toks := tk }) E { s₂ with heap := h, toks := tk })
    (done : ∀ m₁ news₁ h tk, J n m₁ news₁ → Fr h₀ env.locals h m₁ → News h₀ env.locals h news₁ → Q .next { s₂ with heap := h, toks := tk }) :
    LoopAtV prog w A h₀ env x body Q E (.ref I) s₂ := by
  refine ⟨I, fp, [I], n, P, St, m₀, news, J, rfl, W, hLf, fun b hb => by rw [List.mem_singleton.mp hb]; exact hI, fun p hp hm => hne p hp (List.mem_singleton.mp hm), hst, F, N, hj, ?_, fun h' tk m' news' F' N' _ hJ => done m' news' h' tk hJ F' N'⟩
  rintro i v m₁ news₁ s₁ own ⟨h, tk, rfl⟩ hi hP hJ hoff hsub hget hall hst₁ F₁ N₁
  obtain ⟨oI, hoI⟩ := live _ _ hst₁
  have mI := hall I (W.sub I (by simp)) hI oI hoI
  have N₂ : News h₀ env.locals h ((I, oI) :: news₁) := fun p hp => by
    rcases List.mem_cons.mp hp with rfl | hp
    · exact N₁ _ (List.mem_append_left _ mI)
    · exact N₁ _ (List.mem_append_right _ hp)
  have ownI : ∀ p ∈ own, p = (I, oI) := fun p hp => by
    rcases hfp _ (hsub p hp) with e | ⟨o, e⟩
    · have h1 := hget p hp
      have h2 : h.get? I = some oI := hoI
      obtain ⟨a, o⟩ := p
      simp only at e h1
      subst e
      rw [h2] at h1
      rw [Option.some.inj h1]
    · have := (N₁ p (List.mem_append_left _ hp)).2.2
      rw [e] at this; cases this
  have fin : ∀ s₃, (∃ h' tk' m' news', s₃ = { s₂ with heap := h', toks := tk' } ∧ Fr h₀ env.locals h' m' ∧ News h₀ env.locals h' ((I, oI) :: news') ∧ (∀ p ∈ news', p.1 ≠ I) ∧ J (i + 1) m' news') →
      LoopStepU h₀ env.locals [I] own (J (i + 1)) { s₂ with heap := h, toks := tk } .next s₃ := by
    rintro s₃ ⟨h', tk', m', news', rfl, F', N', hn', hJ'⟩
    refine ⟨rfl, h', tk', m', news', rfl, F', fun p hp => ?_, fun p hp hm => hn' p hp (List.mem_singleton.mp hm), hJ'⟩
    rcases List.mem_append.mp hp with hp | hp
    · rw [ownI p hp]; exact N' _ (.head _)
    · exact N' _ (.tail _ hp)
  refine wpAny_mono (turn i v m₁ news₁ h tk oI hi hP hJ (fun p hp e => hoff p hp (by simp [e])) F₁ N₂) (fun f s₃ h₃ => ?_) fun _ _ e => e
  cases f with
  | ret v => exact h₃
  | brk => exact h₃
  | next => exact .next (fin _ h₃)
  | cont => exact .cont (fin _ h₃)
theorem iter_list {l : Addr} {vs : List Value} {m₀ : Str → Option Value} {news : List (Addr × Obj)} (J : Nat → (Str → Option Value) → List (Addr × Obj) → Prop)
    (hh : A.handled = none) (hl : h₀.IsList l vs.toArray) (F : Fr h₀ env.locals s.heap m₀) (N : News h₀ env.locals s.heap news) (hj : J 0 m₀ news)
    (turn : ∀ I i v m₁ news₁ h tk oI, (∀ p ∈ news, p.1 < I) → vs[i]? = some v → J i m₁ news₁ → (∀ p ∈ news₁, p.1 ≠ I) → Fr h₀ env.locals h (fun y => if y = x then some v else m₁ y) → News h₀ env.locals h ((I, oI) :: news₁) →
      wpAny (model prog w) A (execs body env) (TurnPost h₀ env.locals I oI (J (i + 1)) Q { s with heap := h, toks := tk }) E { s with heap := h, toks := tk })
    (done : ∀ m₁ news₁ h tk, J vs.length m₁ news₁ → Fr h₀ env.locals h m₁ → News h₀ env.locals h news₁ → Q .next { s with heap := h, toks := tk }) :
    wpAny (model prog w) A (pyIter (.ref l)) (fun it s₂ => LoopAtV prog w A h₀ env x body Q E it s₂) E s := by
  have hls : s.heap.IsList l vs.toArray := hl.at fun o e => F.keep l o e
  obtain ⟨ol, hol, _⟩ := id hl
  have hlt : l < h₀.objs.size := Heap.lt_size hol
  have hne : l ≠ s.heap.objs.size := Nat.ne_of_lt (Nat.lt_trans (Nat.lt_of_lt_of_le hlt F.above) F.ns.lt)
  refine wpAny_pyIter_list hls ?_
  have W := Walks.list (prog := prog) (w := w) hh s.heap.objs.size l hne vs.toArray
  refine loop_walks (s₂ := { s with heap := s.heap.push _ }) J W (fun hm => ?_) (next_is_new F) (fun b hb => ?_) (fun i h st => let ⟨o, ho, _⟩ := st.1; ⟨o, ho⟩) ⟨⟨_, Heap.get?_push_size _ rfl, rfl, rfl⟩, hls.at fun o e => Heap.get?_push_of_some _ e⟩ (F.push _) (fun p hp => ⟨Heap.get?_push_of_some _ (N p hp).1, (N p hp).2⟩) (fun p hp => Nat.ne_of_lt (Heap.lt_size (N p hp).1)) hj ?_ ?_
  · rcases List.mem_cons.mp hm with e | hm
    · exact absurd F.ns.lt (e ▸ Nat.lt_irrefl _)
    · exact absurd (Nat.lt_of_lt_of_le hlt F.above) ((List.mem_singleton.mp hm) ▸ Nat.lt_irrefl _)
  · rcases List.mem_cons.mp hb with e | hb
    · exact .inl e
    · rw [List.mem_singleton.mp hb]; exact .inr ⟨ol, hol⟩
  · intro i v m₁ news₁ h tk oI hi hP hJ hoff F₁ N₁
    exact turn _ i v m₁ news₁ h tk oI (fun p hp => Heap.lt_size (N p hp).1) (by simpa using hP) hJ hoff F₁ N₁
  · intro m₁ news₁ h tk hJ F₁ N₁
    exact done m₁ news₁ h tk (by simpa using hJ) F₁ N₁
theorem iter_listq {l : Addr} {vs : List Value} {m₀ : Str → Option Value} {news : List (Addr × Obj)} (J : Nat → (Str → Option Value) → List (Addr × Obj) → Prop)
    (hh : A.handled = none) (hl : h₀.IsList l vs.toArray) (F : Fr h₀ env.locals s.heap m₀) (N : News h₀ env.locals s.heap news) (hj : J 0 m₀ news)
    (turn : ∀ I i v m₁ news₁ h tk oI, (∀ p ∈ news, p.1 < I) → vs[i]? = some v → J i m₁ news₁ → (∀ p ∈ news₁, p.1 ≠ I) → Fr h₀ env.locals h (fun y => if y = x then some v else m₁ y) → News h₀ env.locals h ((I, oI) :: news₁) →
      ∀ QB : Flow → Shared → Prop, (∀ f s', TurnPost h₀ env.locals I oI (J (i + 1)) Q { s with heap := h, toks := tk } f s' → QB f s') → wpAny (model prog w) A (execs body env) QB E { s with heap := h, toks := tk })
    (done : ∀ m₁ news₁ h tk, J vs.length m₁ news₁ → Fr h₀ env.locals h m₁ → News h₀ env.locals h news₁ → Q .next { s with heap := h, toks := tk }) :
    wpAny (model prog w) A (pyIter (.ref l)) (fun it s₂ => LoopAtV prog w A h₀ env x body Q E it s₂) E s :=
  iter_list J hh hl F N hj (fun I i v m₁ news₁ h tk oI a b c d e f => turn I i v m₁ news₁ h tk oI a b c d e f _ fun _ _ z => z) done
theorem iter_empty {l : Addr} {m₀ : Str → Option Value} {news : List (Addr × Obj)} {n : Nat}
    (hh : A.handled = none) (F : Fr h₀ env.locals s.heap m₀) (N : News h₀ env.locals s.heap news) (hl : (l, W.listOf #[] n) ∈ news)
    (done : ∀ h tk, Fr h₀ env.locals h m₀ → News h₀ env.locals h news → Q .next { s with heap := h, toks := tk }) :
    wpAny (model prog w) A (pyIter (.ref l)) (fun it s₂ => LoopAtV prog w A h₀ env x body Q E it s₂) E s := by
  have hls : s.heap.IsList l #[] := N.isList hl
  have hne : l ≠ s.heap.objs.size := Nat.ne_of_lt (Heap.lt_size (N _ hl).1)
  refine wpAny_pyIter_list hls ?_
  have W := Walks.list (prog := prog) (w := w) hh s.heap.objs.size l hne #[]
  refine ⟨_, _, [s.heap.objs.size], 0, _, _, m₀, news, fun _ m n => m = m₀ ∧ n = news, rfl, W, fun hm => ?_, fun b hb => by rw [List.mem_singleton.mp hb]; exact next_is_new F, fun p hp hm => ?_, ⟨⟨_, Heap.get?_push_size _ rfl, rfl, rfl⟩, hls.at fun o e => Heap.get?_push_of_some _ e⟩, F.push _, (fun p hp => ⟨Heap.get?_push_of_some _ (N p hp).1, (N p hp).2⟩), ⟨rfl, rfl⟩, fun i v _ _ _ _ _ hi => absurd hi (Nat.not_lt_zero _), fun h' tk m' news' F' N' _ hJ => by obtain ⟨rfl, rfl⟩ := hJ; exact done h' tk F' N'⟩
  · rcases List.mem_cons.mp hm with e | hm
    · exact absurd F.ns.lt (e ▸ Nat.lt_irrefl _)
    · exact (N _ hl).2.1 (List.mem_singleton.mp hm).symm
  · exact absurd (Heap.lt_size (N p hp).1) ((List.mem_singleton.mp hm) ▸ Nat.lt_irrefl _)
theorem range_small (a b : Nat) (hb : b < 2 ^ 62) (hab : a ≤ b) : Builtin.Range.small a b 1 = true := by
  unfold Builtin.Range.small Builtin.Range.rangeFitsLong
  rw [PyProof.Rows.rangeSize_nat]
  simp only [Bool.and_eq_true, decide_eq_true_eq]
  have h63 : (2 : Int) ^ 63 = 9223372036854775808 := by decide
  rw [h63]
  refine ⟨by omega, ?_⟩
  rw [if_pos (by decide)]
  simp only [Bool.or_eq_true, Bool.and_eq_true, decide_eq_true_eq]
  exact .inr (by lia)
theorem iter_range {r : Addr} {a b : Nat} {t u v : Tok} {m₀ : Str → Option Value} {news : List (Addr × Obj)} (J : Nat → (Str → Option Value) → List (Addr × Obj) → Prop)
    (hh : A.handled = none) (hr : IsRange s.heap r a b 1 t u v) (hb : b < 2 ^ 62) (F : Fr h₀ env.locals s.heap m₀) (N : News h₀ env.locals s.heap news) (hj : J a m₀ news) (hab : a ≤ b)
    (turn : ∀ I i t m₁ news₁ h tk oI, (∀ p ∈ news, p.1 < I) → a ≤ i → i < b → J i m₁ news₁ → (∀ p ∈ news₁, p.1 ≠ I) → Fr h₀ env.locals h (fun y => if y = x then some (.int (i : Nat) t) else m₁ y) → News h₀ env.locals h ((I, oI) :: news₁) →
      wpAny (model prog w) A (execs body env) (TurnPost h₀ env.locals I oI (J (i + 1)) Q { s with heap := h, toks := tk }) E { s with heap := h, toks := tk })
    (done : ∀ m₁ news₁ h tk, J b m₁ news₁ → Fr h₀ env.locals h m₁ → News h₀ env.locals h news₁ → Q .next { s with heap := h, toks := tk }) :
    wpAny (model prog w) A (pyIter (.ref r)) (fun it s₂ => LoopAtV prog w A h₀ env x body Q E it s₂) E s := by
  refine wpAny_pyIter_range hr (range_small a b hb hab) ?_
  have W := Walks.range (prog := prog) (w := w) hh s.heap.objs.size a 1 (b - a)
  refine loop_walks (s₂ := { s with heap := s.heap.push _ }) (fun i => J (a + i)) W (fun hm => ?_) (next_is_new F) (fun b hb => .inl (List.mem_singleton.mp hb)) (fun i h st => ⟨_, st⟩) ?_ (F.push _) (fun p hp => ⟨Heap.get?_push_of_some _ (N p hp).1, (N p hp).2⟩) (fun p hp => Nat.ne_of_lt (Heap.lt_size (N p hp).1)) hj ?_ ?_
  · exact absurd F.ns.lt ((List.mem_singleton.mp hm) ▸ Nat.lt_irrefl _)
  · show Heap.get? _ _ = some _
    rw [Heap.get?_push_size _ rfl, PyProof.Rows.rangeSize_nat]
    have e1 : (a : Int) + ((0 : Nat) : Int) * 1 = a := by lia
    have e2 : (((b : Int) - (a : Int)).toNat : Int) = ((b - a : Nat) : Int) - ((0 : Nat) : Int) := by lia
    rw [e1, e2]
  · rintro i v m₁ news₁ h tk oI hi ⟨t, rfl⟩ hJ hoff F₁ N₁
    have e : (a : Int) + (i : Int) * 1 = ((a + i : Nat) : Int) := by lia
    rw [e] at F₁
    exact turn _ (a + i) t m₁ news₁ h tk oI (fun p hp => Heap.lt_size (N p hp).1) (by exact (Nat.le_add_right _ _)) (by (clear hab hb; omega)) hJ hoff F₁ N₁
  · intro m₁ news₁ h tk hJ F₁ N₁
    exact done m₁ news₁ h tk (by have e : a + (b - a) = b := by lia
                                 rw [e] at hJ; exact hJ) F₁ N₁
theorem iter_rangeq {r : Addr} {a b : Nat} {t u v : Tok} {m₀ : Str → Option Value} {news : List (Addr × Obj)} (J : Nat → (Str → Option Value) → List (Addr × Obj) → Prop)
    (hh : A.handled = none) (hr : IsRange s.heap r a b 1 t u v) (hb : b < 2 ^ 62) (F : Fr h₀ env.locals s.heap m₀) (N : News h₀ env.locals s.heap news) (hj : J a m₀ news) (hab : a ≤ b)
    (turn : ∀ I i t m₁ news₁ h tk oI, (∀ p ∈ news, p.1 < I) → a ≤ i → i < b → J i m₁ news₁ → (∀ p ∈ news₁, p.1 ≠ I) → Fr h₀ env.locals h (fun y => if y = x then some (.int (i : Nat) t) else m₁ y) → News h₀ env.locals h ((I, oI) :: news₁) →
      ∀ QB : Flow → Shared → Prop, (∀ f s', TurnPost h₀ env.locals I oI (J (i + 1)) Q { s with heap := h, toks := tk } f s' → QB f s') → wpAny (model prog w) A (execs body env) QB E { s with heap := h, toks := tk })
    (done : ∀ m₁ news₁ h tk, J b m₁ news₁ → Fr h₀ env.locals h m₁ → News h₀ env.locals h news₁ → Q .next { s with heap := h, toks := tk }) :
    wpAny (model prog w) A (pyIter (.ref r)) (fun it s₂ => LoopAtV prog w A h₀ env x body Q E it s₂) E s :=
  iter_range J hh hr hb F N hj hab (fun I i t m₁ news₁ h tk oI a b c d e f g => turn I i t m₁ news₁ h tk oI a b c d e f g _ fun _ _ z => z) done
noncomputable def IterStop (prog : Program) (w : World) (A : Around) (v : Value) (Q : Value → Shared → Prop) (E : Value → Shared → Prop) (s : Shared) : Prop := wpAny (model prog w) A (pyIter v) Q E s
theorem For_mine {px pos : Pos} {iter : Expr} (h₀ : Heap) (hx : env.kindOf x = some .local)
    (hp : (env.scope.kind == .class || (env.scope.kind == .module && env.locals != env.globals)) = false)
    (h : wpAny (model prog w) A (eval iter env) (fun xv s₁ => IterStop prog w A xv (fun it s₂ => LoopAtV prog w A h₀ env x body Q (fun _ _ => False) it s₂) (fun _ _ => False) s₁) (fun _ _ => False) s)
    (hs : ∀ x, foldedSetIterable iter env x = pure x := by intro _; rfl) :
    wpAny (model prog w) A (exec (.For (.Name x px) iter body [] pos) env) Q (fun _ _ => False) s := For_invV h₀ hx hp h hs
end
end Mine
end
section
open PySem PySem.W PySem.Calls PyProof.Rows
set_option maxRecDepth 100000
set_option maxHeartbeats 4000000
set_option Elab.async false
set_option linter.unusedVariables false
namespace Mine
noncomputable def sigOf (id : String) : Manifest.Signature := (Manifest.signature? id).getD ⟨.hand, "", "", .none, []⟩
theorem sig_dg : Manifest.signature? "dict.get" = some (sigOf "dict.get") := by kernel_rfl
theorem ca_dg (f : String) (hf : f = "dict.get") (a x y : Value) : Bind.checkArgs "dict.get" { sigOf "dict.get" with full := f } ⟨[a, x, y], []⟩ = pure () := by subst hf; kernel_rfl
theorem sig_sc : Manifest.signature? "set.__contains__" = some (sigOf "set.__contains__") := by kernel_rfl
theorem kind_sc : builtinKind "set.__contains__" = some .method := by decide +kernel
theorem va_sc : Manifest.varargsMethods.contains "set.__contains__" = false := by decide +kernel
theorem ca_sc (f : String) (hf : f = "set.__contains__") (a x : Value) : Bind.checkArgs "set.__contains__" { sigOf "set.__contains__" with full := f } ⟨[a, x], []⟩ = pure () := by subst hf; kernel_rfl
theorem mod_set : isSubtype (.type "set") (.type "module") = pure false := by rw [isSubtype_type]; kernel_rfl
theorem kind_dg : builtinKind "dict.get" = some .method := by decide +kernel
theorem va_dg : Manifest.varargsMethods.contains "dict.get" = false := by decide +kernel
theorem mod_dict : isSubtype (.type "dict") (.type "module") = pure false := by rw [isSubtype_type]; kernel_rfl
theorem full_dg : s!"{Bind.lastOf "dict"}.{Bind.lastOf "dict.get"}" = "dict.get" := by decide +kernel
section
variable {M : Model} {A : Around} {E : Value → Shared → Prop} {h : Heap} {g : Array GenState} {d : Drawn} {t : Nat} {os : OsState} {a : Addr} {ds : Array DictEntry} {n : Nat} {sl : Array (Option Value)}
theorem dg_check {x y : Value} {Q : Unit → Shared → Prop} (hx : h.get? a = some ⟨.type "dict", none, .dict ds n, sl⟩) (hq : Q () ⟨h, g, d, t, os⟩) : wpAny M A (checkBoundCall "dict.get" ⟨[.ref a, x, y], []⟩) Q E ⟨h, g, d, t, os⟩ := by
  have hT : (⟨h, g, d, t, os⟩ : Shared).TypeIs (.ref a) "dict" := ⟨_, hx, rfl⟩
  have f1 := mod_dict
  have f2 := ca_dg (s!"{Bind.lastOf "dict"}.{Bind.lastOf "dict.get"}") full_dg (.ref a) x y
  unfold checkBoundCall
  rw [sig_dg]
  dsimp only
  rw [kind_dg]
  dsimp only
  rw [va_dg]
  repeat (any_goals (first | assumption | wp_step))
theorem full_sc : s!"{Bind.lastOf "set"}.{Bind.lastOf "set.__contains__"}" = "set.__contains__" := by decide +kernel
theorem sc_check {es : Array (Int × Value)} {st : SetTable} {x : Value} {Q : Unit → Shared → Prop} (hx : h.get? a = some ⟨.type "set", none, .set es n st, sl⟩) (hq : Q () ⟨h, g, d, t, os⟩) : wpAny M A (checkBoundCall "set.__contains__" ⟨[.ref a, x], []⟩) Q E ⟨h, g, d, t, os⟩ := by
  have hT : (⟨h, g, d, t, os⟩ : Shared).TypeIs (.ref a) "set" := ⟨_, hx, rfl⟩
  have f1 := mod_set
  have f2 := ca_sc (s!"{Bind.lastOf "set"}.{Bind.lastOf "set.__contains__"}") full_sc (.ref a) x
  unfold checkBoundCall
  rw [sig_sc]
  dsimp only
  rw [kind_sc]
  dsimp only
  rw [va_sc]
  repeat (any_goals (first | assumption | wp_step))
end
section
variable {prog : Program} {w : World} {A : Around} {E : Value → Shared → Prop} {s : Shared} {a q : Addr}
theorem bound_call {id : String} {pos : List Value} {kw : List (Str × Value)} {b : Builtin} {Q : Value → Shared → Prop} (hq : s.heap.get? q = some (boundB id a)) (hp : plainId id = true) (hb : entryFor table id = some b)
    (hc : ∀ (P : Unit → Shared → Prop) (E' : Value → Shared → Prop) (A' : Around), P () s → wpAny (model prog w) A' (checkBoundCall id ⟨.ref a :: pos, kw⟩) P E' s)
    (h : wpAny (model prog w) A.in1 (b ⟨.ref a :: pos, kw⟩) (fun fin s' => match fin with
      | .done f => (fun r s' => match r with | .ok (.ret v) => Q v s' | .ok _ => False | .error e => E e s' : Result → Shared → Prop) (.ok f) s'
      | .again c' => c'.quiet = true ∧ codeAny (model prog w) A c' (fun r s' => match r with | .ok (.ret v) => Q v s' | .ok _ => False | .error e => E e s') s') E s) :
    wpAny (model prog w) A (call (.ref q) pos kw) Q E s := by
  refine wpAny_call (codeAny_of_tree ?_)
  show wpAny _ A.in1 (callAny (.ref q) ⟨pos, kw⟩) _ _ s
  simp only [callAny]
  refine wpAny_bind (wpAny_load hq ?_)
  simp only [boundB, show (Value.type "builtin_function_or_method" == Value.type "method" || Value.type "builtin_function_or_method" == Value.type "builtin_function_or_method" || Value.type "builtin_function_or_method" == Value.type "method-wrapper") = true by decide, if_true]
  show wpAny _ _ (ite (_ = true) _ _) _ _ s
  rw [if_pos (by decide)]
  refine wpAny_bind (hc _ _ _ ?_)
  refine wpAny_pure ?_
  refine ⟨plainId_quiet hp _, codeAny_builtin hb ?_⟩
  rw [Around.under_plainId hp]
  exact h
theorem bdg_call {f : Int → Option Value} {i : Int} {u : Tok} {dflt : Value} {Q : Value → Shared → Prop} (hq : s.heap.get? q = some (boundB "dict.get" a)) (hm : s.heap.MapOf (intKind prog w) a f) (hd : (a == sysModules) = false)
    (h : Q ((f i).getD dflt) { s with toks := s.toks + 1 }) : wpAny (model prog w) A (call (.ref q) [.int i u, dflt] []) Q E s := by
  obtain ⟨o, es, ep, ho, hc, hdt, _⟩ := id hm
  obtain ⟨c, od, dt, sl⟩ := o
  obtain ⟨rfl, rfl, rfl⟩ := hc
  simp only at hdt; subst hdt
  refine bound_call hq (by decide +kernel) F.entry_dict_get (fun P E' A' hP => ?_) ?_
  · obtain ⟨hh, g, dd, t, os⟩ := s
    exact dg_check ho hP
  · exact meets_dict_get_default (intKind prog w) a (intKind_is prog w i u) hd dflt A (fun r s' => match r with | .ok (.ret v) => Q v s' | .ok _ => False | .error e => E e s') s ⟨f, hm, h⟩
theorem bsc_call {S : Int → Bool} {n : Nat} {i : Int} {u : Tok} {Q : Value → Shared → Prop} (hq : s.heap.get? q = some (boundB "set.__contains__" a)) (hm : s.heap.SetOf (intKind prog w) a S n)
    (h : Q (.bool (S i)) { s with toks := s.toks + 1 }) : wpAny (model prog w) A (call (.ref q) [.int i u] []) Q E s := by
  obtain ⟨o, es, ep, st, ho, hc, hdt, _⟩ := id hm
  obtain ⟨c, od, dt, sl⟩ := o
  obtain ⟨rfl, rfl, rfl⟩ := hc
  simp only at hdt; subst hdt
  refine bound_call hq (by decide +kernel) entry_set_contains (fun P E' A' hP => ?_) ?_
  · obtain ⟨hh, g, dd, t, os⟩ := s
    exact sc_check ho hP
  · unfold Builtin.«frozenset.__contains__» Builtin.Frozenset.oneOther
    simp only [List.isEmpty_nil, bind_assoc]
    unfold Builtin.Frozenset.addrOf Builtin.Frozenset.withSetAsKey setContains
    refine wpAny_bind (wpAny_pure ?_)
    try dsimp only
    refine wpAny_bind (wpAny_pure ?_)
    try dsimp only
    refine wpAny_bind (wpAny_tryCatch ?_)
    refine wpAny_holding ?_
    refine wpAny_bind ((intKind prog w).pyHash (intKind_is prog w i u) ?_)
    refine wpAny_bind (wpAny_setFind_of (s := { s with toks := s.toks + 1 }) (intKind_is prog w i u) rfl hm fun r hr => ?_)
    refine wpAny_pure ?_
    show wpAny _ _ (ret (Value.bool r.isSome)) _ _ _
    rw [hr]
    exact wpAny_pure h
end
end Mine
end
section
open PySem PySem.W PySem.Calls PyProof.Rows
set_option maxRecDepth 100000
set_option maxHeartbeats 4000000
set_option Elab.async false
set_option linter.unusedVariables false
namespace Mine
section
variable {prog : Program} {w : World} {A : Around} {E : Value → Shared → Prop} {s : Shared} {h₀ : Heap} {L d q : Addr} {m : Str → Option Value} {news : List (Addr × Obj)} {f : Int → Option Value}
theorem mapOf_keeps {h : Heap} (F : Fr h₀ L h m) (hm : h₀.MapOf (intKind prog w) d f) : h.MapOf (intKind prog w) d f :=
  let ⟨o, es, ep, ho, r⟩ := hm; ⟨o, es, ep, F.keep _ _ ho, r⟩
theorem getM_map {pl : Sem Bool} {Q : Value × List Value → Shared → Prop} (F : Fr h₀ L s.heap m) (hm : h₀.MapOf (intKind prog w) d f) (h : Q (.builtin "dict.get", [.ref d]) s) : wpAny (model prog w) A (getMethod (.ref d) "get" pl) Q E s :=
  have hD := mapOf_keeps F hm
  getMethod_builtin hD.typeIs PySem.F.plainAttrs_dict PySem.F.slot_dict_get PySem.F.type_dict_get hD.noDict h
theorem get2_map {i : Int} {t : Tok} {dflt : Value} {Q : Value → Shared → Prop} (F : Fr h₀ L s.heap m) (hm : h₀.MapOf (intKind prog w) d f) (lo : (d == sysModules) = false) (h : Q ((f i).getD dflt) { s with toks := s.toks + 1 }) :
    wpAny (model prog w) A (call (.builtin "dict.get") [.ref d, .int i t, dflt]) Q E s :=
  have hD := mapOf_keeps F hm
  call_meetsIn PySem.F.slot_dict_get hD.typeIs PySem.F.entry_dict_get (PySem.F.args_dict_get_3 _ _ _) (meets_dict_get_default (intKind prog w) d (intKind_is prog w i t) lo dflt) ⟨_, hD, h⟩
noncomputable def Tab (kvs : List (Int × Value)) (f : Int → Int) : Prop := ∀ j, (valueAt kvs j = none ∧ f j = 0) ∨ ∃ t, valueAt kvs j = some (.int (f j) t)
theorem Tab.nil : Tab [] (fun _ => 0) := fun j => .inl ⟨rfl, rfl⟩
theorem valueAt_nil (x : Int) : valueAt ([] : List (Int × Value)) x = none := rfl
theorem valueAt_cons (a : Int) (b : Value) (r : List (Int × Value)) (x : Int) : valueAt ((a, b) :: r) x = if a = x then some b else valueAt r x := by
  unfold valueAt
  rw [List.find?_cons]
  by_cases h : a = x
  · simp [h]
  · simp [h]
theorem valueAt_map (k : Int) (v : Value) (x : Int) : ∀ kvs : List (Int × Value), valueAt (kvs.map fun kv => if kv.1 = k then (kv.1, v) else kv) x = if x = k then (valueAt kvs x).map (fun _ => v) else valueAt kvs x
  | [] => by simp [valueAt_nil]
  | (a, b) :: r => by
    have ih := valueAt_map k v x r
    rw [List.map_cons, valueAt_cons]
    by_cases ha : a = k
    · subst ha
      rw [if_pos rfl, valueAt_cons, ih]
      by_cases hx : a = x
      · subst hx; simp
      · simp [hx]
    · rw [if_neg ha, valueAt_cons, ih]
      by_cases hx : a = x
      · subst hx; simp [ha]
      · simp [hx]
theorem valueAt_snoc (k : Int) (v : Value) (x : Int) : ∀ kvs : List (Int × Value), valueAt (kvs ++ [(k, v)]) x = (valueAt kvs x).or (if k = x then some v else none)
  | [] => by rw [List.nil_append, valueAt_cons, valueAt_nil]; rfl
  | (a, b) :: r => by
    rw [List.cons_append, valueAt_cons, valueAt_cons, valueAt_snoc k v x r]
    by_cases hx : a = x
    · simp [hx]
    · simp [hx]
theorem any_valueAt (k : Int) : ∀ kvs : List (Int × Value), (kvs.any fun kv => decide (kv.1 = k)) = (valueAt kvs k).isSome
  | [] => rfl
  | (a, b) :: r => by
    rw [List.any_cons, valueAt_cons, any_valueAt k r]
    by_cases hx : a = k
    · simp [hx]
    · simp [hx]
theorem valueAt_stored (kvs : List (Int × Value)) (k : Int) (v : Value) (x : Int) : valueAt (stored kvs k v) x = if x = k then some v else valueAt kvs x := by
  unfold stored
  rw [any_valueAt]
  cases e : valueAt kvs k with
  | none =>
    rw [Option.isSome_none, if_neg (by simp), valueAt_snoc]
    by_cases hx : x = k
    · subst hx; simp [e]
    · have hx' : ¬ k = x := fun e => hx e.symm
      simp [hx, hx']
  | some u =>
    rw [Option.isSome_some, if_pos rfl, valueAt_map]
    by_cases hx : x = k
    · subst hx; simp [e]
    · simp [hx]
theorem Tab.stored {kvs : List (Int × Value)} {f : Int → Int} (h : Tab kvs f) (k n : Int) (t : Tok) : Tab (stored kvs k (.int n t)) (fun x => if x = k then n else f x) := fun j => by
  rw [valueAt_stored]
  by_cases hj : j = k
  · simp only [if_pos hj]; exact .inr ⟨t, rfl⟩
  · simp only [if_neg hj]; exact h j
theorem call_get_led {g : Int → Int} {kv : List (Int × Value)} {o : Obj} {i : Int} {t u : Tok} {Q : Value → Shared → Prop} (N : News h₀ L s.heap news) (hq : (q, boundB "dict.get" d) ∈ news) (hd : (d, o) ∈ news) (ho : o.IsDictOf (intKind prog w) kv) (ht : Tab kv g) (lo : (d == sysModules) = false)
    (h : ∀ t' tk, Q (.int (g i) t') { s with toks := tk }) : wpAny (model prog w) A (call (.ref q) [.int i t, .int 0 u] []) Q E s := by
  have hD : s.heap.DictOf (intKind prog w) d kv := Heap.dictOf_iff.mpr ⟨o, (N _ hd).1, ho⟩
  refine bdg_call (N _ hq).1 hD.mapOf lo ?_
  rcases ht i with ⟨e1, e2⟩ | ⟨t', e⟩
  · rw [e1]; have := h u (s.toks + 1); rw [e2] at this; exact this
  · rw [e]; exact h t' _
theorem setItem_led {kv : List (Int × Value)} {o : Obj} {i : Int} {t : Tok} {v : Value} {own rest : List (Addr × Obj)} {Q : Unit → Shared → Prop} (F : Fr h₀ L s.heap m) (N : News h₀ L s.heap (own ++ (d, o) :: rest)) (h1 : ∀ p ∈ own, p.1 ≠ d) (h2 : ∀ p ∈ rest, p.1 ≠ d)
    (ho : o.IsDictOf (intKind prog w) kv) (hz : kv.length ≤ sizeLine)
    (h : ∀ h' o' tk, Fr h₀ L h' m → News h₀ L h' (own ++ (d, o') :: rest) → o'.IsDictOf (intKind prog w) (PySem.stored kv i v) → Q () { s with heap := h', toks := tk }) :
    wpAny (model prog w) A (setItem (.ref d) (.int i t) v) Q E s := by
  have hm := N (d, o) (List.mem_append_right _ (.head _))
  refine wpAny_setItem_pairs (hsz := hz) (intKind_is prog w i t) (Heap.dictOf_iff.mpr ⟨o, hm.1, ho⟩) fun h' hmm hs => ?_
  obtain ⟨o', ho', hd'⟩ := Heap.dictOf_iff.mp hmm
  exact h h' o' _ (F.change hs hm.2.1 hm.2.2) (N.setIn h1 h2 hs ho') hd'
noncomputable def BBat (id : String) (a q : Addr) (h : Heap) : Prop := h.get? q = some (boundB id a)
theorem bbat_and {id : String} {a q : Addr} {h : Heap} {P : Prop} (N : News h₀ L h news) (hm : (q, boundB id a) ∈ news) (k : P) : BBat id a q h ∧ P := ⟨N.get hm, k⟩
theorem setItem_led1 {kv : List (Int × Value)} {o : Obj} {i : Int} {t : Tok} {v : Value} {p : Addr × Obj} {rest : List (Addr × Obj)} {Q : Unit → Shared → Prop} (F : Fr h₀ L s.heap m) (N : News h₀ L s.heap (p :: (d, o) :: rest)) (h1 : ∀ x ∈ [p], x.1 ≠ d) (h2 : ∀ p ∈ rest, p.1 ≠ d)
    (ho : o.IsDictOf (intKind prog w) kv) (hz : kv.length ≤ sizeLine)
    (h : ∀ h' o' tk, Fr h₀ L h' m → News h₀ L h' (p :: (d, o') :: rest) → o'.IsDictOf (intKind prog w) (PySem.stored kv i v) → Q () { s with heap := h', toks := tk }) :
    wpAny (model prog w) A (setItem (.ref d) (.int i t) v) Q E s := setItem_led (own := [p]) F N h1 h2 ho hz h
theorem keeps_bb {M : Model} {id : String} {a q : Addr} (h : Heap) (X : BBat id a q h) : ∃ k, (k = Keeper.frame ∨ k = Keeper.machine ∨ k = Keeper.boundFrame) ∧ Looks M h (keeperOf (.ref q)) k :=
  ⟨.machine, .inr (.inl rfl), (Looks.ld (part := none) X).andThen .now⟩
theorem callWith_bb {M : Model} {id : String} {a q : Addr} {pos : Pos} {env : Env} {first : List Value} {e : Expr} {rest : List Expr} {Q : Value → Shared → Prop} (hq : BBat id a q s.heap)
    (h : wpAny M A (spliced (backTo pos (starEach (e :: rest) env))) (fun vs s₁ => BBat id a q s₁.heap ∧ wpAny M A (call (.ref q) (first ++ vs)) Q E s₁) E s)
    (he : starEach (e :: rest) env = (false, eval e env) :: starEach rest env := by rfl) (hplain : (backTo pos (starEach rest env)).any (·.1) = false := by rfl) :
    wpAny M A (callWith pos (.ref q) first (backTo pos (starEach (e :: rest) env)) []) Q E s := by
  rw [he] at h ⊢
  exact callWith_of (P := BBat id a q) (by show ((false || (backTo pos (starEach rest env)).any (·.1)) || false) = false; rw [hplain]; rfl) keeps_bb (evalArgs_plain h)
theorem lt_of_allLt {d : Nat} {l : List (Addr × Obj)} (h : AllLt d l) : ∀ p ∈ l, p.1 < d := by
  induction l with
  | nil => intro p hp; cases hp
  | cons x r ih =>
    intro p hp
    rcases List.mem_cons.mp hp with e | hp
    · rw [e]; exact h.1
    · exact ih h.2 p hp
theorem ne_of_allLt {d : Nat} {l : List (Addr × Obj)} (h : AllLt d l) : ∀ p ∈ l, p.1 ≠ d := fun p hp => Nat.ne_of_lt (lt_of_allLt h p hp)
theorem setOf_keeps {h : Heap} {S : Int → Bool} {n : Nat} (F : Fr h₀ L h m) (hm : h₀.SetOf (intKind prog w) d S n) : h.SetOf (intKind prog w) d S n :=
  let ⟨o, es, ep, t, ho, r⟩ := hm; ⟨o, es, ep, t, F.keep _ _ ho, r⟩
theorem call_in_led {S : Int → Bool} {n : Nat} {i : Int} {u : Tok} {Q : Value → Shared → Prop} (F : Fr h₀ L s.heap m) (N : News h₀ L s.heap news) (hq : (q, boundB "set.__contains__" d) ∈ news) (hm : h₀.SetOf (intKind prog w) d S n)
    (h : ∀ tk, Q (.bool (S i)) { s with toks := tk }) : wpAny (model prog w) A (call (.ref q) [.int i u] []) Q E s := bsc_call (N _ hq).1 (setOf_keeps F hm) (h _)
noncomputable def WTurn (I : Nat → Shared → Prop) (n : Nat) (s : Shared) : Prop := ∃ m, m < n ∧ I m s
theorem While_mine {test : Expr} {body : List Stmt} {pos : Pos} {env : Env} {Q : Flow → Shared → Prop} (I : Nat → Shared → Prop)
    (turn : ∀ n s, I n s → wpAny (model prog w) A (isTrue test env (eval test env)) (fun b s₂ => if b = true then wpAny (model prog w) A (execs body env) (fun f s₃ => match f with
        | .next | .cont => WTurn I n s₃
        | .brk => Q .next s₃
        | .ret v => Q (.ret v) s₃) (fun _ _ => False) s₂ else Q .next s₂) (fun _ _ => False) s)
    (n : Nat) (h : I n s) : wpAny (model prog w) A (exec (.While test body [] pos) env) Q E s := by
  refine wpAny_While (codeAny_whileLoop I (fun n s hI => wpAny_mono (turn n s hI) (fun b s₂ h₂ => ?_) fun _ _ e => e.elim) n h)
  cases b with
  | true =>
    rw [if_pos rfl] at h₂
    rw [if_pos rfl]
    refine wpAny_mono h₂ (fun f s₃ h₃ => ?_) fun _ _ e => e.elim
    cases f <;> exact h₃
  | false =>
    rw [if_neg (by simp)] at h₂
    rw [if_neg (by simp)]
    exact wpAny_execs_nil h₂
noncomputable def ExecStop (M : Model) (A : Around) (st : Stmt) (env : Env) (Q : Flow → Shared → Prop) (E : Value → Shared → Prop) (s : Shared) : Prop := wpAny M A (exec st env) Q E s
theorem exec_stop {M : Model} {st : Stmt} {env : Env} {Q : Flow → Shared → Prop} (h : ExecStop M A st env Q E s) : wpAny M A (exec st env) Q E s := h
end
theorem While_q {test : Expr} {body : List Stmt} {pos : Pos} {env : Env} {Q : Flow → Shared → Prop} (I : Nat → Shared → Prop)
    (turn : ∀ n s, I n s → ∀ QB : Flow → Shared → Prop, (∀ s, WTurn I n s → QB .next s) → wpAny (model prog w) A (isTrue test env (eval test env)) (fun b s₂ => if b = true then wpAny (model prog w) A (execs body env) QB (fun _ _ => False) s₂ else Q .next s₂) (fun _ _ => False) s)
    (n : Nat) (h : I n s) : wpAny (model prog w) A (exec (.While test body [] pos) env) Q E s :=
  While_mine I (fun n s hI => turn n s hI _ fun _ h => h) n h
end Mine
end
section
namespace Pure
noncomputable def inner (g : Int → Int) (blo bhi i : Int) : List Int → (Int → Int) × (Int × Int × Int) → (Int → Int) × (Int × Int × Int)
  | [], st => st
  | j :: r, st => if j < blo then inner g blo bhi i r st else if bhi ≤ j then st else
      inner g blo bhi i r (fun x => if x = j then g (j - 1) + 1 else st.1 x, if st.2.2.2 < g (j - 1) + 1 then (i - (g (j - 1) + 1) + 1, j - (g (j - 1) + 1) + 1, g (j - 1) + 1) else st.2)
noncomputable def outer (a : Nat → Int) (idx : Int → List Int) (blo bhi : Int) : Nat → Nat → (Int → Int) × (Int × Int × Int) → (Int → Int) × (Int × Int × Int)
  | _, 0, st => st
  | i, n + 1, st => outer a idx blo bhi (i + 1) n (inner st.1 blo bhi i (idx (a i)) (fun _ => 0, st.2))
theorem outer_snoc (a : Nat → Int) (idx : Int → List Int) (blo bhi : Int) : ∀ (n i : Nat) (st : (Int → Int) × (Int × Int × Int)),
    outer a idx blo bhi i (n + 1) st = inner (outer a idx blo bhi i n st).1 blo bhi (i + n : Nat) (idx (a (i + n))) (fun _ => 0, (outer a idx blo bhi i n st).2)
  | 0, i, st => rfl
  | n + 1, i, st => by
    rw [outer, outer_snoc a idx blo bhi n (i + 1), outer]
    have e : i + 1 + n = i + (n + 1) := by lia
    rw [e]
theorem inner_lo {g : Int → Int} {blo bhi i j : Int} {r : List Int} {st : (Int → Int) × (Int × Int × Int)} (h : j < blo) : inner g blo bhi i (j :: r) st = inner g blo bhi i r st := by
  rw [inner, if_pos h]
theorem inner_hi {g : Int → Int} {blo bhi i j : Int} {r : List Int} {st : (Int → Int) × (Int × Int × Int)} (h : ¬ j < blo) (h2 : bhi ≤ j) : inner g blo bhi i (j :: r) st = st := by
  rw [inner, if_neg h, if_pos h2]
theorem inner_best {g : Int → Int} {blo bhi i j : Int} {r : List Int} {st : (Int → Int) × (Int × Int × Int)} (h : ¬ j < blo) (h2 : ¬ bhi ≤ j) (h3 : st.2.2.2 < g (j - 1) + 1) :
    inner g blo bhi i (j :: r) st = inner g blo bhi i r (fun x => if x = j then g (j - 1) + 1 else st.1 x, (i - (g (j - 1) + 1) + 1, j - (g (j - 1) + 1) + 1, g (j - 1) + 1)) := by
  rw [inner, if_neg h, if_neg h2, if_pos h3]
theorem inner_same {g : Int → Int} {blo bhi i j : Int} {r : List Int} {st : (Int → Int) × (Int × Int × Int)} (h : ¬ j < blo) (h2 : ¬ bhi ≤ j) (h3 : ¬ st.2.2.2 < g (j - 1) + 1) :
    inner g blo bhi i (j :: r) st = inner g blo bhi i r (fun x => if x = j then g (j - 1) + 1 else st.1 x, st.2) := by
  rw [inner, if_neg h, if_neg h2, if_neg h3]
noncomputable def extL (a b : Nat → Int) (ok : Int → Bool) (alo blo : Nat) : Nat → Nat → Nat → Nat × Nat × Nat
  | 0, j, k => (0, j, k)
  | i + 1, j, k => if alo < i + 1 ∧ blo < j ∧ ok (b (j - 1)) = true ∧ a i = b (j - 1) then extL a b ok alo blo i (j - 1) (k + 1) else (i + 1, j, k)
theorem extL_stop {a b : Nat → Int} {ok : Int → Bool} {alo blo i j k : Nat} (h : ¬ (alo < i ∧ blo < j ∧ ok (b (j - 1)) = true ∧ a (i - 1) = b (j - 1))) : extL a b ok alo blo i j k = (i, j, k) := by
  cases i with
  | zero => rfl
  | succ i => rw [extL]; exact if_neg h
theorem extL_step {a b : Nat → Int} {ok : Int → Bool} {alo blo i j k : Nat} (h : alo < i ∧ blo < j ∧ ok (b (j - 1)) = true ∧ a (i - 1) = b (j - 1)) : extL a b ok alo blo i j k = extL a b ok alo blo (i - 1) (j - 1) (k + 1) := by
  cases i with
  | zero => exact absurd h.1 (Nat.not_lt_zero _)
  | succ i => rw [extL]; exact if_pos h
noncomputable def extR (a b : Nat → Int) (ok : Int → Bool) (ahi bhi i j : Nat) : Nat → Nat → Nat
  | 0, k => k
  | n + 1, k => if i + k < ahi ∧ j + k < bhi ∧ ok (b (j + k)) = true ∧ a (i + k) = b (j + k) then extR a b ok ahi bhi i j n (k + 1) else k
theorem extR_stop {a b : Nat → Int} {ok : Int → Bool} {ahi bhi i j k : Nat} (h : ¬ (i + k < ahi ∧ j + k < bhi ∧ ok (b (j + k)) = true ∧ a (i + k) = b (j + k))) (n : Nat) : extR a b ok ahi bhi i j n k = k := by
  cases n with
  | zero => rfl
  | succ n => rw [extR, if_neg h]
theorem extR_step {a b : Nat → Int} {ok : Int → Bool} {ahi bhi i j k : Nat} (h : i + k < ahi ∧ j + k < bhi ∧ ok (b (j + k)) = true ∧ a (i + k) = b (j + k)) : extR a b ok ahi bhi i j (ahi - (i + k)) k = extR a b ok ahi bhi i j (ahi - (i + (k + 1))) (k + 1) := by
  obtain ⟨n, hn⟩ : ∃ n, ahi - (i + k) = n + 1 := ⟨ahi - (i + k) - 1, by lia⟩
  have e : ahi - (i + (k + 1)) = n := by omega
  rw [hn, e, extR, if_pos h]
end Pure
end
section
open PySem PySem.W PySem.Calls PyProof.Rows
set_option maxRecDepth 100000
set_option maxHeartbeats 4000000
set_option Elab.async false
set_option linter.unusedVariables false
namespace Mine
noncomputable def stAt (l : List Stmt) (i : Nat) : Stmt := l.getD i (.Pass default)
noncomputable def forBody : Stmt → List Stmt
  | .For _ _ b _ _ => b
  | .While _ b _ _ => b
  | _ => []
noncomputable def flmFor : Stmt := stAt (fnBody (mem 5 6)) 7
noncomputable def flmInner : Stmt := stAt (forBody flmFor) 2
noncomputable abbrev flmEnv (L : Addr) : Env := envOf (Str.ofString "SequenceMatcher.find_longest_match") (fnScope (mem 5 6)) L 196 (Value.ref 195)
local macro_rules | `(tactic| walk_at "eval Name") => ln ``ld "k_asm rfl|assumption _" ""
local macro_rules | `(tactic| walk_at "getMethod ref") => ln ``getM_map "k_asm assumption _" "" (sh := meth ``PySem.getMethod "get")
local macro_rules | `(tactic| walk_at "call builtin:dict.get") => ln ``get2_map "k_asm assumption assumption _" ""
local macro_rules | `(tactic| walk_at "callWith ref") => ln ``callWith_bb "News.get+k_asm+m2 _" ""
local macro_rules | `(tactic| walk_at "And") => do ln ``bbat_and "k_asm m2 _" "" false (here := false) (tl := [← apps])
local macro_rules | `(tactic| walk_at "call ref") => ln ``call_get_led "k_asm m2 m2 assumption assumption assumption _" "t' tk'" true false
local macro_rules | `(tactic| walk_at "setItem ref int") => ln ``setItem_led1 "k_asm k_asm assumption assumption assumption assumption _" "h' o' tk' F' N' ho'"
inductive IInv (w : World) (d2 : Addr) (rest : List (Addr × Obj)) (m : Str → Option Value) (E : Nat → (Int → Int) × Int × Int × Int → Prop) (k : Nat) (m₁ : Str → Option Value) : List (Addr × Obj) → Prop
  | mk (o2 : Obj) (kv : List (Int × Value)) (t1 t2 t3 : Tok) (g : Int → Int) (r1 r2 r3 : Int) : o2.IsDictOf (intKind pw w) kv → kv.length ≤ k → Tab kv g → E k (g, r1, r2, r3) → m₁ (Str.ofString "besti") = some (.int r1 t1) → m₁ (Str.ofString "bestj") = some (.int r2 t2) → m₁ (Str.ofString "bestsize") = some (.int r3 t3) →
    (∀ y, y ≠ Str.ofString "j" → y ≠ Str.ofString "k" → y ≠ Str.ofString "besti" → y ≠ Str.ofString "bestj" → y ≠ Str.ofString "bestsize" → m₁ y = m y) → IInv w d2 rest m E k m₁ ((d2, o2) :: rest)
theorem flm_inner {w : World} {dp un : Nat} {fr : Option (List Env)} {gu : Option (List Code)} {s : Shared} {h₀ : Heap} {L d2 la l2 nl q2 dj : Addr} {o2 oj : Obj} {m mg mb : Str → Option Value} {means : ExcName → Option Value} {rest : List (Addr × Obj)}
    {Q : Flow → Shared → Prop} {va : List Value} {as : List Int} {i : Nat} {blo bhi bi bj bs : Int} {ti tl th t1 t2 t3 : Tok} {fb : Int → Option Value} {idx : Int → List Int} {g : Int → Int} {n : Nat} {kj : List (Int × Value)}
    (F' : Fr h₀ L s.heap m) (N' : News h₀ L s.heap ((d2, o2) :: rest)) (hne : ∀ p ∈ rest, p.1 ≠ d2) (X' : (K w.params).In h₀) (T' : Top q (looseW q loose) means mg mb h₀)
    (ma : m (Str.ofString "a") = some (.ref la)) (m2 : m (Str.ofString "b2j") = some (.ref l2)) (mi : m (Str.ofString "i") = some (.int i ti)) (mn : m (Str.ofString "nothing") = some (.ref nl)) (mnew : m (Str.ofString "newj2len") = some (.ref d2)) (mget : m (Str.ofString "j2lenget") = some (.ref q2))
    (ml : m (Str.ofString "blo") = some (.int blo tl)) (mh : m (Str.ofString "bhi") = some (.int bhi th)) (mbi : m (Str.ofString "besti") = some (.int bi t1)) (mbj : m (Str.ofString "bestj") = some (.int bj t2)) (mbs : m (Str.ofString "bestsize") = some (.int bs t3))
    (hla : h₀.IsList la va.toArray) (hI : IntsAre va as) (hi : i < as.length) (hi2 : as.length < 2 ^ 24) (hl2 : h₀.MapOf (intKind pw w) l2 fb) (hls : (l2 == sysModules) = false)
    (hb : ∀ c, (fb c = none ∧ idx c = []) ∨ ∃ lx vx, fb c = some (.ref lx) ∧ h₀.IsList lx vx.toArray ∧ IntsAre vx (idx c)) (hbn : ∀ c, (idx c).length < 2 ^ 24)
    (hnl : (nl, W.listOf #[] n) ∈ rest) (hq2 : (q2, boundB "dict.get" dj) ∈ rest) (hdj : (dj, oj) ∈ rest) (hoj : oj.IsDictOf (intKind pw w) kj) (htj : Tab kj g) (hjs : (dj == sysModules) = false) (h2 : o2.IsDictOf (intKind pw w) [])
    (hQ : ∀ h' tk m' o2' kv' t1 t2 t3 r, r = Pure.inner g blo bhi i (idx (as.getD i 0)) (fun _ => 0, (bi, bj, bs)) → Fr h₀ L h' m' → News h₀ L h' ((d2, o2') :: rest) → o2'.IsDictOf (intKind pw w) kv' → Tab kv' r.1 →
      m' (Str.ofString "besti") = some (.int r.2.1 t1) → m' (Str.ofString "bestj") = some (.int r.2.2.1 t2) → m' (Str.ofString "bestsize") = some (.int r.2.2.2 t3) →
      (∀ y, y ≠ Str.ofString "j" → y ≠ Str.ofString "k" → y ≠ Str.ofString "besti" → y ≠ Str.ofString "bestj" → y ≠ Str.ofString "bestsize" → m' y = m y) → Q .next { s with heap := h', toks := tk }) :
    PySem.Challenge.rw_dm0054_12.prog = pw → wpAny (model pw w) (Around.mk none dp fr gu un) (exec flmInner (flmEnv L)) Q (fun _ _ => False) s := by
  k_fill
  intro _
  refine For_invV h₀ rfl rfl ?_
  k_steps
  rw [Int.toNat_natCast]
  generalize hc : as.getD i 0 = c
  rw [hc] at hQ
  rcases hb c with ⟨e1, e2⟩ | ⟨lx, vx, e1, hlx, hIx⟩
  · rw [e1]
    rw [e2] at hQ
    exact iter_empty rfl F' N' (.tail _ hnl) fun h tk F₁ N₁ => hQ h tk m o2 [] t1 t2 t3 _ rfl F₁ N₁ h2 Tab.nil mbi mbj mbs fun _ _ _ _ _ _ => rfl
  · rw [e1]
    refine iter_listq (IInv w d2 rest m fun k r => Pure.inner g blo bhi i (idx c) (fun _ => 0, (bi, bj, bs)) = Pure.inner g blo bhi i ((idx c).drop k) r) rfl hlx F' N' ⟨o2, [], t1, t2, t3, _, _, _, _, h2, Nat.le_refl _, Tab.nil, rfl, mbi, mbj, mbs, fun _ _ _ _ _ _ => rfl⟩ ?_ ?_
    · rintro I k v m₁ news₁ h tk oI hlt hv ⟨o2₁, kv, t1', t2', t3', g1, r1, r2, r3, ho, hkv, htab, hin, b1, b2, b3, hm⟩ hoff F₁ N₁ QB hT
      obtain ⟨j, hj⟩ : ∃ j, (idx c)[k]? = some j := by
        have : k < vx.length := (List.getElem?_eq_some_iff.mp hv).1
        rw [hIx.length] at this
        exact ⟨_, List.getElem?_eq_getElem this⟩
      obtain ⟨tj, e⟩ := hIx.get k j hj
      rw [hv] at e; obtain rfl := Option.some.inj e
      have hklt : k < (idx c).length := (List.getElem?_eq_some_iff.mp hj).1
      have hdrop : (idx c).drop k = j :: (idx c).drop (k + 1) := by rw [List.drop_eq_getElem_cons hklt]; rw [(List.getElem?_eq_some_iff.mp hj).2]
      have c1 := (hm (Str.ofString "blo") (by decide) (by decide) (by decide) (by decide) (by decide)).trans ml
      have c2 := (hm (Str.ofString "bhi") (by decide) (by decide) (by decide) (by decide) (by decide)).trans mh
      have c3 := (hm (Str.ofString "newj2len") (by decide) (by decide) (by decide) (by decide) (by decide)).trans mnew
      have c4 := (hm (Str.ofString "j2lenget") (by decide) (by decide) (by decide) (by decide) (by decide)).trans mget
      have c5 := (hm (Str.ofString "i") (by decide) (by decide) (by decide) (by decide) (by decide)).trans mi
      have z1 : kv.length ≤ sizeLine := by have := hbn c; unfold sizeLine; omega
      have z2 : ∀ p ∈ [(I, oI)], p.1 ≠ d2 := fun p hp => by
        rw [List.mem_singleton.mp hp]; exact Nat.ne_of_gt (hlt (d2, o2) (.head _))
      k_steps
      · exact hT _ _ (TurnPost.cont F₁ N₁ hoff ⟨o2₁, kv, t1', t2', t3', g1, r1, r2, r3, ho, by exact (Nat.le_trans hkv (Nat.le_succ _)), htab, by rw [hin, hdrop, Pure.inner_lo (by assumption)], b1, b2, b3, fun y h1 h2 h3 h4 h5 => by
          simp only [if_neg h1]; exact hm y h1 h2 h3 h4 h5⟩)
      · refine hT _ _ ?_
        exact hQ _ _ _ o2₁ kv t1' t2' t3' (g1, r1, r2, r3) (by rw [hin, hdrop, Pure.inner_hi (by assumption) (by assumption)]) F₁ (news_sub N₁ fun p hp => .tail _ hp) ho htab b1 b2 b3 fun y h1 h2 h3 h4 h5 => by
          simp only [if_neg h1]; exact hm y h1 h2 h3 h4 h5
      · refine hT _ _ (TurnPost.next (by assumption) (news_sub (by assumption) fun p hp => .tail _ hp) (fun p hp => ?_) ⟨_, _, _, _, _, _, _, _, _, by assumption, Nat.le_trans (stored_length_le _ _ _) (Nat.succ_le_succ hkv), htab.stored _ _ _, by rw [hin, hdrop, Pure.inner_best (by assumption) (by assumption) (by assumption)], rfl, rfl, rfl, fun y h1 h2 h3 h4 h5 => ?_⟩)
        · rcases List.mem_cons.mp hp with rfl | hp
          · exact hoff (d2, o2₁) (.head _)
          · exact hoff p (.tail _ hp)
        · simp only [if_neg h1, if_neg h2, if_neg h3, if_neg h4, if_neg h5]; exact hm y h1 h2 h3 h4 h5
      · refine' hT _ _ (TurnPost.next ?F ?N ?hn ?hj)
        case F => assumption
        case N => assumption
        case hn =>
          intro p hp
          rcases List.mem_cons.mp hp with rfl | hp
          · exact hoff (d2, o2₁) (.head _)
          · exact hoff p (.tail _ hp)
        case hj =>
          refine ⟨_, _, t1', t2', t3', fun x => if x = j then g (j - 1) + 1 else g1 x, r1, r2, r3, by assumption, Nat.le_trans (stored_length_le _ _ _) (Nat.succ_le_succ hkv), htab.stored _ _ _, by rw [hin, hdrop, Pure.inner_same (by assumption) (by assumption) (by assumption)], b1, b2, b3, fun y h1 h2 h3 h4 h5 => ?_⟩
          simp only [if_neg h1, if_neg h2]; exact hm y h1 h2 h3 h4 h5
    · rintro m₁ news₁ h tk ⟨o2₁, kv, t1', t2', t3', r0, r1, r2, r3, ho, hkv, htab, hin, b1, b2, b3, hm⟩ F₁ N₁
      exact hQ h tk m₁ o2₁ kv t1' t2' t3' (r0, r1, r2, r3) (by rw [hin, hIx.length, List.drop_length]; rfl) F₁ N₁ ho htab b1 b2 b3 hm
end Mine
end
section
open PySem PySem.W PySem.Calls PyProof.Rows
set_option maxRecDepth 100000
set_option maxHeartbeats 4000000
set_option Elab.async false
set_option linter.unusedVariables false
namespace Mine
local macro_rules | `(tactic| walk_at "eval Name") => ln ``ld "k_asm rfl|assumption _" ""
local macro_rules | `(tactic| walk_at "getAttr ref") => ln ``dg_attrD "k_asm k_asm d1 assumption _" "q' h' F' N' l1" (sh := meth ``PySem.getAttr "get")
local macro_rules | `(tactic| walk_at "exec For Name Call cons nil") => stop ``exec_stop
inductive OInv (w : World) (rest : List (Addr × Obj)) (m : Str → Option Value) (E : Nat → (Int → Int) × Int × Int × Int) (i : Nat) (m₁ : Str → Option Value) : List (Addr × Obj) → Prop
  | mk (dj : Addr) (oj : Obj) (kj : List (Int × Value)) (t1 t2 t3 : Tok) (g : Int → Int) (r1 r2 r3 : Int) : (g, r1, r2, r3) = E i → m₁ (Str.ofString "j2len") = some (.ref dj) → oj.IsDictOf (intKind pw w) kj → Tab kj g → (dj == sysModules) = false →
    m₁ (Str.ofString "besti") = some (.int r1 t1) → m₁ (Str.ofString "bestj") = some (.int r2 t2) → m₁ (Str.ofString "bestsize") = some (.int r3 t3) →
    (∀ y, y ≠ Str.ofString "j" → y ≠ Str.ofString "k" → y ≠ Str.ofString "besti" → y ≠ Str.ofString "bestj" → y ≠ Str.ofString "bestsize" → y ≠ Str.ofString "i" → y ≠ Str.ofString "j2len" → y ≠ Str.ofString "newj2len" → y ≠ Str.ofString "j2lenget" → m₁ y = m y) → OInv w rest m E i m₁ ((dj, oj) :: rest)
theorem flm_outer {w : World} {dp un : Nat} {fr : Option (List Env)} {gu : Option (List Code)} {s : Shared} {h₀ : Heap} {L la l2 nl dj : Addr} {oj : Obj} {m mg mb : Str → Option Value} {means : ExcName → Option Value} {rest : List (Addr × Obj)}
    {Q : Flow → Shared → Prop} {va : List Value} {as : List Int} {alo ahi : Nat} {blo bhi bi bj bs : Int} {ta tb tl th t1 t2 t3 : Tok} {fb : Int → Option Value} {idx : Int → List Int} {n : Nat}
    (F' : Fr h₀ L s.heap m) (N' : News h₀ L s.heap rest) (T' : Top q (looseW q loose) means mg mb h₀)
    (ma : m (Str.ofString "a") = some (.ref la)) (m2 : m (Str.ofString "b2j") = some (.ref l2)) (mal : m (Str.ofString "alo") = some (.int alo ta)) (mah : m (Str.ofString "ahi") = some (.int ahi tb)) (mn : m (Str.ofString "nothing") = some (.ref nl)) (mj : m (Str.ofString "j2len") = some (.ref dj))
    (ml : m (Str.ofString "blo") = some (.int blo tl)) (mh : m (Str.ofString "bhi") = some (.int bhi th)) (mbi : m (Str.ofString "besti") = some (.int bi t1)) (mbj : m (Str.ofString "bestj") = some (.int bj t2)) (mbs : m (Str.ofString "bestsize") = some (.int bs t3))
    (hla : h₀.IsList la va.toArray) (hI : IntsAre va as) (hlh : alo ≤ ahi) (hi : ahi ≤ as.length) (hi2 : as.length < 2 ^ 24) (hl2 : h₀.MapOf (intKind pw w) l2 fb) (hls : (l2 == sysModules) = false)
    (hb : ∀ c, (fb c = none ∧ idx c = []) ∨ ∃ lx vx, fb c = some (.ref lx) ∧ h₀.IsList lx vx.toArray ∧ IntsAre vx (idx c)) (hbn : ∀ c, (idx c).length < 2 ^ 24)
    (hnl : (nl, W.listOf #[] n) ∈ rest) (hdj : (dj, oj) ∈ rest) (hoj : oj.IsDictOf (intKind pw w) []) (hjs : (dj == sysModules) = false)
    (hQ : ∀ h' tk m' t1 t2 t3 r, r = (Pure.outer (fun i => as.getD i 0) idx blo bhi alo (ahi - alo) (fun _ => 0, (bi, bj, bs))).2 → Fr h₀ L h' m' → News h₀ L h' rest →
      m' (Str.ofString "besti") = some (.int r.1 t1) → m' (Str.ofString "bestj") = some (.int r.2.1 t2) → m' (Str.ofString "bestsize") = some (.int r.2.2 t3) →
      (∀ y, y ≠ Str.ofString "j" → y ≠ Str.ofString "k" → y ≠ Str.ofString "besti" → y ≠ Str.ofString "bestj" → y ≠ Str.ofString "bestsize" → y ≠ Str.ofString "i" → y ≠ Str.ofString "j2len" → y ≠ Str.ofString "newj2len" → y ≠ Str.ofString "j2lenget" → m' y = m y) → Q .next { s with heap := h', toks := tk }) :
    (K w.params).In h₀ → PySem.Challenge.rw_dm0054_12.prog = pw → wpAny (model pw w) (Around.mk none dp fr gu un) (exec flmFor (flmEnv L)) Q (fun _ _ => False) s := by
  k_fill
  intro X' hpw
  refine For_mine h₀ rfl rfl ?_
  k_steps
  rename_i hr F₁ N₁ hk₁
  have N₂ := news_sub N₁ (news' := (dj, oj) :: rest) fun p hp => by
    rcases List.mem_cons.mp hp with rfl | hp
    · exact hdj
    · exact hp
  unfold IterStop
  refine iter_rangeq (OInv w rest m fun i => Pure.outer (fun i => as.getD i 0) idx blo bhi alo (i - alo) (fun _ => 0, (bi, bj, bs))) rfl hr (by lia) F₁ N₂ ?_ hlh ?_ ?_
  · exact ⟨dj, oj, [], t1, t2, t3, fun _ => 0, bi, bj, bs, by rw [Nat.sub_self]; rfl, mj, hoj, Tab.nil, hjs, mbi, mbj, mbs, fun _ _ _ _ _ _ _ _ _ _ => rfl⟩
  · rintro I i t m₁ news₁ h tk oI hlt hai hib ⟨dj', oj', kj, t1', t2', t3', g1, r1, r2, r3, hst, e1, hoj', htab, hjs', b1, b2, b3, hm⟩ hoff F₂ N₃ QB hT
    clear F₁ N₁ N₂ hr
    have c1 := (hm (Str.ofString "blo") (by decide) (by decide) (by decide) (by decide) (by decide) (by decide) (by decide) (by decide) (by decide)).trans ml
    have c2 := (hm (Str.ofString "bhi") (by decide) (by decide) (by decide) (by decide) (by decide) (by decide) (by decide) (by decide) (by decide)).trans mh
    have c3 := (hm (Str.ofString "a") (by decide) (by decide) (by decide) (by decide) (by decide) (by decide) (by decide) (by decide) (by decide)).trans ma
    have c4 := (hm (Str.ofString "b2j") (by decide) (by decide) (by decide) (by decide) (by decide) (by decide) (by decide) (by decide) (by decide)).trans m2
    have c5 := (hm (Str.ofString "nothing") (by decide) (by decide) (by decide) (by decide) (by decide) (by decide) (by decide) (by decide) (by decide)).trans mn
    k_steps
    rename_i q2 _ _ _ _ _ d2 _ o2 lo2 _ _ ho2 _ l1 h₂ F₃ N₄
    have hne := ne_of_allLt (l := (q2, boundB "dict.get" dj') :: (I, oI) :: (dj', oj') :: rest) l1
    unfold ExecStop
    refine flm_inner (i := i) (idx := idx) F₃ N₄ hne X' T' c3 c4 rfl c5 rfl rfl c1 c2 b1 b2 b3 hla hI (by exact (Nat.lt_of_lt_of_le hib hi)) hi2 hl2 hls hb hbn (.tail _ (.tail _ (.tail _ hnl))) (.head _) (.tail _ (.tail _ (.head _))) hoj' htab hjs' ho2 ?_ hpw
    rintro h₃ tk₃ m₃ o3 kv3 t1'' t2'' t3'' ⟨s0, s1, s2, s3⟩ hr F₄ N₅ ho3 htab3 d1 d2' d3 hm3
    have d4 : m₃ (Str.ofString "newj2len") = some (.ref d2) := hm3 (Str.ofString "newj2len") (by decide) (by decide) (by decide) (by decide) (by decide)
    clear F₃ N₄
    dsimp only
    k_steps
    rename_i h₄ F₅ N₆
    have l1' := lt_of_allLt (l := (q2, boundB "dict.get" dj') :: (I, oI) :: (dj', oj') :: rest) l1
    refine hT _ _ (TurnPost.next (news' := (d2, o3) :: rest) F₅ (news_sub N₆ fun p hp => ?_) (fun p hp => ?_) ⟨d2, o3, kv3, t1'', t2'', t3'', s0, s1, s2, s3, ?_, rfl, ho3, htab3, lo2, d1, d2', d3, fun y h1 h2 h3 h4 h5 h6 h7 h8 h9 => ?_⟩)
    · rcases List.mem_cons.mp hp with rfl | hp
      · exact .tail _ (.tail _ (.head _))
      · rcases List.mem_cons.mp hp with rfl | hp
        · exact .head _
        · exact .tail _ (.tail _ (.tail _ (.tail _ hp)))
    · rcases List.mem_cons.mp hp with rfl | hp
      · exact Nat.ne_of_gt (l1' (I, oI) (.tail _ (.head _)))
      · exact hoff p (.tail _ hp)
    · have e : i + 1 - alo = (i - alo) + 1 := by lia
      have e2 : alo + (i - alo) = i := by (clear e l1; lia)
      rw [e, Pure.outer_snoc, e2, ← hst, hr]
    · try dsimp only
      rw [if_neg h7, hm3 y h1 h2 h3 h4 h5, if_neg h8, if_neg h9, if_neg h6]
      exact hm y h1 h2 h3 h4 h5 h6 h7 h8 h9
  · rintro m₁ news₁ h tk ⟨dj', oj', kj, t1', t2', t3', g1, r1, r2, r3, hst, e1, hoj', htab, hjs', b1, b2, b3, hm⟩ F₂ N₃
    exact hQ h tk m₁ t1' t2' t3' (r1, r2, r3) (congrArg Prod.snd hst) F₂ (news_sub N₃ fun p hp => .tail _ hp) b1 b2 b3 hm
end Mine
end
section
open PySem PySem.W PySem.Calls PyProof.Rows
set_option maxRecDepth 100000
set_option maxHeartbeats 4000000
set_option Elab.async false
set_option linter.unusedVariables false
namespace Mine
local macro_rules | `(tactic| walk_at "eval Name") => ln ``ld "k_asm rfl|assumption _" ""
local macro_rules | `(tactic| walk_at "loadName") => ln ``ldn "k_asm rfl|assumption _" ""
local macro_rules | `(tactic| walk_at "callWith ref") => ln ``callWith_bb "News.get+k_asm+m0 _" ""
local macro_rules | `(tactic| walk_at "And") => do ln ``bbat_and "k_asm m0 _" "" false (here := false) (tl := [← apps])
local macro_rules | `(tactic| walk_at "call ref") => ln ``call_in_led "k_asm k_asm assumption assumption _" "tk'" true false
inductive EInv (h₀ : Heap) (L : Addr) (news : List (Addr × Obj)) (m : Str → Option Value) (s : Shared) (E : Nat → Nat → Nat → Prop) (M : Nat → Nat → Nat) (alo ahi blo bhi n : Nat) : Shared → Prop
  | mk (h : Heap) (tk : Tok) (m' : Str → Option Value) (bi bj bz : Nat) (t1 t2 t3 : Tok) : Fr h₀ L h m' → News h₀ L h news → m' (Str.ofString "besti") = some (.int bi t1) → m' (Str.ofString "bestj") = some (.int bj t2) → m' (Str.ofString "bestsize") = some (.int bz t3) →
    (∀ y, y ≠ Str.ofString "besti" → y ≠ Str.ofString "bestj" → y ≠ Str.ofString "bestsize" → m' y = m y) → E bi bj bz → alo ≤ bi → bi + bz ≤ ahi → blo ≤ bj → bj + bz ≤ bhi → n = M bi bz → EInv h₀ L news m s E M alo ahi blo bhi n { s with heap := h, toks := tk }
theorem flm_while1 {w : World} {dp un : Nat} {fr : Option (List Env)} {gu : Option (List Code)} {s : Shared} {h₀ : Heap} {L la lb lj q2 : Addr} {m : Str → Option Value} {news : List (Addr × Obj)}
    {Q : Flow → Shared → Prop} {va vb : List Value} {as bs : List Int} {alo ahi blo bhi bi bj bz n : Nat} {ta tb tl th t1 t2 t3 : Tok} {S : Int → Bool}
    (F : Fr h₀ L s.heap m) (N : News h₀ L s.heap news) (X' : (K w.params).In h₀)
    (ma : m (Str.ofString "a") = some (.ref la)) (mb : m (Str.ofString "b") = some (.ref lb)) (mj : m (Str.ofString "isbjunk") = some (.ref q2)) (mal : m (Str.ofString "alo") = some (.int alo ta)) (mah : m (Str.ofString "ahi") = some (.int ahi tb))
    (ml : m (Str.ofString "blo") = some (.int blo tl)) (mh : m (Str.ofString "bhi") = some (.int bhi th)) (mbi : m (Str.ofString "besti") = some (.int bi t1)) (mbj : m (Str.ofString "bestj") = some (.int bj t2)) (mbs : m (Str.ofString "bestsize") = some (.int bz t3))
    (hla : h₀.IsList la va.toArray) (hI : IntsAre va as) (hlb : h₀.IsList lb vb.toArray) (hIb : IntsAre vb bs) (hq : (q2, boundB "set.__contains__" lj) ∈ news) (hj : h₀.SetOf (intKind pw w) lj S n)
    (ha2 : as.length < 2 ^ 24) (hb2 : bs.length < 2 ^ 24) (hah : ahi ≤ as.length) (hbh : bhi ≤ bs.length) (h1 : alo ≤ bi) (h2 : bi + bz ≤ ahi) (h3 : blo ≤ bj) (h4 : bj + bz ≤ bhi)
    (hQ : ∀ h' tk m' bi' bj' bz' t1 t2 t3, Pure.extL (fun i => as.getD i 0) (fun i => bs.getD i 0) (fun c => !S c) alo blo bi bj bz = (bi', bj', bz') → alo ≤ bi' → bi' + bz' ≤ ahi → blo ≤ bj' → bj' + bz' ≤ bhi → Fr h₀ L h' m' → News h₀ L h' news →
      m' (Str.ofString "besti") = some (.int (bi' : Nat) t1) → m' (Str.ofString "bestj") = some (.int (bj' : Nat) t2) → m' (Str.ofString "bestsize") = some (.int (bz' : Nat) t3) →
      (∀ y, y ≠ Str.ofString "besti" → y ≠ Str.ofString "bestj" → y ≠ Str.ofString "bestsize" → m' y = m y) → Q .next { s with heap := h', toks := tk }) :
    PySem.Challenge.rw_dm0054_12.prog = pw → wpAny (model pw w) (Around.mk none dp fr gu un) (exec (stAt (fnBody (mem 5 6)) 8) (flmEnv L)) Q (fun _ _ => False) s := by
  k_fill
  intro hpw
  refine While_q (EInv h₀ L news m s (fun bi' bj' bz' => Pure.extL (fun i => as.getD i 0) (fun i => bs.getD i 0) (fun c => !S c) alo blo bi bj bz = Pure.extL (fun i => as.getD i 0) (fun i => bs.getD i 0) (fun c => !S c) alo blo bi' bj' bz') (fun bi' bz' => bi') alo ahi blo bhi) ?_ _
    ⟨s.heap, s.toks, m, bi, bj, bz, t1, t2, t3, F, N, mbi, mbj, mbs, fun _ _ _ _ => rfl, rfl, h1, h2, h3, h4, rfl⟩
  rintro n' s' ⟨h, tk, m', bi', bj', bz', t1', t2', t3', F', N', b1, b2, b3, hm, hin, g1, g2, g3, g4, en⟩ QB hN
  have c1 := (hm (Str.ofString "alo") (by decide) (by decide) (by decide)).trans mal
  have c2 := (hm (Str.ofString "ahi") (by decide) (by decide) (by decide)).trans mah
  have c3 := (hm (Str.ofString "blo") (by decide) (by decide) (by decide)).trans ml
  have c4 := (hm (Str.ofString "bhi") (by decide) (by decide) (by decide)).trans mh
  have c5 := (hm (Str.ofString "a") (by decide) (by decide) (by decide)).trans ma
  have c6 := (hm (Str.ofString "b") (by decide) (by decide) (by decide)).trans mb
  have c7 := (hm (Str.ofString "isbjunk") (by decide) (by decide) (by decide)).trans mj
  clear F N
  have tn1 : ((bj' : Int) - 1).toNat = bj' - 1 := by lia
  have tn2 : ((bi' : Int) - 1).toNat = bi' - 1 := by lia
  k_steps
  all_goals first | refine hN _ ?_ | skip
  all_goals first
    | (refine hQ _ _ _ bi' bj' bz' t1' t2' t3' (hin.trans (Pure.extL_stop fun hc => ?_)) g1 g2 g3 g4 F' N' b1 b2 b3 hm
       obtain ⟨e1, e2, e3, e4⟩ := hc
       (try simp only [tn1, tn2] at *)
       first
         | lia
         | (simp_all; done))
    | (have k1 : ((bi' - 1 : Nat) : Int) = (bi' : Int) - 1 := by lia
       have k2 : ((bj' - 1 : Nat) : Int) = (bj' : Int) - 1 := by lia
       have k3 : ((bz' + 1 : Nat) : Int) = (bz' : Int) + 1 := by lia
       refine' ⟨bi' - 1, by (clear tn2 tn1; lia), _, _, _, bi' - 1, bj' - 1, bz' + 1, _, _, _, ?F, ?N, ?m1, ?m2, ?m3, ?hm, ?hin, by lia, by (clear tn2 tn1 en h3 h1 hb2; lia), by lia, by (clear tn2 tn1 en h3 hah ha2; lia), rfl⟩
       case F => assumption
       case N => exact news_sub (by assumption) fun p hp => .tail _ hp
       case hm => intro y h1 h2 h3; simp only [if_neg h1, if_neg h2, if_neg h3]; exact hm y h1 h2 h3
       case m1 => first | exact b1 | (rw [k1]; exact rfl)
       case m2 => first | exact b2 | (rw [k2]; exact rfl)
       case m3 => first | exact b3 | (rw [k3]; exact rfl)
       case hin =>
         (try simp only [tn1, tn2] at *)
         refine hin.trans (Pure.extL_step ⟨?_, ?_, ?_, ?_⟩) <;> (try dsimp only)
         all_goals first
           | omega
           | assumption
           | (simp; assumption))
theorem flm_while2 {w : World} {dp un : Nat} {fr : Option (List Env)} {gu : Option (List Code)} {s : Shared} {h₀ : Heap} {L la lb lj q2 : Addr} {m : Str → Option Value} {news : List (Addr × Obj)}
    {Q : Flow → Shared → Prop} {va vb : List Value} {as bs : List Int} {alo ahi blo bhi bi bj bz n : Nat} {ta tb tl th t1 t2 t3 : Tok} {S : Int → Bool}
    (F : Fr h₀ L s.heap m) (N : News h₀ L s.heap news) (X' : (K w.params).In h₀)
    (ma : m (Str.ofString "a") = some (.ref la)) (mb : m (Str.ofString "b") = some (.ref lb)) (mj : m (Str.ofString "isbjunk") = some (.ref q2)) (mal : m (Str.ofString "alo") = some (.int alo ta)) (mah : m (Str.ofString "ahi") = some (.int ahi tb))
    (ml : m (Str.ofString "blo") = some (.int blo tl)) (mh : m (Str.ofString "bhi") = some (.int bhi th)) (mbi : m (Str.ofString "besti") = some (.int bi t1)) (mbj : m (Str.ofString "bestj") = some (.int bj t2)) (mbs : m (Str.ofString "bestsize") = some (.int bz t3))
    (hla : h₀.IsList la va.toArray) (hI : IntsAre va as) (hlb : h₀.IsList lb vb.toArray) (hIb : IntsAre vb bs) (hq : (q2, boundB "set.__contains__" lj) ∈ news) (hj : h₀.SetOf (intKind pw w) lj S n)
    (ha2 : as.length < 2 ^ 24) (hb2 : bs.length < 2 ^ 24) (hah : ahi ≤ as.length) (hbh : bhi ≤ bs.length) (h1 : alo ≤ bi) (h2 : bi + bz ≤ ahi) (h3 : blo ≤ bj) (h4 : bj + bz ≤ bhi)
    (hQ : ∀ h' tk m' bi' bj' bz' t1 t2 t3, (bi' = bi ∧ bj' = bj ∧ Pure.extR (fun i => as.getD i 0) (fun i => bs.getD i 0) (fun c => !S c) ahi bhi bi bj (ahi - (bi + bz)) bz = bz') → alo ≤ bi' → bi' + bz' ≤ ahi → blo ≤ bj' → bj' + bz' ≤ bhi → Fr h₀ L h' m' → News h₀ L h' news →
      m' (Str.ofString "besti") = some (.int (bi' : Nat) t1) → m' (Str.ofString "bestj") = some (.int (bj' : Nat) t2) → m' (Str.ofString "bestsize") = some (.int (bz' : Nat) t3) →
      (∀ y, y ≠ Str.ofString "besti" → y ≠ Str.ofString "bestj" → y ≠ Str.ofString "bestsize" → m' y = m y) → Q .next { s with heap := h', toks := tk }) :
    PySem.Challenge.rw_dm0054_12.prog = pw → wpAny (model pw w) (Around.mk none dp fr gu un) (exec (stAt (fnBody (mem 5 6)) 9) (flmEnv L)) Q (fun _ _ => False) s := by
  k_fill
  intro hpw
  refine While_q (EInv h₀ L news m s (fun bi' bj' bz' => (bi' = bi ∧ bj' = bj ∧ Pure.extR (fun i => as.getD i 0) (fun i => bs.getD i 0) (fun c => !S c) ahi bhi bi bj (ahi - (bi + bz)) bz = Pure.extR (fun i => as.getD i 0) (fun i => bs.getD i 0) (fun c => !S c) ahi bhi bi bj (ahi - (bi + bz')) bz')) (fun bi' bz' => ahi - (bi + bz')) alo ahi blo bhi) ?_ _
    ⟨s.heap, s.toks, m, bi, bj, bz, t1, t2, t3, F, N, mbi, mbj, mbs, fun _ _ _ _ => rfl, ⟨rfl, rfl, rfl⟩, h1, h2, h3, h4, rfl⟩
  rintro n' s' ⟨h, tk, m', bi', bj', bz', t1', t2', t3', F', N', b1, b2, b3, hm, ⟨rfl, rfl, hin⟩, g1, g2, g3, g4, en⟩ QB hN
  have c1 := (hm (Str.ofString "alo") (by decide) (by decide) (by decide)).trans mal
  have c2 := (hm (Str.ofString "ahi") (by decide) (by decide) (by decide)).trans mah
  have c3 := (hm (Str.ofString "blo") (by decide) (by decide) (by decide)).trans ml
  have c4 := (hm (Str.ofString "bhi") (by decide) (by decide) (by decide)).trans mh
  have c5 := (hm (Str.ofString "a") (by decide) (by decide) (by decide)).trans ma
  have c6 := (hm (Str.ofString "b") (by decide) (by decide) (by decide)).trans mb
  have c7 := (hm (Str.ofString "isbjunk") (by decide) (by decide) (by decide)).trans mj
  clear F N
  have tn1 : ((bj' : Int) + bz').toNat = bj' + bz' := by lia
  have tn2 : ((bi' : Int) + bz').toNat = bi' + bz' := by lia
  k_steps
  all_goals first | refine hN _ ?_ | skip
  all_goals first
    | (refine hQ _ _ _ bi' bj' bz' t1' t2' t3' ⟨rfl, rfl, hin.trans (Pure.extR_stop (fun hc => ?_) _)⟩ g1 g2 g3 g4 F' N' b1 b2 b3 hm
       obtain ⟨e1, e2, e3, e4⟩ := hc
       (try simp only [tn1, tn2] at *)
       first
         | lia
         | (simp_all; done))
    | (have k3 : ((bz' + 1 : Nat) : Int) = (bz' : Int) + 1 := by lia
       refine' ⟨ahi - (bi' + (bz' + 1)), by lia, _, _, _, bi', bj', bz' + 1, _, _, _, ?F, ?N, ?m1, ?m2, ?m3, ?hm, ⟨rfl, rfl, ?hin⟩, by omega, by lia, by omega, by lia, rfl⟩
       case F => assumption
       case N => assumption
       case hm => intro y h1 h2 h3; simp only [if_neg h1, if_neg h2, if_neg h3]; exact hm y h1 h2 h3
       case m1 => first | exact b1 | (rw [k1]; exact rfl)
       case m2 => first | exact b2 | (rw [k2]; exact rfl)
       case m3 => first | exact b3 | (rw [k3]; exact rfl)
       case hin =>
         (try simp only [tn1, tn2] at *)
         refine hin.trans (Pure.extR_step ⟨?_, ?_, ?_, ?_⟩) <;> (try dsimp only)
         all_goals first
           | omega
           | assumption
           | (simp; assumption))
theorem flm_while3 {w : World} {dp un : Nat} {fr : Option (List Env)} {gu : Option (List Code)} {s : Shared} {h₀ : Heap} {L la lb lj q2 : Addr} {m : Str → Option Value} {news : List (Addr × Obj)}
    {Q : Flow → Shared → Prop} {va vb : List Value} {as bs : List Int} {alo ahi blo bhi bi bj bz n : Nat} {ta tb tl th t1 t2 t3 : Tok} {S : Int → Bool}
    (F : Fr h₀ L s.heap m) (N : News h₀ L s.heap news) (X' : (K w.params).In h₀)
    (ma : m (Str.ofString "a") = some (.ref la)) (mb : m (Str.ofString "b") = some (.ref lb)) (mj : m (Str.ofString "isbjunk") = some (.ref q2)) (mal : m (Str.ofString "alo") = some (.int alo ta)) (mah : m (Str.ofString "ahi") = some (.int ahi tb))
    (ml : m (Str.ofString "blo") = some (.int blo tl)) (mh : m (Str.ofString "bhi") = some (.int bhi th)) (mbi : m (Str.ofString "besti") = some (.int bi t1)) (mbj : m (Str.ofString "bestj") = some (.int bj t2)) (mbs : m (Str.ofString "bestsize") = some (.int bz t3))
    (hla : h₀.IsList la va.toArray) (hI : IntsAre va as) (hlb : h₀.IsList lb vb.toArray) (hIb : IntsAre vb bs) (hq : (q2, boundB "set.__contains__" lj) ∈ news) (hj : h₀.SetOf (intKind pw w) lj S n)
    (ha2 : as.length < 2 ^ 24) (hb2 : bs.length < 2 ^ 24) (hah : ahi ≤ as.length) (hbh : bhi ≤ bs.length) (h1 : alo ≤ bi) (h2 : bi + bz ≤ ahi) (h3 : blo ≤ bj) (h4 : bj + bz ≤ bhi)
    (hQ : ∀ h' tk m' bi' bj' bz' t1 t2 t3, Pure.extL (fun i => as.getD i 0) (fun i => bs.getD i 0) S alo blo bi bj bz = (bi', bj', bz') → alo ≤ bi' → bi' + bz' ≤ ahi → blo ≤ bj' → bj' + bz' ≤ bhi → Fr h₀ L h' m' → News h₀ L h' news →
      m' (Str.ofString "besti") = some (.int (bi' : Nat) t1) → m' (Str.ofString "bestj") = some (.int (bj' : Nat) t2) → m' (Str.ofString "bestsize") = some (.int (bz' : Nat) t3) →
      (∀ y, y ≠ Str.ofString "besti" → y ≠ Str.ofString "bestj" → y ≠ Str.ofString "bestsize" → m' y = m y) → Q .next { s with heap := h', toks := tk }) :
    PySem.Challenge.rw_dm0054_12.prog = pw → wpAny (model pw w) (Around.mk none dp fr gu un) (exec (stAt (fnBody (mem 5 6)) 10) (flmEnv L)) Q (fun _ _ => False) s := by
  k_fill
  intro hpw
  refine While_q (EInv h₀ L news m s (fun bi' bj' bz' => Pure.extL (fun i => as.getD i 0) (fun i => bs.getD i 0) S alo blo bi bj bz = Pure.extL (fun i => as.getD i 0) (fun i => bs.getD i 0) S alo blo bi' bj' bz') (fun bi' bz' => bi') alo ahi blo bhi) ?_ _
    ⟨s.heap, s.toks, m, bi, bj, bz, t1, t2, t3, F, N, mbi, mbj, mbs, fun _ _ _ _ => rfl, rfl, h1, h2, h3, h4, rfl⟩
  rintro n' s' ⟨h, tk, m', bi', bj', bz', t1', t2', t3', F', N', b1, b2, b3, hm, hin, g1, g2, g3, g4, en⟩ QB hN
  have c1 := (hm (Str.ofString "alo") (by decide) (by decide) (by decide)).trans mal
  have c2 := (hm (Str.ofString "ahi") (by decide) (by decide) (by decide)).trans mah
  have c3 := (hm (Str.ofString "blo") (by decide) (by decide) (by decide)).trans ml
  have c4 := (hm (Str.ofString "bhi") (by decide) (by decide) (by decide)).trans mh
  have c5 := (hm (Str.ofString "a") (by decide) (by decide) (by decide)).trans ma
  have c6 := (hm (Str.ofString "b") (by decide) (by decide) (by decide)).trans mb
  have c7 := (hm (Str.ofString "isbjunk") (by decide) (by decide) (by decide)).trans mj
  clear F N
  have tn1 : ((bj' : Int) - 1).toNat = bj' - 1 := by lia
  have tn2 : ((bi' : Int) - 1).toNat = bi' - 1 := by lia
  k_steps
  all_goals first | refine hN _ ?_ | skip
  all_goals first
    | (refine hQ _ _ _ bi' bj' bz' t1' t2' t3' (hin.trans (Pure.extL_stop fun hc => ?_)) g1 g2 g3 g4 F' N' b1 b2 b3 hm
       obtain ⟨e1, e2, e3, e4⟩ := hc
       (try simp only [tn1, tn2] at *)
       first
         | lia
         | (simp_all; done))
    | (have k1 : ((bi' - 1 : Nat) : Int) = (bi' : Int) - 1 := by lia
       have k2 : ((bj' - 1 : Nat) : Int) = (bj' : Int) - 1 := by lia
       have k3 : ((bz' + 1 : Nat) : Int) = (bz' : Int) + 1 := by lia
       refine' ⟨bi' - 1, by (clear tn2 tn1; lia), _, _, _, bi' - 1, bj' - 1, bz' + 1, _, _, _, ?F, ?N, ?m1, ?m2, ?m3, ?hm, ?hin, by lia, by (clear tn2 tn1 en h3 h1 hb2; lia), by lia, by (clear tn2 tn1 en h3 hah ha2; lia), rfl⟩
       case F => assumption
       case N => exact news_sub (by assumption) fun p hp => .tail _ hp
       case hm => intro y h1 h2 h3; simp only [if_neg h1, if_neg h2, if_neg h3]; exact hm y h1 h2 h3
       case m1 => first | exact b1 | (rw [k1]; exact rfl)
       case m2 => first | exact b2 | (rw [k2]; exact rfl)
       case m3 => first | exact b3 | (rw [k3]; exact rfl)
       case hin =>
         (try simp only [tn1, tn2] at *)
         refine hin.trans (Pure.extL_step ⟨?_, ?_, ?_, ?_⟩) <;> (try dsimp only)
         all_goals first
           | omega
           | assumption
           | (simp; assumption))
theorem flm_while4 {w : World} {dp un : Nat} {fr : Option (List Env)} {gu : Option (List Code)} {s : Shared} {h₀ : Heap} {L la lb lj q2 : Addr} {m : Str → Option Value} {news : List (Addr × Obj)}
    {Q : Flow → Shared → Prop} {va vb : List Value} {as bs : List Int} {alo ahi blo bhi bi bj bz n : Nat} {ta tb tl th t1 t2 t3 : Tok} {S : Int → Bool}
    (F : Fr h₀ L s.heap m) (N : News h₀ L s.heap news) (X' : (K w.params).In h₀)
    (ma : m (Str.ofString "a") = some (.ref la)) (mb : m (Str.ofString "b") = some (.ref lb)) (mj : m (Str.ofString "isbjunk") = some (.ref q2)) (mal : m (Str.ofString "alo") = some (.int alo ta)) (mah : m (Str.ofString "ahi") = some (.int ahi tb))
    (ml : m (Str.ofString "blo") = some (.int blo tl)) (mh : m (Str.ofString "bhi") = some (.int bhi th)) (mbi : m (Str.ofString "besti") = some (.int bi t1)) (mbj : m (Str.ofString "bestj") = some (.int bj t2)) (mbs : m (Str.ofString "bestsize") = some (.int bz t3))
    (hla : h₀.IsList la va.toArray) (hI : IntsAre va as) (hlb : h₀.IsList lb vb.toArray) (hIb : IntsAre vb bs) (hq : (q2, boundB "set.__contains__" lj) ∈ news) (hj : h₀.SetOf (intKind pw w) lj S n)
    (ha2 : as.length < 2 ^ 24) (hb2 : bs.length < 2 ^ 24) (hah : ahi ≤ as.length) (hbh : bhi ≤ bs.length) (h1 : alo ≤ bi) (h2 : bi + bz ≤ ahi) (h3 : blo ≤ bj) (h4 : bj + bz ≤ bhi)
    (hQ : ∀ h' tk m' bi' bj' bz' t1 t2 t3, (bi' = bi ∧ bj' = bj ∧ Pure.extR (fun i => as.getD i 0) (fun i => bs.getD i 0) S ahi bhi bi bj (ahi - (bi + bz)) bz = bz') → alo ≤ bi' → bi' + bz' ≤ ahi → blo ≤ bj' → bj' + bz' ≤ bhi → Fr h₀ L h' m' → News h₀ L h' news →
      m' (Str.ofString "besti") = some (.int (bi' : Nat) t1) → m' (Str.ofString "bestj") = some (.int (bj' : Nat) t2) → m' (Str.ofString "bestsize") = some (.int (bz' : Nat) t3) →
      (∀ y, y ≠ Str.ofString "besti" → y ≠ Str.ofString "bestj" → y ≠ Str.ofString "bestsize" → m' y = m y) → Q .next { s with heap := h', toks := tk }) :
    PySem.Challenge.rw_dm0054_12.prog = pw → wpAny (model pw w) (Around.mk none dp fr gu un) (exec (stAt (fnBody (mem 5 6)) 11) (flmEnv L)) Q (fun _ _ => False) s := by
  k_fill
  intro hpw
  refine While_q (EInv h₀ L news m s (fun bi' bj' bz' => (bi' = bi ∧ bj' = bj ∧ Pure.extR (fun i => as.getD i 0) (fun i => bs.getD i 0) S ahi bhi bi bj (ahi - (bi + bz)) bz = Pure.extR (fun i => as.getD i 0) (fun i => bs.getD i 0) S ahi bhi bi bj (ahi - (bi + bz')) bz')) (fun bi' bz' => ahi - (bi + bz')) alo ahi blo bhi) ?_ _
    ⟨s.heap, s.toks, m, bi, bj, bz, t1, t2, t3, F, N, mbi, mbj, mbs, fun _ _ _ _ => rfl, ⟨rfl, rfl, rfl⟩, h1, h2, h3, h4, rfl⟩
  rintro n' s' ⟨h, tk, m', bi', bj', bz', t1', t2', t3', F', N', b1, b2, b3, hm, ⟨rfl, rfl, hin⟩, g1, g2, g3, g4, en⟩ QB hN
  have c1 := (hm (Str.ofString "alo") (by decide) (by decide) (by decide)).trans mal
  have c2 := (hm (Str.ofString "ahi") (by decide) (by decide) (by decide)).trans mah
  have c3 := (hm (Str.ofString "blo") (by decide) (by decide) (by decide)).trans ml
  have c4 := (hm (Str.ofString "bhi") (by decide) (by decide) (by decide)).trans mh
  have c5 := (hm (Str.ofString "a") (by decide) (by decide) (by decide)).trans ma
  have c6 := (hm (Str.ofString "b") (by decide) (by decide) (by decide)).trans mb
  have c7 := (hm (Str.ofString "isbjunk") (by decide) (by decide) (by decide)).trans mj
  clear F N
  have tn1 : ((bj' : Int) + bz').toNat = bj' + bz' := by lia
  have tn2 : ((bi' : Int) + bz').toNat = bi' + bz' := by lia
  k_steps
  all_goals first | refine hN _ ?_ | skip
  all_goals first
    | (refine hQ _ _ _ bi' bj' bz' t1' t2' t3' ⟨rfl, rfl, hin.trans (Pure.extR_stop (fun hc => ?_) _)⟩ g1 g2 g3 g4 F' N' b1 b2 b3 hm
       obtain ⟨e1, e2, e3, e4⟩ := hc
       (try simp only [tn1, tn2] at *)
       first
         | lia
         | (simp_all; done))
    | (have k3 : ((bz' + 1 : Nat) : Int) = (bz' : Int) + 1 := by lia
       refine' ⟨ahi - (bi' + (bz' + 1)), by lia, _, _, _, bi', bj', bz' + 1, _, _, _, ?F, ?N, ?m1, ?m2, ?m3, ?hm, ⟨rfl, rfl, ?hin⟩, by omega, by lia, by omega, by lia, rfl⟩
       case F => assumption
       case N => assumption
       case hm => intro y h1 h2 h3; simp only [if_neg h1, if_neg h2, if_neg h3]; exact hm y h1 h2 h3
       case m1 => first | exact b1 | (rw [k1]; exact rfl)
       case m2 => first | exact b2 | (rw [k2]; exact rfl)
       case m3 => first | exact b3 | (rw [k3]; exact rfl)
       case hin =>
         (try simp only [tn1, tn2] at *)
         refine hin.trans (Pure.extR_step ⟨?_, ?_, ?_, ?_⟩) <;> (try dsimp only)
         all_goals first
           | omega
           | assumption
           | (simp; assumption))
end Mine
end
section
open PySem PySem.W PySem.Calls PyProof.Rows
set_option maxRecDepth 100000
set_option maxHeartbeats 4000000
set_option Elab.async false
set_option linter.unusedVariables false
namespace Mine
theorem k135_in (P : Params) : (K P).lookup 135 = some (k135 P) := by kernel_rfl!
noncomputable abbrev k135d : ClassData := { name := "Match", bases := [(.type "tuple")], mro := [(.ref 135), (.type "tuple"), (.type "object")], ns := 134, qualname := "Match", hasDict := false, slotNames := [], subclasses := [], abstract := false, collection := none, hasDel := false }
section
variable {P : Params} {h : Heap} {M : Model}
theorem c135 (X : (K P).In h) : h.get? 135 = some ⟨.type "type", none, .cls k135d, #[(some (.ref 65)), none, (some (.str "Match" 253)), (some (.str "Match" 261)), (some .none), (some (.bool false))]⟩ := X _ _ (k135_in P)
theorem made135 (X : (K P).In h) : Looks M h (Bind.madeBy (.ref 135)) none := by
  have ho := c135 X
  have hm : Looks M h (mroOf (.ref 135)) k135d.mro := ((Looks.ld (part := none) ho).andThen .now).andThen .now
  intro A Q E s k q
  unfold Bind.madeBy
  refine wpAny_bind (hm A _ E s k ?_)
  rw [List.forIn_cons]
  refine wpAny_bind (wpAny_bind (wpAny_bind (wpAny_bind (wpAny_loadPart (k _ _ ho) (wpAny_pure ?_)))))
  exact wpAny_pure (wpAny_pure (wpAny_pure q))
theorem madeTup : Looks M h (Bind.madeBy (.type "tuple")) (some "tuple.__new__") := Looks.of_pure (by kernel_rfl)
theorem best135 : Looks M h (Builtin.Slots.bestBase [.type "tuple"]) (.type "tuple") := by
  exact Looks.of_pure (by kernel_rfl)
theorem base135 (X : (K P).In h) : Looks M h (Bind.staticBase (.ref 135)) (.type "tuple") := by
  have ho := c135 X
  have hm : Looks M h (mroOf (.ref 135)) k135d.mro := ((Looks.ld (part := none) ho).andThen .now).andThen .now
  have hc : Looks M h (classData 135) k135d := (Looks.ld (part := none) ho).andThen .now
  intro A Q E s k q
  unfold Bind.staticBase
  refine wpAny_bind (hm A _ E s k ?_)
  rw [List.forIn_cons]
  refine wpAny_bind (wpAny_bind (wpAny_bind ((made135 X) A _ E s k ?_)))
  dsimp only [Option.isSome]
  refine wpAny_bind (hc A _ E s k (wpAny_bind (best135 A _ E s k (wpAny_pure ?_))))
  dsimp only
  rw [List.forIn_cons]
  refine wpAny_bind (wpAny_bind (madeTup A _ E s k ?_))
  dsimp only
  exact wpAny_pure (wpAny_pure (wpAny_pure q))
theorem isT135 (X : (K P).In h) : Looks M h (isType (.ref 135)) true := by
  have ho := c135 X
  exact (Looks.ld (part := none) ho).andThen .now
theorem subTup135 (X : (K P).In h) : Looks M h (isSubtype (.ref 135) (.type "tuple")) true := looks_subIn X (by kernel_rfl!)
theorem init135 (X : (K P).In h) : Looks M h (typeLookup (.ref 135) "__init__") (some (.builtin "object.__init__")) := looks_findIn X (by kernel_rfl!)
theorem here135 (X : (K P).In h) : Looks M h (Bind.madeHere "tuple.__new__" (.ref 135)) () :=
  (base135 X).andThen (madeTup.andThen (Looks.of_pure (by simp only [Option.map_some, bne_self_eq_false, Bool.false_eq_true, if_false])))
end
theorem tn_kind : builtinKind "tuple.__new__" = some .builtinFn := by decide +kernel
theorem tn_split : splitId "tuple.__new__" = some ("tuple", "__new__") := by decide +kernel
noncomputable def sigTn : Manifest.Signature := (Manifest.signature? "tuple.__new__").getD ⟨.hand, "", "", .none, []⟩
theorem tn_sig : Manifest.signature? "tuple.__new__" = some sigTn := by kernel_rfl
theorem tn_args (a b : Value) : Bind.checkArgs "tuple.__new__" sigTn ⟨[a, b], []⟩ = pure () := by kernel_rfl
noncomputable abbrev matchObj (dx : Addr) (vs : Array Value) : Obj := { cls := .ref 135, dict := some dx, data := .seq vs 0 }
section
variable {P : Params} {prog : Program} {w : World} {A : Around} {h : Heap} {g : Array GenState} {d : Drawn} {t : Nat} {os : OsState}
theorem tn_call {tp : Addr} {its : Array Value} {n : Nat} {od : Option Addr} {sl : Array (Option Value)} {R : Result → Shared → Prop} (X : (K P).In h) (ht : h.get? tp = some ⟨.type "tuple", od, .seq its n, sl⟩) (hz : its.size ≤ sizeLine)
    (hq : ∀ h', Kept h h' → R (.ok (.ret (.ref (h'.objs.size + 1)))) ⟨(h'.push emptyDict).push (matchObj h'.objs.size its), g, d, t, os⟩) :
    codeAny (model prog w) A (.call (.builtin "tuple.__new__") ⟨[.ref 135, .ref tp], []⟩) R ⟨h, g, d, t, os⟩ := by
  have a1 := isT135 (M := model prog w) X
  have a2 := subTup135 (M := model prog w) X
  have a3 := base135 (M := model prog w) X
  have a4 := madeTup (M := model prog w) (h := h)
  have a5 := here135 (M := model prog w) X
  have a6 := init135 (M := model prog w) X
  refine codeAny_call_builtin_code (Code.quiet_builtin _ (by decide +kernel)) ?_
  simp only [checkBuiltinCall, tn_kind, tn_split, tn_sig]
  rw [tn_args]
  repeat (first | simp only [bne_self_eq_false, Bool.false_eq_true, if_false, Bool.not_true] | lk)
  refine codeAny_builtin F.entry_tuple_new ?_
  unfold Builtin.«tuple.__new__»
  repeat (first | simp only [bne_self_eq_false, Bool.false_eq_true, if_false, Bool.not_true] | (with_reducible refine wpAny_collect_seq tp (.inr rfl) ht rfl rfl (fun h' hk => ?_) hz) | lk)
  rw [List.size_toArray, Array.length_toList, if_neg (Nat.not_lt.mpr hz)]
  have hC := hk _ _ (c135 X)
  repeat (first | lk)
  refine nd_load (Heap.get?_push_of_some _ (Heap.get?_push_of_some _ hC)) ?_
  have := hq h' hk
  rw [← Heap.size_push h' emptyDict] at this
  exact wpAny_pure (wpAny_pure (wpAny_pure (wpAny_pure this)))
theorem call135 (X : (K P).In h) : Looks (model prog w) h (specialOf (.ref 135) "__call__") (some (.builtin "type.__call__")) := looks_specialIn X (by kernel_rfl!)
theorem typ135 (X : (K P).In h) : Looks (model prog w) h (isInstance (.ref 135) (.type "type")) true := looks_instIn X (by kernel_rfl!)
theorem self135 (X : (K P).In h) : Looks (model prog w) h (isSubtype (.ref 135) (.ref 135)) true := looks_subIn X (by kernel_rfl!)
theorem obj135 (X : (K P).In h) : Looks (model prog w) h (isSubtype (.ref 135) (.type "object")) true := looks_subIn X (by kernel_rfl!)
theorem oi_args4 (a b c e : Value) : argsOk "object.__init__" ⟨[a, b, c, e], []⟩ := by unfold argsOk; kernel_rfl
theorem make135 {v1 v2 v3 : Value} {R : Result → Shared → Prop} (X : (K P).In h)
    (hg : ∀ (A' : Around) (Q : Value → Shared → Prop) (E : Value → Shared → Prop), (∀ tk, Q (.ref 82) ⟨h, g, d, tk, os⟩) → wpAny (model prog w) A' (getAttr (.ref 135) "__new__") Q E ⟨h, g, d, t, os⟩)
    (hq : ∀ tk, codeAny (model prog w) (A.under (.builtin "type.__call__" ⟨[.ref 135, v1, v2, v3], []⟩)) (.call (.ref 82) ⟨[.ref 135, v1, v2, v3], []⟩) (fun r s' => match r with
      | .ok (.ret (.ref x)) => (∃ dx vs, Kept h s'.heap ∧ s'.heap.get? x = some (matchObj dx vs)) ∧ R (.ok (.ret (.ref x))) s'
      | .ok _ => False
      | .error _ => False) ⟨h, g, d, tk, os⟩) :
    codeAny (model prog w) A (.call (.ref 135) ⟨[v1, v2, v3], []⟩) R ⟨h, g, d, t, os⟩ := by
  have hC := c135 X
  have call := call135 (prog := prog) (w := w) X
  have typ := typ135 (prog := prog) (w := w) X
  have made := made135 (M := model prog w) X
  refine codeAny_of_tree ?_
  show wpAny _ _ (callAny (.ref 135) _) _ _ _
  refine nd_load hC ?_
  show wpAny _ _ (callAny.viaDunder (.ref 135) _) _ _ _
  unfold callAny.viaDunder
  refine wpAny_bind (call.at ?_)
  dsimp only
  rw [tc_bind]
  refine wpAny_bind (wpAny_pure (wpAny_bind (wpAny_pure ?_)))
  refine wpAny_pure (a := PySem.Fin.again (.call (.builtin "type.__call__") ⟨[.ref 135, v1, v2, v3], []⟩)) (And.intro rfl ?_)
  refine codeAny_call_builtin_at (Code.quiet_builtin _ (by decide +kernel)) entry_typeCall (check_slot tc_kind tc_split typ (tc_args _ _ _) ?_)
  unfold Builtin.«type.__call__»
  have hm : Looks (model prog w) h (mroOf (.ref 135)) k135d.mro := ((Looks.ld (part := none) hC).andThen .now).andThen .now
  repeat (first | simp only [List.isEmpty, Bool.false_eq_true, if_false] | (with_reducible refine hg _ _ _ fun tk => ?_) | with_reducible refine wpAny_call ?_ | lk)
  refine codeAny_mono (hq tk) fun r s' z => ?_
  rcases r with e | (_ | _ | _ | v) <;> first | exact z.elim | skip
  cases v <;> first | exact z.elim | skip
  rename_i x
  obtain ⟨⟨dx, vs, kk, hx⟩, z⟩ := z
  obtain ⟨hh, g', d', t', os'⟩ := s'
  dsimp only at kk hx z
  have t1 : Looks (model prog w) hh (typeOf (.ref x)) (.ref 135) := (Looks.ld hx).andThen .now
  have s1 := (self135 (prog := prog) (w := w) X).keeps kk
  have i1 := (init135 (M := model prog w) X).keeps kk
  have b1 : Looks (model prog w) hh (bindSpecial (.builtin "object.__init__") (.ref x)) (.builtin "object.__init__", [.ref x]) := Looks.of_pure (oi_bind _)
  have t2 : Looks (model prog w) hh (isInstance (.ref x) (.type "object")) true := t1.andThen ((obj135 (prog := prog) (w := w) X).keeps kk)
  unfold isInstance callSpecial? specialOf
  repeat (first | with_reducible refine wpAny_call ?_ | lk)
  refine codeAny_call_builtin oi_plain entry_oi (@check_slot (model prog w) _ _ _ "object.__init__" "object" "__init__" (.ref x) [v1, v2, v3] [] _ oi_kind oi_split t2 (oi_args4 _ _ _ _) ?_)
  unfold Builtin.«object.__init__»
  have made' := made.keeps kk
  repeat (first | simp only [List.isEmpty, Bool.false_eq_true, if_false, bne_self_eq_false, Bool.not_false, Bool.true_or, if_true] | lk)
  exact z
end
theorem tn_callN {w : World} {prog : Program} {A : Around} {E : Value → Shared → Prop} {s : Shared} {h₀ : Heap} {L tp : Addr} {m : Str → Option Value} {news : List (Addr × Obj)} {its : Array Value} {Q : Value → Shared → Prop} {P : Params} (F : Fr h₀ L s.heap m) (N : News h₀ L s.heap news) (X : (K P).In h₀)
    (ht : (tp, (⟨.type "tuple", none, .seq its 0, #[]⟩ : Obj)) ∈ news) (hz : its.size ≤ sizeLine)
    (h : ∀ x dx h', Fr h₀ L h' m → News h₀ L h' ((x, matchObj dx its) :: news) → (∀ p ∈ news, p.1 < x) → Q (.ref x) { s with heap := h' }) :
    wpAny (model prog w) A (call (.builtin "tuple.__new__") [.ref 135, .ref tp] []) Q E s := by
  obtain ⟨hh, g, d, t, os⟩ := s
  refine wpAny_call (tn_call (X.keeps F.keep) (N _ ht).1 hz fun h' hk => ?_)
  dsimp only at F N hk
  have F1 : Fr h₀ L h' m := ⟨F.ns.keeps hk, fun b o e => hk _ _ (F.keep b o e), F.above⟩
  have N1 : News h₀ L h' news := fun p hp => ⟨hk _ _ (N p hp).1, (N p hp).2⟩
  have N2 := (N1.push F1 emptyDict).push (F1.push _) (matchObj h'.objs.size its)
  rw [Heap.size_push] at N2
  exact h _ _ _ ((F1.push _).push _) (fun p hp => N2 p (by
    rcases List.mem_cons.mp hp with rfl | hp
    · exact .head _
    · exact .tail _ (.tail _ hp))) fun p hp => Nat.lt_succ_of_lt (Heap.lt_size (N1 p hp).1)
end Mine
end
section
open PySem PySem.W PySem.Calls PyProof.Rows
set_option maxRecDepth 100000
set_option maxHeartbeats 4000000
set_option Elab.async false
set_option linter.unusedVariables false
namespace Mine
theorem new_at (P : Params) : (K P).lookup 82 = some ⟨.type "function", none, .func (fnAt 3 4 "Match.__new__" .none (docV (mem 3 4) 283) (.ref 81)), #[]⟩ := by kernel_rfl!
theorem new_code (P : Params) : codeIn (K P) (.ref 81) "Match.__new__" = true := by kernel_rfl!
theorem new_bind (c v1 v2 v3 : Value) : bindArgs (fnAt 3 4 "Match.__new__" .none (docV (mem 3 4) 283) (.ref 81)) ⟨[c, v1, v2, v3], []⟩ = pure [(Str.ofString "_cls", c), (Str.ofString "a", v1), (Str.ofString "b", v2), (Str.ofString "size", v3)] := by kernel_rfl!
theorem new_loc (c v1 v2 v3 : Value) : ([(Str.ofString "_cls", c), (Str.ofString "a", v1), (Str.ofString "b", v2), (Str.ofString "size", v3)].all fun x => decide ((fnScope (mem 3 4)).names.lookup x.1 = some .local)) = true := by kernel_rfl!
local macro_rules | `(tactic| walk_at "call builtin:tuple.__new__") => ln ``tn_callN "k_asm k_asm k_asm k_mem size_fits|decK _" "x' dx' h' F' N' l1" true false
theorem meta_tuple : typeOf (.type "tuple") = pure (.type "type") := by kernel_rfl
theorem tn_val (P : Params) : findCls (K P) (.type "tuple") (.type "type") "__new__" = some (.val (.builtin "tuple.__new__")) := by kernel_rfl!
local macro_rules | `(tactic| walk_at "getMethod type:tuple") => ln ``method_type "k_asm k_asm meta_tuple decK tn_val+_ k_handed _" "" false
theorem new_ok {w : World} {mg mb : Str → Option Value} {means : ExcName → Option Value} {dp un : Nat} {fr : Option (List Env)} {gu : Option (List Code)} {s : Shared} {base : Heap} {R : Result → Shared → Prop} {v1 v2 v3 : Value}
    (T : Top q (looseW q loose) means mg mb base) (kb : Kept base s.heap) (hroom : dp < recursionLimit)
    (hR : ∀ x dx h' tk, Kept s.heap h' → s.heap.get? x = none → h'.get? x = some (matchObj dx #[v1, v2, v3]) → R (.ok (.ret (.ref x))) { s with heap := h', toks := tk }) :
    (K w.params).In base → PySem.Challenge.rw_dm0054_12.prog = pw → codeAny (model pw w) (Around.mk none dp fr gu un) (.call (.ref 82) ⟨[.ref 135, v1, v2, v3], []⟩) R s := by
  k_fill
  intro X₀ _
  refine enter [] X₀ T kb (fun _ h => nomatch h) hroom (new_at _) (new_code _) (.of_eq (new_bind _ _ _ _)) (locs (new_loc _ _ _ _)) ?_ (by kernel_rfl!) (by kernel_rfl!) (by kernel_rfl!) (by decide +kernel)
  intro L h₁ X' T' F' k₁ hL
  have N' : News (hideAll s.heap []) L h₁ [] := News.nil
  dsimp only [hideAll] at X' T' F' N'
  k_steps
  rename_i F₂ N₂ _
  exact hR _ _ _ _ F₂.keep (N₂ _ (.head _)).2.2 (N₂ _ (.head _)).1
theorem weight_make (v1 v2 v3 : Value) : (Code.builtin "type.__call__" ⟨[.ref 135, v1, v2, v3], []⟩).weight = 1 := by kernel_rfl
theorem new_meta (P : Params) : typeIn (K P) (.ref 135) = some (.type "type") := by kernel_rfl!
theorem new_reads (P : Params) : readsIn (K P) 135 (.type "type") = true := by kernel_rfl!
theorem new_find (P : Params) : findCls (K P) (.ref 135) (.type "type") "__new__" = some (.get (.builtin "staticmethod.__get__") (.ref 136) .none (.ref 135)) := by kernel_rfl!
theorem new_rec (P : Params) : recIn (K P) 136 "staticmethod" = some [.ref 82] := by kernel_rfl!
theorem match_call {w : World} {mg mb : Str → Option Value} {means : ExcName → Option Value} {dp un : Nat} {fr : Option (List Env)} {gu : Option (List Code)} {s : Shared} {h₀ : Heap} {L : Addr} {m : Str → Option Value} {news : List (Addr × Obj)} {E : Value → Shared → Prop} {Q : Value → Shared → Prop} {v1 v2 v3 : Value}
    (F : Fr h₀ L s.heap m) (N : News h₀ L s.heap news) (X : (K w.params).In h₀) (T : Top q (looseW q loose) means mg mb h₀) (hroom : dp + 1 < recursionLimit)
    (h : ∀ x dx h' tk, Fr h₀ L h' m → News h₀ L h' ((x, matchObj dx #[v1, v2, v3]) :: news) → (∀ p ∈ news, p.1 ≠ x) → Q (.ref x) { s with heap := h', toks := tk }) :
    wpAny (model pw w) (Around.mk none dp fr gu un) (call (.ref 135) [v1, v2, v3] []) Q E s := by
  obtain ⟨hh, g, d, t, os⟩ := s
  dsimp only at F N
  have hrec := new_rec w.params
  refine wpAny_call (make135 (X.keeps F.keep) (fun A' Q' E' hq' => cls_sm F X (new_meta _) (new_reads _) (new_find _) hrec rfl (hq' _)) fun tk => ?_)
  refine new_ok (base := h₀) T F.keep (by show dp + Code.weight _ < _; rw [weight_make]; exact hroom) (fun x dx h' tk' hk hx hn => ?_) X rfl
  dsimp only at hk hx hn ⊢
  have F1 : Fr h₀ L h' m := ⟨F.ns.keeps hk, fun b o e => hk _ _ (F.keep b o e), F.above⟩
  refine ⟨⟨dx, _, hk, hn⟩, h x dx h' tk' F1 (fun p hp => ?_) fun p hp e => ?_⟩
  · rcases List.mem_cons.mp hp with rfl | hp
    · refine ⟨hn, fun e => ?_, ?_⟩
      · have := F.ns.lt
        obtain ⟨oL, _, _, hL, _⟩ := F.ns
        dsimp only at e
        rw [e, hL] at hx; cases hx
      · cases q : h₀.get? x with
        | none => rfl
        | some o => rw [F.keep _ _ q] at hx; cases hx
    · exact ⟨hk _ _ (N p hp).1, (N p hp).2⟩
  · rw [← e, (N p hp).1] at hx; cases hx
end Mine
end
section
namespace Pure
noncomputable def GB (blo bhi : Int) (n : Nat) (g : Int → Int) : Prop := ∀ j, 0 ≤ g j ∧ g j ≤ n ∧ (0 < g j → blo ≤ j ∧ j < bhi ∧ g j ≤ j - blo + 1)
noncomputable def BB (alo blo bhi : Int) (n : Nat) (b : Int × Int × Int) : Prop := alo ≤ b.1 ∧ b.1 + b.2.2 ≤ alo + n ∧ blo ≤ b.2.1 ∧ b.2.1 + b.2.2 ≤ bhi ∧ 0 ≤ b.2.2
theorem inner_bounds {g : Int → Int} {alo blo bhi : Int} {n : Nat} (hg : GB blo bhi n g) : ∀ (js : List Int) (st : (Int → Int) × (Int × Int × Int)), GB blo bhi (n + 1) st.1 → BB alo blo bhi (n + 1) st.2 →
    GB blo bhi (n + 1) (inner g blo bhi (alo + n) js st).1 ∧ BB alo blo bhi (n + 1) (inner g blo bhi (alo + n) js st).2
  | [], st, h1, h2 => ⟨h1, h2⟩
  | j :: r, st, h1, h2 => by
    rw [inner]
    by_cases hj : j < blo
    · rw [if_pos hj]; exact inner_bounds hg r st h1 h2
    · rw [if_neg hj]
      by_cases hh : bhi ≤ j
      · rw [if_pos hh]; exact ⟨h1, h2⟩
      · rw [if_neg hh]
        have hk := hg (j - 1)
        refine inner_bounds hg r _ (fun x => ?_) ?_
        · dsimp only
          by_cases hx : x = j
          · rw [if_pos hx]; subst hx; omega
          · rw [if_neg hx]; exact h1 x
        · dsimp only
          by_cases hb : st.2.2.2 < g (j - 1) + 1
          · rw [if_pos hb]; unfold BB; dsimp only; (clear hb; omega)
          · rw [if_neg hb]; exact h2
theorem outer_bounds (a : Nat → Int) (idx : Int → List Int) {alo blo bhi : Nat} (hb : blo ≤ bhi) : ∀ n : Nat,
    GB blo bhi n (outer a idx blo bhi alo n (fun _ => 0, ((alo : Int), (blo : Int), (0 : Int)))).1 ∧ BB alo blo bhi n (outer a idx blo bhi alo n (fun _ => 0, ((alo : Int), (blo : Int), (0 : Int)))).2
  | 0 => by
    refine ⟨fun j => ?_, ?_⟩
    · simp [outer]
    · unfold BB outer; dsimp only; lia
  | n + 1 => by
    obtain ⟨h1, h2⟩ := outer_bounds a idx hb n (alo := alo)
    rw [outer_snoc]
    have e : ((alo + n : Nat) : Int) = (alo : Int) + n := by lia
    rw [e]
    refine inner_bounds h1 _ _ (fun j => ?_) ?_
    · dsimp only; lia
    · unfold BB at h2 ⊢; dsimp only; (clear hb; omega)
theorem outer_nat (a : Nat → Int) (idx : Int → List Int) {alo ahi blo bhi : Nat} (hb : blo ≤ bhi) (ha : alo ≤ ahi) : ∃ i j k : Nat, (outer a idx blo bhi alo (ahi - alo) (fun _ => 0, ((alo : Int), (blo : Int), (0 : Int)))).2 = ((i : Int), (j : Int), (k : Int)) ∧ alo ≤ i ∧ i + k ≤ ahi ∧ blo ≤ j ∧ j + k ≤ bhi := by
  obtain ⟨_, h⟩ := outer_bounds a idx hb (ahi - alo) (alo := alo)
  revert h
  generalize (outer a idx blo bhi alo (ahi - alo) (fun _ => 0, ((alo : Int), (blo : Int), (0 : Int)))).2 = b
  obtain ⟨x, y, z⟩ := b
  unfold BB
  intro h
  dsimp only at h
  refine ⟨x.toNat, y.toNat, z.toNat, ?_, by (clear hb; omega), by (clear hb; omega), by (clear ha; omega), by (clear ha hb; omega)⟩
  rw [Int.toNat_of_nonneg (by (clear ha hb; omega)), Int.toNat_of_nonneg (by lia), Int.toNat_of_nonneg (by exact h.2.2.2.2)]
noncomputable def flm (a b : Nat → Int) (idx : Int → List Int) (S : Int → Bool) (alo ahi blo bhi : Nat) : Nat × Nat × Nat :=
  let r := (outer a idx blo bhi alo (ahi - alo) (fun _ => 0, ((alo : Int), (blo : Int), (0 : Int)))).2
  let r1 := extL a b (fun c => !S c) alo blo r.1.toNat r.2.1.toNat r.2.2.toNat
  let k2 := extR a b (fun c => !S c) ahi bhi r1.1 r1.2.1 (ahi - (r1.1 + r1.2.2)) r1.2.2
  let r3 := extL a b S alo blo r1.1 r1.2.1 k2
  (r3.1, r3.2.1, extR a b S ahi bhi r3.1 r3.2.1 (ahi - (r3.1 + r3.2.2)) r3.2.2)
end Pure
end
section
open PySem PySem.W PySem.Calls PyProof.Rows
set_option maxRecDepth 100000
set_option maxHeartbeats 4000000
set_option Elab.async false
set_option linter.unusedVariables false
namespace Mine
inductive SmR (w : World) (h : Heap) (dx la lb : Addr) (idx : Int → List Int) (S : Int → Bool) (d : Obj) : Prop
  | mk (ts : Nat → Tok) (ij aj mbk oc fb : Value) (l2 lj lp : Addr) (f : Int → Option Value) (n : Nat) : d = selfD w.params ts ij (.ref la) (.ref lb) aj mbk oc fb (.ref l2) (.ref lj) (.ref lp) → h.MapOf (intKind pw w) l2 f → (l2 == sysModules) = false →
    (∀ c, (f c = none ∧ idx c = []) ∨ ∃ lx vx, f c = some (.ref lx) ∧ h.IsList lx vx.toArray ∧ IntsAre vx (idx c)) → h.SetOf (intKind pw w) lj S n → l2 ≠ dx → SmR w h dx la lb idx S d
structure Sm (w : World) (h : Heap) (x dx la lb : Addr) (as bs : List Int) (idx : Int → List Int) (S : Int → Bool) (d : Obj) : Prop where
  inst : h.get? x = some (instObj 242 dx)
  dict : h.get? dx = some d
  lA : ∃ va, h.IsList la va.toArray ∧ IntsAre va as
  lB : ∃ vb, h.IsList lb vb.toArray ∧ IntsAre vb bs
  rest : SmR w h dx la lb idx S d
  na : as.length < 2 ^ 24
  nb : bs.length < 2 ^ 24
  ni : ∀ c, (idx c).length < 2 ^ 24
local macro_rules | `(tactic| k_inst) => prem "inst_keeps+k_asm+m0"
local macro_rules | `(tactic| walk_at "getAttr ref") => ln ``sc_attrN "k_asm k_asm Fr.keep+k_asm+_+_+m0 _" "q' h' F' N' l1!" (sh := meth ``PySem.getAttr "__contains__")
local macro_rules | `(tactic| walk_at "exec For Name Call cons nil") => stop ``exec_stop
local macro_rules | `(tactic| walk_at "exec While") => stop ``exec_stop
local macro_rules | `(tactic| walk_at "eval Name") => ln ``ld "k_asm rfl|assumption _" ""
local macro_rules | `(tactic| walk_at "call ref") => ln ``match_call "k_asm k_asm k_asm k_asm assumption _" "x' dx' h' tk' F' N' l1" true false (sh := calls 135)
theorem flm_ok {w : World} {mg mb : Str → Option Value} {means : ExcName → Option Value} {dp un : Nat} {fr : Option (List Env)} {gu : Option (List Code)} {s : Shared} {base : Heap} {x dx la lb : Addr} {R : Result → Shared → Prop} {as bs : List Int} {idx : Int → List Int} {S : Int → Bool} {d : Obj} {alo ahi blo bhi : Nat} {u1 u2 u3 u4 : Tok}
    (T : Top q (looseW q loose) means mg mb base) (kb : Kept base s.heap) (sm : Sm w s.heap x dx la lb as bs idx S d) (h1 : alo ≤ ahi) (h2 : ahi ≤ as.length) (h3 : blo ≤ bhi) (h4 : bhi ≤ bs.length) (hroom : dp + 5 < recursionLimit)
    (hR : ∀ h' tk y dy i j k t1 t2 t3, Pure.flm (fun i => as.getD i 0) (fun i => bs.getD i 0) idx S alo ahi blo bhi = (i, j, k) → alo ≤ i → i + k ≤ ahi → blo ≤ j → j + k ≤ bhi → Kept s.heap h' → s.heap.get? y = none → h'.get? y = some (matchObj dy #[.int (i : Nat) t1, .int (j : Nat) t2, .int (k : Nat) t3]) → R (.ok (.ret (.ref y))) { s with heap := h', toks := tk }) :
    (K w.params).In base → PySem.Challenge.rw_dm0054_12.prog = pw → codeAny (model pw w) (Around.mk none dp fr gu un) (.call (.ref 196) ⟨[.ref x, .int alo u1, .int ahi u2, .int blo u3, .int bhi u4], []⟩) R s := by
  obtain ⟨hx, hdx, ⟨va, hla, hIa⟩, ⟨vb, hlb, hIb⟩, ⟨ts, ij, aj, mbk, oc, fb, l2, lj, lp, f, n, rfl, hl2, hls, hb, hS, _⟩, na, nb, ni⟩ := sm
  obtain ⟨bi, bj, bz, e0, b1, b2, b3, b4⟩ := Pure.outer_nat (fun i => as.getD i 0) idx h3 h1
  obtain ⟨oj, es, en, est, hj, ⟨c1, c2, c3⟩, c4, hS'⟩ := id hS
  obtain ⟨oc1, oc2, oc3, oc4⟩ := oj
  dsimp only at c1 c2 c3 c4
  subst c1 c2 c3 c4
  have hroom2 : dp + 1 + 1 < recursionLimit := by omega
  k_fill
  intro X₀ hpw
  refine enter [] X₀ T kb (fun _ h => nomatch h) (by show dp < _; omega) (flm_at _) (flm_code _) (flm_binds (X₀.keeps kb) _ _ _ _ _) (locs (flm_loc _ _ _ _ _)) ?_ (by kernel_rfl!) (by kernel_rfl!) (by kernel_rfl!) (by decide +kernel)
  intro L h₁ X' T' F' k₁ hL
  have N' : News (hideAll s.heap []) L h₁ [] := News.nil
  dsimp only [hideAll] at X' T' F' N'
  have I' : InstAt s.heap x (instObj 242 dx) 242 (some (selfD w.params ts ij (.ref la) (.ref lb) aj mbk oc fb (.ref l2) (.ref lj) (.ref lp))) := ⟨hx, rfl, rfl, hdx⟩
  k_steps
  rename Fr _ _ _ _ => F₂
  rename News _ _ _ _ => N₂
  rename Obj.IsDictOf (intKind _ _) _ _ => ho
  unfold ExecStop
  refine flm_outer (alo := alo) (ahi := ahi) F₂ N₂ T' rfl rfl rfl rfl rfl rfl rfl rfl rfl rfl rfl hla hIa h1 h2 na hl2 hls hb ni (.head _) (.tail _ (.head _)) ho (by assumption) ?_ X' hpw
  rintro h₂ tk₂ m₂ t1 t2 t3 r er F₃ N₃ m1 m2 m3 hm
  rw [e0] at er
  subst er
  clear F₂ N₂
  have d1 : m₂ (Str.ofString "a") = some (.ref la) := hm (Str.ofString "a") (by decide) (by decide) (by decide) (by decide) (by decide) (by decide) (by decide) (by decide) (by decide)
  have d2 : m₂ (Str.ofString "b") = some (.ref lb) := hm (Str.ofString "b") (by decide) (by decide) (by decide) (by decide) (by decide) (by decide) (by decide) (by decide) (by decide)
  have d3 := hm (Str.ofString "isbjunk") (by decide) (by decide) (by decide) (by decide) (by decide) (by decide) (by decide) (by decide) (by decide)
  have d4 : m₂ (Str.ofString "alo") = some (.int alo u1) := hm (Str.ofString "alo") (by decide) (by decide) (by decide) (by decide) (by decide) (by decide) (by decide) (by decide) (by decide)
  have d5 : m₂ (Str.ofString "ahi") = some (.int ahi u2) := hm (Str.ofString "ahi") (by decide) (by decide) (by decide) (by decide) (by decide) (by decide) (by decide) (by decide) (by decide)
  have d6 : m₂ (Str.ofString "blo") = some (.int blo u3) := hm (Str.ofString "blo") (by decide) (by decide) (by decide) (by decide) (by decide) (by decide) (by decide) (by decide) (by decide)
  have d7 : m₂ (Str.ofString "bhi") = some (.int bhi u4) := hm (Str.ofString "bhi") (by decide) (by decide) (by decide) (by decide) (by decide) (by decide) (by decide) (by decide) (by decide)
  clear hm
  dsimp only
  k_steps
  unfold ExecStop
  refine flm_while1 (alo := alo) (ahi := ahi) (blo := blo) (bhi := bhi) F₃ N₃ X' d1 d2 d3 d4 d5 d6 d7 m1 m2 m3 hla hIa hlb hIb (.tail _ (.tail _ (.tail _ (.tail _ (.head _))))) hS na nb h2 h4 b1 b2 b3 b4 ?_ hpw
  rintro hh1 tk1 mm1 p1_0 p1_1 p1_2 _ _ _ e1 g1_0 g1_1 g1_2 g1_3 F4 N4 n1_0 n1_1 n1_2 hm
  have d1_1 := (hm (Str.ofString "a") (by decide) (by decide) (by decide)).trans d1
  have d1_2 := (hm (Str.ofString "b") (by decide) (by decide) (by decide)).trans d2
  have d1_3 := (hm (Str.ofString "isbjunk") (by decide) (by decide) (by decide)).trans d3
  have d1_4 := (hm (Str.ofString "alo") (by decide) (by decide) (by decide)).trans d4
  have d1_5 := (hm (Str.ofString "ahi") (by decide) (by decide) (by decide)).trans d5
  have d1_6 := (hm (Str.ofString "blo") (by decide) (by decide) (by decide)).trans d6
  have d1_7 := (hm (Str.ofString "bhi") (by decide) (by decide) (by decide)).trans d7
  clear hm F₃ N₃ d1 d2 d3 d4 d5 d6 d7 m1 m2 m3
  dsimp only
  k_steps
  unfold ExecStop
  refine flm_while2 (alo := alo) (ahi := ahi) (blo := blo) (bhi := bhi) F4 N4 X' d1_1 d1_2 d1_3 d1_4 d1_5 d1_6 d1_7 n1_0 n1_1 n1_2 hla hIa hlb hIb (.tail _ (.tail _ (.tail _ (.tail _ (.head _))))) hS na nb h2 h4 g1_0 g1_1 g1_2 g1_3 ?_ hpw
  rintro hh2 tk2 mm2 p2_0 p2_1 p2_2 _ _ _ e2 g2_0 g2_1 g2_2 g2_3 F5 N5 n2_0 n2_1 n2_2 hm
  have d2_1 := (hm (Str.ofString "a") (by decide) (by decide) (by decide)).trans d1_1
  have d2_2 := (hm (Str.ofString "b") (by decide) (by decide) (by decide)).trans d1_2
  have d2_3 := (hm (Str.ofString "isbjunk") (by decide) (by decide) (by decide)).trans d1_3
  have d2_4 := (hm (Str.ofString "alo") (by decide) (by decide) (by decide)).trans d1_4
  have d2_5 := (hm (Str.ofString "ahi") (by decide) (by decide) (by decide)).trans d1_5
  have d2_6 := (hm (Str.ofString "blo") (by decide) (by decide) (by decide)).trans d1_6
  have d2_7 := (hm (Str.ofString "bhi") (by decide) (by decide) (by decide)).trans d1_7
  clear hm F4 N4 d1_1 d1_2 d1_3 d1_4 d1_5 d1_6 d1_7 n1_0 n1_1 n1_2
  dsimp only
  k_steps
  unfold ExecStop
  refine flm_while3 (alo := alo) (ahi := ahi) (blo := blo) (bhi := bhi) F5 N5 X' d2_1 d2_2 d2_3 d2_4 d2_5 d2_6 d2_7 n2_0 n2_1 n2_2 hla hIa hlb hIb (.tail _ (.tail _ (.tail _ (.tail _ (.head _))))) hS na nb h2 h4 g2_0 g2_1 g2_2 g2_3 ?_ hpw
  rintro hh3 tk3 mm3 p3_0 p3_1 p3_2 _ _ _ e3 g3_0 g3_1 g3_2 g3_3 F6 N6 n3_0 n3_1 n3_2 hm
  have d3_1 := (hm (Str.ofString "a") (by decide) (by decide) (by decide)).trans d2_1
  have d3_2 := (hm (Str.ofString "b") (by decide) (by decide) (by decide)).trans d2_2
  have d3_3 := (hm (Str.ofString "isbjunk") (by decide) (by decide) (by decide)).trans d2_3
  have d3_4 := (hm (Str.ofString "alo") (by decide) (by decide) (by decide)).trans d2_4
  have d3_5 := (hm (Str.ofString "ahi") (by decide) (by decide) (by decide)).trans d2_5
  have d3_6 := (hm (Str.ofString "blo") (by decide) (by decide) (by decide)).trans d2_6
  have d3_7 := (hm (Str.ofString "bhi") (by decide) (by decide) (by decide)).trans d2_7
  clear hm F5 N5 d2_1 d2_2 d2_3 d2_4 d2_5 d2_6 d2_7 n2_0 n2_1 n2_2
  dsimp only
  k_steps
  unfold ExecStop
  refine flm_while4 (alo := alo) (ahi := ahi) (blo := blo) (bhi := bhi) F6 N6 X' d3_1 d3_2 d3_3 d3_4 d3_5 d3_6 d3_7 n3_0 n3_1 n3_2 hla hIa hlb hIb (.tail _ (.tail _ (.tail _ (.tail _ (.head _))))) hS na nb h2 h4 g3_0 g3_1 g3_2 g3_3 ?_ hpw
  rintro hh4 tk4 mm4 p4_0 p4_1 p4_2 _ _ _ e4 g4_0 g4_1 g4_2 g4_3 F7 N7 n4_0 n4_1 n4_2 hm
  have d4_1 := (hm (Str.ofString "a") (by decide) (by decide) (by decide)).trans d3_1
  have d4_2 := (hm (Str.ofString "b") (by decide) (by decide) (by decide)).trans d3_2
  have d4_3 := (hm (Str.ofString "isbjunk") (by decide) (by decide) (by decide)).trans d3_3
  have d4_4 := (hm (Str.ofString "alo") (by decide) (by decide) (by decide)).trans d3_4
  have d4_5 := (hm (Str.ofString "ahi") (by decide) (by decide) (by decide)).trans d3_5
  have d4_6 := (hm (Str.ofString "blo") (by decide) (by decide) (by decide)).trans d3_6
  have d4_7 := (hm (Str.ofString "bhi") (by decide) (by decide) (by decide)).trans d3_7
  clear hm F6 N6 d3_1 d3_2 d3_3 d3_4 d3_5 d3_6 d3_7 n3_0 n3_1 n3_2
  dsimp only
  k_steps
  rename Fr _ _ _ _ => F₉
  rename News _ _ _ _ => N₉
  obtain ⟨rfl, rfl, e2⟩ := e2
  obtain ⟨rfl, rfl, e4⟩ := e4
  refine hR _ _ _ _ p4_0 p4_1 p4_2 _ _ _ ?_ g4_0 g4_1 g4_2 g4_3 F₉.keep (N₉ _ (.head _)).2.2 (N₉ _ (.head _)).1
  unfold Pure.flm
  rw [e0]
  dsimp only
  rw [Int.toNat_natCast, Int.toNat_natCast, Int.toNat_natCast, e1]
  dsimp only
  rw [e2, e3]
  dsimp only
  rw [e4]
end Mine
end
section
open PySem PySem.W PySem.Calls PyProof.Rows
set_option maxRecDepth 100000
set_option maxHeartbeats 4000000
set_option Elab.async false
set_option linter.unusedVariables false
namespace Mine
noncomputable def SeqAt (h : Heap) (t : Addr) (items : Array Value) : Prop := ∃ o n, h.get? t = some o ∧ o.data = .seq items n
theorem SeqAt.extBut {h h' : Heap} {a b : Addr} {items : Array Value} (x : SeqAt h a items) (hs : Heap.ExtBut b h h') (hab : a ≠ b) : SeqAt h' a items := let ⟨o, n, ho, r⟩ := x; ⟨o, n, hs a o hab ho, r⟩
theorem SeqAt.push {h : Heap} {a : Addr} {items : Array Value} (x : SeqAt h a items) (o' : Obj) : SeqAt (h.push o') a items := let ⟨o, n, ho, r⟩ := x; ⟨o, n, Heap.get?_push_of_some _ ho, r⟩
section
variable {prog : Program} {w : World} {A : Around} {E : Value → Shared → Prop} {s : Shared} {P : Params}
theorem nextS_item {it t : Addr} {i : Nat} {items : Array Value} {x : Value} {Q : Option Value → Shared → Prop} (hit : IsTupIter s.heap it t i) (ht : SeqAt s.heap t items) (hx : items[i]? = some x)
    (hQ : ∀ h', IsTupIter h' it t (i + 1) → Heap.SameBut it s.heap h' → Q (some x) { s with heap := h' }) : wpAny (model prog w) A (pyNext (.ref it)) Q E s := by
  obtain ⟨o, ho, hc, hd⟩ := id hit
  obtain ⟨ol, nl, hol, hdl⟩ := ht
  unfold pyNext
  refine wpAny_bind (wpAny_attempt (wpAny_callSpecial?_slot (name := Str.ofString "__next__") hit.typeIs slot_tupleiter_next
    (wpAny_call_entry slot_tupleiter_next hit.typeIs entry_tupleiter_next ?_ (args_tupleiter_next _))))
  show wpAny _ _ (field (.ref it) 0 >>= _) _ _ s
  refine wpAny_bind (wpAny_field ho hd (x := .ref t) rfl ?_)
  show wpAny _ _ (if (Value.ref t == Value.none) = true then _ else _) _ _ s
  rw [if_neg (show ¬ ((Value.ref t == Value.none) = true) from Bool.false_ne_true)]
  show wpAny _ _ (field (.ref it) 1 >>= _) _ _ s
  refine wpAny_bind (wpAny_field ho hd (x := .int i 0) rfl ?_)
  show wpAny _ _ (seqItems? (.ref t) >>= _) _ _ s
  refine wpAny_bind (wpAny_seqItems hol hdl ?_)
  simp only [Int.toNat_natCast, hx]
  refine wpAny_bind (wpAny_setField ho hd (by simp) (wpAny_pure ⟨x, rfl, wpAny_pure (hQ _ ?_ (Heap.SameBut.update ..))⟩))
  exact ⟨_, Heap.get?_update_self _ ho (Obj.isFreed_of_fields (Obj.data_mapFields hd _)), (Obj.cls_mapFields ..).trans hc, by
    rw [Obj.data_mapFields hd]; simp [rawInt]⟩
theorem drawS {it t : Addr} {items : Array Value} (hne : t ≠ it) : ∀ (n i : Nat) (s : Shared) (Q : List Value → Shared → Prop), IsTupIter s.heap it t i → SeqAt s.heap t items → i + n ≤ items.size →
    (∀ h', IsTupIter h' it t (i + n) → Heap.SameBut it s.heap h' → Q ((items.toList.drop i).take n) { s with heap := h' }) → wpAny (model prog w) A (draw (.ref it) n) Q E s
  | 0, i, s, Q, hit, _, _, hQ => by
    show wpAny _ _ (pure []) Q E s
    exact wpAny_pure (by simpa using hQ s.heap hit (Heap.SameBut.refl ..))
  | n + 1, i, s, Q, hit, ht, hle, hQ => by
    have hlt : i < items.size := by lia
    show wpAny _ _ (pyNext (.ref it) >>= _) Q E s
    refine wpAny_bind (nextS_item hit ht (x := items[i]) (by simp [hlt]) fun h₁ hit₁ hs₁ => ?_)
    refine wpAny_bind (wpAny_holding (drawS hne n (i + 1) _ _ hit₁ (ht.extBut hs₁.extBut hne) (by lia) fun h₂ hit₂ hs₂ => wpAny_pure ?_))
    have hd : items.toList.drop i = items[i] :: items.toList.drop (i + 1) := by simp [List.drop_eq_getElem_cons, hlt]
    have := hQ h₂ (by rw [show i + (n + 1) = i + 1 + n by lia]; exact hit₂) (hs₁.trans hs₂)
    rw [hd, List.take_succ_cons] at this
    exact this
theorem iter135 {h : Heap} (X : (K P).In h) : Looks (model prog w) h (typeLookup (.ref 135) "__iter__") (some (.builtin "tuple.__iter__")) := looks_findIn X (by kernel_rfl!)
theorem it_kind : builtinKind "tuple.__iter__" = some .slot := by decide +kernel
theorem it_split : splitId "tuple.__iter__" = some ("tuple", "__iter__") := by decide +kernel
theorem iterM {y dy : Addr} {its : Array Value} {Q : Value → Shared → Prop} (X : (K P).In s.heap) (hy : s.heap.get? y = some (matchObj dy its))
    (hQ : Q (.ref s.heap.objs.size) { s with heap := s.heap.push { cls := .type "tuple_iterator", data := .fields #[.ref y, .int 0 0] } }) :
    wpAny (model prog w) A (pyIter (.ref y)) Q E s := by
  obtain ⟨h, g, d, t, os⟩ := s
  dsimp only at X hy hQ
  have t1 : Looks (model prog w) h (typeOf (.ref y)) (.ref 135) := (Looks.ld hy).andThen .now
  have t2 : Looks (model prog w) h (isInstance (.ref y) (.type "tuple")) true := t1.andThen (subTup135 X)
  have i1 := iter135 (prog := prog) (w := w) X
  have b1 : bindSpecial (.builtin "tuple.__iter__") (.ref y) = pure (.builtin "tuple.__iter__", [.ref y]) := slot_tuple_iter.bind _
  unfold pyIter specialOf callSpecialIfBoundUnlessNone? bindSpecialIfBound? specialOf
  repeat lk
  rw [b1]
  have fin : ∀ (Q' : Value → Shared → Prop) (E' : Value → Shared → Prop), Q' (.ref h.objs.size) ⟨h.push { cls := .type "tuple_iterator", data := .fields #[.ref y, .int 0 0] }, g, d, t, os⟩ → wpAny (model prog w) A (call (.builtin "tuple.__iter__") [.ref y]) Q' E' ⟨h, g, d, t, os⟩ := by
    intro Q' E' hq
    refine wpAny_call (codeAny_call_builtin slot_tuple_iter.plain entry_tuple_iter (check_slot it_kind it_split t2 (args_tuple_iter _) ?_))
    show wpAny _ _ (do ret (← newFields "tuple_iterator" [.ref y, rawInt 0])) _ _ _
    exact wpAny_bind (wpAny_newObj_type (wpAny_pure hq))
  have tail : ∀ (Q' : Option Value → Shared → Prop) (E' : Value → Shared → Prop), Q' (some (.ref h.objs.size)) ⟨h.push { cls := .type "tuple_iterator", data := .fields #[.ref y, .int 0 0] }, g, d, t, os⟩ →
      wpAny (model prog w) A (if (Value.builtin "tuple.__iter__" == Value.none) = true then (do let r ← (do rule "iter.none"; raiseError "TypeError" s!"'{← typeNameOf (.ref y)}' object is not iterable" : Sem Value); pure (some r)) else (do let r ← call (.builtin "tuple.__iter__") [.ref y]; pure (some r))) Q' E' ⟨h, g, d, t, os⟩ := by
    intro Q' E' hq
    rw [if_neg (by decide)]
    exact wpAny_bind (fin _ _ (wpAny_pure hq))
  have t3 : Looks (model prog w) (h.push { cls := .type "tuple_iterator", data := .fields #[.ref y, .int 0 0] }) (typeOf (.ref h.objs.size)) (.type "tuple_iterator") := (Looks.ld (Heap.get?_push_size _ rfl)).andThen .now
  have t4 : Looks (model prog w) (h.push { cls := .type "tuple_iterator", data := .fields #[.ref y, .int 0 0] }) (typeLookup (.type "tuple_iterator") "__next__") (some (.builtin "tuple_iterator.__next__")) := Looks.of_pure slot_tupleiter_next.lookup
  split
  · repeat (first | exact hQ | (with_reducible refine tail _ _ ?_) | lk)
  · refine wpAny_tryCatch ?_
    repeat (first | exact hQ | (with_reducible refine tail _ _ ?_) | lk)
theorem nextS_end {it t : Addr} {i : Nat} {items : Array Value} {Q : Option Value → Shared → Prop} (hh : A.handled = none) (hit : IsTupIter s.heap it t i) (ht : SeqAt s.heap t items) (hx : items[i]? = none)
    (hQ : ∀ h', Heap.ExtBut it s.heap h' → Q none { s with heap := h' }) : wpAny (model prog w) A (pyNext (.ref it)) Q E s := by
  obtain ⟨o, ho, hc, hd⟩ := id hit
  obtain ⟨ol, nl, hol, hdl⟩ := ht
  unfold pyNext
  refine wpAny_bind (wpAny_attempt (wpAny_callSpecial?_slot (name := Str.ofString "__next__") hit.typeIs slot_tupleiter_next
    (wpAny_call_entry slot_tupleiter_next hit.typeIs entry_tupleiter_next ?_ (args_tupleiter_next _))))
  show wpAny _ _ (field (.ref it) 0 >>= _) _ _ s
  refine wpAny_bind (wpAny_field ho hd (x := .ref t) rfl ?_)
  show wpAny _ _ (if (Value.ref t == Value.none) = true then _ else _) _ _ s
  rw [if_neg (show ¬ ((Value.ref t == Value.none) = true) from Bool.false_ne_true)]
  show wpAny _ _ (field (.ref it) 1 >>= _) _ _ s
  refine wpAny_bind (wpAny_field ho hd (x := .int i 0) rfl ?_)
  show wpAny _ _ (seqItems? (.ref t) >>= _) _ _ s
  refine wpAny_bind (wpAny_seqItems hol hdl ?_)
  simp only [Int.toNat_natCast, hx]
  refine wpAny_bind (wpAny_rule (wpAny_bind (wpAny_setField ho hd (by simp) ?_)))
  show wpAny _ _ (newExc (.type "StopIteration") [] >>= _) _ _ _
  refine wpAny_bind ?_
  simp only [newExc, newTuple]
  refine wpAny_bind (wpAny_newObj_type ?_ (by size_fits))
  refine wpAny_bind (m := firstArgMember _ _) (wpAny_of_eq (a := Value.none) (by first | rfl | (simp only [firstArgMember]; rfl)) ?_)
  refine wpAny_newObj_type ?_ (by size_fits)
  simp only [raiseNew]
  refine wpAny_bind (wpAny_handled ?_)
  first | rw [show A.in1.handled = none from hh] | rw [hh]
  refine wpAny_bind (wpAny_pure (wpAny_throw ?_))
  refine wpAny_bind (wpAny_isInstance (T := "StopIteration") (b := true) ⟨_, Heap.get?_push_size _ rfl, rfl⟩ isSubtype_stop ?_)
  exact wpAny_pure (hQ _ (((Heap.SameBut.update ..).extBut.push _).push _))
theorem unpackM {y dy : Addr} {its : Array Value} {Q : List Value → Shared → Prop} (hh : A.handled = none) (X : (K P).In s.heap) (hy : s.heap.get? y = some (matchObj dy its))
    (hQ : ∀ h', Heap.ExtBut s.heap.objs.size s.heap h' → Q its.toList { s with heap := h' }) : wpAny (model prog w) A (unpackItems (.ref y) its.size none) Q E s := by
  have hlt : y ≠ s.heap.objs.size := Nat.ne_of_lt (Heap.lt_size hy)
  have ht : SeqAt s.heap y its := ⟨_, 0, hy, rfl⟩
  have t1 : Looks (model prog w) s.heap (typeOf (.ref y)) (.ref 135) := (Looks.ld hy).andThen .now
  have i1 := iter135 (prog := prog) (w := w) X
  unfold unpackItems
  refine wpAny_bind ?_
  unfold notIterableAtAll specialOf
  refine wpAny_bind (wpAny_bind (t1.here (i1.here ?_)))
  refine wpAny_pure ?_
  simp only [Bool.false_eq_true, if_false]
  refine wpAny_bind (wpAny_holding (iterM X hy ?_))
  refine wpAny_bind (wpAny_holding (drawS hlt its.size 0 _ _ ⟨_, Heap.get?_push_size _ rfl, rfl, rfl⟩ (ht.push _) (by lia) fun h₁ hit₁ hs₁ => ?_))
  have hall : List.take its.size (List.drop 0 its.toList) = its.toList := by
    rw [List.drop_zero]; exact List.take_of_length_le (by simp)
  rw [hall]
  rw [if_neg (by simp)]
  have ht₁ : SeqAt h₁ y its := (ht.push _).extBut hs₁.extBut hlt
  refine wpAny_bind (wpAny_holding (nextS_end hh hit₁ ht₁ (by simp) fun h₂ he₂ => ?_))
  simp only [Option.isSome_none, Bool.false_eq_true, if_false]
  exact wpAny_pure (hQ h₂ fun b o hb e => he₂ b o hb (hs₁.extBut b o hb (Heap.get?_push_of_some _ e)))
end
section
variable {w : World} {A : Around} {E : Value → Shared → Prop} {s : Shared} {h₀ : Heap} {L : Addr} {m : Str → Option Value} {news : List (Addr × Obj)} {P : Params}
theorem assignM {prog : Program} {env : Env} {elts : List Expr} {k : Nat} {pos : Pos} {y dy : Addr} {its : Array Value} {Q : Unit → Shared → Prop} (F : Fr h₀ L s.heap m) (N : News h₀ L s.heap news) (X : (K P).In h₀) (hh : A.handled = none) (hy : s.heap.get? y = some (matchObj dy its))
    (hn : (assignEach elts env).length = its.size) (hstar : (assignEach elts env).findIdx? (·.1) = none)
    (h : ∀ h', Fr h₀ L h' m → News h₀ L h' news → Kept s.heap h' → wpAny (model prog w) A (assignInOrder ((assignEach elts env).map (·.2)) its.toList) Q E { s with heap := h' }) :
    wpAny (model prog w) A (assign (.Tuple elts k pos) env (.ref y)) Q E s := by
  rw [assign_Tuple]
  refine wpAny_bind (wpAny_standAt ?_)
  unfold unpack
  rw [hn, hstar]
  exact wpAny_bind (wpAny_holding (unpackM hh (X.keeps F.keep) hy fun h' he => h h' (F.extBut he (Nat.le_refl _)) (N.extBut he (Nat.le_refl _)) fun b o e => he b o (Nat.ne_of_lt (Heap.lt_size e)) e))
end
end Mine
end
section
namespace Pure
noncomputable abbrev Reg := Nat × Nat × Nat × Nat
noncomputable abbrev Blk := Nat × Nat × Nat
section
variable (f : Nat → Nat → Nat → Nat → Blk)
noncomputable def ro : Nat → Reg → List Blk
  | 0, _ => []
  | n + 1, (alo, ahi, blo, bhi) =>
    let r := f alo ahi blo bhi
    if r.2.2 = 0 then [] else
      (if alo < r.1 ∧ blo < r.2.1 then ro n (alo, r.1, blo, r.2.1) else []) ++ r :: (if r.1 + r.2.2 < ahi ∧ r.2.1 + r.2.2 < bhi then ro n (r.1 + r.2.2, ahi, r.2.1 + r.2.2, bhi) else [])
noncomputable def InReg (f : Nat → Nat → Nat → Nat → Blk) : Prop := ∀ alo ahi blo bhi, alo ≤ ahi → blo ≤ bhi → alo ≤ (f alo ahi blo bhi).1 ∧ (f alo ahi blo bhi).1 + (f alo ahi blo bhi).2.2 ≤ ahi ∧ blo ≤ (f alo ahi blo bhi).2.1 ∧ (f alo ahi blo bhi).2.1 + (f alo ahi blo bhi).2.2 ≤ bhi
noncomputable def roN (r : Reg) : List Blk := ro f (r.2.1 - r.1) r
variable {f}
theorem ro_more (hf : InReg f) : ∀ (n m : Nat) (alo ahi blo bhi : Nat), alo ≤ ahi → blo ≤ bhi → ahi - alo ≤ n → n ≤ m → ro f m (alo, ahi, blo, bhi) = ro f n (alo, ahi, blo, bhi)
  | 0, 0, _, _, _, _, _, _, _, _ => rfl
  | 0, m + 1, alo, ahi, blo, bhi, h1, h2, h3, _ => by
    have h := hf alo ahi blo bhi h1 h2
    rw [ro, ro]
    exact if_pos (by lia)
  | n + 1, m + 1, alo, ahi, blo, bhi, h1, h2, h3, h4 => by
    have h := hf alo ahi blo bhi h1 h2
    rw [ro, ro]
    by_cases hk : (f alo ahi blo bhi).2.2 = 0
    · simp only [if_pos hk]
    · simp only [if_neg hk]
      congr 1
      · by_cases hl : alo < (f alo ahi blo bhi).1 ∧ blo < (f alo ahi blo bhi).2.1
        · rw [if_pos hl, if_pos hl]; exact ro_more hf n m _ _ _ _ (by exact (Nat.le_of_lt hl.1)) (by exact (Nat.le_of_lt hl.2)) (by lia) (by exact (Nat.le_of_succ_le_succ h4))
        · rw [if_neg hl, if_neg hl]
      · congr 1
        by_cases hr : (f alo ahi blo bhi).1 + (f alo ahi blo bhi).2.2 < ahi ∧ (f alo ahi blo bhi).2.1 + (f alo ahi blo bhi).2.2 < bhi
        · rw [if_pos hr, if_pos hr]; exact ro_more hf n m _ _ _ _ (by exact (Nat.le_of_lt hr.1)) (by exact (Nat.le_of_lt hr.2)) (by lia) (by exact (Nat.le_of_succ_le_succ h4))
        · rw [if_neg hr, if_neg hr]
theorem roN_none {alo ahi blo bhi : Nat} (h : (f alo ahi blo bhi).2.2 = 0) : roN f (alo, ahi, blo, bhi) = [] := by
  unfold roN
  dsimp only
  cases ahi - alo with
  | zero => rfl
  | succ n => rw [ro]; exact if_pos h
theorem roN_some (hf : InReg f) {alo ahi blo bhi i j k : Nat} (h1 : alo ≤ ahi) (h2 : blo ≤ bhi) (e : f alo ahi blo bhi = (i, j, k)) (hk : k ≠ 0) :
    roN f (alo, ahi, blo, bhi) = (if alo < i ∧ blo < j then roN f (alo, i, blo, j) else []) ++ (i, j, k) :: (if i + k < ahi ∧ j + k < bhi then roN f (i + k, ahi, j + k, bhi) else []) := by
  have h := hf alo ahi blo bhi h1 h2
  rw [e] at h
  dsimp only at h
  unfold roN
  dsimp only
  obtain ⟨n, hn⟩ : ∃ n, ahi - alo = n + 1 := ⟨ahi - alo - 1, by lia⟩
  rw [hn, ro, e]
  dsimp only
  rw [if_neg hk]
  congr 1
  · by_cases hl : alo < i ∧ blo < j
    · rw [if_pos hl, if_pos hl]; exact ro_more hf _ n _ _ _ _ (by exact (Nat.le_of_lt hl.1)) (by exact (Nat.le_of_lt hl.2)) (Nat.le_refl _) (by (clear hl h2 h1; lia))
    · rw [if_neg hl, if_neg hl]
  · congr 1
    by_cases hr : i + k < ahi ∧ j + k < bhi
    · rw [if_pos hr, if_pos hr]; exact ro_more hf _ n _ _ _ _ (by exact (Nat.le_of_lt hr.1)) (by exact (Nat.le_of_lt hr.2)) (Nat.le_refl _) (by (clear hr h2 h1; lia))
    · rw [if_neg hr, if_neg hr]
end
noncomputable def meas (qs : List Reg) : Nat := (qs.map fun r => 2 * (r.2.1 - r.1) + 1).sum
theorem meas_snoc (qs : List Reg) (r : Reg) : meas (qs ++ [r]) = meas qs + (2 * (r.2.1 - r.1) + 1) := by simp [meas]
theorem len_le_meas : ∀ qs : List Reg, qs.length ≤ meas qs
  | [] => Nat.le_refl _
  | r :: qs => by
    have := len_le_meas qs
    simp only [meas, List.map_cons, List.sum_cons, List.length_cons] at this ⊢
    lia
theorem cut {x1 x2 i k : Nat} (h1 : x1 ≤ i) (h2 : i + k ≤ x2) : (i - x1) + (x2 - (i + k)) + k = x2 - x1 := by
  obtain ⟨a, rfl⟩ := Nat.exists_eq_add_of_le h1
  obtain ⟨b, rfl⟩ := Nat.exists_eq_add_of_le h2
  rw [Nat.add_sub_cancel_left, Nat.add_sub_cancel_left]
  exact (Nat.add_sub_cancel_left (n := x1) (m := a + b + k)).symm.trans (by rw [← Nat.add_assoc, ← Nat.add_assoc, Nat.add_right_comm _ b k])
section
variable {rs : List Reg} {x1 x2 x3 x4 i j k : Nat}
theorem meas_both (hk : k ≠ 0) (h1 : x1 ≤ i) (h2 : i + k ≤ x2) : meas ((rs ++ [(x1, i, x3, j)]) ++ [(i + k, x2, j + k, x4)]) < meas (rs ++ [(x1, x2, x3, x4)]) := by
  rw [meas_snoc, meas_snoc, meas_snoc]
  dsimp only
  rw [← cut h1 h2]
  generalize i - x1 = a
  generalize x2 - (i + k) = b
  generalize meas rs = r
  clear h1 h2
  omega
theorem meas_left (hk : k ≠ 0) (h1 : x1 ≤ i) (h2 : i + k ≤ x2) : meas (rs ++ [(x1, i, x3, j)]) < meas (rs ++ [(x1, x2, x3, x4)]) := by
  refine Nat.lt_of_le_of_lt ?_ (meas_both (j := j) hk h1 h2)
  rw [meas_snoc (rs ++ _)]
  exact Nat.le_add_right _ _
theorem meas_right (hk : k ≠ 0) (h1 : x1 ≤ i) (h2 : i + k ≤ x2) : meas (rs ++ [(i + k, x2, j + k, x4)]) < meas (rs ++ [(x1, x2, x3, x4)]) := by
  refine Nat.lt_of_le_of_lt ?_ (meas_both (j := j) hk h1 h2)
  rw [meas_snoc, meas_snoc, meas_snoc]
  exact Nat.add_le_add_right (Nat.le_add_right _ _) _
theorem meas_none : meas rs < meas (rs ++ [(x1, x2, x3, x4)]) := by
  rw [meas_snoc]
  exact Nat.lt_add_of_pos_right (Nat.succ_pos _)
end
theorem extL_in {a b : Nat → Int} {ok : Int → Bool} {alo blo : Nat} : ∀ (i j k : Nat), alo ≤ i → blo ≤ j → alo ≤ (extL a b ok alo blo i j k).1 ∧ (extL a b ok alo blo i j k).1 + (extL a b ok alo blo i j k).2.2 = i + k ∧ blo ≤ (extL a b ok alo blo i j k).2.1 ∧ (extL a b ok alo blo i j k).2.1 + (extL a b ok alo blo i j k).2.2 = j + k
  | 0, j, k, h1, h2 => by
    unfold extL; dsimp only; lia
  | i + 1, j, k, h1, h2 => by
    rw [extL]
    by_cases h : alo < i + 1 ∧ blo < j ∧ ok (b (j - 1)) = true ∧ a i = b (j - 1)
    · rw [if_pos h]
      have := extL_in (a := a) (b := b) (ok := ok) (alo := alo) (blo := blo) i (j - 1) (k + 1) (by exact (Nat.le_of_lt_succ h.1)) (by (clear h1; omega))
      (clear h1; lia)
    · rw [if_neg h]; dsimp only; lia
theorem extR_in {a b : Nat → Int} {ok : Int → Bool} {ahi bhi i j : Nat} : ∀ (n k : Nat), i + k ≤ ahi → j + k ≤ bhi → k ≤ extR a b ok ahi bhi i j n k ∧ i + extR a b ok ahi bhi i j n k ≤ ahi ∧ j + extR a b ok ahi bhi i j n k ≤ bhi
  | 0, k, h1, h2 => by unfold extR; lia
  | n + 1, k, h1, h2 => by
    rw [extR]
    by_cases h : i + k < ahi ∧ j + k < bhi ∧ ok (b (j + k)) = true ∧ a (i + k) = b (j + k)
    · rw [if_pos h]
      have := extR_in (a := a) (b := b) (ok := ok) (ahi := ahi) (bhi := bhi) (i := i) (j := j) n (k + 1) (by lia) (by lia)
      exact ⟨(Nat.le_of_lt this.1), ⟨this.2.1, this.2.2⟩⟩
    · rw [if_neg h]; lia
theorem flm_in (a b : Nat → Int) (idx : Int → List Int) (S : Int → Bool) : InReg (flm a b idx S) := by
  intro alo ahi blo bhi ha hb
  obtain ⟨i, j, k, e, h1, h2, h3, h4⟩ := outer_nat a idx hb ha
  unfold flm
  rw [e]
  dsimp only
  rw [Int.toNat_natCast, Int.toNat_natCast, Int.toNat_natCast]
  have l1 := extL_in (a := a) (b := b) (ok := fun c => !S c) i j k h1 h3
  generalize extL a b (fun c => !S c) alo blo i j k = r1 at *
  have l2 := extR_in (a := a) (b := b) (ok := fun c => !S c) (ahi := ahi) (bhi := bhi) (i := r1.1) (j := r1.2.1) (ahi - (r1.1 + r1.2.2)) r1.2.2 (by exact (Nat.le_trans (Nat.le_of_eq l1.2.1) h2)) (by exact (Nat.le_trans (Nat.le_of_eq l1.2.2.2) h4))
  generalize extR a b (fun c => !S c) ahi bhi r1.1 r1.2.1 (ahi - (r1.1 + r1.2.2)) r1.2.2 = k2 at *
  have l3 := extL_in (a := a) (b := b) (ok := S) r1.1 r1.2.1 k2 l1.1 l1.2.2.1
  generalize extL a b S alo blo r1.1 r1.2.1 k2 = r3 at *
  have l4 := extR_in (a := a) (b := b) (ok := S) (ahi := ahi) (bhi := bhi) (i := r3.1) (j := r3.2.1) (ahi - (r3.1 + r3.2.2)) r3.2.2 (by exact (Nat.le_trans (Nat.le_of_eq l3.2.1) l2.2.1)) (by exact (Nat.le_trans (Nat.le_of_eq l3.2.2.2) l2.2.2))
  exact ⟨l3.1, ⟨l4.2.1, ⟨l3.2.2.1, l4.2.2⟩⟩⟩
theorem perm_k {α : Type} (bl R l r : List α) (b : α) (total : List α) (h : (bl ++ (R ++ (l ++ b :: r))).Perm total) : ((bl ++ [b]) ++ (R ++ (l ++ r))).Perm total := by
  refine List.Perm.trans ?_ h
  have h1 : (l ++ b :: r).Perm (b :: (l ++ r)) := List.perm_middle
  have h2 : (R ++ (l ++ b :: r)).Perm (b :: (R ++ (l ++ r))) := (h1.append_left R).trans List.perm_middle
  refine List.Perm.symm ((h2.append_left bl).trans ?_)
  simp
section
variable {f : Nat → Nat → Nat → Nat → Blk} {bl total : List Blk} {rs : List Reg} {x1 x2 x3 x4 i j k : Nat}
theorem turn_zero (e : f x1 x2 x3 x4 = (i, j, k)) (hk : k = 0) (hp : (bl ++ (rs ++ [(x1, x2, x3, x4)]).flatMap (roN f)).Perm total) : (bl ++ rs.flatMap (roN f)).Perm total := by
  rw [List.flatMap_append] at hp
  simpa [roN_none (f := f) (by rw [e]; exact hk : (f x1 x2 x3 x4).2.2 = 0)] using hp
theorem turn_both (hf : InReg f) (h1 : x1 ≤ x2) (h2 : x3 ≤ x4) (e : f x1 x2 x3 x4 = (i, j, k)) (hk : k ≠ 0) (hl : x1 < i ∧ x3 < j) (hr : i + k < x2 ∧ j + k < x4) (hp : (bl ++ (rs ++ [(x1, x2, x3, x4)]).flatMap (roN f)).Perm total) :
    ((bl ++ [(i, j, k)]) ++ ((rs ++ [(x1, i, x3, j)]) ++ [(i + k, x2, j + k, x4)]).flatMap (roN f)).Perm total := by
  rw [List.flatMap_append, List.flatMap_singleton, roN_some hf h1 h2 e hk, if_pos hl, if_pos hr] at hp
  have := perm_k _ _ _ _ _ _ hp
  simpa [List.flatMap_append] using this
theorem turn_left (hf : InReg f) (h1 : x1 ≤ x2) (h2 : x3 ≤ x4) (e : f x1 x2 x3 x4 = (i, j, k)) (hk : k ≠ 0) (hl : x1 < i ∧ x3 < j) (hr : ¬ (i + k < x2 ∧ j + k < x4)) (hp : (bl ++ (rs ++ [(x1, x2, x3, x4)]).flatMap (roN f)).Perm total) :
    ((bl ++ [(i, j, k)]) ++ (rs ++ [(x1, i, x3, j)]).flatMap (roN f)).Perm total := by
  rw [List.flatMap_append, List.flatMap_singleton, roN_some hf h1 h2 e hk, if_pos hl, if_neg hr] at hp
  have := perm_k _ _ _ _ _ _ hp
  simpa [List.flatMap_append] using this
theorem turn_right (hf : InReg f) (h1 : x1 ≤ x2) (h2 : x3 ≤ x4) (e : f x1 x2 x3 x4 = (i, j, k)) (hk : k ≠ 0) (hl : ¬ (x1 < i ∧ x3 < j)) (hr : i + k < x2 ∧ j + k < x4) (hp : (bl ++ (rs ++ [(x1, x2, x3, x4)]).flatMap (roN f)).Perm total) :
    ((bl ++ [(i, j, k)]) ++ (rs ++ [(i + k, x2, j + k, x4)]).flatMap (roN f)).Perm total := by
  rw [List.flatMap_append, List.flatMap_singleton, roN_some hf h1 h2 e hk, if_neg hl, if_pos hr] at hp
  have := perm_k _ _ _ _ _ _ hp
  simpa [List.flatMap_append] using this
theorem turn_none (hf : InReg f) (h1 : x1 ≤ x2) (h2 : x3 ≤ x4) (e : f x1 x2 x3 x4 = (i, j, k)) (hk : k ≠ 0) (hl : ¬ (x1 < i ∧ x3 < j)) (hr : ¬ (i + k < x2 ∧ j + k < x4)) (hp : (bl ++ (rs ++ [(x1, x2, x3, x4)]).flatMap (roN f)).Perm total) :
    ((bl ++ [(i, j, k)]) ++ rs.flatMap (roN f)).Perm total := by
  rw [List.flatMap_append, List.flatMap_singleton, roN_some hf h1 h2 e hk, if_neg hl, if_neg hr] at hp
  have := perm_k _ _ _ _ _ _ hp
  simpa [List.flatMap_append] using this
end
end Pure
namespace Pure
noncomputable def joinStep (st : Blk × List Blk) (b : Blk) : Blk × List Blk :=
  if st.1.1 + st.1.2.2 = b.1 ∧ st.1.2.1 + st.1.2.2 = b.2.1 then ((st.1.1, st.1.2.1, st.1.2.2 + b.2.2), st.2)
  else (b, if st.1.2.2 = 0 then st.2 else st.2 ++ [st.1])
noncomputable def joinAll (bl : List Blk) : Blk × List Blk := bl.foldl joinStep ((0, 0, 0), [])
noncomputable def joined (bl : List Blk) (la lb : Nat) : List Blk := (if (joinAll bl).1.2.2 = 0 then (joinAll bl).2 else (joinAll bl).2 ++ [(joinAll bl).1]) ++ [(la, lb, 0)]
end Pure
end
section
open PySem PySem.W PySem.Calls PyProof.Rows
set_option maxRecDepth 100000
set_option maxHeartbeats 4000000
set_option Elab.async false
set_option linter.unusedVariables false
namespace Mine
inductive SmBR (w : World) (h : Heap) (dx : Addr) (idx : Int → List Int) (S : Int → Bool) (l2 lj : Addr) : Prop
  | mk (f : Int → Option Value) (n : Nat) : h.MapOf (intKind pw w) l2 f → (l2 == sysModules) = false → (∀ c, (f c = none ∧ idx c = []) ∨ ∃ lx vx, f c = some (.ref lx) ∧ h.IsList lx vx.toArray ∧ IntsAre vx (idx c)) → h.SetOf (intKind pw w) lj S n → l2 ≠ dx → SmBR w h dx idx S l2 lj
structure SmB (w : World) (h : Heap) (x dx la lb : Addr) (as bs : List Int) (idx : Int → List Int) (S : Int → Bool) (l2 lj : Addr) : Prop where
  inst : h.get? x = some (instObj 242 dx)
  lA : ∃ va, h.IsList la va.toArray ∧ IntsAre va as
  lB : ∃ vb, h.IsList lb vb.toArray ∧ IntsAre vb bs
  rest : SmBR w h dx idx S l2 lj
  na : as.length < 2 ^ 24
  nb : bs.length < 2 ^ 24
  ni : ∀ c, (idx c).length < 2 ^ 24
theorem SmB.keeps {w : World} {h h' : Heap} {x dx la lb l2 lj : Addr} {as bs : List Int} {idx : Int → List Int} {S : Int → Bool} (b : SmB w h x dx la lb as bs idx S l2 lj) (k : Kept h h') : SmB w h' x dx la lb as bs idx S l2 lj := by
  obtain ⟨i, ⟨va, a1, a2⟩, ⟨vb, b1, b2⟩, ⟨f, n, ⟨o, es, ep, ho, r⟩, r2, r3, ⟨o', es', ep', t', ho', r'⟩, r5⟩, na, nb, ni⟩ := b
  refine ⟨k _ _ i, ⟨va, a1.at fun o e => k _ _ e, a2⟩, ⟨vb, b1.at fun o e => k _ _ e, b2⟩, ⟨f, n, ⟨o, es, ep, k _ _ ho, r⟩, r2, fun c => ?_, ⟨o', es', ep', t', k _ _ ho', r'⟩, r5⟩, na, nb, ni⟩
  rcases r3 c with h | ⟨lx, vx, e1, e2, e3⟩
  · exact .inl h
  · exact .inr ⟨lx, vx, e1, e2.at fun o e => k _ _ e, e3⟩
theorem SmB.to {w : World} {h : Heap} {x dx la lb l2 lj : Addr} {as bs : List Int} {idx : Int → List Int} {S : Int → Bool} {ts : Nat → Tok} {ij aj mbk oc fb lp : Value} (b : SmB w h x dx la lb as bs idx S l2 lj)
    (hd : h.get? dx = some (selfD w.params ts ij (.ref la) (.ref lb) aj mbk oc fb (.ref l2) (.ref lj) lp)) (hlp : ∃ a, lp = .ref a) : Sm w h x dx la lb as bs idx S (selfD w.params ts ij (.ref la) (.ref lb) aj mbk oc fb (.ref l2) (.ref lj) lp) := by
  obtain ⟨i, lA, lB, ⟨f, n, r1, r2, r3, r4, r5⟩, na, nb, ni⟩ := b
  obtain ⟨a, rfl⟩ := hlp
  exact ⟨i, hd, lA, lB, ⟨ts, ij, aj, mbk, oc, fb, l2, lj, a, f, n, rfl, r1, r2, r3, r4, r5⟩, na, nb, ni⟩
theorem inst_mix {h₀ h : Heap} {L x dx C : Addr} {m : Str → Option Value} {news : List (Addr × Obj)} {od : Obj} (F : Fr h₀ L h m) (N : News h₀ L h news) (hx : h₀.get? x = some (instObj C dx)) (hd : (dx, od) ∈ news) : InstAt h x (instObj C dx) C (some od) :=
  ⟨F.keep _ _ hx, rfl, rfl, (N _ hd).1⟩
noncomputable abbrev tupObj (vs : Array Value) : Obj := { cls := .type "tuple", data := .seq vs 0 }
inductive Regs (N : List (Addr × Obj)) : List Value → List Pure.Reg → Prop
  | nil : Regs N [] []
  | snoc {vs : List Value} {rs : List Pure.Reg} {a : Addr} {x1 x2 x3 x4 : Nat} {t1 t2 t3 t4 : Tok} : Regs N vs rs → (a, tupObj #[.int x1 t1, .int x2 t2, .int x3 t3, .int x4 t4]) ∈ N → Regs N (vs ++ [.ref a]) (rs ++ [(x1, x2, x3, x4)])
inductive Ms (N : List (Addr × Obj)) : List Value → List Pure.Blk → Prop
  | nil : Ms N [] []
  | snoc {vs : List Value} {rs : List Pure.Blk} {a dy : Addr} {x1 x2 x3 : Nat} {t1 t2 t3 : Tok} : Ms N vs rs → (a, matchObj dy #[.int x1 t1, .int x2 t2, .int x3 t3]) ∈ N → Ms N (vs ++ [.ref a]) (rs ++ [(x1, x2, x3)])
theorem Regs.mono {N N' : List (Addr × Obj)} {vs : List Value} {rs : List Pure.Reg} (h : Regs N vs rs) (hs : ∀ p ∈ N, p ∈ N') : Regs N' vs rs := by
  induction h with
  | nil => exact .nil
  | snoc _ hm ih => exact .snoc ih (hs _ hm)
theorem Ms.mono {N N' : List (Addr × Obj)} {vs : List Value} {rs : List Pure.Blk} (h : Ms N vs rs) (hs : ∀ p ∈ N, p ∈ N') : Ms N' vs rs := by
  induction h with
  | nil => exact .nil
  | snoc _ hm ih => exact .snoc ih (hs _ hm)
theorem Regs.length {N : List (Addr × Obj)} {vs : List Value} {rs : List Pure.Reg} (h : Regs N vs rs) : vs.length = rs.length := by
  induction h with
  | nil => rfl
  | snoc _ _ ih => simp [ih]
theorem Ms.length {N : List (Addr × Obj)} {vs : List Value} {rs : List Pure.Blk} (h : Ms N vs rs) : vs.length = rs.length := by
  induction h with
  | nil => rfl
  | snoc _ _ ih => simp [ih]
noncomputable def AllNe (d : Nat) : List (Addr × Obj) → Prop
  | [] => True
  | p :: r => @Ne Nat p.1 d ∧ AllNe d r
theorem allNe_of {d : Nat} {l : List (Addr × Obj)} (h : ∀ p ∈ l, p.1 ≠ d) : AllNe d l := by
  induction l with
  | nil => trivial
  | cons p r ih => exact ⟨h p (.head _), ih fun q hq => h q (.tail _ hq)⟩
theorem ne_of_allNe {d : Nat} {l : List (Addr × Obj)} (h : AllNe d l) : ∀ p ∈ l, p.1 ≠ d := by
  induction l with
  | nil => intro p hp; cases hp
  | cons x r ih =>
    intro p hp
    rcases List.mem_cons.mp hp with e | hp
    · rw [e]; exact h.1
    · exact ih h.2 p hp
noncomputable abbrev gmbEnv (L : Addr) : Env := envOf (Str.ofString "SequenceMatcher.get_matching_blocks") (fnScope (mem 5 7)) L 203 (Value.ref 202)
theorem flm_callN {w : World} {mg mb : Str → Option Value} {means : ExcName → Option Value} {dp un : Nat} {fr : Option (List Env)} {gu : Option (List Code)} {s : Shared} {h₀ : Heap} {L x dx la lb l2 lj : Addr} {m : Str → Option Value} {news : List (Addr × Obj)} {E : Value → Shared → Prop} {Q : Value → Shared → Prop} {as bs : List Int} {idx : Int → List Int} {S : Int → Bool}
    {ts : Nat → Tok} {ij aj mbk oc fb lp : Value} {alo ahi blo bhi : Nat} {u1 u2 u3 u4 : Tok}
    (F : Fr h₀ L s.heap m) (N : News h₀ L s.heap news) (X : (K w.params).In h₀) (T : Top q (looseW q loose) means mg mb h₀) (sm : SmB w h₀ x dx la lb as bs idx S l2 lj) (hd : (dx, selfD w.params ts ij (.ref la) (.ref lb) aj mbk oc fb (.ref l2) (.ref lj) lp) ∈ news) (hlp : ∃ a, lp = .ref a)
    (h1 : alo ≤ ahi) (h2 : ahi ≤ as.length) (h3 : blo ≤ bhi) (h4 : bhi ≤ bs.length) (hroom : dp + 5 < recursionLimit)
    (h : ∀ h' tk y dy i j k t1 t2 t3, Pure.flm (fun i => as.getD i 0) (fun i => bs.getD i 0) idx S alo ahi blo bhi = (i, j, k) → alo ≤ i → i + k ≤ ahi → blo ≤ j → j + k ≤ bhi → Fr h₀ L h' m → News h₀ L h' ((y, matchObj dy #[.int (i : Nat) t1, .int (j : Nat) t2, .int (k : Nat) t3]) :: news) → AllNe y news → Q (.ref y) { s with heap := h', toks := tk }) :
    wpAny (model pw w) (Around.mk none dp fr gu un) (call (.ref 196) [.ref x, .int alo u1, .int ahi u2, .int blo u3, .int bhi u4] []) Q E s := by
  refine wpAny_call (flm_ok (base := h₀) T F.keep ((sm.keeps F.keep).to (N _ hd).1 hlp) h1 h2 h3 h4 hroom (fun h' tk y dy i j k t1 t2 t3 e g1 g2 g3 g4 hk hx hn => ?_) X rfl)
  have F1 : Fr h₀ L h' m := ⟨F.ns.keeps hk, fun b o e => hk _ _ (F.keep b o e), F.above⟩
  refine h h' tk y dy i j k t1 t2 t3 e g1 g2 g3 g4 F1 (fun p hp => ?_) (allNe_of fun p hp e => ?_)
  · rcases List.mem_cons.mp hp with rfl | hp
    · refine ⟨hn, fun e => ?_, ?_⟩
      · obtain ⟨oL, _, _, hL, _⟩ := F.ns
        dsimp only at e
        rw [e, hL] at hx; cases hx
      · cases q : h₀.get? y with
        | none => rfl
        | some o => rw [F.keep _ _ q] at hx; cases hx
    · exact ⟨hk _ _ (N p hp).1, (N p hp).2⟩
  · rw [← e, (N p hp).1] at hx; cases hx
end Mine
end
section
open PySem PySem.W PySem.Calls PyProof.Rows
set_option maxRecDepth 100000
set_option maxHeartbeats 4000000
set_option Elab.async false
set_option linter.unusedVariables false
namespace Mine
local macro_rules | `(tactic| walk_at "storeName") => ln ``storeU "k_asm k_asm _ rfl rfl" "h' F' N'"
local macro_rules | `(tactic| k_all) => prem "assumption"
local macro_rules | `(tactic| k_inst) => prem "inst_mix+k_asm+k_asm+assumption+k_mem"
local macro_rules | `(tactic| walk_at "eval Name") => ln ``ld "k_asm rfl|assumption _" ""
theorem truthyL {prog : Program} {w : World} {A : Around} {E : Value → Shared → Prop} {s : Shared} {h₀ : Heap} {L l : Addr} {news : List (Addr × Obj)} {items : List Value} {n : Nat} {b : Bool} {Q : Bool → Shared → Prop} (N : News h₀ L s.heap news) (hm : (l, W.listOf items.toArray n) ∈ news) (hz : items.length < 2 ^ 24) (hb : (!items.isEmpty) = b) (h : ∀ tk, Q b { s with toks := tk }) :
    wpAny (model prog w) A (truthy (.ref l)) Q E s := by
  refine wpAny_truthy_list (N.isList hm) (by simp; omega) ?_
  subst hb
  have := h (s.toks + 1 + 1)
  cases items with
  | nil => exact this
  | cons a b => first | exact this | (simp at this ⊢; exact this)
theorem isE_snoc (vs : List Value) (v : Value) : (!(vs ++ [v]).isEmpty) = true := by simp
theorem isE_nil : (!([] : List Value).isEmpty) = false := rfl
local macro_rules | `(tactic| walk_at "truthy ref") => ln ``truthyL "k_asm d1 assumption isE_snoc+_+_|isE_nil _" "tk'" true false
theorem popL {prog : Program} {w : World} {A : Around} {E : Value → Shared → Prop} {s : Shared} {h₀ : Heap} {L D : Addr} {m : Str → Option Value} {news news' : List (Addr × Obj)} {vs : List Value} {v : Value} {n : Nat} {Q : Value → Shared → Prop} (F : Fr h₀ L s.heap m) (N : News h₀ L s.heap news) (U : Upd D (W.listOf (vs ++ [v]).toArray n) (W.listOf vs.toArray (n + 1)) news news') (hz : (vs ++ [v]).length < 2 ^ 24)
    (h : ∀ h', Fr h₀ L h' m → News h₀ L h' news' → Q v { s with heap := h' }) : wpAny (model prog w) A (call (.builtin "list.pop") [.ref D]) Q E s :=
  kl_pop F N (kpa_last _ _) U (by unfold sizeLine; exact Nat.le_of_lt hz) h
local macro_rules | `(tactic| walk_at "call builtin:list.pop") => ln ``popL "k_asm k_asm k_upd assumption _" "h' F' N'"
local macro_rules | `(tactic| walk_at "assign Tuple") => ln ``unpackN_ "k_asm k_asm News.isTup+k_asm+m3 rfl rfl rfl _" "h' F' N'" false
local macro_rules | `(tactic| walk_at "assign Tuple") => ln ``assignM "k_asm k_asm k_asm rfl News.get+k_asm+d0 rfl rfl _" "h' F' N' hk'" false
local macro_rules | `(tactic| walk_at "call ref") => ln ``flm_callN "k_asm k_asm k_asm k_asm assumption k_mem assumption assumption assumption assumption assumption assumption _" "h' tk' y' dy' i' j' k' t1' t2' t3' e' g1' g2' g3' g4' F' N' l1'~"
theorem appendL {prog : Program} {w : World} {A : Around} {E : Value → Shared → Prop} {s : Shared} {h₀ : Heap} {L D : Addr} {m : Str → Option Value} {news news' : List (Addr × Obj)} {vs : List Value} {v : Value} {n : Nat} {Q : Value → Shared → Prop} (F : Fr h₀ L s.heap m) (N : News h₀ L s.heap news) (U : Upd D (W.listOf vs.toArray n) (W.listOf (vs ++ [v]).toArray (n + 1)) news news') (hz : vs.length < 2 ^ 24)
    (h : ∀ h', Fr h₀ L h' m → News h₀ L h' news' → Q .none { s with heap := h' }) : wpAny (model prog w) A (call (.builtin "list.append") [.ref D, v]) Q E s := by
  have e : (vs ++ [v]).toArray = vs.toArray.push v := by simp
  rw [e] at U
  exact append_K F N U h (by unfold sizeLine; rw [List.size_toArray]; exact Nat.le_of_lt hz)
local macro_rules | `(tactic| walk_at "call builtin:list.append") => ln ``appendL "k_asm k_asm k_upd assumption|omega|app1+omega _" "h' F' N'"
inductive GInv (w : World) (h₀ : Heap) (L dx lq lm : Addr) (d : Obj) (as bs : List Int) (f : Nat → Nat → Nat → Nat → Pure.Blk) (total : List Pure.Blk) (tail : List (Addr × Obj)) (m : Str → Option Value) (s : Shared) (n : Nat) : Shared → Prop
  | mk (h : Heap) (tk : Tok) (m' : Str → Option Value) (items ms : List Value) (nq nm : Nat) (tail' : List (Addr × Obj)) (qs : List Pure.Reg) (bl : List Pure.Blk) : Fr h₀ L h m' → News h₀ L h ((dx, d) :: (lq, W.listOf (List.toArray items) nq) :: (lm, W.listOf (List.toArray ms) nm) :: tail') → AllNe dx tail' → AllNe lq tail' → AllNe lm tail' → Regs tail' items qs → Ms tail' ms bl →
    (bl ++ qs.flatMap (Pure.roN f)).Perm total → (∀ r ∈ qs, r.1 ≤ r.2.1 ∧ r.2.1 ≤ as.length ∧ r.2.2.1 ≤ r.2.2.2 ∧ r.2.2.2 ≤ bs.length) → Pure.meas qs < 2 ^ 23 → (∀ p ∈ tail, p ∈ tail') →
    (∀ y, y ≠ Str.ofString "alo" → y ≠ Str.ofString "ahi" → y ≠ Str.ofString "blo" → y ≠ Str.ofString "bhi" → y ≠ Str.ofString "i" → y ≠ Str.ofString "j" → y ≠ Str.ofString "k" → y ≠ Str.ofString "x" → m' y = m y) → n = Pure.meas qs →
    GInv w h₀ L dx lq lm d as bs f total tail m s n { s with heap := h, toks := tk }
theorem allNe_app {d : Nat} {l r : List (Addr × Obj)} (h1 : AllNe d l) (h2 : AllNe d r) : AllNe d (l ++ r) := allNe_of fun p hp => (List.mem_append.mp hp).elim (ne_of_allNe h1 p) (ne_of_allNe h2 p)
theorem ok_snoc {P : Pure.Reg → Prop} {rs : List Pure.Reg} {x : Pure.Reg} (h : ∀ r ∈ rs, P r) (hx : P x) : ∀ r ∈ rs ++ [x], P r := fun r hr => (List.mem_append.mp hr).elim (h r) fun e => List.mem_singleton.mp e ▸ hx
theorem gw_close {w : World} {h₀ h : Heap} {L dx lq lm : Addr} {d : Obj} {as bs : List Int} {f : Nat → Nat → Nat → Nat → Pure.Blk} {total bl : List Pure.Blk} {tail tail' add : List (Addr × Obj)} {m m' : Str → Option Value} {s : Shared} {n tk nq nm : Nat} {items ms : List Value} {qs : List Pure.Reg}
    (F : Fr h₀ L h m') (N : News h₀ L h (add ++ ((dx, d) :: (lq, W.listOf (List.toArray items) nq) :: (lm, W.listOf (List.toArray ms) nm) :: tail'))) (a1 : AllNe dx add) (a2 : AllNe lq add) (a3 : AllNe lm add) (z1 : AllNe dx tail') (z2 : AllNe lq tail') (z3 : AllNe lm tail') (hr : Regs (add ++ tail') items qs) (hm : Ms (add ++ tail') ms bl)
    (hp : (bl ++ qs.flatMap (Pure.roN f)).Perm total) (hok : ∀ r ∈ qs, r.1 ≤ r.2.1 ∧ r.2.1 ≤ as.length ∧ r.2.2.1 ≤ r.2.2.2 ∧ r.2.2.2 ≤ bs.length) (hn : Pure.meas qs < n) (hbig : n < 2 ^ 23) (hsub : ∀ p ∈ tail, p ∈ tail')
    (hmm : ∀ y, y ≠ Str.ofString "alo" → y ≠ Str.ofString "ahi" → y ≠ Str.ofString "blo" → y ≠ Str.ofString "bhi" → y ≠ Str.ofString "i" → y ≠ Str.ofString "j" → y ≠ Str.ofString "k" → y ≠ Str.ofString "x" → m' y = m y) :
    WTurn (GInv w h₀ L dx lq lm d as bs f total tail m s) n { s with heap := h, toks := tk } := by
  refine ⟨Pure.meas qs, hn, h, tk, m', items, ms, nq, nm, add ++ tail', qs, bl, F, news_sub N fun p hp => ?_, allNe_app a1 z1, allNe_app a2 z2, allNe_app a3 z3, hr, hm, hp, hok, Nat.lt_trans hn hbig, fun p hp => List.mem_append_right _ (hsub p hp), hmm, rfl⟩
  simp only [List.mem_cons, List.mem_append] at hp ⊢
  grind
theorem gw_both {w : World} {h₀ h : Heap} {L dx lq lm y dy D1 D2 : Addr} {d : Obj} {as bs : List Int} {f : Nat → Nat → Nat → Nat → Pure.Blk} {total bl : List Pure.Blk} {tail tail' : List (Addr × Obj)} {m m' : Str → Option Value} {s : Shared} {n tk nq nm x1 x2 x3 x4 i j k : Nat} {vs ms : List Value} {rs : List Pure.Reg} {t1 t2 t3 t4 u1 u2 u3 u4 v1 v2 v3 : Tok}
    (e : f x1 x2 x3 x4 = (i, j, k)) (F : Fr h₀ L h m') (N : News h₀ L h ((D2, tupObj #[.int ((i : Int) + k) t1, .int x2 u2, .int ((j : Int) + k) t2, .int x4 u4]) :: (D1, tupObj #[.int x1 u1, .int i t3, .int x3 u3, .int j t4]) :: (y, matchObj dy #[.int i v1, .int j v2, .int k v3]) :: (dx, d) :: (lq, W.listOf ((vs ++ [Value.ref D1]) ++ [Value.ref D2]).toArray nq) :: (lm, W.listOf (ms ++ [Value.ref y]).toArray nm) :: tail')) (hd : @Ne Nat D2 dx ∧ @Ne Nat D2 lq ∧ @Ne Nat D2 lm ∧ @Ne Nat D1 dx ∧ @Ne Nat D1 lq ∧ @Ne Nat D1 lm ∧ @Ne Nat y dx ∧ @Ne Nat y lq ∧ @Ne Nat y lm) (hf : Pure.InReg f) (o1 : x1 ≤ x2) (o2 : x2 ≤ as.length) (o3 : x3 ≤ x4) (o4 : x4 ≤ bs.length) (hk : k ≠ 0) (hc : (x1 < i ∧ x3 < j) ∧ (i + k < x2 ∧ j + k < x4))
    (z1 : AllNe dx tail') (z2 : AllNe lq tail') (z3 : AllNe lm tail') (hr : Regs tail' vs rs) (hm : Ms tail' ms bl) (hp : (bl ++ (rs ++ [(x1, x2, x3, x4)]).flatMap (Pure.roN f)).Perm total) (hok : ∀ r ∈ rs ++ [(x1, x2, x3, x4)], r.1 ≤ r.2.1 ∧ r.2.1 ≤ as.length ∧ r.2.2.1 ≤ r.2.2.2 ∧ r.2.2.2 ≤ bs.length)
    (en : n = Pure.meas (rs ++ [(x1, x2, x3, x4)])) (hbig : Pure.meas (rs ++ [(x1, x2, x3, x4)]) < 2 ^ 23) (hsub : ∀ p ∈ tail, p ∈ tail') (hmm : ∀ y, y ≠ Str.ofString "alo" → y ≠ Str.ofString "ahi" → y ≠ Str.ofString "blo" → y ≠ Str.ofString "bhi" → y ≠ Str.ofString "i" → y ≠ Str.ofString "j" → y ≠ Str.ofString "k" → y ≠ Str.ofString "x" → m' y = m y) :
    WTurn (GInv w h₀ L dx lq lm d as bs f total tail m s) n { s with heap := h, toks := tk } := by
  have hb := hf x1 x2 x3 x4 o1 o3
  rw [e] at hb
  dsimp only at hb
  obtain ⟨p1, p2, p3, p4, p5, p6, p7, p8, p9⟩ := hd
  exact  gw_close (add := [(D2, tupObj #[.int ((i : Int) + k) t1, .int x2 u2, .int ((j : Int) + k) t2, .int x4 u4]), (D1, tupObj #[.int x1 u1, .int i t3, .int x3 u3, .int j t4]), (y, matchObj dy #[.int i v1, .int j v2, .int k v3])]) (qs := (rs ++ [(x1, i, x3, j)]) ++ [(i + k, x2, j + k, x4)]) (bl := bl ++ [(i, j, k)]) F N ⟨p1, p4, p7, trivial⟩ ⟨p2, p5, p8, trivial⟩ ⟨p3, p6, p9, trivial⟩ z1 z2 z3 (.snoc (.snoc (hr.mono fun p hp => List.mem_append_right _ hp) (.tail _ (.head _))) (.head _)) (.snoc (hm.mono fun p hp => List.mem_append_right _ hp) (.tail _ (.tail _ (.head _)))) (Pure.turn_both hf o1 o3 e hk hc.1 hc.2 hp) (ok_snoc (ok_snoc (fun r h => hok r (List.mem_append_left _ h)) (by clear p1 p2 p3 p4 p5 p6 p7 p8 p9 N hok hp hsub; dsimp only; omega)) (by clear p1 p2 p3 p4 p5 p6 p7 p8 p9 N hok hp hsub; dsimp only; omega)) (by clear p1 p2 p3 p4 p5 p6 p7 p8 p9 N hok hp hsub; rw [en, Pure.meas_snoc, Pure.meas_snoc, Pure.meas_snoc]; dsimp only; omega) (by rw [en]; exact hbig) hsub hmm
theorem gw_left {w : World} {h₀ h : Heap} {L dx lq lm y dy D1 : Addr} {d : Obj} {as bs : List Int} {f : Nat → Nat → Nat → Nat → Pure.Blk} {total bl : List Pure.Blk} {tail tail' : List (Addr × Obj)} {m m' : Str → Option Value} {s : Shared} {n tk nq nm x1 x2 x3 x4 i j k : Nat} {vs ms : List Value} {rs : List Pure.Reg} {t3 t4 u1 u3 v1 v2 v3 : Tok}
    (e : f x1 x2 x3 x4 = (i, j, k)) (F : Fr h₀ L h m') (N : News h₀ L h ((D1, tupObj #[.int x1 u1, .int i t3, .int x3 u3, .int j t4]) :: (y, matchObj dy #[.int i v1, .int j v2, .int k v3]) :: (dx, d) :: (lq, W.listOf (vs ++ [Value.ref D1]).toArray nq) :: (lm, W.listOf (ms ++ [Value.ref y]).toArray nm) :: tail')) (hd : @Ne Nat D1 dx ∧ @Ne Nat D1 lq ∧ @Ne Nat D1 lm ∧ @Ne Nat y dx ∧ @Ne Nat y lq ∧ @Ne Nat y lm) (hf : Pure.InReg f) (o1 : x1 ≤ x2) (o2 : x2 ≤ as.length) (o3 : x3 ≤ x4) (o4 : x4 ≤ bs.length) (hk : k ≠ 0) (hc : (x1 < i ∧ x3 < j) ∧ ¬ (i + k < x2 ∧ j + k < x4))
    (z1 : AllNe dx tail') (z2 : AllNe lq tail') (z3 : AllNe lm tail') (hr : Regs tail' vs rs) (hm : Ms tail' ms bl) (hp : (bl ++ (rs ++ [(x1, x2, x3, x4)]).flatMap (Pure.roN f)).Perm total) (hok : ∀ r ∈ rs ++ [(x1, x2, x3, x4)], r.1 ≤ r.2.1 ∧ r.2.1 ≤ as.length ∧ r.2.2.1 ≤ r.2.2.2 ∧ r.2.2.2 ≤ bs.length)
    (en : n = Pure.meas (rs ++ [(x1, x2, x3, x4)])) (hbig : Pure.meas (rs ++ [(x1, x2, x3, x4)]) < 2 ^ 23) (hsub : ∀ p ∈ tail, p ∈ tail') (hmm : ∀ y, y ≠ Str.ofString "alo" → y ≠ Str.ofString "ahi" → y ≠ Str.ofString "blo" → y ≠ Str.ofString "bhi" → y ≠ Str.ofString "i" → y ≠ Str.ofString "j" → y ≠ Str.ofString "k" → y ≠ Str.ofString "x" → m' y = m y) :
    WTurn (GInv w h₀ L dx lq lm d as bs f total tail m s) n { s with heap := h, toks := tk } := by
  have hb := hf x1 x2 x3 x4 o1 o3
  rw [e] at hb
  dsimp only at hb
  obtain ⟨p1, p2, p3, p4, p5, p6⟩ := hd
  exact  gw_close (add := [(D1, tupObj #[.int x1 u1, .int i t3, .int x3 u3, .int j t4]), (y, matchObj dy #[.int i v1, .int j v2, .int k v3])]) (qs := rs ++ [(x1, i, x3, j)]) (bl := bl ++ [(i, j, k)]) F N ⟨p1, p4, trivial⟩ ⟨p2, p5, trivial⟩ ⟨p3, p6, trivial⟩ z1 z2 z3 (.snoc (hr.mono fun p hp => List.mem_append_right _ hp) (.head _)) (.snoc (hm.mono fun p hp => List.mem_append_right _ hp) (.tail _ (.head _))) (Pure.turn_left hf o1 o3 e hk hc.1 hc.2 hp) (ok_snoc (fun r h => hok r (List.mem_append_left _ h)) (by clear p1 p2 p3 p4 p5 p6 N hok hp hsub; dsimp only; omega)) (by clear p1 p2 p3 p4 p5 p6 N hok hp hsub; rw [en, Pure.meas_snoc, Pure.meas_snoc]; dsimp only; omega) (by rw [en]; exact hbig) hsub hmm
theorem gw_right {w : World} {h₀ h : Heap} {L dx lq lm y dy D2 : Addr} {d : Obj} {as bs : List Int} {f : Nat → Nat → Nat → Nat → Pure.Blk} {total bl : List Pure.Blk} {tail tail' : List (Addr × Obj)} {m m' : Str → Option Value} {s : Shared} {n tk nq nm x1 x2 x3 x4 i j k : Nat} {vs ms : List Value} {rs : List Pure.Reg} {t1 t2 u2 u4 v1 v2 v3 : Tok}
    (e : f x1 x2 x3 x4 = (i, j, k)) (F : Fr h₀ L h m') (N : News h₀ L h ((D2, tupObj #[.int ((i : Int) + k) t1, .int x2 u2, .int ((j : Int) + k) t2, .int x4 u4]) :: (y, matchObj dy #[.int i v1, .int j v2, .int k v3]) :: (dx, d) :: (lq, W.listOf (vs ++ [Value.ref D2]).toArray nq) :: (lm, W.listOf (ms ++ [Value.ref y]).toArray nm) :: tail')) (hd : @Ne Nat D2 dx ∧ @Ne Nat D2 lq ∧ @Ne Nat D2 lm ∧ @Ne Nat y dx ∧ @Ne Nat y lq ∧ @Ne Nat y lm) (hf : Pure.InReg f) (o1 : x1 ≤ x2) (o2 : x2 ≤ as.length) (o3 : x3 ≤ x4) (o4 : x4 ≤ bs.length) (hk : k ≠ 0) (hc : ¬ (x1 < i ∧ x3 < j) ∧ (i + k < x2 ∧ j + k < x4))
    (z1 : AllNe dx tail') (z2 : AllNe lq tail') (z3 : AllNe lm tail') (hr : Regs tail' vs rs) (hm : Ms tail' ms bl) (hp : (bl ++ (rs ++ [(x1, x2, x3, x4)]).flatMap (Pure.roN f)).Perm total) (hok : ∀ r ∈ rs ++ [(x1, x2, x3, x4)], r.1 ≤ r.2.1 ∧ r.2.1 ≤ as.length ∧ r.2.2.1 ≤ r.2.2.2 ∧ r.2.2.2 ≤ bs.length)
    (en : n = Pure.meas (rs ++ [(x1, x2, x3, x4)])) (hbig : Pure.meas (rs ++ [(x1, x2, x3, x4)]) < 2 ^ 23) (hsub : ∀ p ∈ tail, p ∈ tail') (hmm : ∀ y, y ≠ Str.ofString "alo" → y ≠ Str.ofString "ahi" → y ≠ Str.ofString "blo" → y ≠ Str.ofString "bhi" → y ≠ Str.ofString "i" → y ≠ Str.ofString "j" → y ≠ Str.ofString "k" → y ≠ Str.ofString "x" → m' y = m y) :
    WTurn (GInv w h₀ L dx lq lm d as bs f total tail m s) n { s with heap := h, toks := tk } := by
  have hb := hf x1 x2 x3 x4 o1 o3
  rw [e] at hb
  dsimp only at hb
  obtain ⟨p1, p2, p3, p4, p5, p6⟩ := hd
  exact  gw_close (add := [(D2, tupObj #[.int ((i : Int) + k) t1, .int x2 u2, .int ((j : Int) + k) t2, .int x4 u4]), (y, matchObj dy #[.int i v1, .int j v2, .int k v3])]) (qs := rs ++ [(i + k, x2, j + k, x4)]) (bl := bl ++ [(i, j, k)]) F N ⟨p1, p4, trivial⟩ ⟨p2, p5, trivial⟩ ⟨p3, p6, trivial⟩ z1 z2 z3 (.snoc (hr.mono fun p hp => List.mem_append_right _ hp) (.head _)) (.snoc (hm.mono fun p hp => List.mem_append_right _ hp) (.tail _ (.head _))) (Pure.turn_right hf o1 o3 e hk hc.1 hc.2 hp) (ok_snoc (fun r h => hok r (List.mem_append_left _ h)) (by clear p1 p2 p3 p4 p5 p6 N hok hp hsub; dsimp only; omega)) (by clear p1 p2 p3 p4 p5 p6 N hok hp hsub; rw [en, Pure.meas_snoc, Pure.meas_snoc]; dsimp only; omega) (by rw [en]; exact hbig) hsub hmm
theorem gw_none {w : World} {h₀ h : Heap} {L dx lq lm y dy  : Addr} {d : Obj} {as bs : List Int} {f : Nat → Nat → Nat → Nat → Pure.Blk} {total bl : List Pure.Blk} {tail tail' : List (Addr × Obj)} {m m' : Str → Option Value} {s : Shared} {n tk nq nm x1 x2 x3 x4 i j k : Nat} {vs ms : List Value} {rs : List Pure.Reg} {v1 v2 v3 : Tok}
    (e : f x1 x2 x3 x4 = (i, j, k)) (F : Fr h₀ L h m') (N : News h₀ L h ((y, matchObj dy #[.int i v1, .int j v2, .int k v3]) :: (dx, d) :: (lq, W.listOf (vs).toArray nq) :: (lm, W.listOf (ms ++ [Value.ref y]).toArray nm) :: tail')) (hd : @Ne Nat y dx ∧ @Ne Nat y lq ∧ @Ne Nat y lm) (hf : Pure.InReg f) (o1 : x1 ≤ x2) (o2 : x2 ≤ as.length) (o3 : x3 ≤ x4) (o4 : x4 ≤ bs.length) (hk : k ≠ 0) (hc : ¬ (x1 < i ∧ x3 < j) ∧ ¬ (i + k < x2 ∧ j + k < x4))
    (z1 : AllNe dx tail') (z2 : AllNe lq tail') (z3 : AllNe lm tail') (hr : Regs tail' vs rs) (hm : Ms tail' ms bl) (hp : (bl ++ (rs ++ [(x1, x2, x3, x4)]).flatMap (Pure.roN f)).Perm total) (hok : ∀ r ∈ rs ++ [(x1, x2, x3, x4)], r.1 ≤ r.2.1 ∧ r.2.1 ≤ as.length ∧ r.2.2.1 ≤ r.2.2.2 ∧ r.2.2.2 ≤ bs.length)
    (en : n = Pure.meas (rs ++ [(x1, x2, x3, x4)])) (hbig : Pure.meas (rs ++ [(x1, x2, x3, x4)]) < 2 ^ 23) (hsub : ∀ p ∈ tail, p ∈ tail') (hmm : ∀ y, y ≠ Str.ofString "alo" → y ≠ Str.ofString "ahi" → y ≠ Str.ofString "blo" → y ≠ Str.ofString "bhi" → y ≠ Str.ofString "i" → y ≠ Str.ofString "j" → y ≠ Str.ofString "k" → y ≠ Str.ofString "x" → m' y = m y) :
    WTurn (GInv w h₀ L dx lq lm d as bs f total tail m s) n { s with heap := h, toks := tk } := by
  have hb := hf x1 x2 x3 x4 o1 o3
  rw [e] at hb
  dsimp only at hb
  obtain ⟨p1, p2, p3⟩ := hd
  exact  gw_close (add := [(y, matchObj dy #[.int i v1, .int j v2, .int k v3])]) (qs := rs) (bl := bl ++ [(i, j, k)]) F N ⟨p1, trivial⟩ ⟨p2, trivial⟩ ⟨p3, trivial⟩ z1 z2 z3 (hr.mono fun p hp => List.mem_append_right _ hp) (.snoc (hm.mono fun p hp => List.mem_append_right _ hp) (.head _)) (Pure.turn_none hf o1 o3 e hk hc.1 hc.2 hp) (fun r h => hok r (List.mem_append_left _ h)) (by clear p1 p2 p3 N hok hp hsub; rw [en, Pure.meas_snoc]; dsimp only; omega) (by rw [en]; exact hbig) hsub hmm
theorem gw_zero {w : World} {h₀ h : Heap} {L dx lq lm y dy  : Addr} {d : Obj} {as bs : List Int} {f : Nat → Nat → Nat → Nat → Pure.Blk} {total bl : List Pure.Blk} {tail tail' : List (Addr × Obj)} {m m' : Str → Option Value} {s : Shared} {n tk nq nm x1 x2 x3 x4 i j k : Nat} {vs ms : List Value} {rs : List Pure.Reg} {v1 v2 v3 : Tok}
    (e : f x1 x2 x3 x4 = (i, j, k)) (F : Fr h₀ L h m') (N : News h₀ L h ((y, matchObj dy #[.int i v1, .int j v2, .int k v3]) :: (dx, d) :: (lq, W.listOf (vs).toArray nq) :: (lm, W.listOf (ms).toArray nm) :: tail')) (hd : @Ne Nat y dx ∧ @Ne Nat y lq ∧ @Ne Nat y lm) (hf : Pure.InReg f) (o1 : x1 ≤ x2) (o2 : x2 ≤ as.length) (o3 : x3 ≤ x4) (o4 : x4 ≤ bs.length) (hk : k = 0) (hc : True)
    (z1 : AllNe dx tail') (z2 : AllNe lq tail') (z3 : AllNe lm tail') (hr : Regs tail' vs rs) (hm : Ms tail' ms bl) (hp : (bl ++ (rs ++ [(x1, x2, x3, x4)]).flatMap (Pure.roN f)).Perm total) (hok : ∀ r ∈ rs ++ [(x1, x2, x3, x4)], r.1 ≤ r.2.1 ∧ r.2.1 ≤ as.length ∧ r.2.2.1 ≤ r.2.2.2 ∧ r.2.2.2 ≤ bs.length)
    (en : n = Pure.meas (rs ++ [(x1, x2, x3, x4)])) (hbig : Pure.meas (rs ++ [(x1, x2, x3, x4)]) < 2 ^ 23) (hsub : ∀ p ∈ tail, p ∈ tail') (hmm : ∀ y, y ≠ Str.ofString "alo" → y ≠ Str.ofString "ahi" → y ≠ Str.ofString "blo" → y ≠ Str.ofString "bhi" → y ≠ Str.ofString "i" → y ≠ Str.ofString "j" → y ≠ Str.ofString "k" → y ≠ Str.ofString "x" → m' y = m y) :
    WTurn (GInv w h₀ L dx lq lm d as bs f total tail m s) n { s with heap := h, toks := tk } := by
  have hb := hf x1 x2 x3 x4 o1 o3
  rw [e] at hb
  dsimp only at hb
  obtain ⟨p1, p2, p3⟩ := hd
  exact  gw_close (add := [(y, matchObj dy #[.int i v1, .int j v2, .int k v3])]) (qs := rs) (bl := bl) F N ⟨p1, trivial⟩ ⟨p2, trivial⟩ ⟨p3, trivial⟩ z1 z2 z3 (hr.mono fun p hp => List.mem_append_right _ hp) (hm.mono fun p hp => List.mem_append_right _ hp) (Pure.turn_zero e hk hp) (fun r h => hok r (List.mem_append_left _ h)) (by clear p1 p2 p3 N hok hp hsub; rw [en, Pure.meas_snoc]; dsimp only; omega) (by rw [en]; exact hbig) hsub hmm
theorem gmb_while {w : World} {mg mb : Str → Option Value} {means : ExcName → Option Value} {dp un : Nat} {fr : Option (List Env)} {gu : Option (List Code)} {s : Shared} {h₀ : Heap} {L x dx la lb l2 lj lq lm : Addr} {m : Str → Option Value} {tail : List (Addr × Obj)} {Q : Flow → Shared → Prop} {as bs : List Int} {idx : Int → List Int} {S : Int → Bool}
    {ts : Nat → Tok} {ij aj mbk oc fb lp : Value} {items ms : List Value} {nq nm : Nat} {qs : List Pure.Reg} {bl total : List Pure.Blk}
    (F : Fr h₀ L s.heap m) (N : News h₀ L s.heap ((dx, selfD w.params ts ij (.ref la) (.ref lb) aj mbk oc fb (.ref l2) (.ref lj) lp) :: (lq, W.listOf items.toArray nq) :: (lm, W.listOf ms.toArray nm) :: tail)) (T' : Top q (looseW q loose) means mg mb h₀) (sm : SmB w h₀ x dx la lb as bs idx S l2 lj) (hlp : ∃ a, lp = .ref a)
    (z1 : AllNe dx tail) (z2 : AllNe lq tail) (z3 : AllNe lm tail) (z4 : @Ne Nat dx lq) (z5 : @Ne Nat dx lm) (z6 : @Ne Nat lq lm) (hr : Regs tail items qs) (hm : Ms tail ms bl)
    (mself : m (Str.ofString "self") = some (.ref x)) (mq : m (Str.ofString "queue") = some (.ref lq)) (mm : m (Str.ofString "matching_blocks") = some (.ref lm))
    (hp : (bl ++ qs.flatMap (Pure.roN (Pure.flm (fun i => as.getD i 0) (fun i => bs.getD i 0) idx S))).Perm total) (h64 : total.length < 64) (hok : ∀ r ∈ qs, r.1 ≤ r.2.1 ∧ r.2.1 ≤ as.length ∧ r.2.2.1 ≤ r.2.2.2 ∧ r.2.2.2 ≤ bs.length) (hbig : Pure.meas qs < 2 ^ 23) (hroom : dp + 5 < recursionLimit)
    (hQ : ∀ h' tk m' ms' nq' nm' tail' bl', Fr h₀ L h' m' → News h₀ L h' ((dx, selfD w.params ts ij (.ref la) (.ref lb) aj mbk oc fb (.ref l2) (.ref lj) lp) :: (lq, W.listOf #[] nq') :: (lm, W.listOf ms'.toArray nm') :: tail') → AllNe dx tail' → AllNe lq tail' → AllNe lm tail' → Ms tail' ms' bl' → bl'.Perm total → (∀ p ∈ tail, p ∈ tail') →
      (∀ y, y ≠ Str.ofString "alo" → y ≠ Str.ofString "ahi" → y ≠ Str.ofString "blo" → y ≠ Str.ofString "bhi" → y ≠ Str.ofString "i" → y ≠ Str.ofString "j" → y ≠ Str.ofString "k" → y ≠ Str.ofString "x" → m' y = m y) → Q .next { s with heap := h', toks := tk }) :
    (K w.params).In h₀ → PySem.Challenge.rw_dm0054_12.prog = pw → wpAny (model pw w) (Around.mk none dp fr gu un) (exec (stAt (fnBody (mem 5 7)) 5) (gmbEnv L)) Q (fun _ _ => False) s := by
  k_fill
  intro X' hpw
  refine While_q (GInv w h₀ L dx lq lm (selfD w.params ts ij (.ref la) (.ref lb) aj mbk oc fb (.ref l2) (.ref lj) lp) as bs (Pure.flm (fun i => as.getD i 0) (fun i => bs.getD i 0) idx S) total tail m s) ?_ _
    ⟨s.heap, s.toks, m, items, ms, nq, nm, tail, qs, bl, F, N, z1, z2, z3, hr, hm, hp, hok, hbig, fun _ h => h, fun _ _ _ _ _ _ _ _ _ => rfl, rfl⟩
  clear F N z1 z2 z3 hr hm hp hok hbig nq nm
  rintro n' s' ⟨h, tk, m', items', ms', nq, nm, tail', qs', bl', F', N', z1, z2, z3, hr, hm, hp, hok, hbig, hsub, hmm, en⟩ QB hN
  have c1 := (hmm (Str.ofString "self") (by decide) (by decide) (by decide) (by decide) (by decide) (by decide) (by decide) (by decide)).trans mself
  have c2 := (hmm (Str.ofString "queue") (by decide) (by decide) (by decide) (by decide) (by decide) (by decide) (by decide) (by decide)).trans mq
  have c3 := (hmm (Str.ofString "matching_blocks") (by decide) (by decide) (by decide) (by decide) (by decide) (by decide) (by decide) (by decide)).trans mm
  have y1 := ne_of_allNe z1
  have y2 := ne_of_allNe z2
  have y3 := ne_of_allNe z3
  have ix := sm.inst
  have hlen := hr.length
  have hz : items'.length < 2 ^ 24 := by have := Pure.len_le_meas qs'; omega
  cases hr with
  | nil =>
    k_steps
    exact hQ _ _ _ ms' nq nm tail' bl' F' N' z1 z2 z3 hm (by simpa using hp) hsub hmm
  | @snoc vs rs a x1 x2 x3 x4 u1 u2 u3 u4 hr hmem =>
    obtain ⟨o1, o2, o3, o4⟩ := hok (x1, x2, x3, x4) (by simp)
    dsimp only at o1 o2 o3 o4
    have hml : ms'.length < 2 ^ 24 := by have := hp.length_eq; have := hm.length; simp only [List.length_append] at *; omega
    have hvl : vs.length + 2 < 2 ^ 24 := by have := hr.length; have := Pure.len_le_meas rs; have := Pure.meas_snoc rs (x1, x2, x3, x4); omega
    k_steps
    all_goals first | refine hN _ ?_ | skip
    all_goals first
      | exact gw_both (by assumption) (by assumption) (by assumption) (by first | lia | omega) (Pure.flm_in _ _ _ _) o1 o2 o3 o4 (by first | lia | omega) (by first | trivial | lia | omega) z1 z2 z3 hr hm hp hok en hbig hsub (fun y h1 h2 h3 h4 h5 h6 h7 h8 => by simp only [upd, if_neg h1, if_neg h2, if_neg h3, if_neg h4, if_neg h5, if_neg h6, if_neg h7, if_neg h8]; exact hmm y h1 h2 h3 h4 h5 h6 h7 h8)
      | exact gw_left (by assumption) (by assumption) (by assumption) (by first | lia | omega) (Pure.flm_in _ _ _ _) o1 o2 o3 o4 (by first | lia | omega) (by first | trivial | lia | omega) z1 z2 z3 hr hm hp hok en hbig hsub (fun y h1 h2 h3 h4 h5 h6 h7 h8 => by simp only [upd, if_neg h1, if_neg h2, if_neg h3, if_neg h4, if_neg h5, if_neg h6, if_neg h7, if_neg h8]; exact hmm y h1 h2 h3 h4 h5 h6 h7 h8)
      | exact gw_right (by assumption) (by assumption) (by assumption) (by first | lia | omega) (Pure.flm_in _ _ _ _) o1 o2 o3 o4 (by first | lia | omega) (by first | trivial | lia | omega) z1 z2 z3 hr hm hp hok en hbig hsub (fun y h1 h2 h3 h4 h5 h6 h7 h8 => by simp only [upd, if_neg h1, if_neg h2, if_neg h3, if_neg h4, if_neg h5, if_neg h6, if_neg h7, if_neg h8]; exact hmm y h1 h2 h3 h4 h5 h6 h7 h8)
      | exact gw_none (by assumption) (by assumption) (by assumption) (by first | lia | omega) (Pure.flm_in _ _ _ _) o1 o2 o3 o4 (by first | lia | omega) (by first | trivial | lia | omega) z1 z2 z3 hr hm hp hok en hbig hsub (fun y h1 h2 h3 h4 h5 h6 h7 h8 => by simp only [upd, if_neg h1, if_neg h2, if_neg h3, if_neg h4, if_neg h5, if_neg h6, if_neg h7, if_neg h8]; exact hmm y h1 h2 h3 h4 h5 h6 h7 h8)
      | exact gw_zero (by assumption) (by assumption) (by assumption) (by first | lia | omega) (Pure.flm_in _ _ _ _) o1 o2 o3 o4 (by first | lia | omega) (by first | trivial | lia | omega) z1 z2 z3 hr hm hp hok en hbig hsub (fun y h1 h2 h3 h4 h5 h6 h7 h8 => by simp only [upd, if_neg h1, if_neg h2, if_neg h3, if_neg h4, if_neg h5, if_neg h6, if_neg h7, if_neg h8]; exact hmm y h1 h2 h3 h4 h5 h6 h7 h8)
end Mine
end
section
open PySem PySem.W PySem.Calls PyProof.Rows
set_option maxRecDepth 100000
set_option maxHeartbeats 4000000
set_option Elab.async false
set_option linter.unusedVariables false
namespace Mine
theorem tlt_kind : builtinKind "tuple.__lt__" = some .slot := by decide +kernel
theorem tlt_split : splitId "tuple.__lt__" = some ("tuple", "__lt__") := by decide +kernel
section
variable {prog : Program} {w : World} {A : Around} {E : Value → Shared → Prop} {s : Shared} {P : Params}
theorem lt135 {h : Heap} (X : (K P).In h) : Looks (model prog w) h (typeLookup (.ref 135) "__lt__") (some (.builtin "tuple.__lt__")) := looks_findIn X (by kernel_rfl!)
theorem richLt {a b : Int} {t u : Tok} {Q : Value → Shared → Prop} (h : Q (.bool (decide (a < b))) s) : wpAny (model prog w) A (richCompare .Lt (.int a t) (.int b u)) Q E s := wpAny_lt_int h
theorem keyLtM {x y dx dy : Addr} {a1 a2 a3 b1 b2 b3 : Int} {t1 t2 t3 u1 u2 u3 : Tok} {Q : Bool → Shared → Prop} (hu : A.units < cLine) (X : (K P).In s.heap) (hx : s.heap.get? x = some (matchObj dx #[.int a1 t1, .int a2 t2, .int a3 t3])) (hy : s.heap.get? y = some (matchObj dy #[.int b1 u1, .int b2 u2, .int b3 u3]))
    (h : ∀ tk, Q (decide (a1 < b1 ∨ a1 = b1 ∧ (a2 < b2 ∨ a2 = b2 ∧ a3 < b3))) { s with toks := tk }) : wpAny (model prog w) A (keyLt' oneType' (.ref x) (.ref y)) Q E s := by
  obtain ⟨hh, g, d, t, os⟩ := s
  dsimp only at X hx hy h
  rw [keyLt'_oneType, oneLt'_eq]
  simp only [if_true]
  refine wpAny_bind (wpAny_cRoomFor hu ?_)
  have t1' : Looks (model prog w) hh (typeOf (.ref x)) (.ref 135) := (Looks.ld hx).andThen .now
  have t2' : Looks (model prog w) hh (isInstance (.ref x) (.type "tuple")) true := t1'.andThen (subTup135 X)
  have t1y : Looks (model prog w) hh (typeOf (.ref y)) (.ref 135) := (Looks.ld hy).andThen .now
  have t2y : Looks (model prog w) hh (isInstance (.ref y) (.type "tuple")) true := t1y.andThen (subTup135 X)
  have i1 := lt135 (prog := prog) (w := w) X
  have b1' : bindSpecial (.builtin "tuple.__lt__") (.ref x) = pure (.builtin "tuple.__lt__", [.ref x]) := PySem.F.slot_tuple_lt.bind _
  have fin : ∀ (Q' : Value → Shared → Prop) (E' : Value → Shared → Prop), (∀ tk, Q' (.bool (decide (a1 < b1 ∨ a1 = b1 ∧ (a2 < b2 ∨ a2 = b2 ∧ a3 < b3)))) ⟨hh, g, d, tk, os⟩) → wpAny (model prog w) A (call (.builtin "tuple.__lt__") ([.ref x] ++ [.ref y])) Q' E' ⟨hh, g, d, t, os⟩ := by
    intro Q' E' hq
    refine wpAny_call (codeAny_call_builtin PySem.F.slot_tuple_lt.plain PySem.F.entry_tuple_lt (check_slot tlt_kind tlt_split t2' (PySem.F.args_tuple_lt_2 _ _) ?_))
    unfold Builtin.«tuple.__lt__»
    by_cases e1 : a1 = b1
    · have q1 : (a1 == b1) = true := by simpa using e1
      by_cases e2 : a2 = b2
      · have q2 : (a2 == b2) = true := by simpa using e2
        by_cases e3 : a3 = b3
        · have q3 : (a3 == b3) = true := by simpa using e3
          have r : decide (a1 < b1 ∨ a1 = b1 ∧ (a2 < b2 ∨ a2 = b2 ∧ a3 < b3)) = false := decide_eq_false (by lia)
          rw [r] at hq
          repeat (first | exact hq _ | simp only [q1, q2, q3, Bool.not_true, Bool.false_eq_true, if_false] | (with_reducible refine wpAny_eqBool_int ?_) | lk)
        · have q3 : (a3 == b3) = false := by simpa using e3
          have r : decide (a1 < b1 ∨ a1 = b1 ∧ (a2 < b2 ∨ a2 = b2 ∧ a3 < b3)) = decide (a3 < b3) := by
            by_cases hlt : a3 < b3
            · rw [decide_eq_true hlt]; exact decide_eq_true (by lia)
            · rw [decide_eq_false hlt]; exact decide_eq_false (by lia)
          rw [r] at hq
          repeat (first | exact hq _ | simp only [q1, q2, q3, Bool.not_true, Bool.not_false, Bool.false_eq_true, if_false, if_true] | (with_reducible refine wpAny_eqBool_int ?_) | (with_reducible refine richLt ?_) | lk)
      · have q2 : (a2 == b2) = false := by simpa using e2
        have r : decide (a1 < b1 ∨ a1 = b1 ∧ (a2 < b2 ∨ a2 = b2 ∧ a3 < b3)) = decide (a2 < b2) := by
          by_cases hlt : a2 < b2
          · rw [decide_eq_true hlt]; exact decide_eq_true (by lia)
          · rw [decide_eq_false hlt]; exact decide_eq_false (by lia)
        rw [r] at hq
        repeat (first | exact hq _ | simp only [q1, q2, Bool.not_true, Bool.not_false, Bool.false_eq_true, if_false, if_true] | (with_reducible refine wpAny_eqBool_int ?_) | (with_reducible refine richLt ?_) | lk)
    · have q1 : (a1 == b1) = false := by simpa using e1
      have r : decide (a1 < b1 ∨ a1 = b1 ∧ (a2 < b2 ∨ a2 = b2 ∧ a3 < b3)) = decide (a1 < b1) := by
        by_cases hlt : a1 < b1
        · rw [decide_eq_true hlt]; exact decide_eq_true (by (clear hu; omega))
        · rw [decide_eq_false hlt]; exact decide_eq_false (by lia)
      rw [r] at hq
      repeat (first | exact hq _ | simp only [q1, Bool.not_true, Bool.not_false, Bool.false_eq_true, if_false, if_true] | (with_reducible refine wpAny_eqBool_int ?_) | (with_reducible refine richLt ?_) | lk)
  unfold callSpecialIfBound? bindSpecialIfBound? specialOf
  repeat lk
  rw [b1']
  split
  · repeat (first | exact h _ | (with_reducible refine fin _ _ fun tk => ?_) | (with_reducible refine wpAny_truthy_bool ?_) | lk)
  · refine wpAny_tryCatch ?_
    repeat (first | exact h _ | (with_reducible refine fin _ _ fun tk => ?_) | (with_reducible refine wpAny_truthy_bool ?_) | lk)
end
end Mine
end
section
open PySem PySem.W PyProof.Rows
set_option linter.unusedVariables false
namespace Srt
noncomputable def run {α : Type} (lt : Nat → Nat → Bool) : KasT α → α
  | .ret a => a
  | .ask i j k => run lt (k (lt i j))
theorem run_bind {α β : Type} (lt : Nat → Nat → Bool) (f : α → KasT β) : ∀ t : KasT α, run lt (t.bind f) = run lt (f (run lt t))
  | .ret a => rfl
  | .ask i j k => run_bind lt f (k (lt i j))
noncomputable def Valid {α : Type} (n : Nat) (R : α → Prop) : KasT α → Prop
  | .ret a => R a
  | .ask i j k => i < n ∧ j < n ∧ ∀ b, Valid n R (k b)
theorem Valid.bind {α β : Type} {n : Nat} {R : α → Prop} {R' : β → Prop} {f : α → KasT β} : ∀ {t : KasT α}, Valid n R t → (∀ a, R a → Valid n R' (f a)) → Valid n R' (t.bind f)
  | .ret a, h, hf => hf a h
  | .ask i j k, h, hf => ⟨h.1, h.2.1, fun b => Valid.bind (h.2.2 b) hf⟩
theorem kasWp_run {α : Type} {cmp : Nat → Nat → (Bool → Shared → Prop) → Shared → Prop} {lt : Nat → Nat → Bool} {Inv : Shared → Prop} {n : Nat} {R : α → Prop} {Q : α → Shared → Prop}
    (hcmp : ∀ i j C s, i < n → j < n → Inv s → (∀ s', Inv s' → C (lt i j) s') → cmp i j C s) : ∀ (t : KasT α), Valid n R t → ∀ s, Inv s → (∀ s', Inv s' → Q (run lt t) s') → t.kasWp cmp Q s
  | .ret a, _, s, hs, hq => hq s hs
  | .ask i j k, hv, s, hs, hq => hcmp i j _ s hv.1 hv.2.1 hs fun s' hs' => kasWp_run hcmp (k (lt i j)) (hv.2.2 _) s' hs' hq
noncomputable def Bd (n : Nat) (p : Array Nat) : Prop := ∀ q, p.getD q 0 < n
theorem Bd.perm {n : Nat} {p p' : Array Nat} (h : Bd n p) (hp : p'.Perm p) : Bd n p' := by
  intro q
  have h0 := h p.size
  have hz : p.getD p.size 0 = 0 := by simp [Array.getD]
  rw [hz] at h0
  by_cases hq : q < p'.size
  · have e : p'.getD q 0 = p'[q] := by simp [Array.getD, hq]
    rw [e]
    have hm : p'[q] ∈ p := hp.mem_iff.mp (Array.getElem_mem hq)
    obtain ⟨j, hj, ej⟩ := Array.mem_iff_getElem.mp hm
    have := h j
    have e2 : p.getD j 0 = p[j] := by simp [Array.getD, hj]
    rw [e2, ej] at this
    exact this
  · have e : p'.getD q 0 = 0 := by simp [Array.getD, hq]
    rw [e]; exact h0
section
variable {n : Nat}
theorem v_asc {p : Array Nat} (hb : Bd n p) : ∀ f k, Valid n (fun _ : Nat => True) (kas_asc p f k)
  | 0, k => trivial
  | f + 1, k => ⟨hb _, hb _, fun b => by cases b <;> simp only [if_true, Bool.false_eq_true, if_false] <;> first | exact trivial | exact v_asc hb f (k + 1)⟩
theorem v_rev {p : Array Nat} (hb : Bd n p) (i j : Nat) : Bd n (kas_rev p i j) := hb.perm (mirror_perm _ _ _ _)
theorem v_desc : ∀ f (p : Array Nat) k q, Bd n p → Valid n (fun r : Array Nat × Nat × Nat => Bd n r.1) (kas_desc f p k q)
  | 0, p, k, q, hb => hb
  | f + 1, p, k, q, hb => by
    refine ⟨hb _, hb _, fun b => ?_⟩
    cases b with
    | true =>
      simp only [if_true]
      split
      · exact v_desc f _ _ _ (v_rev hb _ _)
      · exact v_desc f _ _ _ hb
    | false =>
      simp only [Bool.false_eq_true, if_false]
      refine ⟨hb _, hb _, fun c => ?_⟩
      cases c with
      | true => simp only [if_true]; exact hb
      | false => simp only [Bool.false_eq_true, if_false]; exact v_desc f _ _ _ hb
theorem v_tail3 {p : Array Nat} (hb : Bd n p) (m nrem : Nat) : Valid n (fun r : Nat × Array Nat => Bd n r.2) (kas_tail3 m nrem p) :=
  (v_asc (v_rev hb 0 m) _ _).bind fun _ _ => v_rev hb 0 m
theorem v_descPart {p : Array Nat} (hb : Bd n p) (m nrem : Nat) : Valid n (fun r : Nat × Array Nat => Bd n r.2) (kas_descPart m nrem p) :=
  (v_desc _ _ _ _ hb).bind fun r hr => by
    split
    · exact v_tail3 (v_rev hr _ _) _ _
    · exact v_tail3 hr _ _
theorem v_count {p : Array Nat} (hb : Bd n p) (nrem : Nat) : Valid n (fun r : Nat × Array Nat => Bd n r.2) (kas_count nrem p) :=
  (v_asc hb _ _).bind fun m _ => by
    split
    · exact hb
    · split
      · refine ⟨hb _, hb _, fun b => ?_⟩
        cases b with
        | true => simp only [if_true]; exact hb
        | false => simp only [Bool.false_eq_true, if_false]; exact v_descPart (v_rev hb _ _) _ _
      · exact v_descPart hb _ _
theorem v_place {p : Array Nat} (hb : Bd n p) (k : Nat) : ∀ f l r, Valid n (fun _ : Nat => True) (kas_place p k f l r)
  | 0, l, r => trivial
  | f + 1, l, r => by
    rw [kas_place]
    split
    · exact trivial
    · refine ⟨hb _, hb _, fun b => ?_⟩
      cases b <;> simp only [if_true, Bool.false_eq_true, if_false] <;> exact v_place hb k f _ _
theorem v_bin : ∀ f (p : Array Nat) k, Bd n p → Valid n (fun r : Array Nat => Bd n r) (kas_bin f p k)
  | 0, p, k, hb => hb
  | f + 1, p, k, hb => (v_place hb k k 0 k).bind fun l _ => v_bin f _ _ (hb.perm (bubble_perm _ _ _))
theorem bd_range (hn : 0 < n) : Bd n (List.toArray (List.range n)) := fun q => by
  by_cases hq : q < n
  · simp [Array.getD, hq]
  · simp [Array.getD, hq, hn]
theorem v_sort (hn : 0 < n) : Valid n (fun r : Array Nat => Bd n r) (kas_sort n) :=
  (v_count (bd_range hn) n).bind fun r hr => by
    split
    · exact v_bin _ _ _ hr
    · exact hr
end
section
variable (v : Nat → Nat)
noncomputable def G (p : Array Nat) (q : Nat) : Nat := v (p.getD q 0)
noncomputable def Dis (p : Array Nat) : Prop := (p.toList.map v).Nodup
noncomputable def Srtd (p : Array Nat) (k : Nat) : Prop := ∀ i j, i < j → j < k → G v p i < G v p j
noncomputable def ltv (i j : Nat) : Bool := decide (v i < v j)
variable {v}
theorem Dis.perm {p p' : Array Nat} (h : Dis v p) (hp : p'.Perm p) : Dis v p' := (hp.toList.map v).nodup_iff.mpr h
theorem Dis.ne {p : Array Nat} {i j n : Nat} (h : Dis v p) (hz : p.size = n) (hi : i < n) (hj : j < n) (hij : i ≠ j) : G v p i ≠ G v p j := fun e => hij <| by
  subst hz
  have g : ∀ {i}, i < p.size → (p.toList.map v)[i]? = some (G v p i) := fun hi => by simp [G, Array.getD, hi]
  exact (List.getElem?_inj (by simpa using hi) h).mp (by rw [g hi, g hj, e])
theorem Dis.lt {p : Array Nat} {i j n : Nat} (h : Dis v p) (hz : p.size = n) (hi : i < n) (hj : j < n) (hij : i ≠ j) (hn : ¬ G v p i < G v p j) : G v p j < G v p i :=
  Nat.lt_of_le_of_ne (Nat.le_of_not_lt hn) (h.ne hz hj hi (Ne.symm hij))
theorem G_congr {p p' : Array Nat} {i j : Nat} (h : p[i]? = p'[j]?) : G v p i = G v p' j := by
  unfold G
  have e : ∀ (a : Array Nat) (q : Nat), a.getD q 0 = (a[q]?).getD 0 := fun a q => by simp
  rw [e, e, h]
theorem G_bubble {p : Array Nat} {k x : Nat} (hs : k < p.size) (hx : x ≤ k) (q : Nat) : (q < x → G v (bubble p k (k - x)) q = G v p q) ∧ G v (bubble p k (k - x)) x = G v p k ∧ (x ≤ q → q < k → G v (bubble p k (k - x)) (q + 1) = G v p q) := by
  have e := fun q => getElem?_bubble hs (k - x) (Nat.sub_le k x) q
  rw [Nat.sub_sub_self hx] at e
  refine ⟨fun h => G_congr ((e q).trans ?_), G_congr ((e x).trans (if_pos rfl)), fun h1 h2 => G_congr ((e (q + 1)).trans ?_)⟩
  · rw [if_neg (Nat.ne_of_lt h), if_neg fun g => Nat.lt_asymm h g.1]
  · rw [if_neg (Nat.ne_of_gt (Nat.lt_succ_of_le h1)), if_pos ⟨Nat.lt_succ_of_le h1, h2⟩]; rfl
theorem G_rev {p : Array Nat} {j : Nat} (hj : j ≤ p.size) (k : Nat) : (∀ x, k + x + 1 = j → G v (kas_rev p 0 j) k = G v p x) ∧ (j ≤ k → G v (kas_rev p 0 j) k = G v p k) := by
  have e := getElem?_mirror_all (xs := p) (i := 0) hj k
  refine ⟨fun x h => G_congr (e.trans ?_), fun h => G_congr (e.trans (if_neg fun g => Nat.not_lt_of_le h g.2))⟩
  rw [if_pos ⟨Nat.zero_le _, by exact (Nat.lt_of_lt_of_le (Nat.lt_of_le_of_lt (Nat.le_add_right _ _) (Nat.lt_succ_self _)) (Nat.le_of_eq h))⟩]
  rw [show 0 + j - 1 - k = x by omega]
theorem srtd_of_steps {p : Array Nat} {k : Nat} (h : ∀ q, q + 1 < k → G v p q < G v p (q + 1)) : Srtd v p k := by
  intro i j hij
  induction j with
  | zero => exact absurd hij (Nat.not_lt_zero i)
  | succ j ih =>
    intro hj
    have s := h j hj
    rcases Nat.lt_or_eq_of_le (Nat.le_of_lt_succ hij) with e | e
    · exact Nat.lt_trans (ih e (Nat.lt_of_succ_lt hj)) s
    · subst e; exact s
theorem ask_true {α : Type} {p : Array Nat} {i j : Nat} {x y : KasT α} (h : G v p i < G v p j) : run (ltv v) (if ltv v (p.getD i 0) (p.getD j 0) = true then x else y) = run (ltv v) x := by
  exact congrArg _ (if_pos (decide_eq_true h))
theorem ask_false {α : Type} {p : Array Nat} {i j : Nat} {x y : KasT α} (h : ¬ G v p i < G v p j) : run (ltv v) (if ltv v (p.getD i 0) (p.getD j 0) = true then x else y) = run (ltv v) y := by
  exact congrArg _ (if_neg fun g => h (of_decide_eq_true g))
theorem from_split {P : Nat → Prop} {k m : Nat} (h0 : P k) (h : ∀ q, k + 1 ≤ q → q < m → P q) : ∀ q, k ≤ q → q < m → P q := fun q q1 q2 => by
  rcases Nat.lt_or_eq_of_le q1 with e | e
  · exact h q e q2
  · subst e; exact h0
theorem none_from {P : Nat → Prop} (k : Nat) : ∀ q, k ≤ q → q < k → P q := fun _ h1 h2 => absurd h1 (Nat.not_le_of_lt h2)
theorem r_asc (p : Array Nat) : ∀ f k, ∃ m, run (ltv v) (kas_asc p f (k + 1)) = m + 1 ∧ k ≤ m ∧ m ≤ k + f ∧ (∀ q, k ≤ q → q < m → ¬ G v p (q + 1) < G v p q) ∧ (m < k + f → G v p (m + 1) < G v p m)
  | 0, k => ⟨k, rfl, Nat.le_refl _, Nat.le_refl _, none_from k, fun h => absurd h (Nat.lt_irrefl k)⟩
  | f + 1, k => by
    by_cases h : G v p (k + 1) < G v p k
    · exact ⟨k, ask_true h, Nat.le_refl _, Nat.le_add_right _ _, none_from k, fun _ => h⟩
    · obtain ⟨m, e, h1, h2, h3, h4⟩ := r_asc p f (k + 1)
      rw [Nat.add_right_comm k 1 f] at h2 h4
      exact ⟨m, (ask_false h).trans e, Nat.le_of_succ_le h1, h2, from_split h h3, h4⟩
theorem r_desc (p : Array Nat) {n : Nat} (hz : p.size = n) (hd : Dis v p) : ∀ f k, k + f < n → ∃ m, run (ltv v) (kas_desc f p (k + 1) 0) = (p, m + 1, 0) ∧ k ≤ m ∧ m ≤ k + f ∧ (∀ q, k ≤ q → q < m → G v p (q + 1) < G v p q)
  | 0, k, _ => ⟨k, rfl, Nat.le_refl _, Nat.le_refl _, none_from k⟩
  | f + 1, k, hn => by
    by_cases h : G v p (k + 1) < G v p k
    · obtain ⟨m, e, h1, h2, h3⟩ := r_desc p hz hd f (k + 1) (by lia)
      rw [Nat.add_right_comm k 1 f] at h2
      refine ⟨m, (ask_true h).trans ?_, Nat.le_of_succ_le h1, h2, from_split h h3⟩
      rw [if_neg (Nat.lt_irrefl 0)]; exact e
    · exact ⟨k, (ask_false h).trans (ask_true (hd.lt hz (by lia) (by lia) (Nat.succ_ne_self k) h)), Nat.le_refl _, Nat.le_add_right _ _, none_from k⟩
theorem r_tail3 {p : Array Nat} {m n : Nat} (hz : p.size = n) (hd : Dis v p) (hm : m < n) (hdec : ∀ q, q < m → G v p (q + 1) < G v p q) :
    ∃ c p', run (ltv v) (kas_tail3 (m + 1) n p) = (c + 1, p') ∧ c < n ∧ Srtd v p' (c + 1) ∧ p'.Perm p := by
  have hp : (kas_rev p 0 (m + 1)).Perm p := mirror_perm _ _ _ _
  have hd' := hd.perm hp
  have hz' : (kas_rev p 0 (m + 1)).size = n := hp.size_eq.trans hz
  obtain ⟨c, e, c1, c2, c3, c4⟩ := r_asc (v := v) (kas_rev p 0 (m + 1)) (n - (m + 1)) m
  have c2 : c < n := by (clear c4 e hz' hz; omega)
  refine ⟨c, kas_rev p 0 (m + 1), ?_, c2, srtd_of_steps fun q q1 => ?_, hp⟩
  · unfold kas_tail3; rw [run_bind, e]; rfl
  · have q1 := Nat.lt_of_succ_lt_succ q1
    by_cases hq : q < m
    · obtain ⟨x, rfl⟩ : ∃ x, m = q + 1 + x := ⟨m - (q + 1), (Nat.add_sub_cancel' hq).symm⟩
      rw [(G_rev (Nat.le_trans hm (Nat.le_of_eq hz.symm)) q).1 (x + 1) (by lia), (G_rev (Nat.le_trans hm (Nat.le_of_eq hz.symm)) (q + 1)).1 x rfl]
      exact hdec x (by lia)
    · exact hd'.lt hz' (Nat.lt_of_le_of_lt q1 c2) (Nat.lt_trans q1 c2) (Nat.succ_ne_self q) (c3 q (Nat.le_of_not_lt hq) q1)
theorem r_count {p : Array Nat} {n : Nat} (hz : p.size = n + 1) (hd : Dis v p) : ∃ c p', run (ltv v) (kas_count (n + 1) p) = (c + 1, p') ∧ c < n + 1 ∧ Srtd v p' (c + 1) ∧ p'.Perm p := by
  obtain ⟨m, e, m1, m2, m3, m4⟩ := r_asc (v := v) p n 0
  rw [Nat.zero_add] at m2 m4
  have hm : m < n + 1 := Nat.lt_succ_of_le m2
  have hs : Srtd v p (m + 1) := srtd_of_steps fun q q1 =>
    have q1 := Nat.lt_of_succ_lt_succ q1
    hd.lt hz (Nat.lt_of_le_of_lt q1 hm) (Nat.lt_trans q1 hm) (Nat.succ_ne_self q) (m3 q (Nat.zero_le q) q1)
  unfold kas_count
  rw [run_bind, show run (ltv v) (kas_asc p (n + 1 - 1) 1) = m + 1 from e]
  by_cases h1 : m = n
  · subst h1
    rw [if_pos (beq_self_eq_true _)]
    exact ⟨m, p, rfl, hm, hs, Array.Perm.refl _⟩
  · rw [if_neg (fun h => h1 (Nat.succ.inj (eq_of_beq h)))]
    by_cases h2 : m + 1 > 1
    · rw [if_pos h2]
      exact ⟨m, p, ask_true (hs 0 m (Nat.lt_of_succ_lt_succ h2) (Nat.lt_succ_self m)), hm, hs, Array.Perm.refl _⟩
    · rw [if_neg h2]
      have hm1 : m = 0 := Nat.le_zero.mp (Nat.le_of_succ_le_succ (Nat.le_of_not_lt h2))
      subst hm1
      have hn : 0 < n := Nat.pos_of_ne_zero fun g => h1 g.symm
      have hlt := m4 hn
      obtain ⟨k, e2, k1, k2, k3⟩ := r_desc p hz hd (n - 1) 1 (by (clear hlt e hz; omega))
      unfold kas_descPart
      rw [run_bind, show n + 1 - (0 + 1 + 1) = n - 1 from rfl, e2]
      exact r_tail3 hz hd (by (clear k1 hlt e hz; omega)) (fun q q2 => from_split (P := fun q => G v p (q + 1) < G v p q) hlt k3 q (Nat.zero_le q) q2)
theorem r_place {p : Array Nat} {k n : Nat} (hz : p.size = n) (hd : Dis v p) (hk : k < n) (hs : Srtd v p k) : ∀ f l r, l ≤ r → r ≤ k → r ≤ l + f → (∀ q, q < l → G v p q < G v p k) → (∀ q, r ≤ q → q < k → G v p k < G v p q) →
    ∃ x, run (ltv v) (kas_place p k f l r) = x ∧ x ≤ k ∧ (∀ q, q < x → G v p q < G v p k) ∧ (∀ q, x ≤ q → q < k → G v p k < G v p q)
  | 0, l, r, h1, h2, h3, a1, a2 => ⟨l, rfl, Nat.le_trans h1 h2, a1, fun q q1 q2 => a2 q (Nat.le_trans h3 q1) q2⟩
  | f + 1, l, r, h1, h2, h3, a1, a2 => by
    rw [kas_place]
    by_cases hlr : l ≥ r
    · rw [if_pos hlr]; exact ⟨l, rfl, Nat.le_trans h1 h2, a1, fun q q1 q2 => a2 q (Nat.le_trans hlr q1) q2⟩
    · rw [if_neg hlr]
      obtain ⟨x, hx, x1, x2, x3⟩ : ∃ x, (l + r) / 2 = x ∧ l ≤ x ∧ x < r ∧ r ≤ x + (f + 1) ∧ x ≤ l + f := ⟨_, rfl, by (clear hlr h3 hk hz; lia), by lia, by lia, by lia⟩
      have xk : x < k := Nat.lt_of_lt_of_le x2 h2
      rw [hx]
      show ∃ y, run (ltv v) (if ltv v (p.getD k 0) (p.getD x 0) = true then _ else _) = y ∧ _
      by_cases h : G v p k < G v p x
      · rw [ask_true h]
        refine r_place hz hd hk hs f l x x1 (Nat.le_of_lt xk) x3.2 a1 fun q q1 q2 => ?_
        rcases Nat.lt_or_eq_of_le q1 with e | e
        · exact Nat.lt_trans h (hs _ q e q2)
        · subst e; exact h
      · rw [ask_false h]
        have h' : G v p x < G v p k := hd.lt hz hk (Nat.lt_trans xk hk) (Nat.ne_of_gt xk) h
        refine r_place hz hd hk hs f (x + 1) r x2 h2 (by (clear hx hk hz; lia)) (fun q q1 => ?_) a2
        rcases Nat.lt_or_eq_of_le (Nat.le_of_lt_succ q1) with e | e
        · exact Nat.lt_trans (hs q _ e xk) h'
        · subst e; exact h'
theorem r_bin {n : Nat} : ∀ f (p : Array Nat) k, p.size = n → k + f = n → Dis v p → Srtd v p k → ∃ p', run (ltv v) (kas_bin f p k) = p' ∧ Srtd v p' n ∧ p'.Perm p
  | 0, p, k, hz, hk, hd, hs => ⟨p, rfl, by rw [← hk]; exact hs, Array.Perm.refl _⟩
  | f + 1, p, k, hz, hk, hd, hs => by
    have kn : k < n := by lia
    obtain ⟨x, e, x1, x2, x3⟩ := r_place hz hd kn hs k 0 k (Nat.zero_le _) (Nat.le_refl _) (Nat.le_add_left _ _) (fun q h => absurd h (Nat.not_lt_zero q)) (none_from k)
    have hb := fun q => G_bubble (v := v) (p := p) (Nat.lt_of_lt_of_eq kn hz.symm) x1 q
    obtain ⟨p', e', s', pm⟩ := r_bin (n := n) f (bubble p k (k - x)) (k + 1) (by rw [bubble_size]; exact hz) (by lia) (hd.perm (bubble_perm _ _ _)) (srtd_of_steps fun q q1 => by
      have q1 := Nat.lt_of_succ_lt_succ q1
      rcases Nat.lt_trichotomy q x with h | h | h
      · rw [(hb q).1 h]
        rcases Nat.lt_or_eq_of_le (Nat.succ_le_of_lt h) with g | g
        · rw [(hb (q + 1)).1 g]; exact hs _ _ (Nat.lt_succ_self q) (Nat.lt_of_lt_of_le g x1)
        · rw [show q + 1 = x from g, (hb x).2.1]; exact x2 q h
      · subst h
        rw [(hb q).2.1, (hb q).2.2 (Nat.le_refl q) q1]; exact x3 q (Nat.le_refl q) q1
      · cases q with
        | zero => exact absurd h (Nat.not_lt_zero x)
        | succ q =>
          have h := Nat.le_of_lt_succ h
          rw [(hb q).2.2 h (Nat.lt_of_succ_lt q1), (hb (q + 1)).2.2 (Nat.le_succ_of_le h) q1]; exact hs _ _ (Nat.lt_succ_self q) q1)
    refine ⟨p', ?_, s', pm.trans (bubble_perm _ _ _)⟩
    show run (ltv v) ((kas_place p k k 0 k).bind _) = p'
    rw [run_bind, e]; exact e'
theorem r_sort {n : Nat} (hn : 1 ≤ n) (hinj : ∀ i j, i < n → j < n → i ≠ j → v i ≠ v j) : ∃ p, run (ltv v) (kas_sort n) = p ∧ p.toList.Perm (List.range n) ∧ (∀ i j, i < j → j < n → v (p.getD i 0) < v (p.getD j 0)) := by
  cases n with
  | zero => exact absurd hn (Nat.not_succ_le_zero 0)
  | succ n =>
  have hd : Dis v (List.toArray (List.range (n + 1))) := List.pairwise_map.mpr (List.Pairwise.imp_of_mem (fun {i j} hi hj h => hinj i j (List.mem_range.mp hi) (List.mem_range.mp hj) (Nat.ne_of_lt h)) List.pairwise_lt_range)
  have hz0 : (List.toArray (List.range (n + 1))).size = n + 1 := List.length_range
  obtain ⟨c, p', e, c1, hs, hp⟩ := r_count hz0 hd
  have hl : ∀ {q : Array Nat}, q.Perm p' → q.toList.Perm (List.range (n + 1)) := fun h => (h.trans hp).toList
  unfold kas_sort
  rw [run_bind, e]
  by_cases hc : c + 1 < n + 1
  · rw [if_pos hc]
    have hmax : max (c + 1) 1 = c + 1 := Nat.max_eq_left (Nat.succ_le_succ (Nat.zero_le c))
    dsimp only
    rw [hmax]
    obtain ⟨p2, e2, s2, pm⟩ := r_bin (n + 1 - (c + 1)) p' (c + 1) (hp.size_eq.trans hz0) (Nat.add_sub_cancel' c1) (hd.perm hp) hs
    exact ⟨p2, e2, hl pm, s2⟩
  · rw [if_neg hc]
    have : c = n := Nat.le_antisymm (Nat.le_of_lt_succ c1) (Nat.le_of_succ_le_succ (Nat.le_of_not_lt hc))
    subst this
    exact ⟨p', rfl, hl (Array.Perm.refl _), hs⟩
end
end Srt
end
section
namespace Pure
noncomputable abbrev Blk3 := Nat × Nat × Nat
noncomputable abbrev z3 : Blk3 := (0, 0, 0)
theorem fst_inj {total : List Blk3} (hs : total.Pairwise (fun a b => a.1 < b.1)) : ∀ a b, a ∈ total → b ∈ total → a.1 = b.1 → a = b := by
  induction total with
  | nil => intro a b ha; cases ha
  | cons x r ih =>
    intro a b ha hb e
    rw [List.pairwise_cons] at hs
    rcases List.mem_cons.mp ha with ea | ha'
    · rcases List.mem_cons.mp hb with eb | hb'
      · rw [ea, eb]
      · have := hs.1 b hb'; rw [← ea] at this; omega
    · rcases List.mem_cons.mp hb with eb | hb'
      · have := hs.1 a ha'; rw [← eb] at this; omega
      · exact ih hs.2 a b ha' hb' e
theorem nodup_fst {bl total : List Blk3} (hp : bl.Perm total) (hs : total.Pairwise (fun a b => a.1 < b.1)) : (bl.map (·.1)).Nodup := by
  have h1 : (total.map (·.1)).Nodup := by
    rw [List.nodup_iff_pairwise_ne, List.pairwise_map]
    exact hs.imp fun {a b} h => Nat.ne_of_lt h
  exact ((hp.map (·.1)).nodup_iff).mpr h1
theorem getD_inj {bl : List Blk3} (hn : (bl.map (·.1)).Nodup) {i j : Nat} (hi : i < bl.length) (hj : j < bl.length) (hij : i ≠ j) : (bl.getD i z3).1 ≠ (bl.getD j z3).1 := by
  have e : ∀ k (hk : k < bl.length), (bl.getD k z3).1 = (bl.map (·.1))[k]'(by simpa using hk) := fun k hk => by simp [hk]
  rw [e i hi, e j hj]
  intro h
  exact hij ((List.getElem_inj hn).mp h)
theorem map_range_getD (bl : List Blk3) : (List.range bl.length).map (fun i => bl.getD i z3) = bl := by
  apply List.ext_getElem
  · simp
  · intro i h1 h2
    simp [h2]
theorem sorted_total {bl total : List Blk3} {p : Array Nat} (hp : bl.Perm total) (hs : total.Pairwise (fun a b => a.1 < b.1)) (hpr : p.toList.Perm (List.range bl.length))
    (hsr : ∀ i j, i < j → j < bl.length → (bl.getD (p.getD i 0) z3).1 < (bl.getD (p.getD j 0) z3).1) : p.toList.map (fun i => bl.getD i z3) = total := by
  have hperm : (p.toList.map (fun i => bl.getD i z3)).Perm total := by
    have := hpr.map (fun i => bl.getD i z3)
    rw [map_range_getD] at this
    exact this.trans hp
  have hlen : p.size = bl.length := by have := hpr.length_eq; simpa using this
  refine List.Perm.eq_of_pairwise (le := fun a b => a.1 ≤ b.1) (fun a b ha hb h1 h2 => fst_inj hs a b (hperm.mem_iff.mp ha) hb (Nat.le_antisymm h1 h2)) ?_ (hs.imp fun {a b} h => Nat.le_of_lt h) hperm
  rw [List.pairwise_iff_getElem]
  intro i j hi hj hij
  simp only [List.length_map, Array.length_toList] at hi hj
  have := hsr i j hij (by exact (Nat.lt_of_lt_of_le hj (Nat.le_of_eq hlen)))
  have e : ∀ k (hk : k < p.size), p.getD k 0 = p[k] := fun k hk => by simp [Array.getD, hk]
  rw [e i hi, e j hj] at this
  simp only [List.getElem_map, Array.getElem_toList]
  exact Nat.le_of_lt this
end Pure
end
section
open PySem PySem.W PySem.Calls PyProof.Rows
set_option maxRecDepth 100000
set_option maxHeartbeats 4000000
set_option Elab.async false
set_option linter.unusedVariables false
namespace Mine
theorem Ms.append {N : List (Addr × Obj)} {a b : List Value} {x y : List Pure.Blk} (h1 : Ms N a x) (h2 : Ms N b y) : Ms N (a ++ b) (x ++ y) := by
  induction h2 with
  | nil => simpa using h1
  | snoc _ hm ih => rw [← List.append_assoc, ← List.append_assoc]; exact .snoc ih hm
theorem Ms.get {N : List (Addr × Obj)} {vs : List Value} {rs : List Pure.Blk} (h : Ms N vs rs) : ∀ i, i < rs.length → ∃ a dy t1 t2 t3, vs.getD i Value.none = .ref a ∧ (a, matchObj dy #[.int (rs.getD i Pure.z3).1 t1, .int (rs.getD i Pure.z3).2.1 t2, .int (rs.getD i Pure.z3).2.2 t3]) ∈ N := by
  induction h with
  | nil => intro i hi; simp at hi
  | @snoc vs rs a dy x1 x2 x3 t1 t2 t3 hr hm ih =>
    intro i hi
    have hl := hr.length
    by_cases h : i < rs.length
    · obtain ⟨a', dy', u1, u2, u3, e1, e2⟩ := ih i h
      refine ⟨a', dy', u1, u2, u3, ?_, ?_⟩
      · rw [← e1]; simp [List.getD, List.getElem?_append_left, h, hl]
      · have e : (rs ++ [(x1, x2, x3)]).getD i Pure.z3 = rs.getD i Pure.z3 := by simp [List.getD, List.getElem?_append_left, h]
        rw [e]; exact e2
    · have hi' : i = rs.length := by simp at hi; lia
      refine ⟨a, dy, t1, t2, t3, ?_, ?_⟩
      · rw [hi', ← hl]; simp [List.getD]
      · have e : (rs ++ [(x1, x2, x3)]).getD i Pure.z3 = (x1, x2, x3) := by rw [hi']; simp [List.getD]
        rw [e]; exact hm
theorem Ms.map {N : List (Addr × Obj)} {vs : List Value} {rs : List Pure.Blk} (h : Ms N vs rs) : ∀ l : List Nat, (∀ i ∈ l, i < rs.length) → Ms N (l.map fun i => vs.getD i Value.none) (l.map fun i => rs.getD i Pure.z3)
  | [], _ => .nil
  | i :: l, hl => by
    obtain ⟨a, dy, t1, t2, t3, e1, e2⟩ := h.get i (hl i (.head _))
    rw [List.map_cons, List.map_cons, e1]
    exact Ms.append (a := [Value.ref a]) (x := [rs.getD i Pure.z3]) (.snoc (vs := []) (rs := []) .nil e2) (Ms.map h l fun j hj => hl j (.tail _ hj))
theorem small_sort {prog : Program} {w : World} {A : Around} {E : Value → Shared → Prop} {s : Shared} {a : Addr} {vs : List Value} {n : Nat} {P : PySem.Fin → Shared → Prop} (ho : s.heap.get? a = some (seqObj "list" vs.toArray n)) (h2 : vs.length < 2)
    (h : P (.done (.ret .none)) { s with heap := sortedHeap s.heap a vs vs.toArray }) : wpAny (model prog w) A (Builtin.«list.sort» ⟨[.ref a], []⟩) P E s := by
  rw [list_sort_plain]
  have ha : a < s.heap.objs.size := Heap.lt_size ho
  refine wpAny_bind (listItems_at ho rfl ?_)
  refine wpAny_bind (listUpdate_at ho rfl ?_)
  obtain ⟨e1, ho1⟩ : ∃ e1, (s.heap.update a (Obj.mapSeq fun _ => #[])).get? a = some (seqObj "list" #[] e1) := ⟨_, get?_update_seq ho (fun _ => #[])⟩
  refine wpAny_bind (seqEpoch_at ho1 rfl ?_)
  refine wpAny_bind (wpAny_newTuple ?_ (by unfold sizeLine; simp; omega))
  refine wpAny_bind (wpAny_newList ?_)
  refine wpAny_holding ?_
  have ho6 : (((s.heap.update a (Obj.mapSeq fun _ => #[])).push (seqObj "tuple" vs.toArray 0)).push (seqObj "list" #[] 0)).get? a = some (seqObj "list" #[] e1) := by
    rw [Heap.get?_push_ne _ _ _ (by rw [size_push', Heap.size_update]; exact Nat.ne_of_lt (Nat.lt_succ_of_lt ha)), Heap.get?_push_ne _ _ _ (by rw [Heap.size_update]; exact Nat.ne_of_lt ha)]
    exact ho1
  show wpAny (model prog w) A _ P E { s with heap := ((s.heap.update a (Obj.mapSeq fun _ => #[])).push (seqObj "tuple" vs.toArray 0)).push (seqObj "list" #[] 0) }
  dsimp only
  have hsz : vs.toArray.size < 2 := by simpa using h2
  rw [if_pos hsz, if_pos hsz]
  refine wpAny_bind (wpAny_pure ?_)
  rw [StateT.run_pure]
  refine wpAny_bind (wpAny_pure ?_)
  dsimp only
  refine wpAny_bind (seqEpoch_at ho6 rfl ?_)
  have hmap : (vs.toArray.zip vs.toArray).map (·.2) = vs.toArray := by
    rw [List.zip_toArray, List.map_toArray]
    congr 1
    exact List.map_snd_zip (Nat.le_refl _)
  have harr : (arrOf (SortSt.mk' general' (vs.toArray.zip vs.toArray) #[] 7 none)).map (·.2) = vs.toArray := hmap
  refine wpAny_bind (listUpdate_at ho6 rfl ?_ (hsz2 := by rw [harr, sizeLine_eq]; simp; lia))
  simp only [bne_self_eq_false, Bool.false_eq_true, if_false]
  refine wpAny_pure ?_
  rw [show (fun x : Array Value => (arrOf (SortSt.mk' general' (vs.toArray.zip vs.toArray) #[] 7 none)).map (·.2)) = fun _ => vs.toArray from funext fun _ => harr]
  exact h
theorem sortM {w : World} {dp un : Nat} {fr : Option (List Env)} {gu : Option (List Code)} {s : Shared} {h₀ : Heap} {L lm : Addr} {m : Str → Option Value} {rest : List (Addr × Obj)} {E : Value → Shared → Prop} {Q : Value → Shared → Prop} {ms : List Value} {nm : Nat} {bl total : List Pure.Blk} {P : Params}
    (F : Fr h₀ L s.heap m) (N : News h₀ L s.heap ((lm, W.listOf ms.toArray nm) :: rest)) (hne : ∀ p ∈ rest, p.1 ≠ lm) (X : (K P).In h₀) (hu : un + 1 < cLine) (hm : Ms rest ms bl) (hp : bl.Perm total) (hs : total.Pairwise (fun a b => a.1 < b.1)) (h64 : total.length < 64)
    (h : ∀ h' tk ms' nm', Fr h₀ L h' m → News h₀ L h' ((lm, W.listOf (List.toArray ms') nm') :: rest) → Ms rest ms' total → Q .none { s with heap := h', toks := tk }) :
    wpAny (model pw w) (Around.mk none dp fr gu un) (call (.builtin "list.sort") [.ref lm]) Q E s := by
  have hlen := hm.length
  have hlen2 := hp.length_eq
  have hnd := Pure.nodup_fst hp hs
  by_cases h2 : 2 ≤ ms.length
  · refine kas_lsort (T := .ref 135) F N (UpdF.head hne) rfl h2 (by show ms.length < 64; lia) (fun e1 h' F' N' v hv => ?_) (by decide) fun e1 h' F' N' => ?_
    · have hv' : v ∈ ms := hv
      obtain ⟨i, hi, rfl⟩ := List.mem_iff_getElem.mp hv'
      obtain ⟨a, dy, t1, t2, t3, e1, e2⟩ := hm.get i (by exact (Nat.lt_of_lt_of_le hi (Nat.le_of_eq hlen)))
      have e3 : ms.getD i Value.none = ms[i] := by simp [hi]
      rw [← e3, e1]
      exact (Looks.ld (N' _ (.tail _ e2)).1).andThen .now
    · have hn : ∀ i j, i < ms.length → j < ms.length → i ≠ j → (bl.getD i Pure.z3).1 ≠ (bl.getD j Pure.z3).1 := fun i j hi hj hij => Pure.getD_inj hnd (by lia) (by lia) hij
      obtain ⟨p, ep, pp, ps⟩ := Srt.r_sort (v := fun i => (bl.getD i Pure.z3).1) (n := ms.length) (by (clear hlen2 hlen h64 hu; lia)) hn
      refine Srt.kasWp_run (lt := Srt.ltv fun i => (bl.getD i Pure.z3).1) (Inv := fun s' => ∃ tk, s' = { s with heap := h', toks := tk }) (n := ms.length) ?_ (kas_sort ms.length) (Srt.v_sort (by (clear hlen2 hlen h64 hu; lia))) _ ⟨s.toks, rfl⟩ ?_
      · rintro i j C s' hi hj ⟨tk, rfl⟩ hC
        obtain ⟨a, dy, t1, t2, t3, e1, e2⟩ := hm.get i (by lia)
        obtain ⟨b, dz, u1, u2, u3, f1, f2⟩ := hm.get j (by lia)
        show wpAny _ _ (keyLt' oneType' (ms.getD i Value.none) (ms.getD j Value.none)) C _ _
        rw [e1, f1]
        refine keyLtM (by show un + 1 < cLine; exact hu) (X.keeps F'.keep) (N' _ (.tail _ e2)).1 (N' _ (.tail _ f2)).1 fun tk' => ?_
        have := hC { s with heap := h', toks := tk' } ⟨tk', rfl⟩
        unfold Srt.ltv at this
        have eq : decide ((((bl.getD i Pure.z3).1 : Nat) : Int) < ((bl.getD j Pure.z3).1 : Nat) ∨ (((bl.getD i Pure.z3).1 : Nat) : Int) = ((bl.getD j Pure.z3).1 : Nat) ∧ ((((bl.getD i Pure.z3).2.1 : Nat) : Int) < ((bl.getD j Pure.z3).2.1 : Nat) ∨ (((bl.getD i Pure.z3).2.1 : Nat) : Int) = ((bl.getD j Pure.z3).2.1 : Nat) ∧ (((bl.getD i Pure.z3).2.2 : Nat) : Int) < ((bl.getD j Pure.z3).2.2 : Nat))) = decide ((bl.getD i Pure.z3).1 < (bl.getD j Pure.z3).1) := by
          by_cases hij : i = j
          · subst hij; rw [decide_eq_decide]; lia
          · have := hn i j hi hj hij; rw [decide_eq_decide]; (clear hj hi hu; omega)
        rw [eq]; exact this
      · rintro s' ⟨tk, rfl⟩
        rw [ep]
        have hpr : p.toList.Perm (List.range bl.length) := by rw [← hlen]; exact pp
        have ht := Pure.sorted_total hp hs hpr (fun i j hij hj => ps i j hij (by lia))
        have hMs := hm.map p.toList (fun i hi => by have := hpr.mem_iff.mp hi; simpa using this)
        rw [ht] at hMs
        exact KasFin.intro F' N' (UpdF.head hne) fun h'' c F'' N'' => h h'' tk _ c F'' N'' hMs
  · have hbt : bl = total := by
      match bl, total, hp, hlen, hlen2 with
      | [], [], _, _, _ => rfl
      | [x], [y], hp, _, _ => simpa using hp
      | _ :: _ :: _, _, _, e, _ => simp at e; lia
      | [], _ :: _, _, _, e => simp at e
      | [_], [], _, _, e => simp at e
      | [_], _ :: _ :: _, _, _, e => simp at e
    subst hbt
    have nz := N (lm, W.listOf ms.toArray nm) (.head _)
    refine wpAny_call_entry slot_list_sort ⟨_, nz.1, rfl⟩ entry_list_sort (small_sort nz.1 (by exact (Nat.not_le.mp h2)) ⟨_, rfl, ?_⟩) (args_list_sort _)
    have s1 := Heap.SameBut.update s.heap lm (Obj.mapSeq fun _ => (#[] : Array Value))
    have N0 : News h₀ L s.heap rest := fun p hp => N p (.tail _ hp)
    have F1 := ((kas_fr F s1 nz.2.1 nz.2.2).push (seqObj "tuple" ms.toArray 0)).push (seqObj "list" #[] 0)
    have N1 : News h₀ L (((s.heap.update lm (Obj.mapSeq fun _ => (#[] : Array Value))).push (seqObj "tuple" ms.toArray 0)).push (seqObj "list" #[] 0)) rest :=
      (kas_news N0 s1 hne).grown fun b x e => Heap.get?_push_of_some _ (Heap.get?_push_of_some _ e)
    have s2 := Heap.SameBut.update (((s.heap.update lm (Obj.mapSeq fun _ => (#[] : Array Value))).push (seqObj "tuple" ms.toArray 0)).push (seqObj "list" #[] 0)) lm (Obj.mapSeq fun _ => ms.toArray)
    obtain ⟨e1, ho1⟩ : ∃ e1, (s.heap.update lm (Obj.mapSeq fun _ => (#[] : Array Value))).get? lm = some (seqObj "list" #[] e1) := ⟨_, get?_update_seq nz.1 fun _ => #[]⟩
    have ho3 := Heap.get?_push_of_some (seqObj "list" #[] 0) (Heap.get?_push_of_some (seqObj "tuple" ms.toArray 0) ho1)
    obtain ⟨e2, ho2⟩ : ∃ e2, ((((s.heap.update lm (Obj.mapSeq fun _ => (#[] : Array Value))).push (seqObj "tuple" ms.toArray 0)).push (seqObj "list" #[] 0)).update lm (Obj.mapSeq fun _ => ms.toArray)).get? lm = some (seqObj "list" ms.toArray e2) := ⟨_, get?_update_seq ho3 fun _ => ms.toArray⟩
    refine h _ s.toks ms e2 (kas_fr F1 s2 nz.2.1 nz.2.2) (fun p hp => ?_) hm
    rcases List.mem_cons.mp hp with rfl | hp
    · exact ⟨ho2, nz.2⟩
    · exact kas_news N1 s2 hne p hp
end Mine
end
section
open PySem PySem.W PySem.Calls PyProof.Rows
set_option maxRecDepth 100000
set_option maxHeartbeats 4000000
set_option Elab.async false
set_option linter.unusedVariables false
namespace Mine
section
variable {prog : Program} {w : World} {A : Around} {E : Value → Shared → Prop} {s : Shared} {env : Env} {h₀ : Heap} {body : List Stmt} {Q : Flow → Shared → Prop}
noncomputable def TurnEnd (h₀ : Heap) (L I : Addr) (oI : Obj) (J : (Str → Option Value) → List (Addr × Obj) → Prop) (s : Shared) (f : Flow) (s₂ : Shared) : Prop :=
  f = .next ∧ ∃ h' tk' m' news', s₂ = { s with heap := h', toks := tk' } ∧ Fr h₀ L h' m' ∧ News h₀ L h' ((I, oI) :: news') ∧ (∀ p ∈ news', p.1 ≠ I) ∧ J m' news'
theorem TurnEnd.intro {L I : Addr} {oI : Obj} {J : (Str → Option Value) → List (Addr × Obj) → Prop} {h' : Heap} {tk' : Nat} {m' : Str → Option Value} {news' : List (Addr × Obj)} (F : Fr h₀ L h' m') (N : News h₀ L h' ((I, oI) :: news')) (hn : ∀ p ∈ news', p.1 ≠ I) (hj : J m' news') :
    TurnEnd h₀ L I oI J s .next { s with heap := h', toks := tk' } := ⟨rfl, h', tk', m', news', rfl, F, N, hn, hj⟩
noncomputable def IterStopT (prog : Program) (w : World) (A : Around) (v : Value) (Q : Value → Shared → Prop) (E : Value → Shared → Prop) (s : Shared) : Prop := wpAny (model prog w) A (pyIter v) Q E s
theorem ForT_mine {elts : List Expr} {x1 : Nat} {tpos pos : Pos} {iter : Expr} (h₀ : Heap)
    (h : wpAny (model prog w) A (eval iter env) (fun xv s₁ => IterStopT prog w A xv (fun it s₂ => LoopAtT prog w A h₀ env (.Tuple elts x1 tpos) body Q (fun _ _ => False) it s₂) (fun _ _ => False) s₁) (fun _ _ => False) s)
    (hs : ∀ x, foldedSetIterable iter env x = pure x := by intro _; rfl) :
    wpAny (model prog w) A (exec (.For (.Tuple elts x1 tpos) iter body [] pos) env) Q (fun _ _ => False) s := For_invT h₀ h hs
theorem iterT_list {elts : List Expr} {x1 : Nat} {tpos : Pos} {l : Addr} {vs : List Value} {nl : Nat} {m₀ : Str → Option Value} {news : List (Addr × Obj)} (J : Nat → (Str → Option Value) → List (Addr × Obj) → Prop)
    (hh : A.handled = none) (F : Fr h₀ env.locals s.heap m₀) (N : News h₀ env.locals s.heap news) (hl : (l, W.listOf vs.toArray nl) ∈ news) (hj : J 0 m₀ news) (hJ : ∀ i m₁ news₁, J i m₁ news₁ → (l, W.listOf vs.toArray nl) ∈ news₁)
    (turn : ∀ I i v m₁ news₁ s₁ oI, (∀ p ∈ news, p.1 < I) → vs[i]? = some v → J i m₁ news₁ → (∀ p ∈ news₁, p.1 ≠ I) → Fr h₀ env.locals (Shared.heap s₁) m₁ → News h₀ env.locals (Shared.heap s₁) ((I, oI) :: news₁) →
      wpAny (model prog w) A (assign (.Tuple elts x1 tpos) env v) (fun _ s₂ => wpAny (model prog w) A (execs body env) (TurnEnd h₀ env.locals I oI (J (i + 1)) s₁) (fun _ _ => False) s₂) (fun _ _ => False) s₁)
    (done : ∀ m₁ news₁ h tk, J vs.length m₁ news₁ → Fr h₀ env.locals h m₁ → News h₀ env.locals h news₁ → Q .next { s with heap := h, toks := tk }) :
    wpAny (model prog w) A (pyIter (.ref l)) (fun it s₂ => LoopAtT prog w A h₀ env (.Tuple elts x1 tpos) body Q (fun _ _ => False) it s₂) (fun _ _ => False) s := by
  have hls : s.heap.IsList l vs.toArray := N.isList hl
  have nl0 := N _ hl
  have hne : l ≠ s.heap.objs.size := Nat.ne_of_lt (Heap.lt_size nl0.1)
  refine wpAny_pyIter_list hls ?_
  have WW := Walks.list (prog := prog) (w := w) hh s.heap.objs.size l hne vs.toArray
  refine ⟨_, _, [s.heap.objs.size], vs.toArray.size, _, _, m₀, news, fun i m n => J i m n, rfl, WW, fun hm => ?_, fun b hb => by rw [List.mem_singleton.mp hb]; exact next_is_new F, fun p hp hm => ?_, ⟨⟨_, Heap.get?_push_size _ rfl, rfl, rfl⟩, hls.at fun o e => Heap.get?_push_of_some _ e⟩, F.push _, (fun p hp => ⟨Heap.get?_push_of_some _ (N p hp).1, (N p hp).2⟩), ?_, hj, ?_, ?_⟩
  · rcases List.mem_cons.mp hm with e | hm
    · exact absurd F.ns.lt (e ▸ Nat.lt_irrefl _)
    · exact nl0.2.1 (List.mem_singleton.mp hm).symm
  · exact absurd (Heap.lt_size (N p hp).1) ((List.mem_singleton.mp hm) ▸ Nat.lt_irrefl _)
  · intro i s' v Q' hst hq
    cases v with
    | ref a => exact wpAny_letOwnedTupleGo_listiter hst.1 hq
    | _ => exact wpAny_pure hq
  · rintro i v m₁ news₁ s₁ own hi hP hJi hoff hsub hget hall hst₁ F₁ N₁
    have hI := next_is_new F
    obtain ⟨oI, hoI, _⟩ := hst₁.1
    have mI := hall s.heap.objs.size (by simp) hI oI hoI
    have hlm := hJ _ _ _ hJi
    have N₂ : News h₀ env.locals s₁.heap ((s.heap.objs.size, oI) :: news₁) := fun p hp => by
      rcases List.mem_cons.mp hp with rfl | hp
      · exact N₁ _ (List.mem_append_left _ mI)
      · exact N₁ _ (List.mem_append_right _ hp)
    have ownI : ∀ p ∈ own, p = (s.heap.objs.size, oI) ∨ p = (l, W.listOf vs.toArray nl) := fun p hp => by
      have h1 := hget p hp
      obtain ⟨a, o⟩ := p
      rcases List.mem_cons.mp (hsub _ hp) with e | e
      · simp only at e h1; subst e; rw [hoI] at h1; rw [Option.some.inj h1]; exact .inl rfl
      · have e := List.mem_singleton.mp e
        simp only at e h1; subst e
        have h2 := (N₁ _ (List.mem_append_right _ hlm)).1
        simp only at h2
        rw [h2] at h1; rw [Option.some.inj h1]; exact .inr rfl
    refine wpAny_mono (turn s.heap.objs.size i v m₁ news₁ s₁ oI (fun p hp => Heap.lt_size (N p hp).1) (by simpa using hP) hJi (fun p hp e => hoff p hp (by simp [e])) F₁ N₂) (fun _ s₂ h₂ => wpAny_mono h₂ (fun f s₃ h₃ => ?_) fun _ _ e => e) fun _ _ e => e
    obtain ⟨rfl, h', tk', m', news', rfl, F', N', hn', hJ'⟩ := h₃
    refine ⟨rfl, h', tk', m', news', rfl, F', fun p hp => ?_, fun p hp hm => hn' p hp (List.mem_singleton.mp hm), hJ'⟩
    rcases List.mem_append.mp hp with hp | hp
    · rcases ownI p hp with rfl | rfl
      · exact N' _ (.head _)
      · exact N' _ (.tail _ (hJ _ _ _ hJ'))
    · exact N' _ (.tail _ hp)
  · intro h' tk m' news' F' N' _ hJn
    exact done m' news' h' tk (by simpa using hJn) F' N'
theorem iterT_listq {elts : List Expr} {x1 : Nat} {tpos : Pos} {l : Addr} {vs : List Value} {nl : Nat} {m₀ : Str → Option Value} {news : List (Addr × Obj)} (J : Nat → (Str → Option Value) → List (Addr × Obj) → Prop)
    (hh : A.handled = none) (F : Fr h₀ env.locals s.heap m₀) (N : News h₀ env.locals s.heap news) (hl : (l, W.listOf vs.toArray nl) ∈ news) (hj : J 0 m₀ news) (hJ : ∀ i m₁ news₁, J i m₁ news₁ → (l, W.listOf vs.toArray nl) ∈ news₁)
    (turn : ∀ I i v m₁ news₁ s₁ oI, (∀ p ∈ news, p.1 < I) → vs[i]? = some v → J i m₁ news₁ → (∀ p ∈ news₁, p.1 ≠ I) → Fr h₀ env.locals (Shared.heap s₁) m₁ → News h₀ env.locals (Shared.heap s₁) ((I, oI) :: news₁) →
      ∀ QB : Flow → Shared → Prop, (∀ f s', TurnEnd h₀ env.locals I oI (J (i + 1)) s₁ f s' → QB f s') → wpAny (model prog w) A (assign (.Tuple elts x1 tpos) env v) (fun _ s₂ => wpAny (model prog w) A (execs body env) QB (fun _ _ => False) s₂) (fun _ _ => False) s₁)
    (done : ∀ m₁ news₁ h tk, J vs.length m₁ news₁ → Fr h₀ env.locals h m₁ → News h₀ env.locals h news₁ → Q .next { s with heap := h, toks := tk }) :
    wpAny (model prog w) A (pyIter (.ref l)) (fun it s₂ => LoopAtT prog w A h₀ env (.Tuple elts x1 tpos) body Q (fun _ _ => False) it s₂) (fun _ _ => False) s :=
  iterT_list J hh F N hl hj hJ (fun I i v m₁ news₁ s₁ oI a b c d e f => turn I i v m₁ news₁ s₁ oI a b c d e f _ fun _ _ z => z) done
end
end Mine
end
section
open PySem PySem.W PySem.Calls PyProof.Rows
set_option maxRecDepth 100000
set_option maxHeartbeats 4000000
set_option Elab.async false
set_option linter.unusedVariables false
namespace Mine
inductive Ts (N : List (Addr × Obj)) : List Value → List Pure.Blk → Prop
  | nil : Ts N [] []
  | snoc {vs : List Value} {rs : List Pure.Blk} {a : Addr} {x1 x2 x3 : Nat} {t1 t2 t3 : Tok} : Ts N vs rs → (a, tupObj #[.int x1 t1, .int x2 t2, .int x3 t3]) ∈ N → Ts N (vs ++ [.ref a]) (rs ++ [(x1, x2, x3)])
theorem Ts.mono {N N' : List (Addr × Obj)} {vs : List Value} {rs : List Pure.Blk} (h : Ts N vs rs) (hs : ∀ p ∈ N, p ∈ N') : Ts N' vs rs := by
  induction h with
  | nil => exact .nil
  | snoc _ hm ih => exact .snoc ih (hs _ hm)
theorem Ts.length {N : List (Addr × Obj)} {vs : List Value} {rs : List Pure.Blk} (h : Ts N vs rs) : vs.length = rs.length := by
  induction h with
  | nil => rfl
  | snoc _ _ ih => simp [ih]
local macro_rules | `(tactic| k_all) => prem "assumption"
local macro_rules | `(tactic| walk_at "eval Name") => ln ``ld "k_asm rfl|assumption _" ""
local macro_rules | `(tactic| walk_at "loadName") => ln ``ldn "k_asm rfl|assumption _" ""
local macro_rules | `(tactic| walk_at "assign Tuple") => ln ``assignM "k_asm k_asm k_asm rfl assumption rfl rfl _" "h' F' N' hk'" false
local macro_rules | `(tactic| walk_at "call builtin:list.append") => ln ``appendL "k_asm k_asm k_upd assumption|omega|app1+omega _" "h' F' N'"
theorem js_join {st : Pure.Blk × List Pure.Blk} {b : Pure.Blk} (h : st.1.1 + st.1.2.2 = b.1 ∧ st.1.2.1 + st.1.2.2 = b.2.1) : Pure.joinStep st b = ((st.1.1, st.1.2.1, st.1.2.2 + b.2.2), st.2) := if_pos h
theorem js_zero {st : Pure.Blk × List Pure.Blk} {b : Pure.Blk} (h : ¬ (st.1.1 + st.1.2.2 = b.1 ∧ st.1.2.1 + st.1.2.2 = b.2.1)) (hk : st.1.2.2 = 0) : Pure.joinStep st b = (b, st.2) := by
  unfold Pure.joinStep; rw [if_neg h, if_pos hk]
theorem js_push {st : Pure.Blk × List Pure.Blk} {b : Pure.Blk} (h : ¬ (st.1.1 + st.1.2.2 = b.1 ∧ st.1.2.1 + st.1.2.2 = b.2.1)) (hk : st.1.2.2 ≠ 0) : Pure.joinStep st b = (b, st.2 ++ [st.1]) := by
  unfold Pure.joinStep; rw [if_neg h, if_neg hk]
theorem joinAll_succ {bl : List Pure.Blk} {i : Nat} (hi : i < bl.length) : Pure.joinAll (bl.take (i + 1)) = Pure.joinStep (Pure.joinAll (bl.take i)) (bl.getD i Pure.z3) := by
  unfold Pure.joinAll
  rw [List.take_succ_eq_append_getElem hi, List.foldl_append]
  simp [hi]
theorem gf_push {h₀ h : Heap} {L I D D2 lm ln : Addr} {oI o2 lmo lno : Obj} {m' : Str → Option Value} {tail' : List (Addr × Obj)} {J : (Str → Option Value) → List (Addr × Obj) → Prop} {s : Shared} {tk nn : Nat} {ns' : List Value} {p1 p2 p3 : Nat} {t1 t2 t3 : Tok}
    (F : Fr h₀ L h m') (N : News h₀ L h ((D2, o2) :: (D, tupObj #[.int p1 t1, .int p2 t2, .int p3 t3]) :: (I, oI) :: (lm, lmo) :: (ln, W.listOf (ns' ++ [Value.ref D]).toArray nn) :: tail')) (hD : @Ne Nat D I) (hoff : ∀ p ∈ (lm, lmo) :: (ln, lno) :: tail', p.1 ≠ I)
    (hj : J m' ((lm, lmo) :: (ln, W.listOf (ns' ++ [Value.ref D]).toArray nn) :: (D, tupObj #[.int p1 t1, .int p2 t2, .int p3 t3]) :: tail')) : TurnEnd h₀ L I oI J s .next { s with heap := h, toks := tk } := by
  refine TurnEnd.intro F (news_sub N fun p hp => ?_) (fun p hp => ?_) hj
  · simp only [List.mem_cons] at hp ⊢; grind
  · rcases List.mem_cons.mp hp with rfl | hp
    · exact hoff (lm, lmo) (.head _)
    · rcases List.mem_cons.mp hp with rfl | hp
      · exact hoff (ln, lno) (.tail _ (.head _))
      · rcases List.mem_cons.mp hp with rfl | hp
        · exact hD
        · exact hoff p (.tail _ (.tail _ hp))
inductive FInv (lm ln : Addr) (lmo : Obj) (tail : List (Addr × Obj)) (bl : List Pure.Blk) (m : Str → Option Value) (i : Nat) (m₁ : Str → Option Value) : List (Addr × Obj) → Prop
  | mk (ns' : List Value) (nn' : Nat) (tail' : List (Addr × Obj)) (t1 t2 t3 : Tok) : AllNe ln tail' → (∀ p ∈ tail, p ∈ tail') → Ts tail' ns' (Pure.joinAll (bl.take i)).2 → ns'.length ≤ i →
    m₁ (Str.ofString "i1") = some (.int (Pure.joinAll (bl.take i)).1.1 t1) → m₁ (Str.ofString "j1") = some (.int (Pure.joinAll (bl.take i)).1.2.1 t2) → m₁ (Str.ofString "k1") = some (.int (Pure.joinAll (bl.take i)).1.2.2 t3) →
    (∀ y, y ≠ Str.ofString "i1" → y ≠ Str.ofString "j1" → y ≠ Str.ofString "k1" → y ≠ Str.ofString "i2" → y ≠ Str.ofString "j2" → y ≠ Str.ofString "k2" → m₁ y = m y) → FInv lm ln lmo tail bl m i m₁ ((lm, lmo) :: (ln, W.listOf (List.toArray ns') nn') :: tail')
theorem gmb_for {w : World} {mg mb : Str → Option Value} {means : ExcName → Option Value} {dp un : Nat} {fr : Option (List Env)} {gu : Option (List Code)} {s : Shared} {h₀ : Heap} {L lm ln : Addr} {m : Str → Option Value} {tail : List (Addr × Obj)} {Q : Flow → Shared → Prop} {ms : List Value} {nm nn : Nat} {bl : List Pure.Blk} {t1 t2 t3 : Tok}
    (F : Fr h₀ L s.heap m) (N : News h₀ L s.heap ((lm, W.listOf ms.toArray nm) :: (ln, W.listOf #[] nn) :: tail)) (T' : Top q (looseW q loose) means mg mb h₀)
    (z1 : AllNe ln tail) (z2 : @Ne Nat lm ln) (hm : Ms tail ms bl) (h64 : bl.length < 64)
    (m1 : m (Str.ofString "i1") = some (.int 0 t1)) (m2 : m (Str.ofString "j1") = some (.int 0 t2)) (m3 : m (Str.ofString "k1") = some (.int 0 t3)) (mm : m (Str.ofString "matching_blocks") = some (.ref lm)) (mn : m (Str.ofString "non_adjacent") = some (.ref ln))
    (hQ : ∀ h' tk m' ns' nn' tail' t1 t2 t3, Fr h₀ L h' m' → News h₀ L h' ((lm, W.listOf ms.toArray nm) :: (ln, W.listOf (List.toArray ns') nn') :: tail') → AllNe ln tail' → (∀ p ∈ tail, p ∈ tail') → Ts tail' ns' (Pure.joinAll bl).2 →
      m' (Str.ofString "i1") = some (.int (Pure.joinAll bl).1.1 t1) → m' (Str.ofString "j1") = some (.int (Pure.joinAll bl).1.2.1 t2) → m' (Str.ofString "k1") = some (.int (Pure.joinAll bl).1.2.2 t3) →
      (∀ y, y ≠ Str.ofString "i1" → y ≠ Str.ofString "j1" → y ≠ Str.ofString "k1" → y ≠ Str.ofString "i2" → y ≠ Str.ofString "j2" → y ≠ Str.ofString "k2" → m' y = m y) → Q .next { s with heap := h', toks := tk }) :
    (K w.params).In h₀ → PySem.Challenge.rw_dm0054_12.prog = pw → wpAny (model pw w) (Around.mk none dp fr gu un) (exec (stAt (fnBody (mem 5 7)) 9) (gmbEnv L)) Q (fun _ _ => False) s := by
  k_fill
  intro X' hpw
  refine ForT_mine h₀ ?_
  k_steps
  unfold IterStopT
  refine iterT_listq (FInv lm ln (W.listOf ms.toArray nm) tail bl m) rfl F N (.head _) ⟨[], nn, tail, t1, t2, t3, z1, fun _ h => h, .nil, Nat.le_refl _, m1, m2, m3, fun _ _ _ _ _ _ _ => rfl⟩ (by rintro i m₁ news₁ ⟨⟩; exact .head _) ?_ ?_
  · rintro I i v m₁ news₁ s₁ oI hlt hv ⟨ns', nn', tail', t1', t2', t3', y1, hsub, hts, hnl, b1, b2, b3, hmm⟩ hoff F' N' QB hT
    have hi : i < ms.length := (List.getElem?_eq_some_iff.mp hv).1
    have hml := hm.length
    obtain ⟨a, dy, u1, u2, u3, e1, e2⟩ := hm.get i (by exact (Nat.lt_of_lt_of_le hi (Nat.le_of_eq hml)))
    have hva : v = .ref a := by rw [← e1]; simp [List.getD, hv]
    subst hva
    have hmem := hsub _ e2
    have hy := (N' _ (.tail _ (.tail _ (.tail _ hmem)))).1
    dsimp only at hy
    have c1 := (hmm (Str.ofString "non_adjacent") (by decide) (by decide) (by decide) (by decide) (by decide) (by decide)).trans mn
    have hyy := ne_of_allNe y1
    have hI1 : @LT.lt Nat _ lm I := hlt _ (.head _)
    have hI2 : @LT.lt Nat _ ln I := hlt _ (.tail _ (.head _))
    clear F N
    obtain ⟨hp, gg, dd, tk, os⟩ := s₁
    dsimp only at F' N' hy
    have ej := joinAll_succ (bl := bl) (i := i) (by exact (Nat.lt_of_lt_of_le hi (Nat.le_of_eq hml)))
    have hz : ns'.length < 2 ^ 24 := by lia
    k_steps
    · rename Fr _ _ _ _ => F₂
      rename News _ _ _ _ => N₂
      refine hT _ _ ?_
      exact TurnEnd.intro F₂ N₂ hoff ⟨ns', nn', tail', _, _, _, y1, hsub, (by rw [ej, js_join (by (clear hI2 hI1; lia))]; exact hts), by exact (Nat.le_trans hnl (Nat.le_succ _)), (by rw [ej, js_join (by lia)]; exact b1), (by rw [ej, js_join (by lia)]; exact b2), (by rw [ej, js_join (by lia)]; exact rfl), (fun y h1 h2 h3 h4 h5 h6 => by simp only [if_neg h1, if_neg h2, if_neg h3, if_neg h4, if_neg h5, if_neg h6]; exact hmm y h1 h2 h3 h4 h5 h6)⟩
    all_goals (rename Fr _ _ _ _ => F₂; rename News _ _ _ _ => N₂)
    all_goals refine hT _ _ ?_
    all_goals first
      | exact TurnEnd.intro F₂ (news_sub N₂ fun p hp => .tail _ hp) hoff ⟨ns', nn', tail', _, _, _, y1, hsub, (by rw [ej, js_zero (by lia) (by lia)]; exact hts), by exact (Nat.le_trans hnl (Nat.le_succ _)), (by rw [ej, js_zero (by lia) (by lia)]; exact rfl), (by rw [ej, js_zero (by lia) (by lia)]; exact rfl), (by rw [ej, js_zero (by lia) (by lia)]; exact rfl), (fun y h1 h2 h3 h4 h5 h6 => by simp only [if_neg h1, if_neg h2, if_neg h3, if_neg h4, if_neg h5, if_neg h6]; exact hmm y h1 h2 h3 h4 h5 h6)⟩
      | exact gf_push F₂ N₂ (by lia) hoff ⟨_, _, _, _, _, _, ⟨by lia, y1⟩, fun p hp => .tail _ (hsub p hp), (by rw [ej, js_push (by lia) (by lia)]; exact .snoc (hts.mono fun p hp => .tail _ hp) (.head _)), by simp; omega, (by rw [ej, js_push (by lia) (by lia)]; exact rfl), (by rw [ej, js_push (by lia) (by lia)]; exact rfl), (by rw [ej, js_push (by lia) (by lia)]; exact rfl), (fun y h1 h2 h3 h4 h5 h6 => by simp only [if_neg h1, if_neg h2, if_neg h3, if_neg h4, if_neg h5, if_neg h6]; exact hmm y h1 h2 h3 h4 h5 h6)⟩
  · rintro m₁ news₁ h tk ⟨ns', nn', tail', t1', t2', t3', y1, hsub, hts, hnl, b1, b2, b3, hmm⟩ F' N'
    have e : bl.take ms.length = bl := List.take_of_length_le (by rw [hm.length]; exact Nat.le_refl _)
    rw [e] at hts b1 b2 b3
    exact hQ h tk m₁ ns' nn' tail' t1' t2' t3' F' N' y1 hsub hts b1 b2 b3 hmm
end Mine
end
section
open PySem PySem.W PySem.Calls PyProof.Rows
set_option maxRecDepth 100000
set_option maxHeartbeats 4000000
set_option Elab.async false
set_option linter.unusedVariables false
namespace Mine
theorem mro_map : mroOf (.type "map") = pure [.type "map", .type "object"] := by rw [mroOf_type]; kernel_rfl
theorem lookup_map_new : typeLookup (.type "map") "__new__" = pure (some (.builtin "map.__new__")) := by rw [typeLookup_type, builtinLookup_eq_fast]; kernel_rfl
theorem slot_map_init : Slot "map" "__init__" "object.__init__" :=
  .of (owner := "object") (n := "__init__") (by rw [typeLookup_type, builtinLookup_eq_fast]; kernel_rfl) (by decide +kernel) (by decide +kernel) (by decide +kernel)
    (by first | exact .inl (by decide +kernel) | exact .inr (by decide +kernel)) (by rw [isSubtype_type]; kernel_rfl)
theorem called_map : TypeCalled "map" "map.__new__" "object.__init__" :=
  ⟨by decide +kernel, by decide +kernel, ⟨_, _, mro_map⟩, madeBy_type mro_map lookup_map_new (by decide +kernel), by decide +kernel, by rw [isSubtype_type]; kernel_rfl, slot_map_init⟩
theorem typeCall_map_2 (a b : Value) : checkTypeCall "map" ⟨[a, b], []⟩ = pure () := by kernel_rfl
theorem newCall_map_2 (a b : Value) : checkBuiltinCall "map.__new__" ⟨[.type "map", a, b], []⟩ = pure () := by kernel_rfl
theorem entry_map_new : entryFor table "map.__new__" = some Builtin.«map.__new__» := entryFor_of_tree (by kernel_rfl)
theorem sub_map : isSubtype (.type "map") (.type "map") = pure true := by rw [isSubtype_type]; kernel_rfl
noncomputable abbrev mapObj (T : Addr) (f : Value) : Obj := { cls := .type "map", data := .fields #[.ref T, f] }
section
variable {prog : Program} {w : World} {A : Around} {E : Value → Shared → Prop} {s : Shared}
theorem map_new_in (f : Value) (l : Addr) (items : Array Value) : MeetsIn prog w (Builtin.«map.__new__» ⟨[.type "map", f, .ref l], []⟩) (fun _ R s => s.heap.IsList l items ∧ R (.ok (.ret (.ref (s.heap.objs.size + 2))))
    { s with heap := ((s.heap.push { cls := .type "list_iterator", data := .fields #[.ref l, .int 0 0] }).push { cls := .type "tuple", data := .seq #[.ref s.heap.objs.size] }).push (mapObj (s.heap.objs.size + 1) f) }) :=
  .of_wp fun A R s h => by
    obtain ⟨hl, h⟩ := h
    have hsub := sub_map
    unfold Builtin.«map.__new__» Builtin.SmallTypes.newClass Builtin.SmallTypes.refuseKeywords
    refine wpAny_bind (wpAny_bind (wpAny_pure ?_))
    simp only [Bool.not_true, Bool.false_eq_true, if_false]
    refine wpAny_bind (wpAny_of_eq hsub ?_)
    simp only [Bool.not_true, Bool.false_eq_true, if_false]
    refine wpAny_pure ?_
    dsimp only
    refine wpAny_bind (wpAny_pure ?_)
    rw [if_neg (by simp)]
    unfold Builtin.SmallTypes.iterAll
    show wpAny _ _ (do
      let its ← (do
        let r ← forIn [Value.ref l] (#[] : Array Value) fun x r => do
          let y ← holding r.toList (pyIter x)
          pure (ForInStep.yield (r.push y))
        pure r.toList)
      let t ← newTuple its
      ret (← Builtin.SmallTypes.newRecord (.type "map") [t, f])) _ _ _
    refine wpAny_bind (wpAny_bind ?_)
    rw [List.forIn_cons]
    refine wpAny_bind (wpAny_bind (wpAny_holding (wpAny_pyIter_list hl (wpAny_pure ?_))))
    dsimp only
    rw [List.forIn_nil]
    refine wpAny_pure (wpAny_pure ?_)
    refine wpAny_bind (wpAny_newTuple ?_ (by simp [sizeLine]))
    refine wpAny_bind ?_
    unfold Builtin.SmallTypes.newRecord
    refine wpAny_newObj_type (wpAny_pure ⟨_, rfl, ?_⟩)
    rw [Heap.size_push, Heap.size_push]
    exact h
theorem map_call {f : Value} {l : Addr} {items : Array Value} {Q : Value → Shared → Prop} (hl : s.heap.IsList l items)
    (h : Q (.ref (s.heap.objs.size + 2)) { s with heap := ((s.heap.push { cls := .type "list_iterator", data := .fields #[.ref l, .int 0 0] }).push { cls := .type "tuple", data := .seq #[.ref s.heap.objs.size] }).push (mapObj (s.heap.objs.size + 1) f) }) :
    wpAny (model prog w) A (call (.type "map") [f, .ref l]) Q E s :=
  callType_newIn called_map (by decide) (typeCall_map_2 _ _) (newCall_map_2 _ _) (fun obj => F.args_object_init_3 obj _ _) entry_map_new (map_new_in f l items)
    ⟨hl, ⟨_, by heap_get, rfl⟩, h⟩
theorem slot_map_next : Slot "map" "__next__" "map.__next__" :=
  .of (owner := "map") (n := "__next__") (by rw [typeLookup_type, builtinLookup_eq_fast]; kernel_rfl) (by decide +kernel) (by decide +kernel) (by decide +kernel)
    (by first | exact .inl (by decide +kernel) | exact .inr (by decide +kernel)) (by rw [isSubtype_type]; kernel_rfl)
theorem entry_map_next : entryFor table "map.__next__" = some Builtin.«map.__next__» := entryFor_of_tree (by kernel_rfl)
theorem args_map_next (a : Value) : argsOk "map.__next__" ⟨[a], []⟩ := by unfold argsOk; kernel_rfl
theorem map_next_item {M T I l : Addr} {k : Nat} {items : Array Value} {x f : Value} {Q : Option Value → Shared → Prop} (hM : s.heap.get? M = some (mapObj T f)) (hT : s.heap.get? T = some { cls := .type "tuple", data := .seq #[.ref I] }) (hMI : M ≠ I)
    (hI : s.heap.IsListIter I l k) (hl : s.heap.IsList l items) (hx : items[k]? = some x)
    (h : ∀ h', h'.IsListIter I l (k + 1) → Heap.SameBut I s.heap h' → wpAny (model prog w) A.in1 (call f [x]) (fun v s' => Q (some v) s') (fun _ _ => False) { s with heap := h' }) : wpAny (model prog w) A (pyNext (.ref M)) Q E s := by
  have hTy : s.TypeIs (.ref M) "map" := ⟨_, hM, rfl⟩
  unfold pyNext
  refine wpAny_bind (wpAny_attempt (wpAny_callSpecial?_slot (name := Str.ofString "__next__") hTy slot_map_next
    (wpAny_call_entry slot_map_next hTy entry_map_next ?_ (args_map_next _))))
  show wpAny _ _ (field (.ref M) 0 >>= _) _ _ s
  refine wpAny_bind (wpAny_field hM rfl (x := .ref T) rfl ?_)
  refine wpAny_bind (wpAny_seqItems hT rfl ?_)
  dsimp only
  refine wpAny_bind ?_
  rw [← Array.forIn_toList]
  rw [List.forIn_cons]
  refine wpAny_bind (wpAny_bind (wpAny_holding (wpAny_nextOf_list_item hI hl hx fun h' hI' hs' => wpAny_pure ?_)))
  dsimp only
  rw [List.forIn_nil]
  refine wpAny_pure ?_
  show wpAny _ _ (field (.ref M) 1 >>= _) _ _ _
  refine wpAny_bind (wpAny_field (s := { s with heap := h' }) ((hs'.2 M hMI).trans hM) rfl (x := f) rfl ?_)
  refine wpAny_bind (wpAny_holding (wpAny_mono (h h' hI' hs') (fun v s' hv => ?_) fun _ _ e => e.elim))
  exact wpAny_bind (wpAny_letGo (wpAny_pure ⟨v, rfl, wpAny_pure hv⟩))
theorem map_next_end {M T I l : Addr} {k : Nat} {items : Array Value} {f : Value} {Q : Option Value → Shared → Prop} (hh : A.handled = none) (hM : s.heap.get? M = some (mapObj T f)) (hT : s.heap.get? T = some { cls := .type "tuple", data := .seq #[.ref I] })
    (hI : s.heap.IsListIter I l k) (hl : s.heap.IsList l items) (hx : items[k]? = none) (h : ∀ h', Heap.ExtBut I s.heap h' → Q none { s with heap := h' }) : wpAny (model prog w) A (pyNext (.ref M)) Q E s := by
  have hTy : s.TypeIs (.ref M) "map" := ⟨_, hM, rfl⟩
  unfold pyNext
  refine wpAny_bind (wpAny_attempt (wpAny_callSpecial?_slot (name := Str.ofString "__next__") hTy slot_map_next
    (wpAny_call_entry slot_map_next hTy entry_map_next ?_ (args_map_next _))))
  show wpAny _ _ (field (.ref M) 0 >>= _) _ _ s
  refine wpAny_bind (wpAny_field hM rfl (x := .ref T) rfl ?_)
  refine wpAny_bind (wpAny_seqItems hT rfl ?_)
  dsimp only
  refine wpAny_bind ?_
  rw [← Array.forIn_toList]
  rw [List.forIn_cons]
  refine wpAny_bind (wpAny_bind (wpAny_holding (wpAny_nextOf_list_end hh hI hl hx fun h' e he ⟨o, ho, hc⟩ => ?_)))
  refine wpAny_bind (wpAny_isInstance (T := "StopIteration") (b := true) ⟨o, ho, hc⟩ isSubtype_stop ?_)
  exact wpAny_pure (h h' he)
end
end Mine
end
section
open PySem PySem.W PySem.Calls PyProof.Rows
set_option maxRecDepth 100000
set_option maxHeartbeats 4000000
set_option Elab.async false
set_option linter.unusedVariables false
namespace Mine
theorem tl_kind : builtinKind "tuple.__len__" = some .slot := by decide +kernel
theorem tl_split : splitId "tuple.__len__" = some ("tuple", "__len__") := by decide +kernel
section
variable {prog : Program} {w : World} {A : Around} {E : Value → Shared → Prop} {s : Shared} {P : Params}
theorem len135 {h : Heap} (X : (K P).In h) : Looks (model prog w) h (typeLookup (.ref 135) "__len__") (some (.builtin "tuple.__len__")) := looks_findIn X (by kernel_rfl!)
theorem lenM {y dy : Addr} {its : Array Value} {Q : Value → Shared → Prop} (X : (K P).In s.heap) (hy : s.heap.get? y = some (matchObj dy its)) (hz : its.size < 2 ^ 24)
    (h : ∀ tk t, Q (.int its.size t) { s with toks := tk }) : wpAny (model prog w) A (call (.builtin "len") [.ref y]) Q E s := by
  obtain ⟨hh, g, d, t, os⟩ := s
  dsimp only at X hy h
  have t1 : Looks (model prog w) hh (typeOf (.ref y)) (.ref 135) := (Looks.ld hy).andThen .now
  have t2 : Looks (model prog w) hh (isInstance (.ref y) (.type "tuple")) true := t1.andThen (subTup135 X)
  have i1 := len135 (prog := prog) (w := w) X
  have b1 : bindSpecial (.builtin "tuple.__len__") (.ref y) = pure (.builtin "tuple.__len__", [.ref y]) := slot_tuple_len.bind _
  have chk : checkBuiltinCall "len" ⟨[.ref y], []⟩ = pure () := by kernel_rfl
  have fin : ∀ (A' : Around) (Q' : Value → Shared → Prop) (E' : Value → Shared → Prop), Q' (.int its.size t) ⟨hh, g, d, t + 1, os⟩ → wpAny (model prog w) A' (call (.builtin "tuple.__len__") ([.ref y] ++ [])) Q' E' ⟨hh, g, d, t, os⟩ := by
    intro A' Q' E' hq
    refine wpAny_call (codeAny_call_builtin slot_tuple_len.plain entry_tuple_len (check_slot tl_kind tl_split t2 (args_tuple_len _) ?_))
    unfold Builtin.«tuple.__len__»
    repeat (first | exact hq | lk)
  refine wpAny_call (codeAny_call_builtin (by decide +kernel) entry_len (wpAny_of_eq chk ?_))
  unfold Builtin.«len» callSpecial? specialOf
  have n1 : ¬ ((its.size : Int) < 0) := by omega
  have n2 : ¬ ((its.size : Int) ≥ 2 ^ 63) := by omega
  repeat (first | exact h _ _ | (with_reducible refine fin _ _ _ ?_) | simp only [b1, if_neg n1, if_neg n2] | lk)
end
noncomputable abbrev mkFd : FuncData := fnOf (fnName (mem 3 5)) "Match._make" (fnArgs (mem 3 5)) (fnBody (mem 3 5)) (fnScope (mem 3 5)) .none .none (docV (mem 3 5) 293) (.str "cpy313.difflib" 194) (some 92) (.ref 88) .none
theorem mk_at (P : Params) : (K P).lookup 89 = some ⟨.type "function", none, .func mkFd, #[]⟩ := by kernel_rfl!
theorem mk_code (P : Params) : codeIn (K P) (.ref 88) "Match._make" = true := by kernel_rfl!
theorem mk_bind (c v : Value) : bindArgs mkFd ⟨[c, v], []⟩ = pure [(Str.ofString "cls", c), (Str.ofString "iterable", v)] := by kernel_rfl!
theorem mk_loc (c v : Value) : ([(Str.ofString "cls", c), (Str.ofString "iterable", v)].all fun x => decide ((fnScope (mem 3 5)).names.lookup x.1 = some .local)) = true := by kernel_rfl!
theorem meta_tuple' : typeOf (.type "tuple") = pure (.type "type") := by kernel_rfl
theorem tn_callB {w : World} {prog : Program} {A : Around} {E : Value → Shared → Prop} {s : Shared} {h₀ : Heap} {L tp : Addr} {m : Str → Option Value} {news : List (Addr × Obj)} {its : Array Value} {Q : Value → Shared → Prop} {P : Params} (F : Fr h₀ L s.heap m) (N : News h₀ L s.heap news) (X : (K P).In h₀)
    (ht : h₀.get? tp = some (⟨.type "tuple", none, .seq its 0, #[]⟩ : Obj)) (hz : its.size ≤ sizeLine)
    (h : ∀ x dx h', Fr h₀ L h' m → News h₀ L h' ((x, matchObj dx its) :: news) → (∀ p ∈ news, p.1 < x) → Q (.ref x) { s with heap := h' }) :
    wpAny (model prog w) A (call (.builtin "tuple.__new__") [.ref 135, .ref tp] []) Q E s := by
  obtain ⟨hh, g, d, t, os⟩ := s
  refine wpAny_call (tn_call (X.keeps F.keep) (F.keep _ _ ht) hz fun h' hk => ?_)
  dsimp only at F N hk
  have F1 : Fr h₀ L h' m := ⟨F.ns.keeps hk, fun b o e => hk _ _ (F.keep b o e), F.above⟩
  have N1 : News h₀ L h' news := fun p hp => ⟨hk _ _ (N p hp).1, (N p hp).2⟩
  have N2 := (N1.push F1 emptyDict).push (F1.push _) (matchObj h'.objs.size its)
  rw [Heap.size_push] at N2
  exact h _ _ _ ((F1.push _).push _) (fun p hp => N2 p (by
    rcases List.mem_cons.mp hp with rfl | hp
    · exact .head _
    · exact .tail _ (.tail _ hp))) fun p hp => Nat.lt_succ_of_lt (Heap.lt_size (N1 p hp).1)
local macro_rules | `(tactic| walk_at "call builtin:tuple.__new__") => ln ``tn_callB "k_asm k_asm k_asm assumption assumption _" "x' dx' h' F' N' l1" true false
local macro_rules | `(tactic| walk_at "getMethod type:tuple") => ln ``method_type "k_asm k_asm meta_tuple' decK tn_val+_ k_handed _" "" false
theorem lenMN {prog : Program} {w : World} {A : Around} {E : Value → Shared → Prop} {s : Shared} {h₀ : Heap} {L y dy : Addr} {m : Str → Option Value} {news : List (Addr × Obj)} {its : Array Value} {Q : Value → Shared → Prop} {P : Params} (F : Fr h₀ L s.heap m) (N : News h₀ L s.heap news) (X : (K P).In h₀) (hy : (y, matchObj dy its) ∈ news) (hz : its.size ≤ sizeLine)
    (hs : its.size = 3) (h : ∀ tk t, Q (.int 3 t) { s with toks := tk }) : wpAny (model prog w) A (call (.builtin "len") [.ref y]) Q E s :=
  lenM (X.keeps F.keep) (N _ hy).1 (by omega) fun tk t => by rw [hs]; exact h tk t
local macro_rules | `(tactic| walk_at "call builtin:len") => ln ``lenMN "k_asm k_asm k_asm d0 assumption rfl _" "tk' t'" true false
theorem make_ok {w : World} {mg mb : Str → Option Value} {means : ExcName → Option Value} {dp un : Nat} {fr : Option (List Env)} {gu : Option (List Code)} {s : Shared} {base : Heap} {R : Result → Shared → Prop} {v1 v2 v3 : Value} {tp : Addr}
    (T : Top q (looseW q loose) means mg mb base) (kb : Kept base s.heap) (hroom : dp < recursionLimit) (htp : s.heap.get? tp = some (tupObj #[v1, v2, v3]))
    (hR : ∀ x dx h' tk, Kept s.heap h' → s.heap.get? x = none → h'.get? x = some (matchObj dx #[v1, v2, v3]) → R (.ok (.ret (.ref x))) { s with heap := h', toks := tk }) :
    (K w.params).In base → PySem.Challenge.rw_dm0054_12.prog = pw → codeAny (model pw w) (Around.mk none dp fr gu un) (.call (.ref 89) ⟨[.ref 135, .ref tp], []⟩) R s := by
  have hz : (#[v1, v2, v3] : Array Value).size ≤ sizeLine := by simp [sizeLine]
  k_fill
  intro X₀ _
  refine enter [] X₀ T kb (fun _ h => nomatch h) hroom (mk_at _) (mk_code _) (.of_eq (mk_bind _ _)) (locs (mk_loc _ _)) ?_ (by kernel_rfl!) (by kernel_rfl!) (by kernel_rfl!) (by decide +kernel)
  intro L h₁ X' T' F' k₁ hL
  have N' : News (hideAll s.heap []) L h₁ [] := News.nil
  dsimp only [hideAll] at X' T' F' N'
  k_steps
  rename Fr _ _ _ _ => F₂
  rename News _ _ _ _ => N₂
  exact hR _ _ _ _ F₂.keep (N₂ _ (.head _)).2.2 (N₂ _ (.head _)).1
end Mine
end
section
open PySem PySem.W PySem.Calls PyProof.Rows
set_option maxRecDepth 100000
set_option maxHeartbeats 4000000
set_option Elab.async false
set_option linter.unusedVariables false
namespace Mine
theorem slot_map_iter : Slot "map" "__iter__" "map.__iter__" :=
  .of (owner := "map") (n := "__iter__") (by rw [typeLookup_type, builtinLookup_eq_fast]; kernel_rfl) (by decide +kernel) (by decide +kernel) (by decide +kernel)
    (by first | exact .inl (by decide +kernel) | exact .inr (by decide +kernel)) (by rw [isSubtype_type]; kernel_rfl)
theorem entry_map_iter : entryFor table "map.__iter__" = some Builtin.«dict_keyiterator.__iter__» :=
  entryFor_alias (id' := "dict_keyiterator.__iter__") (by kernel_rfl) rfl (by decide +kernel) (by kernel_rfl)
theorem args_map_iter (a : Value) : argsOk "map.__iter__" ⟨[a], []⟩ := by unfold argsOk; kernel_rfl
theorem map_no_len : typeLookup (.type "map") "__len__" = pure none := by rw [typeLookup_type, builtinLookup_eq_fast]; kernel_rfl
theorem map_no_hint : typeLookup (.type "map") "__length_hint__" = pure none := by rw [typeLookup_type, builtinLookup_eq_fast]; kernel_rfl
section
variable {prog : Program} {w : World} {A : Around} {E : Value → Shared → Prop} {s : Shared}
theorem map_iter {M T : Addr} {f : Value} {Q : Value → Shared → Prop} (hM : s.heap.get? M = some (mapObj T f)) (h : Q (.ref M) s) : wpAny (model prog w) A (pyIter (.ref M)) Q E s := by
  have hTy : s.TypeIs (.ref M) "map" := ⟨_, hM, rfl⟩
  refine wpAny_pyIter_slot hTy slot_map_iter (wpAny_call_entry slot_map_iter hTy entry_map_iter ?_ (args_map_iter _))
  show wpAny _ _ (ret (.ref M)) _ _ s
  exact wpAny_pure ⟨_, rfl, "map", _, hTy, slot_map_next.lookup, h⟩
noncomputable abbrev lst (acc : Array Value) (c : Nat) : Obj := { cls := .type "list", dict := none, data := .seq acc c, slots := #[] }
theorem list_map {M T : Addr} {f : Value} {Q : Value → Shared → Prop} (hM : s.heap.get? M = some (mapObj T f))
    (h : ∀ h', Heap.ExtBut s.heap.objs.size s.heap h' → (∃ c, h'.get? s.heap.objs.size = some (lst #[] c)) →
      codeAny (model prog w) A.in1 (.builtin "list.extend.loop" ⟨[.ref s.heap.objs.size, .ref M, .none], []⟩) (wants (fun r s₂ => r = .none ∧ Q (.ref s.heap.objs.size) s₂) E) { s with heap := h' }) :
    wpAny (model prog w) A (call (.type "list") [.ref M]) Q E s := by
  have hne : s.heap.objs.size ≠ M := fun e => by
    rw [← e, Heap.get?_none_of_le (Nat.le_refl _)] at hM
    cases hM
  refine callType_codes (Q₁ := fun obj s₁ => obj = .ref s.heap.objs.size ∧ s₁ = { s with heap := s.heap.push { cls := .type "list", data := .seq #[] } }) F.called_list (F.typeCall_list_1 _) F.entry_list_init
    (code_list_new _ ⟨rfl, rfl⟩) fun obj s₁ h₁ => ?_
  obtain ⟨rfl, rfl⟩ := h₁
  have hS : (s.heap.push { cls := .type "list", data := .seq #[] }).get? s.heap.objs.size = some { cls := .type "list", data := .seq #[] } := Heap.get?_push_size _ rfl
  have o1 : ∀ b o, s.heap.get? b = some o → (s.heap.push { cls := .type "list", data := .seq #[] }).get? b = some o := fun b o e => Heap.get?_push_of_some _ e
  refine ⟨⟨_, hS, rfl⟩, F.args_list_init_2 _ _, ?_⟩
  generalize s.heap.objs.size = S at *
  generalize s.heap.push { cls := .type "list", data := .seq #[] } = h1 at *
  show wpAny _ A.in1.in1 (do let old ← Builtin.List.listItems (.ref S); Builtin.List.listUpdate (.ref S) (fun _ => #[]); letGo old.toList.reverse; Builtin.List.listExtendWith (.ref S) (.ref M) .none) _ _ _
  refine wpAny_bind ?_
  unfold Builtin.List.listItems
  refine wpAny_bind (wpAny_seqItems hS rfl (wpAny_pure ?_))
  show wpAny _ A.in1.in1 (updateSeq S (fun _ => #[]) >>= fun _ => letGo (#[] : Array Value).toList.reverse >>= fun _ => Builtin.List.listExtendWith (.ref S) (.ref M) .none) _ _ _
  refine wpAny_bind (wpAny_updateSeq hS rfl ?_)
  have hS₂ := Heap.get?_update_self (Obj.mapSeq (fun _ => (#[] : Array Value))) hS rfl
  have o2 : ∀ b o, b ≠ S → s.heap.get? b = some o → (h1.update S (Obj.mapSeq (fun _ => (#[] : Array Value)))).get? b = some o :=
    fun b o hb e => (Heap.get?_update_other _ _ (Ne.symm hb)).trans (o1 b o e)
  refine wpAny_bind (wpAny_letGo ?_)
  dsimp only
  generalize h1.update S (Obj.mapSeq (fun _ => (#[] : Array Value))) = h2 at *
  have hM2 : h2.get? M = some (mapObj T f) := o2 M _ (Ne.symm hne) hM
  unfold Builtin.List.listExtendWith
  refine wpAny_bind (wpAny_typeOf (T := "map") ⟨_, hM2, rfl⟩ ?_)
  have g1 : Builtin.List.listSameRef (.ref S) (.ref M) = false := by simp [Builtin.List.listSameRef, hne]
  have g2 : (Value.type "map" == Value.type "list") = false := by decide
  have g3 : (Value.type "map" == Value.type "tuple") = false := by decide
  simp only [g1, g2, g3, Bool.or_false, Bool.false_eq_true, if_false]
  refine wpAny_bind (map_iter (s := { s with heap := h2 }) hM2 ?_)
  refine wpAny_bind (wpAny_holding ?_)
  unfold Builtin.List.listLengthHint
  refine wpAny_bind (wpAny_specialOf (T := "map") ⟨_, hM2, rfl⟩ map_no_len ?_)
  show wpAny _ A.in1.in1 (specialOf (Value.ref M) (Str.ofString "__length_hint__") >>= _) _ _ _
  refine wpAny_bind (wpAny_specialOf (T := "map") ⟨_, hM2, rfl⟩ map_no_hint ?_)
  refine wpAny_pure ?_
  show wpAny _ A.in1.in1 (rule "list.extend.makes-room" >>= fun _ => Builtin.List.listTouch (.ref S) >>= fun _ =>
    again (.builtin "list.extend.loop" ⟨[.ref S, .ref M, .none], []⟩)) _ _ _
  refine wpAny_bind (wpAny_rule ?_)
  refine wpAny_bind ?_
  show wpAny _ A.in1.in1 (updateSeq S (·.push .none) >>= fun _ => updateSeq S (·.pop)) _ _ _
  refine wpAny_bind (wpAny_updateSeq hS₂ rfl ?_)
  have hS₃ := Heap.get?_update_self (Obj.mapSeq (·.push Value.none)) hS₂ rfl
  refine wpAny_updateSeq (hz := by seq_fits) hS₃ rfl ?_
  have hS₄ := Heap.get?_update_self (Obj.mapSeq (·.pop)) hS₃ rfl
  refine wpAny_pure ⟨plainId_quiet F.plain_extend_loop _, h _ (fun b o hb e => ?_) ⟨_, hS₄⟩⟩
  exact (Heap.get?_update_other _ _ (Ne.symm hb)).trans ((Heap.get?_update_other _ _ (Ne.symm hb)).trans (o2 b o hb e))
end
theorem Ts.len {N : List (Addr × Obj)} {vs : List Value} {rs : List Pure.Blk} (h : Ts N vs rs) : vs.length = rs.length := by
  induction h with
  | nil => rfl
  | snoc _ _ ih => simp [ih]
theorem Ts.at {N : List (Addr × Obj)} {vs : List Value} {rs : List Pure.Blk} (h : Ts N vs rs) : ∀ k, k < vs.length → ∃ a x1 x2 x3 t1 t2 t3, vs[k]? = some (.ref a) ∧ (a, tupObj #[.int (x1 : Nat) t1, .int (x2 : Nat) t2, .int (x3 : Nat) t3]) ∈ N ∧ rs[k]? = some (x1, x2, x3) := by
  induction h with
  | nil => intro k hk; simp at hk
  | @snoc vs rs a x1 x2 x3 t1 t2 t3 hT hm ih =>
    intro k hk
    by_cases hl : k < vs.length
    · obtain ⟨a', y1, y2, y3, u1, u2, u3, e1, e2, e3⟩ := ih k hl
      refine ⟨a', y1, y2, y3, u1, u2, u3, ?_, e2, ?_⟩
      · rw [List.getElem?_append_left hl]; exact e1
      · rw [List.getElem?_append_left (hT.len ▸ hl)]; exact e3
    · have hk' : k = vs.length := by simp at hk; omega
      subst hk'
      refine ⟨a, x1, x2, x3, t1, t2, t3, by simp, hm, ?_⟩
      rw [hT.len]; simp
theorem map_loop {w : World} {mg mb : Str → Option Value} {means : ExcName → Option Value} {dp un : Nat} {fr : Option (List Env)} {gu : Option (List Code)} {s : Shared} {base h0 : Heap} {R : Result → Shared → Prop} {M T I l S p : Addr} {items : Array Value} {rs : List Pure.Blk} {N0 : List (Addr × Obj)}
    (X : (K w.params).In base) (TT : Top q (looseW q loose) means mg mb base) (kb : Kept base h0) (bI : base.get? I = none) (bS : base.get? S = none) (hroom : dp < recursionLimit) (hz : items.size < 2 ^ 24)
    (hI0 : ∃ o, h0.get? I = some o) (hIS : I ≠ S) (hMI : M ≠ I) (hMS : M ≠ S) (hTI : T ≠ I) (hTS : T ≠ S) (hlI : l ≠ I) (hlS : l ≠ S) (hpI : p ≠ I) (hpS : p ≠ S)
    (hM : h0.get? M = some (mapObj T (.ref p))) (hT : h0.get? T = some { cls := .type "tuple", data := .seq #[.ref I] }) (hp : h0.get? p = some (methodObj (.ref 89) (.ref 135))) (hl : h0.IsList l items)
    (ht : Ts N0 items.toList rs) (hN0 : ∀ x ∈ N0, h0.get? x.1 = some x.2 ∧ x.1 ≠ I ∧ x.1 ≠ S)
    (hR : ∀ h' tk acc c N, (∀ b o, b ≠ I → b ≠ S → h0.get? b = some o → h'.get? b = some o) → h'.get? S = some (lst acc c) → Ms N acc.toList rs → (∀ x ∈ N, h'.get? x.1 = some x.2 ∧ h0.get? x.1 = none ∧ x.1 ≠ S) → R (.ok (.ret .none)) { s with heap := h', toks := tk }) :
    ∀ n k h tk acc c N, items.size - k = n → k ≤ items.size → (∀ b o, b ≠ I → b ≠ S → h0.get? b = some o → h.get? b = some o) → h.IsListIter I l k → h.get? S = some (lst acc c) → Ms N acc.toList (rs.take k) → acc.size = k →
      (∀ x ∈ N, h.get? x.1 = some x.2 ∧ h0.get? x.1 = none ∧ x.1 ≠ S) →
      codeAny (model pw w) (Around.mk none dp fr gu un) (.builtin "list.extend.loop" ⟨[.ref S, .ref M, .none], []⟩) R { s with heap := h, toks := tk } := by
  have hlen : items.size = rs.length := by rw [← ht.len]; simp
  intro n
  induction n with
  | zero =>
    intro k h tk acc c N hn hk hkeep hI hS hms hsz hN
    have hk' : k = items.size := by lia
    subst hk'
    obtain ⟨ol, hol, rl⟩ := hl
    refine codeAny_builtin F.entry_extend_loop ?_
    rw [Around.under_plainId F.plain_extend_loop _]
    show wpAny _ _ (pyNext (.ref M) >>= _) _ _ _
    refine wpAny_bind (map_next_end (s := { s with heap := h, toks := tk }) rfl (hkeep _ _ hMI hMS hM) (hkeep _ _ hTI hTS hT) hI ⟨ol, hkeep _ _ hlI hlS hol, rl⟩ (by simp) fun h' he => ?_)
    refine wpAny_pure (hR h' _ acc c N (fun b o b1 b2 e => he _ _ b1 (hkeep b o b1 b2 e)) (he _ _ (Ne.symm hIS) hS) ?_ fun x hx => ⟨he _ _ (fun e => ?_) (hN x hx).1, (hN x hx).2⟩)
    · rw [hlen, List.take_length] at hms; exact hms
    · obtain ⟨oi, hoi⟩ := hI0
      have h1 := (hN x hx).2.1
      rw [e, hoi] at h1
      cases h1
  | succ n ih =>
    intro k h tk acc c N hn hk hkeep hI hS hms hsz hN
    have hlt : k < items.size := by (clear hsz hk hlen hz hroom; omega)
    obtain ⟨a, x1, x2, x3, t1, t2, t3, e1, e2, e3⟩ := ht.at k (by simpa using hlt)
    have e1' : items[k]? = some (.ref a) := by rw [← Array.getElem?_toList]; exact e1
    obtain ⟨ol, hol, rl⟩ := hl
    obtain ⟨oi, hoi⟩ := hI0
    obtain ⟨ha, haI, haS⟩ := hN0 _ e2
    refine codeAny_builtin F.entry_extend_loop ?_
    rw [Around.under_plainId F.plain_extend_loop _]
    show wpAny _ _ (pyNext (.ref M) >>= _) _ _ _
    refine wpAny_bind (map_next_item (s := { s with heap := h, toks := tk }) (hkeep _ _ hMI hMS hM) (hkeep _ _ hTI hTS hT) hMI hI ⟨ol, hkeep _ _ hlI hlS hol, rl⟩ e1' fun h1 hI1 hs1 => ?_)
    have k1 : ∀ b o, b ≠ I → h.get? b = some o → h1.get? b = some o := fun b o hb e => (hs1.2 b hb).trans e
    have kb1 : Kept base h1 := fun b o e => by
      have n1 : b ≠ I := fun e' => by rw [e', bI] at e; cases e
      have n2 : b ≠ S := fun e' => by rw [e', bS] at e; cases e
      exact k1 _ _ n1 (hkeep _ _ n1 n2 (kb _ _ e))
    refine wpAny_call (method_call (s := { s with heap := h1, toks := tk }) (k1 _ _ hpI (hkeep _ _ hpI hpS hp)) ?_)
    refine make_ok (s := { s with heap := h1, toks := tk }) (base := base) TT kb1 hroom (k1 _ _ haI (hkeep _ _ haI haS ha)) (fun y dy h2 tk2 k2 hy1 hy2 => ?_) X rfl
    have hS1 : h1.get? S = some (lst acc c) := k1 _ _ (Ne.symm hIS) hS
    have hS2 : h2.get? S = some (lst acc c) := k2 _ _ hS1
    have hyS : y ≠ S := fun e => by rw [e, hS1] at hy1; cases hy1
    show wpAny _ _ (updateSeq S (·.push (.ref y)) >>= _) _ _ _
    refine wpAny_bind ?_
    obtain ⟨oi1, hoi1, ri1⟩ := hI1
    have hyI : y ≠ I := fun e => by rw [e, hoi1] at hy1; cases hy1
    refine wpAny_updateSeq hS2 rfl (wpAny_pure ⟨plainId_quiet F.plain_extend_loop _, ih (k + 1) _ _ (acc.push (.ref y)) _ ((y, matchObj dy #[.int (x1 : Nat) t1, .int (x2 : Nat) t2, .int (x3 : Nat) t3]) :: N) (by (clear hlt hsz hlen hz hroom; omega)) (by exact hlt) (fun b o b1 b2 e => ?_) ⟨oi1, ?_, ri1⟩ (Heap.get?_update_self _ hS2 rfl) ?_ ?_ ?_⟩)
      (by simp only [sizeLine]; omega) (by show (acc.push (.ref y)).size ≤ sizeLine + 1; rw [Array.size_push]; simp only [sizeLine]; omega)
    · exact (Heap.get?_update_other _ _ (Ne.symm b2)).trans (k2 _ _ (k1 _ _ b1 (hkeep b o b1 b2 e)))
    · exact (Heap.get?_update_other _ _ (Ne.symm hIS)).trans (k2 _ _ hoi1)
    · rw [Array.toList_push, List.take_add_one, e3]
      exact .snoc (hms.mono fun x hx => List.mem_cons_of_mem _ hx) (List.mem_cons_self)
    · rw [Array.size_push, hsz]
    · intro x hx
      rcases List.mem_cons.mp hx with rfl | hx
      · refine ⟨(Heap.get?_update_other _ _ (Ne.symm hyS)).trans hy2, ?_, hyS⟩
        cases e : h0.get? y with
        | none => rfl
        | some o => 
          dsimp only at hy1
          rw [k1 _ _ hyI (hkeep _ _ hyI hyS e)] at hy1; cases hy1
      · obtain ⟨g1, g2, g3⟩ := hN x hx
        have n1 : x.1 ≠ I := fun e => by rw [e, hoi] at g2; cases g2
        exact ⟨(Heap.get?_update_other _ _ (Ne.symm g3)).trans (k2 _ _ (k1 _ _ n1 g1)), g2, g3⟩
end Mine
end
section
open PySem PySem.W PySem.Calls PyProof.Rows
set_option maxRecDepth 100000
set_option maxHeartbeats 4000000
set_option Elab.async false
set_option linter.unusedVariables false
namespace Mine
theorem Fr.hasL {h₀ h : Heap} {L : Addr} {m : Str → Option Value} (F : Fr h₀ L h m) : ∃ o, h.get? L = some o := by
  obtain ⟨o, _, _, hL, _⟩ := F.ns
  exact ⟨o, hL⟩
theorem news_add {h₀ h h' : Heap} {L a : Addr} {o : Obj} {m : Str → Option Value} {news : List (Addr × Obj)} (F : Fr h₀ L h m) (N : News h₀ L h news) (hk : Kept h h') (ho : h'.get? a = some o) (hn : h.get? a = none) : News h₀ L h' ((a, o) :: news) := by
  intro p hp
  rcases List.mem_cons.mp hp with rfl | hp
  · refine ⟨ho, fun e => ?_, F.noneBack hn⟩
    obtain ⟨oL, hL⟩ := Fr.hasL F
    rw [show a = L from e, hL] at hn
    cases hn
  · exact ⟨hk _ _ (N p hp).1, (N p hp).2⟩
noncomputable abbrev litObj (l : Addr) : Obj := { cls := .type "list_iterator", data := .fields #[.ref l, .int 0 0] }
section
variable {prog : Program} {w : World} {A : Around} {E : Value → Shared → Prop} {s : Shared}
theorem map_callN {h₀ : Heap} {L l : Addr} {m : Str → Option Value} {news : List (Addr × Obj)} {items : Array Value} {nl : Nat} {f : Value} {Q : Value → Shared → Prop} (F : Fr h₀ L s.heap m) (N : News h₀ L s.heap news) (hl : (l, W.listOf items nl) ∈ news)
    (h : ∀ h' M T I, Fr h₀ L h' m → News h₀ L h' ((M, mapObj T f) :: (T, tupObj #[.ref I]) :: (I, litObj l) :: news) → AllNe I news → Q (.ref M) { s with heap := h' }) :
    wpAny (model prog w) A (call (.type "map") [f, .ref l]) Q E s := by
  refine map_call (items := items) ⟨_, (N _ hl).1, rfl, _, rfl⟩ ?_
  have p1 : Kept s.heap (s.heap.push (litObj l)) := fun b o e => Heap.get?_push_of_some _ e
  have F1 := F.keeps p1
  have N1 := news_add F N p1 (a := s.heap.objs.size) (Heap.get?_push_size _ rfl) (Heap.get?_none_of_le (Nat.le_refl _))
  have p2 : Kept (s.heap.push (litObj l)) ((s.heap.push (litObj l)).push (tupObj #[.ref s.heap.objs.size])) := fun b o e => Heap.get?_push_of_some _ e
  have F2 := F1.keeps p2
  have N2 := news_add F1 N1 p2 (a := (s.heap.push (litObj l)).objs.size) (Heap.get?_push_size _ rfl) (Heap.get?_none_of_le (Nat.le_refl _))
  have p3 : Kept ((s.heap.push (litObj l)).push (tupObj #[.ref s.heap.objs.size])) (((s.heap.push (litObj l)).push (tupObj #[.ref s.heap.objs.size])).push (mapObj (s.heap.objs.size + 1) f)) := fun b o e => Heap.get?_push_of_some _ e
  have F3 := F2.keeps p3
  have N3 := news_add F2 N2 p3 (a := ((s.heap.push (litObj l)).push (tupObj #[.ref s.heap.objs.size])).objs.size) (Heap.get?_push_size _ rfl) (Heap.get?_none_of_le (Nat.le_refl _))
  rw [Heap.size_push, Heap.size_push] at N3
  exact h _ _ _ _ F3 N3 (allNe_of fun p hp => Nat.ne_of_lt (Heap.lt_size (N p hp).1))
end
theorem list_mapN {w : World} {mg mb : Str → Option Value} {means : ExcName → Option Value} {dp un : Nat} {fr : Option (List Env)} {gu : Option (List Code)} {s : Shared} {h₀ : Heap} {L M T I l p dx : Addr} {od : Obj} {m : Str → Option Value} {news : List (Addr × Obj)} {E : Value → Shared → Prop} {Q : Value → Shared → Prop} {items : Array Value} {nl : Nat} {rs : List Pure.Blk}
    (F : Fr h₀ L s.heap m) (N : News h₀ L s.heap ((M, mapObj T (.ref p)) :: (T, tupObj #[.ref I]) :: (I, litObj l) :: news)) (X : (K w.params).In h₀) (TT : Top q (looseW q loose) means mg mb h₀) (hne : AllNe I news) (hroom : dp < recursionLimit) (hz : items.size < 2 ^ 24)
    (hp : (p, methodObj (.ref 89) (.ref 135)) ∈ news) (hl : (l, W.listOf items nl) ∈ news) (ht : Ts news items.toList rs) (hd : (dx, od) ∈ news)
    (h : ∀ h' tk S ms c N', Fr h₀ L h' m → News h₀ L h' ((S, W.listOf (List.toArray ms) c) :: (dx, od) :: N') → @Ne Nat S dx → AllNe dx N' → Ms N' ms rs → Q (.ref S) { s with heap := h', toks := tk }) :
    wpAny (model pw w) (Around.mk none dp fr gu un) (call (.type "list") [.ref M]) Q E s := by
  have hM := (N _ (.head _)).1
  have hT := (N _ (.tail _ (.head _))).1
  have hI := (N _ (.tail _ (.tail _ (.head _)))).1
  have tl : ∀ x ∈ news, s.heap.get? x.1 = some x.2 ∧ x.1 ≠ I ∧ x.1 ≠ s.heap.objs.size := fun x hx => ⟨(N x (.tail _ (.tail _ (.tail _ hx)))).1, ne_of_allNe hne x hx, Nat.ne_of_lt (Heap.lt_size (N x (.tail _ (.tail _ (.tail _ hx)))).1)⟩
  have hMI : M ≠ I := fun e => by dsimp only at hM hI; rw [e, hI] at hM; simp at hM
  have hTI : T ≠ I := fun e => by dsimp only at hT hI; rw [e, hI] at hT; simp at hT
  have hMS := Nat.ne_of_lt (Heap.lt_size hM)
  have hTS := Nat.ne_of_lt (Heap.lt_size hT)
  have hIS := Nat.ne_of_lt (Heap.lt_size hI)
  have hLI : L ≠ I := fun e => (N _ (.tail _ (.tail _ (.head _)))).2.1 e.symm
  have hLS := Nat.ne_of_lt F.ns.lt
  refine list_map (s := s) hM fun h1 he hS => ?_
  obtain ⟨c, hS⟩ := hS
  refine map_loop (s := s) (base := h₀) (h0 := h1) (M := M) (T := T) (I := I) (l := l) (S := s.heap.objs.size) (p := p) (items := items) (rs := rs) (N0 := news) X TT ?_ (N _ (.tail _ (.tail _ (.head _)))).2.2 (F.noneBack (Heap.get?_none_of_le (Nat.le_refl _))) hroom hz
    ⟨_, he _ _ hIS hI⟩ hIS hMI hMS hTI hTS (tl _ hl).2.1 (tl _ hl).2.2 (tl _ hp).2.1 (tl _ hp).2.2 (he _ _ hMS hM) (he _ _ hTS hT) (he _ _ (tl _ hp).2.2 (tl _ hp).1) ⟨_, he _ _ (tl _ hl).2.2 (tl _ hl).1, rfl, _, rfl⟩
    ht (fun x hx => ⟨he _ _ (tl _ hx).2.2 (tl _ hx).1, (tl _ hx).2⟩) (fun h' tk acc c' Nn hk hS' hms hN => ?_) items.size 0 h1 s.toks #[] c [] rfl (Nat.zero_le _) (fun b o _ _ e => e) ⟨_, he _ _ hIS hI, rfl, rfl⟩ hS .nil rfl (fun x hx => nomatch hx)
  · intro b o e
    exact he _ _ (Nat.ne_of_lt (Heap.lt_size (F.keep _ _ e))) (F.keep _ _ e)
  · have k' : ∀ b o, b ≠ I → s.heap.get? b = some o → h'.get? b = some o := fun b o hb e => hk _ _ hb (Nat.ne_of_lt (Heap.lt_size e)) (he _ _ (Nat.ne_of_lt (Heap.lt_size e)) e)
    have fresh : ∀ b, h1.get? b = none → s.heap.get? b = none := fun b e => by
      cases e' : s.heap.get? b with
      | none => rfl
      | some o => rw [he _ _ (Nat.ne_of_lt (Heap.lt_size e')) e'] at e; cases e
    refine ⟨rfl, h h' tk _ acc.toList c' Nn ?_ ?_ ?_ ?_ hms⟩
    · refine ⟨?_, fun b o e => k' _ _ (fun e' => ?_) (F.keep _ _ e), F.above⟩
      · obtain ⟨oL, x1, x2, hL, r⟩ := F.ns
        exact ⟨oL, x1, x2, k' _ _ hLI hL, r⟩
      · have := (N _ (.tail _ (.tail _ (.head _)))).2.2
        dsimp only at this
        rw [e', this] at e; cases e
    · intro x hx
      rcases List.mem_cons.mp hx with rfl | hx
      · exact ⟨hS', Ne.symm hLS, F.noneBack (Heap.get?_none_of_le (Nat.le_refl _))⟩
      · rcases List.mem_cons.mp hx with rfl | hx
        · exact ⟨k' _ _ (tl _ hd).2.1 (tl _ hd).1, (N _ (.tail _ (.tail _ (.tail _ hd)))).2⟩
        · obtain ⟨g1, g2, g3⟩ := hN x hx
          refine ⟨g1, fun e => ?_, F.noneBack (fresh _ g2)⟩
          obtain ⟨oL, hL⟩ := Fr.hasL F
          have := fresh _ g2
          rw [e, hL] at this; cases this
    · exact Ne.symm (tl _ hd).2.2
    · refine allNe_of fun x hx e => ?_
      have := fresh _ (hN x hx).2.1
      rw [e, (tl _ hd).1] at this; cases this
end Mine
end
section
open PySem PySem.W PySem.Calls PyProof.Rows
set_option maxRecDepth 100000
set_option maxHeartbeats 4000000
set_option Elab.async false
set_option linter.unusedVariables false
namespace Mine
theorem gmb_at (P : Params) : (K P).lookup 203 = some ⟨.type "function", none, .func (fnAt 5 7 "SequenceMatcher.get_matching_blocks" .none (docV (mem 5 7) 517) (.ref 202)), #[]⟩ := by kernel_rfl!
theorem gmb_code (P : Params) : codeIn (K P) (.ref 202) "SequenceMatcher.get_matching_blocks" = true := by kernel_rfl!
theorem gmb_bind (x : Value) : bindArgs (fnAt 5 7 "SequenceMatcher.get_matching_blocks" .none (docV (mem 5 7) 517) (.ref 202)) ⟨[x], []⟩ = pure [(Str.ofString "self", x)] := by kernel_rfl!
theorem gmb_loc (x : Value) : ([(Str.ofString "self", x)].all fun x => decide ((fnScope (mem 5 7)).names.lookup x.1 = some .local)) = true := by kernel_rfl!
theorem SmB.hide {w : World} {h : Heap} {x dx la lb l2 lj : Addr} {as bs : List Int} {idx : Int → List Int} {S : Int → Bool} {es : List DictEntry} {n : Nat} (b : SmB w h x dx la lb as bs idx S l2 lj) (hd : h.get? dx = some (W.dictOf es n)) : SmB w (hideAll h [dx]) x dx la lb as bs idx S l2 lj := by
  have k : ∀ b o, b ≠ dx → h.get? b = some o → (hideAll h [dx]).get? b = some o := fun b o hb e => hideAll_get _ e fun q => hb (List.mem_singleton.mp q)
  have nl : ∀ l items, h.IsList l items → (hideAll h [dx]).IsList l items := fun l items ⟨o, ho, hc, n, hdat⟩ => ⟨o, k _ _ (fun e => by rw [e, hd] at ho; cases ho; cases hdat) ho, hc, n, hdat⟩
  obtain ⟨i, ⟨va, a1, a2⟩, ⟨vb, b1, b2⟩, ⟨f, n, ⟨o, es, ep, ho, r⟩, r2, r3, ⟨o', es', ep', t', ho', r', r'', r'''⟩, r5⟩, na, nb, ni⟩ := b
  refine ⟨k _ _ (fun e => by rw [e, hd] at i; cases i) i, ⟨va, nl _ _ a1, a2⟩, ⟨vb, nl _ _ b1, b2⟩, ⟨f, n, ⟨o, es, ep, k _ _ r5 ho, r⟩, r2, fun c => ?_, ⟨o', es', ep', t', k _ _ (fun e => by rw [e, hd] at ho'; cases ho'; cases r'') ho', r', r'', r'''⟩, r5⟩, na, nb, ni⟩
  rcases r3 c with h | ⟨lx, vx, e1, e2, e3⟩
  · exact .inl h
  · exact .inr ⟨lx, vx, e1, nl _ _ e2, e3⟩
local macro_rules | `(tactic| k_all) => prem "assumption"
local macro_rules | `(tactic| k_inst) => prem "inst_mix+k_asm+k_asm+m0+k_mem"
local macro_rules | `(tactic| walk_at "exec For") => stop ``exec_stop
local macro_rules | `(tactic| walk_at "exec While") => stop ``exec_stop
local macro_rules | `(tactic| walk_at "eval Name") => ln ``ld "k_asm rfl|assumption _" ""
local macro_rules | `(tactic| walk_at "loadName") => ln ``ldn "k_asm rfl|assumption _" ""
theorem gmb_first {h₀ h : Heap} {L lm lq D D2 dx : Addr} {o2 d : Obj} {nm nq : Nat} {na nb : Nat} {t1 t2 t3 t4 : Tok} (N : News h₀ L h [(lm, W.listOf #[] nm), (lq, W.listOf #[Value.ref D] nq), (D, tupObj #[.int 0 t1, .int na t2, .int 0 t3, .int nb t4]), (D2, o2), (dx, d)]) :
    News h₀ L h ((dx, d) :: (lq, W.listOf [Value.ref D].toArray nq) :: (lm, W.listOf ([] : List Value).toArray nm) :: [(D, tupObj #[.int 0 t1, .int na t2, .int 0 t3, .int nb t4])]) ∧ Regs [(D, tupObj #[.int 0 t1, .int na t2, .int 0 t3, .int nb t4])] [Value.ref D] [(0, na, 0, nb)] := by
  refine ⟨news_sub N fun p hp => ?_, .snoc (vs := []) (rs := []) (x1 := 0) (x3 := 0) .nil (.head _)⟩
  simp only [List.mem_cons] at hp ⊢
  grind
theorem gmb_second {h₀ h : Heap} {L lm lq dx : Addr} {d oq : Obj} {nm : Nat} {ms : List Value} {tail : List (Addr × Obj)} {bl : List Pure.Blk} (N : News h₀ L h ((dx, d) :: (lq, oq) :: (lm, W.listOf ms.toArray nm) :: tail)) (h1 : @Ne Nat dx lm) (h2 : AllNe lm tail) (hm : Ms tail ms bl) :
    News h₀ L h ((lm, W.listOf ms.toArray nm) :: (dx, d) :: tail) ∧ (∀ p ∈ (dx, d) :: tail, p.1 ≠ lm) ∧ Ms ((dx, d) :: tail) ms bl := by
  refine ⟨news_sub N fun p hp => ?_, fun p hp => ?_, hm.mono fun p hp => .tail _ hp⟩
  · simp only [List.mem_cons] at hp ⊢
    grind
  · rcases List.mem_cons.mp hp with rfl | hp
    · exact h1
    · exact ne_of_allNe h2 p hp
theorem joinStep_len (st : Pure.Blk × List Pure.Blk) (b : Pure.Blk) : (Pure.joinStep st b).2.length ≤ st.2.length + 1 := by
  unfold Pure.joinStep
  split
  · simp
  · dsimp only; split <;> simp
theorem joinAll_len (bl : List Pure.Blk) : (Pure.joinAll bl).2.length ≤ bl.length := by
  have : ∀ (bl : List Pure.Blk) (st : Pure.Blk × List Pure.Blk), (bl.foldl Pure.joinStep st).2.length ≤ st.2.length + bl.length := by
    intro bl
    induction bl with
    | nil => intro st; simp
    | cons b r ih => intro st; have := ih (Pure.joinStep st b); have := joinStep_len st b; simp only [List.foldl_cons, List.length_cons]; lia
  have := this bl ((0, 0, 0), [])
  simpa [Pure.joinAll] using this
theorem allNe_lt {d : Nat} : ∀ {l : List (Addr × Obj)}, AllLt d l → AllNe d l
  | [], _ => trivial
  | _ :: _, h => ⟨Nat.ne_of_lt h.1, allNe_lt h.2⟩
theorem gmb_third {h₀ h : Heap} {L ln lm : Addr} {om : Obj} {nn : Nat} {tail : List (Addr × Obj)} (N : News h₀ L h ((ln, W.listOf #[] nn) :: (lm, om) :: tail)) : News h₀ L h ((lm, om) :: (ln, W.listOf #[] nn) :: tail) := news_sub N fun p hp => by
  simp only [List.mem_cons] at hp ⊢
  grind
local macro_rules | `(tactic| walk_at "call builtin:list.sort") => ln ``sortM "k_asm k_asm assumption k_asm assumption assumption assumption assumption omega _" "h' tk' ms' nm' F' N' hms'"
local macro_rules | `(tactic| walk_at "call builtin:list.append") => ln ``appendL "k_asm k_asm k_upd assumption|omega|app1+omega _" "h' F' N'"
theorem none_back {h h₀ : Heap} {dx b : Addr} (k : ∀ b o, b ≠ dx → h.get? b = some o → h₀.get? b = some o) (hb : b ≠ dx) (e : h₀.get? b = none) : h.get? b = none := by
  cases q : h.get? b with
  | none => rfl
  | some o => rw [k b o hb q] at e; cases e
theorem mix_if {α : Type} {a b c : α} {T : List α} : ∀ p ∈ b :: c :: a :: T, p ∈ a :: b :: c :: T := by
  intro p hp; simp only [List.mem_cons] at hp ⊢; grind
theorem gmb_if {w : World} {mg mb : Str → Option Value} {means : ExcName → Option Value} {dp un : Nat} {fr : Option (List Env)} {gu : Option (List Code)} {s : Shared} {h₀ : Heap} {L lm ln : Addr} {m : Str → Option Value} {tail : List (Addr × Obj)} {Q : Flow → Shared → Prop} {om : Obj} {ns : List Value} {nn i1 j1 k1 : Nat} {rs : List Pure.Blk} {t1 t2 t3 : Tok}
    (F : Fr h₀ L s.heap m) (N : News h₀ L s.heap ((lm, om) :: (ln, W.listOf (List.toArray ns) nn) :: tail)) (T' : Top q (looseW q loose) means mg mb h₀) (z1 : AllNe ln tail) (z2 : @Ne Nat lm ln) (hts : Ts tail ns rs) (hz : ns.length < 2 ^ 24)
    (e1 : m (Str.ofString "i1") = some (.int i1 t1)) (e2 : m (Str.ofString "j1") = some (.int j1 t2)) (e3 : m (Str.ofString "k1") = some (.int k1 t3)) (mn : m (Str.ofString "non_adjacent") = some (.ref ln))
    (hQ : ∀ h' tk ns' nn' tail', Fr h₀ L h' m → News h₀ L h' ((lm, om) :: (ln, W.listOf (List.toArray ns') nn') :: tail') → AllNe ln tail' → (∀ p ∈ tail, p ∈ tail') → Ts tail' ns' (if k1 = 0 then rs else rs ++ [(i1, j1, k1)]) → Q .next { s with heap := h', toks := tk }) :
    (K w.params).In h₀ → PySem.Challenge.rw_dm0054_12.prog = pw → wpAny (model pw w) (Around.mk none dp fr gu un) (exec (stAt (fnBody (mem 5 7)) 10) (gmbEnv L)) Q (fun _ _ => False) s := by
  have zn := ne_of_allNe z1
  k_fill
  intro X' hpw
  refine wpAny_If ?_
  k_steps
  · rename Fr _ _ _ _ => F₂
    rename News _ _ _ _ => N₂
    rename (_ : Int) ≠ 0 => hk0
    rename _ ∧ _ ∧ AllLt _ _ => q1
    exact hQ _ _ _ _ (_ :: tail) F₂ (news_sub N₂ mix_if) ⟨by exact Ne.symm (Nat.ne_of_lt q1.2.1), z1⟩ (fun p hp => .tail _ hp) (by rw [if_neg (by lia)]; exact .snoc (hts.mono fun p hp => .tail _ hp) (.head _))
  · rename (_ : Int) = 0 => hk0
    exact hQ _ _ ns nn tail F N z1 (fun _ h => h) (by rw [if_pos (by lia)]; exact hts)
local macro_rules | `(tactic| walk_at "exec If Name") => stop ``exec_stop
theorem gmb_ok {w : World} {mg mb : Str → Option Value} {means : ExcName → Option Value} {dp un : Nat} {fr : Option (List Env)} {gu : Option (List Code)} {s : Shared} {base : Heap} {x dx la lb l2 lj lp : Addr} {R : Result → Shared → Prop} {as bs : List Int} {idx : Int → List Int} {S : Int → Bool} {ts : Nat → Tok} {ij aj oc fb : Value}
    (T : Top q (looseW q loose) means mg mb base) (kb : Kept base s.heap) (bdx : base.get? dx = none) (sm : SmB w s.heap x dx la lb as bs idx S l2 lj) (hd : s.heap.get? dx = some (selfD w.params ts ij (.ref la) (.ref lb) aj .none oc fb (.ref l2) (.ref lj) (.ref lp))) (hroom : dp + 6 < recursionLimit) (hu : un + 10 < cLine)
    (h64 : (Pure.roN (Pure.flm (fun i => as.getD i 0) (fun i => bs.getD i 0) idx S) (0, as.length, 0, bs.length)).length < 63) (hna : as.length < 2 ^ 20)
    (hs : (Pure.roN (Pure.flm (fun i => as.getD i 0) (fun i => bs.getD i 0) idx S) (0, as.length, 0, bs.length)).Pairwise (fun a b => a.1 < b.1))
    (hR : ∀ h' tk Sl ms c N', (∀ b o, b ≠ dx → s.heap.get? b = some o → h'.get? b = some o) → h'.get? dx = some (selfD w.params ts ij (.ref la) (.ref lb) aj (.ref Sl) oc fb (.ref l2) (.ref lj) (.ref lp)) → h'.get? Sl = some (W.listOf (List.toArray ms) c) → (∀ p ∈ N', h'.get? p.1 = some p.2 ∧ s.heap.get? p.1 = none) → s.heap.get? Sl = none →
      Ms N' ms (Pure.joined (Pure.roN (Pure.flm (fun i => as.getD i 0) (fun i => bs.getD i 0) idx S) (0, as.length, 0, bs.length)) as.length bs.length) → R (.ok (.ret (.ref Sl))) { s with heap := h', toks := tk }) :
    (K w.params).In base → PySem.Challenge.rw_dm0054_12.prog = pw → codeAny (model pw w) (Around.mk none dp fr gu un) (.call (.ref 203) ⟨[.ref x], []⟩) R s := by
  have hroom2 : dp + 1 + 1 < recursionLimit := by lia
  k_fill
  intro X₀ hpw
  refine enter [dx] X₀ T kb (fun a ha => List.mem_singleton.mp ha ▸ bdx) (by show dp < _; lia) (gmb_at _) (gmb_code _) (.of_eq (gmb_bind _)) (locs (gmb_loc _)) ?_ (by kernel_rfl!) (by kernel_rfl!) (by kernel_rfl!) (by decide +kernel)
  intro L h₁ X' T' F' k₁ hL
  have N' : News (hideAll s.heap [dx]) L h₁ [(dx, selfD w.params ts ij (.ref la) (.ref lb) aj .none oc fb (.ref l2) (.ref lj) (.ref lp))] := mods_news (news := [(dx, _)]) (fun p hp => by rw [List.mem_singleton.mp hp]; exact hd) k₁ hL
  have sm' := sm.hide hd
  have hk0 : ∀ b o, b ≠ dx → s.heap.get? b = some o → (hideAll s.heap [dx]).get? b = some o := fun b o hb e => hideAll_get _ e fun q => hb (List.mem_singleton.mp q)
  generalize hideAll s.heap [dx] = h₀ at hk0 X' T' F' N' sm'
  obtain ⟨hx, ⟨va, hla, hIa⟩, ⟨vb, hlb, hIb⟩, _, na, nb, ni⟩ := id sm'
  k_steps
  rename Fr _ _ _ _ => F₂
  rename News _ _ _ _ => N₂
  unfold ExecStop
  obtain ⟨N₀, hregs⟩ := gmb_first N₂
  refine gmb_while (total := Pure.roN (Pure.flm (fun i => as.getD i 0) (fun i => bs.getD i 0) idx S) (0, as.length, 0, bs.length)) (bl := []) F₂ N₀ T' sm' ⟨lp, rfl⟩ ⟨by lia, trivial⟩ ⟨by lia, trivial⟩ ⟨by lia, trivial⟩ (by lia) (by lia) (by lia) hregs .nil rfl rfl rfl
    (by simp) (by lia) (by intro r hr; rw [List.mem_singleton.mp hr]; exact ⟨Nat.zero_le _, Nat.le_refl _, Nat.zero_le _, Nat.le_refl _⟩) (by simp [Pure.meas]; lia) (by omega) ?_ X' hpw
  intro h₂ tk₂ m₂ ms₂ nq₂ nm₂ tail₂ bl₂ F₃ N₃ y1 y2 y3 hms hperm hsub hmm
  have d1 : m₂ (Str.ofString "matching_blocks") = some (.ref _) := hmm (Str.ofString "matching_blocks") (by decide) (by decide) (by decide) (by decide) (by decide) (by decide) (by decide) (by decide)
  have d2 : m₂ (Str.ofString "self") = some (.ref x) := hmm (Str.ofString "self") (by decide) (by decide) (by decide) (by decide) (by decide) (by decide) (by decide) (by decide)
  have d3 : m₂ (Str.ofString "la") = some (.int _ _) := hmm (Str.ofString "la") (by decide) (by decide) (by decide) (by decide) (by decide) (by decide) (by decide) (by decide)
  have d4 : m₂ (Str.ofString "lb") = some (.int _ _) := hmm (Str.ofString "lb") (by decide) (by decide) (by decide) (by decide) (by decide) (by decide) (by decide) (by decide)
  clear hmm
  generalize Pure.roN (Pure.flm (fun i => as.getD i 0) (fun i => bs.getD i 0) idx S) (0, as.length, 0, bs.length) = total at *
  clear F₂ N₂ N₀ hregs
  obtain ⟨N₅, hne, hms'⟩ := gmb_second N₃ (by lia) y3 hms
  clear N₃ hms
  have hu1 : un + 3 + 1 < cLine := by lia
  have h64' : total.length < 64 := by lia
  k_steps
  rename Ms _ _ total => hms₃
  rename Fr _ _ _ _ => F₅
  rename News _ _ _ _ => N₆
  unfold ExecStop
  rename _ ∧ _ ∧ AllLt _ _ => q1
  refine gmb_for F₅ (gmb_third N₆) T' ⟨by (clear nb hu; omega), allNe_lt q1.2.2⟩ (by exact (Nat.ne_of_lt q1.1)) hms₃ h64' rfl rfl rfl d1 rfl ?_ X' hpw
  intro h₄ tk₄ m₄ ns nn₄ tail₄ t1 t2 t3 F₆ N₇ z1 hsub₄ hts e1 e2 e3 hmm
  have c1 := hmm (Str.ofString "non_adjacent") (by decide) (by decide) (by decide) (by decide) (by decide) (by decide)
  have c2 := (hmm (Str.ofString "self") (by decide) (by decide) (by decide) (by decide) (by decide) (by decide)).trans d2
  have c3 := (hmm (Str.ofString "la") (by decide) (by decide) (by decide) (by decide) (by decide) (by decide)).trans d3
  have c4 := (hmm (Str.ofString "lb") (by decide) (by decide) (by decide) (by decide) (by decide) (by decide)).trans d4
  rw [if_pos rfl] at c1
  clear hmm F₅ N₆
  have hyy := ne_of_allNe z1
  have hts' := hts.length
  have hjl := joinAll_len total
  have hz0 : ns.length < 2 ^ 24 := by (clear q1 h64 nb; lia)
  k_steps
  unfold ExecStop
  refine gmb_if F₆ N₇ T' z1 (by exact (Nat.ne_of_lt q1.1)) hts hz0 e1 e2 e3 c1 ?_ X' hpw
  intro h₈ tk₈ ns' nn' tail' F₈ N₈ z1' hsub' hts₈
  clear F₆ N₇ hyy hts'
  have hdx := hsub' _ (hsub₄ _ (.head _))
  have hyy := ne_of_allNe z1'
  have hts' := hts₈.length
  have hz2 : ns'.length ≤ 64 := by
    rw [hts']; split
    · exact (Nat.le_of_lt (Nat.lt_of_le_of_lt hjl h64'))
    · rw [List.length_append]; exact Nat.le_trans (Nat.add_le_add hjl (Nat.le_refl _)) h64'
  have hz1 : ns'.length < 2 ^ 24 := by lia
  k_steps
  rename Fr _ _ _ _ => F₈
  rename News _ _ _ _ => N₈
  refine map_callN F₈ N₈ (.tail _ (.tail _ (.tail _ (.head _)))) ?_
  intro h₉ M₉ T₉ I₉ F₉ N₉ hI₉
  clear F₈ N₈
  k_steps
  refine list_mapN (rs := Pure.joined total as.length bs.length) F₉ N₉ X' T' hI₉ (by show dp + 1 < _; lia) (by simp; lia) (.head _) (.tail _ (.tail _ (.tail _ (.head _)))) (.snoc (x1 := as.length) (x2 := bs.length) (x3 := 0) (hts₈.mono fun p hp => .tail _ (.tail _ (.tail _ (.tail _ hp)))) (.tail _ (.head _))) (.tail _ (.tail _ (.tail _ (.tail _ hdx)))) ?_
  intro h tk S ms c N' F10 N10 hSdx hne hms
  clear F₉ N₉
  have hne' := ne_of_allNe hne
  k_steps
  rename Fr _ _ _ _ => F11
  rename News _ _ _ _ => N11
  exact hR _ _ S ms c N' (fun b o hb e => F11.keep _ _ (hk0 b o hb e)) (N11 _ (.tail _ (.head _))).1 (N11 _ (.head _)).1 (fun p hp => ⟨(N11 p (.tail _ (.tail _ hp))).1, none_back hk0 (hne' p hp) (N11 p (.tail _ (.tail _ hp))).2.2⟩) (none_back hk0 hSdx (N11 _ (.head _)).2.2) hms
end Mine
end
section
open PySem PySem.W PySem.Calls PyProof.Rows
set_option maxRecDepth 100000
set_option maxHeartbeats 4000000
set_option Elab.async false
set_option linter.unusedVariables false
namespace Mine
section
variable {prog : Program} {w : World} {A : Around} {E : Value → Shared → Prop} {s : Shared} {env : Env} {h₀ : Heap} {body : List Stmt} {Q : Flow → Shared → Prop}
inductive TurnEndO (h₀ : Heap) (L : Addr) (own : List (Addr × Obj)) (J : (Str → Option Value) → List (Addr × Obj) → Prop) (s : Shared) : Flow → Shared → Prop
  | intro {h' : Heap} {tk' : Nat} {m' : Str → Option Value} {news' : List (Addr × Obj)} : Fr h₀ L h' m' → News h₀ L h' (news' ++ own) → (∀ p ∈ news', ∀ q ∈ own, @Ne Nat p.1 q.1) → J m' news' → TurnEndO h₀ L own J s .next { s with heap := h', toks := tk' }
theorem mem_swap {α : Type} {l r : List α} {p : α} (h : p ∈ l ++ r) : p ∈ r ++ l := List.mem_append.mpr (List.mem_append.mp h).symm
theorem iterPair {a b : Str} {pa pb tp : Pos} {kk z n : Nat} {I : Addr} {wr now old : List Addr} {P Md : Nat → Value → Heap → Prop} {St : Nat → Heap → Prop} {PP : Nat → Value → Value → Prop} {m₀ : Str → Option Value} {news : List (Addr × Obj)} (J : Nat → (Str → Option Value) → List (Addr × Obj) → Prop)
    (hh : A.handled = none) (ha : env.kindOf a = some .local) (hb : env.kindOf b = some .local) (hp : (env.scope.kind == .class || (env.scope.kind == .module && env.locals != env.globals)) = false)
    (W : KTurns prog w A (.Tuple [.Name a pa, .Name b pb] kk tp) I (now ++ old) wr n P Md St) (hP : ∀ i v h, P i v h → ∃ T x y, v = .ref T ∧ PP i x y ∧ h.IsTuple T #[x, y])
    (hwr : ∀ b ∈ wr, b ∈ now) (hnow : ∀ b ∈ now, z ≤ b) (hold : ∀ b ∈ old, ∃ o, h₀.get? b = some o) (hex : ∀ i h, St i h → ∀ b ∈ now, ∃ o, h.get? b = some o) (hst : St 0 s.heap)
    (hL : env.locals < z) (hlt : ∀ p ∈ news, @LT.lt Nat _ p.1 z) (F : Fr h₀ env.locals s.heap m₀) (N : News h₀ env.locals s.heap news) (hj : J 0 m₀ news)
    (turn : ∀ own i x y m₁ news₁ h tk, PP i x y → J i m₁ news₁ → (∀ p ∈ news₁, ∀ q ∈ own, @Ne Nat p.1 q.1) → Fr h₀ env.locals h (fun z => if z = b then some y else if z = a then some x else m₁ z) → News h₀ env.locals h (news₁ ++ own) →
      ∀ QB : Flow → Shared → Prop, (∀ f s', TurnEndO h₀ env.locals own (J (i + 1)) { s with heap := h, toks := tk } f s' → QB f s') → wpAny (model prog w) A (execs body env) QB E { s with heap := h, toks := tk })
    (done : ∀ m₁ news₁ h tk, J n m₁ news₁ → Fr h₀ env.locals h m₁ → News h₀ env.locals h news₁ → Q .next { s with heap := h, toks := tk }) :
    TurnsAt prog w A h₀ env (.Tuple [.Name a pa, .Name b pb] kk tp) body Q E (.ref I) s := by
  have hn : ∀ b ∈ now, h₀.get? b = none := fun b hb => Heap.get?_none_of_le (Nat.le_trans F.above (Nat.le_of_lt (Nat.lt_of_lt_of_le hL (hnow b hb))))
  have hnn : ∀ p ∈ news, p.1 ∉ now := fun p hp hb => Nat.lt_irrefl _ (Nat.lt_of_lt_of_le (hlt p hp) (hnow _ hb))
  refine ⟨I, now ++ old, wr, n, P, Md, St, m₀, news, fun i m₁ n => J i m₁ n ∧ ∀ p ∈ n, p.1 ∉ now, rfl, W, fun h => (List.mem_append.mp h).elim (fun h => Nat.lt_irrefl _ (Nat.lt_of_lt_of_le hL (hnow _ h))) (fun h => (hold _ h).elim fun o e => Nat.lt_irrefl _ (Nat.lt_of_lt_of_le (Heap.lt_size e) F.above)), fun b hb => hn b (hwr b hb), fun p hp hb => hnn p hp (hwr _ hb), hst, F, N, ⟨hj, hnn⟩, ?_, fun h' tk m' news' F' N' _ hJ => done m' news' h' tk hJ.1 F' N'⟩
  clear F N hst hlt hnn hj done
  intro i v m₁ news₁ h₁ tk₁ own hi hPv hJ hoff hsub hget hall hst F₁ N₁
  obtain ⟨T, x, y, rfl, hx, hT⟩ := hP i v h₁ hPv
  refine kcp_assign hh hT ha hb hp F₁.ns fun h₂ tk₂ hn₂ hk₂ => ?_
  have F₂ : Fr h₀ env.locals h₂ (fun z => if z = b then some y else if z = a then some x else m₁ z) :=
    ⟨hn₂, fun c o e => hk₂ c o (fun q => Nat.lt_irrefl _ (Nat.lt_of_lt_of_le (q ▸ Heap.lt_size e) F₁.above)) (F₁.keep _ _ e), F₁.above⟩
  refine turn own i x y m₁ news₁ h₂ tk₂ hx hJ.1 (fun p hp q hq e => (List.mem_append.mp (hsub q hq)).elim (fun h => hJ.2 p hp (e ▸ h)) fun h => (hold _ h).elim fun o e => nomatch (N₁ q (List.mem_append_left _ hq)).2.2.symm.trans e) F₂ (fun p hp => have g := N₁ p (mem_swap hp); ⟨hk₂ _ _ g.2.1 g.1, g.2⟩) _ fun f s₃ h₃ => ?_
  cases h₃ with
  | @intro h' tk' m' news' F' N' hn' hJ' =>
    have no : ∀ p ∈ news', p.1 ∉ now := fun p hp hb => (hex _ _ hst _ hb).elim fun o e => hn' p hp _ (hall _ (List.mem_append_left _ hb) (hn _ hb) _ e) rfl
    exact LoopStepV.next ⟨rfl, h', tk', m', news', rfl, F', fun p hp => N' p (mem_swap hp), fun p hp hm => no p hp (hwr _ hm), hJ', no⟩
theorem iterEnumq {a b : Str} {pa pb tp : Pos} {kk : Nat} {l : Addr} {vs : List Value} {m₀ : Str → Option Value} {news : List (Addr × Obj)} (J : Nat → (Str → Option Value) → List (Addr × Obj) → Prop)
    (hh : A.handled = none) (ha : env.kindOf a = some .local) (hb : env.kindOf b = some .local) (hp : (env.scope.kind == .class || (env.scope.kind == .module && env.locals != env.globals)) = false)
    (hl : h₀.IsList l vs.toArray) (F : Fr h₀ env.locals s.heap m₀) (N : News h₀ env.locals s.heap news) (hj : J 0 m₀ news)
    (turn : ∀ own i x y m₁ news₁ h tk, (∃ t, x = .int (i : Nat) t) ∧ vs[i]? = some y → J i m₁ news₁ → (∀ p ∈ news₁, ∀ q ∈ own, @Ne Nat p.1 q.1) → Fr h₀ env.locals h (fun z => if z = b then some y else if z = a then some x else m₁ z) → News h₀ env.locals h (news₁ ++ own) →
      ∀ QB : Flow → Shared → Prop, (∀ f s', TurnEndO h₀ env.locals own (J (i + 1)) { s with heap := h, toks := tk } f s' → QB f s') → wpAny (model prog w) A (execs body env) QB E { s with heap := h, toks := tk })
    (done : ∀ m₁ news₁ h tk, J vs.length m₁ news₁ → Fr h₀ env.locals h m₁ → News h₀ env.locals h news₁ → Q .next { s with heap := h, toks := tk }) :
    wpAny (model prog w) A (call (.type "enumerate") [.ref l]) (fun xv s₁ => wpAny (model prog w) A (pyIter xv) (fun it s₂ => TurnsAt prog w A h₀ env (.Tuple [.Name a pa, .Name b pb] kk tp) body Q E it s₂) E s₁) E s := by
  have hls : s.heap.IsList l vs.toArray := hl.at fun o e => F.keep l o e
  obtain ⟨ol, hol, _⟩ := id hl
  have hlt : l < s.heap.objs.size := Heap.lt_size (F.keep _ _ hol)
  refine call_enumerate_list hls fun h' hE hI hsz hk => ?_
  refine wpAny_pyIter_enum hE ?_
  refine iterPair (s := { s with heap := h' }) (z := s.heap.objs.size) (now := [s.heap.objs.size + 1, s.heap.objs.size]) (old := [l]) J hh ha hb hp (KTurns.ofWalksU (WalksT.enumerate hh (s.heap.objs.size + 1) s.heap.objs.size l (Nat.succ_ne_self _) (Nat.ne_of_lt (Nat.lt_succ_of_lt hlt)) (Nat.ne_of_lt hlt) vs.toArray).toU) ?_ (fun _ h => h) (List.forall_mem_cons.mpr ⟨Nat.le_succ _, List.forall_mem_singleton.mpr (Nat.le_refl _)⟩) (List.forall_mem_singleton.mpr ⟨_, hol⟩) (fun i h st => List.forall_mem_cons.mpr ⟨st.1.elim fun _ e => ⟨_, e⟩, List.forall_mem_singleton.mpr (st.2.1.elim fun o e => ⟨o, e.1⟩)⟩)
    ⟨⟨_, hE⟩, hI, hls.at fun o e => hk _ _ e⟩ F.ns.lt (fun p hp => Heap.lt_size (N p hp).1) (F.keeps hk) (N.grown hk) hj turn done
  rintro i v h ⟨T, vals, rfl, ⟨t, x, hx, rfl⟩, hT⟩
  exact ⟨T, _, x, rfl, ⟨⟨t, rfl⟩, (List.getElem?_toArray ..).symm.trans hx⟩, hT⟩
end
section
variable {prog : Program} {w : World} {A : Around} {E : Value → Shared → Prop} {s : Shared} {h₀ : Heap} {L d D : Addr} {m : Str → Option Value} {news : List (Addr × Obj)}
noncomputable def without (d : Addr) (news : List (Addr × Obj)) : List (Addr × Obj) := news.filter fun p => decide (p.1 ≠ d)
theorem mem_without {p : Addr × Obj} : p ∈ without d news ↔ p ∈ news ∧ p.1 ≠ d := by simp [without]
theorem news_front {h : Heap} {o : Obj} (N : News h₀ L h news) (hm : (d, o) ∈ news) : News h₀ L h ((d, o) :: without d news) := news_sub N fun p hp => by
  rcases List.mem_cons.mp hp with rfl | hp
  · exact hm
  · exact (mem_without.mp hp).1
theorem setdefault_led {kv : List (Int × Value)} {o : Obj} {k : Int} {t : Tok} {dflt : Value} {Q : Value → Shared → Prop} (F : Fr h₀ L s.heap m) (N : News h₀ L s.heap news) (hm : (d, o) ∈ news) (ho : o.IsDictOf (intKind prog w) kv) (lo : (d == sysModules) = false) (hz : kv.length ≤ sizeLine)
    (h1 : ∀ v tk, valueAt kv k = some v → Q v { s with toks := tk })
    (h2 : valueAt kv k = none → ∀ h' o' tk, Fr h₀ L h' m → News h₀ L h' ((d, o') :: without d news) → o'.IsDictOf (intKind prog w) (PySem.stored kv k dflt) → Q dflt { s with heap := h', toks := tk }) :
    wpAny (model prog w) A (call (.builtin "dict.setdefault") [.ref d, .int k t, dflt]) Q E s := by
  have nm := N _ hm
  have hD : s.heap.DictOf (intKind prog w) d kv := Heap.dictOf_iff.mpr ⟨o, nm.1, ho⟩
  refine call_meetsIn PySem.F.slot_dict_setdefault hD.mapOf.typeIs PySem.F.entry_dict_setdefault (PySem.F.args_dict_setdefault_3 _ _ _) (kt_meets_setdefault (intKind prog w) d (intKind_is prog w k t) lo dflt) ⟨kv, hD, hz, fun v hv => h1 v _ hv, fun hn h' hd' hs => ?_⟩
  obtain ⟨o', ho', hd''⟩ := Heap.dictOf_iff.mp hd'
  exact h2 hn h' o' _ (F.change hs nm.2.1 nm.2.2) (News.setIn (own := []) (news_front N hm) (fun _ h => nomatch h) (fun p hp => (mem_without.mp hp).2) hs ho') hd''
theorem appendM {vs : List Value} {v : Value} {n : Nat} {Q : Value → Shared → Prop} (F : Fr h₀ L s.heap m) (N : News h₀ L s.heap news) (hm : (D, W.listOf vs.toArray n) ∈ news) (hz : vs.length < 2 ^ 24)
    (h : ∀ h', Fr h₀ L h' m → News h₀ L h' ((D, W.listOf (vs ++ [v]).toArray (n + 1)) :: without D news) → Q .none { s with heap := h' }) : wpAny (model prog w) A (call (.builtin "list.append") [.ref D, v]) Q E s := by
  have e : (vs ++ [v]).toArray = vs.toArray.push v := by simp
  rw [e] at h
  exact append_K F (news_front N hm) (.head fun p hp => (mem_without.mp hp).2) h (by unfold sizeLine; rw [List.size_toArray]; exact Nat.le_of_lt hz)
theorem getM_setdefault {kv : List (Int × Value)} {o : Obj} {pl : Sem Bool} {Q : Value × List Value → Shared → Prop} (N : News h₀ L s.heap news) (hm : (d, o) ∈ news) (ho : o.IsDictOf (intKind prog w) kv) (h : Q (.builtin "dict.setdefault", [.ref d]) s) : wpAny (model prog w) A (getMethod (.ref d) "setdefault" pl) Q E s :=
  have hD : s.heap.DictOf (intKind prog w) d kv := Heap.dictOf_iff.mpr ⟨o, (N _ hm).1, ho⟩
  getMethod_builtin hD.mapOf.typeIs PySem.F.plainAttrs_dict PySem.F.slot_dict_setdefault PySem.F.type_dict_setdefault hD.mapOf.noDict h
end
end Mine
end
section
namespace Pure
noncomputable def places (b : Nat → Int) (n : Nat) (c : Int) : List Int := ((List.range n).filter fun j => b j == c).map fun (j : Nat) => (j : Int)
theorem places_zero (b : Nat → Int) (c : Int) : places b 0 c = [] := rfl
theorem places_succ (b : Nat → Int) (n : Nat) (c : Int) : places b (n + 1) c = places b n c ++ (if b n = c then [(n : Int)] else []) := by
  unfold places
  rw [List.range_succ, List.filter_append, List.map_append]
  congr 1
  by_cases h : b n = c
  · simp [h]
  · simp [h]
theorem places_len (b : Nat → Int) (n : Nat) (c : Int) : (places b n c).length ≤ n := by
  unfold places
  rw [List.length_map]
  exact Nat.le_trans (List.length_filter_le _ _) (by simp)
end Pure
end
section
open PySem PySem.W PySem.Calls PyProof.Rows
set_option maxRecDepth 100000
set_option maxHeartbeats 4000000
set_option Elab.async false
set_option linter.unusedVariables false
namespace Mine
local macro_rules | `(tactic| walk_at "no such key") => prem "assumption"
noncomputable abbrev chEnv (L : Addr) : Env := envOf (Str.ofString "SequenceMatcher.__chain_b") (fnScope (mem 5 5)) L 188 (Value.ref 187)
noncomputable def Tb (kv : List (Int × Value)) (rest : List (Addr × Obj)) (idx : Int → List Int) : Prop := ∀ c, (valueAt kv c = none ∧ idx c = []) ∨ ∃ lx vx n, valueAt kv c = some (.ref lx) ∧ (lx, W.listOf (List.toArray vx) n) ∈ rest ∧ IntsAre vx (idx c)
noncomputable def Inj (kv : List (Int × Value)) : Prop := ∀ c c' lx, valueAt kv c = some (.ref lx) → valueAt kv c' = some (.ref lx) → c = c'
noncomputable def Off (kv : List (Int × Value)) (tail : List (Addr × Obj)) : Prop := ∀ c lx, valueAt kv c = some (.ref lx) → ∀ p ∈ tail, p.1 ≠ lx
local macro_rules | `(tactic| k_all) => prem "assumption"
local macro_rules | `(tactic| walk_at "eval Name") => ln ``ld "k_asm rfl|assumption _" ""
local macro_rules | `(tactic| walk_at "loadName") => ln ``ldn "k_asm rfl|assumption _" ""
local macro_rules | `(tactic| walk_at "getMethod ref") => ln ``getM_setdefault "k_asm d2 assumption _" "" (sh := meth ``PySem.getMethod "setdefault")
theorem inj_nil : Inj [] := fun c c' lx h => by simp [valueAt_nil] at h
theorem off_nil (tail : List (Addr × Obj)) : Off [] tail := fun c lx h => by simp [valueAt_nil] at h
theorem getM_append {prog : Program} {w : World} {A : Around} {E : Value → Shared → Prop} {s : Shared} {h₀ : Heap} {L D : Addr} {news : List (Addr × Obj)} {its : Array Value} {n : Nat} {pl : Sem Bool} {Q : Value × List Value → Shared → Prop} (N : News h₀ L s.heap news) (hm : (D, W.listOf its n) ∈ news) (h : Q (.builtin "list.append", [.ref D]) s) : wpAny (model prog w) A (getMethod (.ref D) "append" pl) Q E s :=
  getMethod_builtin (T := "list") ⟨_, (N _ hm).1, rfl⟩ PySem.F.plainAttrs_list PySem.F.slot_list_append PySem.F.type_list_append (fun a e => by cases e; exact ⟨_, (N _ hm).1, rfl⟩) h
theorem ints_one (n : Int) (t : Tok) : IntsAre [Value.int n t] [n] := by
  constructor; constructor
theorem tb_old {kv : List (Int × Value)} {rest tail : List (Addr × Obj)} {b : Nat → Int} {i : Nat} {c : Int} {lx b2 : Addr} {vx : List Value} {n n' : Nat} {t : Tok} (hc : b i = c) (htb : Tb kv rest (Pure.places b i)) (hinj : Inj kv) (hoff : Off kv tail) (hsub : ∀ p ∈ tail, p ∈ rest) (y1 : AllNe b2 rest)
    (e1 : valueAt kv c = some (.ref lx)) (hm : (lx, W.listOf vx.toArray n) ∈ rest) (hI : IntsAre vx (Pure.places b i c)) :
    Tb kv ((lx, W.listOf (vx ++ [Value.int i t]).toArray n') :: without lx rest) (Pure.places b (i + 1)) ∧ (∀ p ∈ tail, p ∈ (lx, W.listOf (vx ++ [Value.int i t]).toArray n') :: without lx rest) ∧ AllNe b2 ((lx, W.listOf (vx ++ [Value.int i t]).toArray n') :: without lx rest) := by
  refine ⟨fun c' => ?_, fun p hp => .tail _ (mem_without.mpr ⟨hsub p hp, hoff _ _ e1 p hp⟩), ⟨ne_of_allNe y1 (lx, W.listOf vx.toArray n) hm, allNe_of fun p hp => ne_of_allNe y1 p (mem_without.mp hp).1⟩⟩
  rw [Pure.places_succ]
  by_cases h : c' = c
  · subst h
    rw [if_pos hc]
    exact .inr ⟨lx, _, _, e1, .head _, hI.append (ints_one _ _)⟩
  · rw [if_neg (fun e => h (e.symm.trans hc)), List.append_nil]
    rcases htb c' with hh | ⟨lx', vx', n'', e', hm', hI'⟩
    · exact .inl hh
    · exact .inr ⟨lx', vx', n'', e', .tail _ (mem_without.mpr ⟨hm', fun (q : lx' = lx) => h (hinj _ _ _ (q ▸ e') e1)⟩), hI'⟩
theorem tb_new {kv : List (Int × Value)} {rest tail : List (Addr × Obj)} {b : Nat → Int} {i : Nat} {c : Int} {lx b2 : Addr} {n' : Nat} {t : Tok} (hc : b i = c) (htb : Tb kv rest (Pure.places b i)) (hinj : Inj kv) (hoff : Off kv tail) (hsub : ∀ p ∈ tail, p ∈ rest) (y1 : AllNe b2 rest)
    (e1 : valueAt kv c = none) (hl : ∀ p ∈ rest, @LT.lt Nat _ p.1 lx) (hb : @Ne Nat lx b2) :
    Tb (stored kv c (.ref lx)) ((lx, W.listOf [Value.int i t].toArray n') :: rest) (Pure.places b (i + 1)) ∧ Inj (stored kv c (.ref lx)) ∧ Off (stored kv c (.ref lx)) tail ∧ AllNe b2 ((lx, W.listOf [Value.int i t].toArray n') :: rest) := by
  have old : ∀ c' l', valueAt kv c' = some (.ref l') → l' ≠ lx := fun c' l' e => by
    rcases htb c' with ⟨hh, _⟩ | ⟨lx', vx', n'', e', hm', hI'⟩
    · rw [hh] at e; cases e
    · rw [e'] at e; cases e; exact Nat.ne_of_lt (hl _ hm')
  refine ⟨fun c' => ?_, fun a b l h1 h2 => ?_, fun a l h1 p hp => ?_, ⟨hb, y1⟩⟩
  · rw [Pure.places_succ, valueAt_stored]
    by_cases h : c' = c
    · subst h
      rw [if_pos hc, if_pos rfl]
      refine .inr ⟨lx, _, _, rfl, .head _, ?_⟩
      rcases htb c' with ⟨_, hh⟩ | ⟨lx', vx', n'', e', _⟩
      · rw [hh]; exact ints_one _ _
      · rw [e'] at e1; cases e1
    · rw [if_neg h, if_neg (show ¬ b i = c' from fun e => h (e.symm.trans hc)), List.append_nil]
      rcases htb c' with hh | ⟨lx', vx', n'', e', hm', hI'⟩
      · exact .inl hh
      · exact .inr ⟨lx', vx', n'', e', .tail _ hm', hI'⟩
  · rw [valueAt_stored] at h1 h2
    by_cases ha : a = c
    · by_cases hb : b = c
      · rw [ha, hb]
      · rw [if_pos ha] at h1; rw [if_neg hb] at h2; cases h1; exact absurd rfl (old _ _ h2)
    · by_cases hb : b = c
      · rw [if_neg ha] at h1; rw [if_pos hb] at h2; cases h2; exact absurd rfl (old _ _ h1)
      · rw [if_neg ha] at h1; rw [if_neg hb] at h2; exact hinj _ _ _ h1 h2
  · rw [valueAt_stored] at h1
    by_cases ha : a = c
    · rw [if_pos ha] at h1; cases h1; exact Nat.ne_of_lt (hl _ (hsub p hp))
    · rw [if_neg ha] at h1; exact hoff _ _ h1 p hp
theorem stored_len (kv : List (Int × Value)) (c : Int) (v : Value) : (stored kv c v).length ≤ kv.length + 1 := by
  unfold stored; split <;> simp
noncomputable def CallStop (M : Model) (A : Around) (f : Value) (pos : List Value) (kw : List (Str × Value)) (Q : Value → Shared → Prop) (E : Value → Shared → Prop) (s : Shared) : Prop := wpAny M A (call f pos kw) Q E s
theorem call_stop {M : Model} {A : Around} {f : Value} {pos : List Value} {kw : List (Str × Value)} {Q : Value → Shared → Prop} {E : Value → Shared → Prop} {s : Shared} (h : CallStop M A f pos kw Q E s) : wpAny M A (call f pos kw) Q E s := h
local macro_rules | `(tactic| walk_at "getMethod ref") => ln ``getM_append "k_asm d0|m2 _" "" (sh := meth ``PySem.getMethod "append")
local macro_rules | `(tactic| walk_at "call type:enumerate") => stop ``call_stop
local macro_rules | `(tactic| walk_at "call builtin:dict.setdefault") => stop ``call_stop
local macro_rules | `(tactic| walk_at "call builtin:list.append") => stop ``call_stop
inductive EnInv (w : World) (b2 : Addr) (tail : List (Addr × Obj)) (idx : Nat → Int → List Int) (m : Str → Option Value) (i : Nat) (m₁ : Str → Option Value) : List (Addr × Obj) → Prop
  | mk (ob' : Obj) (kv : List (Int × Value)) (rest : List (Addr × Obj)) : AllNe b2 rest → (∀ p ∈ tail, p ∈ rest) → ob'.IsDictOf (intKind pw w) kv → kv.length ≤ i → Tb kv rest (idx i) → Inj kv → Off kv tail →
    (∀ y, y ≠ Str.ofString "i" → y ≠ Str.ofString "elt" → y ≠ Str.ofString "indices" → m₁ y = m y) → EnInv w b2 tail idx m i m₁ ((b2, ob') :: rest)
theorem old_mix {b2 lx l' : Addr} {ob ol oe : Obj} {rest own : List (Addr × Obj)} (w1 : ∀ q ∈ own, @Ne Nat lx q.1) (w2 : @Ne Nat lx b2) : ∀ p ∈ (b2, ob) :: (lx, ol) :: without lx rest ++ own, p ∈ (lx, ol) :: without lx ((l', oe) :: (b2, ob) :: (rest ++ own)) := fun p hp => by
  rcases List.mem_append.mp hp with hp | hp
  · rcases List.mem_cons.mp hp with rfl | hp
    · exact .tail _ (mem_without.mpr ⟨.tail _ (.head _), w2.symm⟩)
    · rcases List.mem_cons.mp hp with rfl | hp
      · exact .head _
      · exact .tail _ (mem_without.mpr ⟨.tail _ (.tail _ (List.mem_append_left _ (mem_without.mp hp).1)), (mem_without.mp hp).2⟩)
  · exact .tail _ (mem_without.mpr ⟨.tail _ (.tail _ (List.mem_append_right _ hp)), (w1 p hp).symm⟩)
theorem new_mix {d l' : Addr} {o o' ol : Obj} {tl : List (Addr × Obj)} (w : @Ne Nat l' d) (y : ∀ p ∈ tl, p.1 ≠ d) : ∀ p ∈ (l', ol) :: (d, o') :: tl, p ∈ (d, o') :: without d ((l', ol) :: (d, o) :: tl) := fun p hp => by
  rcases List.mem_cons.mp hp with rfl | hp
  · exact .tail _ (mem_without.mpr ⟨.head _, w⟩)
  · rcases List.mem_cons.mp hp with rfl | hp
    · exact .head _
    · exact .tail _ (mem_without.mpr ⟨.tail _ (.tail _ hp), y p hp⟩)
theorem new_mix2 {d l' : Addr} {o' ol ol' : Obj} {tl : List (Addr × Obj)} (w : @Ne Nat l' d) (y : ∀ p ∈ tl, p.1 ≠ l') : ∀ p ∈ (d, o') :: (l', ol') :: tl, p ∈ (l', ol') :: without l' ((l', ol) :: (d, o') :: tl) := fun p hp => by
  rcases List.mem_cons.mp hp with rfl | hp
  · exact .tail _ (mem_without.mpr ⟨.tail _ (.head _), w.symm⟩)
  · rcases List.mem_cons.mp hp with rfl | hp
    · exact .head _
    · exact .tail _ (mem_without.mpr ⟨.tail _ (.tail _ hp), y p hp⟩)
theorem ne_of_in {d : Addr} {ob : Obj} {rest own tl : List (Addr × Obj)} (e : tl = rest ++ own) (y : AllNe d rest) (h : ∀ p ∈ (d, ob) :: rest, ∀ q ∈ own, @Ne Nat p.1 q.1) : ∀ p ∈ tl, p.1 ≠ d := fun p hp =>
  (List.mem_append.mp (e ▸ hp)).elim (ne_of_allNe y p) fun g => (h _ (.head _) p g).symm
theorem chain_for {w : World} {mg mb : Str → Option Value} {means : ExcName → Option Value} {dp un : Nat} {fr : Option (List Env)} {gu : Option (List Code)} {s : Shared} {h₀ : Heap} {L lb b2 : Addr} {ob : Obj} {m : Str → Option Value} {tail : List (Addr × Obj)} {Q : Flow → Shared → Prop} {vb : List Value} {bs : List Int}
    (F : Fr h₀ L s.heap m) (N : News h₀ L s.heap ((b2, ob) :: tail)) (T' : Top q (looseW q loose) means mg mb h₀) (z1 : AllNe b2 tail) (hob : ob.IsDictOf (intKind pw w) []) (lo : (b2 == sysModules) = false) (hlb : h₀.IsList lb vb.toArray) (hIb : IntsAre vb bs) (nb : bs.length < 2 ^ 20)
    (m1 : m (Str.ofString "b") = some (.ref lb)) (m2 : m (Str.ofString "b2j") = some (.ref b2))
    (hQ : ∀ h' tk m' ob' kv rest, Fr h₀ L h' m' → News h₀ L h' ((b2, ob') :: rest) → AllNe b2 rest → (∀ p ∈ tail, p ∈ rest) → ob'.IsDictOf (intKind pw w) kv → Tb kv rest (Pure.places (fun i => bs.getD i 0) bs.length) →
      (∀ y, y ≠ Str.ofString "i" → y ≠ Str.ofString "elt" → y ≠ Str.ofString "indices" → m' y = m y) → Q .next { s with heap := h', toks := tk }) :
    (K w.params).In h₀ → PySem.Challenge.rw_dm0054_12.prog = pw → wpAny (model pw w) (Around.mk none dp fr gu un) (exec (stAt (fnBody (mem 5 5)) 2) (chEnv L)) Q (fun _ _ => False) s := by
  k_fill
  intro X' hpw
  refine For_turns F ?_
  k_steps
  unfold CallStop
  refine iterEnumq (EnInv w b2 tail (Pure.places fun i => bs.getD i 0) m) rfl rfl rfl rfl hlb F N ⟨ob, [], tail, z1, fun _ h => h, hob, Nat.le_refl _, fun c => .inl ⟨rfl, rfl⟩, inj_nil, off_nil _, fun _ _ _ _ => rfl⟩ ?_ ?_
  · rintro own i x v m₁ news₁ h tk ⟨⟨t, rfl⟩, hv⟩ ⟨ob', kv, rest, y1, hsub, hob', hkl, htb, hinj, hoff, hmm⟩ hne F' N' QB hT
    clear F N
    change News _ _ h ((b2, ob') :: (rest ++ own)) at N'
    obtain ⟨tl, htl⟩ : ∃ tl, tl = rest ++ own := ⟨_, rfl⟩
    rw [← htl] at N'
    have y2 := ne_of_in htl y1 hne
    have c1 := (hmm (Str.ofString "b2j") (by decide) (by decide) (by decide)).trans m2
    have hi : i < vb.length := (List.getElem?_eq_some_iff.mp hv).1
    have hbl := hIb.length
    obtain ⟨tv, rfl⟩ := hIb.int_at i v hv
    have hz : kv.length ≤ sizeLine := by unfold sizeLine; lia
    generalize hc : bs.getD i 0 = c at *
    k_steps
    rename Fr _ _ _ _ => F₂
    rename News _ _ _ _ => N₂
    rename _ ∧ AllLt _ _ => q1
    have hl := lt_of_allLt q1.2
    rename_i l' hh'
    unfold CallStop
    refine setdefault_led F₂ N₂ (.tail _ (.head _)) hob' lo hz ?_ ?_
    · intro v' tk' hv'
      rcases htb c with ⟨e1, _⟩ | ⟨lx, vx, n, e1, hmem, hI⟩
      · rw [e1] at hv'; cases hv'
      · rw [e1] at hv'; cases hv'
        have hmt : (lx, W.listOf vx.toArray n) ∈ tl := htl ▸ List.mem_append_left _ hmem
        have hvl : vx.length < 2 ^ 24 := by have := hI.length; have := Pure.places_len (fun i => bs.getD i 0) i c; lia
        k_steps
        rename Fr _ _ _ _ => F₃
        rename News _ _ _ _ => N₃
        unfold CallStop
        refine appendM F₃ N₃ (.tail _ (.tail _ hmt)) hvl ?_
        intro h' F₄ N₄
        k_steps
        obtain ⟨g1, g2, g3⟩ := tb_old (n' := n + 1) (t := t) (b2 := b2) (b := fun i => bs.getD i 0) hc htb hinj hoff hsub y1 e1 hmem hI
        subst htl
        refine hT _ _ ?_
        refine TurnEndO.intro (news' := (b2, ob') :: (lx, W.listOf (vx ++ [Value.int i t]).toArray (n + 1)) :: without lx rest) F₄ (news_sub N₄ (old_mix (hne (lx, W.listOf vx.toArray n) (.tail _ hmem)) (ne_of_allNe y1 (lx, W.listOf vx.toArray n) hmem))) (List.forall_mem_cons.mpr ⟨hne (b2, ob') (.head _), List.forall_mem_cons.mpr ⟨hne (lx, W.listOf vx.toArray n) (.tail _ hmem), fun p hp => hne p (.tail _ (mem_without.mp hp).1)⟩⟩) ⟨ob', kv, _, g3, g2, hob', Nat.le_succ_of_le hkl, g1, hinj, hoff, fun y h1 h2 h3 => ?_⟩
        simp only [if_neg h1, if_neg h2, if_neg h3]; exact hmm y h1 h2 h3
    · intro hv' h' o' tk' F₃ N₃ ho'
      have w4 : @Ne Nat l' b2 := Nat.ne_of_gt q1.1
      obtain ⟨g1, g2, g3, g4⟩ := tb_new (n' := 0 + 1) (t := t) (b2 := b2) (b := fun i => bs.getD i 0) hc htb hinj hoff hsub y1 hv' (fun p hp => hl p (htl ▸ List.mem_append_left _ hp)) w4
      have N₄ := news_sub N₃ (new_mix w4 y2)
      clear N₃ N₂ F₂
      k_steps
      rename Fr _ _ _ _ => F₅
      rename News _ _ _ _ => N₅
      unfold CallStop
      refine appendM (vs := []) F₅ N₅ (.head _) (by decide) ?_
      intro h' F₆ N₆
      k_steps
      refine hT _ _ ?_
      subst htl
      refine TurnEndO.intro (news' := (b2, o') :: (l', W.listOf [Value.int i t].toArray (0 + 1)) :: rest) F₆ (news_sub N₆ (new_mix2 (tl := rest ++ own) w4 fun p hp => Nat.ne_of_lt (hl p hp))) (List.forall_mem_cons.mpr ⟨hne (b2, ob') (.head _), List.forall_mem_cons.mpr ⟨fun q hq => Nat.ne_of_gt (hl q (List.mem_append_right _ hq)), fun p hp => hne p (.tail _ hp)⟩⟩) ⟨o', _, _, g4, fun p hp => .tail _ (hsub p hp), ho', Nat.le_trans (stored_len kv c (.ref l')) (Nat.succ_le_succ hkl), g1, g2, g3, fun y h1 h2 h3 => ?_⟩
      simp only [if_neg h1, if_neg h2, if_neg h3]; exact hmm y h1 h2 h3
  · rintro m₁ news₁ h tk ⟨ob', kv, rest, y1, hsub, hob', hkl, htb, hinj, hoff, hmm⟩ F' N'
    rw [hIb.length] at htb
    exact hQ h tk m₁ ob' kv rest F' N' y1 hsub hob' htb hmm
end Mine
end
section
open PySem PySem.W PySem.Calls PyProof.Rows
set_option maxRecDepth 100000
set_option maxHeartbeats 4000000
set_option Elab.async false
set_option linter.unusedVariables false
namespace Mine
noncomputable abbrev selfD7 (P : Params) (ts : Nat → Tok) (ij a b aj mbk oc fb : Value) : Obj :=
  dictOf [ent P "isjunk" (ts 0) ij, ent P "a" (ts 1) a, ent P "b" (ts 2) b, ent P "autojunk" (ts 3) aj, ent P "matching_blocks" (ts 4) mbk, ent P "opcodes" (ts 5) oc, ent P "fullbcount" (ts 6) fb] 7
theorem ch_at (P : Params) : (K P).lookup 188 = some ⟨.type "function", none, .func (fnAt 5 5 "SequenceMatcher.__chain_b" .none .none (.ref 187)), #[]⟩ := by kernel_rfl!
theorem ch_code (P : Params) : codeIn (K P) (.ref 187) "SequenceMatcher.__chain_b" = true := by kernel_rfl!
theorem ch_bind (x : Value) : bindArgs (fnAt 5 5 "SequenceMatcher.__chain_b" .none .none (.ref 187)) ⟨[x], []⟩ = pure [(Str.ofString "self", x)] := by kernel_rfl!
theorem ch_loc (x : Value) : ([(Str.ofString "self", x)].all fun x => decide ((fnScope (mem 5 5)).names.lookup x.1 = some .local)) = true := by kernel_rfl!
local macro_rules | `(tactic| k_all) => prem "assumption"
local macro_rules | `(tactic| k_inst) => prem "inst_mix+k_asm+k_asm+m0+k_mem"
local macro_rules | `(tactic| walk_at "exec For Tuple Call") => stop ``exec_stop
local macro_rules | `(tactic| walk_at "eval Name") => ln ``ld "k_asm rfl|assumption _" ""
local macro_rules | `(tactic| walk_at "loadName") => ln ``ldn "k_asm rfl|assumption _" ""
theorem chain_news {h₀ h : Heap} {L b2 dx : Addr} {ob d : Obj} {rest : List (Addr × Obj)} (N : News h₀ L h ((b2, ob) :: rest)) (hd : (dx, d) ∈ rest) : News h₀ L h ((b2, ob) :: (dx, d) :: without dx rest) := news_sub N fun p hp => by
  rcases List.mem_cons.mp hp with rfl | hp
  · exact .head _
  · rcases List.mem_cons.mp hp with rfl | hp
    · exact .tail _ hd
    · exact .tail _ (mem_without.mp hp).1
noncomputable abbrev setObj0 (led : Bool) : Obj := { cls := .type "set", dict := none, data := .set #[] 0 (.fresh 0 0 led) }
theorem set_fresh {prog : Program} {w : World} {h : Heap} {a : Addr} {led : Bool} (e : h.get? a = some (setObj0 led)) : h.SetOf (intKind prog w) a (fun _ => false) 0 := by
  exact (setObjOf_fresh (knd := intKind prog w) led).setOf e (by decide)
noncomputable def Bj (w : World) (rest : List (Addr × Obj)) (l2 lj : Addr) (bs : List Int) : Prop := ∃ ob kv led, (l2, ob) ∈ rest ∧ ob.IsDictOf (intKind pw w) kv ∧ Tb kv rest (Pure.places (fun i => bs.getD i 0) bs.length) ∧ (l2 == sysModules) = false ∧ (lj, setObj0 led) ∈ rest
theorem chain_end {w : World} {s : Shared} {h₀ h' : Heap} {L b2 dx j p lb : Addr} {m : Str → Option Value} {ob : Obj} {rest : List (Addr × Obj)} {kv : List (Int × Value)} {led1 led2 : Bool} {ts : Nat → Tok} {t7 t8 t9 : Tok} {a mbk oc fb : Value} {bs : List Int} {R : Result → Shared → Prop} {tk : Nat}
    (hk0 : ∀ b o, b ≠ dx → s.heap.get? b = some o → h₀.get? b = some o) (F : Fr h₀ L h' m)
    (N : News h₀ L h' ((p, setObj0 led1) :: (j, setObj0 led2) :: (b2, ob) :: (dx, dictOf [ent w.params "isjunk" (ts 0) .none, ent w.params "a" (ts 1) a, ent w.params "b" (ts 2) (.ref lb), ent w.params "autojunk" (ts 3) (.bool false), ent w.params "matching_blocks" (ts 4) mbk, ent w.params "opcodes" (ts 5) oc, ent w.params "fullbcount" (ts 6) fb, ent w.params "b2j" t7 (.ref b2), ent w.params "bjunk" t8 (.ref j), ent w.params "bpopular" t9 (.ref p)] 10) :: without dx rest))
    (hob : ob.IsDictOf (intKind pw w) kv) (lo : (b2 == sysModules) = false) (htb : Tb kv rest (Pure.places (fun i => bs.getD i 0) bs.length)) (hb2 : @Ne Nat dx b2) (hj : @Ne Nat j dx)
    (hdx : ∀ lx vx n, (lx, W.listOf vx n) ∈ rest → lx ≠ dx)
    (hR : ∀ h' tk ts' l2 lj lp N', (∀ b o, b ≠ dx → s.heap.get? b = some o → h'.get? b = some o) → h'.get? dx = some (selfD w.params ts' .none a (.ref lb) (.bool false) mbk oc fb (.ref l2) (.ref lj) (.ref lp)) → (∀ p ∈ N', h'.get? p.1 = some p.2 ∧ s.heap.get? p.1 = none) → AllNe dx N' → Bj w N' l2 lj bs → R (.ok (.ret .none)) { s with heap := h', toks := tk }) :
    R (.ok (.ret .none)) { s with heap := h', toks := tk } := by
  refine hR h' tk (fun i => match i with | 7 => t7 | 8 => t8 | 9 => t9 | i => ts i) b2 j p ((j, setObj0 led2) :: (b2, ob) :: without dx rest) (fun b o hb e => F.keep _ _ (hk0 b o hb e)) (N _ (.tail _ (.tail _ (.tail _ (.head _))))).1 (fun p hp => ?_) ⟨hj, Ne.symm hb2, allNe_of fun p hp => (mem_without.mp hp).2⟩ ⟨ob, kv, led2, .tail _ (.head _), hob, fun c => ?_, lo, .head _⟩
  · rcases List.mem_cons.mp hp with rfl | hp
    · exact ⟨(N _ (.tail _ (.head _))).1, none_back hk0 hj (N _ (.tail _ (.head _))).2.2⟩
    · rcases List.mem_cons.mp hp with rfl | hp
      · exact ⟨(N _ (.tail _ (.tail _ (.head _)))).1, none_back hk0 (Ne.symm hb2) (N _ (.tail _ (.tail _ (.head _)))).2.2⟩
      · have := N _ (.tail _ (.tail _ (.tail _ (.tail _ hp))))
        exact ⟨this.1, none_back hk0 (mem_without.mp hp).2 this.2.2⟩
  · rcases htb c with h | ⟨lx, vx, n, e1, hm, hI⟩
    · exact .inl h
    · exact .inr ⟨lx, vx, n, e1, .tail _ (.tail _ (mem_without.mpr ⟨hm, hdx _ _ _ hm⟩)), hI⟩
theorem list_ne_dict {h₀ h : Heap} {L dx : Addr} {d : Obj} {news rest : List (Addr × Obj)} (N : News h₀ L h (news)) (hs : ∀ p ∈ rest, p ∈ news) (hd : (dx, d) ∈ rest) (hc : d.cls = .type "dict") : ∀ lx vx n, (lx, W.listOf vx n) ∈ rest → lx ≠ dx := fun lx vx n hm e => by
  have h1 := (N _ (hs _ hd)).1
  have h2 := (N _ (hs _ hm)).1
  dsimp only at h1 h2
  rw [e, h1] at h2
  rw [Option.some.inj h2] at hc
  have : Value.type "list" = Value.type "dict" := hc
  exact absurd this (by decide)
theorem chain_ok {w : World} {mg mb : Str → Option Value} {means : ExcName → Option Value} {dp un : Nat} {fr : Option (List Env)} {gu : Option (List Code)} {s : Shared} {base : Heap} {x dx lb l2 lj lp : Addr} {R : Result → Shared → Prop} {bs : List Int} {ts : Nat → Tok} {a mbk oc fb : Value} {d : Obj} {vb : List Value}
    (T : Top q (looseW q loose) means mg mb base) (kb : Kept base s.heap) (bdx : base.get? dx = none) (hx : s.heap.get? x = some (instObj 242 dx)) (hd : s.heap.get? dx = some d) (hD : d = selfD7 w.params ts .none a (.ref lb) (.bool false) mbk oc fb ∨ d = selfD w.params ts .none a (.ref lb) (.bool false) mbk oc fb (.ref l2) (.ref lj) (.ref lp))
    (hlb : s.heap.IsList lb vb.toArray) (hIb : IntsAre vb bs) (nb : bs.length < 2 ^ 20) (hroom : dp + 2 < recursionLimit)
    (hR : ∀ h' tk ts' l2 lj lp N', (∀ b o, b ≠ dx → s.heap.get? b = some o → h'.get? b = some o) → h'.get? dx = some (selfD w.params ts' .none a (.ref lb) (.bool false) mbk oc fb (.ref l2) (.ref lj) (.ref lp)) → (∀ p ∈ N', h'.get? p.1 = some p.2 ∧ s.heap.get? p.1 = none) → AllNe dx N' → Bj w N' l2 lj bs → R (.ok (.ret .none)) { s with heap := h', toks := tk }) :
    (K w.params).In base → PySem.Challenge.rw_dm0054_12.prog = pw → codeAny (model pw w) (Around.mk none dp fr gu un) (.call (.ref 188) ⟨[.ref x], []⟩) R s := by
  k_fill
  intro X₀ hpw
  refine enter [dx] X₀ T kb (fun a ha => List.mem_singleton.mp ha ▸ bdx) (by show dp < _; lia) (ch_at _) (ch_code _) (.of_eq (ch_bind _)) (locs (ch_loc _)) ?_ (by kernel_rfl!) (by kernel_rfl!) (by kernel_rfl!) (by decide +kernel)
  intro L h₁ X' T' F' k₁ hL
  have hk0 : ∀ b o, b ≠ dx → s.heap.get? b = some o → (hideAll s.heap [dx]).get? b = some o := fun b o hb e => hideAll_get _ e fun q => hb (List.mem_singleton.mp q)
  have N' : News (hideAll s.heap [dx]) L h₁ [(dx, d)] := mods_news (news := [(dx, _)]) (fun p hp => by rw [List.mem_singleton.mp hp]; exact hd) k₁ hL
  have hxd : x ≠ dx := fun e => by rw [e, hd] at hx; rcases hD with rfl | rfl <;> cases hx
  have hlb' : (hideAll s.heap [dx]).IsList lb vb.toArray := by
    obtain ⟨o, ho, hc, n, hdat⟩ := hlb
    exact ⟨o, hk0 _ _ (fun e => by rw [e, hd] at ho; cases ho; rcases hD with rfl | rfl <;> cases hdat) ho, hc, n, hdat⟩
  have hx' := hk0 _ _ hxd hx
  generalize hideAll s.heap [dx] = h₀ at hk0 X' T' F' N' hlb' hx'
  rcases hD with rfl | rfl
  · k_steps
    rename Fr _ _ _ _ => F₂
    rename News _ _ _ _ => N₂
    rename Obj.IsDictOf (intKind _ _) _ _ => hob
    unfold ExecStop
    refine chain_for F₂ N₂ T' ⟨by lia, trivial⟩ hob (by assumption) hlb' hIb nb rfl rfl ?_ X' hpw
    intro h₃ tk₃ m₃ ob kv rest F₃ N₃ z1 hsub hob' htb hmm
    have d1 : m₃ (Str.ofString "self") = some (.ref x) := hmm (Str.ofString "self") (by decide) (by decide) (by decide)
    have d2 : m₃ (Str.ofString "b") = some (.ref lb) := hmm (Str.ofString "b") (by decide) (by decide) (by decide)
    have hdx := hsub _ (.head _)
    have hne : ∀ p ∈ without dx rest, p.1 ≠ dx := fun p hp => (mem_without.mp hp).2
    have hb2 : @Ne Nat dx _ := ne_of_allNe z1 _ hdx
    have N₄ := chain_news N₃ hdx
    have hld := list_ne_dict N₃ (fun p hp => .tail _ hp) hdx rfl
    clear hmm F₂ N₂ N₃ hob
    k_steps
    exact chain_end (s := s) hk0 (by assumption) (by assumption) hob' (by assumption) htb hb2 (by omega) hld hR
  · k_steps
    rename Fr _ _ _ _ => F₂
    rename News _ _ _ _ => N₂
    rename Obj.IsDictOf (intKind _ _) _ _ => hob
    unfold ExecStop
    refine chain_for F₂ N₂ T' ⟨by lia, trivial⟩ hob (by assumption) hlb' hIb nb rfl rfl ?_ X' hpw
    intro h₃ tk₃ m₃ ob kv rest F₃ N₃ z1 hsub hob' htb hmm
    have d1 : m₃ (Str.ofString "self") = some (.ref x) := hmm (Str.ofString "self") (by decide) (by decide) (by decide)
    have d2 : m₃ (Str.ofString "b") = some (.ref lb) := hmm (Str.ofString "b") (by decide) (by decide) (by decide)
    have hdx := hsub _ (.head _)
    have hne : ∀ p ∈ without dx rest, p.1 ≠ dx := fun p hp => (mem_without.mp hp).2
    have hb2 : @Ne Nat dx _ := ne_of_allNe z1 _ hdx
    have N₄ := chain_news N₃ hdx
    have hld := list_ne_dict N₃ (fun p hp => .tail _ hp) hdx rfl
    clear hmm F₂ N₂ N₃ hob
    k_steps
    exact chain_end (s := s) hk0 (by assumption) (by assumption) hob' (by assumption) htb hb2 (by omega) hld hR
end Mine
end
section
open PySem PySem.W PySem.Calls PyProof.Rows
set_option maxRecDepth 100000
set_option maxHeartbeats 4000000
set_option Elab.async false
set_option linter.unusedVariables false
namespace Mine
noncomputable abbrev selfD4 (P : Params) (ts : Nat → Tok) (ij a b aj : Value) : Obj :=
  dictOf [ent P "isjunk" (ts 0) ij, ent P "a" (ts 1) a, ent P "b" (ts 2) b, ent P "autojunk" (ts 3) aj] 4
noncomputable abbrev selfD6 (P : Params) (ts : Nat → Tok) (ij a b aj mbk oc : Value) : Obj :=
  dictOf [ent P "isjunk" (ts 0) ij, ent P "a" (ts 1) a, ent P "b" (ts 2) b, ent P "autojunk" (ts 3) aj, ent P "matching_blocks" (ts 4) mbk, ent P "opcodes" (ts 5) oc] 6
theorem led_back {h₀ h h' : Heap} {L dx : Addr} {m : Str → Option Value} {d d' : Obj} {rest N' : List (Addr × Obj)} (F : Fr h₀ L h m) (N : News h₀ L h ((dx, d) :: rest)) (hne : AllNe dx rest) (keep : ∀ b o, b ≠ dx → h.get? b = some o → h'.get? b = some o) (hd' : h'.get? dx = some d') (hN' : ∀ p ∈ N', h'.get? p.1 = some p.2 ∧ h.get? p.1 = none) :
    Fr h₀ L h' m ∧ News h₀ L h' ((dx, d') :: (rest ++ N')) := by
  have nd := N _ (.head _)
  have F' : Fr h₀ L h' m := by
    obtain ⟨oL, x1, x2, hL, r⟩ := F.ns
    exact ⟨⟨oL, x1, x2, keep _ _ (fun e => nd.2.1 e.symm) hL, r⟩, fun b o e => keep _ _ (fun q => by have := nd.2.2; dsimp only at this; rw [q, this] at e; cases e) (F.keep _ _ e), F.above⟩
  refine ⟨F', fun p hp => ?_⟩
  rcases List.mem_cons.mp hp with rfl | hp
  · exact ⟨hd', nd.2⟩
  · rcases List.mem_append.mp hp with hp | hp
    · exact ⟨keep _ _ (ne_of_allNe hne p hp) (N _ (.tail _ hp)).1, (N _ (.tail _ hp)).2⟩
    · obtain ⟨g1, g2⟩ := hN' p hp
      refine ⟨g1, fun e => ?_, F.noneBack g2⟩
      obtain ⟨oL, hL⟩ := Fr.hasL F
      rw [e, hL] at g2; cases g2
noncomputable def IsLst (h : Heap) (l : Addr) : Prop := ∃ o, h.get? l = some o ∧ o.cls = .type "list"
theorem IsLst.of {h : Heap} {l : Addr} {vs : Array Value} (x : h.IsList l vs) : IsLst h l := let ⟨o, h1, h2, _⟩ := x; ⟨o, h1, h2⟩
theorem IsLst.hide {h h' : Heap} {l dx : Addr} {es : List DictEntry} {n : Nat} (x : IsLst h l) (hd : h.get? dx = some (dictOf es n)) (k : ∀ b o, b ≠ dx → h.get? b = some o → h'.get? b = some o) : IsLst h' l := by
  obtain ⟨o, h1, h2⟩ := x
  refine ⟨o, k _ _ (fun e => ?_) h1, h2⟩
  rw [e, hd] at h1
  rw [← Option.some.inj h1] at h2
  have : Value.type "dict" = Value.type "list" := h2
  exact absurd this (by decide)
theorem is_lst {M : Model} {A : Around} {E : Value → Shared → Prop} {s : Shared} {h₀ : Heap} {L a b : Addr} {m : Str → Option Value} {Q : Value → Shared → Prop} (F : Fr h₀ L s.heap m) (ha : IsLst h₀ a) (hb : IsLst h₀ b) (hne : @Ne Nat a b) (h : Q (.bool false) s) : wpAny M A (compareOp .Is (.ref a) (.ref b)) Q E s := by
  obtain ⟨o1, h1, c1⟩ := ha
  obtain ⟨o2, h2, c2⟩ := hb
  refine wpAny_is_ref_other hne (F.keep _ _ h1) (F.keep _ _ h2) (by rw [c1]; decide) ?_
  exact h
local macro_rules | `(tactic| walk_at "compareOp Is ref ref") => ln ``is_lst "k_asm assumption assumption assumption _" ""
theorem s1_at (P : Params) : (K P).lookup 174 = some ⟨.type "function", none, .func (fnAt 5 3 "SequenceMatcher.set_seq1" .none (docV (mem 5 3) 435) (.ref 173)), #[]⟩ := by kernel_rfl!
theorem s1_code (P : Params) : codeIn (K P) (.ref 173) "SequenceMatcher.set_seq1" = true := by kernel_rfl!
theorem s1_bind (x a : Value) : bindArgs (fnAt 5 3 "SequenceMatcher.set_seq1" .none (docV (mem 5 3) 435) (.ref 173)) ⟨[x, a], []⟩ = pure [(Str.ofString "self", x), (Str.ofString "a", a)] := by kernel_rfl!
theorem s1_loc (x a : Value) : ([(Str.ofString "self", x), (Str.ofString "a", a)].all fun x => decide ((fnScope (mem 5 3)).names.lookup x.1 = some .local)) = true := by kernel_rfl!
theorem s2_at (P : Params) : (K P).lookup 181 = some ⟨.type "function", none, .func (fnAt 5 4 "SequenceMatcher.set_seq2" .none (docV (mem 5 4) 444) (.ref 180)), #[]⟩ := by kernel_rfl!
theorem s2_code (P : Params) : codeIn (K P) (.ref 180) "SequenceMatcher.set_seq2" = true := by kernel_rfl!
theorem s2_bind (x a : Value) : bindArgs (fnAt 5 4 "SequenceMatcher.set_seq2" .none (docV (mem 5 4) 444) (.ref 180)) ⟨[x, a], []⟩ = pure [(Str.ofString "self", x), (Str.ofString "b", a)] := by kernel_rfl!
theorem s2_loc (x a : Value) : ([(Str.ofString "self", x), (Str.ofString "b", a)].all fun x => decide ((fnScope (mem 5 4)).names.lookup x.1 = some .local)) = true := by kernel_rfl!
local macro_rules | `(tactic| k_all) => prem "assumption"
local macro_rules | `(tactic| k_inst) => prem "inst_mix+k_asm+k_asm+m0+k_mem"
local macro_rules | `(tactic| walk_at "call ref") => stop ``call_stop
theorem seq1_ok {w : World} {mg mb : Str → Option Value} {means : ExcName → Option Value} {dp un : Nat} {fr : Option (List Env)} {gu : Option (List Code)} {s : Shared} {base : Heap} {x dx la la0 : Addr} {R : Result → Shared → Prop} {ts : Nat → Tok} {ij b aj mbk oc fb l2 lj lp : Value} {d : Obj}
    (T : Top q (looseW q loose) means mg mb base) (kb : Kept base s.heap) (bdx : base.get? dx = none) (hx : s.heap.get? x = some (instObj 242 dx)) (hd : s.heap.get? dx = some d) (hD : d = selfD4 w.params ts ij .none b aj ∨ d = selfD w.params ts ij (.ref la0) b aj mbk oc fb l2 lj lp) (ha0 : @Ne Nat la la0) (hla : IsLst s.heap la) (hla0 : d = selfD4 w.params ts ij .none b aj ∨ IsLst s.heap la0) (hroom : dp + 6 < recursionLimit)
    (hR : ∀ h' tk d' ts', (∀ b o, b ≠ dx → s.heap.get? b = some o → h'.get? b = some o) → h'.get? dx = some d' → (d = selfD4 w.params ts ij .none b aj ∧ d' = selfD6 w.params ts' ij (.ref la) b aj .none .none ∨ d = selfD w.params ts ij (.ref la0) b aj mbk oc fb l2 lj lp ∧ d' = selfD w.params ts' ij (.ref la) b aj .none .none fb l2 lj lp) → R (.ok (.ret .none)) { s with heap := h', toks := tk }) :
    (K w.params).In base → PySem.Challenge.rw_dm0054_12.prog = pw → codeAny (model pw w) (Around.mk none dp fr gu un) (.call (.ref 174) ⟨[.ref x, .ref la], []⟩) R s := by
  k_fill
  intro X₀ hpw
  refine enter [dx] X₀ T kb (fun a ha => List.mem_singleton.mp ha ▸ bdx) (by show dp < _; lia) (s1_at _) (s1_code _) (.of_eq (s1_bind _ _)) (locs (s1_loc _ _)) ?_ (by kernel_rfl!) (by kernel_rfl!) (by kernel_rfl!) (by decide +kernel)
  intro L h₁ X' T' F' k₁ hL
  have hk0 : ∀ b o, b ≠ dx → s.heap.get? b = some o → (hideAll s.heap [dx]).get? b = some o := fun b o hb e => hideAll_get _ e fun q => hb (List.mem_singleton.mp q)
  have N' : News (hideAll s.heap [dx]) L h₁ [(dx, d)] := mods_news (news := [(dx, _)]) (fun p hp => by rw [List.mem_singleton.mp hp]; exact hd) k₁ hL
  have hxd : x ≠ dx := fun e => by rw [e, hd] at hx; rcases hD with rfl | rfl <;> cases hx
  have hx' := hk0 _ _ hxd hx
  have hA : IsLst (hideAll s.heap [dx]) la := by rcases hD with rfl | rfl <;> exact hla.hide hd hk0
  have hB : d = selfD4 w.params ts ij .none b aj ∨ IsLst (hideAll s.heap [dx]) la0 := by
    rcases hla0 with h | h
    · exact .inl h
    · right; rcases hD with rfl | rfl <;> exact h.hide hd hk0
  generalize hideAll s.heap [dx] = h₀ at hk0 X' T' F' N' hx' hA hB
  rcases hD with rfl | rfl
  · k_steps
    rename Fr _ _ _ _ => F₂
    rename News _ _ _ _ => N₂
    refine hR _ _ _ (fun i => match i with | 4 => _ | 5 => _ | i => ts i) (fun b o hb e => F₂.keep _ _ (hk0 b o hb e)) (N₂ _ (.head _)).1 (.inl ⟨rfl, rfl⟩)
  · rcases hB with hB | hB
    · exact absurd hB (by intro h; cases h)
    k_steps
    rename Fr _ _ _ _ => F₂
    rename News _ _ _ _ => N₂
    exact hR _ _ _ ts (fun b o hb e => F₂.keep _ _ (hk0 b o hb e)) (N₂ _ (.head _)).1 (.inr ⟨rfl, rfl⟩)
theorem chain_call {w : World} {mg mb : Str → Option Value} {means : ExcName → Option Value} {dp un : Nat} {fr : Option (List Env)} {gu : Option (List Code)} {s : Shared} {h₀ : Heap} {L x dx lb l2 lj lp : Addr} {m : Str → Option Value} {bs : List Int} {ts : Nat → Tok} {a mbk oc fb : Value} {d : Obj} {vb : List Value} {E : Value → Shared → Prop} {Q : Value → Shared → Prop}
    (F : Fr h₀ L s.heap m) (N : News h₀ L s.heap [(dx, d)]) (T : Top q (looseW q loose) means mg mb h₀) (X : (K w.params).In h₀) (hx : h₀.get? x = some (instObj 242 dx)) (hD : d = selfD7 w.params ts .none a (.ref lb) (.bool false) mbk oc fb ∨ d = selfD w.params ts .none a (.ref lb) (.bool false) mbk oc fb (.ref l2) (.ref lj) (.ref lp))
    (hlb : h₀.IsList lb vb.toArray) (hIb : IntsAre vb bs) (nb : bs.length < 2 ^ 20) (hroom : dp + 2 < recursionLimit)
    (h : ∀ h' tk ts' l2 lj lp N', Fr h₀ L h' m → News h₀ L h' ((dx, selfD w.params ts' .none a (.ref lb) (.bool false) mbk oc fb (.ref l2) (.ref lj) (.ref lp)) :: N') → AllNe dx N' → Bj w N' l2 lj bs → Q .none { s with heap := h', toks := tk }) :
    wpAny (model pw w) (Around.mk none dp fr gu un) (call (.ref 188) [.ref x] []) Q E s := by
  have nd := N _ (.head _)
  refine wpAny_call (chain_ok (base := h₀) T F.keep nd.2.2 (F.keep _ _ hx) nd.1 hD (hlb.at fun o e => F.keep _ _ e) hIb nb hroom (fun h' tk ts' l2 lj lp N' keep hd' hN' hne hbj => ?_) X rfl)
  obtain ⟨F', N''⟩ := led_back F N trivial keep hd' hN'
  exact h h' tk ts' l2 lj lp N' F' N'' hne hbj
theorem seq2_ok {w : World} {mg mb : Str → Option Value} {means : ExcName → Option Value} {dp un : Nat} {fr : Option (List Env)} {gu : Option (List Code)} {s : Shared} {base : Heap} {x dx lb lb0 l2 lj lp : Addr} {R : Result → Shared → Prop} {bs : List Int} {ts : Nat → Tok} {a mbk oc fb : Value} {d : Obj} {vb : List Value}
    (T : Top q (looseW q loose) means mg mb base) (kb : Kept base s.heap) (bdx : base.get? dx = none) (hx : s.heap.get? x = some (instObj 242 dx)) (hd : s.heap.get? dx = some d) (hD : d = selfD6 w.params ts .none a .none (.bool false) mbk oc ∨ d = selfD w.params ts .none a (.ref lb0) (.bool false) mbk oc fb (.ref l2) (.ref lj) (.ref lp)) (hb0 : @Ne Nat lb lb0) (hlb0 : d = selfD6 w.params ts .none a .none (.bool false) mbk oc ∨ IsLst s.heap lb0)
    (hlb : s.heap.IsList lb vb.toArray) (hIb : IntsAre vb bs) (nb : bs.length < 2 ^ 20) (hroom : dp + 6 < recursionLimit)
    (hR : ∀ h' tk ts' l2 lj lp N', (∀ b o, b ≠ dx → s.heap.get? b = some o → h'.get? b = some o) → h'.get? dx = some (selfD w.params ts' .none a (.ref lb) (.bool false) .none .none .none (.ref l2) (.ref lj) (.ref lp)) → (∀ p ∈ N', h'.get? p.1 = some p.2 ∧ s.heap.get? p.1 = none) → AllNe dx N' → Bj w N' l2 lj bs → R (.ok (.ret .none)) { s with heap := h', toks := tk }) :
    (K w.params).In base → PySem.Challenge.rw_dm0054_12.prog = pw → codeAny (model pw w) (Around.mk none dp fr gu un) (.call (.ref 181) ⟨[.ref x, .ref lb], []⟩) R s := by
  k_fill
  intro X₀ hpw
  refine enter [dx] X₀ T kb (fun a ha => List.mem_singleton.mp ha ▸ bdx) (by show dp < _; lia) (s2_at _) (s2_code _) (.of_eq (s2_bind _ _)) (locs (s2_loc _ _)) ?_ (by kernel_rfl!) (by kernel_rfl!) (by kernel_rfl!) (by decide +kernel)
  intro L h₁ X' T' F' k₁ hL
  have hk0 : ∀ b o, b ≠ dx → s.heap.get? b = some o → (hideAll s.heap [dx]).get? b = some o := fun b o hb e => hideAll_get _ e fun q => hb (List.mem_singleton.mp q)
  have N' : News (hideAll s.heap [dx]) L h₁ [(dx, d)] := mods_news (news := [(dx, _)]) (fun p hp => by rw [List.mem_singleton.mp hp]; exact hd) k₁ hL
  have hxd : x ≠ dx := fun e => by rw [e, hd] at hx; rcases hD with rfl | rfl <;> cases hx
  have hx' := hk0 _ _ hxd hx
  have hlb' : (hideAll s.heap [dx]).IsList lb vb.toArray := by
    obtain ⟨o, ho, hc, n, hdat⟩ := hlb
    exact ⟨o, hk0 _ _ (fun e => by rw [e, hd] at ho; cases ho; rcases hD with rfl | rfl <;> cases hdat) ho, hc, n, hdat⟩
  have hA := IsLst.of hlb'
  have hB : d = selfD6 w.params ts .none a .none (.bool false) mbk oc ∨ IsLst (hideAll s.heap [dx]) lb0 := by
    rcases hlb0 with h | h
    · exact .inl h
    · right; rcases hD with rfl | rfl <;> exact h.hide hd hk0
  generalize hideAll s.heap [dx] = h₀ at hk0 X' T' F' N' hx' hlb' hA hB
  rcases hD with rfl | rfl
  · k_steps
    rename Fr _ _ _ _ => F₂
    rename News _ _ _ _ => N₂
    unfold CallStop
    refine chain_call (ts := fun i => match i with | 6 => _ | i => ts i) (l2 := 0) (lj := 0) (lp := 0) F₂ N₂ T' X' hx' (.inl rfl) hlb' hIb nb (by show dp + 1 + 2 < _; lia) ?_
    intro h₃ tk₃ ts' l2 lj lp N₃ F₃ N₄ hne hbj
    k_steps
    exact hR _ _ ts' l2 lj lp N₃ (fun b o hb e => F₃.keep _ _ (hk0 b o hb e)) (N₄ _ (.head _)).1 (fun p hp => ⟨(N₄ _ (.tail _ hp)).1, none_back hk0 (ne_of_allNe hne p hp) (N₄ _ (.tail _ hp)).2.2⟩) hne hbj
  · rcases hB with hB | hB
    · exact absurd hB (by intro h; cases h)
    k_steps
    rename Fr _ _ _ _ => F₂
    rename News _ _ _ _ => N₂
    unfold CallStop
    refine chain_call (ts := ts) (l2 := l2) (lj := lj) (lp := lp) F₂ N₂ T' X' hx' (.inr rfl) hlb' hIb nb (by show dp + 1 + 2 < _; lia) ?_
    intro h₃ tk₃ ts' l2 lj lp N₃ F₃ N₄ hne hbj
    k_steps
    exact hR _ _ ts' l2 lj lp N₃ (fun b o hb e => F₃.keep _ _ (hk0 b o hb e)) (N₄ _ (.head _)).1 (fun p hp => ⟨(N₄ _ (.tail _ hp)).1, none_back hk0 (ne_of_allNe hne p hp) (N₄ _ (.tail _ hp)).2.2⟩) hne hbj
end Mine
end
section
open PySem PySem.W PySem.Calls PyProof.Rows
set_option maxRecDepth 100000
set_option maxHeartbeats 4000000
set_option Elab.async false
set_option linter.unusedVariables false
namespace Mine
theorem sq_at (P : Params) : (K P).lookup 167 = some ⟨.type "function", none, .func (fnAt 5 2 "SequenceMatcher.set_seqs" .none (docV (mem 5 2) 426) (.ref 166)), #[]⟩ := by kernel_rfl!
theorem sq_code (P : Params) : codeIn (K P) (.ref 166) "SequenceMatcher.set_seqs" = true := by kernel_rfl!
theorem sq_bind (x a b : Value) : bindArgs (fnAt 5 2 "SequenceMatcher.set_seqs" .none (docV (mem 5 2) 426) (.ref 166)) ⟨[x, a, b], []⟩ = pure [(Str.ofString "self", x), (Str.ofString "a", a), (Str.ofString "b", b)] := by kernel_rfl!
theorem sq_loc (x a b : Value) : ([(Str.ofString "self", x), (Str.ofString "a", a), (Str.ofString "b", b)].all fun x => decide ((fnScope (mem 5 2)).names.lookup x.1 = some .local)) = true := by kernel_rfl!
theorem in_at (P : Params) : (K P).lookup 160 = some ⟨.type "function", none, .func (fnAt 5 1 "SequenceMatcher.__init__" (.ref 153) (docV (mem 5 1) 416) (.ref 159)), #[]⟩ := by kernel_rfl!
theorem in_code (P : Params) : codeIn (K P) (.ref 159) "SequenceMatcher.__init__" = true := by kernel_rfl!
theorem k153_in (P : Params) : (K P).lookup 153 = some (k153 P) := by kernel_rfl!
theorem in_binds {s : Shared} {P : Params} (X : (K P).In s.heap) (x a b c d : Value) : BindsTo s (fnAt 5 1 "SequenceMatcher.__init__" (.ref 153) (docV (mem 5 1) 416) (.ref 159)) ⟨[x, a, b, c, d], []⟩ [(Str.ofString "self", x), (Str.ofString "isjunk", a), (Str.ofString "a", b), (Str.ofString "b", c), (Str.ofString "autojunk", d)] :=
  BindsTo.of_defaults rfl (X _ _ (k153_in _)) rfl rfl rfl
theorem in_loc (x a b c d : Value) : ([(Str.ofString "self", x), (Str.ofString "isjunk", a), (Str.ofString "a", b), (Str.ofString "b", c), (Str.ofString "autojunk", d)].all fun x => decide ((fnScope (mem 5 1)).names.lookup x.1 = some .local)) = true := by kernel_rfl!
section
variable {w : World} {mg mb : Str → Option Value} {means : ExcName → Option Value} {dp un : Nat} {fr : Option (List Env)} {gu : Option (List Code)} {s : Shared} {h₀ : Heap} {m : Str → Option Value} {ts : Nat → Tok} {d : Obj} {E : Value → Shared → Prop} {Q : Value → Shared → Prop}
theorem seq1_call {L x dx la la0 : Addr} {ij b aj mbk oc fb l2 lj lp : Value} (F : Fr h₀ L s.heap m) (N : News h₀ L s.heap [(dx, d)]) (T : Top q (looseW q loose) means mg mb h₀) (X : (K w.params).In h₀) (hx : h₀.get? x = some (instObj 242 dx))
    (hD : d = selfD4 w.params ts ij .none b aj ∨ d = selfD w.params ts ij (.ref la0) b aj mbk oc fb l2 lj lp) (ha0 : @Ne Nat la la0) (hla : IsLst h₀ la) (hla0 : d = selfD4 w.params ts ij .none b aj ∨ IsLst h₀ la0) (hroom : dp + 6 < recursionLimit)
    (h : ∀ h' tk d' ts', Fr h₀ L h' m → News h₀ L h' [(dx, d')] → (d = selfD4 w.params ts ij .none b aj ∧ d' = selfD6 w.params ts' ij (.ref la) b aj .none .none ∨ d = selfD w.params ts ij (.ref la0) b aj mbk oc fb l2 lj lp ∧ d' = selfD w.params ts' ij (.ref la) b aj .none .none fb l2 lj lp) → Q .none { s with heap := h', toks := tk }) :
    wpAny (model pw w) (Around.mk none dp fr gu un) (call (.ref 174) [.ref x, .ref la] []) Q E s := by
  have nd := N _ (.head _)
  have kL : ∀ l, IsLst h₀ l → IsLst s.heap l := fun l ⟨o, h1, h2⟩ => ⟨o, F.keep _ _ h1, h2⟩
  refine wpAny_call (seq1_ok (base := h₀) (la0 := la0) T F.keep nd.2.2 (F.keep _ _ hx) nd.1 hD ha0 (kL _ hla) (hla0.imp_right (kL _)) hroom (fun h' tk d' ts' keep hd' hh => ?_) X rfl)
  obtain ⟨F', N''⟩ := led_back (N' := []) F N trivial keep hd' (fun _ h => nomatch h)
  exact h h' tk d' ts' F' N'' hh
theorem seq2_call {L x dx lb lb0 l2 lj lp : Addr} {bs : List Int} {a mbk oc fb : Value} {vb : List Value} (F : Fr h₀ L s.heap m) (N : News h₀ L s.heap [(dx, d)]) (T : Top q (looseW q loose) means mg mb h₀) (X : (K w.params).In h₀) (hx : h₀.get? x = some (instObj 242 dx))
    (hD : d = selfD6 w.params ts .none a .none (.bool false) mbk oc ∨ d = selfD w.params ts .none a (.ref lb0) (.bool false) mbk oc fb (.ref l2) (.ref lj) (.ref lp)) (hb0 : @Ne Nat lb lb0) (hlb0 : d = selfD6 w.params ts .none a .none (.bool false) mbk oc ∨ IsLst h₀ lb0)
    (hlb : h₀.IsList lb vb.toArray) (hIb : IntsAre vb bs) (nb : bs.length < 2 ^ 20) (hroom : dp + 6 < recursionLimit)
    (h : ∀ h' tk ts' l2 lj lp N', Fr h₀ L h' m → News h₀ L h' ((dx, selfD w.params ts' .none a (.ref lb) (.bool false) .none .none .none (.ref l2) (.ref lj) (.ref lp)) :: N') → AllNe dx N' → Bj w N' l2 lj bs → Q .none { s with heap := h', toks := tk }) :
    wpAny (model pw w) (Around.mk none dp fr gu un) (call (.ref 181) [.ref x, .ref lb] []) Q E s := by
  have nd := N _ (.head _)
  have kL : ∀ l, IsLst h₀ l → IsLst s.heap l := fun l ⟨o, h1, h2⟩ => ⟨o, F.keep _ _ h1, h2⟩
  refine wpAny_call (seq2_ok (base := h₀) (lb0 := lb0) (l2 := l2) (lj := lj) (lp := lp) T F.keep nd.2.2 (F.keep _ _ hx) nd.1 hD hb0 (hlb0.imp_right (kL _)) (hlb.at fun o e => F.keep _ _ e) hIb nb hroom (fun h' tk ts' l2 lj lp N' keep hd' hN' hne hbj => ?_) X rfl)
  obtain ⟨F', N''⟩ := led_back F N trivial keep hd' hN'
  exact h h' tk ts' l2 lj lp N' F' N'' hne hbj
end
local macro_rules | `(tactic| k_all) => prem "assumption"
local macro_rules | `(tactic| k_inst) => prem "inst_mix+k_asm+k_asm+m0+k_mem"
local macro_rules | `(tactic| walk_at "call ref") => stop ``call_stop
theorem seqs_ok {w : World} {mg mb : Str → Option Value} {means : ExcName → Option Value} {dp un : Nat} {fr : Option (List Env)} {gu : Option (List Code)} {s : Shared} {base : Heap} {x dx la la0 lb lb0 l2 lj lp : Addr} {R : Result → Shared → Prop} {bs : List Int} {ts : Nat → Tok} {mbk oc fb : Value} {d : Obj} {vb : List Value}
    (T : Top q (looseW q loose) means mg mb base) (kb : Kept base s.heap) (bdx : base.get? dx = none) (hx : s.heap.get? x = some (instObj 242 dx)) (hd : s.heap.get? dx = some d)
    (hD : d = selfD4 w.params ts .none .none .none (.bool false) ∨ d = selfD w.params ts .none (.ref la0) (.ref lb0) (.bool false) mbk oc fb (.ref l2) (.ref lj) (.ref lp) ∧ IsLst s.heap la0 ∧ IsLst s.heap lb0) (ha0 : @Ne Nat la la0) (hb0 : @Ne Nat lb lb0)
    (hla : IsLst s.heap la) (hlb : s.heap.IsList lb vb.toArray) (hIb : IntsAre vb bs) (nb : bs.length < 2 ^ 20) (hroom : dp + 8 < recursionLimit)
    (hR : ∀ h' tk ts' l2 lj lp N', (∀ b o, b ≠ dx → s.heap.get? b = some o → h'.get? b = some o) → h'.get? dx = some (selfD w.params ts' .none (.ref la) (.ref lb) (.bool false) .none .none .none (.ref l2) (.ref lj) (.ref lp)) → (∀ p ∈ N', h'.get? p.1 = some p.2 ∧ s.heap.get? p.1 = none) → AllNe dx N' → Bj w N' l2 lj bs → R (.ok (.ret .none)) { s with heap := h', toks := tk }) :
    (K w.params).In base → PySem.Challenge.rw_dm0054_12.prog = pw → codeAny (model pw w) (Around.mk none dp fr gu un) (.call (.ref 167) ⟨[.ref x, .ref la, .ref lb], []⟩) R s := by
  k_fill
  intro X₀ hpw
  refine enter [dx] X₀ T kb (fun a ha => List.mem_singleton.mp ha ▸ bdx) (by show dp < _; lia) (sq_at _) (sq_code _) (.of_eq (sq_bind _ _ _)) (locs (sq_loc _ _ _)) ?_ (by kernel_rfl!) (by kernel_rfl!) (by kernel_rfl!) (by decide +kernel)
  intro L h₁ X' T' F' k₁ hL
  have hk0 : ∀ b o, b ≠ dx → s.heap.get? b = some o → (hideAll s.heap [dx]).get? b = some o := fun b o hb e => hideAll_get _ e fun q => hb (List.mem_singleton.mp q)
  have N' : News (hideAll s.heap [dx]) L h₁ [(dx, d)] := mods_news (news := [(dx, _)]) (fun p hp => by rw [List.mem_singleton.mp hp]; exact hd) k₁ hL
  have hxd : x ≠ dx := fun e => by rw [e, hd] at hx; rcases hD with rfl | ⟨rfl, _⟩ <;> cases hx
  have hx' := hk0 _ _ hxd hx
  have hlb' : (hideAll s.heap [dx]).IsList lb vb.toArray := by
    obtain ⟨o, ho, hc, n, hdat⟩ := hlb
    exact ⟨o, hk0 _ _ (fun e => by rw [e, hd] at ho; cases ho; rcases hD with rfl | ⟨rfl, _⟩ <;> cases hdat) ho, hc, n, hdat⟩
  have hA : IsLst (hideAll s.heap [dx]) la := by rcases hD with rfl | ⟨rfl, _⟩ <;> exact hla.hide hd hk0
  have hB : d = selfD4 w.params ts .none .none .none (.bool false) ∨ d = selfD w.params ts .none (.ref la0) (.ref lb0) (.bool false) mbk oc fb (.ref l2) (.ref lj) (.ref lp) ∧ IsLst (hideAll s.heap [dx]) la0 ∧ IsLst (hideAll s.heap [dx]) lb0 := by
    rcases hD with h | ⟨h, h1, h2⟩
    · exact .inl h
    · right; subst h; exact ⟨rfl, h1.hide hd hk0, h2.hide hd hk0⟩
  generalize hideAll s.heap [dx] = h₀ at hk0 X' T' F' N' hx' hlb' hA hB
  rcases hB with rfl | ⟨rfl, hB1, hB2⟩
  · k_steps
    unfold CallStop
    refine seq1_call (la0 := la0) (mbk := .none) (oc := .none) (fb := .none) (l2 := .none) (lj := .none) (lp := .none) F' N' T' X' hx' (.inl rfl) ha0 hA (.inl rfl) (by show dp + 1 + 6 < _; lia) ?_
    rintro h₂ tk₂ d' ts₂ F₂ N₂ (⟨_, rfl⟩ | ⟨e, _⟩)
    · clear F' N'
      k_steps
      unfold CallStop
      refine seq2_call (lb0 := lb0) (l2 := l2) (lj := lj) (lp := lp) (fb := .none) F₂ N₂ T' X' hx' (.inl rfl) hb0 (.inl rfl) hlb' hIb nb (by show dp + 1 + 6 < _; lia) ?_
      intro h₃ tk₃ ts' l2 lj lp N₃ F₃ N₄ hne hbj
      k_steps
      exact hR _ _ ts' l2 lj lp N₃ (fun b o hb e => F₃.keep _ _ (hk0 b o hb e)) (N₄ _ (.head _)).1 (fun p hp => ⟨(N₄ _ (.tail _ hp)).1, none_back hk0 (ne_of_allNe hne p hp) (N₄ _ (.tail _ hp)).2.2⟩) hne hbj
    · cases e
  · k_steps
    unfold CallStop
    refine seq1_call (la0 := la0) F' N' T' X' hx' (.inr rfl) ha0 hA (.inr hB1) (by show dp + 1 + 6 < _; lia) ?_
    rintro h₂ tk₂ d' ts₂ F₂ N₂ (⟨e, _⟩ | ⟨_, rfl⟩)
    · cases e
    · clear F' N'
      k_steps
      unfold CallStop
      refine seq2_call (lb0 := lb0) (l2 := l2) (lj := lj) (lp := lp) F₂ N₂ T' X' hx' (.inr rfl) hb0 (.inr hB2) hlb' hIb nb (by show dp + 1 + 6 < _; lia) ?_
      intro h₃ tk₃ ts' l2 lj lp N₃ F₃ N₄ hne hbj
      k_steps
      exact hR _ _ ts' l2 lj lp N₃ (fun b o hb e => F₃.keep _ _ (hk0 b o hb e)) (N₄ _ (.head _)).1 (fun p hp => ⟨(N₄ _ (.tail _ hp)).1, none_back hk0 (ne_of_allNe hne p hp) (N₄ _ (.tail _ hp)).2.2⟩) hne hbj
theorem led_mod {h₀ h h' : Heap} {L dx : Addr} {m : Str → Option Value} {d d' : Obj} {own rest N' : List (Addr × Obj)} (F : Fr h₀ L h m) (N : News h₀ L h (own ++ (dx, d) :: rest)) (h1 : AllNe dx own) (h2 : AllNe dx rest) (keep : ∀ b o, b ≠ dx → h.get? b = some o → h'.get? b = some o) (hd' : h'.get? dx = some d') (hN' : ∀ p ∈ N', h'.get? p.1 = some p.2 ∧ h.get? p.1 = none) :
    Fr h₀ L h' m ∧ News h₀ L h' (own ++ (dx, d') :: (rest ++ N')) := by
  have N0 : News h₀ L h ((dx, d) :: (own ++ rest)) := news_sub N fun p hp => by
    simp only [List.mem_cons, List.mem_append] at hp ⊢
    rcases hp with h | h | h
    · exact .inr (.inl h)
    · exact .inl h
    · exact .inr (.inr h)
  obtain ⟨F', N1⟩ := led_back F N0 (allNe_of fun p hp => by
    rcases List.mem_append.mp hp with hp | hp
    · exact ne_of_allNe h1 p hp
    · exact ne_of_allNe h2 p hp) keep hd' hN'
  refine ⟨F', news_sub N1 fun p hp => ?_⟩
  simp only [List.mem_cons, List.mem_append] at hp ⊢
  rcases hp with h | h | h | h
  · exact .inr (.inl (.inl h))
  · exact .inl h
  · exact .inr (.inl (.inr h))
  · exact .inr (.inr h)
theorem seqs_callL {w : World} {mg mb : Str → Option Value} {means : ExcName → Option Value} {dp un : Nat} {fr : Option (List Env)} {gu : Option (List Code)} {s : Shared} {h₀ : Heap} {m : Str → Option Value} {ts : Nat → Tok} {d : Obj} {E : Value → Shared → Prop} {Q : Value → Shared → Prop} {own rest : List (Addr × Obj)}
    {L x dx la la0 lb lb0 l2 lj lp : Addr} {bs : List Int} {mbk oc fb : Value} {vb : List Value} (F : Fr h₀ L s.heap m) (N : News h₀ L s.heap (own ++ (dx, d) :: rest)) (T : Top q (looseW q loose) means mg mb h₀) (X : (K w.params).In h₀) (h1 : AllNe dx own) (h2 : AllNe dx rest) (hx : s.heap.get? x = some (instObj 242 dx))
    (hD : d = selfD4 w.params ts .none .none .none (.bool false) ∨ d = selfD w.params ts .none (.ref la0) (.ref lb0) (.bool false) mbk oc fb (.ref l2) (.ref lj) (.ref lp) ∧ IsLst s.heap la0 ∧ IsLst s.heap lb0) (ha0 : d = selfD4 w.params ts .none .none .none (.bool false) ∨ @Ne Nat la la0) (hb0 : d = selfD4 w.params ts .none .none .none (.bool false) ∨ @Ne Nat lb lb0)
    (hla : IsLst s.heap la) (hlb : s.heap.IsList lb vb.toArray) (hIb : IntsAre vb bs) (nb : bs.length < 2 ^ 20) (hroom : dp + 8 < recursionLimit)
    (h : ∀ h' tk ts' l2 lj lp N', Fr h₀ L h' m → News h₀ L h' (own ++ (dx, selfD w.params ts' .none (.ref la) (.ref lb) (.bool false) .none .none .none (.ref l2) (.ref lj) (.ref lp)) :: (rest ++ N')) → AllNe dx N' → Bj w N' l2 lj bs → Q .none { s with heap := h', toks := tk }) :
    wpAny (model pw w) (Around.mk none dp fr gu un) (call (.ref 167) [.ref x, .ref la, .ref lb] []) Q E s := by
  have nd := N _ (List.mem_append_right _ (.head _))
  have key : ∀ la1 lb1 : Addr, @Ne Nat la la1 → @Ne Nat lb lb1 → (d = selfD4 w.params ts .none .none .none (.bool false) ∨ d = selfD w.params ts .none (.ref la1) (.ref lb1) (.bool false) mbk oc fb (.ref l2) (.ref lj) (.ref lp) ∧ IsLst s.heap la1 ∧ IsLst s.heap lb1) →
      wpAny (model pw w) (Around.mk none dp fr gu un) (call (.ref 167) [.ref x, .ref la, .ref lb] []) Q E s := by
    intro la1 lb1 g1 g2 g3
    refine wpAny_call (seqs_ok (base := h₀) (la0 := la1) (lb0 := lb1) (l2 := l2) (lj := lj) (lp := lp) T F.keep nd.2.2 hx nd.1 g3 g1 g2 hla hlb hIb nb hroom (fun h' tk ts' l2 lj lp N' keep hd' hN' hne hbj => ?_) X rfl)
    obtain ⟨F', N''⟩ := led_mod F N h1 h2 keep hd' hN'
    exact h h' tk ts' l2 lj lp N' F' N'' hne hbj
  rcases hD with e | e
  · exact key (la + 1) (lb + 1) (Nat.ne_of_lt (Nat.lt_succ_self _)) (Nat.ne_of_lt (Nat.lt_succ_self _)) (.inl e)
  · have ne : ¬ d = selfD4 w.params ts .none .none .none (.bool false) := fun q => by rw [e.1] at q; cases q
    exact key la0 lb0 (ha0.resolve_left ne) (hb0.resolve_left ne) (.inr e)
theorem init_ok {w : World} {mg mb : Str → Option Value} {means : ExcName → Option Value} {dp un : Nat} {fr : Option (List Env)} {gu : Option (List Code)} {s : Shared} {base : Heap} {x dx la lb : Addr} {R : Result → Shared → Prop} {bs : List Int} {vb : List Value}
    (T : Top q (looseW q loose) means mg mb base) (kb : Kept base s.heap) (bdx : base.get? dx = none) (hx : s.heap.get? x = some (instObj 242 dx)) (hd : s.heap.get? dx = some (dictOf [] 0))
    (hla : IsLst s.heap la) (hlb : s.heap.IsList lb vb.toArray) (hIb : IntsAre vb bs) (nb : bs.length < 2 ^ 20) (hroom : dp + 10 < recursionLimit)
    (hR : ∀ h' tk ts' l2 lj lp N', (∀ b o, b ≠ dx → s.heap.get? b = some o → h'.get? b = some o) → h'.get? dx = some (selfD w.params ts' .none (.ref la) (.ref lb) (.bool false) .none .none .none (.ref l2) (.ref lj) (.ref lp)) → (∀ p ∈ N', h'.get? p.1 = some p.2 ∧ s.heap.get? p.1 = none) → AllNe dx N' → Bj w N' l2 lj bs → R (.ok (.ret .none)) { s with heap := h', toks := tk }) :
    (K w.params).In base → PySem.Challenge.rw_dm0054_12.prog = pw → codeAny (model pw w) (Around.mk none dp fr gu un) (.call (.ref 160) ⟨[.ref x, .none, .ref la, .ref lb, .bool false], []⟩) R s := by
  k_fill
  intro X₀ hpw
  refine enter [dx] X₀ T kb (fun a ha => List.mem_singleton.mp ha ▸ bdx) (by show dp < _; lia) (in_at _) (in_code _) (in_binds (X₀.keeps kb) _ _ _ _ _) (locs (in_loc _ _ _ _ _)) ?_ (by kernel_rfl!) (by kernel_rfl!) (by kernel_rfl!) (by decide +kernel)
  intro L h₁ X' T' F' k₁ hL
  have hk0 : ∀ b o, b ≠ dx → s.heap.get? b = some o → (hideAll s.heap [dx]).get? b = some o := fun b o hb e => hideAll_get _ e fun q => hb (List.mem_singleton.mp q)
  have N' : News (hideAll s.heap [dx]) L h₁ [(dx, dictOf [] 0)] := mods_news (news := [(dx, _)]) (fun p hp => by rw [List.mem_singleton.mp hp]; exact hd) k₁ hL
  have hxd : x ≠ dx := fun e => by rw [e, hd] at hx; cases hx
  have hx' := hk0 _ _ hxd hx
  have hlb' : (hideAll s.heap [dx]).IsList lb vb.toArray := by
    obtain ⟨o, ho, hc, n, hdat⟩ := hlb
    exact ⟨o, hk0 _ _ (fun e => by rw [e, hd] at ho; cases ho; cases hdat) ho, hc, n, hdat⟩
  have hA : IsLst (hideAll s.heap [dx]) la := hla.hide hd hk0
  generalize hideAll s.heap [dx] = h₀ at hk0 X' T' F' N' hx' hlb' hA
  k_steps
  rename Fr _ _ _ _ => F₂
  rename News _ _ _ _ => N₂
  unfold CallStop
  refine seqs_callL (own := []) (rest := []) (la0 := la) (lb0 := lb) (mbk := .none) (oc := .none) (fb := .none) (l2 := 0) (lj := 0) (lp := 0) (ts := fun i => match i with | 0 => _ | 1 => _ | 2 => _ | _ => _) F₂ N₂ T' X' trivial trivial (F₂.keep _ _ hx') (.inl rfl) (.inl rfl) (.inl rfl) (by obtain ⟨o, e1, e2⟩ := hA; exact ⟨o, F₂.keep _ _ e1, e2⟩) (hlb'.at fun o e => F₂.keep _ _ e) hIb nb (by show dp + 1 + 8 < _; lia) ?_
  intro h₃ tk₃ ts' l2 lj lp N₃ F₃ N₄ hne hbj
  k_steps
  exact hR _ _ ts' l2 lj lp N₃ (fun b o hb e => F₃.keep _ _ (hk0 b o hb e)) (N₄ _ (.head _)).1 (fun p hp => ⟨(N₄ _ (.tail _ hp)).1, none_back hk0 (ne_of_allNe hne p hp) (N₄ _ (.tail _ hp)).2.2⟩) hne hbj
end Mine
end
section
open PySem PySem.W PySem.Calls PyProof.Rows PyProof.Rows.LCg PyProof.Rows.LCp
set_option maxRecDepth 100000
set_option maxHeartbeats 4000000
set_option Elab.async false
set_option linter.unusedVariables false
namespace Mine
noncomputable def Tri (N : List (Addr × Obj)) (v : Value) (b : Pure.Blk) : Prop :=
  ∃ a, v = .ref a ∧ ∃ t1 t2 t3, (∃ dy, (a, matchObj dy #[.int b.1 t1, .int b.2.1 t2, .int b.2.2 t3]) ∈ N) ∨ (a, tupObj #[.int b.1 t1, .int b.2.1 t2, .int b.2.2 t3]) ∈ N
noncomputable def pick (x y z n : Str) (b : Pure.Blk) : Nat := if n = z then b.2.2 else if n = y then b.2.1 else if n = x then b.1 else 0
section
variable {prog : Program} {w : World} {A : Around} {E : Value → Shared → Prop} {s : Shared} {h₀ : Heap} {L : Addr} {m : Str → Option Value} {env : Env} {P : Params}
theorem assign3 {elts : List Expr} {k : Nat} {pos : Pos} {a : Addr} {its : Array Value} {Q : Unit → Shared → Prop} (hh : A.handled = none) (X : (K P).In s.heap) (ht : (∃ dy, s.heap.get? a = some (matchObj dy its)) ∨ s.heap.get? a = some (tupObj its))
    (hn : (assignEach elts env).length = its.size) (hstar : (assignEach elts env).findIdx? (·.1) = none)
    (h : ∀ h', Heap.ExtBut s.heap.objs.size s.heap h' → wpAny (model prog w) A (assignInOrder ((assignEach elts env).map (·.2)) its.toList) Q E { s with heap := h' }) :
    wpAny (model prog w) A (assign (.Tuple elts k pos) env (.ref a)) Q E s := by
  rcases ht with ⟨dy, e⟩ | e
  · rw [assign_Tuple]
    refine wpAny_bind (wpAny_standAt ?_)
    unfold unpack
    rw [hn, hstar]
    exact wpAny_bind (wpAny_holding (unpackM hh X e fun h' he => h h' he))
  · exact assign_Tuple_tuple hh ⟨_, e, rfl, 0, rfl⟩ hn hstar h
inductive Src3 (A : Around) (h₀ : Heap) (L : Addr) (m : Str → Option Value) (x y z n1 n2 n3 : Str) (Q : Value → Shared → Prop) (xv : Value) (s₁ : Shared) : Prop
  | mk (l : Addr) (vs : List Value) (nl : Nat) (news : List (Addr × Obj)) (rs : List Pure.Blk) : xv = .ref l → A.handled = none → Fr h₀ L s₁.heap m → News h₀ L s₁.heap news → (l, W.listOf (List.toArray vs) nl) ∈ news → vs.length < 2 ^ 20 → vs.length = rs.length → (∀ i v, vs[i]? = some v → Tri news v (rs.getD i Pure.z3)) → (∀ D h tk ys nd T, Fr h₀ L h m → News h₀ L h ((D, W.listOf (List.toArray ys) nd) :: (T ++ news)) → AllNe D (T ++ news) → (∀ p ∈ (D, W.listOf (List.toArray ys) nd) :: T, s₁.heap.get? p.1 = none) → Ts T ys (rs.map fun b => (pick x y z n1 b, pick x y z n2 b, pick x y z n3 b)) → Q (.ref D) { s₁ with heap := h, toks := tk }) → Src3 A h₀ L m x y z n1 n2 n3 Q xv s₁
inductive CInv (h₀ : Heap) (L C D I l : Addr) (m : Str → Option Value) (s₁ : Shared) (vs : List Value) (rl : Nat → List Pure.Blk) (news : List (Addr × Obj)) (k : Nat) : Shared → Prop
  | mk (h' : Heap) (tk : Tok) (i : Nat) (ys : List Value) (T : List (Addr × Obj)) (m' : Str → Option Value) : i ≤ vs.length → k = vs.length + 1 - i → ys.length = i → (h'.IsListIter I l i ∧ h'.IsList l vs.toArray) → Fr h₀ L h' m → h'.Ns C m' → News h₀ L h' ((D, LCg.lst ys) :: (T ++ news)) →
    Off3 I C D (T ++ news) → (∀ p ∈ T, s₁.heap.get? p.1 = none) → Ts T ys (rl i) → CInv h₀ L C D I l m s₁ vs rl news k { s₁ with heap := h', toks := tk }
theorem comp3 {iter : Expr} {x y z n1 n2 n3 : Str} {px py pz p1 p2 p3 tp ep : Pos} {tk ek : Nat} {scope : Scope} {pos : Pos} {Q : Value → Shared → Prop} (F₀ : Fr h₀ L s.heap m) (X : (K P).In h₀)
    (hclos : closureFor scope env = pure []) (hcell : ∀ y ∈ scope.names, y.2 ≠ .cell) (hkind : scope.kind = .function)
    (hnames : ∀ y ∈ scope.names, y.2 = .local → scope.names.lookup y.1 = some .local) (hx : scope.names.lookup x = some .local) (hy : scope.names.lookup y = some .local) (hz : scope.names.lookup z = some .local)
    (hn : (n1 = x ∨ n1 = y ∨ n1 = z) ∧ (n2 = x ∨ n2 = y ∨ n2 = z) ∧ (n3 = x ∨ n3 = y ∨ n3 = z)) (hd : (x == ("__debug__" : Str)) = false ∧ (y == ("__debug__" : Str)) = false ∧ (z == ("__debug__" : Str)) = false)
    (h : wpAny (model prog w) A (eval iter env) (Src3 A h₀ L m x y z n1 n2 n3 Q) E s)
    (hs : ∀ x, foldedSetIterable iter env x = pure x := by intro _; rfl) :
    wpAny (model prog w) A (eval (.ListComp (.Tuple [.Name n1 p1, .Name n2 p2, .Name n3 p3] ek ep) [⟨.Tuple [.Name x px, .Name y py, .Name z pz] tk tp, iter, [], 0⟩] scope pos) env) Q E s := by
  rw [eval_ListComp]
  refine wpAny_comprehension_free (use := none) rfl hs hclos hkind hnames (wpAny_mono h (fun xv s₁ h₁ => ?_) fun _ _ e => e)
  obtain ⟨l, vs, nl, news, rs, rfl, hh, F, N, hl0, hsz, hlen, htri, fin⟩ := h₁
  have hl : s₁.heap.IsList l vs.toArray := N.isList hl0
  have hlt : l < s₁.heap.objs.size := Heap.lt_size (N _ hl0).1
  refine wpAny_pyIter_list hl ?_
  have up : ∀ b o, s₁.heap.get? b = some o → (s₁.heap.push { cls := .type "list_iterator", data := .fields #[.ref l, .int 0 0] }).get? b = some o := fun b o e => Heap.get?_push_of_some _ e
  have W := Walks.list (prog := prog) (w := w) hh s₁.heap.objs.size l (Nat.ne_of_lt hlt) vs.toArray
  have F2 := F.keeps up
  have N2 := N.grown up
  have hI₀ := next_is_new F
  have hIL : L ≠ s₁.heap.objs.size := Nat.ne_of_lt F.ns.lt
  have offI : ∀ p ∈ news, p.1 ≠ s₁.heap.objs.size := fun p hp => Nat.ne_of_lt (Heap.lt_size (N p hp).1)
  have hst : (s₁.heap.push { cls := .type "list_iterator", data := .fields #[.ref l, .int 0 0] }).IsListIter s₁.heap.objs.size l 0 := ⟨_, Heap.get?_push_size _ rfl, rfl, rfl⟩
  have hIlt : s₁.heap.objs.size < (s₁.heap.push { cls := .type "list_iterator", data := .fields #[.ref l, .int 0 0] }).objs.size := by rw [Heap.size_push]; exact Nat.lt_succ_self _
  generalize hI : s₁.heap.objs.size = I at *
  generalize s₁.heap.push { cls := .type "list_iterator", data := .fields #[.ref l, .int 0 0] } = hp₂ at *
  refine wpAny_newObj_type (wpAny_newFunctionEnv hcell (by intro y hy; simp at hy) (fun h₁ hns₁ hsb₁ => ?_) hkind)
  dsimp only at hns₁ hsb₁ ⊢
  generalize hH2 : hp₂.push { cls := .type "list", dict := none, data := .seq ([] : List Value).toArray } = H2 at hns₁ hsb₁ ⊢
  have hC : H2.objs.size = hp₂.objs.size + 1 := by rw [← hH2, Heap.size_push]
  have hDC : hp₂.objs.size ≠ H2.objs.size := by rw [hC]; exact Nat.ne_of_lt (Nat.lt_succ_self _)
  have below : ∀ b, b < hp₂.objs.size → b ≠ H2.objs.size ∧ b ≠ hp₂.objs.size := fun b hb => ⟨by rw [hC]; exact Nat.ne_of_lt (Nat.lt_succ_of_lt hb), Nat.ne_of_lt hb⟩
  have old : ∀ b o, hp₂.get? b = some o → h₁.get? b = some o := fun b o e => hsb₁.extBut b o (below b (Heap.lt_size e)).1 (Heap.get?_push_of_some _ (hH2 ▸ Heap.get?_push_of_some _ e))
  have hacc : h₁.get? hp₂.objs.size = some (LCg.lst []) := hsb₁.extBut _ _ hDC (Heap.get?_push_of_some _ (hH2 ▸ Heap.get?_push_size _ rfl))
  have fresh₀ : ∀ a, hp₂.objs.size ≤ a → h₀.get? a = none := fun a ha => by
    cases e : h₀.get? a with
    | none => rfl
    | some o' => exact absurd (Heap.lt_size (F2.keep a o' e)) (Nat.not_lt.mpr ha)
  have freshS : ∀ a, I ≤ a → s₁.heap.get? a = none := fun a ha => by
    cases e : s₁.heap.get? a with
    | none => rfl
    | some o' => exact absurd (Heap.lt_size e) (Nat.not_lt.mpr (hI ▸ ha))
  have hD₀ : h₀.get? hp₂.objs.size = none := fresh₀ _ (Nat.le_refl _)
  have hC₀ : h₀.get? H2.objs.size = none := fresh₀ _ (by rw [hC]; exact Nat.le_succ _)
  have hLlt : L < hp₂.objs.size := F2.ns.lt
  have hDL : hp₂.objs.size ≠ L := Ne.symm (below L hLlt).2
  have hCL : H2.objs.size ≠ L := Ne.symm (below L hLlt).1
  have hCI : I ≠ H2.objs.size := (below I hIlt).1
  have hDI : I ≠ hp₂.objs.size := (below I hIlt).2
  have hlD : l ≠ hp₂.objs.size := (below l (Heap.lt_size (N2 _ hl0).1)).2
  have off₀ : Off3 I H2.objs.size hp₂.objs.size news := Off3.of fun p hp => ⟨offI p hp, (below _ (Heap.lt_size (N2 p hp).1)).1, (below _ (Heap.lt_size (N2 p hp).1)).2⟩
  have hDf : hp₂.objs.size ∉ ([I, l] : List Addr) := fun hm => by
    rcases List.mem_cons.mp hm with e | hm
    · exact hDI e.symm
    · exact hlD (List.mem_singleton.mp hm).symm
  have hCf : H2.objs.size ∉ ([I, l] : List Addr) := fun hm => by
    rcases List.mem_cons.mp hm with e | hm
    · exact hCI e.symm
    · exact (below l (Heap.lt_size (N2 _ hl0).1)).1 (List.mem_singleton.mp hm).symm
  have cname : ∀ (s' : Shared) (Q' : Value → Shared → Prop) (E' : Value → Shared → Prop) (n : Str) (pn : Pos) (v : Value) (mm : Str → Option Value), (n = x ∨ n = y ∨ n = z) → s'.heap.Ns H2.objs.size mm → mm n = some v → Q' v s' → wpAny (model prog w) A (eval (.Name n pn) (compEnvC scope [] H2.objs.size env)) Q' E' s' := by
    intro s' Q' E' n pn v mm hnn hns hv hq
    have hk : scope.names.lookup n = some .local := by rcases hnn with rfl | rfl | rfl <;> assumption
    have hb : (n == ("__debug__" : Str)) = false := by rcases hnn with rfl | rfl | rfl <;> simp only [hd]
    exact wpAny_Name (wpAny_loadName_local (by simp [compEnvC, relabel, hkind]) (lookup_relabel_local hk) hns hv hq) hb
  have loop : ∀ s₃ : Shared, s₃ = { s₁ with heap := h₁, toks := s₁.toks + ([] : List (Str × Value)).length } →
      codeAny (model prog w) A (.compLoop (.ListComp (.Tuple [.Name n1 p1, .Name n2 p2, .Name n3 p3] ek ep) [⟨.Tuple [.Name x px, .Name y py, .Name z pz] tk tp, iter, [], 0⟩] scope pos) 0 (.ref I) (.ref hp₂.objs.size) (compEnvC scope [] H2.objs.size env))
        (compPost (model prog w) A E none Q (.ref hp₂.objs.size) H2.objs.size) s₃ := by
    rintro s₃ rfl
    refine codeAny_compLoop_pair
      (CInv h₀ L H2.objs.size hp₂.objs.size I l m s₁ vs (fun i => (rs.take i).map fun b => (pick x y z n1 b, pick x y z n2 b, pick x y z n3 b)) news) ?_ (vs.length + 1)
      ⟨h₁, _, 0, [], [], _, Nat.zero_le _, rfl, rfl, ⟨hst.at fun o e => old _ o e, (N2.isList hl0).at fun o e => old _ o e⟩, F2.keeps old, hns₁, fun p hp => ?_, off₀, (fun _ h => nomatch h), .nil⟩
    · rintro k s' ⟨h', tk, i, ys, T, m', hi, rfl, hyl, hst', F', hn', N', off', hfr, hts⟩
      by_cases hlt : i < vs.length
      · refine W.item i _ _ _ (by simpa using hlt) hst' fun v h₂ tk₂ hPv hst₂ hk₂ => ?_
        have hPv' : vs[i]? = some v := by simpa using hPv
        obtain ⟨t, rfl, t1, t2, t3, hmt⟩ := htri i v hPv'
        have off3 := off'.mem
        have N₂ : News h₀ L h₂ ((hp₂.objs.size, LCg.lst ys) :: (T ++ news)) := news_but N' hk₂ fun p hp => by
          rcases List.mem_cons.mp hp with rfl | hp
          · exact Ne.symm hDI
          · exact (off3 p hp).1
        have ht : (∃ dy, h₂.get? t = some (matchObj dy #[.int (rs.getD i Pure.z3).1 t1, .int (rs.getD i Pure.z3).2.1 t2, .int (rs.getD i Pure.z3).2.2 t3])) ∨ h₂.get? t = some (tupObj #[.int (rs.getD i Pure.z3).1 t1, .int (rs.getD i Pure.z3).2.1 t2, .int (rs.getD i Pure.z3).2.2 t3]) := by
          rcases hmt with ⟨dy, e⟩ | e
          · exact .inl ⟨dy, (N₂ _ (.tail _ (List.mem_append_right _ e))).1⟩
          · exact .inr (N₂ _ (.tail _ (List.mem_append_right _ e))).1
        refine wpAny_letOwnedTupleGo_listiter hst₂.1 ?_
        refine assign3 hh (X.keeps (fr_but F' hk₂ hIL hI₀).keep) ht rfl rfl fun h₅ he => ?_
        have he' : ∀ b o, h₂.get? b = some o → h₅.get? b = some o := fun b o e => he b o (Nat.ne_of_lt (Heap.lt_size e)) e
        refine assignInOrder_cons (wpAny_assign_Name (wpAny_storeName_local (lookup_relabel_local hx) ((hn'.at' fun o e => hk₂ _ o (by simpa using Ne.symm hCI) e).at' fun o e => he' _ o e) (fun h₆ hn₆ hs₆ => ?_) (by simp [compEnvC, relabel, hkind])))
        refine assignInOrder_cons (wpAny_assign_Name (wpAny_storeName_local (lookup_relabel_local hy) hn₆ (fun h₇ hn₇ hs₇ => ?_) (by simp [compEnvC, relabel, hkind])))
        refine assignInOrder_cons (wpAny_assign_Name (wpAny_storeName_local (lookup_relabel_local hz) hn₇ (fun h₃ hn₃ hs₃ => ?_) (by simp [compEnvC, relabel, hkind])))
        refine assignInOrder_nil ?_
        have old3 : ∀ b o, b ≠ H2.objs.size → h₂.get? b = some o → h₃.get? b = some o := fun b o hb e => hs₃.extBut b o hb (hs₇.extBut b o hb (hs₆.extBut b o hb (he' b o e)))
        have F₃ : Fr h₀ L h₃ m := ((((fr_but F' hk₂ hIL hI₀).keeps he').change hs₆ hCL hC₀).change hs₇ hCL hC₀).change hs₃ hCL hC₀
        have N₃ : News h₀ L h₃ ((hp₂.objs.size, LCg.lst ys) :: (T ++ news)) := fun p hp => by
          have z := N₂ p hp
          refine ⟨old3 _ _ ?_ z.1, z.2⟩
          rcases List.mem_cons.mp hp with rfl | hp
          · exact hDC
          · exact (off3 p hp).2.1
        have hst₃ : h₃.IsListIter I l (i + 1) ∧ h₃.IsList l vs.toArray := ⟨hst₂.1.at fun o e => old3 _ o hCI e, hst₂.2.at fun o e => old3 _ o (below l (Heap.lt_size (N2 _ hl0).1)).1 e⟩
        have gv : ∀ n, (n = x ∨ n = y ∨ n = z) → ∃ t, (fun yy => if yy = z then some (Value.int (rs.getD i Pure.z3).2.2 t3) else if yy = y then some (Value.int (rs.getD i Pure.z3).2.1 t2) else if yy = x then some (Value.int (rs.getD i Pure.z3).1 t1) else m' yy) n = some (Value.int (pick x y z n (rs.getD i Pure.z3)) t) := by
          intro n hnn
          unfold pick
          dsimp only
          by_cases e1 : n = z
          · rw [if_pos e1, if_pos e1]; exact ⟨_, rfl⟩
          · rw [if_neg e1, if_neg e1]
            by_cases e2 : n = y
            · rw [if_pos e2, if_pos e2]; exact ⟨_, rfl⟩
            · rw [if_neg e2, if_neg e2]
              have e3 : n = x := by rcases hnn with h | h | h; exact h; exact absurd h e2; exact absurd h e1
              rw [if_pos e3, if_pos e3]; exact ⟨_, rfl⟩
        obtain ⟨u1, g1⟩ := gv n1 hn.1
        obtain ⟨u2, g2⟩ := gv n2 hn.2.1
        obtain ⟨u3, g3⟩ := gv n3 hn.2.2
        refine wpAny_Tuple_spliced ?_
        refine wpAny_items_cons (cname _ _ _ _ _ _ _ hn.1 hn₃ g1 ?_)
        refine wpAny_items_cons (cname _ _ _ _ _ _ _ hn.2.1 hn₃ g2 ?_)
        refine wpAny_items_cons (cname _ _ _ _ _ _ _ hn.2.2 hn₃ g3 ?_)
        refine spliced_none ⟨by simp only [List.length_cons, List.length_nil]; decide, ?_⟩
        have N₄ := N₃.push F₃ (tupObj #[.int (pick x y z n1 (rs.getD i Pure.z3)) u1, .int (pick x y z n2 (rs.getD i Pure.z3)) u2, .int (pick x y z n3 (rs.getD i Pure.z3)) u3])
        have F₄ := F₃.push (tupObj #[.int (pick x y z n1 (rs.getD i Pure.z3)) u1, .int (pick x y z n2 (rs.getD i Pure.z3)) u2, .int (pick x y z n3 (rs.getD i Pure.z3)) u3])
        have zD := (N₄ (hp₂.objs.size, LCg.lst ys) (.tail _ (.head _))).1
        obtain ⟨oC, heC, hoC⟩ := ns_obj hn₃
        have hClt : H2.objs.size < h₃.objs.size := Heap.lt_size heC
        have up3 : ∀ b o, h₃.get? b = some o → (h₃.push (tupObj #[.int (pick x y z n1 (rs.getD i Pure.z3)) u1, .int (pick x y z n2 (rs.getD i Pure.z3)) u2, .int (pick x y z n3 (rs.getD i Pure.z3)) u3])).get? b = some o := fun b o e => Heap.get?_push_of_some _ e
        have hIlt3 : I < h₃.objs.size := by obtain ⟨o, e, _⟩ := hst₃.1; exact Heap.lt_size e
        have hDlt3 : hp₂.objs.size < h₃.objs.size := Heap.lt_size (N₃ _ (.head _)).1
        refine append_at (hsz := by show ys.toArray.size ≤ sizeLine; rw [List.size_toArray, hyl]; unfold sizeLine; omega) zD fun h₅ hs₅ hD₅ => ?_
        have hrl : i < rs.length := hlen ▸ hlt
        refine ⟨vs.length + 1 - (i + 1), by (clear hyl hC hIlt hI hlen; lia), h₅, _, i + 1, ys ++ [.ref h₃.objs.size], (h₃.objs.size, tupObj #[.int (pick x y z n1 (rs.getD i Pure.z3)) u1, .int (pick x y z n2 (rs.getD i Pure.z3)) u2, .int (pick x y z n3 (rs.getD i Pure.z3)) u3]) :: T, _, hlt, rfl, by rw [List.length_append, List.length_singleton, hyl], ?_, F₄.change hs₅ hDL hD₀,
          (hoC.ns (up3 _ _ heC)).sameBut hs₅ (Ne.symm hDC), fun p hp => ?_, ?_, fun p hp => ?_, ?_⟩
        · exact ⟨hst₃.1.at fun o e => hs₅.extBut _ _ hDI (up3 _ _ e), hst₃.2.at fun o e => hs₅.extBut _ _ hlD (up3 _ _ e)⟩
        · rcases List.mem_cons.mp hp with rfl | hp
          · exact ⟨hD₅.trans (congrArg some (lst_snoc ys _)), hDL, hD₀⟩
          · rcases List.mem_cons.mp hp with rfl | hp
            · exact ⟨hs₅.extBut _ _ (Ne.symm (Nat.ne_of_lt hDlt3)) (N₄ _ (.head _)).1, (N₄ _ (.head _)).2⟩
            · exact ⟨hs₅.extBut _ _ (off3 p hp).2.2 (N₄ _ (.tail _ (.tail _ hp))).1, (N₄ _ (.tail _ (.tail _ hp))).2⟩
        · exact Off3.of fun p hp => by
            rcases List.mem_cons.mp hp with rfl | hp
            · exact ⟨Ne.symm (Nat.ne_of_lt hIlt3), Ne.symm (Nat.ne_of_lt hClt), Ne.symm (Nat.ne_of_lt hDlt3)⟩
            · exact off3 p hp
        · rcases List.mem_cons.mp hp with rfl | hp
          · exact freshS _ (Nat.le_of_lt (Nat.lt_trans hIlt hDlt3))
          · exact hfr p hp
        · rw [List.take_succ_eq_append_getElem hrl, List.map_append]
          have eg : rs.getD i Pure.z3 = rs[i] := by simp [hrl]
          rw [eg]
          exact .snoc (hts.mono fun p hp => .tail _ hp) (.head _)
      · obtain rfl : i = vs.length := Nat.le_antisymm hi (Nat.not_lt.mp hlt)
        have hst'' : (fun i h => Heap.IsListIter h I l i ∧ Heap.IsList h l vs.toArray) vs.toArray.size h' := by simpa using hst'
        refine W.done _ _ _ hst'' fun h₂ tk₂ hk₂ => ?_
        have off3 := off'.mem
        have et : rs.take vs.length = rs := List.take_of_length_le (by exact (Nat.le_of_eq hlen.symm))
        rw [et] at hts
        have N3 : News h₀ L h₂ ((hp₂.objs.size, LCg.lst ys) :: (T ++ news)) := news_but N' hk₂ fun p hp => by
          rcases List.mem_cons.mp hp with rfl | hp
          · exact Ne.symm hDI
          · exact (off3 p hp).1
        refine ⟨m', hn'.at' fun o e => hk₂ _ o (by simpa using Ne.symm hCI) e, fun h'' hs'' => ?_⟩
        refine fin _ h'' tk₂ ys ys.length T ((fr_but F' hk₂ hIL hI₀).change hs'' hCL hC₀) (fun p hp => ?_) (allNe_of fun p hp => (off3 p hp).2.2) (fun p hp => by
          rcases List.mem_cons.mp hp with rfl | hp
          · exact freshS _ (Nat.le_of_lt hIlt)
          · exact hfr p hp) hts
        refine ⟨hs''.extBut _ _ ?_ (N3 p hp).1, (N3 p hp).2⟩
        rcases List.mem_cons.mp hp with rfl | hp
        · exact hDC
        · exact (off3 p hp).2.1
    · rcases List.mem_cons.mp hp with rfl | hp
      · exact ⟨hacc, hDL, hD₀⟩
      · exact ⟨old _ _ (N2 p hp).1, (N2 p hp).2⟩
  exact codeAny_compStart_list (loop _ rfl) (W.self 0 _ _ _ ⟨hst.at fun o e => old _ o e, (N2.isList hl0).at fun o e => old _ o e⟩ (loop _ rfl))
end
end Mine
end
section
open PySem PySem.W PySem.Calls PyProof.Rows PyProof.Rows.LCg
set_option maxRecDepth 100000
set_option maxHeartbeats 4000000
set_option Elab.async false
set_option linter.unusedVariables false
namespace Mine
theorem intsAre_snoc {vs : List Value} {ns : List Int} {n : Int} {t : Tok} (h : IntsAre vs ns) : IntsAre (vs ++ [.int n t]) (ns ++ [n]) := by
  induction h with
  | nil => exact .cons _ _ .nil
  | cons a t _ ih => exact .cons a t ih
theorem intsAre_len {vs : List Value} {ns : List Int} (h : IntsAre vs ns) : vs.length = ns.length := by
  induction h with
  | nil => rfl
  | cons a t _ ih => simp [ih]
theorem intsAre_get {vs : List Value} {ns : List Int} (h : IntsAre vs ns) : ∀ {i : Nat} {v : Value}, vs[i]? = some v → ∃ n t, ns[i]? = some n ∧ v = .int n t := by
  induction h with
  | nil => intro i v e; simp at e
  | cons a t _ ih =>
    intro i v e
    cases i with
    | zero => exact ⟨a, t, rfl, by simpa using e.symm⟩
    | succ i => simpa using ih (by simpa using e)
section
variable {prog : Program} {w : World} {A : Around} {s : Shared} {h₀ : Heap} {L : Addr} {m : Str → Option Value} {env : Env} {elt : Expr} {x : Str} {scope : Scope} {cl : List (Str × Addr)} {S : List (Addr × Obj) → Prop} {Fin : List Value → List (Addr × Obj) → Prop} {news : List (Addr × Obj)} {vs : List Value} {ns : List Int} {f : Int → Int}
end
end Mine
namespace Mine
section
variable {prog : Program} {w : World} {A : Around} {s : Shared} {h₀ : Heap} {L : Addr} {m : Str → Option Value} {env : Env} {ct : Expr} {x : Str} {px : Pos} {scope : Scope} {cl : List (Str × Addr)} {S : List (Addr × Obj) → Prop} {Fin : List Value → List (Addr × Obj) → Prop} {news : List (Addr × Obj)} {b n : Nat} {P : Nat → Bool}
end
end Mine
end
section
namespace Pure
noncomputable def E (a b : Nat → Int) (S : Int → Bool) (alo blo bhi : Nat) : Nat → Int → Int
  | 0, _ => 0
  | m + 1, j => if (blo : Int) ≤ j ∧ j < (bhi : Int) ∧ a (alo + m) = b j.toNat ∧ S (b j.toNat) = false then E a b S alo blo bhi m (j - 1) + 1 else 0
section
variable {a b : Nat → Int} {S : Int → Bool} {alo blo bhi : Nat}
theorem E_nonneg : ∀ (m : Nat) (j : Int), 0 ≤ E a b S alo blo bhi m j
  | 0, j => by simp [E]
  | m + 1, j => by
    rw [E]; split
    · have := E_nonneg m (j - 1); lia
    · exact (Int.le_refl _)
noncomputable def Inv (a b : Nat → Int) (S : Int → Bool) (alo blo bhi : Nat) (V : Nat → Int → Prop) (t : Int × Int × Int) : Prop :=
  0 ≤ t.2.2 ∧ (∀ m j, V m j → E a b S alo blo bhi m j ≤ t.2.2) ∧ (t.2.2 = 0 → t = ((alo : Int), (blo : Int), 0)) ∧
  (0 < t.2.2 → ∃ m j, V m j ∧ E a b S alo blo bhi m j = t.2.2 ∧ t.1 = (alo : Int) + m - t.2.2 ∧ t.2.1 = j - t.2.2 + 1 ∧ ∀ m' j', V m' j' → E a b S alo blo bhi m' j' = t.2.2 → m < m' ∨ (m = m' ∧ j ≤ j'))
theorem Inv.zero {V V' : Nat → Int → Prop} {t : Int × Int × Int} (h : Inv a b S alo blo bhi V t) (hV : ∀ m j, V m j → V' m j) (hz : ∀ m j, V' m j → V m j ∨ E a b S alo blo bhi m j = 0) : Inv a b S alo blo bhi V' t := by
  obtain ⟨h0, h1, h2, h3⟩ := h
  refine ⟨h0, fun m j hv => ?_, h2, fun hp => ?_⟩
  · rcases hz m j hv with h | h
    · exact h1 m j h
    · exact (Int.le_trans (Int.le_of_eq h) h0)
  · obtain ⟨m, j, e1, e2, e3, e4, e5⟩ := h3 hp
    refine ⟨m, j, hV m j e1, e2, e3, e4, fun m' j' hv he => ?_⟩
    rcases hz m' j' hv with h | h
    · exact e5 m' j' h he
    · lia
theorem Inv.step {V V' : Nat → Int → Prop} {t : Int × Int × Int} {m0 : Nat} {j0 : Int} (h : Inv a b S alo blo bhi V t) (hpos : 0 < E a b S alo blo bhi m0 j0) (hV : ∀ m j, V' m j ↔ V m j ∨ (m = m0 ∧ j = j0) ∨ (V' m j ∧ E a b S alo blo bhi m j = 0)) (hlast : ∀ m j, V m j → m < m0 ∨ (m = m0 ∧ j < j0)) :
    Inv a b S alo blo bhi V' (if t.2.2 < E a b S alo blo bhi m0 j0 then ((alo : Int) + m0 - E a b S alo blo bhi m0 j0, j0 - E a b S alo blo bhi m0 j0 + 1, E a b S alo blo bhi m0 j0) else t) := by
  obtain ⟨h0, h1, h2, h3⟩ := h
  have n0 : V' m0 j0 := (hV _ _).mpr (.inr (.inl ⟨rfl, rfl⟩))
  have nV : ∀ m j, V m j → V' m j := fun m j h => (hV m j).mpr (.inl h)
  by_cases hc : t.2.2 < E a b S alo blo bhi m0 j0
  · rw [if_pos hc]
    refine ⟨by dsimp only; lia, fun m j hv => ?_, fun e => by dsimp only at e; lia, fun _ => ⟨m0, j0, n0, rfl, rfl, rfl, fun m' j' hv he => ?_⟩⟩
    · dsimp only
      rcases (hV m j).mp hv with h | ⟨rfl, rfl⟩ | ⟨_, h⟩
      · have := h1 m j h; lia
      · exact (Int.le_refl _)
      · exact (Int.le_of_lt (Int.lt_of_le_of_lt (Int.le_of_eq h) hpos))
    · dsimp only at he
      rcases (hV m' j').mp hv with h | ⟨rfl, rfl⟩ | ⟨_, h⟩
      · have := h1 m' j' h; (clear h0; omega)
      · exact .inr ⟨rfl, Int.le_refl _⟩
      · lia
  · rw [if_neg hc]
    refine ⟨h0, fun m j hv => ?_, h2, fun hp => ?_⟩
    · rcases (hV m j).mp hv with h | ⟨rfl, rfl⟩ | ⟨_, h⟩
      · exact h1 m j h
      · exact (Int.not_lt.mp hc)
      · exact (Int.le_trans (Int.le_of_eq h) h0)
    · obtain ⟨m, j, e1, e2, e3, e4, e5⟩ := h3 hp
      refine ⟨m, j, nV m j e1, e2, e3, e4, fun m' j' hv he => ?_⟩
      rcases (hV m' j').mp hv with h | ⟨rfl, rfl⟩ | ⟨_, h⟩
      · exact e5 m' j' h he
      · rcases hlast m j e1 with h | ⟨rfl, h⟩
        · exact .inl h
        · exact .inr ⟨rfl, by exact (Int.le_of_lt h)⟩
      · lia
theorem inner_inv {n : Nat} (hs : S (a (alo + n)) = false) : ∀ (cnt j0 : Nat) (st : (Int → Int) × (Int × Int × Int)), bhi ≤ j0 + cnt →
    (∀ x : Int, st.1 x = if x < (j0 : Int) then E a b S alo blo bhi (n + 1) x else 0) →
    Inv a b S alo blo bhi (fun m j => 1 ≤ m ∧ (m ≤ n ∨ (m = n + 1 ∧ j < (j0 : Int)))) st.2 →
    (∀ x, (inner (E a b S alo blo bhi n) blo bhi ((alo + n : Nat) : Int) (((List.range' j0 cnt).filter fun j => b j == a (alo + n)).map fun (j : Nat) => (j : Int)) st).1 x = E a b S alo blo bhi (n + 1) x) ∧
    Inv a b S alo blo bhi (fun m _ => 1 ≤ m ∧ m ≤ n + 1) (inner (E a b S alo blo bhi n) blo bhi ((alo + n : Nat) : Int) (((List.range' j0 cnt).filter fun j => b j == a (alo + n)).map fun (j : Nat) => (j : Int)) st).2 := by
  intro cnt
  have over : ∀ (j0 : Nat) (st : (Int → Int) × (Int × Int × Int)), bhi ≤ j0 → (∀ x : Int, st.1 x = if x < (j0 : Int) then E a b S alo blo bhi (n + 1) x else 0) →
      Inv a b S alo blo bhi (fun m j => 1 ≤ m ∧ (m ≤ n ∨ (m = n + 1 ∧ j < (j0 : Int)))) st.2 → (∀ x, st.1 x = E a b S alo blo bhi (n + 1) x) ∧ Inv a b S alo blo bhi (fun m _ => 1 ≤ m ∧ m ≤ n + 1) st.2 := by
    intro j0 st hb h1 h2
    have hz : ∀ x : Int, ¬ x < (j0 : Int) → E a b S alo blo bhi (n + 1) x = 0 := fun x hx => by rw [E, if_neg (by omega)]
    refine ⟨fun x => ?_, h2.zero (fun m j h => ⟨h.1, by (clear hb; omega)⟩) fun m j h => ?_⟩
    · rw [h1 x]
      split
      · rfl
      · rename_i hx; rw [hz x hx]
    · by_cases hm : m ≤ n
      · exact .inl ⟨h.1, .inl hm⟩
      · by_cases hj : j < (j0 : Int)
        · exact .inl ⟨h.1, .inr ⟨by lia, hj⟩⟩
        · have : m = n + 1 := by lia
          subst this
          exact .inr (hz j hj)
  induction cnt with
  | zero =>
    intro j0 st hb h1 h2
    simp only [List.range'_zero, List.filter_nil, List.map_nil, inner]
    exact over j0 st (by omega) h1 h2
  | succ cnt ih =>
    intro j0 st hb h1 h2
    by_cases hbh : bhi ≤ j0
    · -- all places are behind
      have key : inner (E a b S alo blo bhi n) blo bhi ((alo + n : Nat) : Int) (((List.range' j0 (cnt + 1)).filter fun j => b j == a (alo + n)).map fun (j : Nat) => (j : Int)) st = st ∨ ∃ l, ((List.range' j0 (cnt + 1)).filter fun j => b j == a (alo + n)).map (fun (j : Nat) => (j : Int)) = l ∧ ∀ x ∈ l, (j0 : Int) ≤ x := by
        right
        refine ⟨_, rfl, fun x hx => ?_⟩
        obtain ⟨j, hj, rfl⟩ := List.mem_map.mp hx
        have := (List.mem_filter.mp hj).1
        rw [List.mem_range'_1] at this
        lia
      have stay : inner (E a b S alo blo bhi n) blo bhi ((alo + n : Nat) : Int) (((List.range' j0 (cnt + 1)).filter fun j => b j == a (alo + n)).map fun (j : Nat) => (j : Int)) st = st := by
        rcases key with h | ⟨l, e, hl⟩
        · exact h
        · rw [e]
          clear e
          have go : ∀ l : List Int, (∀ x ∈ l, (j0 : Int) ≤ x) → inner (E a b S alo blo bhi n) blo bhi ((alo + n : Nat) : Int) l st = st := by
            intro l
            induction l with
            | nil => intro _; rfl
            | cons x r ihr =>
              intro hl
              by_cases hx : x < (blo : Int)
              · rw [inner_lo hx]; exact ihr fun y hy => hl y (.tail _ hy)
              · have := hl x (.head _)
                rw [inner_hi hx (by lia)]
          exact go l hl
      rw [stay]
      exact over j0 st hbh h1 h2
    · rw [List.range'_succ, List.filter_cons]
      by_cases hm : (b j0 == a (alo + n)) = true
      · rw [if_pos hm, List.map_cons]
        have hm' : b j0 = a (alo + n) := by simpa using hm
        by_cases hlo : (j0 : Int) < (blo : Int)
        · rw [inner_lo hlo]
          have hz : E a b S alo blo bhi (n + 1) (j0 : Int) = 0 := by rw [E, if_neg (by (clear hm' hb; (clear hbh; omega)))]
          refine ih (j0 + 1) st (by lia) (fun x => ?_) (h2.zero (fun m j h => ⟨h.1, by lia⟩) fun m j h => ?_)
          · rw [h1 x]
            by_cases hx : x < (j0 : Int)
            · rw [if_pos hx, if_pos (by lia)]
            · rw [if_neg hx]
              by_cases hx2 : x < ((j0 + 1 : Nat) : Int)
              · rw [if_pos hx2]
                have : x = (j0 : Int) := by lia
                rw [this, hz]
              · rw [if_neg hx2]
          · by_cases hmn : m ≤ n
            · exact .inl ⟨h.1, .inl hmn⟩
            · by_cases hj : j < (j0 : Int)
              · exact .inl ⟨h.1, .inr ⟨by lia, hj⟩⟩
              · have e1 : m = n + 1 := by lia
                have e2 : j = (j0 : Int) := by lia
                subst e1 e2
                exact .inr hz
        · have hE : E a b S alo blo bhi (n + 1) (j0 : Int) = E a b S alo blo bhi n ((j0 : Int) - 1) + 1 := by
            rw [E, if_pos ⟨by exact (Int.not_lt.mp hlo), by lia, by rw [Int.toNat_natCast]; exact hm'.symm, by rw [Int.toNat_natCast, hm']; exact hs⟩]
          have hpos : 0 < E a b S alo blo bhi (n + 1) (j0 : Int) := by have := E_nonneg (a := a) (b := b) (S := S) (alo := alo) (blo := blo) (bhi := bhi) n ((j0 : Int) - 1); (clear hlo hm' hbh hb; omega)
          have hstep := h2.step (V' := fun m j => 1 ≤ m ∧ (m ≤ n ∨ (m = n + 1 ∧ j < ((j0 + 1 : Nat) : Int)))) (m0 := n + 1) (j0 := (j0 : Int)) hpos (fun m j => by
            constructor
            · rintro ⟨g1, g2⟩
              by_cases hmn : m ≤ n
              · exact .inl ⟨g1, .inl hmn⟩
              · by_cases hj : j < (j0 : Int)
                · exact .inl ⟨g1, .inr ⟨by lia, hj⟩⟩
                · exact .inr (.inl ⟨by lia, by lia⟩)
            · rintro (⟨g1, g2⟩ | ⟨rfl, rfl⟩ | ⟨g, _⟩)
              · exact ⟨g1, by lia⟩
              · exact ⟨by lia, .inr ⟨rfl, by lia⟩⟩
              · exact g) (fun m j ⟨g1, g2⟩ => by lia)
          rw [inner, if_neg hlo, if_neg (by lia)]
          rw [hE] at hstep
          have hnew : ∀ x : Int, (if x = (j0 : Int) then E a b S alo blo bhi n ((j0 : Int) - 1) + 1 else st.1 x) = if x < ((j0 + 1 : Nat) : Int) then E a b S alo blo bhi (n + 1) x else 0 := by
            intro x
            by_cases hx : x = (j0 : Int)
            · rw [if_pos hx, if_pos (by lia), hx, hE]
            · rw [if_neg hx, h1 x]
              by_cases hx2 : x < (j0 : Int)
              · rw [if_pos hx2, if_pos (by lia)]
              · rw [if_neg hx2, if_neg (by lia)]
          have e1 : ((alo + n : Nat) : Int) - (E a b S alo blo bhi n ((j0 : Int) - 1) + 1) + 1 = (alo : Int) + ((n + 1 : Nat) : Int) - (E a b S alo blo bhi n ((j0 : Int) - 1) + 1) := by lia
          rw [e1]
          exact ih (j0 + 1) _ (by lia) hnew hstep
      · rw [if_neg hm]
        have hz : E a b S alo blo bhi (n + 1) (j0 : Int) = 0 := by
          rw [E, if_neg]
          rintro ⟨_, _, h, _⟩
          rw [Int.toNat_natCast] at h
          exact hm (by simpa using h.symm)
        refine ih (j0 + 1) st (by lia) (fun x => ?_) (h2.zero (fun m j h => ⟨h.1, by lia⟩) fun m j h => ?_)
        · rw [h1 x]
          by_cases hx : x < (j0 : Int)
          · rw [if_pos hx, if_pos (by lia)]
          · rw [if_neg hx]
            by_cases hx2 : x < ((j0 + 1 : Nat) : Int)
            · rw [if_pos hx2]
              have : x = (j0 : Int) := by lia
              rw [this, hz]
            · rw [if_neg hx2]
        · by_cases hmn : m ≤ n
          · exact .inl ⟨h.1, .inl hmn⟩
          · by_cases hj : j < (j0 : Int)
            · exact .inl ⟨h.1, .inr ⟨by lia, hj⟩⟩
            · have e1 : m = n + 1 := by lia
              have e2 : j = (j0 : Int) := by lia
              subst e1 e2
              exact .inr hz
theorem outer_inv {idx : Int → List Int} {nb : Nat} (hidx : ∀ c, idx c = if S c = true then [] else places b nb c) (hnb : bhi ≤ nb) : ∀ n : Nat,
    (∀ x, (outer a idx blo bhi alo n (fun _ => 0, ((alo : Int), (blo : Int), (0 : Int)))).1 x = E a b S alo blo bhi n x) ∧
    Inv a b S alo blo bhi (fun m _ => 1 ≤ m ∧ m ≤ n) (outer a idx blo bhi alo n (fun _ => 0, ((alo : Int), (blo : Int), (0 : Int)))).2
  | 0 => by
    refine ⟨fun x => by simp [outer, E], ?_⟩
    simp only [outer]
    exact ⟨Int.le_refl _, fun m j h => by lia, fun _ => rfl, fun h => by dsimp only at h; (clear hnb; omega)⟩
  | n + 1 => by
    obtain ⟨h1, h2⟩ := outer_inv hidx hnb n
    rw [outer_snoc]
    generalize outer a idx blo bhi alo n (fun _ => 0, ((alo : Int), (blo : Int), (0 : Int))) = st at h1 h2
    have e : st.1 = E a b S alo blo bhi n := funext h1
    rw [e, hidx]
    by_cases hs : S (a (alo + n)) = true
    · rw [if_pos hs]
      simp only [inner]
      have hz : ∀ x, E a b S alo blo bhi (n + 1) x = 0 := fun x => by
        rw [E, if_neg]
        rintro ⟨_, _, g1, g2⟩
        rw [← g1, hs] at g2; cases g2
      refine ⟨fun x => (hz x).symm, h2.zero (fun m j h => ⟨h.1, by exact (Nat.le_trans h.2 (Nat.le_succ _))⟩) fun m j h => ?_⟩
      by_cases hmn : m ≤ n
      · exact .inl ⟨h.1, hmn⟩
      · have : m = n + 1 := by lia
        subst this
        exact .inr (hz j)
    · rw [if_neg hs]
      unfold places
      rw [List.range_eq_range']
      exact inner_inv (by simpa using hs) nb 0 _ (by exact (Nat.le_trans hnb (Nat.le_add_left _ _))) (fun x => by
        by_cases hx : x < ((0 : Nat) : Int)
        · rw [if_pos hx, E, if_neg (by (clear hnb; omega))]
        · rw [if_neg hx]) (h2.zero (fun m j h => ⟨h.1, .inl h.2⟩) fun m j h => by
        by_cases hmn : m ≤ n
        · exact .inl ⟨h.1, hmn⟩
        · right
          have : m = n + 1 := by lia
          subst this
          rw [E, if_neg (by lia)])
noncomputable def Run (a b : Nat → Int) (S : Int → Bool) (i j k : Nat) : Prop := ∀ t < k, a (i + t) = b (j + t) ∧ S (b (j + t)) = false
theorem E_ge : ∀ (m : Nat) (j : Int) (k : Nat), ((k : Int) + 1 ≤ E a b S alo blo bhi m j ↔ (k + 1 ≤ m ∧ (blo : Int) + k ≤ j ∧ j < (bhi : Int) ∧ ∀ t ≤ k, ∀ x y : Nat, x + t + 1 = alo + m → (y : Int) + t = j → a x = b y ∧ S (b y) = false))
  | 0, j, k => ⟨fun h => by simp only [E] at h; omega, fun h => absurd h.1 (Nat.not_succ_le_zero k)⟩
  | m + 1, j, k => by
    rw [E]
    split
    · rename_i h
      obtain ⟨h1, h2, h3, h4⟩ := h
      have z : ∀ x y : Nat, x + 0 + 1 = alo + (m + 1) → (y : Int) + (0 : Nat) = j → a x = b y ∧ S (b y) = false := fun x y e1 e2 => by
        have e1 : x = alo + m := Nat.succ.inj e1
        have e2 : j.toNat = y := by rw [← e2]; rfl
        subst e1 e2
        exact ⟨h3, h4⟩
      cases k with
      | zero =>
        have := E_nonneg (a := a) (b := b) (S := S) (alo := alo) (blo := blo) (bhi := bhi) m (j - 1)
        refine ⟨fun _ => ⟨Nat.succ_le_succ (Nat.zero_le m), by rw [Int.natCast_zero, Int.add_zero]; exact h1, h2, fun t ht => ?_⟩, fun _ => Int.add_le_add_right this 1⟩
        cases Nat.le_zero.mp ht
        exact z
      | succ k =>
        have ih := E_ge m (j - 1) k
        have up : (((k + 1 : Nat) : Int) + 1 ≤ E a b S alo blo bhi m (j - 1) + 1) ↔ ((k : Int) + 1 ≤ E a b S alo blo bhi m (j - 1)) := Int.add_le_add_iff_right 1
        rw [up, ih]
        constructor
        · rintro ⟨g1, g2, g3, g4⟩
          refine ⟨Nat.succ_le_succ g1, by lia, h2, fun t ht => ?_⟩
          cases t with
          | zero => exact z
          | succ t => exact fun x y e1 e2 => g4 t (Nat.le_of_succ_le_succ ht) x y (by lia) (by lia)
        · rintro ⟨g1, g2, g3, g4⟩
          exact ⟨Nat.le_of_succ_le_succ g1, by lia, by (clear g1 h3 h1; lia), fun t ht x y e1 e2 => g4 (t + 1) (Nat.succ_le_succ ht) x y (by lia) (by lia)⟩
    · rename_i h
      constructor
      · intro h'; omega
      · rintro ⟨g1, g2, g3, g4⟩
        refine absurd ?_ h
        have hj : ((j.toNat : Nat) : Int) = j := Int.toNat_of_nonneg (by lia)
        have := g4 0 (Nat.zero_le k) (alo + m) j.toNat rfl (by rw [hj]; exact Int.add_zero j)
        exact ⟨by (clear hj g3 g1; lia), g3, this.1, this.2⟩
end
noncomputable def Good (a b : Nat → Int) (S : Int → Bool) (alo ahi blo bhi i j k : Nat) : Prop := 0 < k ∧ alo ≤ i ∧ i + k ≤ ahi ∧ blo ≤ j ∧ j + k ≤ bhi ∧ Run a b S i j k
noncomputable def Best (a b : Nat → Int) (S : Int → Bool) (alo ahi blo bhi i j k : Nat) : Prop := Good a b S alo ahi blo bhi i j k ∧ ∀ i' j' k', Good a b S alo ahi blo bhi i' j' k' → k' < k ∨ (k' = k ∧ (i < i' ∨ (i = i' ∧ j ≤ j')))
theorem search_spec {a b : Nat → Int} {S : Int → Bool} {alo ahi blo bhi : Nat} {idx : Int → List Int} {nb : Nat} (hidx : ∀ c, idx c = if S c = true then [] else places b nb c) (hnb : bhi ≤ nb) (ha : alo ≤ ahi) :
    ((outer a idx blo bhi alo (ahi - alo) (fun _ => 0, ((alo : Int), (blo : Int), (0 : Int)))).2 = ((alo : Int), (blo : Int), (0 : Int)) ∧ ∀ i j k, ¬ Good a b S alo ahi blo bhi i j k) ∨
    ∃ i j k : Nat, (outer a idx blo bhi alo (ahi - alo) (fun _ => 0, ((alo : Int), (blo : Int), (0 : Int)))).2 = ((i : Int), (j : Int), (k : Int)) ∧ Best a b S alo ahi blo bhi i j k := by
  obtain ⟨_, h0, h1, h2, h3⟩ := outer_inv (a := a) (b := b) (S := S) (alo := alo) (blo := blo) (bhi := bhi) hidx hnb (ahi - alo)
  generalize (outer a idx blo bhi alo (ahi - alo) (fun _ => 0, ((alo : Int), (blo : Int), (0 : Int)))).2 = t at h0 h1 h2 h3
  have conv : ∀ i j k n, Good a b S alo ahi blo bhi i j (k + 1) → alo + n = i + (k + 1) → (k : Int) + 1 ≤ E a b S alo blo bhi n ((j : Int) + k) ∧ 1 ≤ n ∧ n ≤ ahi - alo := by
    rintro i j k n ⟨g1, g2, g3, g4, g5, g6⟩ hn
    have c1 : k + 1 ≤ n := by lia
    refine ⟨(E_ge _ _ k).mpr ⟨c1, by lia, by lia, fun t ht x y e1 e2 => ?_⟩, Nat.le_trans (Nat.succ_le_succ (Nat.zero_le k)) c1, by lia⟩
    obtain ⟨r, rfl⟩ : ∃ r, k = r + t := ⟨k - t, (Nat.sub_add_cancel ht).symm⟩
    have := g6 r (Nat.lt_succ_of_le (Nat.le_add_right r t))
    rw [show x = i + r by (clear e2 g4 g2 h0 hnb; lia), show y = j + r by (clear e1 g4 g2 h0 hnb; lia)]
    exact this
  have ex : ∀ i k, alo ≤ i → ∃ n, alo + n = i + (k + 1) := fun i k h => ⟨i + (k + 1) - alo, Nat.add_sub_cancel' (Nat.le_trans h (Nat.le_add_right i _))⟩
  by_cases hz : t.2.2 = 0
  · left
    refine ⟨h2 hz, fun i j k hg => ?_⟩
    cases k with
    | zero => exact absurd hg.1 (Nat.lt_irrefl 0)
    | succ k =>
      obtain ⟨n, hn⟩ := ex i k hg.2.1
      obtain ⟨g, v⟩ := conv i j k n hg hn
      have := h1 n ((j : Int) + k) v
      lia
  · right
    obtain ⟨m, j, ⟨v1, v2⟩, e1, e2, e3, e4⟩ := h3 (by lia)
    obtain ⟨ti, tj, tk⟩ := t
    dsimp only at h0 h1 hz e1 e2 e3 e4
    obtain ⟨k, rfl⟩ : ∃ k : Nat, tk = (k : Int) + 1 := ⟨(tk - 1).toNat, by lia⟩
    obtain ⟨g1, g2, g3, g4⟩ := (E_ge (a := a) (b := b) (S := S) (alo := alo) (blo := blo) (bhi := bhi) m j k).mp (Int.le_of_eq e1.symm)
    obtain ⟨q, rfl⟩ : ∃ q, m = q + (k + 1) := ⟨m - (k + 1), (Nat.sub_add_cancel g1).symm⟩
    obtain ⟨y, rfl⟩ : ∃ y : Nat, j = (y : Int) + k := ⟨(j - k).toNat, by (clear e2 e1 v2 e3 h0 ha hnb; lia)⟩
    refine ⟨alo + q, y, k + 1, ?_, ⟨Nat.succ_pos k, Nat.le_add_right alo q, by (clear e1 g2 e3 e2 v1 ha hnb; omega), by lia, by lia, fun t ht => ?_⟩, fun i' j' k' hg => ?_⟩
    · rw [e2, e3]
      rw [show (alo : Int) + ((q + (k + 1) : Nat) : Int) - ((k : Int) + 1) = ((alo + q : Nat) : Int) by lia, show (y : Int) + k - ((k : Int) + 1) + 1 = y by lia]
      rfl
    · obtain ⟨r, rfl⟩ : ∃ r, k = r + t := ⟨k - t, (Nat.sub_add_cancel (Nat.le_of_lt_succ ht)).symm⟩
      exact g4 r (Nat.le_add_right r t) (alo + q + t) (y + t) (by (clear e1 g2 e3 e2 v2 h0 ha hnb; lia)) (by lia)
    · cases k' with
      | zero => exact absurd hg.1 (Nat.lt_irrefl 0)
      | succ k' =>
        obtain ⟨n, hn⟩ := ex i' k' hg.2.1
        obtain ⟨g, v⟩ := conv i' j' k' n hg hn
        have hle := h1 n ((j' : Int) + k') v
        by_cases hlt : k' + 1 < k + 1
        · exact .inl hlt
        · have hkk : k' = k := by lia
          subst hkk
          refine .inr ⟨rfl, ?_⟩
          rcases e4 n ((j' : Int) + k') v (Int.le_antisymm hle g) with h | ⟨h, h'⟩
          · left; lia
          · right; exact ⟨by lia, by lia⟩
end Pure
end
section
namespace Pure
noncomputable abbrev nj : Int → Bool := fun _ => false
theorem good_of {a b : Nat → Int} {S : Int → Bool} {alo ahi blo bhi i j k : Nat} (h0 : 0 < k) (h1 : alo ≤ i) (h2 : i + k ≤ ahi) (h3 : blo ≤ j) (h4 : j + k ≤ bhi) (h5 : Run a b S i j k) : Good a b S alo ahi blo bhi i j k := ⟨h0, h1, h2, h3, h4, h5⟩
theorem flm_nj {a b : Nat → Int} {nb alo ahi blo bhi : Nat} (hnb : bhi ≤ nb) (ha : alo ≤ ahi) :
    (flm a b (places b nb) nj alo ahi blo bhi = (alo, blo, 0) ∧ ∀ i j k, ¬ Good a b nj alo ahi blo bhi i j k) ∨ ∃ i j k, flm a b (places b nb) nj alo ahi blo bhi = (i, j, k) ∧ Best a b nj alo ahi blo bhi i j k := by
  have key : ∀ i j k : Nat, (outer a (places b nb) blo bhi alo (ahi - alo) (fun _ => 0, ((alo : Int), (blo : Int), (0 : Int)))).2 = ((i : Int), (j : Int), (k : Int)) →
      ¬ (alo < i ∧ blo < j ∧ a (i - 1) = b (j - 1)) → ¬ (i + k < ahi ∧ j + k < bhi ∧ a (i + k) = b (j + k)) → flm a b (places b nb) nj alo ahi blo bhi = (i, j, k) := by
    intro i j k e h1 h2
    unfold flm
    rw [e]
    dsimp only
    rw [Int.toNat_natCast, Int.toNat_natCast, Int.toNat_natCast]
    have e1 : extL a b (fun c => !nj c) alo blo i j k = (i, j, k) := extL_stop fun ⟨g1, g2, _, g4⟩ => h1 ⟨g1, g2, g4⟩
    rw [e1]
    dsimp only
    have e2 : extR a b (fun c => !nj c) ahi bhi i j (ahi - (i + k)) k = k := extR_stop (fun ⟨g1, g2, _, g4⟩ => h2 ⟨g1, g2, g4⟩) _
    rw [e2]
    have e3 : extL a b nj alo blo i j k = (i, j, k) := extL_stop fun ⟨_, _, g3, _⟩ => Bool.noConfusion g3
    rw [e3]
    dsimp only
    have e4 : extR a b nj ahi bhi i j (ahi - (i + k)) k = k := extR_stop (fun ⟨_, _, g3, _⟩ => Bool.noConfusion g3) _
    rw [e4]
  rcases search_spec (a := a) (b := b) (S := nj) (idx := places b nb) (nb := nb) (alo := alo) (ahi := ahi) (blo := blo) (bhi := bhi) (fun c => rfl) hnb ha with ⟨e, h⟩ | ⟨i, j, k, e, hg, hb⟩
  · left
    refine ⟨key alo blo 0 e (by lia) fun ⟨g1, g2, g3⟩ => h alo blo 1 ?_, h⟩
    exact good_of (by lia) (by exact (Nat.le_refl _)) (by exact (Nat.lt_of_le_of_lt (Nat.le_add_right _ _) g1)) (by exact (Nat.le_refl _)) (by exact (Nat.lt_of_le_of_lt (Nat.le_add_right _ _) g2)) fun t ht => by
      have : t = 0 := by lia
      subst this; exact ⟨g3, rfl⟩
  · right
    refine ⟨i, j, k, key i j k e (fun ⟨g1, g2, g3⟩ => ?_) (fun ⟨g1, g2, g3⟩ => ?_), hg, hb⟩
    · obtain ⟨q0, q1, q2, q3, q4, q5⟩ := hg
      have := hb (i - 1) (j - 1) (k + 1) (good_of (by exact (Nat.lt_succ_of_le (Nat.zero_le _))) (by (clear hnb; omega)) (by (clear ha hnb; lia)) (by (clear ha hnb; omega)) (by lia) fun t ht => by
        by_cases h0 : t = 0
        · subst h0; exact ⟨g3, rfl⟩
        · have := q5 (t - 1) (by (clear hnb; omega))
          have e1 : i + (t - 1) = i - 1 + t := by lia
          have e2 : j + (t - 1) = j - 1 + t := by lia
          rwa [e1, e2] at this)
      lia
    · obtain ⟨q0, q1, q2, q3, q4, q5⟩ := hg
      have := hb i j (k + 1) (good_of (by exact (Nat.lt_succ_of_le (Nat.zero_le _))) (by omega) (by lia) (by omega) (by lia) fun t ht => by
        by_cases h0 : t = k
        · subst h0; exact ⟨g3, rfl⟩
        · exact q5 t (by lia))
      lia
noncomputable def Best2 (a b : Nat → Int) (alo ahi blo bhi i j k : Nat) : Prop := Good a b nj alo ahi blo bhi i j k ∧ ∀ i' j' k', Good a b nj alo ahi blo bhi i' j' k' → k' < k ∨ (k' = k ∧ i ≤ i' ∧ j ≤ j')
theorem flm_best2 {a b : Nat → Int} {nb alo ahi blo bhi i j k : Nat} (hnb : bhi ≤ nb) (ha : alo ≤ ahi) (h : Best2 a b alo ahi blo bhi i j k) : flm a b (places b nb) nj alo ahi blo bhi = (i, j, k) := by
  obtain ⟨h1, h2⟩ := h
  rcases flm_nj (a := a) (b := b) hnb ha (alo := alo) (ahi := ahi) (blo := blo) (bhi := bhi) with ⟨e, hn⟩ | ⟨i', j', k', e, hg, hb⟩
  · exact absurd h1 (hn i j k)
  · rw [e]
    have q1 := h2 i' j' k' hg
    have q2 := hb i j k h1
    have : i' = i ∧ j' = j ∧ k' = k := by lia
    rw [this.1, this.2.1, this.2.2]
theorem flm_none {a b : Nat → Int} {nb alo ahi blo bhi : Nat} (hnb : bhi ≤ nb) (ha : alo ≤ ahi) (h : ∀ i j k, ¬ Good a b nj alo ahi blo bhi i j k) : flm a b (places b nb) nj alo ahi blo bhi = (alo, blo, 0) := by
  rcases flm_nj (a := a) (b := b) hnb ha (alo := alo) (ahi := ahi) (blo := blo) (bhi := bhi) with ⟨e, hn⟩ | ⟨i', j', k', e, hg, hb⟩
  · exact e
  · exact absurd hg (h _ _ _)
inductive Blocks (a b : Nat → Int) : Nat → Nat → Nat → Nat → List Blk → Prop
  | none {alo ahi blo bhi : Nat} : (∀ i j k, ¬ Good a b nj alo ahi blo bhi i j k) → Blocks a b alo ahi blo bhi []
  | some {alo ahi blo bhi i j k : Nat} {L R : List Blk} : Best2 a b alo ahi blo bhi i j k → Blocks a b alo i blo j L → Blocks a b (i + k) ahi (j + k) bhi R → Blocks a b alo ahi blo bhi (L ++ (i, j, k) :: R)
theorem Blocks.ro {a b : Nat → Int} {nb alo ahi blo bhi : Nat} {L : List Blk} (h : Blocks a b alo ahi blo bhi L) : alo ≤ ahi → blo ≤ bhi → bhi ≤ nb → roN (flm a b (places b nb) nj) (alo, ahi, blo, bhi) = L := by
  induction h with
  | none hn =>
    intro h1 h2 h3
    exact roN_none (by rw [flm_none h3 h1 hn])
  | @some alo ahi blo bhi i j k L R hb hL hR ihL ihR =>
    intro h1 h2 h3
    have e := flm_best2 h3 h1 hb
    obtain ⟨⟨q0, q1, q2, q3, q4, q5⟩, _⟩ := hb
    rw [roN_some (flm_in _ _ _ _) h1 h2 e (by exact (Nat.ne_of_gt q0))]
    congr 1
    · split
      · exact ihL (by omega) (by omega) (by exact (Nat.le_trans (Nat.le_trans (Nat.le_add_right _ _) q4) h3))
      · rename_i hc
        cases hL with
        | none _ => rfl
        | some hb' _ _ => obtain ⟨⟨g0, g1, g2, g3, g4, g5⟩, _⟩ := hb'; lia
    · congr 1
      split
      · exact ihR (by omega) (by omega) (by omega)
      · rename_i hc
        cases hR with
        | none _ => rfl
        | some hb' _ _ => obtain ⟨⟨g0, g1, g2, g3, g4, g5⟩, _⟩ := hb'; lia
noncomputable def swp (b : Blk) : Blk := (b.2.1, b.1, b.2.2)
theorem Good.swap {a b : Nat → Int} {alo ahi blo bhi i j k : Nat} (h : Good a b nj alo ahi blo bhi i j k) : Good b a nj blo bhi alo ahi j i k := by
  obtain ⟨q0, q1, q2, q3, q4, q5⟩ := h
  exact ⟨q0, q3, q4, q1, q2, fun t ht => ⟨(q5 t ht).1.symm, rfl⟩⟩
theorem Best2.swap {a b : Nat → Int} {alo ahi blo bhi i j k : Nat} (h : Best2 a b alo ahi blo bhi i j k) : Best2 b a blo bhi alo ahi j i k :=
  ⟨h.1.swap, fun i' j' k' hg => by have := h.2 j' i' k' hg.swap; lia⟩
theorem Blocks.swap {a b : Nat → Int} {alo ahi blo bhi : Nat} {L : List Blk} (h : Blocks a b alo ahi blo bhi L) : Blocks b a blo bhi alo ahi (L.map swp) := by
  induction h with
  | none hn => exact .none fun i j k hg => hn j i k hg.swap
  | @some alo ahi blo bhi i j k L R hb hL hR ihL ihR =>
    rw [List.map_append, List.map_cons]
    exact .some hb.swap ihL ihR
noncomputable def Apart : List Blk → Prop
  | [] => True
  | [_] => True
  | x :: y :: r => ¬ (x.1 + x.2.2 = y.1 ∧ x.2.1 + x.2.2 = y.2.1) ∧ Apart (y :: r)
theorem fold_apart : ∀ (r : List Blk) (x : Blk) (acc : List Blk), (∀ y ∈ x :: r, 0 < y.2.2) → Apart (x :: r) →
    (if (r.foldl joinStep (x, acc)).1.2.2 = 0 then (r.foldl joinStep (x, acc)).2 else (r.foldl joinStep (x, acc)).2 ++ [(r.foldl joinStep (x, acc)).1]) = acc ++ x :: r
  | [], x, acc, hp, _ => by
    have := hp x (.head _)
    rw [List.foldl_nil, if_neg (by dsimp only; lia)]
  | y :: r, x, acc, hp, ha => by
    have hx := hp x (.head _)
    have hs : joinStep (x, acc) y = (y, acc ++ [x]) := by
      unfold joinStep; rw [if_neg ha.1, if_neg (by dsimp only; lia)]
    rw [List.foldl_cons, hs, fold_apart r y (acc ++ [x]) (fun z hz => hp z (.tail _ hz)) ha.2]
    simp
theorem joined_apart {L : List Blk} (la lb : Nat) (hp : ∀ y ∈ L, 0 < y.2.2) (ha : Apart L) : joined L la lb = L ++ [(la, lb, 0)] := by
  unfold joined joinAll
  cases L with
  | nil => rfl
  | cons x r =>
    have hs : joinStep ((0, 0, 0), []) x = (x, []) := by
      unfold joinStep
      split
      · rename_i h
        obtain ⟨i, j, k⟩ := x
        dsimp only at h ⊢
        have e1 : i = 0 := by lia
        have e2 : j = 0 := by exact (Nat.le_antisymm (Nat.le_trans (Nat.le_trans (Nat.le_of_eq h.2.symm) (Nat.le_of_eq h.1)) (Nat.le_of_eq e1)) (Nat.zero_le _))
        rw [e1, e2, Nat.zero_add]
      · rfl
    rw [List.foldl_cons, hs, fold_apart r x [] hp ha]
    rfl
end Pure
end
section
open PySem PySem.W PySem.Calls PyProof.Rows
set_option maxRecDepth 100000
set_option maxHeartbeats 4000000
set_option Elab.async false
set_option linter.unusedVariables false
namespace Mine
noncomputable abbrev noJ : Int → Bool := fun _ => false
noncomputable abbrev plc (bs : List Int) : Int → List Int := Pure.places (fun i => bs.getD i 0) bs.length
noncomputable abbrev rosOf (as bs : List Int) : List Pure.Blk := Pure.roN (Pure.flm (fun i => as.getD i 0) (fun i => bs.getD i 0) (plc bs) noJ) (0, as.length, 0, bs.length)
noncomputable abbrev blksOf (as bs : List Int) : List Pure.Blk := Pure.joined (rosOf as bs) as.length bs.length
noncomputable def EvalStop (M : Model) (A : Around) (e : Expr) (env : Env) (Q : Value → Shared → Prop) (E : Value → Shared → Prop) (s : Shared) : Prop := wpAny M A (eval e env) Q E s
theorem eval_stop {M : Model} {A : Around} {E : Value → Shared → Prop} {s : Shared} {e : Expr} {env : Env} {Q : Value → Shared → Prop} (h : EvalStop M A e env Q E s) : wpAny M A (eval e env) Q E s := h
theorem smB_of {w : World} {h₀ h : Heap} {L x dx la lb l2 lj : Addr} {as bs : List Int} {va vb : List Value} {news rest : List (Addr × Obj)} (N : News h₀ L h news) (hx : h.get? x = some (instObj 242 dx)) (hla : h.IsList la va.toArray) (hIa : IntsAre va as) (hlb : h.IsList lb vb.toArray) (hIb : IntsAre vb bs)
    (hb : Bj w rest l2 lj bs) (hs : ∀ p ∈ rest, p ∈ news) (hne : AllNe dx rest) (na : as.length < 2 ^ 20) (nb : bs.length < 2 ^ 20) : SmB w h x dx la lb as bs (plc bs) noJ l2 lj := by
  obtain ⟨ob, kv, led, h1, h2, h3, h4, h5⟩ := hb
  have hD : h.DictOf (intKind pw w) l2 kv := Heap.dictOf_iff.mpr ⟨ob, (N _ (hs _ h1)).1, h2⟩
  refine ⟨hx, ⟨va, hla, hIa⟩, ⟨vb, hlb, hIb⟩, ⟨_, 0, hD.mapOf, h4, fun c => ?_, set_fresh (N _ (hs _ h5)).1, ne_of_allNe hne _ h1⟩, by lia, by lia, fun c => ?_⟩
  · rcases h3 c with h | ⟨lx, vx, n, e1, hm, hI⟩
    · exact .inl h
    · exact .inr ⟨lx, vx, e1, N.isList (hs _ hm), hI⟩
  · exact Nat.lt_of_le_of_lt (Pure.places_len (fun i => bs.getD i 0) bs.length c) (by lia)
theorem gmb_callL {w : World} {mg mb : Str → Option Value} {means : ExcName → Option Value} {dp un : Nat} {fr : Option (List Env)} {gu : Option (List Code)} {s : Shared} {h₀ : Heap} {L x dx la lb l2 lj lp : Addr} {m : Str → Option Value} {own rest : List (Addr × Obj)} {E : Value → Shared → Prop} {Q : Value → Shared → Prop} {as bs : List Int} {idx : Int → List Int} {S : Int → Bool} {ts : Nat → Tok} {ij aj oc fb : Value}
    (F : Fr h₀ L s.heap m) (N : News h₀ L s.heap (own ++ (dx, selfD w.params ts ij (.ref la) (.ref lb) aj .none oc fb (.ref l2) (.ref lj) (.ref lp)) :: rest)) (h1 : AllNe dx own) (h2 : AllNe dx rest) (X : (K w.params).In h₀) (T : Top q (looseW q loose) means mg mb h₀) (sm : SmB w s.heap x dx la lb as bs idx S l2 lj) (hroom : dp + 6 < recursionLimit) (hu : un + 10 < cLine)
    (h64 : (Pure.roN (Pure.flm (fun i => as.getD i 0) (fun i => bs.getD i 0) idx S) (0, as.length, 0, bs.length)).length < 63) (hna : as.length < 2 ^ 20)
    (hs : (Pure.roN (Pure.flm (fun i => as.getD i 0) (fun i => bs.getD i 0) idx S) (0, as.length, 0, bs.length)).Pairwise (fun a b => a.1 < b.1))
    (h : ∀ h' tk Sl ms c N', Fr h₀ L h' m → News h₀ L h' (own ++ (dx, selfD w.params ts ij (.ref la) (.ref lb) aj (.ref Sl) oc fb (.ref l2) (.ref lj) (.ref lp)) :: (rest ++ (Sl, W.listOf (List.toArray ms) c) :: N')) → Kept h₀ h' →
      Ms N' ms (Pure.joined (Pure.roN (Pure.flm (fun i => as.getD i 0) (fun i => bs.getD i 0) idx S) (0, as.length, 0, bs.length)) as.length bs.length) → AllNe dx ((Sl, W.listOf (List.toArray ms) c) :: N') → Q (.ref Sl) { s with heap := h', toks := tk }) :
    wpAny (model pw w) (Around.mk none dp fr gu un) (call (.ref 203) [.ref x] []) Q E s := by
  have nd := N _ (List.mem_append_right _ (.head _))
  refine wpAny_call (gmb_ok (base := h₀) T F.keep nd.2.2 sm nd.1 hroom hu h64 hna hs (fun h' tk Sl ms c N' keep hd' hSl hN' hSn hms => ?_) X rfl)
  have hall : ∀ p ∈ (Sl, W.listOf (List.toArray ms) c) :: N', h'.get? p.1 = some p.2 ∧ s.heap.get? p.1 = none := fun p hp => by
    rcases List.mem_cons.mp hp with rfl | hp
    · exact ⟨hSl, hSn⟩
    · exact hN' p hp
  obtain ⟨F', N''⟩ := led_mod (N' := (Sl, W.listOf (List.toArray ms) c) :: N') F N h1 h2 keep hd' hall
  exact h h' tk Sl ms c N' F' N'' F'.keep hms (allNe_of fun p hp e => by have := (hall p hp).2; rw [e, nd.1] at this; cases this)

theorem pick_ijs : (fun b : Pure.Blk => (pick (Str.ofString "i") (Str.ofString "j") (Str.ofString "size") (Str.ofString "i") b, pick (Str.ofString "i") (Str.ofString "j") (Str.ofString "size") (Str.ofString "j") b, pick (Str.ofString "i") (Str.ofString "j") (Str.ofString "size") (Str.ofString "size") b)) = id := by
  funext b
  unfold pick
  rw [if_neg (by decide), if_neg (by decide), if_pos rfl, if_neg (by decide), if_pos rfl, if_pos rfl]
  rfl
theorem tri_of_ms {N : List (Addr × Obj)} {vs : List Value} {rs : List Pure.Blk} (h : Ms N vs rs) : ∀ i v, vs[i]? = some v → Tri N v (rs.getD i Pure.z3) := by
  intro i v hv
  have hi : i < vs.length := (List.getElem?_eq_some_iff.mp hv).1
  obtain ⟨a, dy, u1, u2, u3, e1, e2⟩ := h.get i (by rw [← h.length]; exact hi)
  refine ⟨a, by rw [← e1]; simp [List.getD, hv], u1, u2, u3, .inl ⟨dy, e2⟩⟩

section
variable {w : World} {mg mb : Str → Option Value} {means : ExcName → Option Value} {dp un : Nat} {fr : Option (List Env)} {gu : Option (List Code)} {s : Shared} {h₀ : Heap} {m : Str → Option Value} {E : Value → Shared → Prop} {Q : Value → Shared → Prop}
theorem sm_makes (P : Params) : makesIn (K P) 242 = true := by kernel_rfl!
theorem sm_init (P : Params) : findIn (K P) (.ref 242) "__init__" = some (some (.ref 160)) := by kernel_rfl!
theorem sm_isfn (P : Params) : isFn (K P) (.ref 160) = true := by kernel_rfl!
theorem weight_sm (v1 v2 v3 v4 : Value) : (Code.builtin "type.__call__" ⟨[.ref 242, v1, v2, v3, v4], []⟩).weight = 1 := by kernel_rfl
theorem sm_call {L la lb : Addr} {news : List (Addr × Obj)} {bs : List Int} {va vb : List Value} {ka kb : Nat} (F : Fr h₀ L s.heap m) (N : News h₀ L s.heap news) (X : (K w.params).In h₀) (T : Top q (looseW q loose) means mg mb h₀)
    (hla : (la, W.listOf va.toArray ka) ∈ news) (hlb : (lb, W.listOf vb.toArray kb) ∈ news) (hIb : IntsAre vb bs) (nb : bs.length < 2 ^ 20) (hroom : dp + 11 < recursionLimit)
    (h : ∀ x dx h' tk ts l2 lj lp N', Fr h₀ L h' m → News h₀ L h' ((x, instObj 242 dx) :: (dx, selfD w.params ts .none (.ref la) (.ref lb) (.bool false) .none .none .none (.ref l2) (.ref lj) (.ref lp)) :: (news ++ N')) → @Ne Nat x dx → AllNe dx news → AllNe dx N' → Bj w N' l2 lj bs → (∀ p ∈ news, p.1 < dx) → @LT.lt Nat _ dx x → Q (.ref x) { s with heap := h', toks := tk }) :
    wpAny (model pw w) (Around.mk none dp fr gu un) (call (.ref 242) [.none, .ref la, .ref lb, .bool false] []) Q E s := by
  refine call_cls F X N (sm_makes _) (sm_init _) (sm_isfn _) fun x dx h1 F1 N1 hlt hlt2 => ?_
  have ndx := N1 _ (.tail _ (.head _))
  have nx := N1 _ (.head _)
  refine init_ok (base := h₀) T F1.keep ndx.2.2 nx.1 ndx.1 ⟨_, (N1 _ (.tail _ (.tail _ hla))).1, rfl⟩ (N1.isList (.tail _ (.tail _ hlb))) hIb nb (by show dp + Code.weight _ + 10 < _; rw [weight_sm]; omega) (fun h' tk ts' l2 lj lp N' keep hd' hN' hne hbj => ?_) X rfl
  refine ⟨rfl, ?_⟩
  have a1 : AllNe dx [(x, instObj 242 dx)] := ⟨Ne.symm (Nat.ne_of_lt hlt2), trivial⟩
  have a2 : AllNe dx news := allNe_of fun p hp => Nat.ne_of_lt (hlt p hp)
  obtain ⟨F', N''⟩ := led_mod (own := [(x, instObj 242 dx)]) F1 N1 a1 a2 keep hd' hN'
  exact h x dx h' tk ts' l2 lj lp N' F' N'' (Ne.symm (Nat.ne_of_lt hlt2)) a2 hne hbj hlt hlt2
end

noncomputable def rowData (rs : List Pure.Blk) : List PyData := rs.map fun b => .tuple [.int b.1, .int b.2.1, .int b.2.2]
theorem readsAll_snoc {h : Heap} {v : Value} {d : PyData} {as : List Addr} : ∀ {vs : List Value} {ds : List PyData} {bs : List Addr}, ReadsAll h vs ds bs → Reads h v d as → ∃ cs, ReadsAll h (vs ++ [v]) (ds ++ [d]) cs
  | _, _, _, .nil, r => ⟨_, .cons r .nil⟩
  | _, _, _, .cons r1 r2, r => let ⟨_, q⟩ := readsAll_snoc r2 r; ⟨_, .cons r1 q⟩
theorem Ts.reads {h₀ h : Heap} {L : Addr} {news N : List (Addr × Obj)} {vs : List Value} {rs : List Pure.Blk} (NN : News h₀ L h news) (hs : ∀ p ∈ N, p ∈ news) (t : Ts N vs rs) : ∃ as, ReadsAll h vs (rowData rs) as := by
  induction t with
  | nil => exact ⟨_, .nil⟩
  | @snoc vs rs a x1 x2 x3 t1 t2 t3 ht hm ih =>
    obtain ⟨bs, ih⟩ := ih
    obtain ⟨cs, r⟩ := readsAll_snoc ih (reads_tuple_at (xs := [.int x1, .int x2, .int x3]) (NN.get (hs _ hm)) rfl rfl (.cons (.int _ _) (.cons (.int _ _) (.cons (.int _ _) .nil))))
    exact ⟨cs, by unfold rowData at *; rw [List.map_append]; exact r⟩
theorem row_lay : ∀ rs : List Pure.Blk, PyData.canLayAll0 (rowData rs) = true ∧ PyData.depthAll (rowData rs) ≤ 3
  | [] => by simp [rowData, PyData.canLayAll0, PyData.depthAll]
  | b :: rs => by
    obtain ⟨h1, h2⟩ := row_lay rs
    unfold rowData at *
    simp only [List.map_cons, PyData.canLayAll0, PyData.canLay0, PyData.depthAll, PyData.depth, h1, Bool.and_true, Bool.true_and]
    refine ⟨by first | rfl | trivial, ?_⟩
    lia
theorem row_shaped (rs : List Pure.Blk) : SeqAt.shaped (.list (rowData rs)) = true := by
  obtain ⟨h1, h2⟩ := row_lay rs
  unfold SeqAt.shaped
  simp only [PyData.canLay0, PyData.depth, h1, Bool.true_and]
  exact decide_eq_true (by lia)
theorem row_eqv (rs : List Pure.Blk) : PyData.eqv (.list (rowData rs)) (.list (rowData rs)) = true := by
  simp only [PyData.eqv]
  exact SeqAt.eqvAll_refl _ (row_lay rs).1
section
variable {prog : Program} {w : World} {A : Around} {E : Value → Shared → Prop} {s : Shared} {h₀ : Heap} {L D1 D2 : Addr} {news N1 N2 : List (Addr × Obj)} {ys ds : List Value} {rs1 rs2 : List Pure.Blk} {k1 k2 : Nat} {Q : Value → Shared → Prop}
theorem rows_eq (N : News h₀ L s.heap news) (m1 : (D1, W.listOf ys.toArray k1) ∈ news) (m2 : (D2, W.listOf ds.toArray k2) ∈ news) (t1 : Ts N1 ys rs1) (t2 : Ts N2 ds rs2) (h1 : ∀ p ∈ N1, p ∈ news) (h2 : ∀ p ∈ N2, p ∈ news) (he : rs1 = rs2) (hu : A.units + 64 < cLine)
    (h : Q (.bool true) s) : wpAny (model prog w) A (compareOp .Eq (.ref D1) (.ref D2)) Q E s := by
  subst he
  obtain ⟨_, r1⟩ := t1.reads N h1
  obtain ⟨_, r2⟩ := t2.reads N h2
  refine eq_dataH (reads_list_at (N.get m1) rfl rfl (by simpa using r1)) (reads_list_at (N.get m2) rfl rfl (by simpa using r2)) (row_shaped _) (row_shaped _) hu ?_
  rw [row_eqv]; exact h
theorem rows_ne (N : News h₀ L s.heap news) (m1 : (D1, W.listOf ys.toArray k1) ∈ news) (m2 : (D2, W.listOf ds.toArray k2) ∈ news) (t1 : Ts N1 ys rs1) (t2 : Ts N2 ds rs2) (h1 : ∀ p ∈ N1, p ∈ news) (h2 : ∀ p ∈ N2, p ∈ news) (he : rs1 = rs2) (hu : A.units + 64 < cLine)
    (h : Q (.bool false) s) : wpAny (model prog w) A (compareOp .NotEq (.ref D1) (.ref D2)) Q E s := by
  subst he
  obtain ⟨_, r1⟩ := t1.reads N h1
  obtain ⟨_, r2⟩ := t2.reads N h2
  refine ne_dataH (reads_list_at (N.get m1) rfl rfl (by simpa using r1)) (reads_list_at (N.get m2) rfl rfl (by simpa using r2)) (row_shaped _) (row_shaped _) hu ?_
  rw [row_eqv]; exact h
end


section
variable {w : World} {A : Around} {R : Result → Shared → Prop} {s : Shared} {base : Heap} {mg mb : Str → Option Value} {means : ExcName → Option Value} {p : Program} {ls : List Str}
theorem enterC {K : Frag} {prog : Program} {name qual : Str} {params : Arguments} {body : List Stmt} {scope : Scope} {dV kV doc pm cdv ct oc : Value} {an od : Option Addr} {osl : Array (Option Value)} {f : Addr} {args : Args} {binds : List (Str × Value)} (mods : List Addr)
    (X : K.In base) (T : Top p ls means mg mb base) (kb : Kept base s.heap) (hm : ∀ a ∈ mods, base.get? a = none)
    (hroom : A.depth < recursionLimit) (ho : K.lookup f = some ⟨oc, od, .func (fnOf name qual params body scope dV kV doc pm an cdv ct), osl⟩) (hcd : codeIn K cdv qual = true)
    (hbind : BindsTo s (fnOf name qual params body scope dV kV doc pm an cdv ct) args binds) (hkind : (binds.all fun y => scope.names.lookup y.1 == some .local || scope.names.lookup y.1 == some .cell) = true)
    (hnd : ((cellsFrom 0 scope.names []).map (·.1)).Nodup)
    (h : ∀ L h₁ tk cells, K.In (hideAll s.heap mods) → Top p ls means mg mb (hideAll s.heap mods) → Fr (hideAll s.heap mods) L h₁ (bindL (envOfC qual scope L f cdv).kindOf binds fun _ => none) → News (hideAll s.heap mods) L h₁ cells →
      CellsAre (bindC (envOfC qual scope L f cdv).kindOf binds fun _ => none) (cellsFrom (L + 1) scope.names []) cells → Kept s.heap h₁ → L = s.heap.objs.size →
      wpAny (model prog w) (A.deeper (envOfC qual scope L f cdv)) (execs body (envOfC qual scope L f cdv))
        (fun fl s' => R (.ok (.ret (match fl with | .ret v => v | _ => .none))) s') (fun _ _ => False) { s with heap := h₁, toks := tk })
    (hco : scope.isCoroutine = false) (hgen : scope.isGenerator = false) (hk : scope.kind = .function) :
    codeAny (model prog w) A (.call (.ref f) args) R s := by
  have X' := X.keeps kb
  have st : Kept base (hideAll s.heap mods) := fun b o e => hideAll_get _ (kb b o e) fun q => by rw [hm b q] at e; cases e
  refine codeAny_call_function (fd := fnOf name qual params body scope dV kV doc pm an cdv ct) hroom (X' _ _ ho) rfl hco hgen rfl (codeRec_of X' hcd) (hbind _ _ _ _ ?_)
  refine wpAny_newFunctionEnv_cells hk (kindsX hkind _) fun env' he s' x => ?_
  subst he
  refine ⟨(T.nolimit.keeps kb).keeps x.toInCall.keep, codeAny_func ?_⟩
  obtain ⟨h₁, tk, rfl, _⟩ := x.done
  have hk₁ := x.toInCall.keep
  obtain ⟨cells, NC, Y⟩ := Cl.news (h₀ := s.heap) (Nat.le_refl _) fun n c hm => ⟨x.cell n c (lookup_of_mem_nodup (cellsFrom_names scope.names 0 (s.heap.objs.size + 1) [] [] rfl ▸ hnd) hm), x.above n c hm⟩
  refine wpAny_mono (h s.heap.objs.size h₁ tk cells (X.keeps st) (T.keeps st) ⟨x.toInCall.ns, fun b o e => hk₁ b o (of_hideAll _ e), Nat.le_of_eq (hideAll_size _ _)⟩ (fun p hp => ?_) Y hk₁ rfl) (fun _ _ y => y) fun _ _ y => y.elim
  refine ⟨(NC p hp).1, (NC p hp).2.1, ?_⟩
  cases q : (hideAll s.heap mods).get? p.1 with
  | none => rfl
  | some o => have := of_hideAll _ q; rw [(NC p hp).2.2] at this; cases this
end
section
variable {prog : Program} {w : World} {A : Around} {E : Value → Shared → Prop} {s : Shared} {env : Env} {h₀ : Heap} {L : Addr} {m : Str → Option Value} {news : List (Addr × Obj)}
end
theorem allNe_off1 {d : Addr} : ∀ {l : List (Addr × Obj)}, LCg.Off1 d l → AllNe d l
  | [], _ => trivial
  | _ :: _, h => ⟨h.1, allNe_off1 h.2⟩


structure PureOk (as bs : List Int) (due : List Pure.Blk) : Prop where
  len : (rosOf as bs).length < 63
  pw : (rosOf as bs).Pairwise fun a b => a.1 < b.1
  eq : blksOf as bs = due
section
variable {w : World} {mg mb : Str → Option Value} {means : ExcName → Option Value} {dp un : Nat} {fr : Option (List Env)} {gu : Option (List Code)} {s : Shared} {h₀ : Heap} {m : Str → Option Value} {E : Value → Shared → Prop} {Q : Value → Shared → Prop}
end
theorem Tri.mono {N N' : List (Addr × Obj)} {v : Value} {b : Pure.Blk} (h : Tri N v b) (hs : ∀ p ∈ N, p ∈ N') : Tri N' v b := by
  obtain ⟨a, e, t1, t2, t3, h⟩ := h
  exact ⟨a, e, t1, t2, t3, h.imp (fun ⟨dy, h⟩ => ⟨dy, hs _ h⟩) (hs _)⟩
theorem pick_jis (due : List Pure.Blk) : ((due.map fun b => (b.2.1, b.1, b.2.2)).map fun b : Pure.Blk => (pick (Str.ofString "i") (Str.ofString "j") (Str.ofString "size") (Str.ofString "j") b, pick (Str.ofString "i") (Str.ofString "j") (Str.ofString "size") (Str.ofString "i") b, pick (Str.ofString "i") (Str.ofString "j") (Str.ofString "size") (Str.ofString "size") b)) = due := by
  rw [List.map_map]
  have : ((fun b : Pure.Blk => (pick (Str.ofString "i") (Str.ofString "j") (Str.ofString "size") (Str.ofString "j") b, pick (Str.ofString "i") (Str.ofString "j") (Str.ofString "size") (Str.ofString "i") b, pick (Str.ofString "i") (Str.ofString "j") (Str.ofString "size") (Str.ofString "size") b)) ∘ fun b : Pure.Blk => (b.2.1, b.1, b.2.2)) = id := by
    funext b
    unfold pick
    dsimp only [Function.comp]
    rw [if_neg (by decide), if_pos rfl, if_neg (by decide), if_neg (by decide), if_pos rfl, if_pos rfl]
    rfl
  rw [this, List.map_id]
noncomputable def CmpStop (M : Model) (A : Around) (op : CmpOp) (a b : Value) (Q : Value → Shared → Prop) (E : Value → Shared → Prop) (s : Shared) : Prop := wpAny M A (compareOp op a b) Q E s
theorem cmp_stop {M : Model} {A : Around} {op : CmpOp} {a b : Value} {Q : Value → Shared → Prop} {E : Value → Shared → Prop} {s : Shared} (h : CmpStop M A op a b Q E s) : wpAny M A (compareOp op a b) Q E s := h

noncomputable def ExecsStop (M : Model) (A : Around) (sts : List Stmt) (env : Env) (Q : Flow → Shared → Prop) (E : Value → Shared → Prop) (s : Shared) : Prop := wpAny M A (execs sts env) Q E s
theorem execs_stop {M : Model} {A : Around} {sts : List Stmt} {env : Env} {Q : Flow → Shared → Prop} {E : Value → Shared → Prop} {s : Shared} (h : ExecsStop M A sts env Q E s) : wpAny M A (execs sts env) Q E s := h
theorem execs_go {M : Model} {A : Around} {st : Stmt} {rest : List Stmt} {env : Env} {Q : Flow → Shared → Prop} {E : Value → Shared → Prop} {s : Shared} (h : wpAny M A (exec st env) (fun f s' => match f with | .next => wpAny M A (execs rest env) Q E s' | f => Q f s') E s) : ExecsStop M A (st :: rest) env Q E s := wpAny_execs_cons h

theorem ok_of {as bs : List Int} {L : List Pure.Blk} {na nb : Nat} (h : Pure.Blocks (fun i => as.getD i 0) (fun i => bs.getD i 0) 0 na 0 nb L) (ea : as.length = na) (eb : bs.length = nb) (hl : L.length < 63) (hp : ∀ y ∈ L, 0 < y.2.2) (ha : Pure.Apart L) (hs : L.Pairwise fun a b => a.1 < b.1) : PureOk as bs (L ++ [(na, nb, 0)]) := by
  subst ea eb
  have e : rosOf as bs = L := h.ro (Nat.zero_le _) (Nat.zero_le _) (Nat.le_refl _)
  exact ⟨by rw [e]; exact hl, by rw [e]; exact hs, by unfold blksOf; rw [e]; exact Pure.joined_apart _ _ hp ha⟩

end Mine
end
section
open PySem PySem.W PySem.Calls PyProof.Rows PyProof.Rows.LCg
set_option maxRecDepth 100000
set_option maxHeartbeats 4000000
set_option Elab.async false
set_option linter.unusedVariables false
namespace Mine
noncomputable abbrev tup3 (x1 x2 x3 : Int) (t1 t2 t3 : Tok) : Obj := { cls := .type "tuple", data := .seq #[.int x1 t1, .int x2 t2, .int x3 t3] 0 }
noncomputable def TripEnd (h₀ : Heap) (L : Addr) (m : Str → Option Value) (led : List (Addr × Obj)) (b : Pure.Blk) (s : Shared) (y : Value) (s' : Shared) : Prop :=
  ∃ a t1 t2 t3 h' tk', y = .ref a ∧ s' = { s with heap := h', toks := tk' } ∧ Fr h₀ L h' m ∧ News h₀ L h' ((a, tup3 b.1 b.2.1 b.2.2 t1 t2 t3) :: led) ∧ ∀ p ∈ led, p.1 ≠ a
theorem TripEnd.intro {h₀ : Heap} {L : Addr} {m : Str → Option Value} {led : List (Addr × Obj)} {b : Pure.Blk} {s : Shared} {a : Addr} {x1 x2 x3 : Int} {t1 t2 t3 : Tok} {h' : Heap} {tk : Nat} (e1 : x1 = b.1) (e2 : x2 = b.2.1) (e3 : x3 = b.2.2) (F : Fr h₀ L h' m) (N : News h₀ L h' ((a, tup3 x1 x2 x3 t1 t2 t3) :: led)) (hn : ∀ p ∈ led, p.1 ≠ a) :
    TripEnd h₀ L m led b s (.ref a) { s with heap := h', toks := tk } := by
  subst e1 e2 e3
  exact ⟨a, t1, t2, t3, h', tk, rfl, rfl, F, N, hn⟩
section
variable {prog : Program} {w : World} {A : Around} {s : Shared} {h₀ : Heap} {L : Addr} {m : Str → Option Value} {env : Env} {elt : Expr} {x : Str} {scope : Scope} {cl : List (Str × Addr)} {S : List (Addr × Obj) → Prop} {Fin : List Value → List (Addr × Obj) → Prop} {news : List (Addr × Obj)} {n : Nat} {f : Nat → Pure.Blk}
noncomputable def Trips (N : List (Addr × Obj)) (ys : List Value) (rs : List Pure.Blk) : Prop := ys.length = rs.length ∧ ∀ i (hi : i < rs.length), ∃ a t1 t2 t3, ys[i]? = some (.ref a) ∧ (a, tup3 (rs[i]).1 (rs[i]).2.1 (rs[i]).2.2 t1 t2 t3) ∈ N
theorem compRest_trips (hS : ∀ T, S (T ++ news))
    (turn : ∀ (j : Nat) t I oI C oC D ys T m₂ h tk (E' : Value → Shared → Prop), j < n → NsObj oC m₂ → m₂ x = some (.int (j : Nat) t) → Fr h₀ L h m → News h₀ L h ((I, oI) :: (C, oC) :: (D, LCg.lst ys) :: (T ++ news)) → ((@Ne Nat I C) ∧ (@Ne Nat I D) ∧ (@Ne Nat C D)) →
      wpAny (model prog w) A (eval elt (compEnvC scope cl C env)) (TripEnd h₀ L m ((I, oI) :: (C, oC) :: (D, LCg.lst ys) :: (T ++ news)) (f j) { s with heap := h, toks := tk }) E' { s with heap := h, toks := tk })
    (fin : ∀ ys T, Trips T ys ((List.range n).map f) → (∀ p ∈ T, ∀ p' ∈ news, p.1 ≠ p'.1) → Fin ys (T ++ news)) :
    CompRest prog w A h₀ L m env elt x scope cl s S (fun i v => ∃ t, v = .int ((0 : Int) + (i : Int)) t) Fin n 0 [] news := by
  have key : ∀ k i ys T, i + k = n → Trips T ys ((List.range i).map f) → (∀ p ∈ T, ∀ p' ∈ news, p.1 ≠ p'.1) → CompRest prog w A h₀ L m env elt x scope cl s S (fun i v => ∃ t, v = .int ((0 : Int) + (i : Int)) t) Fin k i ys (T ++ news) := by
    intro k
    induction k with
    | zero =>
      intro i ys T e h hfr
      have e : i = n := by omega
      subst e
      exact CompRest.zero (fin ys T h hfr)
    | succ k ih =>
      intro i ys T e h hfr
      refine CompRest.succ ?_
      rintro v I oI C oC D m₂ hh tk E' ⟨t, rfl⟩ hC hx F N off hne
      rw [Int.zero_add] at hx
      refine wpAny_mono (turn i t I oI C oC D ys T m₂ hh tk E' (by lia) hC hx F N hne) (fun y s' hy => ?_) fun _ _ e => e
      obtain ⟨a, t1, t2, t3, h', tk', rfl, rfl, F', N', hn⟩ := hy
      refine ⟨h', tk', (a, tup3 (f i).1 (f i).2.1 (f i).2.2 t1 t2 t3) :: (T ++ news), rfl, F', fun p hp => N' p ?_, ⟨⟨Ne.symm (hn _ (.head _)), Ne.symm (hn _ (.tail _ (.head _))), Ne.symm (hn _ (.tail _ (.tail _ (.head _))))⟩, off⟩, hS ((a, _) :: T), ih (i + 1) _ ((a, _) :: T) (by lia) ?_ ?_⟩
      · simp only [List.mem_cons] at hp ⊢
        rcases hp with h | h | h | h | h
        · exact .inr (.inl h)
        · exact .inr (.inr (.inl h))
        · exact .inr (.inr (.inr (.inl h)))
        · exact .inl h
        · exact .inr (.inr (.inr (.inr h)))
      · obtain ⟨h1, h2⟩ := h
        rw [List.length_map, List.length_range] at h1
        refine ⟨by simp [h1], fun j hj => ?_⟩
        simp only [List.length_map, List.length_range] at hj
        by_cases hji : j < i
        · obtain ⟨a', u1, u2, u3, g1, g2⟩ := h2 j (by simpa using hji)
          refine ⟨a', u1, u2, u3, ?_, .tail _ ?_⟩
          · rw [List.getElem?_append_left (by exact (Nat.lt_of_lt_of_le hji (Nat.le_of_eq h1.symm)))]; exact g1
          · have := g2
            simp only [List.getElem_map, List.getElem_range] at this ⊢
            exact this
        · have hj2 : j = i := by exact (Nat.le_antisymm (Nat.le_of_lt_succ hj) (Nat.not_lt.mp hji))
          subst hj2
          refine ⟨a, t1, t2, t3, ?_, ?_⟩
          · rw [← h1, List.getElem?_concat_length]
          · simp
      · intro p hp p' hp'
        rcases List.mem_cons.mp hp with rfl | hp
        · exact Ne.symm (hn p' (.tail _ (.tail _ (.tail _ (List.mem_append_right _ hp')))))
        · exact hfr p hp p' hp'
  exact key n 0 [] [] (by lia) ⟨rfl, fun i hi => by simp at hi⟩ fun _ h => nomatch h
end
end Mine
end
section
open PySem PySem.W PySem.Calls PyProof.Rows
set_option maxRecDepth 100000
set_option maxHeartbeats 4000000
set_option Elab.async false
set_option linter.unusedVariables false
namespace Mine
noncomputable abbrev fnTop (j : Nat) (qual : Str) (cdv : Value) : FuncData := fnOf (fnName (top j)) qual (fnArgs (top j)) (fnBody (top j)) (fnScope (top j)) .none .none .none (.str "law_dm0054_12" 575) none cdv .none
theorem Trips.ts {N : List (Addr × Obj)} : ∀ (n : Nat) {rs : List Pure.Blk} {ys : List Value}, rs.length = n → Trips N ys rs → Ts N ys rs := by
  intro n
  induction n with
  | zero =>
    rintro rs ys hn ⟨h1, _⟩
    have e1 : rs = [] := List.eq_nil_of_length_eq_zero hn
    subst e1
    have e2 : ys = [] := List.eq_nil_of_length_eq_zero h1
    subst e2; exact .nil
  | succ n ih =>
    rintro rs ys hn ⟨h1, h2⟩
    obtain ⟨rs, b, rfl⟩ : ∃ zs z, rs = zs ++ [z] := ⟨rs.dropLast, rs.getLast (by intro e; rw [e] at hn; simp at hn), (List.dropLast_concat_getLast _).symm⟩
    obtain ⟨a, t1, t2, t3, g1, g2⟩ := h2 rs.length (by simp)
    have hl : ys.length = rs.length + 1 := by simpa using h1
    obtain ⟨zs, z, rfl⟩ : ∃ zs z, ys = zs ++ [z] := ⟨ys.dropLast, ys.getLast (by intro e; rw [e] at hl; simp at hl), (List.dropLast_concat_getLast _).symm⟩
    have hz : zs.length = rs.length := by simpa using hl
    rw [← hz, List.getElem?_concat_length] at g1
    cases g1
    simp only [List.getElem_append_right (Nat.le_refl _), Nat.sub_self, List.getElem_cons_zero] at g2
    refine .snoc (ih (by simpa using hn) ⟨hz, fun i hi => ?_⟩) g2
    obtain ⟨a', u1, u2, u3, q1, q2⟩ := h2 i (by simp; exact (Nat.lt_of_lt_of_le hi (Nat.le_succ _)))
    refine ⟨a', u1, u2, u3, ?_, ?_⟩
    · rw [List.getElem?_append_left (by exact (Nat.lt_of_lt_of_le hi (Nat.le_of_eq hz.symm)))] at q1; exact q1
    · rw [List.getElem_append_left hi] at q2; exact q2
noncomputable def Lists (h : Heap) (vs : List Value) (ps : List (List Int)) : Prop := vs.length = ps.length ∧ ∀ i (hi : i < ps.length), ∃ a ws, vs[i]? = some (.ref a) ∧ h.IsList a (List.toArray ws) ∧ IntsAre ws (ps[i])
theorem ip_at (P : Params) : (K P).lookup 258 = some ⟨.type "function", none, .func (fnTop 8 "_law_in_place" (.ref 257)), #[]⟩ := by kernel_rfl!
theorem ip_code (P : Params) : codeIn (K P) (.ref 257) "_law_in_place" = true := by kernel_rfl!
theorem ip_bind (x y z u : Value) : bindArgs (fnTop 8 "_law_in_place" (.ref 257)) ⟨[x, y, z, u], []⟩ = pure [(Str.ofString "matcher", x), (Str.ofString "pieces", y), (Str.ofString "one", z), (Str.ofString "other", u)] := by kernel_rfl!
local macro_rules | `(tactic| walk_at "call ref") => stop ``call_stop
local macro_rules | `(tactic| walk_at "exec Assign cons ListComp") => stop ``exec_stop
local macro_rules | `(tactic| walk_at "eval ListComp") => stop ``eval_stop
local macro_rules | `(tactic| walk_at "compareOp NotEq ref ref") => stop ``cmp_stop
local macro_rules | `(tactic| walk_at "compareOp Eq ref ref") => stop ``cmp_stop
theorem lenB {prog : Program} {w : World} {A : Around} {E : Value → Shared → Prop} {s : Shared} {h₀ : Heap} {L l : Addr} {m : Str → Option Value} {vs : List Value} {n : Nat} {Q : Value → Shared → Prop} (F : Fr h₀ L s.heap m) (hl : h₀.IsList l vs.toArray) (e : vs.length = n) (hz : n < 2 ^ 20)
    (h : ∀ t tk, Q (.int (n : Nat) t) { s with toks := tk }) : wpAny (model prog w) A (call (.builtin "len") [.ref l]) Q E s := by
  have hs : vs.toArray.size = n := by simpa using e
  refine len_list (F.lst hl) (by rw [hs]; lia) ?_
  rw [hs]
  exact h _ _
theorem subB {prog : Program} {w : World} {A : Around} {E : Value → Shared → Prop} {s : Shared} {h₀ : Heap} {L l : Addr} {m : Str → Option Value} {vs : List Value} {value slice : Expr} {k : Nat} {u : Tok} {x : Value} {Q : Value → Shared → Prop} (F : Fr h₀ L s.heap m) (hl : h₀.IsList l vs.toArray) (hz : k < 2 ^ 20) (hx : vs[k]? = some x) (h : Q x s)
    (hs : subscripted slice false (.ref l) (.int (k : Nat) u) = operate [.ref l, .int (k : Nat) u] (getItem (.ref l) (.int (k : Nat) u)) := by with_unfolding_all rfl) : wpAny (model prog w) A (subscriptTail value slice (.ref l) (.int (k : Nat) u)) Q E s :=
  item_listR (F.lst hl) (by lia) (by lia) (by simpa using hx) h hs
noncomputable def SrcStopU (prog : Program) (w : World) (A : Around) (h₀ : Heap) (L : Addr) (m : Str → Option Value) (env : Env) (elt : Expr) (x : Str) (scope : Scope) (cl : List (Str × Addr)) (Fin : Shared → List Value → List (Addr × Obj) → Prop) (xv : Value) (s₁ : Shared) : Prop := LCg.CompSrc prog w A h₀ L m env elt x scope cl Fin xv s₁
theorem src_stopU {prog : Program} {w : World} {A : Around} {h₀ : Heap} {L : Addr} {m : Str → Option Value} {env : Env} {elt : Expr} {x : Str} {scope : Scope} {cl : List (Str × Addr)} {Fin : Shared → List Value → List (Addr × Obj) → Prop} {xv : Value} {s₁ : Shared} (h : SrcStopU prog w A h₀ L m env elt x scope cl Fin xv s₁) : LCg.CompSrc prog w A h₀ L m env elt x scope cl Fin xv s₁ := h
local macro_rules | `(tactic| walk_at "CompSrc") => stop ``src_stopU
local macro_rules | `(tactic| walk_at "call builtin:len") => ln ``lenB "k_asm assumption assumption omega _" "t' tk'" false false
theorem intsAre_at {vs : List Value} {ns : List Int} (h : IntsAre vs ns) {j : Nat} (hj : j < ns.length) : ∃ t, vs[j]? = some (.int (ns.getD j 0) t) := by
  have hl : j < vs.length := by rw [intsAre_len h]; exact hj
  obtain ⟨n, t, e1, e2⟩ := intsAre_get h (i := j) (v := vs[j]) (by simp [hl])
  refine ⟨t, ?_⟩
  rw [List.getD_eq_getElem?_getD, e1, List.getElem?_eq_getElem hl, e2]
  rfl
theorem mix_news {α : Type} {a b c d e f g : α} {T : List α} : ∀ p ∈ a :: b :: c :: d :: e :: f :: g :: T, p ∈ a :: b :: c :: (T ++ [d, e, f, g]) := by
  intro p hp; simp only [List.mem_cons, List.mem_append, List.not_mem_nil, or_false] at hp ⊢; grind
theorem mix_back {α : Type} {x a b c d e f g : α} {T : List α} : ∀ p ∈ x :: a :: b :: c :: (T ++ [d, e, f, g]), p ∈ x :: a :: b :: c :: d :: e :: f :: g :: T := by
  intro p hp; simp only [List.mem_cons, List.mem_append, List.not_mem_nil, or_false] at hp ⊢; grind
theorem trip_fresh {a b c d e f g : Addr × Obj} {D : Nat} {T : List (Addr × Obj)} (h : a.1 < D ∧ b.1 < D ∧ c.1 < D ∧ d.1 < D ∧ e.1 < D ∧ f.1 < D ∧ g.1 < D ∧ AllLt D T) : ∀ p ∈ a :: b :: c :: (T ++ [d, e, f, g]), p.1 ≠ D := by
  obtain ⟨h1, h2, h3, h4, h5, h6, h7, h8⟩ := h
  intro p hp
  have h9 := lt_of_allLt h8
  simp only [List.mem_cons, List.mem_append, List.not_mem_nil, or_false] at hp
  rcases hp with rfl | rfl | rfl | hp | rfl | rfl | rfl | rfl
  · exact Nat.ne_of_lt h1
  · exact Nat.ne_of_lt h2
  · exact Nat.ne_of_lt h3
  · exact Nat.ne_of_lt (h9 p hp)
  · exact Nat.ne_of_lt h4
  · exact Nat.ne_of_lt h5
  · exact Nat.ne_of_lt h6
  · exact Nat.ne_of_lt h7
theorem getD_cast (q : List Nat) (j : Nat) : (q.map fun (n : Nat) => (n : Int)).getD j 0 = ((q.getD j 0 : Nat) : Int) := by
  simp only [List.getD_eq_getElem?_getD, List.getElem?_map]
  cases q[j]? <;> rfl
theorem mix_fin {α : Type} {x d e f g : α} {T : List α} : ∀ p ∈ x :: d :: e :: f :: g :: T, p ∈ x :: (T ++ [d, e, f, g]) := by
  intro p hp; simp only [List.mem_cons, List.mem_append, List.not_mem_nil, or_false] at hp ⊢; grind
theorem off_fin {d e f g : Addr × Obj} {D : Addr} {T : List (Addr × Obj)} (h : LCg.Off1 D (T ++ [d, e, f, g])) : (∀ p ∈ T, p.1 ≠ D) ∧ @Ne Nat d.1 D ∧ @Ne Nat e.1 D ∧ @Ne Nat f.1 D ∧ @Ne Nat g.1 D := by
  have := ne_of_allNe (allNe_off1 h)
  exact ⟨fun p hp => this p (List.mem_append_left _ hp), this _ (List.mem_append_right _ (.head _)), this _ (List.mem_append_right _ (.tail _ (.head _))), this _ (List.mem_append_right _ (.tail _ (.tail _ (.head _)))), this _ (List.mem_append_right _ (.tail _ (.tail _ (.tail _ (.head _)))))⟩
local macro_rules | `(tactic| k_all) => prem "assumption"
local macro_rules | `(tactic| walk_at "subscriptTail") => ln ``subB "k_asm assumption omega assumption _" "" false
local macro_rules | `(tactic| k_inst) => prem "inst_mix+k_asm+k_asm+m0+k_mem"
local macro_rules | `(tactic| walk_at "eval Name") => ln ``nameX_L "k_asm rfl|assumption _" ""
theorem isLstF {h₀ h : Heap} {L l : Addr} {m : Str → Option Value} (F : Fr h₀ L h m) (x : IsLst h₀ l) : IsLst h l := let ⟨o, e1, e2⟩ := x; ⟨o, F.keep _ _ e1, e2⟩
theorem joined_len {rs : List Pure.Blk} {la lb : Nat} (h : rs.length < 63) : (Pure.joined rs la lb).length < 2 ^ 20 := by
  unfold Pure.joined
  have := joinAll_len rs
  rw [List.length_append]
  split <;> simp only [List.length_append, List.length_cons, List.length_nil] <;> lia
noncomputable abbrev ipEnv (L : Addr) : Env := envOfC (Str.ofString "_law_in_place") (fnScope (top 8)) L 258 (Value.ref 257)
theorem ip_tail {w : World} {mg mb : Str → Option Value} {means : ExcName → Option Value} {dp un : Nat} {fr : Option (List Env)} {gu : Option (List Code)} {s : Shared} {h₀ : Heap} {L x dx ld to tt lr1 lq1 lr2 lq2 la0 lb0 l2 lj lq0 : Addr} {m : Str → Option Value} {Q : Flow → Shared → Prop} {v1 v2 ds : List Value} {r1 r2 : List Int} {ts : Nat → Tok} {mbk : Value} {kd : Nat} {o1 o2 o3 : Obj} {Td : List (Addr × Obj)} {due : List Pure.Blk}
    (F : Fr h₀ L s.heap m) (N : News h₀ L s.heap ((ld, W.listOf ds.toArray kd) :: (dx, selfD w.params ts .none (.ref la0) (.ref lb0) (.bool false) mbk .none .none (.ref l2) (.ref lj) (.ref lq0)) :: (L + 1 + 1 + 1, o1) :: (L + 1 + 1, o2) :: (L + 1, o3) :: Td)) (T' : Top q (looseW q loose) means mg mb h₀)
    (hx : h₀.get? x = some (instObj 242 dx)) (m1 : m (Str.ofString "matcher") = some (.ref x)) (m2 : m (Str.ofString "due") = some (.ref ld)) (c1 : o1.data = .cell (some (.ref tt))) (c2 : o2.data = .cell (some (.ref to)))
    (hto : IsTup h₀ to #[.ref lr1, .ref lq1]) (htt : IsTup h₀ tt #[.ref lr2, .ref lq2]) (h1 : h₀.IsList lr1 v1.toArray) (i1 : IntsAre v1 r1) (h2 : h₀.IsList lr2 v2.toArray) (i2 : IntsAre v2 r2) (n1 : r1.length < 2 ^ 20) (n2 : r2.length < 2 ^ 20) (ha0 : IsLst h₀ la0) (hb0 : IsLst h₀ lb0) (d1 : @Ne Nat lr1 la0) (d2 : @Ne Nat lr2 lb0) (d3 : @Ne Nat lr1 lr2)
    (hts : Ts Td ds due) (z1 : AllNe dx Td) (z2 : @Ne Nat ld dx) (z3 : @LT.lt Nat _ dx L) (hroom : dp + 12 < recursionLimit) (hu : un + 80 < cLine)
    (ok1 : PureOk r1 r2 due) (ok2 : PureOk r2 r1 (due.map fun b : Pure.Blk => (b.2.1, b.1, b.2.2)))
    (hQ : ∀ h' tk m' ts' mbk' l2 lj lq0, Fr h₀ L h' m' → h'.get? dx = some (selfD w.params ts' .none (.ref lr2) (.ref lr1) (.bool false) mbk' .none .none (.ref l2) (.ref lj) (.ref lq0)) → Q (.ret (.bool true)) { s with heap := h', toks := tk }) :
    (K w.params).In h₀ → PySem.Challenge.rw_dm0054_12.prog = pw → wpAny (model pw w) (Around.mk none dp fr gu un) (execs ((fnBody (top 8)).drop 2) (ipEnv L)) Q (fun _ _ => False) s := by
  k_fill
  intro X' hpw
  k_steps
  unfold CallStop
  have zr : AllNe dx ((L + 1 + 1 + 1, o1) :: (L + 1 + 1, o2) :: (L + 1, o3) :: Td) := ⟨by show @Ne Nat (L + 1 + 1 + 1) dx; lia, by show @Ne Nat (L + 1 + 1) dx; lia, by show @Ne Nat (L + 1) dx; lia, z1⟩
  refine seqs_callL (own := [(ld, W.listOf ds.toArray kd)]) (la0 := la0) (lb0 := lb0) (l2 := l2) (lj := lj) (lp := lq0) F N T' X' ⟨z2, trivial⟩ zr (F.keep _ _ hx) (.inr ⟨rfl, isLstF F ha0, isLstF F hb0⟩) (.inr d1) (.inr d2) (isLstF F (IsLst.of h1)) (F.lst h2) i2 n2 (by show dp + 8 < _; lia) ?_
  intro h₃ tk₃ ts₃ l2₃ lj₃ lp₃ B₃ F₃ N₃ hne₃ hB₃
  clear F N
  have zr₃ : AllNe dx (((L + 1 + 1 + 1, o1) :: (L + 1 + 1, o2) :: (L + 1, o3) :: Td) ++ B₃) := allNe_of fun p hp => by
    rcases List.mem_append.mp hp with hp | hp
    · exact ne_of_allNe zr p hp
    · exact ne_of_allNe hne₃ p hp
  simp only [List.cons_append, List.nil_append] at N₃ zr₃
  k_steps
  unfold EvalStop
  refine comp3 F₃ X' (by rfl) (by decide) (by rfl) (by decide) (by rfl) (by rfl) (by rfl) (by decide) (by decide) ?_
  k_steps
  unfold CallStop
  dsimp only [List.append_nil]
  refine gmb_callL (own := [(ld, W.listOf ds.toArray kd)]) F₃ N₃ ⟨z2, trivial⟩ zr₃ X' T' (smB_of N₃ (F₃.keep _ _ hx) (F₃.lst h1) i1 (F₃.lst h2) i2 hB₃ (fun p hp => .tail _ (.tail _ (.tail _ (.tail _ (.tail _ (List.mem_append_right _ hp)))))) hne₃ n1 n2) (by show dp + 6 < _; lia) (by show un + 10 < _; lia) ok1.len n1 ok1.pw ?_
  intro h₄ tk₄ Sl₄ ms₄ k₄ B₄ F₄ N₄ _ hms₄ hne₄
  clear F₃ N₃
  simp only [List.cons_append, List.nil_append] at N₄
  have hms₄' : Ms B₄ ms₄ due := by have h : Ms B₄ ms₄ (blksOf r1 r2) := hms₄; rw [ok1.eq] at h; exact h
  have e₄ : ms₄.length < 2 ^ 20 := by rw [hms₄.length]; exact joined_len ok1.len
  refine ⟨Sl₄, ms₄, k₄, _, due, rfl, (by first | rfl | trivial), F₄, N₄, .tail _ (.tail _ (.tail _ (.tail _ (.tail _ (List.mem_append_right _ (.head _)))))), e₄, hms₄'.length, fun i v hv => (tri_of_ms hms₄' i v hv).mono fun p hp => .tail _ (.tail _ (.tail _ (.tail _ (.tail _ (List.mem_append_right _ (.tail _ hp)))))), ?_⟩
  intro D₅ h₅ tk₅ ys₅ nd₅ T₅ F₅ N₅ hn₅ hfr₅ hts₅
  rw [pick_ijs, List.map_id] at hts₅
  have N₆ : News h₀ L h₅ ((ld, W.listOf ds.toArray kd) :: (dx, _) :: (L + 1 + 1 + 1, o1) :: (L + 1 + 1, o2) :: (L + 1, o3) :: _) := news_sub N₅ fun p hp => .tail _ (List.mem_append_right _ hp)
  have zr₆ : AllNe dx ((L + 1 + 1 + 1, o1) :: (L + 1 + 1, o2) :: (L + 1, o3) :: (Td ++ B₃ ++ (Sl₄, W.listOf ms₄.toArray k₄) :: B₄)) := ⟨zr₃.1, zr₃.2.1, zr₃.2.2.1, allNe_of fun p hp => by
    rcases List.mem_append.mp hp with hp | hp
    · exact ne_of_allNe zr₃.2.2.2 p hp
    · exact ne_of_allNe hne₄ p hp⟩
  clear N₄ zr₃ F₄ hne₃ hne₄
  k_steps
  unfold CmpStop
  refine rows_ne N₅ (.head _) (.tail _ (List.mem_append_right _ (.head _))) hts₅ hts (fun p hp => .tail _ (List.mem_append_left _ hp)) (fun p hp => .tail _ (List.mem_append_right _ (.tail _ (.tail _ (.tail _ (.tail _ (.tail _ (List.mem_append_left _ (List.mem_append_left _ hp))))))))) rfl (by show un + 64 < _; lia) ?_
  clear N₅ hts₅ hfr₅ hn₅
  k_steps
  unfold CallStop
  refine seqs_callL (own := [(ld, W.listOf ds.toArray kd)]) (la0 := lr1) (lb0 := lr2) (l2 := l2₃) (lj := lj₃) (lp := lp₃) F₅ N₆ T' X' ⟨z2, trivial⟩ zr₆ (F₅.keep _ _ hx) (.inr ⟨rfl, isLstF F₅ (IsLst.of h1), isLstF F₅ (IsLst.of h2)⟩) (.inr (Ne.symm d3)) (.inr d3) (isLstF F₅ (IsLst.of h2)) (F₅.lst h1) i1 n1 (by show dp + 8 < _; lia) ?_
  clear hB₃
  intro h₇ tk₇ ts₇ l2₇ lj₇ lp₇ B₇ F₇ N₇ hne₇ hB₇
  clear F₅ N₆
  have zr₇ : AllNe dx (((L + 1 + 1 + 1, o1) :: (L + 1 + 1, o2) :: (L + 1, o3) :: (Td ++ B₃ ++ (Sl₄, W.listOf ms₄.toArray k₄) :: B₄)) ++ B₇) := allNe_of fun p hp => by
    rcases List.mem_append.mp hp with hp | hp
    · exact ne_of_allNe zr₆ p hp
    · exact ne_of_allNe hne₇ p hp
  simp only [List.cons_append, List.nil_append] at N₇ zr₇
  k_steps
  unfold EvalStop
  refine comp3 F₇ X' (by rfl) (by decide) (by rfl) (by decide) (by rfl) (by rfl) (by rfl) (by decide) (by decide) ?_
  k_steps
  unfold CallStop
  dsimp only [List.append_nil]
  refine gmb_callL (own := [(ld, W.listOf ds.toArray kd)]) F₇ N₇ ⟨z2, trivial⟩ zr₇ X' T' (smB_of N₇ (F₇.keep _ _ hx) (F₇.lst h2) i2 (F₇.lst h1) i1 hB₇ (fun p hp => .tail _ (.tail _ (.tail _ (.tail _ (.tail _ (List.mem_append_right _ hp)))))) hne₇ n2 n1) (by show dp + 6 < _; lia) (by show un + 10 < _; lia) ok2.len n2 ok2.pw ?_
  intro h₈ tk₈ Sl₈ ms₈ k₈ B₈ F₈ N₈ _ hms₈ hne₈
  clear F₇ N₇
  simp only [List.cons_append, List.nil_append] at N₈
  have hms₈' : Ms B₈ ms₈ (due.map fun b : Pure.Blk => (b.2.1, b.1, b.2.2)) := by have h : Ms B₈ ms₈ (blksOf r2 r1) := hms₈; rw [ok2.eq] at h; exact h
  have e₈ : ms₈.length < 2 ^ 20 := by rw [hms₈.length]; exact joined_len ok2.len
  refine ⟨Sl₈, ms₈, k₈, _, _, rfl, (by first | rfl | trivial), F₈, N₈, .tail _ (.tail _ (.tail _ (.tail _ (.tail _ (List.mem_append_right _ (.head _)))))), e₈, hms₈'.length, fun i v hv => (tri_of_ms hms₈' i v hv).mono fun p hp => .tail _ (.tail _ (.tail _ (.tail _ (.tail _ (List.mem_append_right _ (.tail _ hp)))))), ?_⟩
  intro D₉ h₉ tk₉ ys₉ nd₉ T₉ F₉ N₉ hn₉ hfr₉ hts₉
  rw [pick_jis] at hts₉
  have hdx := (N₉ _ (.tail _ (List.mem_append_right _ (.tail _ (.head _))))).1
  clear N₈ F₈
  k_steps
  unfold CmpStop
  refine rows_eq N₉ (.head _) (.tail _ (List.mem_append_right _ (.head _))) hts₉ hts (fun p hp => .tail _ (List.mem_append_left _ hp)) (fun p hp => .tail _ (List.mem_append_right _ (.tail _ (.tail _ (.tail _ (.tail _ (.tail _ (List.mem_append_left _ (List.mem_append_left _ (List.mem_append_left _ (List.mem_append_left _ hp)))))))))) ) rfl (by show un + 64 < _; lia) ?_
  exact hQ _ _ _ _ _ _ _ _ F₉ hdx
end Mine
end
section
open PySem PySem.W PySem.Calls PyProof.Rows
set_option maxRecDepth 100000
set_option maxHeartbeats 4000000
set_option Elab.async false
set_option linter.unusedVariables false
namespace Mine
local macro_rules | `(tactic| walk_at "call ref") => stop ``call_stop
local macro_rules | `(tactic| walk_at "exec Assign cons ListComp") => stop ``exec_stop
local macro_rules | `(tactic| walk_at "CompSrc") => stop ``src_stopU
local macro_rules | `(tactic| walk_at "call builtin:len") => ln ``lenB "k_asm assumption assumption omega _" "t' tk'" false false
local macro_rules | `(tactic| k_all) => prem "assumption"
local macro_rules | `(tactic| walk_at "subscriptTail") => ln ``subB "k_asm assumption omega assumption _" "" false
local macro_rules | `(tactic| walk_at "execs cons") => stop ``execs_stop
theorem mix5 {α : Type} {x a d e f g : α} {T : List α} : ∀ p ∈ a :: d :: e :: f :: g :: x :: T, p ∈ x :: a :: d :: e :: f :: g :: T := by
  intro p hp; simp only [List.mem_cons] at hp ⊢; grind
theorem in_place_ok {w : World} {mg mb : Str → Option Value} {means : ExcName → Option Value} {dp un : Nat} {fr : Option (List Env)} {gu : Option (List Code)} {s : Shared} {base : Heap} {x dx lp to tt lr1 lq1 lr2 lq2 la0 lb0 l2 lj lq0 : Addr} {R : Result → Shared → Prop} {vp v1 w1 v2 w2 : List Value} {ps : List (List Int)} {r1 r2 : List Int} {q1 q2 : List Nat} {ts : Nat → Tok} {mbk : Value}
    (T : Top q (looseW q loose) means mg mb base) (kb : Kept base s.heap) (bdx : base.get? dx = none) (hx : s.heap.get? x = some (instObj 242 dx)) (hd : s.heap.get? dx = some (selfD w.params ts .none (.ref la0) (.ref lb0) (.bool false) mbk .none .none (.ref l2) (.ref lj) (.ref lq0))) (ha0 : IsLst s.heap la0) (hb0 : IsLst s.heap lb0)
    (hlp : s.heap.IsList lp vp.toArray) (hps : Lists s.heap vp ps) (hto : IsTup s.heap to #[.ref lr1, .ref lq1]) (htt : IsTup s.heap tt #[.ref lr2, .ref lq2])
    (h1 : s.heap.IsList lr1 v1.toArray) (i1 : IntsAre v1 r1) (h2 : s.heap.IsList lr2 v2.toArray) (i2 : IntsAre v2 r2) (h3 : s.heap.IsList lq1 w1.toArray) (i3 : IntsAre w1 (q1.map fun (n : Nat) => (n : Int))) (h4 : s.heap.IsList lq2 w2.toArray) (i4 : IntsAre w2 (q2.map fun (n : Nat) => (n : Int)))
    (n1 : r1.length < 2 ^ 20) (n2 : r2.length < 2 ^ 20) (n3 : q1.length = ps.length) (n4 : q2.length = ps.length) (n5 : ps.length ≤ 62) (n6 : ∀ p ∈ ps, p.length ≤ 62) (d1 : @Ne Nat lr1 la0) (d2 : @Ne Nat lr2 lb0) (d3 : @Ne Nat lr1 lr2)
    (hroom : dp + 14 < recursionLimit) (hu : un + 90 < cLine)
    (ok1 : PureOk r1 r2 (((List.range ps.length).map fun k => (q1.getD k 0, q2.getD k 0, (ps.getD k []).length)) ++ [(r1.length, r2.length, 0)]))
    (ok2 : PureOk r2 r1 ((((List.range ps.length).map fun k => (q1.getD k 0, q2.getD k 0, (ps.getD k []).length)) ++ [(r1.length, r2.length, 0)]).map fun b : Pure.Blk => (b.2.1, b.1, b.2.2)))
    (hR : ∀ h' tk ts' mbk' l2 lj lq0, (∀ b o, b ≠ dx → s.heap.get? b = some o → h'.get? b = some o) → h'.get? dx = some (selfD w.params ts' .none (.ref lr2) (.ref lr1) (.bool false) mbk' .none .none (.ref l2) (.ref lj) (.ref lq0)) → R (.ok (.ret (.bool true))) { s with heap := h', toks := tk }) :
    (K w.params).In base → PySem.Challenge.rw_dm0054_12.prog = pw → codeAny (model pw w) (Around.mk none dp fr gu un) (.call (.ref 258) ⟨[.ref x, .ref lp, .ref to, .ref tt], []⟩) R s := by
  k_fill
  intro X₀ hpw
  refine enterC [dx] X₀ T kb (fun a ha => List.mem_singleton.mp ha ▸ bdx) (by show dp < _; lia) (ip_at _) (ip_code _) (.of_eq (ip_bind _ _ _ _)) (by rfl) (by decide +kernel) ?_ (by kernel_rfl!) (by kernel_rfl!) (by kernel_rfl!)
  intro L h₁ tk₁ cells X' T' F' NC Y' k₁ hL
  have N₁ : News (hideAll s.heap [dx]) L h₁ [(dx, selfD w.params ts .none (.ref la0) (.ref lb0) (.bool false) mbk .none .none (.ref l2) (.ref lj) (.ref lq0))] := mods_news (news := [(dx, _)]) (fun p hp => by rw [List.mem_singleton.mp hp]; exact hd) k₁ hL
  have hk0 : ∀ b o, b ≠ dx → s.heap.get? b = some o → (hideAll s.heap [dx]).get? b = some o := fun b o hb e => hideAll_get _ e fun q => hb (List.mem_singleton.mp q)
  have ll : ∀ l items, s.heap.IsList l items → (hideAll s.heap [dx]).IsList l items := fun l items ⟨o, ho, hc, n, hdat⟩ => ⟨o, hk0 _ _ (fun e => by rw [e, hd] at ho; cases ho; cases hdat) ho, hc, n, hdat⟩
  have lt : ∀ l items, IsTup s.heap l items → IsTup (hideAll s.heap [dx]) l items := fun l items ⟨o, ho, hc, n, hdat⟩ => ⟨o, hk0 _ _ (fun e => by rw [e, hd] at ho; cases ho; cases hdat) ho, hc, n, hdat⟩
  have hx' := hk0 _ _ (fun e => by rw [e, hd] at hx; cases hx) hx
  replace hlp := ll _ _ hlp
  replace hto := lt _ _ hto
  replace htt := lt _ _ htt
  replace h1 := ll _ _ h1
  replace h2 := ll _ _ h2
  replace h3 := ll _ _ h3
  replace h4 := ll _ _ h4
  replace ha0 := ha0.hide hd hk0
  replace hb0 := hb0.hide hd hk0
  replace hps : Lists (hideAll s.heap [dx]) vp ps := ⟨hps.1, fun i hi => let ⟨a, ws, e1, e2, e3⟩ := hps.2 i hi; ⟨a, ws, e1, ll _ _ e2, e3⟩⟩
  have hdL : dx < L := hL ▸ Heap.lt_size hd
  have N₂ : News (hideAll s.heap [dx]) L h₁ ((dx, selfD w.params ts .none (.ref la0) (.ref lb0) (.bool false) mbk .none .none (.ref l2) (.ref lj) (.ref lq0)) :: cells) := fun p hp => by
    rcases List.mem_cons.mp hp with rfl | hp
    · exact N₁ _ (.head _)
    · exact NC _ hp
  clear N₁ NC
  generalize hideAll s.heap [dx] = h₀ at *
  k_cells Y'
  have hvl := hps.1
  k_steps
  rename_i o1 o2 o3 c1 c2 c3
  unfold ExecStop
  refine LCg.Assign_ListComp_U (F₀ := F') (by rfl) (by with_unfolding_all rfl) (by with_unfolding_all rfl) (by decide) (by rfl) (by decide) (by rfl) (by rfl) (by rfl) ?_
  k_steps
  rename Fr _ _ _ _ => F₂
  rename News _ _ _ _ => N₃
  rename IsRange _ _ _ _ _ _ _ _ => hrg
  unfold SrcStopU
  refine LCg.CompSrc.range (n := ps.length) rfl F₂ N₃ hrg (range_small 0 _ (by lia) (Nat.zero_le _)) (by have := PyProof.Rows.rangeSize_nat 0 ps.length; simpa using this) (by unfold sizeLine; lia) ?_
  intro g
  refine compRest_trips (f := fun k => (q1.getD k 0, q2.getD k 0, (ps.getD k []).length)) (fun _ => trivial) ?_ ?_
  · intro j t I oI C oC D ys T m₂ h tk E' hj hC hxx F N hne
    obtain ⟨aj, wj, g1, g2, g3⟩ := hps.2 j hj
    have g4 : wj.length = (ps.getD j []).length := by rw [intsAre_len g3]; simp [List.getD_eq_getElem?_getD, hj]
    obtain ⟨s1, g5⟩ := intsAre_at i3 (j := j) (by simp; lia)
    obtain ⟨s2, g6⟩ := intsAre_at i4 (j := j) (by simp; lia)
    have g7 : (ps.getD j []).length < 2 ^ 20 := by
      have : (ps.getD j []) ∈ ps := by rw [List.getD_eq_getElem?_getD, List.getElem?_eq_getElem hj]; exact List.getElem_mem hj
      have := n6 _ this
      lia
    have N' := news_sub N mix_news
    clear N F₂ N₃ hrg
    k_steps
    rename _ ∧ _ ∧ _ ∧ _ ∧ _ ∧ _ ∧ _ ∧ AllLt _ T => hlt
    rename Fr _ _ _ _ => Fz
    rename News _ _ _ _ => Nz
    exact TripEnd.intro (getD_cast _ _) (getD_cast _ _) rfl Fz (news_sub Nz mix_back) (trip_fresh hlt)
  · intro ys T htr hfrT
    have hts := Trips.ts _ rfl htr
    intro D h tk F N hoff
    obtain ⟨hT, f1, f2, f3, f4⟩ := off_fin hoff
    have zT : AllNe dx T := allNe_of fun p hp => hfrT p hp _ (.head _)
    clear hfrT
    dsimp only at f1 f2 f3 f4
    have N' : News h₀ L h ((D, W.listOf ys.toArray ys.length) :: _) := news_sub N mix_fin
    have hyz : ys.length < 2 ^ 24 := by have := hts.length; simp at this; lia
    clear N F₂ N₃ hrg htr hoff
    dsimp only
    k_steps
    refine execs_go ?_
    k_steps
    rename Fr _ _ _ _ => F₉
    rename News _ _ _ _ => N₉
    simp only [List.push_toArray] at N₉
    rename _ ∧ _ ∧ _ ∧ _ ∧ _ ∧ AllLt _ T => hlt
    exact ip_tail (Td := (_, _) :: T) F₉ (news_sub N₉ mix5) T' hx' rfl rfl c1 c2 hto htt h1 i1 h2 i2 n1 n2 ha0 hb0 d1 d2 d3 (Ts.snoc (x1 := r1.length) (x2 := r2.length) (x3 := 0) (hts.mono fun p hp => .tail _ hp) (.head _)) ⟨by show @Ne Nat _ dx; lia, zT⟩ (by show @Ne Nat D dx; lia) hdL (by show dp + 1 + 12 < _; lia) (by show un + _ + 80 < _; lia) ok1 ok2 (fun h' tk m' ts' mbk' l2 lj lq0 F hdx => hR _ _ ts' mbk' l2 lj lq0 (fun b o hb e => F.keep _ _ (hk0 b o hb e)) hdx) X' hpw
end Mine
end
section
open PySem PySem.W PySem.Calls PyProof.Rows
set_option maxRecDepth 100000
set_option maxHeartbeats 4000000
set_option Elab.async false
set_option linter.unusedVariables false
namespace Mine
section
variable {prog : Program} {w : World} {A : Around} {E : Value → Shared → Prop} {s : Shared} {env : Env} {h₀ : Heap} {body : List Stmt} {Q : Flow → Shared → Prop}
theorem iterZipq {a b : Str} {pa pb tp : Pos} {kk : Nat} {l1 l2 : Addr} {us vs : List Value} {m₀ : Str → Option Value} {news : List (Addr × Obj)} (J : Nat → (Str → Option Value) → List (Addr × Obj) → Prop)
    (hh : A.handled = none) (ha : env.kindOf a = some .local) (hb : env.kindOf b = some .local) (hp : (env.scope.kind == .class || (env.scope.kind == .module && env.locals != env.globals)) = false)
    (hl1 : h₀.IsList l1 us.toArray) (hl2 : h₀.IsList l2 vs.toArray) (F : Fr h₀ env.locals s.heap m₀) (N : News h₀ env.locals s.heap news) (hj : J 0 m₀ news)
    (turn : ∀ own i x y m₁ news₁ h tk, us[i]? = some x ∧ vs[i]? = some y → J i m₁ news₁ → (∀ p ∈ news₁, ∀ q ∈ own, @Ne Nat p.1 q.1) → Fr h₀ env.locals h (fun z => if z = b then some y else if z = a then some x else m₁ z) → News h₀ env.locals h (news₁ ++ own) →
      ∀ QB : Flow → Shared → Prop, (∀ f s', TurnEndO h₀ env.locals own (J (i + 1)) { s with heap := h, toks := tk } f s' → QB f s') → wpAny (model prog w) A (execs body env) QB E { s with heap := h, toks := tk })
    (done : ∀ m₁ news₁ h tk, J (min us.length vs.length) m₁ news₁ → Fr h₀ env.locals h m₁ → News h₀ env.locals h news₁ → Q .next { s with heap := h, toks := tk }) :
    wpAny (model prog w) A (call (.type "zip") [.ref l1, .ref l2]) (fun xv s₁ => wpAny (model prog w) A (pyIter xv) (fun it s₂ => TurnsAt prog w A h₀ env (.Tuple [.Name a pa, .Name b pb] kk tp) body Q E it s₂) E s₁) E s := by
  have hls1 : s.heap.IsList l1 us.toArray := hl1.at fun o e => F.keep l1 o e
  have hls2 : s.heap.IsList l2 vs.toArray := hl2.at fun o e => F.keep l2 o e
  obtain ⟨ol1, hol1, _⟩ := id hl1
  obtain ⟨ol2, hol2, _⟩ := id hl2
  refine call_zip_2 hls1 hls2 fun h' hz hTI hTO hi1 hi2 hsz hk => ?_
  refine wpAny_pyIter_zip hz ?_
  refine iterPair (s := { s with heap := h' }) (z := s.heap.objs.size) (now := [s.heap.objs.size + 4, s.heap.objs.size + 2, s.heap.objs.size + 3, s.heap.objs.size, s.heap.objs.size + 1]) (old := [l1, l2]) J hh ha hb hp (KTurns.ofWalksU (WalksT.zip2 hh (s.heap.objs.size + 4) (s.heap.objs.size + 2) (s.heap.objs.size + 3) s.heap.objs.size (s.heap.objs.size + 1) l1 l2 (zipApart_new (Heap.lt_size (F.keep _ _ hol1)) (Heap.lt_size (F.keep _ _ hol2))) us.toArray vs.toArray).toU) ?_
    (List.forall_mem_cons.mpr ⟨.head _, fun _ h => .tail _ (.tail _ h)⟩)
    (List.forall_mem_cons.mpr ⟨Nat.le_add_right _ _, List.forall_mem_cons.mpr ⟨Nat.le_add_right _ _, List.forall_mem_cons.mpr ⟨Nat.le_add_right _ _, List.forall_mem_cons.mpr ⟨Nat.le_refl _, List.forall_mem_singleton.mpr (Nat.le_succ _)⟩⟩⟩⟩) (List.forall_mem_cons.mpr ⟨⟨_, hol1⟩, List.forall_mem_singleton.mpr ⟨_, hol2⟩⟩)
    (fun i h st => List.forall_mem_cons.mpr ⟨⟨_, st.1⟩, List.forall_mem_cons.mpr ⟨⟨_, st.2.1⟩, List.forall_mem_cons.mpr ⟨st.2.2.1.elim fun _ e => e.elim fun _ e => ⟨_, e⟩, List.forall_mem_cons.mpr ⟨st.2.2.2.1.elim fun o e => ⟨o, e.1⟩, List.forall_mem_singleton.mpr (st.2.2.2.2.1.elim fun o e => ⟨o, e.1⟩)⟩⟩⟩⟩)
    ⟨hz, hTI, ⟨_, _, hTO⟩, hi1, hi2, hls1.at fun o e => hk l1 o e, hls2.at fun o e => hk l2 o e⟩ F.ns.lt (fun p hp => Heap.lt_size (N p hp).1) (F.keeps hk) (N.grown hk) hj turn done
  rintro i v h ⟨T, vals, rfl, ⟨x, y, hx, hy, rfl⟩, hT⟩
  exact ⟨T, x, y, rfl, ⟨(List.getElem?_toArray ..).symm.trans hx, (List.getElem?_toArray ..).symm.trans hy⟩, hT⟩
end
end Mine
end
section
namespace Pure
structure PReg (x y c : Nat → Nat) (n u v alo ahi blo bhi : Nat) : Prop where
  lo : ∀ p, p < u → p < n → x p + c p ≤ alo ∧ y p + c p ≤ blo
  hi : ∀ p, v ≤ p → p < n → ahi ≤ x p ∧ bhi ≤ y p
  mid : ∀ p, u ≤ p → p < v → alo ≤ x p ∧ x p + c p ≤ ahi ∧ blo ≤ y p ∧ y p + c p ≤ bhi
theorem first_max (c : Nat → Nat) : ∀ d u, ∃ k, u ≤ k ∧ k < u + (d + 1) ∧ (∀ p, u ≤ p → p < u + (d + 1) → c p ≤ c k) ∧ ∀ p, u ≤ p → p < k → c p < c k
  | 0, u => ⟨u, Nat.le_refl _, Nat.lt_succ_self _, fun p h1 h2 => Nat.le_of_eq (congrArg c (Nat.le_antisymm (Nat.le_of_lt_succ h2) h1)), fun p h1 h2 => absurd h1 (Nat.not_le_of_lt h2)⟩
  | d + 1, u => by
    obtain ⟨k, h1, h2, h3, h4⟩ := first_max c d u
    by_cases h : c k < c (u + (d + 1))
    · refine ⟨u + (d + 1), by exact (Nat.le_add_right _ _), by (clear h h1; lia), fun p p1 p2 => ?_, fun p p1 p2 => ?_⟩
      · by_cases e : p = u + (d + 1)
        · subst e; exact Nat.le_refl _
        · exact Nat.le_of_lt (Nat.lt_of_le_of_lt (h3 p p1 (by (clear h h1; lia))) h)
      · exact Nat.lt_of_le_of_lt (h3 p p1 p2) h
    · refine ⟨k, h1, by lia, fun p p1 p2 => ?_, h4⟩
      by_cases e : p = u + (d + 1)
      · subst e; exact Nat.not_lt.mp h
      · exact h3 p p1 (by lia)
section
variable {A B : Nat → Int} {x y c : Nat → Nat} {n na nb : Nat}
theorem in_region {u v alo ahi blo bhi p i j l : Nat} (R : PReg x y c n u v alo ahi blo bhi) (hp : p < n) (hl : 0 < l) (g3 : blo ≤ j) (g4 : j + l ≤ bhi) (b1 : y p ≤ j) (b2 : j + l ≤ y p + c p) : u ≤ p ∧ p < v := by
  constructor
  · apply Nat.not_lt.mp
    intro h
    have := (R.lo p h hp).2
    lia
  · apply Nat.not_le.mp
    intro h
    have := (R.hi p h hp).2
    lia
theorem range_split {u k v : Nat} (h1 : u ≤ k) (h2 : k < v) : List.range' u (v - u) = List.range' u (k - u) ++ k :: List.range' (k + 1) (v - (k + 1)) := by
  have e : v - u = (k - u) + ((v - (k + 1)) + 1) := by lia
  rw [e, ← List.range'_append_1, List.range'_succ]
  have e2 : u + (k - u) = k := by (clear e h2; lia)
  rw [e2]
theorem pieces_one (hm : ∀ k, k < n → ∀ t, t < c k → A (x k + t) = B (y k + t)) (hx : ∀ p q, p < q → q < n → x p + c p ≤ x q ∧ y p + c p ≤ y q) (hc : ∀ k, k < n → 0 < c k)
    (hB : ∀ i j l, 0 < l → i + l ≤ na → j + l ≤ nb → Run A B nj i j l → ∃ p, p < n ∧ y p ≤ j ∧ j + l ≤ y p + c p)
    (hA : ∀ i j l, 0 < l → i + l ≤ na → j + l ≤ nb → Run A B nj i j l → ∃ p, p < n ∧ x p ≤ i ∧ i + l ≤ x p + c p) :
    ∀ d u v alo ahi blo bhi, v - u ≤ d → u ≤ v → v ≤ n → ahi ≤ na → bhi ≤ nb → PReg x y c n u v alo ahi blo bhi → Blocks A B alo ahi blo bhi ((List.range' u (v - u)).map fun k => (x k, y k, c k)) := by
  intro d
  induction d with
  | zero =>
    intro u v alo ahi blo bhi hd huv hv h1 h2 R
    have e : v = u := by lia
    subst e
    rw [Nat.sub_self]
    refine .none fun i j k ⟨q0, q1, q2, q3, q4, q5⟩ => ?_
    obtain ⟨p, hp, b1, b2⟩ := hB i j k q0 (Nat.le_trans q2 h1) (Nat.le_trans q4 h2) q5
    have := in_region (i := i) R hp q0 q3 q4 b1 b2
    exact (Nat.lt_irrefl _ (Nat.lt_of_le_of_lt this.1 this.2))
  | succ d ih =>
    intro u v alo ahi blo bhi hd huv hv h1 h2 R
    by_cases e : v = u
    · subst e
      exact ih v v alo ahi blo bhi (by lia) huv hv h1 h2 R
    · obtain ⟨k, k1, k2, k3, k4⟩ := first_max c (v - u - 1) u
      have ev : u + (v - u - 1 + 1) = v := by lia
      rw [ev] at k2 k3
      rw [range_split k1 k2, List.map_append, List.map_cons]
      obtain ⟨m1, m2, m3, m4⟩ := R.mid k k1 k2
      refine .some ⟨⟨hc k (by exact (Nat.lt_of_lt_of_le k2 hv)), m1, m2, m3, m4, fun t ht => ⟨hm k (by exact (Nat.lt_of_lt_of_le k2 hv)) t ht, rfl⟩⟩, fun i j l hg => ?_⟩ ?_ ?_
      · obtain ⟨q0, q1, q2, q3, q4, q5⟩ := hg
        obtain ⟨p, hp, b1, b2⟩ := hB i j l q0 (Nat.le_trans q2 h1) (Nat.le_trans q4 h2) q5
        obtain ⟨p', hp', a1, a2⟩ := hA i j l q0 (Nat.le_trans q2 h1) (Nat.le_trans q4 h2) q5
        obtain ⟨r1, r2⟩ := in_region (i := i) R hp q0 q3 q4 b1 b2
        have r1' : u ≤ p' := Nat.not_lt.mp fun h => by have := (R.lo p' h hp').1; lia
        have r2' : p' < v := Nat.not_le.mp fun h => by have := (R.hi p' h hp').1; lia
        have c1 := k3 p r1 r2
        have c1' := k3 p' r1' r2'
        by_cases hl : l < c k
        · exact .inl hl
        · right
          have kp : k ≤ p := Nat.not_lt.mp fun h => by have := k4 p r1 h; lia
          have kp' : k ≤ p' := Nat.not_lt.mp fun h => by have := k4 p' r1' h; lia
          refine ⟨by lia, ?_, ?_⟩
          · by_cases e : k = p'
            · subst e; exact a1
            · have := (hx k p' (by lia) hp').1; lia
          · by_cases e : k = p
            · subst e; exact b1
            · have := (hx k p (by lia) hp).2; lia
      · refine ih u k alo (x k) blo (y k) (by lia) k1 (by exact (Nat.le_of_lt (Nat.lt_of_lt_of_le k2 hv))) (by exact (Nat.le_trans (Nat.le_trans (Nat.le_add_right _ _) m2) h1)) (by exact (Nat.le_trans (Nat.le_trans (Nat.le_add_right _ _) m4) h2)) ⟨R.lo, fun p p1 p2 => ?_, fun p p1 p2 => ?_⟩
        · by_cases e : k = p
          · subst e; exact ⟨Nat.le_refl _, Nat.le_refl _⟩
          · have := hx k p (by lia) p2; exact ⟨by exact (Nat.le_trans (Nat.le_add_right _ _) this.1), by exact (Nat.le_trans (Nat.le_add_right _ _) this.2)⟩
        · have := R.mid p p1 (by exact (Nat.lt_trans p2 k2))
          have := hx p k p2 (by exact (Nat.lt_of_lt_of_le k2 hv))
          exact ⟨by lia, by exact this.1, by lia, by exact this.2⟩
      · refine ih (k + 1) v (x k + c k) ahi (y k + c k) bhi (by (clear m3 m1 ev k2 e h2 h1 hv; lia)) (by exact k2) hv h1 h2 ⟨fun p p1 p2 => ?_, R.hi, fun p p1 p2 => ?_⟩
        · by_cases e : k = p
          · subst e; exact ⟨Nat.le_refl _, Nat.le_refl _⟩
          · have := hx p k (by lia) (by exact (Nat.lt_of_lt_of_le k2 hv)); exact ⟨by exact (Nat.le_trans this.1 (Nat.le_add_right _ _)), by exact (Nat.le_trans this.2 (Nat.le_add_right _ _))⟩
        · have := R.mid p (by exact (Nat.le_of_lt (Nat.lt_of_le_of_lt k1 p1))) p2
          have := hx k p (by exact p1) (by exact (Nat.lt_of_lt_of_le p2 hv))
          exact ⟨by exact this.1, by lia, by exact this.2, by lia⟩
theorem pieces_two (hm : ∀ k, k < n → ∀ t, t < c k → A (x k + t) = B (y k + t)) (hx : ∀ p q, p < q → q < n → x p + c p ≤ x q ∧ y p + c p ≤ y q) (hc : ∀ k, k < n → 0 < c k)
    (hB : ∀ i j l, 0 < l → i + l ≤ na → j + l ≤ nb → Run A B nj i j l → ∃ p, p < n ∧ y p ≤ j ∧ j + l ≤ y p + c p) (hf : ∀ p q, p ≤ q → q < n → c q ≤ c p) (ht : ∀ u, u + 1 < n → x (u + 1) = x u + c u) :
    ∀ d u alo ahi blo bhi, n - u ≤ d → u ≤ n → ahi ≤ na → bhi ≤ nb → PReg x y c n u n alo ahi blo bhi → (u < n → alo = x u) → Blocks A B alo ahi blo bhi ((List.range' u (n - u)).map fun k => (x k, y k, c k)) := by
  have hnone : ∀ {u alo ahi blo bhi}, ahi ≤ na → bhi ≤ nb → PReg x y c n u u alo ahi blo bhi → Blocks A B alo ahi blo bhi [] := fun {u alo ahi blo bhi} h1 h2 R => .none fun i j k ⟨q0, q1, q2, q3, q4, q5⟩ => by
    obtain ⟨p, hp, b1, b2⟩ := hB i j k q0 (Nat.le_trans q2 h1) (Nat.le_trans q4 h2) q5
    have := in_region (i := i) R hp q0 q3 q4 b1 b2
    exact (Nat.lt_irrefl _ (Nat.lt_of_le_of_lt this.1 this.2))
  intro d
  induction d with
  | zero =>
    intro u alo ahi blo bhi hd hu h1 h2 R _
    have e : u = n := by lia
    subst e
    rw [Nat.sub_self]
    exact hnone h1 h2 R
  | succ d ih =>
    intro u alo ahi blo bhi hd hu h1 h2 R ha
    by_cases e : u = n
    · exact ih u alo ahi blo bhi (by (clear ha h2 h1 hu hd; lia)) hu h1 h2 R ha
    · have hun : u < n := by lia
      have ea := ha hun
      rw [range_split (Nat.le_refl u) hun, Nat.sub_self, List.map_append, List.map_cons]
      obtain ⟨m1, m2, m3, m4⟩ := R.mid u (Nat.le_refl u) hun
      refine .some ⟨⟨hc u hun, m1, m2, m3, m4, fun t ht => ⟨hm u hun t ht, rfl⟩⟩, fun i j l hg => ?_⟩ ?_ ?_
      · obtain ⟨q0, q1, q2, q3, q4, q5⟩ := hg
        obtain ⟨p, hp, b1, b2⟩ := hB i j l q0 (Nat.le_trans q2 h1) (Nat.le_trans q4 h2) q5
        obtain ⟨r1, r2⟩ := in_region (i := i) R hp q0 q3 q4 b1 b2
        have c1 := hf u p r1 hp
        by_cases hl : l < c u
        · exact .inl hl
        · refine .inr ⟨by lia, by exact (Nat.le_trans (Nat.le_of_eq ea.symm) q1), ?_⟩
          by_cases e : u = p
          · subst e; exact b1
          · have := (hx u p (by lia) hp).2; lia
      · refine hnone (u := u) (by exact (Nat.le_trans (Nat.le_trans (Nat.le_add_right _ _) m2) h1)) (by exact (Nat.le_trans (Nat.le_trans (Nat.le_add_right _ _) m4) h2)) ⟨R.lo, fun p p1 p2 => ?_, fun p p1 p2 => by lia⟩
        by_cases e : u = p
        · subst e; exact ⟨Nat.le_refl _, Nat.le_refl _⟩
        · have := hx u p (by lia) p2; exact ⟨by exact (Nat.le_trans (Nat.le_add_right _ _) this.1), by exact (Nat.le_trans (Nat.le_add_right _ _) this.2)⟩
      · refine ih (u + 1) (x u + c u) ahi (y u + c u) bhi (by (clear m3 hun e ha h2 h1; omega)) (by exact hun) h1 h2 ⟨fun p p1 p2 => ?_, R.hi, fun p p1 p2 => ?_⟩ (fun h => (ht u h).symm)
        · by_cases e : u = p
          · subst e; exact ⟨Nat.le_refl _, Nat.le_refl _⟩
          · have := hx p u (by lia) (by lia); exact ⟨by exact (Nat.le_trans this.1 (Nat.le_add_right _ _)), by exact (Nat.le_trans this.2 (Nat.le_add_right _ _))⟩
        · have := R.mid p (by exact (Nat.le_of_lt p1)) p2
          have := hx u p (by exact p1) (by lia)
          exact ⟨by exact this.1, by lia, by exact this.2, by lia⟩
end
end Pure
end
section
namespace Pure
theorem getD_left {l m : List Int} {x : Nat} (h : x < l.length) : (l ++ m).getD x 0 = l.getD x 0 := by
  simp [List.getD_eq_getElem?_getD, List.getElem?_append_left h]
theorem getD_right {l m : List Int} {x : Nat} : (l ++ m).getD (l.length + x) 0 = m.getD x 0 := by
  simp [List.getD_eq_getElem?_getD, List.getElem?_append_right]
end Pure
namespace Mine
noncomputable def rowN (f : Int) (ps : List (List Int)) (zs : List Nat) : Nat → List Int
  | 0 => []
  | i + 1 => rowN f ps zs i ++ (List.replicate (zs.getD i 0) f ++ ps.getD i [])
noncomputable def placesN (f : Int) (ps : List (List Int)) (zs : List Nat) (i : Nat) : List Nat := (List.range i).map fun k => (rowN f ps zs k).length + zs.getD k 0
theorem placesN_succ {f : Int} {ps : List (List Int)} {zs : List Nat} {i : Nat} : placesN f ps zs (i + 1) = placesN f ps zs i ++ [(rowN f ps zs i).length + zs.getD i 0] := by
  unfold placesN; rw [List.range_succ, List.map_append]; rfl
end Mine
namespace Pure
open Mine
section
variable {f : Int} {ps : List (List Int)} {zs : List Nat}
noncomputable def pl (f : Int) (ps : List (List Int)) (zs : List Nat) (k : Nat) : Nat := (rowN f ps zs k).length + zs.getD k 0
noncomputable def sz (ps : List (List Int)) (k : Nat) : Nat := (ps.getD k []).length
theorem row_succ (k : Nat) : (rowN f ps zs (k + 1)).length = pl f ps zs k + sz ps k := by
  unfold pl sz; rw [rowN, List.length_append, List.length_append, List.length_replicate, Nat.add_assoc]
theorem row_mono : ∀ {m n : Nat}, m ≤ n → (rowN f ps zs m).length ≤ (rowN f ps zs n).length
  | m, 0, h => by have : m = 0 := by exact (Nat.le_antisymm h (Nat.zero_le _))
                  subst this; exact Nat.le_refl _
  | m, n + 1, h => by
    by_cases e : m = n + 1
    · subst e; exact Nat.le_refl _
    · have := row_mono (m := m) (n := n) (by lia)
      have := row_succ (f := f) (ps := ps) (zs := zs) n
      unfold pl at this
      lia
theorem pl_next {p q : Nat} (h : p < q) : pl f ps zs p + sz ps p + zs.getD q 0 ≤ pl f ps zs q := by
  rw [← row_succ]
  have := row_mono (f := f) (ps := ps) (zs := zs) (m := p + 1) (n := q) h
  unfold pl
  lia
theorem pl_end {p n : Nat} (h : p < n) : pl f ps zs p + sz ps p ≤ (rowN f ps zs n).length := by
  rw [← row_succ]; exact row_mono h
theorem row_old {n p : Nat} (h : p < (rowN f ps zs n).length) : (rowN f ps zs (n + 1)).getD p 0 = (rowN f ps zs n).getD p 0 := by
  rw [rowN, getD_left h]
theorem row_at : ∀ {n k t : Nat}, k < n → t < sz ps k → (rowN f ps zs n).getD (pl f ps zs k + t) 0 = (ps.getD k []).getD t 0
  | n + 1, k, t, hk, ht => by
    by_cases e : k = n
    · subst e
      rw [rowN, ← List.append_assoc]
      have e1 : pl f ps zs k + t = (rowN f ps zs k ++ List.replicate (zs.getD k 0) f).length + t := by
        unfold pl; rw [List.length_append, List.length_replicate]
      rw [e1, getD_right]
    · have hk' : k < n := by lia
      have := pl_end (f := f) (ps := ps) (zs := zs) hk'
      rw [row_old (by lia)]
      exact row_at hk' ht
theorem row_pos : ∀ {n p : Nat}, p < (rowN f ps zs n).length → (∃ k, k < n ∧ pl f ps zs k ≤ p ∧ p < pl f ps zs k + sz ps k) ∨ (rowN f ps zs n).getD p 0 = f
  | 0, p, h => by simp [rowN] at h
  | n + 1, p, h => by
    by_cases h1 : p < (rowN f ps zs n).length
    · rcases row_pos h1 with ⟨k, k1, k2, k3⟩ | e
      · exact .inl ⟨k, by exact (Nat.lt_of_lt_of_le k1 (Nat.le_succ _)), k2, k3⟩
      · exact .inr (by rw [row_old h1]; exact e)
    · rw [row_succ] at h
      by_cases h2 : p < pl f ps zs n
      · right
        rw [rowN, ← List.append_assoc]
        have e1 : p = (rowN f ps zs n).length + (p - (rowN f ps zs n).length) := by (clear h; lia)
        have h3 : p - (rowN f ps zs n).length < zs.getD n 0 := by unfold pl at h2; lia
        rw [getD_left (by rw [List.length_append, List.length_replicate]; unfold pl at h2; exact h2), e1, getD_right]
        rw [List.getD_eq_getElem?_getD, List.getElem?_replicate, if_pos h3]; rfl
      · exact .inl ⟨n, by exact (Nat.lt_succ_self _), by exact (Nat.not_lt.mp h2), h⟩
theorem run_in {x c : Nat → Nat} {n i l : Nat} (hl : 0 < l) (hgap : ∀ p q, p < q → q < n → x p + c p < x q) (hpos : ∀ t, t < l → ∃ k, k < n ∧ x k ≤ i + t ∧ i + t < x k + c k) : ∃ k, k < n ∧ x k ≤ i ∧ i + l ≤ x k + c k := by
  obtain ⟨k, k1, k2, k3⟩ := hpos 0 hl
  refine ⟨k, k1, by lia, Nat.not_lt.mp fun h => ?_⟩
  obtain ⟨k', q1, q2, q3⟩ := hpos (x k + c k - i) (by (clear k3 k1; omega))
  have e : i + (x k + c k - i) = x k + c k := by lia
  rw [e] at q2 q3
  by_cases h1 : k' < k
  · have := hgap k' k h1 k1; lia
  · by_cases h2 : k' = k
    · subst h2; lia
    · have := hgap k k' (by lia) q1; lia
theorem in_piece {n p k : Nat} (hk : k < n) (h1 : pl f ps zs k ≤ p) (h2 : p < pl f ps zs k + sz ps k) (hn : n ≤ ps.length) {lo hi : Int} (hv : ∀ q ∈ ps, ∀ v ∈ q, lo < v ∧ v < hi) : lo < (rowN f ps zs n).getD p 0 ∧ (rowN f ps zs n).getD p 0 < hi := by
  have e : p = pl f ps zs k + (p - pl f ps zs k) := by lia
  have hs : p - pl f ps zs k < sz ps k := by lia
  rw [e, row_at hk hs]
  unfold sz at hs
  have hk2 : k < ps.length := by exact (Nat.lt_of_lt_of_le hk hn)
  have e2 : ps.getD k [] = ps[k] := by simp [List.getD_eq_getElem?_getD, hk2]
  rw [e2] at hs ⊢
  rw [List.getD_eq_getElem?_getD, List.getElem?_eq_getElem hs]
  exact hv _ (List.getElem_mem hk2) _ (List.getElem_mem hs)
end
section
variable {fo : Int} {ps : List (List Int)} {z1 z2 : List Nat}
noncomputable abbrev rA (fo : Int) (ps : List (List Int)) (z1 : List Nat) : Nat → Int := fun i => (rowN (-fo) ps z1 ps.length).getD i 0
noncomputable abbrev rB (fo : Int) (ps : List (List Int)) (z2 : List Nat) : Nat → Int := fun i => (rowN fo ps z2 ps.length).getD i 0
noncomputable def due (fo : Int) (ps : List (List Int)) (z1 z2 : List Nat) : List Blk := (List.range' 0 (ps.length - 0)).map fun k => (pl (-fo) ps z1 k, pl fo ps z2 k, sz ps k)
theorem eq_at {k : Nat} (hk : k < ps.length) (t : Nat) (ht : t < sz ps k) : rA fo ps z1 (pl (-fo) ps z1 k + t) = rB fo ps z2 (pl fo ps z2 k + t) := by
  show List.getD _ _ _ = List.getD _ _ _
  rw [row_at hk ht, row_at hk ht]
theorem meets_pieces (hfo : 0 < fo) (hv : ∀ q ∈ ps, ∀ v ∈ q, -fo < v ∧ v < fo) {i j l : Nat} (h1 : i + l ≤ (rowN (-fo) ps z1 ps.length).length) (h2 : j + l ≤ (rowN fo ps z2 ps.length).length) (h : Run (rA fo ps z1) (rB fo ps z2) nj i j l) :
    (∀ t, t < l → ∃ k, k < ps.length ∧ pl (-fo) ps z1 k ≤ i + t ∧ i + t < pl (-fo) ps z1 k + sz ps k) ∧ ∀ t, t < l → ∃ k, k < ps.length ∧ pl fo ps z2 k ≤ j + t ∧ j + t < pl fo ps z2 k + sz ps k := by
  have hb : ∀ t, t < l → (∃ k, k < ps.length ∧ pl (-fo) ps z1 k ≤ i + t ∧ i + t < pl (-fo) ps z1 k + sz ps k) ∧ ∃ k, k < ps.length ∧ pl fo ps z2 k ≤ j + t ∧ j + t < pl fo ps z2 k + sz ps k := fun t ht => by
    have e : (rowN (-fo) ps z1 ps.length).getD (i + t) 0 = (rowN fo ps z2 ps.length).getD (j + t) 0 := (h t ht).1
    rcases row_pos (f := -fo) (ps := ps) (zs := z1) (n := ps.length) (p := i + t) (by lia) with a | a
    · rcases row_pos (f := fo) (ps := ps) (zs := z2) (n := ps.length) (p := j + t) (by lia) with b | b
      · exact ⟨a, b⟩
      · obtain ⟨k, k1, k2, k3⟩ := a
        have := in_piece k1 k2 k3 (Nat.le_refl _) hv
        (clear k3 k2 k1 ht h2 h1 hfo; omega)
    · rcases row_pos (f := fo) (ps := ps) (zs := z2) (n := ps.length) (p := j + t) (by lia) with b | b
      · obtain ⟨k, k1, k2, k3⟩ := b
        have := in_piece k1 k2 k3 (Nat.le_refl _) hv
        (clear k3 k2 k1 ht h2 h1; omega)
      · lia
  exact ⟨fun t ht => (hb t ht).1, fun t ht => (hb t ht).2⟩
theorem first_blocks (hfo : 0 < fo) (hv : ∀ q ∈ ps, ∀ v ∈ q, -fo < v ∧ v < fo) (hc : ∀ k, k < ps.length → 0 < sz ps k) (hz1 : ∀ k, k < ps.length → 0 < z1.getD k 0) (hz2 : ∀ k, k < ps.length → 0 < z2.getD k 0) :
    Blocks (rA fo ps z1) (rB fo ps z2) 0 (rowN (-fo) ps z1 ps.length).length 0 (rowN fo ps z2 ps.length).length (due fo ps z1 z2) := by
  refine pieces_one (n := ps.length) (fun k hk => eq_at hk) (fun p q h1 h2 => ⟨by have := pl_next (f := -fo) (ps := ps) (zs := z1) h1; lia, by have := pl_next (f := fo) (ps := ps) (zs := z2) h1; lia⟩) hc (fun i j l hl h1 h2 h => ?_) (fun i j l hl h1 h2 h => ?_) ps.length 0 ps.length _ _ _ _ (by lia) (Nat.zero_le _) (Nat.le_refl _) (Nat.le_refl _) (Nat.le_refl _) ⟨fun p h => by lia, fun p h1 h2 => by (clear hfo; omega), fun p _ hp => ⟨Nat.zero_le _, pl_end hp, Nat.zero_le _, pl_end hp⟩⟩
  · exact run_in hl (fun p q h1 h2 => by have := pl_next (f := fo) (ps := ps) (zs := z2) h1; have := hz2 q h2; lia) (meets_pieces hfo hv h1 h2 h).2
  · exact run_in hl (fun p q h1 h2 => by have := pl_next (f := -fo) (ps := ps) (zs := z1) h1; have := hz1 q h2; lia) (meets_pieces hfo hv h1 h2 h).1
theorem second_blocks (hfo : 0 < fo) (hv : ∀ q ∈ ps, ∀ v ∈ q, -fo < v ∧ v < fo) (hc : ∀ k, k < ps.length → 0 < sz ps k) (hz1 : ∀ k, z1.getD k 0 = 0) (hz2 : ∀ k, k < ps.length → 0 < z2.getD k 0) (hf : ∀ p q, p ≤ q → q < ps.length → sz ps q ≤ sz ps p) :
    Blocks (rA fo ps z1) (rB fo ps z2) 0 (rowN (-fo) ps z1 ps.length).length 0 (rowN fo ps z2 ps.length).length (due fo ps z1 z2) := by
  refine pieces_two (n := ps.length) (fun k hk => eq_at hk) (fun p q h1 h2 => ⟨by have := pl_next (f := -fo) (ps := ps) (zs := z1) h1; lia, by have := pl_next (f := fo) (ps := ps) (zs := z2) h1; lia⟩) hc (fun i j l hl h1 h2 h => ?_) hf (fun u hu => ?_) ps.length 0 _ _ _ _ (by lia) (Nat.zero_le _) (Nat.le_refl _) (Nat.le_refl _) ⟨fun p h => by lia, fun p h1 h2 => by (clear hfo; omega), fun p _ hp => ⟨Nat.zero_le _, pl_end hp, Nat.zero_le _, pl_end hp⟩⟩ (fun _ => ?_)
  · exact run_in hl (fun p q h1 h2 => by have := pl_next (f := fo) (ps := ps) (zs := z2) h1; have := hz2 q h2; lia) (meets_pieces hfo hv h1 h2 h).2
  · rw [← row_succ]; unfold pl; rw [hz1]; rfl
  · unfold pl; rw [hz1]; rfl
theorem due_pos (hc : ∀ k, k < ps.length → 0 < sz ps k) : ∀ b ∈ due fo ps z1 z2, 0 < b.2.2 := fun b hb => by
  unfold due at hb
  obtain ⟨k, h, rfl⟩ := List.mem_map.mp hb
  exact hc k (by have := List.mem_range'.mp h; obtain ⟨i, h1, h2⟩ := this; lia)
theorem due_len : (due fo ps z1 z2).length = ps.length := by unfold due; simp
theorem apart_pw : ∀ {L : List Blk}, L.Pairwise (fun a b => ¬ (a.1 + a.2.2 = b.1 ∧ a.2.1 + a.2.2 = b.2.1)) → Apart L
  | [], _ => trivial
  | [_], _ => trivial
  | x :: y :: r, h => ⟨(List.pairwise_cons.mp h).1 y (.head _), apart_pw (List.pairwise_cons.mp h).2⟩
theorem due_pw (hc : ∀ k, k < ps.length → 0 < sz ps k) (hz2 : ∀ k, k < ps.length → 0 < z2.getD k 0) :
    (due fo ps z1 z2).Pairwise fun a b => (a.1 < b.1 ∧ a.2.1 < b.2.1) ∧ ¬ (a.1 + a.2.2 = b.1 ∧ a.2.1 + a.2.2 = b.2.1) := by
  unfold due
  rw [List.pairwise_map]
  refine List.Pairwise.imp_of_mem (fun {p q} hp hq (h : p < q) => ?_) List.pairwise_lt_range'
  have hq' : q < ps.length := by obtain ⟨i, h1, h2⟩ := List.mem_range'.mp hq; lia
  have hp' : p < ps.length := by exact (Nat.lt_trans h hq')
  have e1 := pl_next (f := -fo) (ps := ps) (zs := z1) h
  have e2 := pl_next (f := fo) (ps := ps) (zs := z2) h
  have := hc p hp'
  have := hz2 q hq'
  dsimp only
  refine ⟨⟨by lia, by lia⟩, fun ⟨_, e⟩ => by lia⟩
theorem due_apart (hc : ∀ k, k < ps.length → 0 < sz ps k) (hz2 : ∀ k, k < ps.length → 0 < z2.getD k 0) : Apart (due fo ps z1 z2) := apart_pw ((due_pw hc hz2).imp fun h => h.2)
theorem due_apart' (hc : ∀ k, k < ps.length → 0 < sz ps k) (hz2 : ∀ k, k < ps.length → 0 < z2.getD k 0) : Apart ((due fo ps z1 z2).map swp) :=
  apart_pw (List.pairwise_map.mpr ((due_pw hc hz2).imp fun h e => h.2 ⟨e.2, e.1⟩))
theorem due_fst (hc : ∀ k, k < ps.length → 0 < sz ps k) (hz2 : ∀ k, k < ps.length → 0 < z2.getD k 0) : (due fo ps z1 z2).Pairwise fun a b => a.1 < b.1 := (due_pw hc hz2).imp fun h => h.1.1
theorem due_fst' (hc : ∀ k, k < ps.length → 0 < sz ps k) (hz2 : ∀ k, k < ps.length → 0 < z2.getD k 0) : ((due fo ps z1 z2).map swp).Pairwise fun a b => a.1 < b.1 := List.pairwise_map.mpr ((due_pw hc hz2).imp fun h => h.1.2)
theorem due_pos' (hc : ∀ k, k < ps.length → 0 < sz ps k) : ∀ b ∈ (due fo ps z1 z2).map swp, 0 < b.2.2 := fun b hb => by
  obtain ⟨a, ha, rfl⟩ := List.mem_map.mp hb
  exact due_pos hc a ha
theorem places_at {f : Int} {zs : List Nat} {n k : Nat} (h : k < n) : (placesN f ps zs n).getD k 0 = pl f ps zs k := by
  unfold placesN pl
  simp [List.getD_eq_getElem?_getD, h]
theorem due_law : ((List.range ps.length).map fun k => ((placesN (-fo) ps z1 ps.length).getD k 0, (placesN fo ps z2 ps.length).getD k 0, (ps.getD k []).length)) = due fo ps z1 z2 := by
  unfold due
  rw [List.range_eq_range', Nat.sub_zero]
  refine List.map_congr_left fun k hk => ?_
  have hk' : k < ps.length := by obtain ⟨i, h1, h2⟩ := List.mem_range'.mp hk; lia
  rw [places_at hk', places_at hk']
  rfl
end
end Pure
end
section
open PySem PySem.W PySem.Calls PyProof.Rows
set_option maxRecDepth 100000
set_option maxHeartbeats 4000000
set_option Elab.async false
set_option linter.unusedVariables false
namespace Mine
theorem pt_at (P : Params) : (K P).lookup 253 = some ⟨.type "function", none, .func (fnTop 7 "_law_put" (.ref 252)), #[]⟩ := by kernel_rfl!
theorem pt_code (P : Params) : codeIn (K P) (.ref 252) "_law_put" = true := by kernel_rfl!
theorem pt_bind (x y z : Value) : bindArgs (fnTop 7 "_law_put" (.ref 252)) ⟨[x, y, z], []⟩ = pure [(Str.ofString "pieces", x), (Str.ofString "foreign", y), (Str.ofString "sizes", z)] := by kernel_rfl!
noncomputable def Lists0 (h : Heap) (vp : List Value) (ps : List (List Int)) : Prop := vp.length = ps.length ∧ ∀ i (hi : i < ps.length), ∃ a ws n, vp[i]? = some (.ref a) ∧ h.get? a = some (W.listOf (List.toArray ws) n) ∧ IntsAre ws (ps[i])
section
variable {prog : Program} {w : World} {A : Around} {E : Value → Shared → Prop} {s : Shared} {h₀ : Heap} {L D b : Addr} {m : Str → Option Value} {news : List (Addr × Obj)}
theorem extendU {vs us : List Value} {n n2 : Nat} {news' : List (Addr × Obj)} {Q : Value → Shared → Prop} (F : Fr h₀ L s.heap m) (N : News h₀ L s.heap news) (hb : s.heap.get? b = some (W.listOf us.toArray n2)) (U : Upd D (W.listOf vs.toArray n) (W.listOf (vs ++ us).toArray (if us.length = 0 then n else n + 1)) news news') (hz : vs.length + us.length < 2 ^ 24)
    (h : ∀ h', Fr h₀ L h' m → News h₀ L h' news' → Q .none { s with heap := h' }) : wpAny (model prog w) A (call (.builtin "list.extend") [.ref D, .ref b]) Q E s := by
  obtain ⟨pre, post, rfl, rfl, a, c⟩ := U.split
  have hm := N _ (List.mem_append_right pre (List.Mem.head post))
  have hsz' : vs.toArray.size + us.toArray.size ≤ sizeLine := by unfold sizeLine; simp only [List.size_toArray]; lia
  refine call_meets PySem.F.slot_list_extend ⟨_, hm.1, rfl⟩ PySem.F.entry_list_extend (PySem.F.args_list_extend_2 _ _) (PySem.AutoSeq1.list_extend_list_list_0 D vs.toArray n b us.toArray n2 (extend_door hsz') (Nat.le_trans (Nat.le_add_right _ _) hsz')) ⟨hm.1, hb, ?_⟩
  have ho' : (s.heap.update D (Obj.mapSeq fun x => x ++ us.toArray)).get? D = some (W.listOf (vs ++ us).toArray (if us.length = 0 then n else n + 1)) := by
    rw [Heap.get?_update_self _ hm.1 (by rw [mapSeq_app]; rfl)]
    show some (Obj.mapSeq _ (W.listOf vs.toArray n)) = _
    unfold W.listOf
    rw [mapSeq_app]
    simp
  exact h _ (F.change (Heap.SameBut.update ..) hm.2.1 hm.2.2) (N.setIn a c (Heap.SameBut.update ..) ho')
end
local macro_rules | `(tactic| walk_at "exec For Tuple Call cons nil") => stop ``exec_stop
local macro_rules | `(tactic| walk_at "call type:zip") => stop ``call_stop
local macro_rules | `(tactic| walk_at "call builtin:list.extend") => stop ``call_stop
local macro_rules | `(tactic| walk_at "eval Name") => ln ``ld "k_asm rfl|assumption _" ""
local macro_rules | `(tactic| walk_at "call builtin:list.append") => ln ``appendL "k_asm k_asm k_upd assumption|omega|app1+omega _" "h' F' N'"
local macro_rules | `(tactic| k_all) => prem "assumption"
theorem pt_close {h₀ h : Heap} {L D' l' lq lr : Addr} {od ol oq or pq pr : Obj} {m' : Str → Option Value} {tail own : List (Addr × Obj)} {J : (Str → Option Value) → List (Addr × Obj) → Prop} {s : Shared} {tk : Nat}
    (F : Fr h₀ L h m') (N : News h₀ L h ((D', od) :: (l', ol) :: (lq, oq) :: (lr, or) :: (tail ++ own)))
    (hne : ∀ p ∈ (lq, pq) :: (lr, pr) :: tail, ∀ q ∈ own, @Ne Nat p.1 q.1) (hj : J m' ((lq, oq) :: (lr, or) :: tail)) :
    TurnEndO h₀ L own J s .next { s with heap := h, toks := tk } :=
  .intro (news' := (lq, oq) :: (lr, or) :: tail) F (fun p hp => N p (.tail _ (.tail _ hp))) (List.forall_mem_cons.mpr ⟨hne (lq, pq) (.head _), List.forall_mem_cons.mpr ⟨hne (lr, pr) (.tail _ (.head _)), fun p hp => hne p (.tail _ (.tail _ hp))⟩⟩) hj
inductive PInv (f : Int) (ps : List (List Int)) (zs : List Nat) (lq lr : Addr) (i : Nat) (m₁ : Str → Option Value) : List (Addr × Obj) → Prop
  | mk (vr : List Value) (nr : Nat) (vq : List Value) (nq : Nat) (tail : List (Addr × Obj)) (tf : Tok) : AllNe lq tail → AllNe lr tail → IntsAre vr (rowN f ps zs i) → IntsAre vq ((placesN f ps zs i).map fun (n : Nat) => (n : Int)) → vr.length ≤ 65 * i → vq.length = i →
    m₁ (Str.ofString "row") = some (.ref lr) → m₁ (Str.ofString "places") = some (.ref lq) → m₁ (Str.ofString "foreign") = some (.int f tf) → PInv f ps zs lq lr i m₁ ((lq, W.listOf (List.toArray vq) nq) :: (lr, W.listOf (List.toArray vr) nr) :: tail)
theorem put_ok {w : World} {mg mb : Str → Option Value} {means : ExcName → Option Value} {dp un : Nat} {fr : Option (List Env)} {gu : Option (List Code)} {s : Shared} {base : Heap} {lp lz : Addr} {R : Result → Shared → Prop} {vp vz : List Value} {ps : List (List Int)} {zs : List Nat} {f : Int} {tf : Tok}
    (T : Top q (looseW q loose) means mg mb base) (kb : Kept base s.heap) (hlp : s.heap.IsList lp vp.toArray) (hps : Lists0 s.heap vp ps) (hlz : s.heap.IsList lz vz.toArray) (hIz : IntsAre vz (zs.map fun (n : Nat) => (n : Int))) (n1 : zs.length = ps.length) (n2 : ps.length ≤ 62) (n3 : ∀ p ∈ ps, p.length ≤ 62) (n4 : ∀ z ∈ zs, z ≤ 3)
    (hroom : dp + 2 < recursionLimit) (hu : un + 80 < cLine)
    (hR : ∀ h' tk D lq lr vq nq vr nr, Kept s.heap h' → h'.get? D = some (tupObj #[.ref lr, .ref lq]) → h'.get? lr = some (W.listOf (List.toArray vr) nr) → h'.get? lq = some (W.listOf (List.toArray vq) nq) → s.heap.get? D = none → s.heap.get? lr = none → s.heap.get? lq = none → @Ne Nat D lr → @Ne Nat D lq → @Ne Nat lr lq →
      IntsAre vr (rowN f ps zs ps.length) → IntsAre vq ((placesN f ps zs ps.length).map fun (n : Nat) => (n : Int)) → R (.ok (.ret (.ref D))) { s with heap := h', toks := tk }) :
    (K w.params).In base → PySem.Challenge.rw_dm0054_12.prog = pw → codeAny (model pw w) (Around.mk none dp fr gu un) (.call (.ref 253) ⟨[.ref lp, .int f tf, .ref lz], []⟩) R s := by
  k_fill
  intro X₀ hpw
  refine enterC [] X₀ T kb (fun _ h => nomatch h) (by show dp < _; lia) (pt_at _) (pt_code _) (.of_eq (pt_bind _ _ _)) (by rfl) (by decide +kernel) ?_ (by kernel_rfl!) (by kernel_rfl!) (by kernel_rfl!)
  intro L h₁ tk₁ cells X' T' F' N' Y' k₁ hL
  dsimp only [hideAll] at X' T' F' N'
  replace Y' : cells = [] := by
    have z : ∀ cm cells, CellsAre cm [] cells → cells = [] := fun _ _ h => by cases h; rfl
    exact z _ _ Y'
  subst Y'
  k_steps
  unfold ExecStop
  rename Fr _ _ _ _ => F₁
  rename News _ _ _ _ => N₁
  refine For_turns F₁ ?_
  k_steps
  unfold CallStop
  rename Fr _ _ _ _ => F₂
  rename News _ _ _ _ => N₂
  rename_i lr _ _ _ _ lq _ hlq _
  refine iterZipq (PInv f ps zs lq lr) rfl rfl rfl rfl hlp hlz F₂ N₂ ⟨[], 0, [], 0, [], _, trivial, trivial, .nil, .nil, by simp, rfl, rfl, rfl, rfl⟩ ?_ ?_
  · rintro own i x y m₁ news₁ h tk ⟨hx, hy⟩ ⟨vr, nr, vq, nq, tail, tf', y1, y2, i1, i2, b1, b2, c1, c2, c3⟩ hne F' N' QB hT
    clear F₂ N₂
    obtain ⟨tl, htl⟩ : ∃ tl, tl = tail ++ own := ⟨_, rfl⟩
    change News _ _ h ((lq, W.listOf vq.toArray nq) :: (lr, W.listOf vr.toArray nr) :: (tail ++ own)) at N'
    rw [← htl] at N'
    have hi : i < ps.length := by have := (List.getElem?_eq_some_iff.mp hx).1; have := hps.1; lia
    obtain ⟨a, ws, na, g1, g2, g3⟩ := hps.2 i hi
    have hxa : x = .ref a := by rw [g1] at hx; exact (Option.some.inj hx).symm
    subst hxa
    obtain ⟨tz, rfl⟩ := hIz.int_at i y hy
    have e1 : ((zs.map fun (n : Nat) => (n : Int)).getD i 0) = ((zs.getD i 0 : Nat) : Int) := by
      simp [List.getD_eq_getElem?_getD]
      cases zs[i]? <;> rfl
    rw [e1] at F'
    have hz3 : zs.getD i 0 ≤ 3 := by
      rw [List.getD_eq_getElem?_getD, List.getElem?_eq_getElem (by exact (Nat.lt_of_lt_of_le hi (Nat.le_of_eq n1.symm)))]
      exact n4 _ (List.getElem_mem _)
    have hwl : ws.length ≤ 62 := by rw [g3.length]; exact n3 _ (List.getElem_mem _)
    generalize hzz : zs.getD i 0 = z at *
    have hy1 : ∀ p ∈ tl, p.1 ≠ lq := fun p hp => (List.mem_append.mp (htl ▸ hp)).elim (ne_of_allNe y1 p) fun h e => hne _ (.head _) p h e.symm
    have hy2 : ∀ p ∈ tl, p.1 ≠ lr := fun p hp => (List.mem_append.mp (htl ▸ hp)).elim (ne_of_allNe y2 p) fun h e => hne _ (.tail _ (.head _)) p h e.symm
    clear hx hy hps hIz n3 n4 hR
    k_steps
    unfold CallStop
    rename Fr _ _ _ _ => F₃
    rename News _ _ _ _ => N₃
    rename IntsAre (List.flatten _) _ => hu0
    skip
    have e9 : (List.replicate (z : Int).toNat [f]).flatten = List.replicate z f := by simp
    rw [e9] at hu0
    generalize (List.replicate (z : Int).toNat [Value.int f tf']).flatten = us at *
    have hu2 : us.length = z := by rw [hu0.length]; simp
    refine extendU F₃ N₃ (N₃ _ (.head _)).1 (by k_upd) (by rw [hu2]; lia) ?_
    intro h₄ F₄ N₄
    have hvl : (vr ++ us).length = (rowN f ps zs i).length + z := by rw [List.length_append, hu2, i1.length]
    have hrl : vr.length = (rowN f ps zs i).length := i1.length
    have hsz : (vr ++ us).toArray.size = (rowN f ps zs i).length + z := by rw [List.size_toArray]; exact hvl
    generalize hnr : (if us.length = 0 then nr else nr + 1) = nr' at *
    clear F₃ N₃
    k_steps
    unfold CallStop
    rename Fr _ _ _ _ => F₅
    rename News _ _ _ _ => N₅
    refine extendU F₅ N₅ (F₅.keep _ _ g2) (by k_upd) (by rw [hvl]; lia) ?_
    intro h₆ F₆ N₆
    clear F₅ N₅
    k_steps
    have p1 : placesN f ps zs (i + 1) = placesN f ps zs i ++ [(rowN f ps zs i).length + z] := by rw [placesN_succ, hzz]
    have p2 : rowN f ps zs (i + 1) = rowN f ps zs i ++ (List.replicate z f ++ ps[i]) := by
      rw [rowN, hzz, List.getD_eq_getElem?_getD, List.getElem?_eq_getElem hi]; rfl
    refine hT _ _ ?_
    subst htl
    refine pt_close F₆ N₆ hne (PInv.mk (vr ++ us ++ ws) _ (vq ++ [_]) _ tail tf' y1 y2 ?_ ?_ ?_ ?_ ?_ ?_ ?_)
    · rw [p2, ← List.append_assoc]; exact (i1.append hu0).append g3
    · rw [p1, List.map_append]; exact ksk_snoc i2
    · simp only [List.length_append]; lia
    · rw [List.length_append, b2]; rfl
    · rw [if_neg (by decide), if_neg (by decide)]; exact c1
    · rw [if_neg (by decide), if_neg (by decide)]; exact c2
    · rw [if_neg (by decide), if_neg (by decide)]; exact c3
  · rintro m₁ news₁ h tk ⟨vr, nr, vq, nq, tail, tf', y1, y2, i1, i2, b1, b2, c1, c2, c3⟩ F' N'
    have e : min vp.length vz.length = ps.length := by
      have := hIz.length
      have := hps.1
      simp only [List.length_map] at *
      (clear b2 b1 hlq hu hroom; lia)
    rw [e] at i1 i2
    clear F₂ N₂
    k_steps
    rename Fr _ _ _ _ => F₃
    rename News _ _ _ _ => N₃
    have n1 := N₃ _ (.head _)
    have n2 := N₃ _ (.tail _ (.head _))
    have n3 := N₃ _ (.tail _ (.tail _ (.head _)))
    exact hR _ _ _ lq lr vq nq vr nr (fun b o e => F₃.keep _ _ e) n1.1 n3.1 n2.1 n1.2.2 n3.2.2 n2.2.2 (by lia) (by lia) (by exact (Nat.ne_of_lt hlq)) i1 i2
end Mine
end
section
namespace Mine
open Pure
noncomputable def PairOk (fo : Int) (ps : List (List Int)) (z1 z2 : List Nat) : Prop :=
  PureOk (rowN (-fo) ps z1 ps.length) (rowN fo ps z2 ps.length) (((List.range ps.length).map fun k => ((placesN (-fo) ps z1 ps.length).getD k 0, (placesN fo ps z2 ps.length).getD k 0, (ps.getD k []).length)) ++ [((rowN (-fo) ps z1 ps.length).length, (rowN fo ps z2 ps.length).length, 0)]) ∧
    PureOk (rowN fo ps z2 ps.length) (rowN (-fo) ps z1 ps.length) ((((List.range ps.length).map fun k => ((placesN (-fo) ps z1 ps.length).getD k 0, (placesN fo ps z2 ps.length).getD k 0, (ps.getD k []).length)) ++ [((rowN (-fo) ps z1 ps.length).length, (rowN fo ps z2 ps.length).length, 0)]).map fun b : Pure.Blk => (b.2.1, b.1, b.2.2))
theorem ok_pieces {fo : Int} {ps : List (List Int)} {z1 z2 : List Nat} (hb : Blocks (rA fo ps z1) (rB fo ps z2) 0 (rowN (-fo) ps z1 ps.length).length 0 (rowN fo ps z2 ps.length).length (due fo ps z1 z2)) (hn : ps.length ≤ 62)
    (hc : ∀ k, k < ps.length → 0 < sz ps k) (hz2 : ∀ k, k < ps.length → 0 < z2.getD k 0) :
    PairOk fo ps z1 z2 := by
  unfold PairOk
  rw [due_law]
  refine ⟨ok_of hb rfl rfl (by rw [due_len]; omega) (due_pos hc) (due_apart hc hz2) (due_fst hc hz2), ?_⟩
  rw [List.map_append]
  exact ok_of hb.swap rfl rfl (by rw [List.length_map, due_len]; omega) (due_pos' hc) (due_apart' hc hz2) (due_fst' hc hz2)
theorem ok12_first {fo : Int} {ps : List (List Int)} {z1 z2 : List Nat} (hn : ps.length ≤ 62) (hfo : 0 < fo) (hv : ∀ q ∈ ps, ∀ v ∈ q, -fo < v ∧ v < fo) (hc : ∀ k, k < ps.length → 0 < sz ps k) (hz1 : ∀ k, k < ps.length → 0 < z1.getD k 0) (hz2 : ∀ k, k < ps.length → 0 < z2.getD k 0) : PairOk fo ps z1 z2 :=
  ok_pieces (first_blocks hfo hv hc hz1 hz2) hn hc hz2
theorem ok12_second {fo : Int} {ps : List (List Int)} {z1 z2 : List Nat} (hn : ps.length ≤ 62) (hfo : 0 < fo) (hv : ∀ q ∈ ps, ∀ v ∈ q, -fo < v ∧ v < fo) (hc : ∀ k, k < ps.length → 0 < sz ps k) (hz1 : ∀ k, z1.getD k 0 = 0) (hz2 : ∀ k, k < ps.length → 0 < z2.getD k 0) (hf : ∀ p q, p ≤ q → q < ps.length → sz ps q ≤ sz ps p) : PairOk fo ps z1 z2 :=
  ok_pieces (second_blocks hfo hv hc hz1 hz2 hf) hn hc hz2
end Mine
end
section
open PySem PySem.W PySem.Calls PyProof.Rows
set_option maxRecDepth 100000
set_option maxHeartbeats 4000000
set_option Elab.async false
set_option linter.unusedVariables false
namespace Mine
section
variable {prog : Program} {w : World} {A : Around} {E : Value → Shared → Prop} {s : Shared} {env : Env} {h₀ : Heap} {x : Str} {body : List Stmt} {Q : Flow → Shared → Prop}
theorem iterL {l : Addr} {vs : List Value} {nl : Nat} {m₀ : Str → Option Value} {news : List (Addr × Obj)} (J : Nat → (Str → Option Value) → List (Addr × Obj) → Prop)
    (hh : A.handled = none) (F : Fr h₀ env.locals s.heap m₀) (N : News h₀ env.locals s.heap news) (hl : (l, W.listOf vs.toArray nl) ∈ news) (hj : J 0 m₀ news) (hJ : ∀ i m₁ news₁, J i m₁ news₁ → (l, W.listOf vs.toArray nl) ∈ news₁)
    (turn : ∀ I i v m₁ news₁ h tk oI, (∀ p ∈ news, @LT.lt Nat _ p.1 I) → vs[i]? = some v → J i m₁ news₁ → (∀ p ∈ news₁, p.1 ≠ I) → Fr h₀ env.locals h (fun y => if y = x then some v else m₁ y) → News h₀ env.locals h ((I, oI) :: news₁) →
      ∀ QB : Flow → Shared → Prop, (∀ f s', TurnEnd h₀ env.locals I oI (J (i + 1)) { s with heap := h, toks := tk } f s' → QB f s') → wpAny (model prog w) A (execs body env) QB E { s with heap := h, toks := tk })
    (done : ∀ m₁ news₁ h tk, J vs.length m₁ news₁ → Fr h₀ env.locals h m₁ → News h₀ env.locals h news₁ → Q .next { s with heap := h, toks := tk }) :
    wpAny (model prog w) A (pyIter (.ref l)) (fun it s₂ => LoopAtV prog w A h₀ env x body Q E it s₂) E s := by
  have hls : s.heap.IsList l vs.toArray := N.isList hl
  have nl0 := N _ hl
  have hne : l ≠ s.heap.objs.size := Nat.ne_of_lt (Heap.lt_size nl0.1)
  refine wpAny_pyIter_list hls ?_
  have WW := Walks.list (prog := prog) (w := w) hh s.heap.objs.size l hne vs.toArray
  refine ⟨_, _, [s.heap.objs.size], vs.toArray.size, _, _, m₀, news, fun i m n => J i m n, rfl, WW, fun hm => ?_, fun b hb => by rw [List.mem_singleton.mp hb]; exact next_is_new F, fun p hp hm => ?_, ⟨⟨_, Heap.get?_push_size _ rfl, rfl, rfl⟩, hls.at fun o e => Heap.get?_push_of_some _ e⟩, F.push _, (fun p hp => ⟨Heap.get?_push_of_some _ (N p hp).1, (N p hp).2⟩), hj, ?_, ?_⟩
  · rcases List.mem_cons.mp hm with e | hm
    · exact absurd F.ns.lt (e ▸ Nat.lt_irrefl _)
    · exact nl0.2.1 (List.mem_singleton.mp hm).symm
  · exact absurd (Heap.lt_size (N p hp).1) ((List.mem_singleton.mp hm) ▸ Nat.lt_irrefl _)
  · rintro i v m₁ news₁ s₁ own ⟨h, tk, rfl⟩ hi hP hJi hoff hsub hget hall hst₁ F₁ N₁
    have hI := next_is_new F
    obtain ⟨oI, hoI, _⟩ := hst₁.1
    have mI := hall s.heap.objs.size (by simp) hI oI hoI
    have hlm := hJ _ _ _ hJi
    have N₂ : News h₀ env.locals h ((s.heap.objs.size, oI) :: news₁) := fun p hp => by
      rcases List.mem_cons.mp hp with rfl | hp
      · exact N₁ _ (List.mem_append_left _ mI)
      · exact N₁ _ (List.mem_append_right _ hp)
    have ownI : ∀ p ∈ own, p = (s.heap.objs.size, oI) ∨ p = (l, W.listOf vs.toArray nl) := fun p hp => by
      have h1 := hget p hp
      obtain ⟨a, o⟩ := p
      rcases List.mem_cons.mp (hsub _ hp) with e | e
      · simp only at e h1; subst e; rw [hoI] at h1; rw [Option.some.inj h1]; exact .inl rfl
      · have e := List.mem_singleton.mp e
        simp only at e h1; subst e
        have h2 := (N₁ _ (List.mem_append_right _ hlm)).1
        simp only at h2
        rw [h2] at h1; rw [Option.some.inj h1]; exact .inr rfl
    refine wpAny_mono (turn s.heap.objs.size i v m₁ news₁ h tk oI (fun p hp => Heap.lt_size (N p hp).1) (by simpa using hP) hJi (fun p hp e => hoff p hp (by simp [e])) F₁ N₂ _ fun _ _ z => z) (fun f s₃ h₃ => ?_) fun _ _ e => e
    obtain ⟨rfl, h', tk', m', news', rfl, F', N', hn', hJ'⟩ := h₃
    refine .next ⟨rfl, h', tk', m', news', rfl, F', fun p hp => ?_, fun p hp hm => hn' p hp (List.mem_singleton.mp hm), hJ'⟩
    rcases List.mem_append.mp hp with hp | hp
    · rcases ownI p hp with rfl | rfl
      · exact N' _ (.head _)
      · exact N' _ (.tail _ (hJ _ _ _ hJ'))
    · exact N' _ (.tail _ hp)
  · intro h' tk m' news' F' N' _ hJn
    exact done m' news' h' tk (by simpa using hJn) F' N'
end
end Mine
end
section
open PySem PySem.W PySem.Calls PyProof.Rows
set_option maxRecDepth 100000
set_option maxHeartbeats 4000000
set_option Elab.async false
set_option linter.unusedVariables false
namespace Mine
noncomputable abbrev lawEnv (L : Addr) : Env := envOfC (Str.ofString "law") (fnScope (top 9)) L 263 (Value.ref 262)
inductive PL : List (Addr × Obj) → List Value → List (List Int) → Prop
  | nil : PL [] [] []
  | snoc {T : List (Addr × Obj)} {vs : List Value} {ps : List (List Int)} (a : Addr) (ws : List Value) (k : Nat) (p : List Int) : PL T vs ps → AllNe a T → IntsAre ws p → PL ((a, W.listOf ws.toArray k) :: T) (vs ++ [.ref a]) (ps ++ [p])
theorem PL.len {T : List (Addr × Obj)} {vs : List Value} {ps : List (List Int)} (h : PL T vs ps) : vs.length = ps.length := by
  induction h with
  | nil => rfl
  | snoc a ws k p _ _ _ ih => simp [ih]
noncomputable def plData (ps : List (List Int)) : List PyData := ps.map fun p => .list (p.map .int)
theorem PL.reads {h₀ h : Heap} {L : Addr} {news T : List (Addr × Obj)} {vs : List Value} {ps : List (List Int)} (N : News h₀ L h news) (hs : ∀ p ∈ T, p ∈ news) (t : PL T vs ps) : ∃ as, ReadsAll h vs (plData ps) as := by
  induction t with
  | nil => exact ⟨_, .nil⟩
  | @snoc T vs ps a ws k p t hne hi ih =>
    obtain ⟨bs, ih⟩ := ih fun p hp => hs p (.tail _ hp)
    obtain ⟨cs, r⟩ := readsAll_snoc ih (reads_list_at (N.get (hs _ (.head _))) rfl rfl (ints_readAll h hi))
    exact ⟨cs, by unfold plData at *; rw [List.map_append]; exact r⟩
theorem ints_lay (p : List Int) : PyData.depthAll (p.map PyData.int) ≤ 1 := by
  induction p with
  | nil => simp [PyData.depthAll]
  | cons x r ih => simp only [List.map_cons, PyData.depthAll, PyData.depth]; omega
theorem pl_lay : ∀ ps : List (List Int), PyData.canLayAll0 (plData ps) = true ∧ PyData.depthAll (plData ps) ≤ 3
  | [] => by simp [plData, PyData.canLayAll0, PyData.depthAll]
  | p :: ps => by
    obtain ⟨h1, h2⟩ := pl_lay ps
    have h3 := ints_lay p
    have h4 := ke_canLayAll0 p
    unfold plData at *
    simp only [List.map_cons, PyData.canLayAll0, PyData.canLay0, PyData.depthAll, PyData.depth, h1, h4, Bool.and_true, Bool.true_and]
    refine ⟨by first | rfl | trivial, ?_⟩
    omega
theorem pl_shaped (ps : List (List Int)) : SeqAt.shaped (.list (plData ps)) = true := by
  obtain ⟨h1, h2⟩ := pl_lay ps
  unfold SeqAt.shaped
  simp only [PyData.canLay0, PyData.depth, h1, Bool.true_and]
  exact decide_eq_true (by omega)
section
variable {prog : Program} {w : World} {A : Around} {E : Value → Shared → Prop} {s : Shared} {h₀ : Heap} {L : Addr} {news T : List (Addr × Obj)} {vs : List Value} {ps : List (List Int)} {Q : Value → Shared → Prop} {lp e : Addr} {n k : Nat}
theorem pl_eq_nil (N : News h₀ L s.heap news) (m1 : (lp, W.listOf (List.toArray vs) n) ∈ news) (m2 : (e, W.listOf #[] k) ∈ news) (t : PL T vs ps) (hs : ∀ p ∈ T, p ∈ news) (hu : A.units + 64 < cLine)
    (h : Q (.bool (PyData.eqv (.list (plData ps)) (.list []))) s) : wpAny (model prog w) A (compareOp .Eq (.ref lp) (.ref e)) Q E s := by
  obtain ⟨_, r1⟩ := t.reads N hs
  exact eq_dataH (reads_list_at (N.get m1) rfl rfl (by simpa using r1)) (reads_list_at (N.get m2) rfl rfl .nil) (pl_shaped _) (pl_shaped []) hu h
end
theorem pl_nil_eqv : PyData.eqv (.list (plData [])) (.list []) = true := by simp [plData, PyData.eqv, PyData.eqvAll]
theorem pl_snoc_eqv (ps : List (List Int)) (p : List Int) : PyData.eqv (.list (plData (ps ++ [p]))) (.list []) = false := by
  unfold plData
  cases ps <;> simp [PyData.eqv, PyData.eqvAll]
end Mine
end
section
open PySem PySem.W PySem.Calls PyProof.Rows
set_option maxRecDepth 100000
set_option maxHeartbeats 4000000
set_option Elab.async false
set_option linter.unusedVariables false
namespace Mine
theorem itemLast {prog : Program} {w : World} {A : Around} {E : Value → Shared → Prop} {s : Shared} {h₀ : Heap} {L : Addr} {news : List (Addr × Obj)} {value slice : Expr} {l : Addr} {vi : List Value} {v : Value} {u : Tok} {n : Nat} {Q : Value → Shared → Prop} (N : News h₀ L s.heap news) (hm : (l, W.listOf (vi ++ [v]).toArray n) ∈ news) (h : Q v s)
    (hs : subscripted slice false (.ref l) (.int (-1) u) = operate [.ref l, .int (-1) u] (getItem (.ref l) (.int (-1) u)) := by with_unfolding_all rfl) (hg : ∀ r, letTemporaryGo value (.ref l) r = pure () := by intro _; with_unfolding_all rfl) : wpAny (model prog w) A (subscriptTail value slice (.ref l) (.int (-1) u)) Q E s :=
  item_last (N.isList hm) h hs hg
local macro_rules | `(tactic| walk_at "compareOp Eq ref ref") => stop ``cmp_stop
local macro_rules | `(tactic| walk_at "call builtin:list.append") => ln ``appendL "k_asm k_asm k_upd assumption|omega|app1+omega _" "h' F' N'"
local macro_rules | `(tactic| walk_at "subscriptTail") => ln ``itemLast "k_asm k_mem _" "" false
local macro_rules | `(tactic| walk_at "eval Name") => ln ``nameX_L "k_asm rfl|assumption _" ""
local macro_rules | `(tactic| k_all) => prem "assumption"
theorem piece_apd {w : World} {mg mb : Str → Option Value} {means : ExcName → Option Value} {dp un : Nat} {fr : Option (List Env)} {gu : Option (List Code)} {s : Shared} {h₀ : Heap} {L I Ds D lp a : Addr} {m : Str → Option Value} {T : List (Addr × Obj)} {Q : Flow → Shared → Prop} {oI oDs oD oc : Obj} {vs ws : List Value} {n k : Nat} {x kd : Int} {tx tk : Tok}
    (F : Fr h₀ L s.heap m) (N : News h₀ L s.heap ((I, oI) :: (Ds, oDs) :: (lp, W.listOf (vs ++ [Value.ref a]).toArray n) :: (L + 1, oc) :: (D, oD) :: (a, W.listOf ws.toArray k) :: T)) (T' : Top q (looseW q loose) means mg mb h₀) (hc : oc.data = .cell (some (.ref lp)))
    (z : AllNe a [(I, oI), (Ds, oDs), (lp, oI), (L + 1, oc), (D, oD)]) (zT : AllNe a T) (hz : ws.length < 2 ^ 24) (mx : m (Str.ofString "x") = some (.int x tx)) (mk : m (Str.ofString "kind") = some (.int kd tk))
    (hQ : ∀ h' tk z tz, Fr h₀ L h' m → News h₀ L h' ((I, oI) :: (Ds, oDs) :: (lp, W.listOf (vs ++ [Value.ref a]).toArray n) :: (L + 1, oc) :: (D, oD) :: (a, W.listOf (ws ++ [Value.int z tz]).toArray (k + 1)) :: T) → Q .next { s with heap := h', toks := tk }) :
    (K w.params).In h₀ → PySem.Challenge.rw_dm0054_12.prog = pw → wpAny (model pw w) (Around.mk none dp fr gu un) (exec (stAt (forBody (stAt (fnBody (top 9)) 3)) 1) (lawEnv L)) Q (fun _ _ => False) s := by
  obtain ⟨z1, z2, z3, z4, z5, _⟩ := z
  dsimp only at z1 z2 z3 z4 z5
  have zT' := ne_of_allNe zT
  k_fill
  intro X' hpw
  refine wpAny_Expr ?_
  k_steps
  all_goals exact hQ _ _ _ _ (by assumption) (by assumption)
theorem mix_new {α : Type} {x y a b c d e : α} {T : List α} : ∀ p ∈ a :: b :: c :: d :: e :: x :: T, p ∈ x :: y :: a :: b :: c :: d :: e :: T := by
  intro p hp; simp only [List.mem_cons] at hp ⊢; grind
theorem ne5 {x a b c d e : Nat} {o1 o2 o3 o4 o5 : Obj} (h1 : a < x) (h2 : b < x) (h3 : c < x) (h4 : d < x) (h5 : e < x) : AllNe x [(a, o1), (b, o2), (c, o3), (d, o4), (e, o5)] := ⟨Nat.ne_of_lt h1, Nat.ne_of_lt h2, Nat.ne_of_lt h3, Nat.ne_of_lt h4, Nat.ne_of_lt h5, trivial⟩
inductive PIf (ps : List (List Int)) (ps' : List (List Int)) (p : List Int) : Prop
  | new : ps' = ps → p = [] → PIf ps ps' p
  | old : ps = ps' ++ [p] → PIf ps ps' p
theorem piece_if {w : World} {mg mb : Str → Option Value} {means : ExcName → Option Value} {dp un : Nat} {fr : Option (List Env)} {gu : Option (List Code)} {s : Shared} {h₀ : Heap} {L I Ds D lp : Addr} {m : Str → Option Value} {T : List (Addr × Obj)} {Q : Flow → Shared → Prop} {oI oDs oD oc : Obj} {vs : List Value} {ps : List (List Int)} {n : Nat} {x : Int} {tx : Tok}
    (F : Fr h₀ L s.heap m) (N : News h₀ L s.heap ((I, oI) :: (Ds, oDs) :: (lp, W.listOf vs.toArray n) :: (L + 1, oc) :: (D, oD) :: T)) (T' : Top q (looseW q loose) means mg mb h₀) (hc : oc.data = .cell (some (.ref lp))) (pl : PL T vs ps)
    (z : AllNe lp [(I, oI), (Ds, oDs), (L + 1, oc), (D, oD)]) (zT : AllNe lp T) (z0 : ∀ a o, (a, o) ∈ T → AllNe a [(I, oI), (Ds, oDs), (lp, oI), (L + 1, oc), (D, oD)]) (hz : vs.length < 2 ^ 20) (mx : m (Str.ofString "x") = some (.int x tx)) (hu : un + 64 < cLine)
    (hQ : ∀ h' tk vs' n' ps' T' a ws k p, Fr h₀ L h' m → News h₀ L h' ((I, oI) :: (Ds, oDs) :: (lp, W.listOf (vs' ++ [Value.ref a]).toArray n') :: (L + 1, oc) :: (D, oD) :: (a, W.listOf ws.toArray k) :: T') → PL T' vs' ps' → AllNe a T' → IntsAre ws p → AllNe a [(I, oI), (Ds, oDs), (lp, oI), (L + 1, oc), (D, oD)] → (∀ q ∈ T', q ∈ T) → PIf ps ps' p → Q .next { s with heap := h', toks := tk }) :
    (K w.params).In h₀ → PySem.Challenge.rw_dm0054_12.prog = pw → wpAny (model pw w) (Around.mk none dp fr gu un) (exec (stAt (forBody (stAt (fnBody (top 9)) 3)) 0) (lawEnv L)) Q (fun _ _ => False) s := by
  obtain ⟨z1, z2, z4, z5, _⟩ := z
  dsimp only at z1 z2 z4 z5
  have zT' := ne_of_allNe zT
  k_fill
  intro X' hpw
  refine wpAny_If ?_
  k_steps
  unfold CmpStop
  rename Fr _ _ _ _ => F₂
  rename News _ _ _ _ => N₂
  refine pl_eq_nil N₂ (by k_mem) (by k_mem) pl (fun p hp => by simp only [List.mem_cons]; grind) hu ?_
  rcases pl with _ | @⟨T_, vs_, ps_, a, ws, k, p, pl, na, hI⟩
  · rw [pl_nil_eqv]
    k_steps
    rename Fr _ _ _ _ => F₃
    rename News _ _ _ _ => N₃
    rename _ ∧ _ ∧ _ ∧ _ ∧ _ ∧ _ => q
    exact hQ _ _ [] _ [] [] _ [] _ [] F₃ (news_sub N₃ mix_new) .nil trivial .nil (ne5 q.2.1 q.2.2.1 q.2.2.2.1 q.2.2.2.2.1 q.2.2.2.2.2) (fun _ h => h) (.new rfl rfl)
  · rw [pl_snoc_eqv]
    k_steps
    · rename Fr _ _ _ _ => F₃
      rename News _ _ _ _ => N₃
      rename _ ∧ _ ∧ _ ∧ _ ∧ _ ∧ _ ∧ _ ∧ _ => q
      exact hQ _ _ _ _ _ _ _ [] _ [] F₃ (news_sub N₃ mix_new) (.snoc a ws k p pl na hI) ⟨Nat.ne_of_lt q.2.2.2.2.2.2.1, allNe_lt q.2.2.2.2.2.2.2⟩ .nil (ne5 q.2.1 q.2.2.1 q.2.2.2.1 q.2.2.2.2.1 q.2.2.2.2.2.1) (fun _ h => h) (.new rfl rfl)
    · exact hQ _ _ vs_ _ ps_ T_ a ws k p F₂ (news_sub N₂ fun p hp => .tail _ hp) pl na hI (z0 _ _ (.head _)) (fun _ h => .tail _ h) (.old rfl)
inductive LInv (L lp D Ds : Addr) (oc oD oDs : Obj) (m0 : Str → Option Value) (i : Nat) (m₁ : Str → Option Value) : List (Addr × Obj) → Prop
  | mk (vs : List Value) (n : Nat) (ps : List (List Int)) (T : List (Addr × Obj)) : PL T vs ps → AllNe lp T → (∀ a o, (a, o) ∈ T → AllNe a [(Ds, oDs), (lp, oD), (L + 1, oc), (D, oD)]) → ps.length ≤ i → (∀ p ∈ ps, p ≠ [] ∧ p.length ≤ i) → (∀ y, y ≠ Str.ofString "x" → m₁ y = m0 y) →
      LInv L lp D Ds oc oD oDs m0 i m₁ ((Ds, oDs) :: (lp, W.listOf (List.toArray vs) n) :: (L + 1, oc) :: (D, oD) :: T)
local macro_rules | `(tactic| walk_at "exec If") => stop ``exec_stop
theorem pieces_for {w : World} {mg mb : Str → Option Value} {means : ExcName → Option Value} {dp un : Nat} {fr : Option (List Env)} {gu : Option (List Code)} {s : Shared} {h₀ : Heap} {L D lp : Addr} {m : Str → Option Value} {Q : Flow → Shared → Prop} {oc : Obj} {ws : List Value} {ns : List Int} {n0 nD_ : Nat} {kd : Int} {tk : Tok}
    (F : Fr h₀ L s.heap m) (N : News h₀ L s.heap [(lp, W.listOf ([] : List Value).toArray n0), (L + 1, oc), (D, W.listOf ws.toArray nD_)]) (T' : Top q (looseW q loose) means mg mb h₀) (hc : oc.data = .cell (some (.ref lp))) (hI : IntsAre ws ns) (hlen : ns.length ≤ 63)
    (z1 : @Ne Nat (L + 1) lp) (z2 : @Ne Nat D lp) (ms : m (Str.ofString "script") = some (.ref D)) (mk : m (Str.ofString "kind") = some (.int kd tk)) (hu : un + 64 < cLine)
    (hQ : ∀ h' tk m' vs n ps T, Fr h₀ L h' m' → News h₀ L h' ((lp, W.listOf (List.toArray vs) n) :: (L + 1, oc) :: (D, W.listOf ws.toArray nD_) :: T) → PL T vs ps → ps.length ≤ 62 → (∀ p ∈ ps, p ≠ [] ∧ p.length < ns.length) → (∀ y, y ≠ Str.ofString "x" → m' y = m y) → Q .next { s with heap := h', toks := tk }) :
    (K w.params).In h₀ → PySem.Challenge.rw_dm0054_12.prog = pw → wpAny (model pw w) (Around.mk none dp fr gu un) (exec (stAt (fnBody (top 9)) 3) (lawEnv L)) Q (fun _ _ => False) s := by
  k_fill
  intro X' hpw
  refine For_mine h₀ rfl rfl ?_
  k_steps
  rename_i Ds ws' h₁ F₁ N₁ hI' hC' hL' l1
  unfold IterStop
  have hwl := intsAre_len hI'
  refine iterL (LInv L lp D Ds oc _ _ m) rfl F₁ N₁ (.head _) ⟨[], n0, [], [], .nil, trivial, (fun _ _ h => nomatch h), Nat.le_refl _, (fun _ h => nomatch h), fun _ _ => rfl⟩ (by rintro i m₁ news₁ ⟨⟩; exact .head _) ?_ ?_
  · rintro I i v m₁ news₁ h tk oI hlt hv ⟨vs, n, ps, T, pl, y1, y2, b1, b2, hmm⟩ hoff F' N' QB hT
    clear F₁ N₁
    have hi : i < ws'.length := (List.getElem?_eq_some_iff.mp hv).1
    obtain ⟨tx, hx⟩ := intsAre_at hI' (j := i) (by exact (Nat.lt_of_lt_of_le hi (Nat.le_of_eq hwl)))
    rw [hv] at hx
    cases hx
    have hvl := pl.len
    have nD : @Ne Nat Ds I := hoff (Ds, _) (.head _)
    have nl : @Ne Nat lp I := hoff (lp, _) (.tail _ (.head _))
    have nc : @Ne Nat (L + 1) I := hoff (L + 1, _) (.tail _ (.tail _ (.head _)))
    have nd : @Ne Nat D I := hoff (D, _) (.tail _ (.tail _ (.tail _ (.head _))))
    have nT : ∀ p ∈ T, p.1 ≠ I := fun p hp => hoff p (.tail _ (.tail _ (.tail _ (.tail _ hp))))
    have yy : ∀ a o, (a, o) ∈ T → AllNe a [(I, oI), (Ds, W.listOf (List.toArray ws') 0), (lp, oI), (L + 1, oc), (D, W.listOf (List.toArray ws) nD_)] := fun a o hp => ⟨Ne.symm (nT _ hp), (y2 a o hp).1, (y2 a o hp).2.1, (y2 a o hp).2.2.1, (y2 a o hp).2.2.2.1, trivial⟩
    refine wpAny_execs_cons ?_
    refine piece_if F' N' T' hc pl ⟨Ne.symm nl, Ne.symm (Nat.ne_of_lt l1.1), z1, z2, trivial⟩ y1 yy (by (clear l1 hC' hu; lia)) rfl hu ?_ X' hpw
    intro h₂ tk₂ vs' n' ps' T₂ a ws₂ k p F₂ N₂ pl₂ na hI₂ za hsub hpf
    dsimp only
    refine wpAny_execs_cons ?_
    have hpl : p.length ≤ i := by
      rcases hpf with ⟨_, rfl⟩ | rfl
      · exact Nat.zero_le _
      · exact (b2 p (by simp)).2
    have hw2 := intsAre_len hI₂
    refine piece_apd F₂ N₂ T' hc za na (by (clear hvl b1 l1 hC' hu; lia)) rfl ((if_neg (by decide)).trans ((hmm _ (by decide)).trans mk)) ?_ X' hpw
    intro h₃ tk₃ z tz F₃ N₃
    dsimp only
    refine wpAny_execs_nil ?_
    refine hT _ _ ?_
    have na' := ne_of_allNe na
    refine TurnEnd.intro F₃ (news' := (Ds, _) :: (lp, W.listOf (List.toArray (vs' ++ [Value.ref a])) n') :: (L + 1, oc) :: (D, _) :: (a, W.listOf (List.toArray (ws₂ ++ [Value.int z tz])) (k + 1)) :: T₂) N₃ (fun q hq => ?_) (LInv.mk _ _ _ ((a, _) :: T₂) (.snoc a (ws₂ ++ [Value.int z tz]) _ (p ++ [z]) pl₂ na (ksk_snoc hI₂)) ⟨Ne.symm za.2.2.1, allNe_of fun q hq => ne_of_allNe y1 q (hsub q hq)⟩ (fun b o hb => ?_) ?_ ?_ ?_)
    · simp only [List.mem_cons] at hq
      rcases hq with rfl | rfl | rfl | rfl | rfl | hq
      · exact nD
      · exact nl
      · exact nc
      · exact nd
      · exact Ne.symm za.1
      · exact nT q (hsub q hq)
    · rcases List.mem_cons.mp hb with e | hb
      · cases e; exact ⟨za.2.1, za.2.2.1, za.2.2.2.1, za.2.2.2.2.1, trivial⟩
      · exact y2 b o (hsub _ hb)
    · rcases hpf with ⟨rfl, _⟩ | rfl
      · simp; exact b1
      · simp at b1 ⊢; lia
    · intro q hq
      rcases List.mem_append.mp hq with hq | hq
      · have : q ∈ ps := by
          rcases hpf with ⟨rfl, _⟩ | rfl
          · exact hq
          · exact List.mem_append_left _ hq
        exact ⟨(b2 q this).1, by have := (b2 q this).2; lia⟩
      · rw [List.mem_singleton.mp hq]; simp; exact hpl
    · intro y hy
      rw [if_neg hy]
      exact hmm y hy
  · rintro m₁ news₁ h tk ⟨vs, n, ps, T, pl, y1, y2, b1, b2, hmm⟩ F' N'
    have hw : ws'.length = ns.length - 1 := by exact (Nat.le_antisymm (Nat.le_trans (Nat.le_of_eq hwl) (Nat.le_of_eq hC')) (Nat.le_trans (Nat.le_of_eq hC'.symm) (Nat.le_of_eq hwl.symm)))
    refine hQ _ _ m₁ vs n ps T F' (news_sub N' fun q hq => .tail _ hq) pl (by (clear hwl l1 hL' hC' hu; omega)) (fun q hq => ⟨(b2 q hq).1, ?_⟩) hmm
    have h1 := (b2 q hq).2
    have h2 := List.length_pos_iff.mpr (b2 q hq).1
    (clear b1 hwl l1 hL' hC' hu hlen; omega)
end Mine
end
section
open PySem PySem.W PySem.Calls PyProof.Rows PyProof.Rows.LCg
set_option maxRecDepth 100000
set_option maxHeartbeats 4000000
set_option Elab.async false
set_option linter.unusedVariables false
namespace Mine
section
variable {prog : Program} {w : World} {A : Around} {R : Result → Shared → Prop} {E : Value → Shared → Prop} {s : Shared}
noncomputable abbrev lc2 (elt t0 i0 t1 i1 : Expr) (ifs1 : List Expr) (scope : Scope) (pos : Pos) : Expr := .ListComp elt [⟨t0, i0, [], 0⟩, ⟨t1, i1, ifs1, 0⟩] scope pos
theorem compTurn_outer (elt t0 i0 t1 i1 : Expr) (ifs1 : List Expr) (scope : Scope) (pos : Pos) (it acc : Value) (env : Env) :
    compTurn (lc2 elt t0 i0 t1 i1 ifs1 scope pos) 0 it acc env = (do
      standAt i0.pos
      match ← pyNext it with
      | none => pure (.done .next)
      | some v =>
        letOwnedTupleGo t0 it v
        assign t0 env v
        let x ← eval i1 env
        standAt i1.pos
        let x ← foldedSetIterable i1 env x
        let _ ← runOwn (.compStart (lc2 elt t0 i0 t1 i1 ifs1 scope pos) 1 (← holding [x] (pyIter x)) acc env) env
        again (.compLoop (lc2 elt t0 i0 t1 i1 ifs1 scope pos) 0 it acc env)) := by rfl
theorem compTurn_inner (elt t0 i0 t1 i1 : Expr) (ifs1 : List Expr) (scope : Scope) (pos : Pos) (it acc : Value) (env : Env) :
    compTurn (lc2 elt t0 i0 t1 i1 ifs1 scope pos) 1 it acc env = (do
      standAt i1.pos
      match ← pyNext it with
      | none => pure (.done .next)
      | some v =>
        letOwnedTupleGo t1 it v
        assign t1 env v
        let mut ok := true
        for c in ifs1 do
          if ok then ok ← isTrue c env (eval c env)
        if ok then
          (do let _ ← call (.builtin "list.append") [acc, ← eval elt env])
        again (.compLoop (lc2 elt t0 i0 t1 i1 ifs1 scope pos) 1 it acc env)) := by rfl
theorem outer_loop {elt t0 i0 t1 i1 : Expr} {ifs1 : List Expr} {scope : Scope} {pos : Pos} {it acc : Value} {env : Env} (hh : A.handled = none) (I : Nat → Shared → Prop)
    (turn : ∀ n s, I n s → wpAny (model prog w) A (pyNext it) (fun r s₁ => match r with
      | none => R (.ok .next) s₁
      | some v => wpAny (model prog w) A (assign t0 env v) (fun _ s₂ => wpAny (model prog w) A (eval i1 env) (fun x s₃ => wpAny (model prog w) A (pyIter x) (fun it1 s₄ =>
          codeAny (model prog w) A (.compStart (lc2 elt t0 i0 t1 i1 ifs1 scope pos) 1 it1 acc env) (fun r s₅ => match r with | .ok _ => ∃ m, m < n ∧ I m s₅ | .error _ => False) s₄)
          (notedBy (model prog w) A env fun e s' => R (.error e) s') s₃) (notedBy (model prog w) A env fun e s' => R (.error e) s') s₂) (notedBy (model prog w) A env fun e s' => R (.error e) s') s₁) (notedBy (model prog w) A env fun e s' => R (.error e) s') s)
    (n : Nat) (h : I n s) (ht : ∀ v, letOwnedTupleGo t0 it v = pure () := by intro _; rfl) (hs : ∀ x, foldedSetIterable i1 env x = pure x := by intro _; rfl) :
    codeAny (model prog w) A (.compLoop (lc2 elt t0 i0 t1 i1 ifs1 scope pos) 0 it acc env) R s := by
  refine codeAny_loop rfl I (fun n s hI => ?_) n h
  show wpAny _ A ((compTurn (lc2 elt t0 i0 t1 i1 ifs1 scope pos) 0 it acc env).onRaise (fun x => do noteFrame x env; theTreesLotGoes x)) _ _ s
  refine wpAny_noted ?_
  rw [compTurn_outer]
  refine wpAny_bind (wpAny_standAt (wpAny_bind (wpAny_mono (turn n s hI) (fun r s₁ h₁ => ?_) fun _ _ h' => h')))
  cases r with
  | none => exact wpAny_pure h₁
  | some v =>
    refine wpAny_bind (wpAny_of_eq (ht v) ?_)
    refine wpAny_bind (wpAny_mono h₁ (fun _ s₂ h₂ => ?_) fun _ _ h' => h')
    refine wpAny_bind (wpAny_mono h₂ (fun x s₃ h₃ => ?_) fun _ _ h' => h')
    refine wpAny_bind (wpAny_standAt (wpAny_bind (wpAny_of_eq (hs x) ?_)))
    refine wpAny_bind (wpAny_holding (wpAny_mono h₃ (fun it1 s₄ h₄ => ?_) fun _ _ h' => h'))
    have hm : A.mark none = A := by cases A; simp only at hh; subst hh; rfl
    refine wpAny_bind (wpAny_runOwn ?_)
    rw [hm]
    refine codeAny_mono h₄ (fun r s₅ h₅ => ?_)
    cases r with
    | ok f => exact wpAny_pure ⟨rfl, h₅⟩
    | error x => exact h₅.elim
theorem inner_start {elt t0 i0 t1 i1 : Expr} {ifs1 : List Expr} {scope : Scope} {pos : Pos} {it acc : Value} {env : Env}
    (h0 : codeAny (model prog w) A (.compLoop (lc2 elt t0 i0 t1 i1 ifs1 scope pos) 1 it acc env) R s)
    (h : wpAny (model prog w) A (pyIter it) (fun it' s' => codeAny (model prog w) A (.compLoop (lc2 elt t0 i0 t1 i1 ifs1 scope pos) 1 it' acc env) R s')
      (notedBy (model prog w) A env fun x s' => R (.error x) s') s) :
    codeAny (model prog w) A (.compStart (lc2 elt t0 i0 t1 i1 ifs1 scope pos) 1 it acc env) R s := by
  refine codeAny_of_tree ?_
  show wpAny _ _ ((compStart (lc2 elt t0 i0 t1 i1 ifs1 scope pos) 1 it acc env).onRaise (fun x => do noteFrame x env; standAt theWindowsPlace)) _ _ s
  refine wpAny_notedAt ?_
  unfold compStart
  show wpAny _ _ (ask >>= _) _ _ s
  refine wpAny_bind (wpAny_askSetting (wpAny_ite ?_))
  split
  · first
      | exact wpAny_bind (wpAny_pure (wpAny_pure (And.intro rfl h0)))
      | exact wpAny_pure (And.intro rfl h0)
  · refine wpAny_bind (wpAny_rule ?_)
    show wpAny _ _ (standAt i1.pos >>= _) _ _ s
    exact wpAny_bind (wpAny_standAt (wpAny_bind (wpAny_mono h (fun it' s' h' => wpAny_pure (And.intro rfl h')) fun _ _ x => x)))
theorem inner_loop {elt t0 i0 t1 i1 : Expr} {ifs1 : List Expr} {scope : Scope} {pos : Pos} {it acc : Value} {env : Env} (I : Nat → Shared → Prop)
    (turn : ∀ n s, I n s → wpAny (model prog w) A (pyNext it) (fun r s₁ => match r with
      | none => R (.ok .next) s₁
      | some v => wpAny (model prog w) A (assign t1 env v) (fun _ s₂ =>
          wpAny (model prog w) A (forIn ifs1 true fun c r => if r = true then do let ok ← isTrue c env (eval c env); pure (ForInStep.yield ok) else pure (ForInStep.yield r)) (fun ok s₃ =>
            if ok = true then wpAny (model prog w) A (eval elt env) (fun x s₄ =>
              wpAny (model prog w) A (call (.builtin "list.append") [acc, x]) (fun _ s₅ => ∃ m, m < n ∧ I m s₅) (notedBy (model prog w) A env fun e s' => R (.error e) s') s₄) (notedBy (model prog w) A env fun e s' => R (.error e) s') s₃
            else ∃ m, m < n ∧ I m s₃) (notedBy (model prog w) A env fun e s' => R (.error e) s') s₂) (notedBy (model prog w) A env fun e s' => R (.error e) s') s₁) (notedBy (model prog w) A env fun e s' => R (.error e) s') s)
    (n : Nat) (h : I n s) (ht : ∀ v, letOwnedTupleGo t1 it v = pure () := by intro _; rfl) :
    codeAny (model prog w) A (.compLoop (lc2 elt t0 i0 t1 i1 ifs1 scope pos) 1 it acc env) R s := by
  refine codeAny_loop rfl I (fun n s hI => ?_) n h
  show wpAny _ A ((compTurn (lc2 elt t0 i0 t1 i1 ifs1 scope pos) 1 it acc env).onRaise (fun x => do noteFrame x env; theTreesLotGoes x)) _ _ s
  refine wpAny_noted ?_
  rw [compTurn_inner]
  refine wpAny_bind (wpAny_standAt (wpAny_bind (wpAny_mono (turn n s hI) (fun r s₁ h₁ => ?_) fun _ _ h' => h')))
  cases r with
  | none => exact wpAny_pure h₁
  | some v =>
    refine wpAny_bind (wpAny_of_eq (ht v) ?_)
    refine wpAny_bind (wpAny_mono h₁ (fun _ s₂ h₂ => wpAny_bind (wpAny_mono h₂ (fun ok s₃ h₃ => ?_) fun _ _ h' => h')) fun _ _ h' => h')
    cases ok with
    | false => exact wpAny_pure ⟨rfl, h₃⟩
    | true =>
      exact wpAny_bind (wpAny_bind (wpAny_mono h₃ (fun x s₄ h₄ => wpAny_bind (wpAny_mono h₄ (fun _ s₅ h₅ => wpAny_pure (wpAny_pure ⟨rfl, h₅⟩)) fun _ _ h' => h')) fun _ _ h' => h'))
inductive Flat (P : Nat → Value → Prop) (its : Value → List Value) (p : Value → Value → Bool) (G : Value → Value → Value → Prop) : Nat → List Value → Prop
  | zero : Flat P its p G 0 []
  | succ {i : Nat} {ys zs : List Value} {v : Value} : Flat P its p G i ys → P i v → Paired (G v) ((its v).filter (p v)) zs → Flat P its p G (i + 1) (ys ++ zs)
inductive Then2 {α : Type} (c : α → Prop) (h₀ : Heap) (L : Addr) (m : Str → Option Value) (s : Shared) (all : List (Addr × Obj)) (x : α) : Shared → Prop
  | mk (h : Heap) (tk : Nat) : c x → Fr h₀ L h m → News h₀ L h all → Then2 c h₀ L m s all x { s with heap := h, toks := tk }
structure Leaf2 (prog : Program) (w : World) (A : Around) (h₀ : Heap) (L : Addr) (m : Str → Option Value) (env : Env) (elt i1 : Expr) (ifs1 : List Expr) (x0 x1 : Str) (scope : Scope) (cl : List (Str × Addr)) (s : Shared) (news : List (Addr × Obj)) (P : Nat → Value → Prop) (its : Value → List Value) (p : Value → Value → Bool) (G : Value → Value → Value → Prop) : Prop where
  it : ∀ i v I oI C oC D oD m₂ h tk (E' : Value → Shared → Prop), P i v → NsObj oC m₂ → m₂ x0 = some v → Fr h₀ L h m → News h₀ L h ((I, oI) :: (C, oC) :: (D, oD) :: news) →
        wpAny (model prog w) A (eval i1 (compEnvC scope cl C env)) (Then2 (fun x => ∃ l k, x = .ref l ∧ (l, W.listOf (its v).toArray k) ∈ news) h₀ L m s ((I, oI) :: (C, oC) :: (D, oD) :: news)) E' { s with heap := h, toks := tk }
  test : ∀ i v u I oI J oJ C oC D oD m₂ h tk (E' : Value → Shared → Prop), P i v → u ∈ its v → NsObj oC m₂ → m₂ x0 = some v → m₂ x1 = some u → Fr h₀ L h m → News h₀ L h ((I, oI) :: (J, oJ) :: (C, oC) :: (D, oD) :: news) →
        wpAny (model prog w) A (forIn ifs1 true fun c r => if r = true then do let ok ← isTrue c (compEnvC scope cl C env) (eval c (compEnvC scope cl C env)); pure (ForInStep.yield ok) else pure (ForInStep.yield r))
          (Then2 (fun ok => ok = p v u) h₀ L m s ((I, oI) :: (J, oJ) :: (C, oC) :: (D, oD) :: news)) E' { s with heap := h, toks := tk }
  elt : ∀ i v u I oI J oJ C oC D oD m₂ h tk (E' : Value → Shared → Prop), P i v → u ∈ its v → p v u = true → NsObj oC m₂ → m₂ x0 = some v → m₂ x1 = some u → Fr h₀ L h m → News h₀ L h ((I, oI) :: (J, oJ) :: (C, oC) :: (D, oD) :: news) →
        wpAny (model prog w) A (eval elt (compEnvC scope cl C env)) (Then2 (G v u) h₀ L m s ((I, oI) :: (J, oJ) :: (C, oC) :: (D, oD) :: news)) E' { s with heap := h, toks := tk }
structure Iter2 (prog : Program) (w : World) (A : Around) (h₀ : Heap) (L I : Addr) (fp : List Addr) (n : Nat) (P : Nat → Value → Prop) (St : Nat → Heap → Prop) (news : List (Addr × Obj)) : Prop where
  W : Walks prog w A I fp [I] n P St
  ob : ∀ i h, St i h → ∃ o, h.get? I = some o
  st : ∀ i h h' o, St i h → h.get? I = some o → h'.get? I = some o → (∀ b o, h₀.get? b = some o → h'.get? b = some o) → News h₀ L h' news → St i h'
  ne : I ≠ L
  no : h₀.get? I = none
inductive Src2 (prog : Program) (w : World) (A : Around) (h₀ : Heap) (L : Addr) (m : Str → Option Value) (env : Env) (elt i1 : Expr) (ifs1 : List Expr) (x0 x1 : Str) (scope : Scope) (cl : List (Str × Addr)) (Fin : Shared → List Value → List (Addr × Obj) → Prop) : Value → Shared → Prop
  | mk (s : Shared) (H : Heap) (tk : Nat) (I : Addr) (fp : List Addr) (n : Nat) (P P' : Nat → Value → Prop) (St : Nat → Heap → Prop) (news : List (Addr × Obj)) (its : Value → List Value) (p : Value → Value → Bool) (G : Value → Value → Value → Prop) :
      A.handled = none → Iter2 prog w A h₀ L I fp n P St news → St 0 H → (∀ b ∈ fp, b < H.objs.size) → Fr h₀ L H m → News h₀ L H news → (∀ q ∈ news, q.1 ≠ I) → n ≤ 64 → (∀ i v, P i v → P' i v) → (∀ i v, P' i v → (its v).length ≤ 64) →
      Leaf2 prog w A h₀ L m env elt i1 ifs1 x0 x1 scope cl s news P' its p G →
      (∀ ys, ys.length ≤ 4096 → Flat P' its p G n ys → Fin { s with heap := H, toks := tk } ys news) → Src2 prog w A h₀ L m env elt i1 ifs1 x0 x1 scope cl Fin (.ref I) { s with heap := H, toks := tk }
noncomputable def It2 (prog : Program) (w : World) (A : Around) (x : Value) (Q : Value → Shared → Prop) (E : Value → Shared → Prop) (s : Shared) : Prop := wpAny (model prog w) A (pyIter x) Q E s
inductive OInv2 (h₀ : Heap) (L C D : Addr) (m : Str → Option Value) (s₂ : Shared) (n : Nat) (P : Nat → Value → Prop) (St : Nat → Heap → Prop) (news : List (Addr × Obj)) (its : Value → List Value) (p : Value → Value → Bool) (G : Value → Value → Value → Prop) (k : Nat) : Shared → Prop
  | mk (h : Heap) (tk i : Nat) (ys : List Value) (m' : Str → Option Value) : i ≤ n → k = n + 1 - i → St i h → Fr h₀ L h m → h.Ns C m' → News h₀ L h ((D, LCg.lst ys) :: news) → Flat P its p G i ys → ys.length ≤ 64 * i → OInv2 h₀ L C D m s₂ n P St news its p G k { s₂ with heap := h, toks := tk }
inductive IInv2 (h₀ : Heap) (L C D J l2 : Addr) (m : Str → Option Value) (s₂ : Shared) (S : Heap → Prop) (news : List (Addr × Obj)) (us : List Value) (p : Value → Bool) (G : Value → Value → Prop) (x0 : Str) (v : Value) (ys : List Value) (k : Nat) : Shared → Prop
  | mk (h : Heap) (tk j : Nat) (zs : List Value) (m' : Str → Option Value) : j ≤ us.length → k = us.length + 1 - j → h.IsListIter J l2 j → S h → Fr h₀ L h m → h.Ns C m' → m' x0 = some v → News h₀ L h ((D, LCg.lst (ys ++ zs)) :: news) → Paired G ((us.take j).filter p) zs → zs.length ≤ j → IInv2 h₀ L C D J l2 m s₂ S news us p G x0 v ys k { s₂ with heap := h, toks := tk }
end
section
variable {prog : Program} {w : World} {A : Around} {R : Result → Shared → Prop} {E : Value → Shared → Prop} {s : Shared} {h₀ : Heap} {L : Addr} {m : Str → Option Value} {env : Env}
theorem off1_of {D : Addr} : ∀ {l : List (Addr × Obj)}, (∀ p ∈ l, p.1 ≠ D) → Off1 D l
  | [], _ => trivial
  | _ :: _, h => ⟨h _ (.head _), off1_of fun p hp => h p (.tail _ hp)⟩
structure Spots (h₀ : Heap) (L I C D : Addr) (fp : List Addr) (news : List (Addr × Obj)) : Prop where
  cl : C ≠ L
  c0 : h₀.get? C = none
  dl : D ≠ L
  d0 : h₀.get? D = none
  dc : D ≠ C
  ic : I ≠ C
  id : I ≠ D
  cf : C ∉ fp
  df : D ∉ fp
  off : ∀ q ∈ news, q.1 ≠ I ∧ q.1 ≠ C ∧ q.1 ≠ D
theorem news_cons {h : Heap} {b : Addr} {o : Obj} {news : List (Addr × Obj)} (h1 : h.get? b = some o) (h2 : b ≠ L) (h3 : h₀.get? b = none) (N : News h₀ L h news) : News h₀ L h ((b, o) :: news) := List.forall_mem_cons.mpr ⟨⟨h1, h2, h3⟩, N⟩
theorem Spots.offD {I C D : Addr} {o : Obj} {fp : List Addr} {news : List (Addr × Obj)} (S : Spots h₀ L I C D fp news) : ∀ q ∈ (D, o) :: news, q.1 ≠ I ∧ q.1 ≠ C := List.forall_mem_cons.mpr ⟨⟨Ne.symm S.id, S.dc⟩, fun q hq => ⟨(S.off q hq).1, (S.off q hq).2.1⟩⟩
theorem inner2 {elt i0 i1 : Expr} {ifs1 : List Expr} {x0 x1 : Str} {px0 px1 : Pos} {scope : Scope} {cl : List (Str × Addr)} {pos : Pos} {I J C D l2 : Addr} {fp : List Addr} {n i : Nat} {P P' : Nat → Value → Prop} {St : Nat → Heap → Prop} {news : List (Addr × Obj)} {its : Value → List Value} {p : Value → Value → Bool} {G : Value → Value → Value → Prop} {v : Value} {ys : List Value} {h : Heap} {tk k2 : Nat} {m₀ : Str → Option Value} {Q : Shared → Prop}
    (hkind : scope.kind = .function) (hx1 : scope.names.lookup x1 = some .local) (hne : x0 ≠ x1) (hh : A.handled = none) (T : Iter2 prog w A h₀ L I fp n P St news) (S : Spots h₀ L I C D fp news) (lf : Leaf2 prog w A h₀ L m env elt i1 ifs1 x0 x1 scope cl s news P' its p G) (hPv : P' i v) (hits : (its v).length ≤ 64) (hyl : ys.length ≤ 64 * i) (hi : i < 64)
    (hl2 : (l2, W.listOf (its v).toArray k2) ∈ news) (hJL : J ≠ L) (hJ₀ : h₀.get? J = none) (hJC : C ≠ J) (hJn : ∀ q ∈ (D, LCg.lst ys) :: news, q.1 ≠ J) (hJf : J ∉ fp) (hit : h.IsListIter J l2 0) (hst : St (i + 1) h) (F : Fr h₀ L h m) (hn : h.Ns C m₀) (hx : m₀ x0 = some v) (N : News h₀ L h ((D, LCg.lst ys) :: news))
    (hQ : ∀ h tk m' zs, St (i + 1) h → Fr h₀ L h m → h.Ns C m' → News h₀ L h ((D, LCg.lst (ys ++ zs)) :: news) → Paired (G v) ((its v).filter (p v)) zs → zs.length ≤ 64 → Q { s with heap := h, toks := tk }) :
    codeAny (model prog w) A (.compLoop (lc2 elt (.Name x0 px0) i0 (.Name x1 px1) i1 ifs1 scope pos) 1 (.ref J) (.ref D) (compEnvC scope cl C env)) (fun r s₅ => match r with | .ok _ => Q s₅ | .error _ => False) { s with heap := h, toks := tk } := by
  have W2 := Walks.list (prog := prog) (w := w) hh J l2 (hJn _ (.tail _ hl2)) (its v).toArray
  refine inner_loop (IInv2 h₀ L C D J l2 m s (St (i + 1)) news (its v) (p v) (G v) x0 v ys) ?_ ((its v).length + 1) (.mk h tk 0 [] m₀ (Nat.zero_le _) rfl hit hst F hn hx (by rw [List.append_nil]; exact N) .nil (Nat.le_refl _))
  clear hit hst F hn hx N
  intro k s₇ hI
  cases hI with
  | mk h₇ tk₇ j zs m₇ hj hk hit₇ hst₇ F₇ hn₇ hx₇ N₇ hpr hzl =>
  subst hk
  have hJn₇ : ∀ q ∈ (D, LCg.lst (ys ++ zs)) :: news, q.1 ≠ J := List.forall_mem_cons.mpr ⟨hJn (D, LCg.lst ys) (.head _), fun q hq => hJn q (.tail _ hq)⟩
  have hls₇ : h₇.IsList l2 (its v).toArray := N₇.isList (.tail _ hl2)
  by_cases hjlt : j < (its v).length
  · refine W2.item j _ _ _ hjlt ⟨hit₇, hls₇⟩ fun u h₈ tk₈ hu hit₈ hk₈ => ?_
    have hu' : (its v)[j]? = some u := (List.getElem?_toArray ..).symm.trans hu
    have hum : u ∈ its v := List.mem_of_getElem? hu'
    have etake : ((its v).take (j + 1)).filter (p v) = ((its v).take j).filter (p v) ++ [u].filter (p v) := by rw [← List.filter_append, List.take_add_one, hu']; rfl
    refine wpAny_assign_Name (wpAny_storeName_local (lookup_relabel_local hx1) (hn₇.at' fun o e => hk₈ _ o (fun q => hJC (List.mem_singleton.mp q)) e) (fun h₉ hn₉ hs₉ => ?_) (by simp only [compEnvC, relabel, hkind]; rfl))
    have hst₉ : St (i + 1) h₉ := T.W.frame _ _ _ hst₇ fun b hb o e => hs₉.extBut b o (fun q => S.cf ((show b = C from q) ▸ hb)) (hk₈ b o (fun q => hJf (List.mem_singleton.mp q ▸ hb)) e)
    obtain ⟨oI₉, heI₉⟩ := T.ob _ _ hst₉
    obtain ⟨oC₉, heC₉, hoC₉⟩ := ns_obj hn₉
    obtain ⟨oJ, heJ, hoJ⟩ := hit₈.1
    have F₉ : Fr h₀ L h₉ m := (fr_but F₇ hk₈ hJL.symm hJ₀).change hs₉ S.cl S.c0
    have N₈ : News h₀ L h₈ ((D, LCg.lst (ys ++ zs)) :: news) := news_but N₇ hk₈ hJn₇
    have N₉ : News h₀ L h₉ ((I, oI₉) :: (J, oJ) :: (C, oC₉) :: (D, LCg.lst (ys ++ zs)) :: news) := news_cons heI₉ T.ne T.no (news_cons (hs₉.extBut _ _ (Ne.symm hJC) heJ) hJL hJ₀ (news_cons heC₉ S.cl S.c0 fun q hq => ⟨hs₉.extBut _ _ (S.offD q hq).2 (N₈ q hq).1, (N₈ q hq).2⟩))
    have hx0₉ : (fun y => if y = x1 then some u else m₇ y) x0 = some v := (if_neg hne).trans hx₇
    have hx1₉ : (fun y => if y = x1 then some u else m₇ y) x1 = some u := if_pos rfl
    refine wpAny_mono (lf.test i v u I oI₉ J oJ C oC₉ D _ _ h₉ _ _ hPv hum hoC₉ hx0₉ hx1₉ F₉ N₉) (fun ok s₁₀ q₁₀ => ?_) fun _ _ e => e
    clear hn₇ F₇ N₇ N₈ N₉ F₉ hit₇ hst₇ hls₇ hk₈ hs₉ hit₈ hu hn₉
    cases q₁₀ with
    | mk hA tkA hok FA NA =>
    subst hok
    have hstA : St (i + 1) hA := T.st _ _ _ _ hst₉ heI₉ (NA _ (.head _)).1 FA.keep fun q hq => NA q (.tail _ (.tail _ (.tail _ (.tail _ hq))))
    cases hpv : p v u with
    | false =>
      refine ⟨_, Nat.sub_lt_sub_left (Nat.lt_succ_of_lt hjlt) (Nat.lt_succ_self j), .mk hA tkA (j + 1) zs _ hjlt rfl ⟨oJ, (NA _ (.tail _ (.head _))).1, hoJ⟩ hstA FA (hoC₉.ns (NA _ (.tail _ (.tail _ (.head _)))).1) hx0₉ (fun q hq => NA q (.tail _ (.tail _ (.tail _ hq)))) ?_ (Nat.le_succ_of_le hzl)⟩
      rw [etake, List.filter_cons_of_neg (by rw [hpv]; exact Bool.false_ne_true), List.filter_nil, List.append_nil]
      exact hpr
    | true =>
      refine wpAny_mono (lf.elt i v u I oI₉ J oJ C oC₉ D _ _ hA _ _ hPv hum hpv hoC₉ hx0₉ hx1₉ FA NA) (fun y s₁₁ q₁₁ => ?_) fun _ _ e => e
      cases q₁₁ with
      | mk hB tkB hG FB NB =>
      have hstB : St (i + 1) hB := T.st _ _ _ _ hstA (NA _ (.head _)).1 (NB _ (.head _)).1 FB.keep fun q hq => NB q (.tail _ (.tail _ (.tail _ (.tail _ hq))))
      have zD := (NB (D, LCg.lst (ys ++ zs)) (.tail _ (.tail _ (.tail _ (.head _))))).1
      refine append_at (hsz := by show (ys ++ zs).toArray.size ≤ sizeLine; rw [List.size_toArray, List.length_append]; unfold sizeLine; omega) zD fun hE hsE hDE => ?_
      refine ⟨_, Nat.sub_lt_sub_left (Nat.lt_succ_of_lt hjlt) (Nat.lt_succ_self j), .mk hE tkB (j + 1) (zs ++ [y]) _ hjlt rfl ⟨oJ, hsE.extBut _ _ (hJn (D, LCg.lst ys) (.head _)).symm (NB _ (.tail _ (.head _))).1, hoJ⟩ (T.W.frame _ _ _ hstB fun b hb o e => hsE.extBut b o (fun q => S.df (q ▸ hb)) e) (FB.change hsE S.dl S.d0)
        ((hoC₉.ns (NB _ (.tail _ (.tail _ (.head _)))).1).sameBut hsE (Ne.symm S.dc)) hx0₉ (news_cons (hDE.trans (congrArg some ((lst_snoc (ys ++ zs) y).trans (by rw [List.append_assoc])))) S.dl S.d0 fun q hq => ?_) ?_ (by rw [List.length_append]; exact Nat.succ_le_succ hzl)⟩
      · have z := NB q (.tail _ (.tail _ (.tail _ (.tail _ hq))))
        exact ⟨hsE.extBut _ _ (S.off q hq).2.2 z.1, z.2⟩
      · rw [etake, List.filter_cons_of_pos hpv, List.filter_nil]
        exact Paired.snoc hpr hG
  · obtain rfl : j = (its v).length := Nat.le_antisymm hj (Nat.not_lt.mp hjlt)
    refine W2.done _ _ _ ⟨hit₇, hls₇⟩ fun h₈ tk₈ hk₈ => ?_
    rw [List.take_length] at hpr
    exact hQ h₈ tk₈ m₇ zs (T.W.frame _ _ _ hst₇ fun b hb o e => hk₈ b o (fun q => hJf (List.mem_singleton.mp q ▸ hb)) e) (fr_but F₇ hk₈ hJL.symm hJ₀) (hn₇.at' fun o e => hk₈ _ o (fun q => hJC (List.mem_singleton.mp q)) e) (news_but N₇ hk₈ hJn₇) hpr (Nat.le_trans hzl hits)
theorem outer2 {elt i0 i1 : Expr} {ifs1 : List Expr} {x0 x1 : Str} {px0 px1 : Pos} {scope : Scope} {cl : List (Str × Addr)} {pos : Pos} {I C D : Addr} {fp : List Addr} {n : Nat} {P P' : Nat → Value → Prop} {St : Nat → Heap → Prop} {news : List (Addr × Obj)} {its : Value → List Value} {p : Value → Value → Bool} {G : Value → Value → Value → Prop} {h : Heap} {tk : Nat} {m₀ : Str → Option Value} {R : Result → Shared → Prop}
    (hkind : scope.kind = .function) (hx0 : scope.names.lookup x0 = some .local) (hx1 : scope.names.lookup x1 = some .local) (hne : x0 ≠ x1) (hs1 : ∀ C x, foldedSetIterable i1 (compEnvC scope cl C env) x = pure x) (hh : A.handled = none) (T : Iter2 prog w A h₀ L I fp n P St news) (S : Spots h₀ L I C D fp news) (lf : Leaf2 prog w A h₀ L m env elt i1 ifs1 x0 x1 scope cl s news P' its p G)
    (hPP : ∀ i v, P i v → P' i v) (hits : ∀ i v, P' i v → (its v).length ≤ 64) (hn64 : n ≤ 64) (hfp : ∀ b ∈ fp, b ≤ D) (hst : St 0 h) (F : Fr h₀ L h m) (hn : h.Ns C m₀) (N : News h₀ L h ((D, LCg.lst []) :: news))
    (hR : ∀ h tk m' ys, Fr h₀ L h m → News h₀ L h ((D, LCg.lst ys) :: news) → h.Ns C m' → ys.length ≤ 4096 → Flat P' its p G n ys → R (.ok .next) { s with heap := h, toks := tk }) :
    codeAny (model prog w) A (.compLoop (lc2 elt (.Name x0 px0) i0 (.Name x1 px1) i1 ifs1 scope pos) 0 (.ref I) (.ref D) (compEnvC scope cl C env)) R { s with heap := h, toks := tk } := by
  refine outer_loop hh (OInv2 h₀ L C D m s n P' St news its p G) ?_ (n + 1) (.mk h tk 0 [] m₀ (Nat.zero_le _) rfl hst F hn N .zero (Nat.le_refl _)) (by intro _; rfl) (hs1 C)
  clear hst F hn N
  intro k s' hI
  cases hI with
  | mk h' tk i ys m' hi hk hst' F' hn' N' hfl hyl =>
  subst hk
  by_cases hlt : i < n
  · refine T.W.item i _ _ _ hlt hst' fun v h₂ tk₂ hPv hst₂ hk₂ => ?_
    replace hPv := hPP i v hPv
    refine wpAny_assign_Name (wpAny_storeName_local (lookup_relabel_local hx0) (hn'.at' fun o e => hk₂ _ o (fun q => S.ic (List.mem_singleton.mp q).symm) e) (fun h₃ hn₃ hs₃ => ?_) (by simp only [compEnvC, relabel, hkind]; rfl))
    have hst₃ : St (i + 1) h₃ := T.W.frame _ _ _ hst₂ fun b hb o e => hs₃.extBut b o (fun q => S.cf ((show b = C from q) ▸ hb)) e
    obtain ⟨oI, heI⟩ := T.ob _ _ hst₃
    obtain ⟨oC, heC, hoC⟩ := ns_obj hn₃
    have F₃ : Fr h₀ L h₃ m := (fr_but F' hk₂ T.ne.symm T.no).change hs₃ S.cl S.c0
    have N₂ : News h₀ L h₂ ((D, LCg.lst ys) :: news) := news_but N' hk₂ fun q hq => (S.offD q hq).1
    refine wpAny_mono (lf.it i v I oI C oC D (LCg.lst ys) _ h₃ _ _ hPv hoC (if_pos rfl) F₃ (news_cons heI T.ne T.no (news_cons heC S.cl S.c0 fun q hq => ⟨hs₃.extBut _ _ (S.offD q hq).2 (N₂ q hq).1, (N₂ q hq).2⟩))) (fun x s₄ h₄ => ?_) fun _ _ e => e
    clear hn' F' N' N₂ F₃ hk₂ hs₃ hst' hst₂ hn₃
    cases h₄ with
    | mk h₄ tk₄ hx F₄ N₄ =>
    obtain ⟨l2, k2, rfl, hl2⟩ := hx
    have hst₄ : St (i + 1) h₄ := T.st _ _ _ _ hst₃ heI (N₄ _ (.head _)).1 F₄.keep fun q hq => N₄ q (.tail _ (.tail _ (.tail _ hq)))
    have hn₄ : h₄.Ns C _ := hoC.ns (N₄ _ (.tail _ (.head _))).1
    refine wpAny_pyIter_list (N₄.isList (.tail _ (.tail _ (.tail _ hl2)))) ?_
    have hJlt : ∀ b o, h₄.get? b = some o → b ≠ h₄.objs.size := fun b o e => Nat.ne_of_lt (Heap.lt_size e)
    have up : ∀ b o, h₄.get? b = some o → (h₄.push { cls := .type "list_iterator", data := .fields #[.ref l2, .int 0 0] }).get? b = some o := fun b o e => Heap.get?_push_of_some _ e
    have hit0 : (h₄.push { cls := .type "list_iterator", data := .fields #[.ref l2, .int 0 0] }).IsListIter h₄.objs.size l2 0 := ⟨_, Heap.get?_push_size _ rfl, rfl, rfl⟩
    have N₅ : News h₀ L (h₄.push { cls := .type "list_iterator", data := .fields #[.ref l2, .int 0 0] }) ((D, LCg.lst ys) :: news) := fun q hq => have z := N₄ q (.tail _ (.tail _ hq)); ⟨up _ _ z.1, z.2⟩
    have lp := inner2 (i0 := i0) (px0 := px0) (px1 := px1) (pos := pos) (tk := tk₄) (Q := fun s₅ => ∃ m_1, m_1 < n + 1 - i ∧ OInv2 h₀ L C D m s n P' St news its p G m_1 s₅) hkind hx1 hne hh T S lf hPv (hits i v hPv) hyl (Nat.lt_of_lt_of_le hlt hn64) hl2 (Nat.ne_of_gt F₄.ns.lt) (next_is_new F₄) (hJlt _ _ (N₄ _ (.tail _ (.head _))).1) (fun q hq => hJlt _ _ (N₄ q (.tail _ (.tail _ hq))).1)
      (fun hm => Nat.lt_irrefl _ (Nat.lt_of_le_of_lt (hfp _ hm) (Heap.lt_size (N₄ _ (.tail _ (.tail _ (.head _)))).1))) hit0 (T.W.frame _ _ _ hst₄ fun b _ o e => up b o e) (F₄.keeps up) (hn₄.keeps up) (if_pos rfl) N₅
      fun h₈ tk₈ m₇ zs a b c d e f => ⟨_, Nat.sub_lt_sub_left (Nat.lt_succ_of_lt hlt) (Nat.lt_succ_self i), .mk h₈ tk₈ (i + 1) (ys ++ zs) m₇ hlt rfl a b c d (.succ hfl hPv e) (by rw [List.length_append]; exact Nat.add_le_add hyl f)⟩
    exact inner_start lp ((Walks.list (prog := prog) (w := w) hh h₄.objs.size l2 (hJlt _ _ (N₄ _ (.tail _ (.tail _ (.tail _ hl2)))).1) (its v).toArray).self 0 _ _ _ ⟨hit0, N₅.isList (.tail _ hl2)⟩ lp)
  · obtain rfl : i = n := Nat.le_antisymm hi (Nat.not_lt.mp hlt)
    refine T.W.done _ _ _ hst' fun h₂ tk₂ hk₂ => ?_
    exact hR h₂ tk₂ m' ys (fr_but F' hk₂ T.ne.symm T.no) (news_but N' hk₂ fun q hq => (S.offD q hq).1) (hn'.at' fun o e => hk₂ _ o (fun q => S.ic (List.mem_singleton.mp q).symm) e) (Nat.le_trans hyl (Nat.mul_le_mul_left 64 hn64)) hfl
theorem block2 {elt i0 i1 : Expr} {ifs1 : List Expr} {x0 x1 : Str} {px0 px1 : Pos} {scope : Scope} {cl : List (Str × Addr)} {pos : Pos} {it : Value} {s₂ : Shared} {Fin : Shared → List Value → List (Addr × Obj) → Prop} {RR : Value → Addr → Result → Shared → Prop}
    (hcell : ∀ y ∈ scope.names, y.2 ≠ .cell) (hkind : scope.kind = .function) (hx0 : scope.names.lookup x0 = some .local) (hx1 : scope.names.lookup x1 = some .local) (hne : x0 ≠ x1) (hs1 : ∀ C x, foldedSetIterable i1 (compEnvC scope cl C env) x = pure x)
    (h₂ : Src2 prog w A h₀ L m env elt i1 ifs1 x0 x1 scope cl Fin it s₂)
    (hRR : ∀ D C h tk m' ys news, Fr h₀ L h m → News h₀ L h ((D, LCg.lst ys) :: news) → Off1 D news → h.Ns C m' → h₀.get? C = none → C ≠ L → C ≠ D → (∀ p ∈ news, p.1 ≠ C) → Fin s₂ ys news → RR (.ref D) C (.ok .next) { s₂ with heap := h, toks := tk }) :
    wpAny (model prog w) A (newList []) (fun acc s₃ => wpAny (model prog w) A (newFunctionEnv scope env.globals cl [] env.qual none .none (some env)) (fun cenv s₄ =>
      codeAny (model prog w) A (.compStart (lc2 elt (.Name x0 px0) i0 (.Name x1 px1) i1 ifs1 scope pos) 0 it acc { cenv with scope := relabel scope env }) (RR acc cenv.locals) s₄) E s₃) E s₂ := by
  cases h₂ with
  | mk s H tk I fp n P P' St news its p G hh T hst hfp F N offI hn64 hPP hits lf fin =>
  refine wpAny_newObj_type (wpAny_newFunctionEnv hcell (fun y hy => nomatch hy) (fun h₁ hns₁ hsb₁ => ?_) hkind)
  dsimp only at hns₁ hsb₁ ⊢
  have hC : (H.push { cls := .type "list", dict := none, data := .seq ([] : List Value).toArray }).objs.size = H.objs.size + 1 := Heap.size_push ..
  rw [hC] at hns₁ hsb₁ ⊢
  have below : ∀ b, b < H.objs.size → b ≠ H.objs.size + 1 ∧ b ≠ H.objs.size := fun b hb => ⟨Nat.ne_of_lt (Nat.lt_succ_of_lt hb), Nat.ne_of_lt hb⟩
  have hIlt : I < H.objs.size := hfp I (T.W.sub I (List.mem_singleton.mpr rfl))
  have old : ∀ b o, H.get? b = some o → h₁.get? b = some o := fun b o e => hsb₁.extBut b o (below b (Heap.lt_size e)).1 (Heap.get?_push_of_some _ (Heap.get?_push_of_some _ e))
  have fresh₀ : ∀ a, H.objs.size ≤ a → h₀.get? a = none := fun a ha => by
    cases e : h₀.get? a with
    | none => rfl
    | some o' => exact absurd (Heap.lt_size (F.keep a o' e)) (Nat.not_lt.mpr ha)
  have S : Spots h₀ L I (H.objs.size + 1) H.objs.size fp news :=
    ⟨Ne.symm (below L F.ns.lt).1, fresh₀ _ (Nat.le_succ _), Ne.symm (below L F.ns.lt).2, fresh₀ _ (Nat.le_refl _), Nat.ne_of_lt (Nat.lt_succ_self _), (below I hIlt).1, (below I hIlt).2, fun hm => (below _ (hfp _ hm)).1 rfl, fun hm => (below _ (hfp _ hm)).2 rfl, fun q hq => ⟨offI q hq, below _ (Heap.lt_size (N q hq).1)⟩⟩
  have hst₁ : St 0 h₁ := T.W.frame _ _ _ hst fun b _ o e => old b o e
  have lp := outer2 (i0 := i0) (px0 := px0) (px1 := px1) (pos := pos) (tk := tk + ([] : List (Str × Value)).length) (R := RR (.ref H.objs.size) (H.objs.size + 1)) hkind hx0 hx1 hne hs1 hh T S lf hPP hits hn64 (fun b hb => Nat.le_of_lt (hfp b hb)) hst₁ (F.keeps old) hns₁ (news_cons (hsb₁.extBut _ _ S.dc (Heap.get?_push_of_some _ (Heap.get?_push_size _ rfl))) S.dl S.d0 fun q hq => ⟨old _ _ (N q hq).1, (N q hq).2⟩)
    fun h tk m' ys a b c d e => hRR H.objs.size (H.objs.size + 1) h tk m' ys news a b (off1_of fun q hq => (S.off q hq).2.2) c S.c0 S.cl (Ne.symm S.dc) (fun q hq => (S.off q hq).2.1) (fin ys d e)
  exact codeAny_compStart_list lp (T.W.self 0 _ _ _ hst₁ lp)
theorem comp2 {elt i0 i1 : Expr} {ifs1 : List Expr} {x0 x1 : Str} {px0 px1 : Pos} {scope : Scope} {cl : List (Str × Addr)} {pos : Pos} {Q : Value → Shared → Prop} (F₀ : Fr h₀ L s.heap m)
    (hclos : closureFor scope env = pure cl) (hcell : ∀ y ∈ scope.names, y.2 ≠ .cell) (hkind : scope.kind = .function)
    (hnames : ∀ y ∈ scope.names, y.2 = .local → scope.names.lookup y.1 = some .local) (hx0 : scope.names.lookup x0 = some .local) (hx1 : scope.names.lookup x1 = some .local) (hne : x0 ≠ x1)
    (h : wpAny (model prog w) A (eval i0 env) (fun x s₁ => It2 prog w A x (Src2 prog w A h₀ L m env elt i1 ifs1 x0 x1 scope cl (fun s₂ => FinE h₀ L m s₂ Q)) E s₁) E s)
    (hs : ∀ x, foldedSetIterable i0 env x = pure x := by intro _; rfl) (hs1 : ∀ C x, foldedSetIterable i1 (compEnvC scope cl C env) x = pure x := by intro _ _; rfl) :
    wpAny (model prog w) A (eval (lc2 elt (.Name x0 px0) i0 (.Name x1 px1) i1 ifs1 scope pos) env) Q E s := by
  rw [eval_ListComp]
  refine wpAny_comprehension_free (use := none) rfl hs hclos hkind hnames (wpAny_mono h (fun xv s₁ h₁ => wpAny_mono h₁ (fun it s₂ h₂ => ?_) fun _ _ e => e) fun _ _ e => e)
  refine block2 hcell hkind hx0 hx1 hne hs1 h₂ ?_
  intro D C h tk m' ys news F' N' o1 hn hC₀ hCL hCD offC fin
  refine ⟨m', hn, fun h'' hs'' => fin D h'' tk (F'.change hs'' hCL hC₀) (fun q hq => ?_) o1⟩
  refine ⟨hs''.extBut _ _ ?_ (N' q hq).1, (N' q hq).2⟩
  rcases List.mem_cons.mp hq with rfl | hq
  · exact Ne.symm hCD
  · exact offC q hq
theorem comp2A {elt i0 i1 : Expr} {ifs1 : List Expr} {x0 x1 y : Str} {px0 px1 py : Pos} {scope : Scope} {cl : List (Str × Addr)} {pos spos : Pos} {Q : Flow → Shared → Prop} (F₀ : Fr h₀ L s.heap m) (hLe : env.locals = L)
    (hsw : swapsWith (lc2 elt (.Name x0 px0) i0 (.Name x1 px1) i1 ifs1 scope pos) (some (.Name y py)) spos.line env = pure true)
    (hclos : closureFor scope env = pure cl) (hcell : ∀ y ∈ scope.names, y.2 ≠ .cell) (hkind : scope.kind = .function)
    (hnames : ∀ y ∈ scope.names, y.2 = .local → scope.names.lookup y.1 = some .local) (hx0 : scope.names.lookup x0 = some .local) (hx1 : scope.names.lookup x1 = some .local) (hne : x0 ≠ x1)
    (hy : env.kindOf y = some .local) (hp : (env.scope.kind == .class || (env.scope.kind == .module && env.locals != env.globals)) = false)
    (h : wpAny (model prog w) A (eval i0 env) (fun x s₁ => It2 prog w A x (Src2 prog w A h₀ L m env elt i1 ifs1 x0 x1 scope cl (fun s₂ => FinA h₀ L m s₂ y Q)) E s₁) E s)
    (hs : ∀ x, foldedSetIterable i0 env x = pure x := by intro _; rfl) (hs1 : ∀ C x, foldedSetIterable i1 (compEnvC scope cl C env) x = pure x := by intro _ _; rfl) :
    wpAny (model prog w) A (exec (.Assign [.Name y py] (lc2 elt (.Name x0 px0) i0 (.Name x1 px1) i1 ifs1 scope pos) spos) env) Q E s := by
  subst hLe
  rw [exec_Assign_Name_used _ _ _ _ hsw]
  refine wpAny_bind (wpAny_standAt (wpAny_bind ?_))
  show wpAny _ A (do let _ ← comprehension (lc2 elt (.Name x0 px0) i0 (.Name x1 px1) i1 ifs1 scope pos) scope env _ (newList []) false (eval i0 env) (some (assign (.Name y py) env))) _ _ s
  refine wpAny_bind (wpAny_mono (wpAny_comprehension_free (use := some (assign (.Name y py) env)) (Q := fun _ s' => Q .next s') rfl hs hclos hkind hnames
    (wpAny_mono h (fun xv s₁ h₁ => wpAny_mono h₁ (fun it s₂ h₂ => ?_) fun _ _ e => e) fun _ _ e => e)) (fun _ s' hq => wpAny_pure (wpAny_pure hq)) fun _ _ e => e)
  refine block2 hcell hkind hx0 hx1 hne hs1 h₂ ?_
  intro D C h tk m' ys news F' N' o1 hn hC₀ hCL hCD offC fin
  show wpAny _ A (assign (.Name y py) env (.ref D)) _ _ _
  refine wpAny_assign_Name (wpAny_storeName_local hy F'.ns (fun h₃ hn₃ hs₃ => ?_) hp)
  have hL₀ : h₀.get? env.locals = none := Heap.get?_none_of_le F'.above
  have F₂ : Fr h₀ env.locals h₃ (fun z => if z = y then some (.ref D) else m z) := ⟨hn₃, fun b o e => hs₃.extBut b o (fun q => by rw [q, hL₀] at e; cases e) (F'.keep b o e), F'.above⟩
  refine ⟨m', hn.sameBut hs₃ hCL, fun h'' hs'' => fin D h'' _ (F₂.change hs'' hCL hC₀) (fun q hq => ?_) o1⟩
  have z : h₃.get? q.1 = some q.2 := hs₃.extBut _ _ (N' q hq).2.1 (N' q hq).1
  refine ⟨hs''.extBut _ _ ?_ z, (N' q hq).2⟩
  rcases List.mem_cons.mp hq with rfl | hq
  · exact Ne.symm hCD
  · exact offC q hq
end
end Mine
end
section
open PySem PySem.W PySem.Calls PyProof.Rows PyProof.Rows.LCg
set_option maxRecDepth 100000
set_option maxHeartbeats 4000000
set_option Elab.async false
set_option linter.unusedVariables false
namespace Mine
theorem size_down (n : Nat) : Builtin.Range.rangeSize n 0 (-1) = (n : Int) := by
  rw [rangeSize_downNat]; simp
theorem small_down (n : Nat) (hn : n ≤ 64) : Builtin.Range.small n 0 (-1) = true := by
  unfold Builtin.Range.small; rw [size_down]; unfold Builtin.Range.rangeFitsLong; simp; lia
theorem down_at {n i : Nat} {v : Value} (h : i < n ∧ ∃ t, v = .int ((n : Int) + i * (-1)) t) : i < n ∧ ∃ t, v = .int ((n : Int) - i) t := by
  obtain ⟨h1, t, rfl⟩ := h
  exact ⟨h1, t, by congr 1; lia⟩
section
variable {prog : Program} {w : World} {A : Around} {E : Value → Shared → Prop} {s : Shared} {h₀ : Heap} {L : Addr} {m : Str → Option Value} {env : Env}
theorem src2_list {elt i1 : Expr} {ifs1 : List Expr} {x0 x1 : Str} {scope : Scope} {cl : List (Str × Addr)} {Fin : Shared → List Value → List (Addr × Obj) → Prop} {l : Addr} {vs : List Value} {nl : Nat} {news : List (Addr × Obj)} {its : Value → List Value} {p : Value → Value → Bool} {G : Value → Value → Value → Prop}
    (hh : A.handled = none) (F : Fr h₀ L s.heap m) (N : News h₀ L s.heap news) (hm : (l, W.listOf vs.toArray nl) ∈ news) (hn : vs.length ≤ 64) (hits : ∀ (i : Nat) (v : Value), vs[i]? = some v → (its v).length ≤ 64) (lf : Leaf2 prog w A h₀ L m env elt i1 ifs1 x0 x1 scope cl s news (fun i v => vs[i]? = some v) its p G)
    (fin : ∀ h ys, ys.length ≤ 4096 → Flat (fun i v => vs[i]? = some v) its p G vs.length ys → Fin { s with heap := h } ys news) :
    wpAny (model prog w) A (pyIter (.ref l)) (Src2 prog w A h₀ L m env elt i1 ifs1 x0 x1 scope cl Fin) E s := by
  have hl : s.heap.IsList l vs.toArray := N.isList hm
  have hlt : l < s.heap.objs.size := Heap.lt_size (N _ hm).1
  refine wpAny_pyIter_list hl ?_
  have up : ∀ b o, s.heap.get? b = some o → (s.heap.push { cls := .type "list_iterator", data := .fields #[.ref l, .int 0 0] }).get? b = some o := fun b o e => Heap.get?_push_of_some _ e
  exact .mk s _ s.toks s.heap.objs.size _ vs.length _ _ _ news its p G hh
    ⟨Walks.list (prog := prog) (w := w) hh s.heap.objs.size l (Nat.ne_of_lt hlt) vs.toArray, fun i h st => st.1.elim fun o e => ⟨o, e.1⟩, fun i h h' o st e e' k N' => ⟨st.1.elim fun o' q => ⟨o', e'.trans (e.symm.trans q.1), q.2⟩, N'.isList hm⟩, Nat.ne_of_gt F.ns.lt, next_is_new F⟩
    ⟨⟨_, Heap.get?_push_size _ rfl, rfl, rfl⟩, hl.push _⟩ (by rw [Heap.size_push]; exact List.forall_mem_cons.mpr ⟨Nat.lt_succ_self _, List.forall_mem_singleton.mpr (Nat.lt_succ_of_lt hlt)⟩) (F.keeps up) (N.grown up) (fun q hq => Nat.ne_of_lt (Heap.lt_size (N q hq).1)) hn (fun i v hv => (List.getElem?_toArray ..).symm.trans hv) hits lf (fun ys hy hf => fin _ ys hy hf)
theorem src2_down {elt i1 : Expr} {ifs1 : List Expr} {x0 x1 : Str} {scope : Scope} {cl : List (Str × Addr)} {Fin : Shared → List Value → List (Addr × Obj) → Prop} {r : Addr} {n : Nat} {t u v : Tok} {news : List (Addr × Obj)} {its : Value → List Value} {p : Value → Value → Bool} {G : Value → Value → Value → Prop}
    (hh : A.handled = none) (F : Fr h₀ L s.heap m) (N : News h₀ L s.heap news) (hr : IsRange s.heap r n 0 (-1) t u v) (hn : n ≤ 64) (hits : ∀ v, (its v).length ≤ 64) (lf : Leaf2 prog w A h₀ L m env elt i1 ifs1 x0 x1 scope cl s news (fun i v => i < n ∧ ∃ t, v = .int ((n : Int) - i) t) its p G)
    (fin : ∀ h ys, ys.length ≤ 4096 → Flat (fun i v => i < n ∧ ∃ t, v = .int ((n : Int) - i) t) its p G n ys → Fin { s with heap := h } ys news) :
    wpAny (model prog w) A (pyIter (.ref r)) (Src2 prog w A h₀ L m env elt i1 ifs1 x0 x1 scope cl Fin) E s := by
  refine wpAny_pyIter_range hr (small_down n hn) ?_
  have up : ∀ o' b o, s.heap.get? b = some o → (s.heap.push o').get? b = some o := fun o' b o e => Heap.get?_push_of_some _ e
  have hsz : Builtin.Range.rangeSize n 0 (-1) = (n : Int) := by exact size_down n
  refine .mk s _ s.toks s.heap.objs.size _ n _ _ _ news its p G hh ⟨(Walks.range (prog := prog) (w := w) hh s.heap.objs.size (n : Int) (-1) n).bound, fun i h st => ⟨_, st⟩,
    fun i h h' o st e e' k N' => e'.trans (e.symm.trans st), Nat.ne_of_gt F.ns.lt, next_is_new F⟩ (by show IsRangeIter _ _ _ _ _; rw [hsz]; simpa using Heap.get?_push_size _ rfl) (by rw [Heap.size_push]; exact List.forall_mem_singleton.mpr (Nat.lt_succ_self _)) (F.keeps (up _)) (N.grown (up _))
    (fun q hq => Nat.ne_of_lt (Heap.lt_size (N q hq).1)) hn (fun i v => down_at) (fun i v _ => hits v) lf (fun ys hy hf => fin _ ys hy hf)
end
theorem PL.get {T : List (Addr × Obj)} {vs : List Value} {ps : List (List Int)} (t : PL T vs ps) : ∀ (i : Nat) (p : List Int), ps[i]? = some p → ∃ a ws k, vs[i]? = some (Value.ref a) ∧ (a, W.listOf (List.toArray ws) k) ∈ T ∧ IntsAre ws p := by
  induction t with
  | nil => intro i p h; simp at h
  | @snoc T vs ps a ws k p t hne hi ih =>
    intro i p' h
    by_cases hi' : i < ps.length
    · rw [List.getElem?_append_left hi'] at h
      obtain ⟨a', ws', k', h1, h2, h3⟩ := ih i p' h
      exact ⟨a', ws', k', by rw [List.getElem?_append_left (by rw [t.len]; exact hi')]; exact h1, .tail _ h2, h3⟩
    · have e : i = ps.length := by
        have := (List.getElem?_eq_some_iff.mp h).1
        simp at this; lia
      subst e
      simp at h
      subst h
      exact ⟨a, ws, k, by rw [← t.len]; simp, .head _, hi⟩
open Classical in
noncomputable def valsAt : List (Addr × Obj) → Value → List Value
  | [], _ => []
  | (a, o) :: T, v => if v = .ref a then (match o.data with | .seq xs _ => xs.toList | _ => []) else valsAt T v
theorem valsAt_of {h₀ h : Heap} {L : Addr} {news : List (Addr × Obj)} (N : News h₀ L h news) {a : Addr} {ws : List Value} {k : Nat} : ∀ {T : List (Addr × Obj)}, (∀ p ∈ T, p ∈ news) → (a, W.listOf (List.toArray ws) k) ∈ T → valsAt T (.ref a) = ws
  | (b, o) :: T, hs, hm => by
    unfold valsAt
    by_cases e : Value.ref a = .ref b
    · cases e
      rw [if_pos rfl]
      have h1 := (N _ (hs _ (.head _))).1
      have h2 := (N _ (hs _ hm)).1
      simp only at h1 h2
      rw [h1] at h2
      rw [Option.some.inj h2]
    · rw [if_neg e]
      rcases List.mem_cons.mp hm with hm | hm
      · cases hm; exact absurd rfl e
      · exact valsAt_of N (fun p hp => hs p (.tail _ hp)) hm
noncomputable def AbsOf (_ u y : Value) : Prop := ∀ x t, u = .int x t → ∃ t', y = .int (if x < 0 then -x else x) t'
theorem abs_flat {vs : List Value} {T : List (Addr × Obj)} {ps : List (List Int)} {h₀ h : Heap} {L : Addr} {news : List (Addr × Obj)} (N : News h₀ L h news) (hs : ∀ p ∈ T, p ∈ news) (t : PL T vs ps) {n : Nat} {ys : List Value} (hf : Flat (fun i v => vs[i]? = some v) (valsAt T) (fun _ _ => true) AbsOf n ys) :
    ∃ zs : List Int, IntsAre ys zs ∧ ∀ i p, i < n → ps[i]? = some p → ∀ x ∈ p, (if x < 0 then -x else x) ∈ zs := by
  induction hf with
  | zero => exact ⟨[], .nil, fun i p h => absurd h (Nat.not_lt_zero _)⟩
  | @succ i ys zs v hf hv hp ih =>
    obtain ⟨ns, h1, h2⟩ := ih
    have hlt : i < ps.length := by rw [← t.len]; exact (List.getElem?_eq_some_iff.mp hv).1
    obtain ⟨a, ws, k, e1, e2, e3⟩ := t.get i ps[i] (by simp [hlt])
    rw [hv] at e1
    cases e1
    rw [valsAt_of N hs e2] at hp
    have hp2 : ∃ ms, IntsAre zs ms ∧ ∀ x ∈ ps[i], (if x < 0 then -x else x) ∈ ms := by
      rw [List.filter_eq_self.mpr (by simp)] at hp
      generalize ps[i] = p at e3
      clear e2 hv hlt
      induction hp generalizing p with
      | nil => cases e3; exact ⟨[], .nil, by simp⟩
      | @cons u y us ys' hg hp ih =>
        cases e3 with
        | cons _ _ e3 =>
          obtain ⟨ms, h3, h4⟩ := ih _ e3
          obtain ⟨t', rfl⟩ := hg _ _ rfl
          exact ⟨_ :: ms, .cons _ _ h3, fun x hx => by
            rcases List.mem_cons.mp hx with rfl | hx
            · exact .head _
            · exact .tail _ (h4 x hx)⟩
    obtain ⟨ms, h3, h4⟩ := hp2
    refine ⟨ns ++ ms, h1.append h3, fun j p hj hp x hx => ?_⟩
    rcases Nat.lt_succ_iff_lt_or_eq.mp hj with hj | rfl
    · exact List.mem_append_left _ (h2 j p hj hp x hx)
    · have : ps[j] = p := by simpa [hlt] using hp
      exact List.mem_append_right _ (h4 x (this ▸ hx))
theorem PL.at {T : List (Addr × Obj)} {vs : List Value} {ps : List (List Int)} (t : PL T vs ps) {i : Nat} {v : Value} (hv : vs[i]? = some v) : ∃ a ws k p, v = .ref a ∧ (a, W.listOf (List.toArray ws) k) ∈ T ∧ IntsAre ws p ∧ ps[i]? = some p := by
  have hlt : i < ps.length := by rw [← t.len]; exact (List.getElem?_eq_some_iff.mp hv).1
  obtain ⟨a, ws, k, e1, e2, e3⟩ := t.get i ps[i] (by simp [hlt])
  rw [hv] at e1
  exact ⟨a, ws, k, _, Option.some.inj e1, e2, e3, by simp [hlt]⟩
theorem int_of_mem {ws : List Value} {p : List Int} (h : IntsAre ws p) {u : Value} (hu : u ∈ ws) : ∃ x t, u = .int x t := by
  induction h with
  | nil => cases hu
  | cons n t _ ih =>
    rcases List.mem_cons.mp hu with rfl | hu
    · exact ⟨n, t, rfl⟩
    · exact ih hu
end Mine
end
section
open PySem PySem.W PySem.Calls PyProof.Rows PyProof.Rows.LCg
set_option maxRecDepth 100000
set_option maxHeartbeats 4000000
set_option Elab.async false
set_option linter.unusedVariables false
namespace Mine
local macro_rules | `(tactic| walk_at "eval ListComp") => stop ``eval_stop
local macro_rules | `(tactic| walk_at "eval Name") => ln ``nameX_L "k_asm rfl|assumption _" ""
theorem law_foreign {w : World} {mg mb : Str → Option Value} {means : ExcName → Option Value} {dp un : Nat} {fr : Option (List Env)} {gu : Option (List Code)} {s : Shared} {h₀ : Heap} {L D lp : Addr} {m : Str → Option Value} {Q : Flow → Shared → Prop} {oc oD : Obj} {vs : List Value} {ps : List (List Int)} {n : Nat} {T : List (Addr × Obj)}
    (F : Fr h₀ L s.heap m) (N : News h₀ L s.heap ((lp, W.listOf (List.toArray vs) n) :: (L + 1, oc) :: (D, oD) :: T)) (T' : Top q (looseW q loose) means mg mb h₀) (hc : oc.data = .cell (some (.ref lp))) (pl : PL T vs ps) (hn : ps.length ≤ 62) (hl : ∀ p ∈ ps, p.length ≤ 62)
    (hQ : ∀ h' tk fo tf, Fr h₀ L h' (fun y => if y = Str.ofString "foreign" then some (.int fo tf) else m y) → News h₀ L h' ((lp, W.listOf (List.toArray vs) n) :: (L + 1, oc) :: (D, oD) :: T) → 0 < fo → (∀ p ∈ ps, ∀ x ∈ p, -fo < x ∧ x < fo) → Q .next { s with heap := h', toks := tk }) :
    (K w.params).In h₀ → PySem.Challenge.rw_dm0054_12.prog = pw → wpAny (model pw w) (Around.mk none dp fr gu un) (exec (stAt (fnBody (top 9)) 4) (lawEnv L)) Q (fun _ _ => False) s := by
  k_fill
  intro X' hpw
  refine wpAny_Assign_Name ?_
  k_steps
  rename Fr _ _ _ _ => F₂
  rename News _ _ _ _ => N₂
  unfold EvalStop
  refine comp2 F₂ (by rfl) (by decide) (by rfl) (by decide) (by rfl) (by rfl) (by decide) ?_
  k_steps
  unfold It2
  refine src2_list (its := valsAt T) (p := fun _ _ => true) (G := AbsOf) rfl F₂ N₂ (.tail _ (.head _)) (by rw [pl.len]; omega) ?_ ⟨?_, ?_, ?_⟩ ?_
  · intro i v hv
    obtain ⟨a, ws, k, p, rfl, e2, e3, e4⟩ := pl.at hv
    rw [valsAt_of N₂ (fun p hp => .tail _ (.tail _ (.tail _ (.tail _ hp)))) e2, intsAre_len e3]
    exact Nat.le_trans (hl _ (List.mem_of_getElem? e4)) (by decide)
  · intro i v I oI C oC D' oD' m₂ h tk E' hv hC hx F₃ N₃
    obtain ⟨a, ws, k, p, rfl, e2, e3, e4⟩ := pl.at hv
    have e5 := valsAt_of N₂ (fun p hp => .tail _ (.tail _ (.tail _ (.tail _ hp)))) e2
    clear F₂ N₂
    k_steps
    exact (.mk _ _ (⟨a, k, rfl, by rw [e5]; exact .tail _ (.tail _ (.tail _ (.tail _ e2)))⟩) F₃ N₃)
  · intro i v u I oI J oJ C oC D' oD' m₂ h tk E' hv hu hC hx hx2 F₃ N₃
    exact wpAny_tests_nil (.mk _ _ rfl F₃ N₃)
  · intro i v u I oI J oJ C oC D' oD' m₂ h tk E' hv hu hp hC hx hx2 F₃ N₃
    obtain ⟨a, ws, k, p, rfl, e2, e3, e4⟩ := pl.at hv
    rw [valsAt_of N₂ (fun p hp => .tail _ (.tail _ (.tail _ (.tail _ hp)))) e2] at hu
    obtain ⟨x, t, rfl⟩ := int_of_mem e3 hu
    clear F₂ N₂
    k_steps
    exact (.mk _ _ (fun y t e => by cases e; exact ⟨_, rfl⟩) F₃ N₃)
  · intro h ys hys hf D' h₄ tk₄ F₄ N₄ ho
    obtain ⟨zs, hz, hzm⟩ := abs_flat N₂ (fun p hp => .tail _ (.tail _ (.tail _ (.tail _ hp)))) pl hf
    clear F₂ N₂
    have hzl := hz.length
    k_steps
    rename Fr _ _ _ _ => F₅
    rename News _ _ _ _ => N₅
    rename ∀ a, a ∈ [0] ++ zs → _ => hM
    have h0 := hM 0 (by simp)
    refine hQ _ _ _ _ F₅ (news_sub N₅ fun p hp => .tail _ (.tail _ (.tail _ hp))) (by omega) (fun p hp x hx => ?_)
    obtain ⟨i, hi⟩ := List.getElem?_of_mem hp
    have := hM _ (List.mem_append_right _ (hzm i p (by have := (List.getElem?_eq_some_iff.mp hi).1; rw [pl.len]; exact this) hi x hx))
    split at this <;> omega
end Mine
end
section
open PySem PySem.W PySem.Calls PyProof.Rows PyProof.Rows.LCg
set_option maxRecDepth 100000
set_option maxHeartbeats 4000000
set_option Elab.async false
set_option linter.unusedVariables false
namespace Mine
noncomputable def LP (T : List (Addr × Obj)) (vs : List Value) (ps : List (List Int)) : Prop := vs.length = ps.length ∧ ∀ (i : Nat) (p : List Int), ps[i]? = some p → ∃ a ws k, vs[i]? = some (Value.ref a) ∧ (a, W.listOf (List.toArray ws) k) ∈ T ∧ IntsAre ws p
theorem PL.lp {T : List (Addr × Obj)} {vs : List Value} {ps : List (List Int)} (t : PL T vs ps) : LP T vs ps := ⟨t.len, fun i p h => t.get i p h⟩
theorem LP.lists0 {h₀ h : Heap} {L : Addr} {news T : List (Addr × Obj)} {vs : List Value} {ps : List (List Int)} (N : News h₀ L h news) (hs : ∀ q ∈ T, q ∈ news) (t : LP T vs ps) : Lists0 h vs ps := ⟨t.1, fun i hi => by
  obtain ⟨a, ws, k, h1, h2, h3⟩ := t.2 i ps[i] (by simp [hi])
  exact ⟨a, ws, k, h1, (N _ (hs _ h2)).1, h3⟩⟩
theorem LP.lists {h₀ h : Heap} {L : Addr} {news T : List (Addr × Obj)} {vs : List Value} {ps : List (List Int)} (N : News h₀ L h news) (hs : ∀ q ∈ T, q ∈ news) (t : LP T vs ps) : Lists h vs ps := ⟨t.1, fun i hi => by
  obtain ⟨a, ws, k, h1, h2, h3⟩ := t.2 i ps[i] (by simp [hi])
  exact ⟨a, ws, h1, N.isList (hs _ h2), h3⟩⟩
section
variable {prog : Program} {w : World} {A : Around} {s : Shared} {h₀ : Heap} {L : Addr} {m : Str → Option Value} {env : Env} {elt : Expr} {x : Str} {scope : Scope} {cl : List (Str × Addr)} {S : List (Addr × Obj) → Prop} {Fin : List Value → List (Addr × Obj) → Prop} {T news : List (Addr × Obj)} {vs : List Value} {ps : List (List Int)} {f : List Int → Nat}
theorem compRest_sizes (hl : LP T vs ps) (hS : S news)
    (turn : ∀ p a ws k I oI C oC D ys m₂ h tk (E' : Value → Shared → Prop), p ∈ ps → (a, W.listOf (List.toArray ws) k) ∈ T → IntsAre ws p → NsObj oC m₂ → m₂ x = some (.ref a) → Fr h₀ L h m → News h₀ L h ((I, oI) :: (C, oC) :: (D, LCg.lst ys) :: news) →
      wpAny (model prog w) A (eval elt (compEnvC scope cl C env)) (Then2 (fun y => ∃ t, y = .int (f p : Nat) t) h₀ L m s ((I, oI) :: (C, oC) :: (D, LCg.lst ys) :: news)) E' { s with heap := h, toks := tk })
    (fin : ∀ ys, IntsAre ys ((ps.map f).map fun (n : Nat) => (n : Int)) → Fin ys news) :
    CompRest prog w A h₀ L m env elt x scope cl s S (fun i v => vs.toArray[i]? = some v) Fin vs.toArray.size 0 [] news := by
  have key : ∀ k i ys, i + k = vs.length → IntsAre ys (((ps.take i).map f).map fun (n : Nat) => (n : Int)) → CompRest prog w A h₀ L m env elt x scope cl s S (fun i v => vs.toArray[i]? = some v) Fin k i ys news := by
    intro k
    induction k with
    | zero =>
      intro i ys e h
      refine CompRest.zero (fin ys ?_)
      have : ps.take i = ps := List.take_of_length_le (by rw [← hl.1]; omega)
      rwa [this] at h
    | succ k ih =>
      intro i ys e h
      refine CompRest.succ ?_
      intro v I oI C oC D m₂ hh tk E' hv hC hx F N off hne
      have hi : i < ps.length := by rw [← hl.1]; omega
      obtain ⟨a, ws, kk, h1, h2, h3⟩ := hl.2 i ps[i] (by simp [hi])
      have hv' : vs[i]? = some v := by simpa using hv
      rw [hv'] at h1
      cases h1
      refine wpAny_mono (turn ps[i] a ws kk I oI C oC D ys m₂ hh tk E' (List.getElem_mem hi) h2 h3 hC hx F N) (fun y s' hy => ?_) fun _ _ e => e
      cases hy with
      | mk h' tk' hy F' N' =>
      obtain ⟨t', rfl⟩ := hy
      refine ⟨h', tk', news, rfl, F', N', off, hS, ih (i + 1) _ (by omega) ?_⟩
      rw [List.take_succ_eq_append_getElem hi, List.map_append, List.map_append]
      exact intsAre_snoc h
  have := key vs.toArray.size 0 [] (by simp) (by simpa using IntsAre.nil)
  exact this
end
theorem istup_of {h : Heap} {a : Addr} {its : Array Value} (e : h.get? a = some (tupObj its)) : IsTup h a its := ⟨_, e, rfl, 0, rfl⟩
section
variable {w : World} {mg mb : Str → Option Value} {means : ExcName → Option Value} {dp un : Nat} {fr : Option (List Env)} {gu : Option (List Code)} {s : Shared} {h₀ : Heap} {m : Str → Option Value} {E : Value → Shared → Prop} {Q : Value → Shared → Prop}
theorem put_callL {L lp lz : Addr} {news T : List (Addr × Obj)} {vp vz : List Value} {np nz : Nat} {ps : List (List Int)} {zs : List Nat} {f : Int} {tf : Tok} (F : Fr h₀ L s.heap m) (N : News h₀ L s.heap news) (X : (K w.params).In h₀) (T' : Top q (looseW q loose) means mg mb h₀)
    (hlp : (lp, W.listOf vp.toArray np) ∈ news) (hps : LP T vp ps) (hT : ∀ q ∈ T, q ∈ news) (hlz : (lz, W.listOf vz.toArray nz) ∈ news) (hIz : IntsAre vz (zs.map fun (n : Nat) => (n : Int))) (n1 : zs.length = ps.length) (n2 : ps.length ≤ 62) (n3 : ∀ p ∈ ps, p.length ≤ 62) (n4 : ∀ z ∈ zs, z ≤ 3) (hroom : dp + 2 < recursionLimit) (hu : un + 80 < cLine)
    (h : ∀ h' tk D lq lr vq nq vr nr, Fr h₀ L h' m → News h₀ L h' ((D, tupObj #[.ref lr, .ref lq]) :: (lr, W.listOf (List.toArray vr) nr) :: (lq, W.listOf (List.toArray vq) nq) :: news) → (∀ p ∈ news, @Ne Nat p.1 D ∧ @Ne Nat p.1 lr ∧ @Ne Nat p.1 lq) →
      IntsAre vr (rowN f ps zs ps.length) → IntsAre vq ((placesN f ps zs ps.length).map fun (n : Nat) => (n : Int)) → Q (.ref D) { s with heap := h', toks := tk }) :
    wpAny (model pw w) (Around.mk none dp fr gu un) (call (.ref 253) [.ref lp, .int f tf, .ref lz] []) Q E s := by
  refine wpAny_call (put_ok (base := h₀) T' F.keep (N.isList hlp) (hps.lists0 N hT) (N.isList hlz) hIz n1 n2 n3 n4 hroom hu (fun h' tk D lq lr vq nq vr nr kept g1 g2 g3 f1 f2 f3 d1 d2 d3 i1 i2 => ?_) X rfl)
  have ne : ∀ {a : Addr}, s.heap.get? a = none → ∀ p ∈ news, @Ne Nat p.1 a := fun hf p hp e => by have := (N p hp).1; rw [show p.1 = _ from e, hf] at this; cases this
  have nL : ∀ {a : Addr}, s.heap.get? a = none → a ≠ L := fun hf e => by obtain ⟨o, eo, _⟩ := ns_obj F.ns; rw [e, eo] at hf; cases hf
  have nn : ∀ {a : Addr}, s.heap.get? a = none → h₀.get? a = none := fun {a} hf => by
    cases e : h₀.get? a with
    | none => rfl
    | some o => rw [F.keep _ _ e] at hf; cases hf
  refine h h' tk D lq lr vq nq vr nr (F.keeps kept) (fun p hp => ?_) (fun p hp => ⟨ne f1 p hp, ne f2 p hp, ne f3 p hp⟩) i1 i2
  rcases List.mem_cons.mp hp with rfl | hp
  · exact ⟨g1, nL f1, nn f1⟩
  · rcases List.mem_cons.mp hp with rfl | hp
    · exact ⟨g2, nL f2, nn f2⟩
    · rcases List.mem_cons.mp hp with rfl | hp
      · exact ⟨g3, nL f3, nn f3⟩
      · exact ⟨kept _ _ (N p hp).1, (N p hp).2⟩
theorem place_callL {L x dx lp to tt lr1 lq1 lr2 lq2 la0 lb0 l2 lj lq0 : Addr} {own rest T : List (Addr × Obj)} {vp v1 w1 v2 w2 : List Value} {np k1 k2 k3 k4 : Nat} {ps : List (List Int)} {r1 r2 : List Int} {q1 q2 : List Nat} {ts : Nat → Tok} {mbk : Value} {oa ob : Obj}
    (F : Fr h₀ L s.heap m) (N : News h₀ L s.heap (own ++ (dx, selfD w.params ts .none (.ref la0) (.ref lb0) (.bool false) mbk .none .none (.ref l2) (.ref lj) (.ref lq0)) :: rest)) (X : (K w.params).In h₀) (T' : Top q (looseW q loose) means mg mb h₀) (h1 : AllNe dx own) (h2 : AllNe dx rest)
    (hx : (x, instObj 242 dx) ∈ rest) (hla : (la0, oa) ∈ rest) (hlb : (lb0, ob) ∈ rest) (ca : oa.cls = .type "list") (cb : ob.cls = .type "list")
    (hlp : (lp, W.listOf vp.toArray np) ∈ rest) (hps : LP T vp ps) (hT : ∀ q ∈ T, q ∈ rest) (hto : (to, tupObj #[.ref lr1, .ref lq1]) ∈ rest) (htt : (tt, tupObj #[.ref lr2, .ref lq2]) ∈ rest)
    (g1 : (lr1, W.listOf v1.toArray k1) ∈ rest) (i1 : IntsAre v1 r1) (g2 : (lr2, W.listOf v2.toArray k2) ∈ rest) (i2 : IntsAre v2 r2) (g3 : (lq1, W.listOf w1.toArray k3) ∈ rest) (i3 : IntsAre w1 (q1.map fun (n : Nat) => (n : Int))) (g4 : (lq2, W.listOf w2.toArray k4) ∈ rest) (i4 : IntsAre w2 (q2.map fun (n : Nat) => (n : Int)))
    (n1 : r1.length < 2 ^ 20) (n2 : r2.length < 2 ^ 20) (n3 : q1.length = ps.length) (n4 : q2.length = ps.length) (n5 : ps.length ≤ 62) (n6 : ∀ p ∈ ps, p.length ≤ 62) (d1 : @Ne Nat lr1 la0) (d2 : @Ne Nat lr2 lb0) (d3 : @Ne Nat lr1 lr2) (hroom : dp + 14 < recursionLimit) (hu : un + 90 < cLine)
    (ok1 : PureOk r1 r2 (((List.range ps.length).map fun k => (q1.getD k 0, q2.getD k 0, (ps.getD k []).length)) ++ [(r1.length, r2.length, 0)]))
    (ok2 : PureOk r2 r1 ((((List.range ps.length).map fun k => (q1.getD k 0, q2.getD k 0, (ps.getD k []).length)) ++ [(r1.length, r2.length, 0)]).map fun b : Pure.Blk => (b.2.1, b.1, b.2.2)))
    (h : ∀ h' tk ts' mbk' l2 lj lq0, Fr h₀ L h' m → News h₀ L h' (own ++ (dx, selfD w.params ts' .none (.ref lr2) (.ref lr1) (.bool false) mbk' .none .none (.ref l2) (.ref lj) (.ref lq0)) :: rest) → Q (.bool true) { s with heap := h', toks := tk }) :
    wpAny (model pw w) (Around.mk none dp fr gu un) (call (.ref 258) [.ref x, .ref lp, .ref to, .ref tt] []) Q E s := by
  have nd := N _ (List.mem_append_right _ (.head _))
  have rr : ∀ {p}, p ∈ rest → p ∈ own ++ (dx, selfD w.params ts .none (.ref la0) (.ref lb0) (.bool false) mbk .none .none (.ref l2) (.ref lj) (.ref lq0)) :: rest := fun hp => List.mem_append_right _ (.tail _ hp)
  refine wpAny_call (in_place_ok (base := h₀) T' F.keep nd.2.2 (N _ (rr hx)).1 nd.1 ⟨_, (N _ (rr hla)).1, ca⟩ ⟨_, (N _ (rr hlb)).1, cb⟩ (N.isList (rr hlp)) (hps.lists N fun q hq => rr (hT q hq)) (istup_of (N _ (rr hto)).1) (istup_of (N _ (rr htt)).1)
    (N.isList (rr g1)) i1 (N.isList (rr g2)) i2 (N.isList (rr g3)) i3 (N.isList (rr g4)) i4 n1 n2 n3 n4 n5 n6 d1 d2 d3 hroom hu ok1 ok2 (fun h' tk ts' mbk' l2' lj' lq0' keep hd' => ?_) X rfl)
  obtain ⟨F', N'⟩ := led_mod (N' := []) F N h1 h2 keep hd' (fun _ h => nomatch h)
  rw [List.append_nil] at N'
  exact h h' tk ts' mbk' l2' lj' lq0' F' N'
end
end Mine
end
section
open PySem PySem.W PySem.Calls PyProof.Rows PyProof.Rows.LCg
set_option maxRecDepth 100000
set_option maxHeartbeats 1000000
set_option Elab.async false
set_option linter.unusedVariables false
namespace Mine
local macro_rules | `(tactic| walk_at "call ref") => stop ``call_stop
local macro_rules | `(tactic| walk_at "eval ListComp") => stop ``eval_stop
local macro_rules | `(tactic| walk_at "CompSrc") => stop ``src_stopU
local macro_rules | `(tactic| walk_at "eval Name") => ln ``nameX_L "k_asm rfl|assumption _" ""
noncomputable def sizeA (p : List Int) : Nat := ((p.getD 0 0).fmod 3 + 1).toNat
theorem sizeA_eq (p : List Int) : ((sizeA p : Nat) : Int) = (p.getD 0 0).fmod 3 + 1 := by
  have := Int.fmod_nonneg_of_pos (p.getD 0 0) (show (0 : Int) < 3 by omega)
  unfold sizeA; lia
theorem sizeA_le (p : List Int) : sizeA p ≤ 3 := by
  have := Int.fmod_lt_of_pos (p.getD 0 0) (show (0 : Int) < 3 by omega)
  have := sizeA_eq p
  omega
theorem mix_put {α : Type} {a b c x : α} {T : List α} : ∀ p ∈ a :: b :: c :: T, p ∈ a :: b :: c :: x :: T := by
  intro p hp; simp only [List.mem_cons] at hp ⊢; grind
theorem mix_put2 {α : Type} {a b c x y : α} {T : List α} : ∀ p ∈ a :: b :: c :: T, p ∈ a :: b :: c :: x :: y :: T := by
  intro p hp; simp only [List.mem_cons] at hp ⊢; grind
section
variable {prog : Program} {w : World} {A : Around} {E : Value → Shared → Prop} {s : Shared} {h₀ : Heap} {L : Addr} {news : List (Addr × Obj)} {value slice : Expr} {l : Addr} {ws : List Value} {p : List Int} {u : Tok} {n : Nat} {Q : Value → Shared → Prop}
theorem itemFst (N : News h₀ L s.heap news) (hm : (l, W.listOf ws.toArray n) ∈ news) (hi : IntsAre ws p) (hp : 0 < p.length) (h : ∀ t, Q (.int (p.getD 0 0) t) s)
    (hs : subscripted slice false (.ref l) (.int 0 u) = operate [.ref l, .int 0 u] (getItem (.ref l) (.int 0 u)) := by with_unfolding_all rfl) : wpAny (model prog w) A (subscriptTail value slice (.ref l) (.int 0 u)) Q E s := by
  obtain ⟨t, ht⟩ := intsAre_at hi hp
  exact item_listR (N.isList hm) (by decide) (by decide) (by simpa using ht) (h t) hs
theorem itemEnd (N : News h₀ L s.heap news) (hm : (l, W.listOf ws.toArray n) ∈ news) (hi : IntsAre ws p) (hp : 0 < p.length) (h : ∀ t, Q (.int (p.getD (p.length - 1) 0) t) s)
    (hs : subscripted slice false (.ref l) (.int (-1) u) = operate [.ref l, .int (-1) u] (getItem (.ref l) (.int (-1) u)) := by with_unfolding_all rfl) (hg : ∀ r, letTemporaryGo value (.ref l) r = pure () := by intro _; with_unfolding_all rfl) : wpAny (model prog w) A (subscriptTail value slice (.ref l) (.int (-1) u)) Q E s := by
  obtain ⟨t, ht⟩ := intsAre_at hi (j := p.length - 1) (by omega)
  have hl := intsAre_len hi
  obtain ⟨vi, v, rfl⟩ : ∃ vi v, ws = vi ++ [v] := ⟨ws.dropLast, ws.getLast (by intro e; subst e; simp at hl; lia), (List.dropLast_concat_getLast _).symm⟩
  have e : vi.length = p.length - 1 := by simp at hl; lia
  rw [← e, List.getElem?_concat_length] at ht
  cases ht
  exact item_last (N.isList hm) (by rw [e]; exact h t) hs hg
end
local macro_rules | `(tactic| walk_at "subscriptTail Name Constant ref int") => ln ``itemFst "k_asm assumption assumption assumption _" "t'" false false
local macro_rules | `(tactic| walk_at "subscriptTail Name UnaryOp ref int") => ln ``itemEnd "k_asm assumption assumption assumption _" "t'" false false
theorem law_put1 {w : World} {mg mb : Str → Option Value} {means : ExcName → Option Value} {dp un : Nat} {fr : Option (List Env)} {gu : Option (List Code)} {s : Shared} {h₀ : Heap} {L lp : Addr} {m : Str → Option Value} {Q : Flow → Shared → Prop} {oc : Obj} {vs : List Value} {ps : List (List Int)} {n : Nat} {T rest : List (Addr × Obj)} {fo : Int} {tf : Tok}
    (F : Fr h₀ L s.heap m) (N : News h₀ L s.heap ((lp, W.listOf (List.toArray vs) n) :: (L + 1, oc) :: rest)) (T' : Top q (looseW q loose) means mg mb h₀) (hc : oc.data = .cell (some (.ref lp))) (pl : LP T vs ps) (hT : ∀ q ∈ T, q ∈ rest) (hn : ps.length ≤ 62) (hl : ∀ p ∈ ps, p ≠ [] ∧ p.length ≤ 62)
    (mf : m (Str.ofString "foreign") = some (.int fo tf)) (hroom : dp + 2 < recursionLimit) (hu : un + 80 < cLine)
    (hQ : ∀ h' tk D lq lr vq nq vr nr, Fr h₀ L h' (fun y => if y = Str.ofString "one" then some (.ref D) else m y) → News h₀ L h' ((D, tupObj #[.ref lr, .ref lq]) :: (lr, W.listOf (List.toArray vr) nr) :: (lq, W.listOf (List.toArray vq) nq) :: (lp, W.listOf (List.toArray vs) n) :: (L + 1, oc) :: rest) → (∀ p ∈ (lp, W.listOf (List.toArray vs) n) :: (L + 1, oc) :: rest, @Ne Nat p.1 D ∧ @Ne Nat p.1 lr ∧ @Ne Nat p.1 lq) →
      IntsAre vr (rowN (-fo) ps (ps.map sizeA) ps.length) → IntsAre vq ((placesN (-fo) ps (ps.map sizeA) ps.length).map fun (n : Nat) => (n : Int)) → Q .next { s with heap := h', toks := tk }) :
    (K w.params).In h₀ → PySem.Challenge.rw_dm0054_12.prog = pw → wpAny (model pw w) (Around.mk none dp fr gu un) (exec (stAt (fnBody (top 9)) 6) (lawEnv L)) Q (fun _ _ => False) s := by
  k_fill
  intro X' hpw
  refine wpAny_Assign_Name ?_
  k_steps
  rename Fr _ _ _ _ => F₂
  rename News _ _ _ _ => N₂
  unfold EvalStop
  refine LCg.ListComp_U F₂ (by rfl) (by decide) (by rfl) (by decide) (by rfl) ?_
  k_steps
  unfold SrcStopU
  refine LCg.CompSrc.ledger rfl F₂ N₂ (.head _) (by unfold sizeLine; simp only [List.size_toArray]; rw [pl.1]; lia) ?_
  intro g
  refine compRest_sizes (f := sizeA) pl (.inr ⟨_, .head _, rfl, _, rfl⟩) ?_ ?_
  · intro p a ws k I oI C oC D ys m₂ h tk E' hp ha hi hC hx F₃ N₃
    have ha' : (a, W.listOf (List.toArray ws) k) ∈ (I, oI) :: (C, oC) :: (D, LCg.lst ys) :: (lp, W.listOf (List.toArray vs) n) :: (L + 1, oc) :: rest := .tail _ (.tail _ (.tail _ (.tail _ (.tail _ (hT _ ha)))))
    have hpp : 0 < p.length := List.length_pos_iff.mpr (hl p hp).1
    have hpl := (hl p hp).2
    clear F₂ N₂
    k_steps
    exact (.mk _ _ (⟨_, by rw [sizeA_eq]⟩) F₃ N₃)
  · intro ys hI D h tk F₃ N₃ ho
    clear F₂ N₂
    k_steps
    unfold CallStop
    refine put_callL F₃ N₃ X' T' (.tail _ (.head _)) pl (fun q hq => .tail _ (.tail _ (.tail _ (hT q hq)))) (.head _) hI (by simp) hn (fun p hp => (hl p hp).2) (fun z hz => by obtain ⟨p, _, rfl⟩ := List.mem_map.mp hz; exact sizeA_le p) hroom (by lia) ?_
    intro h₄ tk₄ Dt lq lr vq nq vr nr F₄ N₄ hne i1 i2
    clear F₃ N₃
    k_steps
    rename Fr _ _ _ _ => F₅
    rename News _ _ _ _ => N₅
    exact hQ _ _ Dt lq lr vq nq vr nr F₅ (news_sub N₅ mix_put) (fun p hp => hne p (.tail _ hp)) i1 i2
noncomputable def sizeB (p : List Int) : Nat := ((p.getD (p.length - 1) 0).fmod 3 + 1).toNat
theorem sizeB_eq (p : List Int) : ((sizeB p : Nat) : Int) = (p.getD (p.length - 1) 0).fmod 3 + 1 := by
  have := Int.fmod_nonneg_of_pos (p.getD (p.length - 1) 0) (show (0 : Int) < 3 by omega)
  unfold sizeB; lia
theorem sizeB_le (p : List Int) : sizeB p ≤ 3 := by
  have := Int.fmod_lt_of_pos (p.getD (p.length - 1) 0) (show (0 : Int) < 3 by omega)
  have := sizeB_eq p
  omega
theorem law_put2 {w : World} {mg mb : Str → Option Value} {means : ExcName → Option Value} {dp un : Nat} {fr : Option (List Env)} {gu : Option (List Code)} {s : Shared} {h₀ : Heap} {L lp : Addr} {m : Str → Option Value} {Q : Flow → Shared → Prop} {oc : Obj} {vs : List Value} {ps : List (List Int)} {n : Nat} {T rest : List (Addr × Obj)} {fo : Int} {tf : Tok}
    (F : Fr h₀ L s.heap m) (N : News h₀ L s.heap ((lp, W.listOf (List.toArray vs) n) :: (L + 1, oc) :: rest)) (T' : Top q (looseW q loose) means mg mb h₀) (hc : oc.data = .cell (some (.ref lp))) (pl : LP T vs ps) (hT : ∀ q ∈ T, q ∈ rest) (hn : ps.length ≤ 62) (hl : ∀ p ∈ ps, p ≠ [] ∧ p.length ≤ 62)
    (mf : m (Str.ofString "foreign") = some (.int fo tf)) (hroom : dp + 2 < recursionLimit) (hu : un + 80 < cLine)
    (hQ : ∀ h' tk D lq lr vq nq vr nr, Fr h₀ L h' (fun y => if y = Str.ofString "other" then some (.ref D) else m y) → News h₀ L h' ((D, tupObj #[.ref lr, .ref lq]) :: (lr, W.listOf (List.toArray vr) nr) :: (lq, W.listOf (List.toArray vq) nq) :: (lp, W.listOf (List.toArray vs) n) :: (L + 1, oc) :: rest) → (∀ p ∈ (lp, W.listOf (List.toArray vs) n) :: (L + 1, oc) :: rest, @Ne Nat p.1 D ∧ @Ne Nat p.1 lr ∧ @Ne Nat p.1 lq) →
      IntsAre vr (rowN fo ps (ps.map sizeB) ps.length) → IntsAre vq ((placesN fo ps (ps.map sizeB) ps.length).map fun (n : Nat) => (n : Int)) → Q .next { s with heap := h', toks := tk }) :
    (K w.params).In h₀ → PySem.Challenge.rw_dm0054_12.prog = pw → wpAny (model pw w) (Around.mk none dp fr gu un) (exec (stAt (fnBody (top 9)) 7) (lawEnv L)) Q (fun _ _ => False) s := by
  k_fill
  intro X' hpw
  refine wpAny_Assign_Name ?_
  k_steps
  rename Fr _ _ _ _ => F₂
  rename News _ _ _ _ => N₂
  unfold EvalStop
  refine LCg.ListComp_U F₂ (by rfl) (by decide) (by rfl) (by decide) (by rfl) ?_
  k_steps
  unfold SrcStopU
  refine LCg.CompSrc.ledger rfl F₂ N₂ (.head _) (by unfold sizeLine; simp only [List.size_toArray]; rw [pl.1]; lia) ?_
  intro g
  refine compRest_sizes (f := sizeB) pl (.inr ⟨_, .head _, rfl, _, rfl⟩) ?_ ?_
  · intro p a ws k I oI C oC D ys m₂ h tk E' hp ha hi hC hx F₃ N₃
    have ha' : (a, W.listOf (List.toArray ws) k) ∈ (I, oI) :: (C, oC) :: (D, LCg.lst ys) :: (lp, W.listOf (List.toArray vs) n) :: (L + 1, oc) :: rest := .tail _ (.tail _ (.tail _ (.tail _ (.tail _ (hT _ ha)))))
    have hpp : 0 < p.length := List.length_pos_iff.mpr (hl p hp).1
    have hpl := (hl p hp).2
    clear F₂ N₂
    k_steps
    exact (.mk _ _ (⟨_, by rw [sizeB_eq]⟩) F₃ N₃)
  · intro ys hI D h tk F₃ N₃ ho
    clear F₂ N₂
    k_steps
    unfold CallStop
    refine put_callL F₃ N₃ X' T' (.tail _ (.head _)) pl (fun q hq => .tail _ (.tail _ (.tail _ (hT q hq)))) (.head _) hI (by simp) hn (fun p hp => (hl p hp).2) (fun z hz => by obtain ⟨p, _, rfl⟩ := List.mem_map.mp hz; exact sizeB_le p) hroom (by lia) ?_
    intro h₄ tk₄ Dt lq lr vq nq vr nr F₄ N₄ hne i1 i2
    clear F₃ N₃
    k_steps
    rename Fr _ _ _ _ => F₅
    rename News _ _ _ _ => N₅
    exact hQ _ _ Dt lq lr vq nq vr nr F₅ (news_sub N₅ mix_put) (fun p hp => hne p (.tail _ hp)) i1 i2
theorem law_put4 {w : World} {mg mb : Str → Option Value} {means : ExcName → Option Value} {dp un : Nat} {fr : Option (List Env)} {gu : Option (List Code)} {s : Shared} {h₀ : Heap} {L lp : Addr} {m : Str → Option Value} {Q : Flow → Shared → Prop} {vs : List Value} {ps : List (List Int)} {n : Nat} {T rest : List (Addr × Obj)} {fo : Int} {tf : Tok}
    (F : Fr h₀ L s.heap m) (N : News h₀ L s.heap ((lp, W.listOf (List.toArray vs) n) :: rest)) (T' : Top q (looseW q loose) means mg mb h₀) (mp : m (Str.ofString "falling") = some (.ref lp)) (pl : LP T vs ps) (hT : ∀ q ∈ T, q ∈ rest) (hn : ps.length ≤ 62) (hl : ∀ p ∈ ps, p ≠ [] ∧ p.length ≤ 62)
    (mf : m (Str.ofString "foreign") = some (.int fo tf)) (hroom : dp + 2 < recursionLimit) (hu : un + 80 < cLine)
    (hQ : ∀ h' tk D lq lr vq nq vr nr, Fr h₀ L h' (fun y => if y = Str.ofString "other" then some (.ref D) else m y) → News h₀ L h' ((D, tupObj #[.ref lr, .ref lq]) :: (lr, W.listOf (List.toArray vr) nr) :: (lq, W.listOf (List.toArray vq) nq) :: (lp, W.listOf (List.toArray vs) n) :: rest) → (∀ p ∈ (lp, W.listOf (List.toArray vs) n) :: rest, @Ne Nat p.1 D ∧ @Ne Nat p.1 lr ∧ @Ne Nat p.1 lq) →
      IntsAre vr (rowN fo ps (ps.map sizeB) ps.length) → IntsAre vq ((placesN fo ps (ps.map sizeB) ps.length).map fun (n : Nat) => (n : Int)) → Q .next { s with heap := h', toks := tk }) :
    (K w.params).In h₀ → PySem.Challenge.rw_dm0054_12.prog = pw → wpAny (model pw w) (Around.mk none dp fr gu un) (exec (stAt (fnBody (top 9)) 11) (lawEnv L)) Q (fun _ _ => False) s := by
  k_fill
  intro X' hpw
  refine wpAny_Assign_Name ?_
  k_steps
  rename Fr _ _ _ _ => F₂
  rename News _ _ _ _ => N₂
  unfold EvalStop
  refine LCg.ListComp_U F₂ (by rfl) (by decide) (by rfl) (by decide) (by rfl) ?_
  k_steps
  unfold SrcStopU
  refine LCg.CompSrc.ledger rfl F₂ N₂ (.head _) (by unfold sizeLine; simp only [List.size_toArray]; rw [pl.1]; lia) ?_
  intro g
  refine compRest_sizes (f := sizeB) pl (.inr ⟨_, .head _, rfl, _, rfl⟩) ?_ ?_
  · intro p a ws k I oI C oC D ys m₂ h tk E' hp ha hi hC hx F₃ N₃
    have ha' : (a, W.listOf (List.toArray ws) k) ∈ (I, oI) :: (C, oC) :: (D, LCg.lst ys) :: (lp, W.listOf (List.toArray vs) n) :: rest := .tail _ (.tail _ (.tail _ (.tail _ (hT _ ha))))
    have hpp : 0 < p.length := List.length_pos_iff.mpr (hl p hp).1
    have hpl := (hl p hp).2
    clear F₂ N₂
    k_steps
    exact (.mk _ _ (⟨_, by rw [sizeB_eq]⟩) F₃ N₃)
  · intro ys hI D h tk F₃ N₃ ho
    clear F₂ N₂
    k_steps
    unfold CallStop
    refine put_callL F₃ N₃ X' T' (.tail _ (.head _)) pl (fun q hq => .tail _ (.tail _ (hT q hq))) (.head _) hI (by simp) hn (fun p hp => (hl p hp).2) (fun z hz => by obtain ⟨p, _, rfl⟩ := List.mem_map.mp hz; exact sizeB_le p) hroom (by lia) ?_
    intro h₄ tk₄ Dt lq lr vq nq vr nr F₄ N₄ hne i1 i2
    clear F₃ N₃
    k_steps
    rename Fr _ _ _ _ => F₅
    rename News _ _ _ _ => N₅
    exact hQ _ _ Dt lq lr vq nq vr nr F₅ (news_sub N₅ mix_put) (fun p hp => hne p (.tail _ hp)) i1 i2
theorem lenN {prog : Program} {w : World} {A : Around} {E : Value → Shared → Prop} {s : Shared} {h₀ : Heap} {L l : Addr} {news : List (Addr × Obj)} {vs : List Value} {k n : Nat} {Q : Value → Shared → Prop} (N : News h₀ L s.heap news) (hl : (l, W.listOf vs.toArray k) ∈ news) (e : vs.length = n) (hz : n < 2 ^ 20)
    (h : ∀ t tk, Q (.int (n : Nat) t) { s with toks := tk }) : wpAny (model prog w) A (call (.builtin "len") [.ref l]) Q E s := by
  have hs : vs.toArray.size = n := by simpa using e
  refine len_list (N.isList hl) (by rw [hs]; lia) ?_
  rw [hs]
  exact h _ _
local macro_rules | `(tactic| walk_at "call builtin:len") => ln ``lenN "k_asm k_mem assumption omega _" "t' tk'" false false
theorem law_put3 {w : World} {mg mb : Str → Option Value} {means : ExcName → Option Value} {dp un : Nat} {fr : Option (List Env)} {gu : Option (List Code)} {s : Shared} {h₀ : Heap} {L lp : Addr} {m : Str → Option Value} {Q : Flow → Shared → Prop} {vs : List Value} {ps : List (List Int)} {n : Nat} {T rest : List (Addr × Obj)} {fo : Int} {tf : Tok}
    (F : Fr h₀ L s.heap m) (N : News h₀ L s.heap ((lp, W.listOf (List.toArray vs) n) :: rest)) (T' : Top q (looseW q loose) means mg mb h₀) (mp : m (Str.ofString "falling") = some (.ref lp)) (pl : LP T vs ps) (hT : ∀ q ∈ T, q ∈ rest) (hn : ps.length ≤ 62) (hl : ∀ p ∈ ps, p ≠ [] ∧ p.length ≤ 62)
    (mf : m (Str.ofString "foreign") = some (.int fo tf)) (hroom : dp + 2 < recursionLimit) (hu : un + 80 < cLine)
    (hQ : ∀ h' tk D lq lr vq nq vr nr, Fr h₀ L h' (fun y => if y = Str.ofString "one" then some (.ref D) else m y) → News h₀ L h' ((D, tupObj #[.ref lr, .ref lq]) :: (lr, W.listOf (List.toArray vr) nr) :: (lq, W.listOf (List.toArray vq) nq) :: (lp, W.listOf (List.toArray vs) n) :: rest) → (∀ p ∈ (lp, W.listOf (List.toArray vs) n) :: rest, @Ne Nat p.1 D ∧ @Ne Nat p.1 lr ∧ @Ne Nat p.1 lq) →
      IntsAre vr (rowN (-fo) ps (ps.map fun _ => 0) ps.length) → IntsAre vq ((placesN (-fo) ps (ps.map fun _ => 0) ps.length).map fun (n : Nat) => (n : Int)) → Q .next { s with heap := h', toks := tk }) :
    (K w.params).In h₀ → PySem.Challenge.rw_dm0054_12.prog = pw → wpAny (model pw w) (Around.mk none dp fr gu un) (exec (stAt (fnBody (top 9)) 10) (lawEnv L)) Q (fun _ _ => False) s := by
  have hvl := pl.1
  k_fill
  intro X' hpw
  refine wpAny_Assign_Name ?_
  k_steps
  rename Fr _ _ _ _ => F₃
  rename News _ _ _ _ => N₃
  rename IntsAre _ _ => hI
  have hI' : IntsAre (List.replicate ((ps.length : Int)).toNat [Value.int 0 (s.toks + 1)]).flatten ((ps.map fun _ => 0).map fun (n : Nat) => (n : Int)) := by
    rw [Int.toNat_natCast, List.flatten_replicate_singleton] at hI ⊢
    rw [List.flatten_replicate_singleton] at hI
    rw [show (ps.map fun _ => 0).map (fun (n : Nat) => (n : Int)) = List.replicate ps.length 0 by rw [List.map_map]; exact List.map_const' ..]
    exact hI
  clear hI
  unfold CallStop
  refine put_callL F₃ N₃ X' T' (.tail _ (.tail _ (.head _))) pl (fun q hq => .tail _ (.tail _ (.tail _ (hT q hq)))) (.head _) hI' (by simp) hn (fun p hp => (hl p hp).2) (fun z hz => by obtain ⟨p, _, rfl⟩ := List.mem_map.mp hz; lia) hroom (by lia) ?_
  intro h₄ tk₄ Dt lq lr vq nq vr nr F₄ N₄ hne i1 i2
  clear F₃ N₃
  k_steps
  rename Fr _ _ _ _ => F₅
  rename News _ _ _ _ => N₅
  exact hQ _ _ Dt lq lr vq nq vr nr F₅ (news_sub N₅ mix_put2) (fun p hp => hne p (.tail _ (.tail _ hp))) i1 i2
end Mine
end
section
open PySem PySem.W PySem.Calls PyProof.Rows PyProof.Rows.LCg
set_option maxRecDepth 100000
set_option maxHeartbeats 1000000
set_option Elab.async false
set_option linter.unusedVariables false
namespace Mine
theorem LP.nil {T : List (Addr × Obj)} : LP T [] [] := ⟨rfl, fun i p h => by simp at h⟩
theorem LP.cons {T : List (Addr × Obj)} {vs : List Value} {ps : List (List Int)} {a : Addr} {ws : List Value} {k : Nat} {p : List Int} (hm : (a, W.listOf (List.toArray ws) k) ∈ T) (hi : IntsAre ws p) (t : LP T vs ps) : LP T (.ref a :: vs) (p :: ps) := ⟨by simp [t.1], fun i p' h => by
  cases i with
  | zero => simp at h; subst h; exact ⟨a, ws, k, by simp, hm, hi⟩
  | succ i => simpa using t.2 i p' (by simpa using h)⟩
theorem LP.uncons {T : List (Addr × Obj)} {vs : List Value} {ps : List (List Int)} {v : Value} {p : List Int} (t : LP T (v :: vs) (p :: ps)) : (∃ a ws k, v = Value.ref a ∧ (a, W.listOf (List.toArray ws) k) ∈ T ∧ IntsAre ws p) ∧ LP T vs ps := ⟨by
  obtain ⟨a, ws, k, h1, h2, h3⟩ := t.2 0 p (by simp)
  exact ⟨a, ws, k, by simpa using h1, h2, h3⟩, by simpa using t.1, fun i p' h => by simpa using t.2 (i + 1) p' (by simpa using h)⟩
theorem LP.append {T : List (Addr × Obj)} {vs us : List Value} {ps qs : List (List Int)} (t : LP T vs ps) (u : LP T us qs) : LP T (vs ++ us) (ps ++ qs) := by
  induction ps generalizing vs with
  | nil =>
    have : vs = [] := List.eq_nil_of_length_eq_zero t.1
    subst this; exact u
  | cons p ps ih =>
    cases vs with
    | nil => simp [LP] at t
    | cons v vs =>
      obtain ⟨⟨a, ws, k, rfl, h2, h3⟩, t'⟩ := t.uncons
      exact LP.cons h2 h3 (ih t')
noncomputable def longAs (T : List (Addr × Obj)) (v u : Value) : Bool := match v with
  | .int z _ => decide (((valsAt T u).length : Int) = z)
  | _ => false
theorem LP.filter {h₀ h : Heap} {L : Addr} {news T : List (Addr × Obj)} (N : News h₀ L h news) (hs : ∀ p ∈ T, p ∈ news) {z : Int} {t : Tok} {ps : List (List Int)} : ∀ {vs : List Value}, LP T vs ps → LP T (vs.filter (longAs T (.int z t))) (ps.filter fun p => decide ((p.length : Int) = z)) := by
  induction ps with
  | nil =>
    intro vs l
    have : vs = [] := List.eq_nil_of_length_eq_zero l.1
    subst this; exact .nil
  | cons p ps ih =>
    intro vs l
    cases vs with
    | nil => simp [LP] at l
    | cons v vs =>
      obtain ⟨⟨a, ws, k, rfl, h2, h3⟩, l'⟩ := l.uncons
      have e : longAs T (.int z t) (.ref a) = decide ((p.length : Int) = z) := by
        unfold longAs
        rw [valsAt_of N hs h2, intsAre_len h3]
      rw [List.filter_cons, List.filter_cons, e]
      split
      · exact .cons h2 h3 (ih l')
      · exact ih l'
theorem paired_eq {us zs : List Value} (h : Paired (fun u y => y = u) us zs) : zs = us := by
  induction h with
  | nil => rfl
  | cons h _ ih => rw [h, ih]
theorem count_step (ps : List (List Int)) (m : Nat) : ps.countP (fun p => decide (p.length ≤ m + 1)) = (ps.filter fun p => decide ((p.length : Int) = (m + 1 : Nat))).length + ps.countP (fun p => decide (p.length ≤ m)) := by
  rw [← List.countP_eq_length_filter]
  induction ps with
  | nil => rfl
  | cons p ps ih =>
    simp only [List.countP_cons, ih, decide_eq_true_eq]
    split <;> split <;> split <;> omega
structure Falls (S : Nat) (ps qs : List (List Int)) : Prop where
  sub : ∀ q ∈ qs, q ∈ ps
  fall : qs.Pairwise fun a b => b.length ≤ a.length
  len : qs.length ≤ ps.length
theorem falls_of {h₀ h : Heap} {L : Addr} {news T : List (Addr × Obj)} (N : News h₀ L h news) (hs : ∀ p ∈ T, p ∈ news) {vs ys : List Value} {ps : List (List Int)} {S : Nat} (l : LP T vs ps) (hf : Flat (fun i v => i < S ∧ ∃ t, v = .int ((S : Int) - i) t) (fun _ => vs) (longAs T) (fun _ u y => y = u) S ys) : ∃ qs, LP T ys qs ∧ Falls S ps qs := by
  have key : ∀ i ys, i ≤ S → Flat (fun i v => i < S ∧ ∃ t, v = .int ((S : Int) - i) t) (fun _ => vs) (longAs T) (fun _ u y => y = u) i ys → ∃ qs, LP T ys qs ∧ (∀ q ∈ qs, q ∈ ps ∧ S < q.length + i) ∧ (qs.Pairwise fun a b => b.length ≤ a.length) ∧ qs.length + ps.countP (fun p => decide (p.length ≤ S - i)) ≤ ps.length := by
    intro i ys hi hf
    induction hf with
    | zero => exact ⟨[], LP.nil, (fun _ h => nomatch h), List.Pairwise.nil, by simpa using List.countP_le_length⟩
    | @succ i ys zs v hf hv hp ih =>
      obtain ⟨qs, h1, h2, h3, h4⟩ := ih (by exact (Nat.le_of_lt hi))
      obtain ⟨hiS, t, rfl⟩ := hv
      have e := paired_eq hp
      subst e
      have e1 : (S : Int) - i = ((S - i - 1 + 1 : Nat) : Int) := by (clear h4; omega)
      rw [e1]
      refine ⟨qs ++ ps.filter fun p => decide ((p.length : Int) = ((S - i - 1 + 1 : Nat) : Int)), h1.append (l.filter N hs), fun q hq => ?_, List.pairwise_append.mpr ⟨h3, ?_, fun a ha b hb => ?_⟩, ?_⟩
      · rcases List.mem_append.mp hq with hq | hq
        · exact ⟨(h2 q hq).1, by have := (h2 q hq).2; lia⟩
        · have h5 := List.mem_filter.mp hq
          exact ⟨h5.1, by have := of_decide_eq_true h5.2; (clear h4; omega)⟩
      · refine List.pairwise_iff_getElem.mpr fun x y hx hy _ => ?_
        have h5 := of_decide_eq_true (List.mem_filter.mp (List.getElem_mem hx)).2
        have h6 := of_decide_eq_true (List.mem_filter.mp (List.getElem_mem hy)).2
        (clear e1 h4; omega)
      · have h5 := (h2 a ha).2
        have h6 := of_decide_eq_true (List.mem_filter.mp hb).2
        (clear h4; omega)
      · have h5 := count_step ps (S - i - 1)
        rw [show S - i - 1 + 1 = S - i by lia] at h5 ⊢
        rw [List.length_append, show S - (i + 1) = S - i - 1 by lia]
        lia
  obtain ⟨qs, h1, h2, h3, h4⟩ := key S ys (Nat.le_refl _) hf
  exact ⟨qs, h1, ⟨fun q hq => (h2 q hq).1, h3, by exact (Nat.le_trans (Nat.le_add_right _ _) h4)⟩⟩
end Mine
end
section
open PySem PySem.W PySem.Calls PyProof.Rows PyProof.Rows.LCg
set_option maxRecDepth 100000
set_option maxHeartbeats 1000000
set_option Elab.async false
set_option linter.unusedVariables false
namespace Mine
local macro_rules | `(tactic| walk_at "eval Name") => ln ``nameX_L "k_asm rfl|assumption _" ""
local macro_rules | `(tactic| walk_at "call builtin:len") => ln ``lenN "k_asm k_mem|assumption assumption omega _" "t' tk'" false false
theorem law_falling {w : World} {mg mb : Str → Option Value} {means : ExcName → Option Value} {dp un : Nat} {fr : Option (List Env)} {gu : Option (List Code)} {s : Shared} {h₀ : Heap} {L lp D : Addr} {m : Str → Option Value} {Q : Flow → Shared → Prop} {oc : Obj} {vs sc : List Value} {ps : List (List Int)} {n nD S : Nat} {T rest : List (Addr × Obj)}
    (F : Fr h₀ L s.heap m) (N : News h₀ L s.heap ((lp, W.listOf (List.toArray vs) n) :: (L + 1, oc) :: (D, W.listOf (List.toArray sc) nD) :: rest)) (T' : Top q (looseW q loose) means mg mb h₀) (hc : oc.data = .cell (some (.ref lp))) (pl : LP T vs ps) (hT : ∀ q ∈ T, q ∈ rest) (hn : ps.length ≤ 62) (hl : ∀ p ∈ ps, p.length ≤ 62)
    (ms : m (Str.ofString "script") = some (.ref D)) (hsc : sc.length = S) (hS : S ≤ 63) (hu : un + 80 < cLine)
    (hQ : ∀ h' tk lf ys qs, Fr h₀ L h' (fun y => if y = Str.ofString "falling" then some (.ref lf) else m y) → News h₀ L h' ((lf, LCg.lst ys) :: (lp, W.listOf (List.toArray vs) n) :: (L + 1, oc) :: (D, W.listOf (List.toArray sc) nD) :: rest) → (∀ p ∈ rest, @Ne Nat p.1 lf) → LP T ys qs → Falls S ps qs → Q .next { s with heap := h', toks := tk }) :
    (K w.params).In h₀ → PySem.Challenge.rw_dm0054_12.prog = pw → wpAny (model pw w) (Around.mk none dp fr gu un) (exec (stAt (fnBody (top 9)) 9) (lawEnv L)) Q (fun _ _ => False) s := by
  have hvl := pl.1
  k_fill
  intro X' hpw
  refine comp2A (cl := [(Str.ofString "pieces", L + 1)]) F (by rfl) (by with_unfolding_all rfl) (by with_unfolding_all rfl) (by decide) (by rfl) (by decide) (by rfl) (by rfl) (by decide) (by rfl) (by rfl) ?_
  k_steps
  rename Fr _ _ _ _ => F₂
  rename News _ _ _ _ => N₂
  rename IsRange _ _ _ _ _ _ _ _ => hrg
  have hs : ∀ q ∈ T, q ∈ (lp, W.listOf (List.toArray vs) n) :: (L + 1, oc) :: (D, W.listOf (List.toArray sc) nD) :: rest := fun q hq => .tail _ (.tail _ (.tail _ (hT q hq)))
  unfold It2
  refine src2_down (n := S) (its := fun _ => vs) (p := longAs T) (G := fun _ u y => y = u) rfl F₂ N₂ hrg (by omega) (fun _ => by omega) ⟨?_, ?_, ?_⟩ ?_
  · intro i v I oI C oC D' oD' m₂ h tk E' hv hC hx F₃ N₃
    clear F₂ N₂
    k_steps
    exact (.mk _ _ (⟨lp, n, rfl, .head _⟩) F₃ N₃)
  · rintro i v u I oI J oJ C oC D' oD' m₂ h tk E' ⟨hi, t, rfl⟩ hu hC hx hx2 F₃ N₃
    obtain ⟨j, hj⟩ := List.getElem?_of_mem hu
    have hjl : j < ps.length := by rw [← pl.1]; exact (List.getElem?_eq_some_iff.mp hj).1
    obtain ⟨a, ws, k, e1, e2, e3⟩ := pl.2 j ps[j] (by simp [hjl])
    rw [hj] at e1
    cases e1
    have e4 := valsAt_of N₂ hs e2
    have e5 := intsAre_len e3
    have e6 := hl _ (List.getElem_mem hjl)
    have hm : (a, W.listOf (List.toArray ws) k) ∈ (I, oI) :: (J, oJ) :: (C, oC) :: (D', oD') :: (lp, W.listOf (List.toArray vs) n) :: (L + 1, oc) :: (D, W.listOf (List.toArray sc) nD) :: rest := .tail _ (.tail _ (.tail _ (.tail _ (hs _ e2))))
    clear F₂ N₂
    refine wpAny_tests_one ?_
    k_steps
    refine (.mk _ _ ?_ F₃ N₃)
    show _ = decide (_ = _)
    rw [e4, e5]
    rw [Bool.eq_iff_iff]; simp
  · rintro i v u I oI J oJ C oC D' oD' m₂ h tk E' hv hu hp hC hx hx2 F₃ N₃
    clear F₂ N₂
    k_steps
    exact (.mk _ _ rfl F₃ N₃)
  · intro h ys hys hf lf h₄ tk₄ F₄ N₄ ho
    obtain ⟨qs, h1, h2⟩ := falls_of N₂ hs pl hf
    exact hQ _ _ lf ys qs F₄ N₄ (fun q hq => ne_of_allNe (allNe_off1 ho) q (.tail _ (.tail _ (.tail _ hq)))) h1 h2
end Mine
end
section
open PySem PySem.W PySem.Calls PyProof.Rows PyProof.Rows.LCg
set_option maxRecDepth 100000
set_option maxHeartbeats 1000000
set_option Elab.async false
set_option linter.unusedVariables false
namespace Mine
theorem fr_gen {h₀ h : Heap} {L : Addr} {x : Str} {v : Value} {m : Str → Option Value} (F : Fr h₀ L h (fun y => if y = x then some v else m y)) : ∃ m', Fr h₀ L h m' ∧ m' x = some v ∧ ∀ y, y ≠ x → m' y = m y := ⟨_, F, if_pos rfl, fun _ h => if_neg h⟩
theorem rowN_len {f : Int} {ps : List (List Int)} {zs : List Nat} (hp : ∀ p ∈ ps, p.length ≤ 62) (hz : ∀ z ∈ zs, z ≤ 3) : ∀ i, (rowN f ps zs i).length ≤ 65 * i
  | 0 => Nat.le_refl _
  | i + 1 => by
    have ih := rowN_len (f := f) hp hz i
    rw [rowN, List.length_append, List.length_append, List.length_replicate]
    have h1 : zs.getD i 0 ≤ 3 := by
      rw [List.getD_eq_getElem?_getD]
      cases e : zs[i]? with
      | none => exact Nat.zero_le _
      | some z => exact hz z (List.mem_of_getElem? e)
    have h2 : (ps.getD i []).length ≤ 62 := by
      rw [List.getD_eq_getElem?_getD]
      cases e : ps[i]? with
      | none => exact Nat.zero_le _
      | some z => exact hp z (List.mem_of_getElem? e)
    omega
theorem placesN_len {f : Int} {ps : List (List Int)} {zs : List Nat} {i : Nat} : (placesN f ps zs i).length = i := by simp [placesN]
theorem sizeA_pos (p : List Int) : 0 < sizeA p := by
  have := Int.fmod_nonneg_of_pos (p.getD 0 0) (show (0 : Int) < 3 by omega)
  have := sizeA_eq p
  omega
theorem sizeB_pos (p : List Int) : 0 < sizeB p := by
  have := Int.fmod_nonneg_of_pos (p.getD (p.length - 1) 0) (show (0 : Int) < 3 by omega)
  have := sizeB_eq p
  omega
theorem getD_map_pos {g : List Int → Nat} (hg : ∀ p, 0 < g p) (ps : List (List Int)) (k : Nat) (hk : k < ps.length) : 0 < (ps.map g).getD k 0 := by
  rw [List.getD_eq_getElem?_getD, List.getElem?_map, List.getElem?_eq_getElem hk]; exact hg _
theorem sz_pos {ps : List (List Int)} (h : ∀ p ∈ ps, p ≠ []) (k : Nat) (hk : k < ps.length) : 0 < Pure.sz ps k := by
  show 0 < (ps.getD k []).length
  rw [List.getD_eq_getElem?_getD, List.getElem?_eq_getElem hk]
  exact List.length_pos_iff.mpr (h _ (List.getElem_mem hk))
theorem second_ok {fo : Int} {ps : List (List Int)} (hn : ps.length ≤ 62) (hfo : 0 < fo) (hv : ∀ q ∈ ps, ∀ v ∈ q, -fo < v ∧ v < fo) (h : ∀ p ∈ ps, p ≠ []) (hf : ps.Pairwise fun a b => b.length ≤ a.length) : PairOk fo ps (ps.map fun _ => 0) (ps.map sizeB) := by
  refine ok12_second hn hfo hv (sz_pos h) (fun k => ?_) (getD_map_pos sizeB_pos ps) (fun p q hpq hq => ?_)
  · rw [List.getD_eq_getElem?_getD, List.getElem?_map]
    cases ps[k]? <;> rfl
  · show (ps.getD q []).length ≤ (ps.getD p []).length
    rw [List.getD_eq_getElem?_getD, List.getD_eq_getElem?_getD, List.getElem?_eq_getElem hq, List.getElem?_eq_getElem (Nat.lt_of_le_of_lt hpq hq)]
    rcases Nat.lt_or_eq_of_le hpq with h1 | rfl
    · exact List.pairwise_iff_getElem.mp hf p q (Nat.lt_of_le_of_lt hpq hq) hq h1
    · exact Nat.le_refl _
theorem first_ok {fo : Int} {ps : List (List Int)} (hn : ps.length ≤ 62) (hfo : 0 < fo) (hv : ∀ q ∈ ps, ∀ v ∈ q, -fo < v ∧ v < fo) (h : ∀ p ∈ ps, p ≠ []) : PairOk fo ps (ps.map sizeA) (ps.map sizeB) :=
  ok12_first hn hfo hv (sz_pos h) (getD_map_pos sizeA_pos ps) (getD_map_pos sizeB_pos ps)
end Mine
end
section
open PySem PySem.W PySem.Calls PyProof.Rows PyProof.Rows.LCg
set_option maxRecDepth 100000
set_option maxHeartbeats 1000000
set_option Elab.async false
set_option linter.unusedVariables false
namespace Mine
local macro_rules | `(tactic| walk_at "no such key") => prem "assumption"
local macro_rules | `(tactic| walk_at "call ref") => stop ``call_stop
local macro_rules | `(tactic| walk_at "eval Name") => ln ``nameX_L "k_asm rfl|assumption _" ""
theorem law_sm {w : World} {mg mb : Str → Option Value} {means : ExcName → Option Value} {dp un : Nat} {fr : Option (List Env)} {gu : Option (List Code)} {s : Shared} {h₀ : Heap} {L lp D : Addr} {m : Str → Option Value} {Q : Flow → Shared → Prop} {oc op oD : Obj} {T : List (Addr × Obj)}
    (F : Fr h₀ L s.heap m) (N : News h₀ L s.heap ((lp, op) :: (L + 1, oc) :: (D, oD) :: T)) (T' : Top q (looseW q loose) means mg mb h₀) (hroom : dp + 11 < recursionLimit) (hu : un + 80 < cLine)
    (hQ : ∀ h' tk x dx la lb ts l2 lj lq N', Fr h₀ L h' (fun y => if y = Str.ofString "matcher" then some (.ref x) else m y) → News h₀ L h' ((dx, selfD w.params ts .none (.ref la) (.ref lb) (.bool false) .none .none .none (.ref l2) (.ref lj) (.ref lq)) :: (lp, op) :: (L + 1, oc) :: (D, oD) :: ((x, instObj 242 dx) :: (la, W.listOf #[] 0) :: (lb, W.listOf #[] 0) :: (T ++ N'))) →
      AllNe dx ((lp, op) :: (L + 1, oc) :: (D, oD) :: ((x, instObj 242 dx) :: (la, W.listOf #[] 0) :: (lb, W.listOf #[] 0) :: (T ++ N'))) → Q .next { s with heap := h', toks := tk }) :
    (K w.params).In h₀ → PySem.Challenge.rw_dm0054_12.prog = pw → wpAny (model pw w) (Around.mk none dp fr gu un) (exec (stAt (fnBody (top 9)) 5) (lawEnv L)) Q (fun _ _ => False) s := by
  k_fill
  intro X' hpw
  refine wpAny_Assign_Name ?_
  k_steps
  rename Fr _ _ _ _ => F₂
  rename News _ _ _ _ => N₂
  rename_i la _ q1 lb _ q2
  unfold CallStop
  refine sm_call F₂ N₂ X' T' (bs := []) (va := []) (vb := []) (.tail _ (.head _)) (.head _) .nil (by decide) hroom ?_
  intro x dx h₃ tk₃ ts l2 lj lq N' F₃ N₃ hxd hne hne' hbj hlt hlt2
  clear F₂ N₂
  k_steps
  rename Fr _ _ _ _ => F₅
  rename News _ _ _ _ => N₅
  refine hQ _ _ x dx la lb ts l2 lj lq N' F₅ (news_sub N₅ fun p hp => ?_) ?_
  · simp only [List.mem_cons, List.mem_append] at hp ⊢
    grind
  · obtain ⟨n1, n2, n3, n4, n5, n6⟩ := hne
    exact ⟨n3, n4, n5, hxd, n2, n1, allNe_of fun p hp => by
      rcases List.mem_append.mp hp with hp | hp
      · exact ne_of_allNe n6 p hp
      · exact ne_of_allNe hne' p hp⟩
end Mine
end
section
open PySem PySem.W PySem.Calls PyProof.Rows PyProof.Rows.LCg
set_option maxRecDepth 100000
set_option maxHeartbeats 1000000
set_option Elab.async false
set_option linter.unusedVariables false
namespace Mine
structure PairIn (w : World) (rest T : List (Addr × Obj)) (x dx lp to tt lr1 lr2 la lb : Addr) (ps : List (List Int)) (fo : Int) (z1 z2 : List Nat) : Prop where
  ne : AllNe dx rest
  hx : (x, instObj 242 dx) ∈ rest
  hla : ∃ o, (la, o) ∈ rest ∧ o.cls = .type "list"
  hlb : ∃ o, (lb, o) ∈ rest ∧ o.cls = .type "list"
  hlp : ∃ vp np, (lp, W.listOf (List.toArray vp) np) ∈ rest ∧ LP T vp ps
  hT : ∀ q ∈ T, q ∈ rest
  one : ∃ lq v1 k1 w1 k3, (to, tupObj #[.ref lr1, .ref lq]) ∈ rest ∧ (lr1, W.listOf (List.toArray v1) k1) ∈ rest ∧ (lq, W.listOf (List.toArray w1) k3) ∈ rest ∧ IntsAre v1 (rowN (-fo) ps z1 ps.length) ∧ IntsAre w1 ((placesN (-fo) ps z1 ps.length).map fun (n : Nat) => (n : Int))
  other : ∃ lq v1 k1 w1 k3, (tt, tupObj #[.ref lr2, .ref lq]) ∈ rest ∧ (lr2, W.listOf (List.toArray v1) k1) ∈ rest ∧ (lq, W.listOf (List.toArray w1) k3) ∈ rest ∧ IntsAre v1 (rowN fo ps z2 ps.length) ∧ IntsAre w1 ((placesN fo ps z2 ps.length).map fun (n : Nat) => (n : Int))
  n5 : ps.length ≤ 62
  n6 : ∀ p ∈ ps, p.length ≤ 62
  z3 : ∀ z ∈ z1, z ≤ 3
  z4 : ∀ z ∈ z2, z ≤ 3
  d1 : @Ne Nat lr1 la
  d2 : @Ne Nat lr2 lb
  d3 : @Ne Nat lr1 lr2
  ok : PairOk fo ps z1 z2
section
variable {w : World} {mg mb : Str → Option Value} {means : ExcName → Option Value} {dp un : Nat} {fr : Option (List Env)} {gu : Option (List Code)} {s : Shared} {h₀ : Heap} {m : Str → Option Value} {L x dx lp to tt lr1 lr2 la lb l2 lj lq : Addr} {rest T : List (Addr × Obj)} {ps : List (List Int)} {fo : Int} {z1 z2 : List Nat} {ts : Nat → Tok} {mbk : Value}
theorem pair_callL {E : Value → Shared → Prop} {Q : Value → Shared → Prop} (F : Fr h₀ L s.heap m) (N : News h₀ L s.heap ((dx, selfD w.params ts .none (.ref la) (.ref lb) (.bool false) mbk .none .none (.ref l2) (.ref lj) (.ref lq)) :: rest)) (X : (K w.params).In h₀) (T' : Top q (looseW q loose) means mg mb h₀) (pi : PairIn w rest T x dx lp to tt lr1 lr2 la lb ps fo z1 z2)
    (hroom : dp + 14 < recursionLimit) (hu : un + 90 < cLine)
    (h : ∀ h' tk ts' mbk' l2 lj lq, Fr h₀ L h' m → News h₀ L h' ((dx, selfD w.params ts' .none (.ref lr2) (.ref lr1) (.bool false) mbk' .none .none (.ref l2) (.ref lj) (.ref lq)) :: rest) → Q (.bool true) { s with heap := h', toks := tk }) :
    wpAny (model pw w) (Around.mk none dp fr gu un) (call (.ref 258) [.ref x, .ref lp, .ref to, .ref tt] []) Q E s := by
  obtain ⟨oa, a1, a2⟩ := pi.hla
  obtain ⟨ob, b1, b2⟩ := pi.hlb
  obtain ⟨vp, np, p1, p2⟩ := pi.hlp
  obtain ⟨lq1, v1, k1, w1, k3, o1, o2, o3, o4, o5⟩ := pi.one
  obtain ⟨lq2, v2, k2, w2, k4, t1, t2, t3, t4, t5⟩ := pi.other
  have n1 := rowN_len (f := -fo) pi.n6 pi.z3 ps.length
  have n2 := rowN_len (f := fo) pi.n6 pi.z4 ps.length
  have n5 := pi.n5
  exact place_callL (own := []) F N X T' trivial pi.ne pi.hx a1 b1 a2 b2 p1 p2 pi.hT o1 t1 o2 o4 t2 t4 o3 o5 t3 t5 (by lia) (by (clear n1 hu hroom; lia)) placesN_len placesN_len n5 pi.n6 pi.d1 pi.d2 pi.d3 hroom hu pi.ok.1 pi.ok.2 h
local macro_rules | `(tactic| walk_at "call ref") => stop ``call_stop
local macro_rules | `(tactic| walk_at "eval Name") => ln ``nameX_L "k_asm rfl|assumption _" ""
theorem law_ret {Q : Flow → Shared → Prop} (F : Fr h₀ L s.heap m) (N : News h₀ L s.heap ((dx, selfD w.params ts .none (.ref la) (.ref lb) (.bool false) mbk .none .none (.ref l2) (.ref lj) (.ref lq)) :: rest)) (T' : Top q (looseW q loose) means mg mb h₀) (pi : PairIn w rest T x dx lp to tt lr1 lr2 la lb ps fo z1 z2)
    (m1 : m (Str.ofString "matcher") = some (.ref x)) (m2 : m (Str.ofString "falling") = some (.ref lp)) (m3 : m (Str.ofString "one") = some (.ref to)) (m4 : m (Str.ofString "other") = some (.ref tt)) (hroom : dp + 14 < recursionLimit) (hu : un + 90 < cLine)
    (hQ : ∀ h' tk, Fr h₀ L h' m → Q (.ret (.bool true)) { s with heap := h', toks := tk }) :
    (K w.params).In h₀ → PySem.Challenge.rw_dm0054_12.prog = pw → wpAny (model pw w) (Around.mk none dp fr gu un) (exec (stAt (fnBody (top 9)) 12) (lawEnv L)) Q (fun _ _ => False) s := by
  k_fill
  intro X' hpw
  refine wpAny_Return_some ?_
  k_steps
  unfold CallStop
  refine pair_callL F N X' T' pi hroom hu ?_
  intro h' tk ts' mbk' l2 lj lq F' N'
  exact hQ _ _ F'
theorem law_if {Q : Flow → Shared → Prop} {oc : Obj} (F : Fr h₀ L s.heap m) (N : News h₀ L s.heap ((dx, selfD w.params ts .none (.ref la) (.ref lb) (.bool false) mbk .none .none (.ref l2) (.ref lj) (.ref lq)) :: (L + 1, oc) :: rest)) (T' : Top q (looseW q loose) means mg mb h₀) (hc : oc.data = .cell (some (.ref lp))) (pi : PairIn w ((L + 1, oc) :: rest) T x dx lp to tt lr1 lr2 la lb ps fo z1 z2)
    (m1 : m (Str.ofString "matcher") = some (.ref x)) (m3 : m (Str.ofString "one") = some (.ref to)) (m4 : m (Str.ofString "other") = some (.ref tt)) (hroom : dp + 14 < recursionLimit) (hu : un + 90 < cLine)
    (hQ : ∀ h' tk ts' mbk' l2 lj lq, Fr h₀ L h' m → News h₀ L h' ((dx, selfD w.params ts' .none (.ref lr2) (.ref lr1) (.bool false) mbk' .none .none (.ref l2) (.ref lj) (.ref lq)) :: (L + 1, oc) :: rest) → Q .next { s with heap := h', toks := tk }) :
    (K w.params).In h₀ → PySem.Challenge.rw_dm0054_12.prog = pw → wpAny (model pw w) (Around.mk none dp fr gu un) (exec (stAt (fnBody (top 9)) 8) (lawEnv L)) Q (fun _ _ => False) s := by
  k_fill
  intro X' hpw
  refine wpAny_If ?_
  k_steps
  unfold CallStop
  refine pair_callL F N X' T' pi hroom hu ?_
  intro h' tk ts' mbk' l2 lj lq F' N'
  clear F N
  k_steps
  exact hQ _ _ ts' mbk' l2 lj lq F' N'
end
end Mine
end
section
open PySem PySem.W PySem.Calls PyProof.Rows PyProof.Rows.LCg
set_option maxRecDepth 100000
set_option maxHeartbeats 1000000
set_option Elab.async false
set_option linter.unusedVariables false
namespace Mine
theorem mixQ1 {α : Type} {a b c d : α} {T : List α} : ∀ p ∈ b :: c :: d :: a :: T, p ∈ a :: b :: c :: d :: T := by
  intro p hp; simp only [List.mem_cons] at hp ⊢; grind
theorem mixQ2 {α : Type} {a b c d : α} {T : List α} : ∀ p ∈ d :: a :: b :: c :: T, p ∈ a :: b :: c :: d :: T := by
  intro p hp; simp only [List.mem_cons] at hp ⊢; grind
theorem mixQ3 {α : Type} {x a b c d e f g h i j : α} {T : List α} : ∀ p ∈ x :: a :: b :: c :: d :: e :: f :: g :: h :: i :: j :: T, p ∈ a :: b :: c :: d :: e :: f :: g :: h :: i :: j :: x :: T := by
  intro p hp; simp only [List.mem_cons] at hp ⊢; grind
theorem mixQ4 {α : Type} {a b c d : α} {T : List α} : ∀ p ∈ b :: c :: a :: d :: T, p ∈ a :: b :: c :: d :: T := by
  intro p hp; simp only [List.mem_cons] at hp ⊢; grind
theorem mixQ5 {α : Type} {a b c d e : α} {T : List α} : ∀ p ∈ d :: e :: a :: b :: c :: T, p ∈ a :: b :: c :: d :: e :: T := by
  intro p hp; simp only [List.mem_cons] at hp ⊢; grind
theorem mixQ6 {α : Type} {x a b c d e f g h : α} {T : List α} : ∀ p ∈ x :: e :: a :: b :: c :: d :: f :: g :: h :: T, p ∈ a :: b :: c :: d :: e :: f :: g :: h :: x :: T := by
  intro p hp; simp only [List.mem_cons] at hp ⊢; grind
theorem mixQ7 {α : Type} {x a b c d e f g h i : α} {T : List α} : ∀ p ∈ x :: d :: e :: i :: a :: b :: c :: f :: g :: h :: T, p ∈ x :: e :: a :: b :: c :: d :: f :: g :: h :: i :: T := by
  intro p hp; simp only [List.mem_cons] at hp ⊢; grind
section
variable {w : World} {mg mb : Str → Option Value} {means : ExcName → Option Value} {dp un : Nat} {fr : Option (List Env)} {gu : Option (List Code)} {s : Shared} {h₀ : Heap} {m : Str → Option Value} {L x dx lp la lb D l2 lj lq : Addr} {rest T : List (Addr × Obj)} {ps : List (List Int)} {fo : Int} {tf : Tok} {ts : Nat → Tok} {mbk : Value} {oc : Obj} {vs sc : List Value} {n nD S : Nat}
theorem law_T2 {Q : Flow → Shared → Prop}
    (F : Fr h₀ L s.heap m) (N : News h₀ L s.heap ((dx, selfD w.params ts .none (.ref la) (.ref lb) (.bool false) mbk .none .none (.ref l2) (.ref lj) (.ref lq)) :: (lp, W.listOf (List.toArray vs) n) :: (L + 1, oc) :: (D, W.listOf (List.toArray sc) nD) :: rest)) (T' : Top q (looseW q loose) means mg mb h₀)
    (ne : AllNe dx ((lp, W.listOf (List.toArray vs) n) :: (L + 1, oc) :: (D, W.listOf (List.toArray sc) nD) :: rest)) (hc : oc.data = .cell (some (.ref lp))) (pl : LP T vs ps) (hT : ∀ q ∈ T, q ∈ rest) (hn : ps.length ≤ 62) (hl : ∀ p ∈ ps, p ≠ [] ∧ p.length ≤ 62) (hfo : 0 < fo) (hv : ∀ q ∈ ps, ∀ v ∈ q, -fo < v ∧ v < fo)
    (hx : (x, instObj 242 dx) ∈ rest) (hla : ∃ o, (la, o) ∈ rest ∧ o.cls = .type "list") (hlb : ∃ o, (lb, o) ∈ rest ∧ o.cls = .type "list") (ms : m (Str.ofString "script") = some (.ref D)) (mm : m (Str.ofString "matcher") = some (.ref x)) (mf : m (Str.ofString "foreign") = some (.int fo tf)) (hsc : sc.length = S) (hS : S ≤ 63) (hroom : dp + 14 < recursionLimit) (hu : un + 90 < cLine)
    (hQ : ∀ h' tk m', Fr h₀ L h' m' → Q (.ret (.bool true)) { s with heap := h', toks := tk }) :
    (K w.params).In h₀ → PySem.Challenge.rw_dm0054_12.prog = pw → wpAny (model pw w) (Around.mk none dp fr gu un) (execs ((fnBody (top 9)).drop 9) (lawEnv L)) Q (fun _ _ => False) s := by
  intro X hpw
  have dT : ∀ q ∈ T, q ∈ (dx, selfD w.params ts .none (.ref la) (.ref lb) (.bool false) mbk .none .none (.ref l2) (.ref lj) (.ref lq)) :: rest := fun q hq => .tail _ (hT q hq)
  refine wpAny_execs_cons ?_
  refine law_falling (rest := (dx, selfD w.params ts .none (.ref la) (.ref lb) (.bool false) mbk .none .none (.ref l2) (.ref lj) (.ref lq)) :: rest) F (news_sub N mixQ1) T' hc pl dT hn (fun p hp => (hl p hp).2) ms hsc hS (by omega) ?_ X hpw
  intro h₁ tk₁ lf ys qs F₁ N₁ ne₁ pq fl
  clear F N
  obtain ⟨m₁, F₁, e₁, k₁⟩ := fr_gen F₁
  have hnq : qs.length ≤ 62 := Nat.le_trans fl.len hn
  have hlq : ∀ p ∈ qs, p ≠ [] ∧ p.length ≤ 62 := fun p hp => hl p (fl.sub p hp)
  dsimp only
  refine wpAny_execs_cons ?_
  refine law_put3 (rest := (lp, W.listOf (List.toArray vs) n) :: (L + 1, oc) :: (D, W.listOf (List.toArray sc) nD) :: (dx, selfD w.params ts .none (.ref la) (.ref lb) (.bool false) mbk .none .none (.ref l2) (.ref lj) (.ref lq)) :: rest) (n := ys.length) F₁ N₁ T' e₁ pq (fun q hq => .tail _ (.tail _ (.tail _ (dT q hq)))) hnq hlq ((k₁ _ (by decide)).trans mf) (by omega) (by omega) ?_ X hpw
  intro h₂ tk₂ D1 lq1 lr1 vq1 nq1 vr1 nr1 F₂ N₂ ne₂ i1 i2
  clear F₁ N₁
  obtain ⟨m₂, F₂, e₂, k₂⟩ := fr_gen F₂
  dsimp only
  refine wpAny_execs_cons ?_
  refine law_put4 (n := ys.length) (rest := (D1, tupObj #[.ref lr1, .ref lq1]) :: (lr1, W.listOf (List.toArray vr1) nr1) :: (lq1, W.listOf (List.toArray vq1) nq1) :: (lp, W.listOf (List.toArray vs) n) :: (L + 1, oc) :: (D, W.listOf (List.toArray sc) nD) :: (dx, selfD w.params ts .none (.ref la) (.ref lb) (.bool false) mbk .none .none (.ref l2) (.ref lj) (.ref lq)) :: rest) F₂ (news_sub N₂ mixQ2) T' ((k₂ _ (by decide)).trans e₁) pq (fun q hq => .tail _ (.tail _ (.tail _ (.tail _ (.tail _ (.tail _ (dT q hq))))))) hnq hlq ((k₂ _ (by decide)).trans ((k₁ _ (by decide)).trans mf)) (by omega) (by omega) ?_ X hpw
  intro h₃ tk₃ D2 lq2 lr2 vq2 nq2 vr2 nr2 F₃ N₃ ne₃ i3 i4
  clear F₂ N₂
  obtain ⟨m₃, F₃, e₃, k₃⟩ := fr_gen F₃
  dsimp only
  refine wpAny_execs_cons ?_
  obtain ⟨oa, a1, a2⟩ := hla
  obtain ⟨ob, b1, b2⟩ := hlb
  have d₂ := ne₂ (dx, _) (.tail _ (.tail _ (.tail _ (.tail _ (.head _)))))
  have d₃ := ne₃ (dx, _) (.tail _ (.tail _ (.tail _ (.tail _ (.tail _ (.tail _ (.tail _ (.head _))))))))
  refine law_ret (x := x) (lp := lf) (T := T) (ps := qs) (fo := fo) (z1 := qs.map fun _ => 0) (z2 := qs.map sizeB) (to := D1) (tt := D2) (lr1 := lr1) (lr2 := lr2) (rest := (D2, tupObj #[.ref lr2, .ref lq2]) :: (lr2, W.listOf (List.toArray vr2) nr2) :: (lq2, W.listOf (List.toArray vq2) nq2) :: (lf, W.listOf (List.toArray ys) ys.length) :: (D1, tupObj #[.ref lr1, .ref lq1]) :: (lr1, W.listOf (List.toArray vr1) nr1) :: (lq1, W.listOf (List.toArray vq1) nq1) :: (lp, W.listOf (List.toArray vs) n) :: (L + 1, oc) :: (D, W.listOf (List.toArray sc) nD) :: rest) F₃ (news_sub N₃ mixQ3) T'
    ⟨?_, ?_, ⟨oa, ?_, a2⟩, ⟨ob, ?_, b2⟩, ⟨ys, ys.length, ?_, pq⟩, ?_, ⟨lq1, vr1, nr1, vq1, nq1, ?_, ?_, ?_, i1, i2⟩, ⟨lq2, vr2, nr2, vq2, nq2, ?_, ?_, ?_, i3, i4⟩, hnq, fun p hp => (hlq p hp).2, fun z hz => ?_, fun z hz => ?_, ?_, ?_, ?_, second_ok hnq hfo (fun q hq => hv q (fl.sub q hq)) (fun p hp => (hlq p hp).1) fl.fall⟩
    ((k₃ _ (by decide)).trans ((k₂ _ (by decide)).trans ((k₁ _ (by decide)).trans mm))) ((k₃ _ (by decide)).trans ((k₂ _ (by decide)).trans e₁)) ((k₃ _ (by decide)).trans e₂) e₃ hroom hu ?_ X hpw
  · exact ⟨Ne.symm d₃.1, Ne.symm d₃.2.1, Ne.symm d₃.2.2, Ne.symm (ne₁ _ (.head _)), Ne.symm d₂.1, Ne.symm d₂.2.1, Ne.symm d₂.2.2, ne⟩
  · exact .tail _ (.tail _ (.tail _ (.tail _ (.tail _ (.tail _ (.tail _ (.tail _ (.tail _ (.tail _ (hx))))))))))
  · exact .tail _ (.tail _ (.tail _ (.tail _ (.tail _ (.tail _ (.tail _ (.tail _ (.tail _ (.tail _ (a1))))))))))
  · exact .tail _ (.tail _ (.tail _ (.tail _ (.tail _ (.tail _ (.tail _ (.tail _ (.tail _ (.tail _ (b1))))))))))
  · exact .tail _ (.tail _ (.tail _ (.head _)))
  · exact fun q hq => .tail _ (.tail _ (.tail _ (.tail _ (.tail _ (.tail _ (.tail _ (.tail _ (.tail _ (.tail _ ((hT q hq)))))))))))
  · exact .tail _ (.tail _ (.tail _ (.tail _ (.head _))))
  · exact .tail _ (.tail _ (.tail _ (.tail _ (.tail _ (.head _)))))
  · exact .tail _ (.tail _ (.tail _ (.tail _ (.tail _ (.tail _ (.head _))))))
  · exact .head _
  · exact .tail _ (.head _)
  · exact .tail _ (.tail _ (.head _))
  · obtain ⟨_, _, rfl⟩ := List.mem_map.mp hz; omega
  · obtain ⟨_, _, rfl⟩ := List.mem_map.mp hz; exact sizeB_le _
  · exact Ne.symm (ne₂ (la, oa) (.tail _ (.tail _ (.tail _ (.tail _ (.tail _ (a1))))))).2.1
  · exact Ne.symm (ne₃ (lb, ob) (.tail _ (.tail _ (.tail _ (.tail _ (.tail _ (.tail _ (.tail _ (.tail _ (b1)))))))))).2.1
  · exact (ne₃ (lr1, _) (.tail _ (.tail _ (.head _)))).2.1
  · exact fun h' tk F' => hQ _ _ _ F'
theorem law_T1 {Q : Flow → Shared → Prop} {ns : List Int} {kd : Int} {tk : Tok}
    (F : Fr h₀ L s.heap m) (N : News h₀ L s.heap [(lp, W.listOf ([] : List Value).toArray n), (L + 1, oc), (D, W.listOf (List.toArray sc) nD)]) (T' : Top q (looseW q loose) means mg mb h₀) (hc : oc.data = .cell (some (.ref lp))) (hI : IntsAre sc ns) (hlen : ns.length ≤ 63)
    (z1 : @Ne Nat (L + 1) lp) (z2 : @Ne Nat D lp) (ms : m (Str.ofString "script") = some (.ref D)) (mk : m (Str.ofString "kind") = some (.int kd tk)) (hroom : dp + 14 < recursionLimit) (hu : un + 90 < cLine)
    (hQ : ∀ h' tk m', Fr h₀ L h' m' → Q (.ret (.bool true)) { s with heap := h', toks := tk }) :
    (K w.params).In h₀ → PySem.Challenge.rw_dm0054_12.prog = pw → wpAny (model pw w) (Around.mk none dp fr gu un) (execs ((fnBody (top 9)).drop 3) (lawEnv L)) Q (fun _ _ => False) s := by
  intro X hpw
  refine wpAny_execs_cons ?_
  refine pieces_for F N T' hc hI hlen z1 z2 ms mk (by omega) ?_ X hpw
  intro h₁ tk₁ m₁ vs n₁ ps T F₁ N₁ pl hn b2 k₁
  clear F N
  have hl : ∀ p ∈ ps, p ≠ [] ∧ p.length ≤ 62 := fun p hp => ⟨(b2 p hp).1, by have := (b2 p hp).2; omega⟩
  dsimp only
  refine wpAny_execs_cons ?_
  refine law_foreign F₁ N₁ T' hc pl hn (fun p hp => (hl p hp).2) ?_ X hpw
  intro h₂ tk₂ fo tf F₂ N₂ hfo hv
  clear F₁ N₁
  obtain ⟨m₂, F₂, e₂, k₂⟩ := fr_gen F₂
  dsimp only
  refine wpAny_execs_cons ?_
  refine law_sm F₂ N₂ T' (by omega) (by omega) ?_ X hpw
  intro h₃ tk₃ x dx la lb ts l2 lj lq N' F₃ N₃ ne
  clear F₂ N₂
  obtain ⟨m₃, F₃, e₃, k₃⟩ := fr_gen F₃
  have f₃ := (k₃ _ (by decide)).trans e₂
  have s₃ : m₃ (Str.ofString "script") = some (.ref D) := (k₃ _ (by decide)).trans ((k₂ _ (by decide)).trans ((k₁ _ (by decide)).trans ms))
  obtain ⟨n1, n2, n3, n4, n5, n6, n7⟩ := ne
  dsimp only at n1 n2 n3 n4 n5 n6
  have pl' := pl.lp
  have hTN : ∀ q ∈ T, q ∈ T ++ N' := fun q hq => List.mem_append_left _ hq
  generalize T ++ N' = R at N₃ n7 hTN
  dsimp only
  refine wpAny_execs_cons ?_
  refine law_put1 (rest := (dx, selfD w.params ts .none (.ref la) (.ref lb) (.bool false) .none .none .none (.ref l2) (.ref lj) (.ref lq)) :: (D, W.listOf (List.toArray sc) nD) :: (x, instObj 242 dx) :: (la, W.listOf #[] 0) :: (lb, W.listOf #[] 0) :: R) F₃ (news_sub N₃ mixQ4) T' hc pl' (fun q hq => .tail _ (.tail _ (.tail _ (.tail _ (.tail _ (hTN q hq)))))) hn hl f₃ (by omega) (by omega) ?_ X hpw
  intro h₄ tk₄ D1 lq1 lr1 vq1 nq1 vr1 nr1 F₄ N₄ ne₄ i1 i2
  clear F₃ N₃
  obtain ⟨m₄, F₄, e₄, k₄⟩ := fr_gen F₄
  dsimp only
  refine wpAny_execs_cons ?_
  refine law_put2 (rest := (D1, tupObj #[.ref lr1, .ref lq1]) :: (lr1, W.listOf (List.toArray vr1) nr1) :: (lq1, W.listOf (List.toArray vq1) nq1) :: (dx, selfD w.params ts .none (.ref la) (.ref lb) (.bool false) .none .none .none (.ref l2) (.ref lj) (.ref lq)) :: (D, W.listOf (List.toArray sc) nD) :: (x, instObj 242 dx) :: (la, W.listOf #[] 0) :: (lb, W.listOf #[] 0) :: R) F₄ (news_sub N₄ mixQ5) T' hc pl' (fun q hq => .tail _ (.tail _ (.tail _ (.tail _ (.tail _ (.tail _ (.tail _ (.tail _ (hTN q hq))))))))) hn hl ((k₄ _ (by decide)).trans f₃) (by omega) (by omega) ?_ X hpw
  intro h₅ tk₅ D2 lq2 lr2 vq2 nq2 vr2 nr2 F₅ N₅ ne₅ i3 i4
  clear F₄ N₄
  obtain ⟨m₅, F₅, e₅, k₅⟩ := fr_gen F₅
  have f₅ := (k₅ _ (by decide)).trans ((k₄ _ (by decide)).trans f₃)
  have s₅ := (k₅ _ (by decide)).trans ((k₄ _ (by decide)).trans s₃)
  have x₅ := (k₅ _ (by decide)).trans ((k₄ _ (by decide)).trans e₃)
  have d₄ := ne₄ (dx, _) (.tail _ (.tail _ (.head _)))
  have d₅ := ne₅ (dx, _) (.tail _ (.tail _ (.tail _ (.tail _ (.tail _ (.head _))))))
  have g1 : @Ne Nat lr1 la := Ne.symm (ne₄ (la, _) (.tail _ (.tail _ (.tail _ (.tail _ (.tail _ (.head _))))))).2.1
  have g2 : @Ne Nat lr2 lb := Ne.symm (ne₅ (lb, _) (.tail _ (.tail _ (.tail _ (.tail _ (.tail _ (.tail _ (.tail _ (.tail _ (.tail _ (.head _))))))))))).2.1
  have g3 : @Ne Nat lr1 lr2 := (ne₅ (lr1, _) (.tail _ (.tail _ (.tail _ (.head _))))).2.1
  have e₄' := (k₅ _ (by decide)).trans e₄
  clear ne₄ ne₅ k₁ k₂ k₃ k₄ k₅ e₂ e₃ f₃ s₃ e₄
  dsimp only
  refine wpAny_execs_cons ?_
  refine law_if (x := x) (lp := lp) (T := T) (ps := ps) (fo := fo) (z1 := ps.map sizeA) (z2 := ps.map sizeB) (to := D1) (tt := D2) (lr1 := lr1) (lr2 := lr2) (rest := (D2, tupObj #[.ref lr2, .ref lq2]) :: (lr2, W.listOf (List.toArray vr2) nr2) :: (lq2, W.listOf (List.toArray vq2) nq2) :: (lp, W.listOf (List.toArray vs) n₁) :: (D1, tupObj #[.ref lr1, .ref lq1]) :: (lr1, W.listOf (List.toArray vr1) nr1) :: (lq1, W.listOf (List.toArray vq1) nq1) :: (D, W.listOf (List.toArray sc) nD) :: (x, instObj 242 dx) :: (la, W.listOf #[] 0) :: (lb, W.listOf #[] 0) :: R) F₅ (news_sub N₅ mixQ6) T' hc
    ⟨?_, ?_, ⟨W.listOf #[] 0, ?_, rfl⟩, ⟨W.listOf #[] 0, ?_, rfl⟩, ⟨vs, n₁, ?_, pl'⟩, ?_, ⟨lq1, vr1, nr1, vq1, nq1, ?_, ?_, ?_, i1, i2⟩, ⟨lq2, vr2, nr2, vq2, nq2, ?_, ?_, ?_, i3, i4⟩, hn, fun p hp => (hl p hp).2, fun z hz => ?_, fun z hz => ?_, g1, g2, g3, first_ok hn hfo hv (fun p hp => (hl p hp).1)⟩
    x₅ e₄' e₅ hroom hu ?_ X hpw
  · exact ⟨n2, Ne.symm d₅.1, Ne.symm d₅.2.1, Ne.symm d₅.2.2, n1, Ne.symm d₄.1, Ne.symm d₄.2.1, Ne.symm d₄.2.2, n3, n4, n5, n6, n7⟩
  · exact .tail _ (.tail _ (.tail _ (.tail _ (.tail _ (.tail _ (.tail _ (.tail _ (.tail _ (.head _)))))))))
  · exact .tail _ (.tail _ (.tail _ (.tail _ (.tail _ (.tail _ (.tail _ (.tail _ (.tail _ (.tail _ (.head _))))))))))
  · exact .tail _ (.tail _ (.tail _ (.tail _ (.tail _ (.tail _ (.tail _ (.tail _ (.tail _ (.tail _ (.tail _ (.head _)))))))))))
  · exact .tail _ (.tail _ (.tail _ (.tail _ (.head _))))
  · exact fun q hq => .tail _ (.tail _ (.tail _ (.tail _ (.tail _ (.tail _ (.tail _ (.tail _ (.tail _ (.tail _ (.tail _ (.tail _ (hTN q hq))))))))))))
  · exact .tail _ (.tail _ (.tail _ (.tail _ (.tail _ (.head _)))))
  · exact .tail _ (.tail _ (.tail _ (.tail _ (.tail _ (.tail _ (.head _))))))
  · exact .tail _ (.tail _ (.tail _ (.tail _ (.tail _ (.tail _ (.tail _ (.head _)))))))
  · exact .tail _ (.head _)
  · exact .tail _ (.tail _ (.head _))
  · exact .tail _ (.tail _ (.tail _ (.head _)))
  · obtain ⟨_, _, rfl⟩ := List.mem_map.mp hz; exact sizeA_le _
  · obtain ⟨_, _, rfl⟩ := List.mem_map.mp hz; exact sizeB_le _
  intro h₆ tk₆ ts' mbk' l2' lj' lq' F₆ N₆
  clear F₅ N₅
  dsimp only
  exact law_T2 (x := x) (T := T) (ps := ps) (fo := fo) (S := ns.length) (rest := (D2, tupObj #[.ref lr2, .ref lq2]) :: (lr2, W.listOf (List.toArray vr2) nr2) :: (lq2, W.listOf (List.toArray vq2) nq2) :: (D1, tupObj #[.ref lr1, .ref lq1]) :: (lr1, W.listOf (List.toArray vr1) nr1) :: (lq1, W.listOf (List.toArray vq1) nq1) :: (x, instObj 242 dx) :: (la, W.listOf #[] 0) :: (lb, W.listOf #[] 0) :: R) F₆ (news_sub N₆ mixQ7) T'
    ⟨n1, n2, n3, Ne.symm d₅.1, Ne.symm d₅.2.1, Ne.symm d₅.2.2, Ne.symm d₄.1, Ne.symm d₄.2.1, Ne.symm d₄.2.2, n4, n5, n6, n7⟩ hc pl' (fun q hq => .tail _ (.tail _ (.tail _ (.tail _ (.tail _ (.tail _ (.tail _ (.tail _ (.tail _ (hTN q hq)))))))))) hn hl hfo hv (.tail _ (.tail _ (.tail _ (.tail _ (.tail _ (.tail _ (.head _))))))) ⟨_, .tail _ (.head _), rfl⟩ ⟨_, .tail _ (.tail _ (.tail _ (.tail _ (.head _)))), rfl⟩ s₅ x₅ f₅ (intsAre_len hI) hlen hroom hu hQ X hpw
end
end Mine
end
section
open PySem PySem.W PySem.Calls PyProof.Rows
set_option maxRecDepth 100000
set_option maxHeartbeats 1000000
set_option Elab.async false
set_option linter.unusedVariables false
namespace Mine
local macro_rules | `(tactic| walk_at "no such key") => prem "assumption"
theorem law_at (P : Params) : (K P).lookup 263 = some ⟨.type "function", none, .func (fnTop 9 "law" (.ref 262)), #[]⟩ := by kernel_rfl!
theorem law_code (P : Params) : codeIn (K P) (.ref 262) "law" = true := by kernel_rfl!
theorem law_bind (x : Value) : bindArgs (fnTop 9 "law" (.ref 262)) ⟨[x], []⟩ = pure [(Str.ofString "script", x)] := by kernel_rfl!
local macro_rules | `(tactic| walk_at "call ref") => stop ``call_stop
local macro_rules | `(tactic| walk_at "execs cons") => stop ``execs_stop
theorem mixC1 {α : Type} {a b c d : α} : ∀ p ∈ [a, d, c], p ∈ [a, b, c, d] := by
  intro p hp; simp only [List.mem_cons] at hp ⊢; grind
theorem law_ok {w : World} {mg mb : Str → Option Value} {means : ExcName → Option Value} {dp un : Nat} {fr : Option (List Env)} {gu : Option (List Code)} {s : Shared} {l : Addr} {R : Result → Shared → Prop} {vs : List Value} {ns : List Int}
    (T : Top q (looseW q loose) means mg mb s.heap) (hl : s.heap.IsList l vs.toArray) (hI : IntsAre vs ns) (hlen : ns.length ≤ 63) (hroom : dp + 20 < recursionLimit) (hu : un + 96 < cLine)
    (hR : ∀ h' tk, Kept s.heap h' → R (.ok (.ret (.bool true))) { s with heap := h', toks := tk }) :
    (K w.params).In s.heap → PySem.Challenge.rw_dm0054_12.prog = pw → codeAny (model pw w) (Around.mk none dp fr gu un) (.call (.ref 263) ⟨[.ref l], []⟩) R s := by
  k_fill
  intro X₀ hpw
  refine enterC [] X₀ T (fun _ _ h => h) (fun _ h => nomatch h) (by show dp < _; lia) (law_at _) (law_code _) (.of_eq (law_bind _)) (by rfl) (by decide +kernel) ?_ (by kernel_rfl!) (by kernel_rfl!) (by kernel_rfl!)
  intro L h₁ tk₁ cells X' T' F' N' Y' k₁ hL
  dsimp only [hideAll] at X' T' F' N'
  k_cells Y'
  have e63 : List.take 63 ns = ns := List.take_of_length_le hlen
  k_steps
  refine execs_go ?_
  k_steps
  refine execs_go ?_
  k_steps
  · rename Fr _ _ _ _ => F₂
    rename News _ _ _ _ => N₂
    rename IntsAre _ (List.take 63 ns) => hI₂
    rename _ = Data.cell (some _) => hc
    rename _ ∧ _ ∧ _ => q1
    rw [e63] at hI₂
    unfold ExecsStop
    exact law_T1 (n := 0) (nD := 0) F₂ (news_sub N₂ mixC1) T' hc hI₂ hlen (Nat.ne_of_lt q1.2.2) (Nat.ne_of_lt q1.2.1) rfl rfl (by show dp + 1 + 14 < _; omega) (by show un + _ + 90 < _; omega) (fun h' tk m' F => hR _ _ F.keep) X' hpw
  · rename Fr _ _ _ _ => F₁
    rename News _ _ _ _ => N₁
    rename IntsAre _ (List.take 63 ns) => hI₁
    rename decide _ = false => hne
    rw [e63] at hne
    refine itemFst N₁ (.tail _ (.head _)) hI₁ (List.length_pos_iff.mpr (by rw [e63]; exact of_decide_eq_false hne)) ?_
    intro t
    k_steps
    refine execs_go ?_
    k_steps
    rename Fr _ _ _ _ => F₂
    rename News _ _ _ _ => N₂
    rename IntsAre _ (List.take 63 ns) => hI₂
    rename _ = Data.cell (some _) => hc
    rename _ ∧ _ ∧ _ => q1
    rw [e63] at hI₂
    unfold ExecsStop
    exact law_T1 (n := 0) (nD := 0) F₂ (news_sub N₂ mixC1) T' hc hI₂ hlen (Nat.ne_of_lt q1.2.2) (Nat.ne_of_lt q1.2.1) rfl rfl (by show dp + 1 + 14 < _; omega) (by show un + _ + 90 < _; omega) (fun h' tk m' F => hR _ _ F.keep) X' hpw
end Mine
end
section
open PySem PySem.W PyProof.Rows
set_option maxRecDepth 100000
set_option maxHeartbeats 0
set_option Elab.async false
set_option linter.unusedVariables false
namespace Mine
noncomputable section
noncomputable def annV : Option Value := some (.ref 6)
noncomputable def S0 (w : World) (os : OsState) : Shared := ⟨boot_heap w.params, #[], boot_drawn, boot_toks, os⟩
noncomputable def B0 : List Frame := [topFrame pos0]
noncomputable def evP (w : World) (os : OsState) := topGo tb pw w 11 (some (.ref 6)) 12 (S0 w os) (topStub pw)
noncomputable def goodP (w : World) (os : OsState) : Option (Shared × Thread) := some ((S1T w os).abs, ⟨denote tb code1, code1, pos0, [topFrame pos0]⟩)
theorem evP_self : @evP = @evP := rfl
theorem goodP_self : @goodP = @goodP := rfl
name_quick mineEvP for Mine.evP by Mine.evP_self
name_quick mineGoodP for Mine.goodP by Mine.goodP_self
theorem evP_ok (w : World) (os : OsState) : evP w os = goodP w os :=
  (congrFun (congrFun PySem.W.Fast.mineEvP_eq w) os).trans ((by kernel_rfl! : PySem.W.Fast.mineEvP w os = PySem.W.Fast.mineGoodP w os).trans (congrFun (congrFun PySem.W.Fast.mineGoodP_eq w) os).symm)
noncomputable def evQ (w : World) (os : OsState) := segRun tb pw w 11 (some (.ref 6)) 1 1 (S1T w os).abs (blockOf pw.main.body env1 code1 pos0 [topFrame pos0])
noncomputable def goodQ (w : World) (os : OsState) : Option (Flow × Shared × Code × Pos) := some (.next, (S1T w os).abs, code1, pos0)
theorem evQ_self : @evQ = @evQ := rfl
theorem goodQ_self : @goodQ = @goodQ := rfl
name_quick mineEvQ for Mine.evQ by Mine.evQ_self
name_quick mineGoodQ for Mine.goodQ by Mine.goodQ_self
theorem evQ_ok (w : World) (os : OsState) : evQ w os = goodQ w os :=
  (congrFun (congrFun PySem.W.Fast.mineEvQ_eq w) os).trans ((by kernel_rfl! : PySem.W.Fast.mineEvQ w os = PySem.W.Fast.mineGoodQ w os).trans (congrFun (congrFun PySem.W.Fast.mineGoodQ_eq w) os).symm)
theorem fin_ok (w : World) (s : Shared) (p' : Pos) (c : Code) : topRun tb pw w 11 (some (.ref 6)) 2 s ⟨doneF .next, c, p', [topFrame pos0]⟩ = some s := by
  obtain ⟨h, g, d, t, o⟩ := s
  rfl
theorem run_ok (w : World) (os : OsState) : ∃ s, topRun tb pw w 11 (some (.ref 6)) 2315 (S0 w os) (topStub pw) = some s ∧ looks w.params s = true ∧
    openSeen q loose [] xt true s = openGood q loose ∧ seenK s.heap = goodK w.params := by
  obtain ⟨⟨f, s', c, p'⟩, e, eA⟩ := Option.map_eq_some_iff.mp (evA_ok w os)
  have hB := evB_ok w os
  have hC := evC_ok w os
  have hD := evD_ok w os
  unfold evB goodB at hB
  unfold evC goodC at hC
  unfold evD goodD at hD
  rw [e] at hB hC hD
  obtain ⟨rfl, rfl⟩ : f = .next ∧ c = code1 := by simpa using eA
  have h1 : segRun tb pw w 11 (some (.ref 6)) 1 2300 (S1T w os).abs (piecesOf pw.main.body env1 code1 pos0 [topFrame pos0]) = some (.next, s'.abs, code1, p') := segRun_of e
  refine ⟨s'.abs, ?_, Option.some.inj hB, Option.some.inj hC, Option.some.inj hD⟩
  have h2 := piece_nil (env := env1) (fin_ok w s'.abs p' code1)
  have h3 := piece_app (rest := []) h1 h2
  rw [List.append_nil] at h3
  have h4 := piece_block (evQ_ok w os) h3
  exact go_top (evP_ok w os) h4
theorem opens : opening pw = plainProg pw.main.scope.names := by kernel_rfl!
theorem fence (s : Shared) : fenceModules? pw s = some s := by kernel_rfl!
theorem imps : importedModules pw.main.body = [] := by kernel_rfl!
noncomputable def szV (w : World) := ((boot_heap w.params).isNs mainGlobals && (#[] : Array GenState).size == 0, (boot_heap w.params).objs.size, (boot_heap w.params).nsMap mainGlobals "__annotations__")
theorem size_ok (w : World) : ((boot_heap w.params).isNs mainGlobals && (#[] : Array GenState).size == 0, (boot_heap w.params).objs.size, (boot_heap w.params).nsMap mainGlobals "__annotations__") = (true, 11, some (Value.ref 6)) := by kernel_rfl!
theorem kAs_ok (P : Params) : kAs = (K P).map (·.1) := rfl
theorem seenK_map (h : Heap) : seenK h = kAs.map h.get? := rfl
theorem goodK_map (P : Params) : goodK P = (K P).map fun p => some p.2 := rfl
theorem topRun_tb (w : World) (os : OsState) {s : Shared} (r : topRun tb pw w 11 (some (.ref 6)) 2315 (S0 w os) (topStub pw) = some s) :
    topRun treeTable pw w 11 (some (.ref 6)) 4470 (S0 w os) (topStub pw) = some s := by
  rw [tb_eq]
  exact topRun_mono 2155 _ _ _ _ r
theorem looks_def (w : World) (s : Shared) : looks w.params s = (staticsOk [] (boot_heap w.params) s.heap && namesBound pw s.heap && gensDone s && laidKept (boot_heap w.params) s.heap) := rfl
theorem topFrom_ok (w : World) (os : OsState) {s : Shared} (r : topRun tb pw w 11 (some (.ref 6)) 2315 (S0 w os) (topStub pw) = some s) (l1 : looks w.params s = true) :
    topFrom treeTable pw w 4470 (S0 w os) = some s := by
  obtain ⟨z1, z2, z3⟩ : _ ∧ _ ∧ _ := by simpa only [Prod.mk.injEq] using size_ok w
  rw [looks_def] at l1
  have r := topRun_tb w os r
  unfold S0 at r ⊢
  unfold topFrom
  dsimp only
  rw [z1, z2, z3, r, imps, Option.bind_some]
  dsimp only
  rw [l1]
theorem left : LeftO pw q loose xt (kHook K kAs kAs_ok).obs (kHook K kAs kAs_ok).val 4470 := fun w => by
  obtain ⟨⟨h, gs, d, k, os⟩, e, e'⟩ := Option.map_eq_some_iff.mp (boot_open (p := pw) (N := 4470) opens (by decide) fence w)
  obtain ⟨rfl, rfl, rfl, rfl⟩ : h = boot_heap w.params ∧ gs = ⟨[]⟩ ∧ d = boot_drawn ∧ k = boot_toks := by simpa using e'
  obtain ⟨s, r, l1, l2, l3⟩ := run_ok w os
  have t := topFrom_ok w os r l1
  unfold S0 at t
  unfold openEnds
  rw [e, Option.bind_some, t, Option.map_some, imps, l2]
  rw [seenK_map, goodK_map] at l3
  have l4 : (kHook K kAs kAs_ok).obs s = (kHook K kAs kAs_ok).val w := l3
  rw [l4]
end
end Mine
end
section
open PySem PySem.W PyProof.Rows
set_option maxRecDepth 100000
set_option maxHeartbeats 0
set_option Elab.async false
set_option linter.unusedVariables false
namespace Mine
noncomputable def lawRec : DefRec := ((defOf q "law").map (·.1)).getD ⟨"", default, [], default, pos0⟩
theorem lawDef : defOf q "law" = some (lawRec, []) := by kernel_rfl!
noncomputable def lawAddr : Addr := 263
theorem lawName : lawRec.name = ("law" : Str) := by kernel_rfl!
theorem lawAt (P : Params) : nsFind (match (k3 P).data with | .dict es _ => es | _ => #[]) "law" = some (.ref lawAddr) := by kernel_rfl!
theorem k3dict (P : Params) : ∃ es n, (k3 P).data = .dict es n ∧ nsFind es "law" = some (.ref lawAddr) := ⟨_, _, rfl, lawAt P⟩
theorem k3in (P : Params) : (K P).lookup 3 = some (k3 P) := by kernel_rfl!
noncomputable def said (l : OpenLaw) : Bool := l.wellSaid
theorem said_self : @said = @said := rfl
name_quick mineSaid for Mine.said by Mine.said_self
theorem lawSaid : PySem.Challenge.rw_dm0054_12.wellSaid = true := (congrFun PySem.W.Fast.mineSaid_eq PySem.Challenge.rw_dm0054_12).trans (by kernel_rfl! : PySem.W.Fast.mineSaid PySem.Challenge.rw_dm0054_12 = true)
noncomputable def Done (s : Shared) (v : Value) (s' : Shared) : Prop :=
  v = .bool true ∧ (∀ b o, s.heap.get? b = some o → s'.heap.get? b = some o) ∧ s'.os = s.os ∧ s'.gens = #[]
theorem hd (walk : ∀ (w : World) (s : Shared) (l : Addr) (vs : List Value) (ns : List Int) (mg mb : Str → Option Value) (means : ExcName → Option Value),
      (K w.params).In s.heap → Top q (looseW q loose) means mg mb s.heap → s.gens = #[] → s.heap.IsList l vs.toArray → IntsAre vs ns → ns.length ≤ 63 →
      wpAny (model pw w) callerA (call (.ref lawAddr) [.ref l]) (Done s) (fun _ _ => False) s) : PySem.Challenge.rw_dm0054_12.Holds := by
  w_on
  refine holds_law lawSaid fun said => ?_
  refine holds_open (d := lawRec) (kwd := []) (q := q) (loose := loose) (Xt := fun s => xlAt q [] s && recOk (RowW.records (OpenRow.toRowW (OpenLaw.row PySem.Challenge.rw_dm0054_12))) s) (XP := XL q []) (Yf := (kHook K kAs kAs_ok).obs) (Ya := (kHook K kAs kAs_ok).val) (YP := (kHook K kAs kAs_ok).says) (N := 4470) left ((kHook K kAs kAs_ok).of) ((kHook K kAs kAs_ok).keeps) (fun s e => xl_of s (Bool.and_eq_true_iff.mp e).1) XL.keeps lawDef (by kernel_rfl!) (by kernel_rfl!) (fun s e => recFacts_of (Bool.and_eq_true_iff.mp e).2) (by rfl) (by first | assumption | decide +kernel) (by decide +kernel) ⟨rfl, rfl, rfl, rfl, rfl, by decide +kernel⟩ ?hw ?hc
  case hw => w_witness2
  intro w s₀ s₁ mg mb G Y fa o pm cd doc dV kV ho hd hcd hD hmg hg args vals as hpre hlay hrd hwl hlo
  have KX := kIn_of Y
  have T := G.T
  have hfa : fa = lawAddr := by
    obtain ⟨o3, es3, n3, h1, h2, _, h4⟩ := T.g
    obtain ⟨es, n, e1, e2⟩ := k3dict w.params
    have h5 := KX 3 _ (k3in w.params)
    have h1' : s₁.heap.get? 3 = some o3 := h1
    rw [h1'] at h5
    obtain rfl := Option.some.inj h5
    rw [e1] at h2
    obtain ⟨rfl, _⟩ := Data.dict.inj h2
    rw [lawName, ← h4, e2] at hmg
    exact (Value.ref.inj (Option.some.inj hmg)).symm
  subst hfa
  clear G hcd hD ho hd
  wrow_args hpre hlay hrd hwl hlo
  rename_i ns _ _ _ _ _ _ _ l vs _ hL _ _ _ hI _ hlen _
  refine wpAny_mono (walk w s₁ l vs ns mg mb _ KX T hg hL hI (by omega)) ?_ (fun _ _ h => h.elim)
  rintro v s' ⟨rfl, hk, hos, hgs⟩
  exact GoodW.toG ⟨.inl ⟨_, .bool true, [], rfl, fun _ => rfl, .bool true, by first | kernel_rfl! | with_unfolding_all rfl | exact postW_of rfl (by simp) rfl, fun _ => ⟨.nil, fun _ h => nomatch h⟩⟩, hk, hos, hgs⟩
end Mine
end
section
open PySem PySem.W PySem.Calls PyProof.Rows
set_option maxRecDepth 100000
set_option maxHeartbeats 1000000
set_option Elab.async false
set_option linter.unusedVariables false
namespace Mine
theorem walk {w : World} {s : Shared} {l : Addr} {vs : List Value} {ns : List Int} {mg mb : Str → Option Value} {means : ExcName → Option Value}
    (X : (K w.params).In s.heap) (T : Top q (looseW q loose) means mg mb s.heap) (hg : s.gens = #[]) (hl : s.heap.IsList l vs.toArray) (hI : IntsAre vs ns) (hlen : ns.length ≤ 63) :
    wpAny (model pw w) callerA (call (.ref lawAddr) [.ref l]) (Done s) (fun _ _ => False) s := by
  refine wpAny_call ?_
  have := law_ok (w := w) (s := s) (l := l) (dp := callerA.depth) (un := callerA.units) (fr := callerA.frames) (gu := callerA.guards) (R := fun r s' => match r with | .ok (.ret v) => Done s v s' | .ok _ => False | .error e => False) T hl hI hlen (by decide +kernel) (by decide +kernel) (fun h' tk hk => ⟨rfl, hk, rfl, hg⟩) X rfl
  exact this
end Mine
theorem PySem.Challenge.cw_dm0054_12_holds : PySem.Challenge.rw_dm0054_12.Holds := by
  exact Mine.hd fun w s l vs ns mg mb means X T hg hl hI hlen => Mine.walk X T hg hl hI hlen
end
