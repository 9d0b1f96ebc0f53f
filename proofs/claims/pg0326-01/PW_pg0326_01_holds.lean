import PyProof.Rows.All
import Wide.All
import OpenK.AllK
import Wide.FinOn
import PySem.Challenge.RW_pg0326_01
set_option Elab.async false
set_option compiler.extract_closed false
section
open PySem PySem.W PySem.Calls PyProof.Rows
set_option maxRecDepth 100000
set_option maxHeartbeats 0
set_option linter.all false
set_option linter.defProp false
namespace Mine

/-- Array.any over the whole array, by its list -/
noncomputable def anyL {α : Type} (as : Array α) (p : α → Bool) (start stop : Nat) : Bool :=
  match Nat.beq start 0 && Nat.beq stop as.size with
  | true => PySem.W.R.anyR as.toList p
  | false => as.any p start stop
theorem anyL_eq : @Array.any.{0} = @anyL := by
  funext α as p start stop
  unfold anyL
  cases h : Nat.beq start 0 && Nat.beq stop as.size with
  | false => rfl
  | true =>
    simp only [Bool.and_eq_true] at h
    have h1 := Nat.eq_of_beq_eq_true h.1
    have h2 := Nat.eq_of_beq_eq_true h.2
    subst h1; subst h2
    rw [← PySem.W.R.anyR_eq]
    simp

/-- the library's twin of type.__new__, its Array.any by the list -/
noncomputable def newQ_pf := (by
  delta PySem.W.Fast.tw4202317264376624991
  rw [anyL_eq] : PySem.W.Fast.tw4202317264376624991 = _)
noncomputable def newQ : PySem.Builtin := (fun {f : PySem.Builtin} (_ : PySem.W.Fast.tw4202317264376624991 = f) => f) newQ_pf
theorem newQ_eq : PySem.W.Fast.tw4202317264376624991 = newQ := newQ_pf

noncomputable def tbQ (id : String) : Option Builtin := match Nat.beq (PySem.W.Fast.tw13482112738370960269 id) 29827186395103491166823348853 with
  | true => some newQ
  | false => PySem.W.Fast.tw1115789885857029328.find (PySem.W.Fast.tw13482112738370960269 id)
theorem tbQ_at : PySem.W.Fast.tw1115789885857029328.find 29827186395103491166823348853 = some PySem.W.Fast.tw4202317264376624991 := by kernel_rfl
theorem tbQ_eq : treeTable = tbQ := by
  rw [PySem.W.Fast.te14364793385576792824]
  funext id
  show PySem.W.Fast.tw1115789885857029328.find (PySem.W.Fast.tw13482112738370960269 id) = tbQ id
  unfold tbQ
  cases h : Nat.beq (PySem.W.Fast.tw13482112738370960269 id) 29827186395103491166823348853 with
  | false => rfl
  | true =>
    rw [Nat.eq_of_beq_eq_true h]
    exact tbQ_at.trans (congrArg some newQ_eq)

noncomputable def topT (tb : String → Option Builtin) (p : Program) (w : World) (n₀ : Nat) (ann : Option Value) : Nat → SharedT → Thread → Option SharedT
  | 0, _, _ => none
  | n + 1, s, t => match through t with
    | true => some s
    | false => match stepOk n₀ ann t with
      | false => none
      | true => match stepT (denote tb) p w s t with
        | some (s', t') => topT tb p w n₀ ann n s' t'
        | none => none
theorem topT_of {tb : String → Option Builtin} {p : Program} {w : World} {n₀ : Nat} {ann : Option Value} : ∀ {n : Nat} {s s' : SharedT} {t : Thread}, topT tb p w n₀ ann n s t = some s' → topRun tb p w n₀ ann n s.abs t = some s'.abs
  | 0, _, _, _, h => by cases h
  | n + 1, s, s', t, h => by
    unfold topT at h
    unfold topRun
    cases he : through t with
    | true => rw [he] at h; cases h; rfl
    | false =>
      rw [he] at h
      cases hk : stepOk n₀ ann t with
      | false => rw [hk] at h; cases h
      | true =>
        rw [hk] at h
        cases hs : stepT (denote tb) p w s t with
        | none => rw [hs] at h; cases h
        | some r => obtain ⟨s₂, t₂⟩ := r; rw [hs] at h; rw [stepT_spec hs]; exact topT_of h

/-! the defs of the program, by their places -/
noncomputable def nth : List Stmt → Nat → Stmt
  | s :: _, 0 => s
  | _ :: r, n + 1 => nth r n
  | [], _ => .Pass ⟨0, 0, 0, 0⟩
noncomputable def topS (i : Nat) : Stmt := nth PySem.Challenge.pw_pg0326_01.main.body i
noncomputable def inS : Stmt → Nat → Stmt
  | .ClassDef _ _ _ b _ _ _ _ _ _ _, j => nth b j
  | s, _ => s
noncomputable def dArgs : Stmt → Arguments
  | .FunctionDef _ a _ _ _ _ _ _ _ _ => a
  | _ => .mk [] [] none [] [] none []
noncomputable def dBody : Stmt → List Stmt
  | .FunctionDef _ _ b _ _ _ _ _ _ _ => b
  | _ => []
noncomputable def dScope : Stmt → Scope
  | .FunctionDef _ _ _ _ _ _ sc _ _ _ => sc
  | _ => .mk .function [] false false []
noncomputable def dDoc (s : Stmt) : Str := (docOf (dBody s)).getD ⟨⟨[]⟩⟩
noncomputable def cDoc : Stmt → Str
  | .ClassDef _ _ _ b _ _ _ _ _ _ _ => (docOf b).getD ⟨⟨[]⟩⟩
  | _ => ⟨⟨[]⟩⟩

noncomputable def ob3 (P : Params) : Obj := (.mk (.type "dict") none (.dict #[(.mk (PySem.PyData.keyHash P "__name__") (.str "__name__" 165) (.str "law_pg0326_01" 588)), (.mk (PySem.PyData.keyHash P "__doc__") (.str "__doc__" 166) .none), (.mk (PySem.PyData.keyHash P "__package__") (.str "__package__" 167) .none), (.mk (PySem.PyData.keyHash P "__loader__") (.str "__loader__" 168) (.builtin "__main__.__loader__#opaque")), (.mk (PySem.PyData.keyHash P "__spec__") (.str "__spec__" 169) .none), (.mk (PySem.PyData.keyHash P "__annotations__") (.str "__annotations__" 170) (.ref 6)), (.mk (PySem.PyData.keyHash P "__builtins__") (.str "__builtins__" 171) (.ref 4)), (.mk (PySem.PyData.keyHash P "__file__") (.str "__file__" 173) (.str "/claim/cut.py" 172)), (.mk (PySem.PyData.keyHash P "__cached__") (.str "__cached__" 174) .none), (.mk (PySem.PyData.keyHash P "_wall") (.str "_wall" 193) (.ref 21)), (.mk (PySem.PyData.keyHash P "_tuplegetter") (.str "_tuplegetter" 252) (.ref 60)), (.mk (PySem.PyData.keyHash P "Match") (.str "Match" 380) (.ref 135)), (.mk (PySem.PyData.keyHash P "_calculate_ratio") (.str "_calculate_ratio" 388) (.ref 145)), (.mk (PySem.PyData.keyHash P "SequenceMatcher") (.str "SequenceMatcher" 574) (.ref 242)), (.mk (PySem.PyData.keyHash P "_generate_overlap_table") (.str "_generate_overlap_table" 587) (.ref 253)), (.mk (PySem.PyData.keyHash P "_law_rows") (.str "_law_rows" 595) (.ref 258)), (.mk (PySem.PyData.keyHash P "_law_longest") (.str "_law_longest" 601) (.ref 263)), (.mk (PySem.PyData.keyHash P "_law_blocks") (.str "_law_blocks" 617) (.ref 270)), (.mk (PySem.PyData.keyHash P "_law_due") (.str "_law_due" 630) (.ref 277)), (.mk (PySem.PyData.keyHash P "_law_names") (.str "_law_names" 636) (.ref 282)), (.mk (PySem.PyData.keyHash P "_law_told") (.str "_law_told" 642) (.ref 287)), (.mk (PySem.PyData.keyHash P "_law_like") (.str "_law_like" 657) (.ref 294)), (.mk (PySem.PyData.keyHash P "law") (.str "law" 669) (.ref 301))] 23) #[])
noncomputable def ob11 (P : Params) : Obj := (.mk (.type "tuple") none (.seq #[] 0) #[])
noncomputable def ob12 (P : Params) : Obj := (.mk .none none (.fields #[(.int 1 0), (.int 0 0), (.ref 20), (.int 5 0), (.int 0 0), (.ref 27), (.int 23 0), (.int 0 0), (.ref 71), (.int 66 0), (.int 0 0), (.ref 144), (.int 70 0), (.int 0 0), (.ref 151), (.int 419 0), (.int 0 0), (.ref 252), (.int 440 0), (.int 0 0), (.ref 257), (.int 453 0), (.int 0 0), (.ref 262), (.int 468 0), (.int 0 0), (.ref 269), (.int 475 0), (.int 0 0), (.ref 276), (.int 483 0), (.int 0 0), (.ref 281), (.int 488 0), (.int 0 0), (.ref 286), (.int 491 0), (.int 0 0), (.ref 293), (.int 503 0), (.int 0 0), (.ref 300)]) #[])
noncomputable def ob13 (P : Params) : Obj := (.mk (.type "code") none (.fields #[(.str "<module>" 182), (.str "<module>" 183), (.str "/claim/cut.py" 184), (.int 1 0), (.int 0 0), (.int 0 0), (.int 0 0), (.int 0 0), (.ref 11), (.bool false), (.int 181 0), (.ref 12), .none, .none, .none, .none, (.int 185 0), (.int 1 0), (.str "/claim/cut.py" 186)]) #[])
noncomputable def ob14 (P : Params) : Obj := (.mk (.type "frame") none .plain #[(some (.ref 13)), (some (.ref 3)), (some (.ref 3)), none, (some (.str "__main__" 164)), none, (some (.ref 0))])
noncomputable def ob15 (P : Params) : Obj := (.mk (.type "tuple") none (.seq #[] 0) #[])
noncomputable def ob16 (P : Params) : Obj := (.mk .none none (.fields #[]) #[])
noncomputable def ob17 (P : Params) : Obj := (.mk (.type "tuple") none (.seq #[(.str "k" 190)] 0) #[])
noncomputable def ob18 (P : Params) : Obj := (.mk (.type "tuple") none (.seq #[] 0) #[])
noncomputable def ob19 (P : Params) : Obj := (.mk .none none (.func (.mk "_wall" "_wall" (dArgs (topS 0)) (.stmts (dBody (topS 0))) (dScope (topS 0)) 0 [] .none .none .none .none none .none .none 0)) #[])
noncomputable def ob20 (P : Params) : Obj := (.mk (.type "code") none (.fields #[(.str "_wall" 187), (.str "_wall" 188), (.str "/claim/cut.py" 189), (.int 1 0), (.int 1 0), (.int 0 0), (.int 0 0), (.int 3 0), (.ref 15), (.bool true), (.int 181 0), (.ref 16), .none, (.ref 17), (.ref 18), (.ref 19), (.int 191 0), (.int 1 0), (.str "/claim/cut.py" 192)]) #[])
noncomputable def ob21 (P : Params) : Obj := (.mk (.type "function") none (.func (.mk "_wall" "_wall" (dArgs (topS 0)) (.stmts (dBody (topS 0))) (dScope (topS 0)) 3 [] .none .none .none (.str "__main__" 164) none (.ref 20) .none 0)) #[])
noncomputable def ob22 (P : Params) : Obj := (.mk (.type "tuple") none (.seq #[] 0) #[])
noncomputable def ob23 (P : Params) : Obj := (.mk (.type "builtin_function_or_method") none (.fields #[(.builtin "type.__prepare__"), (.type "type")]) #[])
noncomputable def ob24 (P : Params) : Obj := (.mk (.type "dict") none (.dict #[(.mk (PySem.PyData.keyHash P "__module__") (.str "__module__" 203) (.str "cpy313.difflib" 194)), (.mk (PySem.PyData.keyHash P "__qualname__") (.str "__qualname__" 205) (.str "_tuplegetter" 204)), (.mk (PySem.PyData.keyHash P "__firstlineno__") (.str "__firstlineno__" 207) (.int 5 206)), (.mk (PySem.PyData.keyHash P "__init__") (.str "__init__" 216) (.ref 35)), (.mk (PySem.PyData.keyHash P "__get__") (.str "__get__" 225) (.ref 43)), (.mk (PySem.PyData.keyHash P "__set__") (.str "__set__" 234) (.ref 50)), (.mk (PySem.PyData.keyHash P "__delete__") (.str "__delete__" 242) (.ref 57)), (.mk (PySem.PyData.keyHash P "__static_attributes__") (.str "__static_attributes__" 245) (.ref 58))] 8) #[])
noncomputable def ob25 (P : Params) : Obj := (.mk (.type "tuple") none (.seq #[] 0) #[])
noncomputable def ob26 (P : Params) : Obj := (.mk .none none (.fields #[(.int 7 0), (.int 4 0), (.ref 34), (.int 11 0), (.int 4 0), (.ref 42), (.int 18 0), (.int 4 0), (.ref 49), (.int 21 0), (.int 4 0), (.ref 56)]) #[])
noncomputable def ob27 (P : Params) : Obj := (.mk (.type "code") none (.fields #[(.str "_tuplegetter" 198), (.str "_tuplegetter" 199), (.str "/claim/cut.py" 200), (.int 5 0), (.int 0 0), (.int 0 0), (.int 0 0), (.int 0 0), (.ref 25), (.bool false), (.int 181 0), (.ref 26), .none, .none, .none, .none, (.int 201 0), (.int 5 0), (.str "/claim/cut.py" 202)]) #[])
noncomputable def ob28 (P : Params) : Obj := (.mk (.type "frame") none .plain #[(some (.ref 27)), (some (.ref 3)), (some (.ref 24)), none, (some (.str "cpy313.difflib" 194)), none, (some (.ref 0))])
noncomputable def ob29 (P : Params) : Obj := (.mk (.type "tuple") none (.seq #[] 0) #[])
noncomputable def ob30 (P : Params) : Obj := (.mk .none none (.fields #[]) #[])
noncomputable def ob31 (P : Params) : Obj := (.mk (.type "tuple") none (.seq #[(.str "self" 211), (.str "index" 212), (.str "doc" 213)] 0) #[])
noncomputable def ob32 (P : Params) : Obj := (.mk (.type "tuple") none (.seq #[] 0) #[])
noncomputable def ob33 (P : Params) : Obj := (.mk .none none (.func (.mk "__init__" "_tuplegetter.__init__" (dArgs (inS (topS 2) 0)) (.stmts (dBody (inS (topS 2) 0))) (dScope (inS (topS 2) 0)) 0 [] .none .none .none .none none .none .none 0)) #[])
noncomputable def ob34 (P : Params) : Obj := (.mk (.type "code") none (.fields #[(.str "__init__" 208), (.str "_tuplegetter.__init__" 209), (.str "/claim/cut.py" 210), (.int 7 0), (.int 3 0), (.int 0 0), (.int 0 0), (.int 3 0), (.ref 29), (.bool true), (.int 181 0), (.ref 30), .none, (.ref 31), (.ref 32), (.ref 33), (.int 214 0), (.int 7 0), (.str "/claim/cut.py" 215)]) #[])
noncomputable def ob35 (P : Params) : Obj := (.mk (.type "function") none (.func (.mk "__init__" "_tuplegetter.__init__" (dArgs (inS (topS 2) 0)) (.stmts (dBody (inS (topS 2) 0))) (dScope (inS (topS 2) 0)) 3 [] .none .none .none (.str "cpy313.difflib" 194) none (.ref 34) .none 0)) #[])
noncomputable def ob36 (P : Params) : Obj := (.mk (.type "tuple") none (.seq #[.none] 0) #[])
noncomputable def ob37 (P : Params) : Obj := (.mk (.type "tuple") none (.seq #[] 0) #[])
noncomputable def ob38 (P : Params) : Obj := (.mk .none none (.fields #[]) #[])
noncomputable def ob39 (P : Params) : Obj := (.mk (.type "tuple") none (.seq #[(.str "self" 220), (.str "obj" 221), (.str "objtype" 222)] 0) #[])
noncomputable def ob40 (P : Params) : Obj := (.mk (.type "tuple") none (.seq #[] 0) #[])
noncomputable def ob41 (P : Params) : Obj := (.mk .none none (.func (.mk "__get__" "_tuplegetter.__get__" (dArgs (inS (topS 2) 1)) (.stmts (dBody (inS (topS 2) 1))) (dScope (inS (topS 2) 1)) 0 [] .none .none .none .none none .none .none 0)) #[])
noncomputable def ob42 (P : Params) : Obj := (.mk (.type "code") none (.fields #[(.str "__get__" 217), (.str "_tuplegetter.__get__" 218), (.str "/claim/cut.py" 219), (.int 11 0), (.int 3 0), (.int 0 0), (.int 0 0), (.int 3 0), (.ref 37), (.bool true), (.int 181 0), (.ref 38), .none, (.ref 39), (.ref 40), (.ref 41), (.int 223 0), (.int 11 0), (.str "/claim/cut.py" 224)]) #[])
noncomputable def ob43 (P : Params) : Obj := (.mk (.type "function") none (.func (.mk "__get__" "_tuplegetter.__get__" (dArgs (inS (topS 2) 1)) (.stmts (dBody (inS (topS 2) 1))) (dScope (inS (topS 2) 1)) 3 [] (.ref 36) .none .none (.str "cpy313.difflib" 194) none (.ref 42) .none 0)) #[])
noncomputable def ob44 (P : Params) : Obj := (.mk (.type "tuple") none (.seq #[] 0) #[])
noncomputable def ob45 (P : Params) : Obj := (.mk .none none (.fields #[]) #[])
noncomputable def ob46 (P : Params) : Obj := (.mk (.type "tuple") none (.seq #[(.str "self" 229), (.str "obj" 230), (.str "value" 231)] 0) #[])
noncomputable def ob47 (P : Params) : Obj := (.mk (.type "tuple") none (.seq #[] 0) #[])
noncomputable def ob48 (P : Params) : Obj := (.mk .none none (.func (.mk "__set__" "_tuplegetter.__set__" (dArgs (inS (topS 2) 2)) (.stmts (dBody (inS (topS 2) 2))) (dScope (inS (topS 2) 2)) 0 [] .none .none .none .none none .none .none 0)) #[])
noncomputable def ob49 (P : Params) : Obj := (.mk (.type "code") none (.fields #[(.str "__set__" 226), (.str "_tuplegetter.__set__" 227), (.str "/claim/cut.py" 228), (.int 18 0), (.int 3 0), (.int 0 0), (.int 0 0), (.int 3 0), (.ref 44), (.bool true), (.int 181 0), (.ref 45), .none, (.ref 46), (.ref 47), (.ref 48), (.int 232 0), (.int 18 0), (.str "/claim/cut.py" 233)]) #[])
noncomputable def ob50 (P : Params) : Obj := (.mk (.type "function") none (.func (.mk "__set__" "_tuplegetter.__set__" (dArgs (inS (topS 2) 2)) (.stmts (dBody (inS (topS 2) 2))) (dScope (inS (topS 2) 2)) 3 [] .none .none .none (.str "cpy313.difflib" 194) none (.ref 49) .none 0)) #[])
noncomputable def ob51 (P : Params) : Obj := (.mk (.type "tuple") none (.seq #[] 0) #[])
noncomputable def ob52 (P : Params) : Obj := (.mk .none none (.fields #[]) #[])
noncomputable def ob53 (P : Params) : Obj := (.mk (.type "tuple") none (.seq #[(.str "self" 238), (.str "obj" 239)] 0) #[])
noncomputable def ob54 (P : Params) : Obj := (.mk (.type "tuple") none (.seq #[] 0) #[])
noncomputable def ob55 (P : Params) : Obj := (.mk .none none (.func (.mk "__delete__" "_tuplegetter.__delete__" (dArgs (inS (topS 2) 3)) (.stmts (dBody (inS (topS 2) 3))) (dScope (inS (topS 2) 3)) 0 [] .none .none .none .none none .none .none 0)) #[])
noncomputable def ob56 (P : Params) : Obj := (.mk (.type "code") none (.fields #[(.str "__delete__" 235), (.str "_tuplegetter.__delete__" 236), (.str "/claim/cut.py" 237), (.int 21 0), (.int 2 0), (.int 0 0), (.int 0 0), (.int 3 0), (.ref 51), (.bool true), (.int 181 0), (.ref 52), .none, (.ref 53), (.ref 54), (.ref 55), (.int 240 0), (.int 21 0), (.str "/claim/cut.py" 241)]) #[])
noncomputable def ob57 (P : Params) : Obj := (.mk (.type "function") none (.func (.mk "__delete__" "_tuplegetter.__delete__" (dArgs (inS (topS 2) 3)) (.stmts (dBody (inS (topS 2) 3))) (dScope (inS (topS 2) 3)) 3 [] .none .none .none (.str "cpy313.difflib" 194) none (.ref 56) .none 0)) #[])
noncomputable def ob58 (P : Params) : Obj := (.mk (.type "tuple") none (.seq #[(.str "__doc__" 243), (.str "index" 244)] 0) #[])
noncomputable def ob59 (P : Params) : Obj := (.mk (.type "dict") none (.dict #[(.mk (PySem.PyData.keyHash P "__module__") (.str "__module__" 203) (.str "cpy313.difflib" 194)), (.mk (PySem.PyData.keyHash P "__firstlineno__") (.str "__firstlineno__" 207) (.int 5 206)), (.mk (PySem.PyData.keyHash P "__init__") (.str "__init__" 216) (.ref 35)), (.mk (PySem.PyData.keyHash P "__get__") (.str "__get__" 225) (.ref 43)), (.mk (PySem.PyData.keyHash P "__set__") (.str "__set__" 234) (.ref 50)), (.mk (PySem.PyData.keyHash P "__delete__") (.str "__delete__" 242) (.ref 57)), (.mk (PySem.PyData.keyHash P "__static_attributes__") (.str "__static_attributes__" 245) (.ref 58)), (.mk (PySem.PyData.keyHash P "__dict__") (.str "__dict__" 247) (.ref 61)), (.mk (PySem.PyData.keyHash P "__weakref__") (.str "__weakref__" 249) (.ref 62)), (.mk (PySem.PyData.keyHash P "__doc__") (.str "__doc__" 250) .none)] 4) #[])
noncomputable def ob60 (P : Params) : Obj := (.mk (.type "type") none (.cls (.mk "_tuplegetter" [(.type "object")] [(.ref 60), (.type "object")] 59 "_tuplegetter" true [] [] false none false)) #[none, none, (some (.str "_tuplegetter" 196)), (some (.str "_tuplegetter" 204)), (some (.builtin "object.__new__")), (some (.bool true))])
noncomputable def ob61 (P : Params) : Obj := (.mk (.type "getset_descriptor") none (.fields #[(.str "__dict__" 246), (.ref 60), (.builtin "function.__dict__"), (.builtin "function.__dict__#set")]) #[])
noncomputable def ob62 (P : Params) : Obj := (.mk (.type "getset_descriptor") none (.fields #[(.str "__weakref__" 248), (.ref 60), (.builtin "ExceptionGroup.__weakref__"), .none]) #[])
noncomputable def ob63 (P : Params) : Obj := (.mk (.type "super") none (.fields #[(.ref 60), (.ref 60), (.ref 60)]) #[])
noncomputable def ob64 (P : Params) : Obj := (.mk (.type "builtin_function_or_method") none (.fields #[(.builtin "object.__init_subclass__"), (.ref 60)]) #[])
noncomputable def ob65 (P : Params) : Obj := (.mk (.type "tuple") none (.seq #[(.type "tuple")] 0) #[])
noncomputable def ob66 (P : Params) : Obj := (.mk (.type "builtin_function_or_method") none (.fields #[(.builtin "type.__prepare__"), (.type "type")]) #[])
noncomputable def ob67 (P : Params) : Obj := (.mk (.type "dict") none (.dict #[(.mk (PySem.PyData.keyHash P "__module__") (.str "__module__" 260) (.str "cpy313.difflib" 194)), (.mk (PySem.PyData.keyHash P "__qualname__") (.str "__qualname__" 262) (.str "Match" 261)), (.mk (PySem.PyData.keyHash P "__firstlineno__") (.str "__firstlineno__" 264) (.int 23 263)), (.mk (PySem.PyData.keyHash P "__doc__") (.str "__doc__" 266) (.str (cDoc (topS 3)) 265)), (.mk (PySem.PyData.keyHash P "__slots__") (.str "__slots__" 268) (.ref 73)), (.mk (PySem.PyData.keyHash P "_fields") (.str "_fields" 272) (.ref 74)), (.mk (PySem.PyData.keyHash P "_field_defaults") (.str "_field_defaults" 273) (.ref 75)), (.mk (PySem.PyData.keyHash P "__new__") (.str "__new__" 284) (.ref 82)), (.mk (PySem.PyData.keyHash P "_make") (.str "_make" 306) (.ref 91)), (.mk (PySem.PyData.keyHash P "_replace") (.str "_replace" 317) (.ref 100)), (.mk (PySem.PyData.keyHash P "__replace__") (.str "__replace__" 318) (.ref 100)), (.mk (PySem.PyData.keyHash P "__repr__") (.str "__repr__" 326) (.ref 107)), (.mk (PySem.PyData.keyHash P "_asdict") (.str "_asdict" 333) (.ref 114)), (.mk (PySem.PyData.keyHash P "__getnewargs__") (.str "__getnewargs__" 341) (.ref 121)), (.mk (PySem.PyData.keyHash P "__match_args__") (.str "__match_args__" 345) (.ref 122)), (.mk (PySem.PyData.keyHash P "a") (.str "a" 355) (.ref 124)), (.mk (PySem.PyData.keyHash P "b") (.str "b" 365) (.ref 127)), (.mk (PySem.PyData.keyHash P "size") (.str "size" 375) (.ref 130)), (.mk (PySem.PyData.keyHash P "__static_attributes__") (.str "__static_attributes__" 376) (.ref 132)), (.mk (PySem.PyData.keyHash P "__classcell__") (.str "__classcell__" 377) (.ref 68))] 20) #[])
noncomputable def ob68 (P : Params) : Obj := (.mk (.type "cell") none (.cell (some (.ref 135))) #[])
noncomputable def ob69 (P : Params) : Obj := (.mk (.type "tuple") none (.seq #[] 0) #[])
noncomputable def ob70 (P : Params) : Obj := (.mk .none none (.fields #[(.int 29 0), (.int 4 0), (.ref 81), (.int 34 0), (.int 4 0), (.ref 88), (.int 41 0), (.int 4 0), (.ref 99), (.int 52 0), (.int 4 0), (.ref 106), (.int 56 0), (.int 4 0), (.ref 113), (.int 59 0), (.int 4 0), (.ref 120)]) #[])
noncomputable def ob71 (P : Params) : Obj := (.mk (.type "code") none (.fields #[(.str "Match" 255), (.str "Match" 256), (.str "/claim/cut.py" 257), (.int 23 0), (.int 0 0), (.int 0 0), (.int 0 0), (.int 0 0), (.ref 69), (.bool false), (.int 181 0), (.ref 70), .none, .none, .none, .none, (.int 258 0), (.int 23 0), (.str "/claim/cut.py" 259)]) #[])
noncomputable def ob72 (P : Params) : Obj := (.mk (.type "frame") none .plain #[(some (.ref 71)), (some (.ref 3)), (some (.ref 67)), none, (some (.str "cpy313.difflib" 194)), none, (some (.ref 0))])
noncomputable def ob73 (P : Params) : Obj := (.mk (.type "tuple") none (.seq #[] 0) #[])
noncomputable def ob74 (P : Params) : Obj := (.mk (.type "tuple") none (.seq #[(.str "a" 269), (.str "b" 270), (.str "size" 271)] 0) #[])
noncomputable def ob75 (P : Params) : Obj := (.mk (.type "dict") none (.dict #[] 0) #[])
noncomputable def ob76 (P : Params) : Obj := (.mk (.type "tuple") none (.seq #[] 0) #[])
noncomputable def ob77 (P : Params) : Obj := (.mk .none none (.fields #[]) #[])
noncomputable def ob78 (P : Params) : Obj := (.mk (.type "tuple") none (.seq #[(.str "_cls" 277), (.str "a" 278), (.str "b" 279), (.str "size" 280)] 0) #[])
noncomputable def ob79 (P : Params) : Obj := (.mk (.type "tuple") none (.seq #[] 0) #[])
noncomputable def ob80 (P : Params) : Obj := (.mk .none none (.func (.mk "__new__" "Match.__new__" (dArgs (inS (topS 3) 4)) (.stmts (dBody (inS (topS 3) 4))) (dScope (inS (topS 3) 4)) 0 [] .none .none .none .none none .none .none 0)) #[])
noncomputable def ob81 (P : Params) : Obj := (.mk (.type "code") none (.fields #[(.str "__new__" 274), (.str "Match.__new__" 275), (.str "/claim/cut.py" 276), (.int 29 0), (.int 4 0), (.int 0 0), (.int 0 0), (.int 3 0), (.ref 76), (.bool true), (.int 181 0), (.ref 77), .none, (.ref 78), (.ref 79), (.ref 80), (.int 281 0), (.int 29 0), (.str "/claim/cut.py" 282)]) #[])
noncomputable def ob82 (P : Params) : Obj := (.mk (.type "function") none (.func (.mk "__new__" "Match.__new__" (dArgs (inS (topS 3) 4)) (.stmts (dBody (inS (topS 3) 4))) (dScope (inS (topS 3) 4)) 3 [] .none .none (.str (dDoc (inS (topS 3) 4)) 283) (.str "cpy313.difflib" 194) none (.ref 81) .none 0)) #[])
noncomputable def ob83 (P : Params) : Obj := (.mk (.type "tuple") none (.seq #[] 0) #[])
noncomputable def ob84 (P : Params) : Obj := (.mk .none none (.fields #[]) #[])
noncomputable def ob85 (P : Params) : Obj := (.mk (.type "tuple") none (.seq #[(.str "cls" 288), (.str "iterable" 289), (.str "result" 290)] 0) #[])
noncomputable def ob86 (P : Params) : Obj := (.mk (.type "tuple") none (.seq #[] 0) #[])
noncomputable def ob87 (P : Params) : Obj := (.mk .none none (.func (.mk "_make" "Match._make" (dArgs (inS (topS 3) 5)) (.stmts (dBody (inS (topS 3) 5))) (dScope (inS (topS 3) 5)) 0 [] .none .none .none .none none .none .none 0)) #[])
noncomputable def ob88 (P : Params) : Obj := (.mk (.type "code") none (.fields #[(.str "_make" 285), (.str "Match._make" 286), (.str "/claim/cut.py" 287), (.int 33 0), (.int 2 0), (.int 0 0), (.int 0 0), (.int 3 0), (.ref 83), (.bool true), (.int 181 0), (.ref 84), .none, (.ref 85), (.ref 86), (.ref 87), (.int 291 0), (.int 33 0), (.str "/claim/cut.py" 292)]) #[])
noncomputable def ob89 (P : Params) : Obj := (.mk (.type "function") none (.func (.mk "_make" "Match._make" (dArgs (inS (topS 3) 5)) (.stmts (dBody (inS (topS 3) 5))) (dScope (inS (topS 3) 5)) 3 [] .none .none (.str (dDoc (inS (topS 3) 5)) 293) (.str "cpy313.difflib" 194) (some 92) (.ref 88) .none 0)) #[])
noncomputable def ob90 (P : Params) : Obj := (.mk (.type "dict") none (.dict #[(.mk (PySem.PyData.keyHash P "__module__") (.str "__module__" 295) (.str "cpy313.difflib" 194)), (.mk (PySem.PyData.keyHash P "__name__") (.str "__name__" 298) (.str "_make" 297)), (.mk (PySem.PyData.keyHash P "__qualname__") (.str "__qualname__" 301) (.str "Match._make" 300)), (.mk (PySem.PyData.keyHash P "__doc__") (.str "__doc__" 303) (.str (dDoc (inS (topS 3) 5)) 293)), (.mk (PySem.PyData.keyHash P "__annotations__") (.str "__annotations__" 305) (.ref 92))] 5) #[])
noncomputable def ob91 (P : Params) : Obj := (.mk (.type "classmethod") (some 90) (.fields #[(.ref 89), (.bool false)]) #[])
noncomputable def ob92 (P : Params) : Obj := (.mk (.type "dict") none (.dict #[] 0) #[])
noncomputable def ob93 (P : Params) : Obj := (.mk (.type "tuple") none (.seq #[(.ref 68)] 0) #[])
noncomputable def ob94 (P : Params) : Obj := (.mk (.type "tuple") none (.seq #[(.str "__class__" 310)] 0) #[])
noncomputable def ob95 (P : Params) : Obj := (.mk .none none (.fields #[]) #[])
noncomputable def ob96 (P : Params) : Obj := (.mk (.type "tuple") none (.seq #[(.str "self" 311), (.str "kwds" 312), (.str "result" 313)] 0) #[])
noncomputable def ob97 (P : Params) : Obj := (.mk (.type "tuple") none (.seq #[] 0) #[])
noncomputable def ob98 (P : Params) : Obj := (.mk .none none (.func (.mk "_replace" "Match._replace" (dArgs (inS (topS 3) 6)) (.stmts (dBody (inS (topS 3) 6))) (dScope (inS (topS 3) 6)) 0 [] .none .none .none .none none .none .none 0)) #[])
noncomputable def ob99 (P : Params) : Obj := (.mk (.type "code") none (.fields #[(.str "_replace" 307), (.str "Match._replace" 308), (.str "/claim/cut.py" 309), (.int 41 0), (.int 1 0), (.int 1 0), (.int 0 0), (.int 11 0), (.ref 94), (.bool true), (.int 181 0), (.ref 95), .none, (.ref 96), (.ref 97), (.ref 98), (.int 314 0), (.int 41 0), (.str "/claim/cut.py" 315)]) #[])
noncomputable def ob100 (P : Params) : Obj := (.mk (.type "function") none (.func (.mk "_replace" "Match._replace" (dArgs (inS (topS 3) 6)) (.stmts (dBody (inS (topS 3) 6))) (dScope (inS (topS 3) 6)) 3 [("__class__", 68)] .none .none (.str (dDoc (inS (topS 3) 6)) 316) (.str "cpy313.difflib" 194) none (.ref 99) (.ref 93) 0)) #[])
noncomputable def ob101 (P : Params) : Obj := (.mk (.type "tuple") none (.seq #[] 0) #[])
noncomputable def ob102 (P : Params) : Obj := (.mk .none none (.fields #[]) #[])
noncomputable def ob103 (P : Params) : Obj := (.mk (.type "tuple") none (.seq #[(.str "self" 322)] 0) #[])
noncomputable def ob104 (P : Params) : Obj := (.mk (.type "tuple") none (.seq #[] 0) #[])
noncomputable def ob105 (P : Params) : Obj := (.mk .none none (.func (.mk "__repr__" "Match.__repr__" (dArgs (inS (topS 3) 8)) (.stmts (dBody (inS (topS 3) 8))) (dScope (inS (topS 3) 8)) 0 [] .none .none .none .none none .none .none 0)) #[])
noncomputable def ob106 (P : Params) : Obj := (.mk (.type "code") none (.fields #[(.str "__repr__" 319), (.str "Match.__repr__" 320), (.str "/claim/cut.py" 321), (.int 52 0), (.int 1 0), (.int 0 0), (.int 0 0), (.int 3 0), (.ref 101), (.bool true), (.int 181 0), (.ref 102), .none, (.ref 103), (.ref 104), (.ref 105), (.int 323 0), (.int 52 0), (.str "/claim/cut.py" 324)]) #[])
noncomputable def ob107 (P : Params) : Obj := (.mk (.type "function") none (.func (.mk "__repr__" "Match.__repr__" (dArgs (inS (topS 3) 8)) (.stmts (dBody (inS (topS 3) 8))) (dScope (inS (topS 3) 8)) 3 [] .none .none (.str (dDoc (inS (topS 3) 8)) 325) (.str "cpy313.difflib" 194) none (.ref 106) .none 0)) #[])
noncomputable def ob108 (P : Params) : Obj := (.mk (.type "tuple") none (.seq #[] 0) #[])
noncomputable def ob109 (P : Params) : Obj := (.mk .none none (.fields #[]) #[])
noncomputable def ob110 (P : Params) : Obj := (.mk (.type "tuple") none (.seq #[(.str "self" 330)] 0) #[])
noncomputable def ob111 (P : Params) : Obj := (.mk (.type "tuple") none (.seq #[] 0) #[])
noncomputable def ob112 (P : Params) : Obj := (.mk .none none (.func (.mk "_asdict" "Match._asdict" (dArgs (inS (topS 3) 9)) (.stmts (dBody (inS (topS 3) 9))) (dScope (inS (topS 3) 9)) 0 [] .none .none .none .none none .none .none 0)) #[])
noncomputable def ob113 (P : Params) : Obj := (.mk (.type "code") none (.fields #[(.str "_asdict" 327), (.str "Match._asdict" 328), (.str "/claim/cut.py" 329), (.int 56 0), (.int 1 0), (.int 0 0), (.int 0 0), (.int 3 0), (.ref 108), (.bool true), (.int 181 0), (.ref 109), .none, (.ref 110), (.ref 111), (.ref 112), (.int 331 0), (.int 56 0), (.str "/claim/cut.py" 332)]) #[])
noncomputable def ob114 (P : Params) : Obj := (.mk (.type "function") none (.func (.mk "_asdict" "Match._asdict" (dArgs (inS (topS 3) 9)) (.stmts (dBody (inS (topS 3) 9))) (dScope (inS (topS 3) 9)) 3 [] .none .none .none (.str "cpy313.difflib" 194) none (.ref 113) .none 0)) #[])
noncomputable def ob115 (P : Params) : Obj := (.mk (.type "tuple") none (.seq #[] 0) #[])
noncomputable def ob116 (P : Params) : Obj := (.mk .none none (.fields #[]) #[])
noncomputable def ob117 (P : Params) : Obj := (.mk (.type "tuple") none (.seq #[(.str "self" 337)] 0) #[])
noncomputable def ob118 (P : Params) : Obj := (.mk (.type "tuple") none (.seq #[] 0) #[])
noncomputable def ob119 (P : Params) : Obj := (.mk .none none (.func (.mk "__getnewargs__" "Match.__getnewargs__" (dArgs (inS (topS 3) 10)) (.stmts (dBody (inS (topS 3) 10))) (dScope (inS (topS 3) 10)) 0 [] .none .none .none .none none .none .none 0)) #[])
noncomputable def ob120 (P : Params) : Obj := (.mk (.type "code") none (.fields #[(.str "__getnewargs__" 334), (.str "Match.__getnewargs__" 335), (.str "/claim/cut.py" 336), (.int 59 0), (.int 1 0), (.int 0 0), (.int 0 0), (.int 3 0), (.ref 115), (.bool true), (.int 181 0), (.ref 116), .none, (.ref 117), (.ref 118), (.ref 119), (.int 338 0), (.int 59 0), (.str "/claim/cut.py" 339)]) #[])
noncomputable def ob121 (P : Params) : Obj := (.mk (.type "function") none (.func (.mk "__getnewargs__" "Match.__getnewargs__" (dArgs (inS (topS 3) 10)) (.stmts (dBody (inS (topS 3) 10))) (dScope (inS (topS 3) 10)) 3 [] .none .none (.str (dDoc (inS (topS 3) 10)) 340) (.str "cpy313.difflib" 194) none (.ref 120) .none 0)) #[])
noncomputable def ob122 (P : Params) : Obj := (.mk (.type "tuple") none (.seq #[(.str "a" 342), (.str "b" 343), (.str "size" 344)] 0) #[])
noncomputable def ob123 (P : Params) : Obj := (.mk (.type "dict") none (.dict #[(.mk (PySem.PyData.keyHash P "index") (.str "index" 352) (.int 0 346)), (.mk (PySem.PyData.keyHash P "__doc__") (.str "__doc__" 354) (.str "Alias for field number 0" 347))] 2) #[])
noncomputable def ob124 (P : Params) : Obj := (.mk (.ref 60) (some 123) .plain #[])
noncomputable def ob125 (P : Params) : Obj := (.mk (.type "frame") none (.dict #[(.mk (PySem.PyData.keyHash P "self") (.str "self" 348) (.ref 124)), (.mk (PySem.PyData.keyHash P "index") (.str "index" 349) (.int 0 346)), (.mk (PySem.PyData.keyHash P "doc") (.str "doc" 350) (.str "Alias for field number 0" 347))] 3) #[])
noncomputable def ob126 (P : Params) : Obj := (.mk (.type "dict") none (.dict #[(.mk (PySem.PyData.keyHash P "index") (.str "index" 362) (.int 1 356)), (.mk (PySem.PyData.keyHash P "__doc__") (.str "__doc__" 364) (.str "Alias for field number 1" 357))] 2) #[])
noncomputable def ob127 (P : Params) : Obj := (.mk (.ref 60) (some 126) .plain #[])
noncomputable def ob128 (P : Params) : Obj := (.mk (.type "frame") none (.dict #[(.mk (PySem.PyData.keyHash P "self") (.str "self" 358) (.ref 127)), (.mk (PySem.PyData.keyHash P "index") (.str "index" 359) (.int 1 356)), (.mk (PySem.PyData.keyHash P "doc") (.str "doc" 360) (.str "Alias for field number 1" 357))] 3) #[])
noncomputable def ob129 (P : Params) : Obj := (.mk (.type "dict") none (.dict #[(.mk (PySem.PyData.keyHash P "index") (.str "index" 372) (.int 2 366)), (.mk (PySem.PyData.keyHash P "__doc__") (.str "__doc__" 374) (.str "Alias for field number 2" 367))] 2) #[])
noncomputable def ob130 (P : Params) : Obj := (.mk (.ref 60) (some 129) .plain #[])
noncomputable def ob131 (P : Params) : Obj := (.mk (.type "frame") none (.dict #[(.mk (PySem.PyData.keyHash P "self") (.str "self" 368) (.ref 130)), (.mk (PySem.PyData.keyHash P "index") (.str "index" 369) (.int 2 366)), (.mk (PySem.PyData.keyHash P "doc") (.str "doc" 370) (.str "Alias for field number 2" 367))] 3) #[])
noncomputable def ob132 (P : Params) : Obj := (.mk (.type "tuple") none (.seq #[] 0) #[])
noncomputable def ob133 (P : Params) : Obj := (.mk (.type "list") none (.seq #[] 0) #[])
noncomputable def ob134 (P : Params) : Obj := (.mk (.type "dict") none (.dict #[(.mk (PySem.PyData.keyHash P "__module__") (.str "__module__" 260) (.str "cpy313.difflib" 194)), (.mk (PySem.PyData.keyHash P "__firstlineno__") (.str "__firstlineno__" 264) (.int 23 263)), (.mk (PySem.PyData.keyHash P "__doc__") (.str "__doc__" 266) (.str (cDoc (topS 3)) 265)), (.mk (PySem.PyData.keyHash P "__slots__") (.str "__slots__" 268) (.ref 73)), (.mk (PySem.PyData.keyHash P "_fields") (.str "_fields" 272) (.ref 74)), (.mk (PySem.PyData.keyHash P "_field_defaults") (.str "_field_defaults" 273) (.ref 75)), (.mk (PySem.PyData.keyHash P "__new__") (.str "__new__" 284) (.ref 136)), (.mk (PySem.PyData.keyHash P "_make") (.str "_make" 306) (.ref 91)), (.mk (PySem.PyData.keyHash P "_replace") (.str "_replace" 317) (.ref 100)), (.mk (PySem.PyData.keyHash P "__replace__") (.str "__replace__" 318) (.ref 100)), (.mk (PySem.PyData.keyHash P "__repr__") (.str "__repr__" 326) (.ref 107)), (.mk (PySem.PyData.keyHash P "_asdict") (.str "_asdict" 333) (.ref 114)), (.mk (PySem.PyData.keyHash P "__getnewargs__") (.str "__getnewargs__" 341) (.ref 121)), (.mk (PySem.PyData.keyHash P "__match_args__") (.str "__match_args__" 345) (.ref 122)), (.mk (PySem.PyData.keyHash P "a") (.str "a" 355) (.ref 124)), (.mk (PySem.PyData.keyHash P "b") (.str "b" 365) (.ref 127)), (.mk (PySem.PyData.keyHash P "size") (.str "size" 375) (.ref 130)), (.mk (PySem.PyData.keyHash P "__static_attributes__") (.str "__static_attributes__" 376) (.ref 132))] 2) #[])
noncomputable def ob135 (P : Params) : Obj := (.mk (.type "type") none (.cls (.mk "Match" [(.type "tuple")] [(.ref 135), (.type "tuple"), (.type "object")] 134 "Match" false [] [] false none false)) #[(some (.ref 65)), none, (some (.str "Match" 253)), (some (.str "Match" 261)), (some .none), (some (.bool false))])
noncomputable def ob136 (P : Params) : Obj := (.mk (.type "staticmethod") none (.fields #[(.ref 82)]) #[])
noncomputable def ob137 (P : Params) : Obj := (.mk (.type "super") none (.fields #[(.ref 135), (.ref 135), (.ref 135)]) #[])
noncomputable def ob138 (P : Params) : Obj := (.mk (.type "builtin_function_or_method") none (.fields #[(.builtin "object.__init_subclass__"), (.ref 135)]) #[])
noncomputable def ob139 (P : Params) : Obj := (.mk (.type "tuple") none (.seq #[] 0) #[])
noncomputable def ob140 (P : Params) : Obj := (.mk .none none (.fields #[]) #[])
noncomputable def ob141 (P : Params) : Obj := (.mk (.type "tuple") none (.seq #[(.str "matches" 384), (.str "length" 385)] 0) #[])
noncomputable def ob142 (P : Params) : Obj := (.mk (.type "tuple") none (.seq #[] 0) #[])
noncomputable def ob143 (P : Params) : Obj := (.mk .none none (.func (.mk "_calculate_ratio" "_calculate_ratio" (dArgs (topS 4)) (.stmts (dBody (topS 4))) (dScope (topS 4)) 0 [] .none .none .none .none none .none .none 0)) #[])
noncomputable def ob144 (P : Params) : Obj := (.mk (.type "code") none (.fields #[(.str "_calculate_ratio" 381), (.str "_calculate_ratio" 382), (.str "/claim/cut.py" 383), (.int 66 0), (.int 2 0), (.int 0 0), (.int 0 0), (.int 3 0), (.ref 139), (.bool true), (.int 181 0), (.ref 140), .none, (.ref 141), (.ref 142), (.ref 143), (.int 386 0), (.int 66 0), (.str "/claim/cut.py" 387)]) #[])
noncomputable def ob145 (P : Params) : Obj := (.mk (.type "function") none (.func (.mk "_calculate_ratio" "_calculate_ratio" (dArgs (topS 4)) (.stmts (dBody (topS 4))) (dScope (topS 4)) 3 [] .none .none .none (.str "cpy313.difflib" 194) none (.ref 144) .none 0)) #[])
noncomputable def ob146 (P : Params) : Obj := (.mk (.type "tuple") none (.seq #[] 0) #[])
noncomputable def ob147 (P : Params) : Obj := (.mk (.type "builtin_function_or_method") none (.fields #[(.builtin "type.__prepare__"), (.type "type")]) #[])
noncomputable def ob148 (P : Params) : Obj := (.mk (.type "dict") none (.dict #[(.mk (PySem.PyData.keyHash P "__module__") (.str "__module__" 396) (.str "cpy313.difflib" 194)), (.mk (PySem.PyData.keyHash P "__qualname__") (.str "__qualname__" 398) (.str "SequenceMatcher" 397)), (.mk (PySem.PyData.keyHash P "__firstlineno__") (.str "__firstlineno__" 400) (.int 70 399)), (.mk (PySem.PyData.keyHash P "__doc__") (.str "__doc__" 402) (.str (cDoc (topS 5)) 401)), (.mk (PySem.PyData.keyHash P "__init__") (.str "__init__" 417) (.ref 160)), (.mk (PySem.PyData.keyHash P "set_seqs") (.str "set_seqs" 427) (.ref 167)), (.mk (PySem.PyData.keyHash P "set_seq1") (.str "set_seq1" 436) (.ref 174)), (.mk (PySem.PyData.keyHash P "set_seq2") (.str "set_seq2" 445) (.ref 181)), (.mk (PySem.PyData.keyHash P "_SequenceMatcher__chain_b") (.str "_SequenceMatcher__chain_b" 463) (.ref 188)), (.mk (PySem.PyData.keyHash P "find_longest_match") (.str "find_longest_match" 491) (.ref 196)), (.mk (PySem.PyData.keyHash P "get_matching_blocks") (.str "get_matching_blocks" 518) (.ref 203)), (.mk (PySem.PyData.keyHash P "get_opcodes") (.str "get_opcodes" 525) (.ref 210)), (.mk (PySem.PyData.keyHash P "get_grouped_opcodes") (.str "get_grouped_opcodes" 534) (.ref 218)), (.mk (PySem.PyData.keyHash P "ratio") (.str "ratio" 543) (.ref 225)), (.mk (PySem.PyData.keyHash P "quick_ratio") (.str "quick_ratio" 550) (.ref 232)), (.mk (PySem.PyData.keyHash P "real_quick_ratio") (.str "real_quick_ratio" 557) (.ref 239)), (.mk (PySem.PyData.keyHash P "__static_attributes__") (.str "__static_attributes__" 568) (.ref 240))] 17) #[])
noncomputable def ob149 (P : Params) : Obj := (.mk (.type "tuple") none (.seq #[] 0) #[])
noncomputable def ob150 (P : Params) : Obj := (.mk .none none (.fields #[(.int 145 0), (.int 4 0), (.ref 159), (.int 173 0), (.int 4 0), (.ref 166), (.int 184 0), (.int 4 0), (.ref 173), (.int 209 0), (.int 4 0), (.ref 180), (.int 236 0), (.int 4 0), (.ref 187), (.int 260 0), (.int 4 0), (.ref 195), (.int 335 0), (.int 4 0), (.ref 202), (.int 383 0), (.int 4 0), (.ref 209), (.int 386 0), (.int 4 0), (.ref 217), (.int 389 0), (.int 4 0), (.ref 224), (.int 413 0), (.int 4 0), (.ref 231), (.int 416 0), (.int 4 0), (.ref 238)]) #[])
noncomputable def ob151 (P : Params) : Obj := (.mk (.type "code") none (.fields #[(.str "SequenceMatcher" 391), (.str "SequenceMatcher" 392), (.str "/claim/cut.py" 393), (.int 70 0), (.int 0 0), (.int 0 0), (.int 0 0), (.int 0 0), (.ref 149), (.bool false), (.int 181 0), (.ref 150), .none, .none, .none, .none, (.int 394 0), (.int 70 0), (.str "/claim/cut.py" 395)]) #[])
noncomputable def ob152 (P : Params) : Obj := (.mk (.type "frame") none .plain #[(some (.ref 151)), (some (.ref 3)), (some (.ref 148)), none, (some (.str "cpy313.difflib" 194)), none, (some (.ref 0))])
noncomputable def ob153 (P : Params) : Obj := (.mk (.type "tuple") none (.seq #[.none, (.str "" 404), (.str "" 405), (.bool true)] 0) #[])
noncomputable def ob154 (P : Params) : Obj := (.mk (.type "tuple") none (.seq #[] 0) #[])
noncomputable def ob155 (P : Params) : Obj := (.mk .none none (.fields #[]) #[])
noncomputable def ob156 (P : Params) : Obj := (.mk (.type "tuple") none (.seq #[(.str "self" 409), (.str "isjunk" 410), (.str "a" 411), (.str "b" 412), (.str "autojunk" 413)] 0) #[])
noncomputable def ob157 (P : Params) : Obj := (.mk (.type "tuple") none (.seq #[] 0) #[])
noncomputable def ob158 (P : Params) : Obj := (.mk .none none (.func (.mk "__init__" "SequenceMatcher.__init__" (dArgs (inS (topS 5) 1)) (.stmts (dBody (inS (topS 5) 1))) (dScope (inS (topS 5) 1)) 0 [] .none .none .none .none none .none .none 0)) #[])
noncomputable def ob159 (P : Params) : Obj := (.mk (.type "code") none (.fields #[(.str "__init__" 406), (.str "SequenceMatcher.__init__" 407), (.str "/claim/cut.py" 408), (.int 145 0), (.int 5 0), (.int 0 0), (.int 0 0), (.int 3 0), (.ref 154), (.bool true), (.int 181 0), (.ref 155), .none, (.ref 156), (.ref 157), (.ref 158), (.int 414 0), (.int 145 0), (.str "/claim/cut.py" 415)]) #[])
noncomputable def ob160 (P : Params) : Obj := (.mk (.type "function") none (.func (.mk "__init__" "SequenceMatcher.__init__" (dArgs (inS (topS 5) 1)) (.stmts (dBody (inS (topS 5) 1))) (dScope (inS (topS 5) 1)) 3 [] (.ref 153) .none (.str (dDoc (inS (topS 5) 1)) 416) (.str "cpy313.difflib" 194) none (.ref 159) .none 0)) #[])
noncomputable def ob161 (P : Params) : Obj := (.mk (.type "tuple") none (.seq #[] 0) #[])
noncomputable def ob162 (P : Params) : Obj := (.mk .none none (.fields #[]) #[])
noncomputable def ob163 (P : Params) : Obj := (.mk (.type "tuple") none (.seq #[(.str "self" 421), (.str "a" 422), (.str "b" 423)] 0) #[])
noncomputable def ob164 (P : Params) : Obj := (.mk (.type "tuple") none (.seq #[] 0) #[])
noncomputable def ob165 (P : Params) : Obj := (.mk .none none (.func (.mk "set_seqs" "SequenceMatcher.set_seqs" (dArgs (inS (topS 5) 2)) (.stmts (dBody (inS (topS 5) 2))) (dScope (inS (topS 5) 2)) 0 [] .none .none .none .none none .none .none 0)) #[])
noncomputable def ob166 (P : Params) : Obj := (.mk (.type "code") none (.fields #[(.str "set_seqs" 418), (.str "SequenceMatcher.set_seqs" 419), (.str "/claim/cut.py" 420), (.int 173 0), (.int 3 0), (.int 0 0), (.int 0 0), (.int 3 0), (.ref 161), (.bool true), (.int 181 0), (.ref 162), .none, (.ref 163), (.ref 164), (.ref 165), (.int 424 0), (.int 173 0), (.str "/claim/cut.py" 425)]) #[])
noncomputable def ob167 (P : Params) : Obj := (.mk (.type "function") none (.func (.mk "set_seqs" "SequenceMatcher.set_seqs" (dArgs (inS (topS 5) 2)) (.stmts (dBody (inS (topS 5) 2))) (dScope (inS (topS 5) 2)) 3 [] .none .none (.str (dDoc (inS (topS 5) 2)) 426) (.str "cpy313.difflib" 194) none (.ref 166) .none 0)) #[])
noncomputable def ob168 (P : Params) : Obj := (.mk (.type "tuple") none (.seq #[] 0) #[])
noncomputable def ob169 (P : Params) : Obj := (.mk .none none (.fields #[]) #[])
noncomputable def ob170 (P : Params) : Obj := (.mk (.type "tuple") none (.seq #[(.str "self" 431), (.str "a" 432)] 0) #[])
noncomputable def ob171 (P : Params) : Obj := (.mk (.type "tuple") none (.seq #[] 0) #[])
noncomputable def ob172 (P : Params) : Obj := (.mk .none none (.func (.mk "set_seq1" "SequenceMatcher.set_seq1" (dArgs (inS (topS 5) 3)) (.stmts (dBody (inS (topS 5) 3))) (dScope (inS (topS 5) 3)) 0 [] .none .none .none .none none .none .none 0)) #[])
noncomputable def ob173 (P : Params) : Obj := (.mk (.type "code") none (.fields #[(.str "set_seq1" 428), (.str "SequenceMatcher.set_seq1" 429), (.str "/claim/cut.py" 430), (.int 184 0), (.int 2 0), (.int 0 0), (.int 0 0), (.int 3 0), (.ref 168), (.bool true), (.int 181 0), (.ref 169), .none, (.ref 170), (.ref 171), (.ref 172), (.int 433 0), (.int 184 0), (.str "/claim/cut.py" 434)]) #[])
noncomputable def ob174 (P : Params) : Obj := (.mk (.type "function") none (.func (.mk "set_seq1" "SequenceMatcher.set_seq1" (dArgs (inS (topS 5) 3)) (.stmts (dBody (inS (topS 5) 3))) (dScope (inS (topS 5) 3)) 3 [] .none .none (.str (dDoc (inS (topS 5) 3)) 435) (.str "cpy313.difflib" 194) none (.ref 173) .none 0)) #[])
noncomputable def ob175 (P : Params) : Obj := (.mk (.type "tuple") none (.seq #[] 0) #[])
noncomputable def ob176 (P : Params) : Obj := (.mk .none none (.fields #[]) #[])
noncomputable def ob177 (P : Params) : Obj := (.mk (.type "tuple") none (.seq #[(.str "self" 440), (.str "b" 441)] 0) #[])
noncomputable def ob178 (P : Params) : Obj := (.mk (.type "tuple") none (.seq #[] 0) #[])
noncomputable def ob179 (P : Params) : Obj := (.mk .none none (.func (.mk "set_seq2" "SequenceMatcher.set_seq2" (dArgs (inS (topS 5) 4)) (.stmts (dBody (inS (topS 5) 4))) (dScope (inS (topS 5) 4)) 0 [] .none .none .none .none none .none .none 0)) #[])
noncomputable def ob180 (P : Params) : Obj := (.mk (.type "code") none (.fields #[(.str "set_seq2" 437), (.str "SequenceMatcher.set_seq2" 438), (.str "/claim/cut.py" 439), (.int 209 0), (.int 2 0), (.int 0 0), (.int 0 0), (.int 3 0), (.ref 175), (.bool true), (.int 181 0), (.ref 176), .none, (.ref 177), (.ref 178), (.ref 179), (.int 442 0), (.int 209 0), (.str "/claim/cut.py" 443)]) #[])
noncomputable def ob181 (P : Params) : Obj := (.mk (.type "function") none (.func (.mk "set_seq2" "SequenceMatcher.set_seq2" (dArgs (inS (topS 5) 4)) (.stmts (dBody (inS (topS 5) 4))) (dScope (inS (topS 5) 4)) 3 [] .none .none (.str (dDoc (inS (topS 5) 4)) 444) (.str "cpy313.difflib" 194) none (.ref 180) .none 0)) #[])
noncomputable def ob182 (P : Params) : Obj := (.mk (.type "tuple") none (.seq #[] 0) #[])
noncomputable def ob183 (P : Params) : Obj := (.mk .none none (.fields #[]) #[])
noncomputable def ob184 (P : Params) : Obj := (.mk (.type "tuple") none (.seq #[(.str "self" 449), (.str "b" 450), (.str "b2j" 451), (.str "i" 452), (.str "elt" 453), (.str "indices" 454), (.str "junk" 455), (.str "isjunk" 456), (.str "popular" 457), (.str "n" 458), (.str "ntest" 459), (.str "idxs" 460)] 0) #[])
noncomputable def ob185 (P : Params) : Obj := (.mk (.type "tuple") none (.seq #[] 0) #[])
noncomputable def ob186 (P : Params) : Obj := (.mk .none none (.func (.mk "__chain_b" "SequenceMatcher.__chain_b" (dArgs (inS (topS 5) 5)) (.stmts (dBody (inS (topS 5) 5))) (dScope (inS (topS 5) 5)) 0 [] .none .none .none .none none .none .none 0)) #[])
noncomputable def ob187 (P : Params) : Obj := (.mk (.type "code") none (.fields #[(.str "__chain_b" 446), (.str "SequenceMatcher.__chain_b" 447), (.str "/claim/cut.py" 448), (.int 236 0), (.int 1 0), (.int 0 0), (.int 0 0), (.int 3 0), (.ref 182), (.bool true), (.int 181 0), (.ref 183), .none, (.ref 184), (.ref 185), (.ref 186), (.int 461 0), (.int 236 0), (.str "/claim/cut.py" 462)]) #[])
noncomputable def ob188 (P : Params) : Obj := (.mk (.type "function") none (.func (.mk "__chain_b" "SequenceMatcher.__chain_b" (dArgs (inS (topS 5) 5)) (.stmts (dBody (inS (topS 5) 5))) (dScope (inS (topS 5) 5)) 3 [] .none .none .none (.str "cpy313.difflib" 194) none (.ref 187) .none 0)) #[])
noncomputable def ob189 (P : Params) : Obj := (.mk (.type "tuple") none (.seq #[(.int 0 464), .none, (.int 0 465), .none] 0) #[])
noncomputable def ob190 (P : Params) : Obj := (.mk (.type "tuple") none (.seq #[] 0) #[])
noncomputable def ob191 (P : Params) : Obj := (.mk .none none (.fields #[]) #[])
noncomputable def ob192 (P : Params) : Obj := (.mk (.type "tuple") none (.seq #[(.str "self" 469), (.str "alo" 470), (.str "ahi" 471), (.str "blo" 472), (.str "bhi" 473), (.str "a" 474), (.str "b" 475), (.str "b2j" 476), (.str "isbjunk" 477), (.str "besti" 478), (.str "bestj" 479), (.str "bestsize" 480), (.str "j2len" 481), (.str "nothing" 482), (.str "i" 483), (.str "j2lenget" 484), (.str "newj2len" 485), (.str "j" 486), (.str "k" 487)] 0) #[])
noncomputable def ob193 (P : Params) : Obj := (.mk (.type "tuple") none (.seq #[] 0) #[])
noncomputable def ob194 (P : Params) : Obj := (.mk .none none (.func (.mk "find_longest_match" "SequenceMatcher.find_longest_match" (dArgs (inS (topS 5) 6)) (.stmts (dBody (inS (topS 5) 6))) (dScope (inS (topS 5) 6)) 0 [] .none .none .none .none none .none .none 0)) #[])
noncomputable def ob195 (P : Params) : Obj := (.mk (.type "code") none (.fields #[(.str "find_longest_match" 466), (.str "SequenceMatcher.find_longest_match" 467), (.str "/claim/cut.py" 468), (.int 260 0), (.int 5 0), (.int 0 0), (.int 0 0), (.int 3 0), (.ref 190), (.bool true), (.int 181 0), (.ref 191), .none, (.ref 192), (.ref 193), (.ref 194), (.int 488 0), (.int 260 0), (.str "/claim/cut.py" 489)]) #[])
noncomputable def ob196 (P : Params) : Obj := (.mk (.type "function") none (.func (.mk "find_longest_match" "SequenceMatcher.find_longest_match" (dArgs (inS (topS 5) 6)) (.stmts (dBody (inS (topS 5) 6))) (dScope (inS (topS 5) 6)) 3 [] (.ref 189) .none (.str (dDoc (inS (topS 5) 6)) 490) (.str "cpy313.difflib" 194) none (.ref 195) .none 0)) #[])
noncomputable def ob197 (P : Params) : Obj := (.mk (.type "tuple") none (.seq #[] 0) #[])
noncomputable def ob198 (P : Params) : Obj := (.mk .none none (.fields #[]) #[])
noncomputable def ob199 (P : Params) : Obj := (.mk (.type "tuple") none (.seq #[(.str "self" 495), (.str "la" 496), (.str "lb" 497), (.str "queue" 498), (.str "matching_blocks" 499), (.str "alo" 500), (.str "ahi" 501), (.str "blo" 502), (.str "bhi" 503), (.str "i" 504), (.str "j" 505), (.str "k" 506), (.str "x" 507), (.str "i1" 508), (.str "j1" 509), (.str "k1" 510), (.str "non_adjacent" 511), (.str "i2" 512), (.str "j2" 513), (.str "k2" 514)] 0) #[])
noncomputable def ob200 (P : Params) : Obj := (.mk (.type "tuple") none (.seq #[] 0) #[])
noncomputable def ob201 (P : Params) : Obj := (.mk .none none (.func (.mk "get_matching_blocks" "SequenceMatcher.get_matching_blocks" (dArgs (inS (topS 5) 7)) (.stmts (dBody (inS (topS 5) 7))) (dScope (inS (topS 5) 7)) 0 [] .none .none .none .none none .none .none 0)) #[])
noncomputable def ob202 (P : Params) : Obj := (.mk (.type "code") none (.fields #[(.str "get_matching_blocks" 492), (.str "SequenceMatcher.get_matching_blocks" 493), (.str "/claim/cut.py" 494), (.int 335 0), (.int 1 0), (.int 0 0), (.int 0 0), (.int 3 0), (.ref 197), (.bool true), (.int 181 0), (.ref 198), .none, (.ref 199), (.ref 200), (.ref 201), (.int 515 0), (.int 335 0), (.str "/claim/cut.py" 516)]) #[])
noncomputable def ob203 (P : Params) : Obj := (.mk (.type "function") none (.func (.mk "get_matching_blocks" "SequenceMatcher.get_matching_blocks" (dArgs (inS (topS 5) 7)) (.stmts (dBody (inS (topS 5) 7))) (dScope (inS (topS 5) 7)) 3 [] .none .none (.str (dDoc (inS (topS 5) 7)) 517) (.str "cpy313.difflib" 194) none (.ref 202) .none 0)) #[])
noncomputable def ob204 (P : Params) : Obj := (.mk (.type "tuple") none (.seq #[] 0) #[])
noncomputable def ob205 (P : Params) : Obj := (.mk .none none (.fields #[]) #[])
noncomputable def ob206 (P : Params) : Obj := (.mk (.type "tuple") none (.seq #[(.str "self" 522)] 0) #[])
noncomputable def ob207 (P : Params) : Obj := (.mk (.type "tuple") none (.seq #[] 0) #[])
noncomputable def ob208 (P : Params) : Obj := (.mk .none none (.func (.mk "get_opcodes" "SequenceMatcher.get_opcodes" (dArgs (inS (topS 5) 8)) (.stmts (dBody (inS (topS 5) 8))) (dScope (inS (topS 5) 8)) 0 [] .none .none .none .none none .none .none 0)) #[])
noncomputable def ob209 (P : Params) : Obj := (.mk (.type "code") none (.fields #[(.str "get_opcodes" 519), (.str "SequenceMatcher.get_opcodes" 520), (.str "/claim/cut.py" 521), (.int 383 0), (.int 1 0), (.int 0 0), (.int 0 0), (.int 3 0), (.ref 204), (.bool true), (.int 181 0), (.ref 205), .none, (.ref 206), (.ref 207), (.ref 208), (.int 523 0), (.int 383 0), (.str "/claim/cut.py" 524)]) #[])
noncomputable def ob210 (P : Params) : Obj := (.mk (.type "function") none (.func (.mk "get_opcodes" "SequenceMatcher.get_opcodes" (dArgs (inS (topS 5) 8)) (.stmts (dBody (inS (topS 5) 8))) (dScope (inS (topS 5) 8)) 3 [] .none .none .none (.str "cpy313.difflib" 194) none (.ref 209) .none 0)) #[])
noncomputable def ob211 (P : Params) : Obj := (.mk (.type "tuple") none (.seq #[(.int 3 526)] 0) #[])
noncomputable def ob212 (P : Params) : Obj := (.mk (.type "tuple") none (.seq #[] 0) #[])
noncomputable def ob213 (P : Params) : Obj := (.mk .none none (.fields #[]) #[])
noncomputable def ob214 (P : Params) : Obj := (.mk (.type "tuple") none (.seq #[(.str "self" 530), (.str "n" 531)] 0) #[])
noncomputable def ob215 (P : Params) : Obj := (.mk (.type "tuple") none (.seq #[] 0) #[])
noncomputable def ob216 (P : Params) : Obj := (.mk .none none (.func (.mk "get_grouped_opcodes" "SequenceMatcher.get_grouped_opcodes" (dArgs (inS (topS 5) 9)) (.stmts (dBody (inS (topS 5) 9))) (dScope (inS (topS 5) 9)) 0 [] .none .none .none .none none .none .none 0)) #[])
noncomputable def ob217 (P : Params) : Obj := (.mk (.type "code") none (.fields #[(.str "get_grouped_opcodes" 527), (.str "SequenceMatcher.get_grouped_opcodes" 528), (.str "/claim/cut.py" 529), (.int 386 0), (.int 2 0), (.int 0 0), (.int 0 0), (.int 3 0), (.ref 212), (.bool true), (.int 181 0), (.ref 213), .none, (.ref 214), (.ref 215), (.ref 216), (.int 532 0), (.int 386 0), (.str "/claim/cut.py" 533)]) #[])
noncomputable def ob218 (P : Params) : Obj := (.mk (.type "function") none (.func (.mk "get_grouped_opcodes" "SequenceMatcher.get_grouped_opcodes" (dArgs (inS (topS 5) 9)) (.stmts (dBody (inS (topS 5) 9))) (dScope (inS (topS 5) 9)) 3 [] (.ref 211) .none .none (.str "cpy313.difflib" 194) none (.ref 217) .none 0)) #[])
noncomputable def ob219 (P : Params) : Obj := (.mk (.type "tuple") none (.seq #[] 0) #[])
noncomputable def ob220 (P : Params) : Obj := (.mk .none none (.fields #[]) #[])
noncomputable def ob221 (P : Params) : Obj := (.mk (.type "tuple") none (.seq #[(.str "self" 538), (.str "matches" 539)] 0) #[])
noncomputable def ob222 (P : Params) : Obj := (.mk (.type "tuple") none (.seq #[] 0) #[])
noncomputable def ob223 (P : Params) : Obj := (.mk .none none (.func (.mk "ratio" "SequenceMatcher.ratio" (dArgs (inS (topS 5) 10)) (.stmts (dBody (inS (topS 5) 10))) (dScope (inS (topS 5) 10)) 0 [] .none .none .none .none none .none .none 0)) #[])
noncomputable def ob224 (P : Params) : Obj := (.mk (.type "code") none (.fields #[(.str "ratio" 535), (.str "SequenceMatcher.ratio" 536), (.str "/claim/cut.py" 537), (.int 389 0), (.int 1 0), (.int 0 0), (.int 0 0), (.int 3 0), (.ref 219), (.bool true), (.int 181 0), (.ref 220), .none, (.ref 221), (.ref 222), (.ref 223), (.int 540 0), (.int 389 0), (.str "/claim/cut.py" 541)]) #[])
noncomputable def ob225 (P : Params) : Obj := (.mk (.type "function") none (.func (.mk "ratio" "SequenceMatcher.ratio" (dArgs (inS (topS 5) 10)) (.stmts (dBody (inS (topS 5) 10))) (dScope (inS (topS 5) 10)) 3 [] .none .none (.str (dDoc (inS (topS 5) 10)) 542) (.str "cpy313.difflib" 194) none (.ref 224) .none 0)) #[])
noncomputable def ob226 (P : Params) : Obj := (.mk (.type "tuple") none (.seq #[] 0) #[])
noncomputable def ob227 (P : Params) : Obj := (.mk .none none (.fields #[]) #[])
noncomputable def ob228 (P : Params) : Obj := (.mk (.type "tuple") none (.seq #[(.str "self" 547)] 0) #[])
noncomputable def ob229 (P : Params) : Obj := (.mk (.type "tuple") none (.seq #[] 0) #[])
noncomputable def ob230 (P : Params) : Obj := (.mk .none none (.func (.mk "quick_ratio" "SequenceMatcher.quick_ratio" (dArgs (inS (topS 5) 11)) (.stmts (dBody (inS (topS 5) 11))) (dScope (inS (topS 5) 11)) 0 [] .none .none .none .none none .none .none 0)) #[])
noncomputable def ob231 (P : Params) : Obj := (.mk (.type "code") none (.fields #[(.str "quick_ratio" 544), (.str "SequenceMatcher.quick_ratio" 545), (.str "/claim/cut.py" 546), (.int 413 0), (.int 1 0), (.int 0 0), (.int 0 0), (.int 3 0), (.ref 226), (.bool true), (.int 181 0), (.ref 227), .none, (.ref 228), (.ref 229), (.ref 230), (.int 548 0), (.int 413 0), (.str "/claim/cut.py" 549)]) #[])
noncomputable def ob232 (P : Params) : Obj := (.mk (.type "function") none (.func (.mk "quick_ratio" "SequenceMatcher.quick_ratio" (dArgs (inS (topS 5) 11)) (.stmts (dBody (inS (topS 5) 11))) (dScope (inS (topS 5) 11)) 3 [] .none .none .none (.str "cpy313.difflib" 194) none (.ref 231) .none 0)) #[])
noncomputable def ob233 (P : Params) : Obj := (.mk (.type "tuple") none (.seq #[] 0) #[])
noncomputable def ob234 (P : Params) : Obj := (.mk .none none (.fields #[]) #[])
noncomputable def ob235 (P : Params) : Obj := (.mk (.type "tuple") none (.seq #[(.str "self" 554)] 0) #[])
noncomputable def ob236 (P : Params) : Obj := (.mk (.type "tuple") none (.seq #[] 0) #[])
noncomputable def ob237 (P : Params) : Obj := (.mk .none none (.func (.mk "real_quick_ratio" "SequenceMatcher.real_quick_ratio" (dArgs (inS (topS 5) 12)) (.stmts (dBody (inS (topS 5) 12))) (dScope (inS (topS 5) 12)) 0 [] .none .none .none .none none .none .none 0)) #[])
noncomputable def ob238 (P : Params) : Obj := (.mk (.type "code") none (.fields #[(.str "real_quick_ratio" 551), (.str "SequenceMatcher.real_quick_ratio" 552), (.str "/claim/cut.py" 553), (.int 416 0), (.int 1 0), (.int 0 0), (.int 0 0), (.int 3 0), (.ref 233), (.bool true), (.int 181 0), (.ref 234), .none, (.ref 235), (.ref 236), (.ref 237), (.int 555 0), (.int 416 0), (.str "/claim/cut.py" 556)]) #[])
noncomputable def ob239 (P : Params) : Obj := (.mk (.type "function") none (.func (.mk "real_quick_ratio" "SequenceMatcher.real_quick_ratio" (dArgs (inS (topS 5) 12)) (.stmts (dBody (inS (topS 5) 12))) (dScope (inS (topS 5) 12)) 3 [] .none .none .none (.str "cpy313.difflib" 194) none (.ref 238) .none 0)) #[])
noncomputable def ob240 (P : Params) : Obj := (.mk (.type "tuple") none (.seq #[(.str "a" 558), (.str "autojunk" 559), (.str "b" 560), (.str "b2j" 561), (.str "bjunk" 562), (.str "bpopular" 563), (.str "fullbcount" 564), (.str "isjunk" 565), (.str "matching_blocks" 566), (.str "opcodes" 567)] 0) #[])
noncomputable def ob241 (P : Params) : Obj := (.mk (.type "dict") none (.dict #[(.mk (PySem.PyData.keyHash P "__module__") (.str "__module__" 396) (.str "cpy313.difflib" 194)), (.mk (PySem.PyData.keyHash P "__firstlineno__") (.str "__firstlineno__" 400) (.int 70 399)), (.mk (PySem.PyData.keyHash P "__doc__") (.str "__doc__" 402) (.str (cDoc (topS 5)) 401)), (.mk (PySem.PyData.keyHash P "__init__") (.str "__init__" 417) (.ref 160)), (.mk (PySem.PyData.keyHash P "set_seqs") (.str "set_seqs" 427) (.ref 167)), (.mk (PySem.PyData.keyHash P "set_seq1") (.str "set_seq1" 436) (.ref 174)), (.mk (PySem.PyData.keyHash P "set_seq2") (.str "set_seq2" 445) (.ref 181)), (.mk (PySem.PyData.keyHash P "_SequenceMatcher__chain_b") (.str "_SequenceMatcher__chain_b" 463) (.ref 188)), (.mk (PySem.PyData.keyHash P "find_longest_match") (.str "find_longest_match" 491) (.ref 196)), (.mk (PySem.PyData.keyHash P "get_matching_blocks") (.str "get_matching_blocks" 518) (.ref 203)), (.mk (PySem.PyData.keyHash P "get_opcodes") (.str "get_opcodes" 525) (.ref 210)), (.mk (PySem.PyData.keyHash P "get_grouped_opcodes") (.str "get_grouped_opcodes" 534) (.ref 218)), (.mk (PySem.PyData.keyHash P "ratio") (.str "ratio" 543) (.ref 225)), (.mk (PySem.PyData.keyHash P "quick_ratio") (.str "quick_ratio" 550) (.ref 232)), (.mk (PySem.PyData.keyHash P "real_quick_ratio") (.str "real_quick_ratio" 557) (.ref 239)), (.mk (PySem.PyData.keyHash P "__static_attributes__") (.str "__static_attributes__" 568) (.ref 240)), (.mk (PySem.PyData.keyHash P "__dict__") (.str "__dict__" 570) (.ref 243)), (.mk (PySem.PyData.keyHash P "__weakref__") (.str "__weakref__" 572) (.ref 244))] 3) #[])
noncomputable def ob242 (P : Params) : Obj := (.mk (.type "type") none (.cls (.mk "SequenceMatcher" [(.type "object")] [(.ref 242), (.type "object")] 241 "SequenceMatcher" true [] [] false none false)) #[none, none, (some (.str "SequenceMatcher" 389)), (some (.str "SequenceMatcher" 397)), (some (.builtin "object.__new__")), (some (.bool true))])
noncomputable def ob243 (P : Params) : Obj := (.mk (.type "getset_descriptor") none (.fields #[(.str "__dict__" 569), (.ref 242), (.builtin "function.__dict__"), (.builtin "function.__dict__#set")]) #[])
noncomputable def ob244 (P : Params) : Obj := (.mk (.type "getset_descriptor") none (.fields #[(.str "__weakref__" 571), (.ref 242), (.builtin "ExceptionGroup.__weakref__"), .none]) #[])
noncomputable def ob245 (P : Params) : Obj := (.mk (.type "super") none (.fields #[(.ref 242), (.ref 242), (.ref 242)]) #[])
noncomputable def ob246 (P : Params) : Obj := (.mk (.type "builtin_function_or_method") none (.fields #[(.builtin "object.__init_subclass__"), (.ref 242)]) #[])
noncomputable def ob247 (P : Params) : Obj := (.mk (.type "tuple") none (.seq #[] 0) #[])
noncomputable def ob248 (P : Params) : Obj := (.mk .none none (.fields #[]) #[])
noncomputable def ob249 (P : Params) : Obj := (.mk (.type "tuple") none (.seq #[(.str "prefix" 580), (.str "table" 581), (.str "i" 582), (.str "idx" 583)] 0) #[])
noncomputable def ob250 (P : Params) : Obj := (.mk (.type "tuple") none (.seq #[] 0) #[])
noncomputable def ob251 (P : Params) : Obj := (.mk .none none (.func (.mk "_generate_overlap_table" "_generate_overlap_table" (dArgs (topS 7)) (.stmts (dBody (topS 7))) (dScope (topS 7)) 0 [] .none .none .none .none none .none .none 0)) #[])
noncomputable def ob252 (P : Params) : Obj := (.mk (.type "code") none (.fields #[(.str "_generate_overlap_table" 577), (.str "_generate_overlap_table" 578), (.str "/claim/cut.py" 579), (.int 419 0), (.int 1 0), (.int 0 0), (.int 0 0), (.int 3 0), (.ref 247), (.bool true), (.int 181 0), (.ref 248), .none, (.ref 249), (.ref 250), (.ref 251), (.int 584 0), (.int 419 0), (.str "/claim/cut.py" 585)]) #[])
noncomputable def ob253 (P : Params) : Obj := (.mk (.type "function") none (.func (.mk "_generate_overlap_table" "_generate_overlap_table" (dArgs (topS 7)) (.stmts (dBody (topS 7))) (dScope (topS 7)) 3 [] .none .none (.str (dDoc (topS 7)) 586) (.str "cpy313.re._compiler" 575) none (.ref 252) .none 0)) #[])
noncomputable def ob254 (P : Params) : Obj := (.mk (.type "tuple") none (.seq #[] 0) #[])
noncomputable def ob255 (P : Params) : Obj := (.mk .none none (.fields #[]) #[])
noncomputable def ob256 (P : Params) : Obj := (.mk .none none (.func (.mk "_law_rows" "_law_rows" (dArgs (topS 9)) (.stmts (dBody (topS 9))) (dScope (topS 9)) 0 [] .none .none .none .none none .none .none 0)) #[])
noncomputable def ob257 (P : Params) : Obj := (.mk (.type "code") none (.fields #[(.str "_law_rows" 590), (.str "_law_rows" 591), (.str "/claim/cut.py" 592), (.int 440 0), (.int 1 0), (.int 0 0), (.int 0 0), (.int 3 0), (.ref 254), (.bool true), (.int 181 0), (.ref 255), .none, .none, .none, (.ref 256), (.int 593 0), (.int 440 0), (.str "/claim/cut.py" 594)]) #[])
noncomputable def ob258 (P : Params) : Obj := (.mk (.type "function") none (.func (.mk "_law_rows" "_law_rows" (dArgs (topS 9)) (.stmts (dBody (topS 9))) (dScope (topS 9)) 3 [] .none .none .none (.str "law_pg0326_01" 588) none (.ref 257) .none 0)) #[])
noncomputable def ob259 (P : Params) : Obj := (.mk (.type "tuple") none (.seq #[] 0) #[])
noncomputable def ob260 (P : Params) : Obj := (.mk .none none (.fields #[]) #[])
noncomputable def ob261 (P : Params) : Obj := (.mk .none none (.func (.mk "_law_longest" "_law_longest" (dArgs (topS 10)) (.stmts (dBody (topS 10))) (dScope (topS 10)) 0 [] .none .none .none .none none .none .none 0)) #[])
noncomputable def ob262 (P : Params) : Obj := (.mk (.type "code") none (.fields #[(.str "_law_longest" 596), (.str "_law_longest" 597), (.str "/claim/cut.py" 598), (.int 453 0), (.int 3 0), (.int 0 0), (.int 0 0), (.int 3 0), (.ref 259), (.bool true), (.int 181 0), (.ref 260), .none, .none, .none, (.ref 261), (.int 599 0), (.int 453 0), (.str "/claim/cut.py" 600)]) #[])
noncomputable def ob263 (P : Params) : Obj := (.mk (.type "function") none (.func (.mk "_law_longest" "_law_longest" (dArgs (topS 10)) (.stmts (dBody (topS 10))) (dScope (topS 10)) 3 [] .none .none .none (.str "law_pg0326_01" 588) none (.ref 262) .none 0)) #[])
noncomputable def ob264 (P : Params) : Obj := (.mk (.type "tuple") none (.seq #[] 0) #[])
noncomputable def ob265 (P : Params) : Obj := (.mk .none none (.fields #[]) #[])
noncomputable def ob266 (P : Params) : Obj := (.mk (.type "tuple") none (.seq #[(.str "one" 605), (.str "two" 606), (.str "start" 607), (.str "other" 608), (.str "junk" 609), (.str "k" 610), (.str "j" 611), (.str "size" 612), (.str "ahead" 613), (.str "behind" 614)] 0) #[])
noncomputable def ob267 (P : Params) : Obj := (.mk (.type "tuple") none (.seq #[] 0) #[])
noncomputable def ob268 (P : Params) : Obj := (.mk .none none (.func (.mk "_law_blocks" "_law_blocks" (dArgs (topS 11)) (.stmts (dBody (topS 11))) (dScope (topS 11)) 0 [] .none .none .none .none none .none .none 0)) #[])
noncomputable def ob269 (P : Params) : Obj := (.mk (.type "code") none (.fields #[(.str "_law_blocks" 602), (.str "_law_blocks" 603), (.str "/claim/cut.py" 604), (.int 468 0), (.int 5 0), (.int 0 0), (.int 0 0), (.int 3 0), (.ref 264), (.bool true), (.int 181 0), (.ref 265), .none, (.ref 266), (.ref 267), (.ref 268), (.int 615 0), (.int 468 0), (.str "/claim/cut.py" 616)]) #[])
noncomputable def ob270 (P : Params) : Obj := (.mk (.type "function") none (.func (.mk "_law_blocks" "_law_blocks" (dArgs (topS 11)) (.stmts (dBody (topS 11))) (dScope (topS 11)) 3 [] .none .none .none (.str "law_pg0326_01" 588) none (.ref 269) .none 0)) #[])
noncomputable def ob271 (P : Params) : Obj := (.mk (.type "tuple") none (.seq #[] 0) #[])
noncomputable def ob272 (P : Params) : Obj := (.mk .none none (.fields #[]) #[])
noncomputable def ob273 (P : Params) : Obj := (.mk (.type "tuple") none (.seq #[(.str "one" 621), (.str "two" 622), (.str "junk" 623), (.str "due" 624), (.str "k" 625), (.str "j" 626), (.str "size" 627)] 0) #[])
noncomputable def ob274 (P : Params) : Obj := (.mk (.type "tuple") none (.seq #[] 0) #[])
noncomputable def ob275 (P : Params) : Obj := (.mk .none none (.func (.mk "_law_due" "_law_due" (dArgs (topS 12)) (.stmts (dBody (topS 12))) (dScope (topS 12)) 0 [] .none .none .none .none none .none .none 0)) #[])
noncomputable def ob276 (P : Params) : Obj := (.mk (.type "code") none (.fields #[(.str "_law_due" 618), (.str "_law_due" 619), (.str "/claim/cut.py" 620), (.int 475 0), (.int 3 0), (.int 0 0), (.int 0 0), (.int 3 0), (.ref 271), (.bool true), (.int 181 0), (.ref 272), .none, (.ref 273), (.ref 274), (.ref 275), (.int 628 0), (.int 475 0), (.str "/claim/cut.py" 629)]) #[])
noncomputable def ob277 (P : Params) : Obj := (.mk (.type "function") none (.func (.mk "_law_due" "_law_due" (dArgs (topS 12)) (.stmts (dBody (topS 12))) (dScope (topS 12)) 3 [] .none .none .none (.str "law_pg0326_01" 588) none (.ref 276) .none 0)) #[])
noncomputable def ob278 (P : Params) : Obj := (.mk (.type "tuple") none (.seq #[] 0) #[])
noncomputable def ob279 (P : Params) : Obj := (.mk .none none (.fields #[]) #[])
noncomputable def ob280 (P : Params) : Obj := (.mk .none none (.func (.mk "_law_names" "_law_names" (dArgs (topS 13)) (.stmts (dBody (topS 13))) (dScope (topS 13)) 0 [] .none .none .none .none none .none .none 0)) #[])
noncomputable def ob281 (P : Params) : Obj := (.mk (.type "code") none (.fields #[(.str "_law_names" 631), (.str "_law_names" 632), (.str "/claim/cut.py" 633), (.int 483 0), (.int 1 0), (.int 0 0), (.int 0 0), (.int 3 0), (.ref 278), (.bool true), (.int 181 0), (.ref 279), .none, .none, .none, (.ref 280), (.int 634 0), (.int 483 0), (.str "/claim/cut.py" 635)]) #[])
noncomputable def ob282 (P : Params) : Obj := (.mk (.type "function") none (.func (.mk "_law_names" "_law_names" (dArgs (topS 13)) (.stmts (dBody (topS 13))) (dScope (topS 13)) 3 [] .none .none .none (.str "law_pg0326_01" 588) none (.ref 281) .none 0)) #[])
noncomputable def ob283 (P : Params) : Obj := (.mk (.type "tuple") none (.seq #[] 0) #[])
noncomputable def ob284 (P : Params) : Obj := (.mk .none none (.fields #[]) #[])
noncomputable def ob285 (P : Params) : Obj := (.mk .none none (.func (.mk "_law_told" "_law_told" (dArgs (topS 14)) (.stmts (dBody (topS 14))) (dScope (topS 14)) 0 [] .none .none .none .none none .none .none 0)) #[])
noncomputable def ob286 (P : Params) : Obj := (.mk (.type "code") none (.fields #[(.str "_law_told" 637), (.str "_law_told" 638), (.str "/claim/cut.py" 639), (.int 488 0), (.int 1 0), (.int 0 0), (.int 0 0), (.int 3 0), (.ref 283), (.bool true), (.int 181 0), (.ref 284), .none, .none, .none, (.ref 285), (.int 640 0), (.int 488 0), (.str "/claim/cut.py" 641)]) #[])
noncomputable def ob287 (P : Params) : Obj := (.mk (.type "function") none (.func (.mk "_law_told" "_law_told" (dArgs (topS 14)) (.stmts (dBody (topS 14))) (dScope (topS 14)) 3 [] .none .none .none (.str "law_pg0326_01" 588) none (.ref 286) .none 0)) #[])
noncomputable def ob288 (P : Params) : Obj := (.mk (.type "tuple") none (.seq #[] 0) #[])
noncomputable def ob289 (P : Params) : Obj := (.mk .none none (.fields #[]) #[])
noncomputable def ob290 (P : Params) : Obj := (.mk (.type "tuple") none (.seq #[(.str "matcher" 646), (.str "one" 647), (.str "two" 648), (.str "junk" 649), (.str "end" 650), (.str "k" 651), (.str "j" 652), (.str "size" 653), (.str "due" 654)] 0) #[])
noncomputable def ob291 (P : Params) : Obj := (.mk (.type "tuple") none (.seq #[] 0) #[])
noncomputable def ob292 (P : Params) : Obj := (.mk .none none (.func (.mk "_law_like" "_law_like" (dArgs (topS 15)) (.stmts (dBody (topS 15))) (dScope (topS 15)) 0 [] .none .none .none .none none .none .none 0)) #[])
noncomputable def ob293 (P : Params) : Obj := (.mk (.type "code") none (.fields #[(.str "_law_like" 643), (.str "_law_like" 644), (.str "/claim/cut.py" 645), (.int 491 0), (.int 4 0), (.int 0 0), (.int 0 0), (.int 3 0), (.ref 288), (.bool true), (.int 181 0), (.ref 289), .none, (.ref 290), (.ref 291), (.ref 292), (.int 655 0), (.int 491 0), (.str "/claim/cut.py" 656)]) #[])
noncomputable def ob294 (P : Params) : Obj := (.mk (.type "function") none (.func (.mk "_law_like" "_law_like" (dArgs (topS 15)) (.stmts (dBody (topS 15))) (dScope (topS 15)) 3 [] .none .none .none (.str "law_pg0326_01" 588) none (.ref 293) .none 0)) #[])
noncomputable def ob295 (P : Params) : Obj := (.mk (.type "tuple") none (.seq #[] 0) #[])
noncomputable def ob296 (P : Params) : Obj := (.mk .none none (.fields #[]) #[])
noncomputable def ob297 (P : Params) : Obj := (.mk (.type "tuple") none (.seq #[(.str "script" 661), (.str "one" 662), (.str "two" 663), (.str "matcher" 664), (.str "other" 665), (.str "empty" 666)] 0) #[])
noncomputable def ob298 (P : Params) : Obj := (.mk (.type "tuple") none (.seq #[] 0) #[])
noncomputable def ob299 (P : Params) : Obj := (.mk .none none (.func (.mk "law" "law" (dArgs (topS 16)) (.stmts (dBody (topS 16))) (dScope (topS 16)) 0 [] .none .none .none .none none .none .none 0)) #[])
noncomputable def ob300 (P : Params) : Obj := (.mk (.type "code") none (.fields #[(.str "law" 658), (.str "law" 659), (.str "/claim/cut.py" 660), (.int 503 0), (.int 1 0), (.int 0 0), (.int 0 0), (.int 3 0), (.ref 295), (.bool true), (.int 181 0), (.ref 296), .none, (.ref 297), (.ref 298), (.ref 299), (.int 667 0), (.int 503 0), (.str "/claim/cut.py" 668)]) #[])
noncomputable def ob301 (P : Params) : Obj := (.mk (.type "function") none (.func (.mk "law" "law" (dArgs (topS 16)) (.stmts (dBody (topS 16))) (dScope (topS 16)) 3 [] .none .none .none (.str "law_pg0326_01" 588) none (.ref 300) .none 0)) #[])

noncomputable def lifeE : Life := .mk [] [] [] 0 [] [] false #[] [] 0 false false false 0 [2000, 10, 10] false 0 true [] [] 0 false
noncomputable def tc0 : List Str := ["__name__", "law_pg0326_01", "__doc__", "__package__", "__loader__", "__spec__", "__annotations__", "__builtins__"]
noncomputable def tc1 : List Str := ["__file__", "/claim/cut.py", "__cached__", "_wall", "_tuplegetter", "Match", "_calculate_ratio", "SequenceMatcher"]
noncomputable def tc2 : List Str := ["_generate_overlap_table", "_law_rows", "_law_longest", "_law_blocks", "_law_due", "_law_names", "_law_told", "_law_like"]
noncomputable def tc3 : List Str := ["law", "<module>", "__main__", "k", "__module__", "cpy313.difflib", "__qualname__", "__firstlineno__"]
noncomputable def tc4 : List Str := ["__init__", "__get__", "__set__", "__delete__", "__static_attributes__", "self", "index", "doc"]
noncomputable def tc5 : List Str := ["_tuplegetter.__init__", "obj", "objtype", "_tuplegetter.__get__", "value", "_tuplegetter.__set__", "_tuplegetter.__delete__", "__dict__"]
noncomputable def tc6 : List Str := ["__weakref__", "__slots__", "_fields", "_field_defaults", "__new__", "_make", "_replace", "__replace__"]
noncomputable def tc7 : List Str := ["__repr__", "_asdict", "__getnewargs__", "__match_args__", "a", "b", "size", "__classcell__"]
noncomputable def tc8 : List Str := ["_cls", "Match.__new__", "cls", "iterable", "result", "Match._make", "__class__", "kwds"]
noncomputable def tc9 : List Str := ["Match._replace", "Match.__repr__", "Match._asdict", "Match.__getnewargs__", "Alias for field number 0", "Alias for field number 1", "Alias for field number 2", "matches"]
noncomputable def tc10 : List Str := ["length", "set_seqs", "set_seq1", "set_seq2", "_SequenceMatcher__chain_b", "find_longest_match", "get_matching_blocks", "get_opcodes"]
noncomputable def tc11 : List Str := ["get_grouped_opcodes", "ratio", "quick_ratio", "real_quick_ratio", "", "isjunk", "autojunk", "SequenceMatcher.__init__"]
noncomputable def tc12 : List Str := ["SequenceMatcher.set_seqs", "SequenceMatcher.set_seq1", "SequenceMatcher.set_seq2", "b2j", "i", "elt", "indices", "junk"]
noncomputable def tc13 : List Str := ["popular", "n", "ntest", "idxs", "__chain_b", "SequenceMatcher.__chain_b", "alo", "ahi"]
noncomputable def tc14 : List Str := ["blo", "bhi", "isbjunk", "besti", "bestj", "bestsize", "j2len", "nothing"]
noncomputable def tc15 : List Str := ["j2lenget", "newj2len", "j", "SequenceMatcher.find_longest_match", "la", "lb", "queue", "matching_blocks"]
noncomputable def tc16 : List Str := ["x", "i1", "j1", "k1", "non_adjacent", "i2", "j2", "k2"]
noncomputable def tc17 : List Str := ["SequenceMatcher.get_matching_blocks", "SequenceMatcher.get_opcodes", "SequenceMatcher.get_grouped_opcodes", "SequenceMatcher.ratio", "SequenceMatcher.quick_ratio", "SequenceMatcher.real_quick_ratio", "bjunk", "bpopular"]
noncomputable def tc18 : List Str := ["fullbcount", "opcodes", "prefix", "table", "idx", "cpy313.re._compiler", "one", "two"]
noncomputable def tc19 : List Str := ["start", "other", "ahead", "behind", "due", "matcher", "end", "script"]
noncomputable def tc20 : List Str := ["empty", "issubclass", "type", "tuple", "__getitem__", "AttributeError", "len", "TypeError"]
noncomputable def tc21 : List Str := ["classmethod", "__len__", "pop", "map", "list", "enumerate", "setdefault", "append"]
noncomputable def tc22 : List Str := ["set", "keys", "add", "items", "__contains__", "range", "get", "sort"]
noncomputable def tc23 : List Str := ["sum", "triple", ".0", "total", "fast", "left", "right", "at"]
noncomputable def tc24 : List Str := by
  refine (?f : ∀ {s : List Str}, [Str.ofString "found", Str.ofString "names", Str.ofString "name", Str.ofString "int", Str.ofString "blocks", Str.ofString "block", Str.ofString "sign", (cDoc (topS 3))] = s → List Str) (rfl : _ = [Str.ofString _, Str.ofString _, Str.ofString _, Str.ofString _, Str.ofString _, Str.ofString _, Str.ofString _, Str.ofString _]); exact fun {s} _ => s
noncomputable def tc25 : List Str := by
  refine (?f : ∀ {s : List Str}, [(cDoc (topS 5))] = s → List Str) (rfl : _ = [Str.ofString _]); exact fun {s} _ => s
noncomputable def tc26 : List Str := by
  refine [(?f0 : ∀ {a : Str} {x k p y z u v}, dBody (inS (topS 2) 2) = [.Raise (some (.Call x [.Constant (.str a) k p] y z)) u v] → Str) rfl, (?f1 : ∀ {a : Str} {x k p y z u v}, dBody (inS (topS 2) 3) = [.Raise (some (.Call x [.Constant (.str a) k p] y z)) u v] → Str) rfl, (?f2 : ∀ {a : Str} {m n l t e o x k p y z u v r q}, dBody (inS (topS 3) 5) = [m, n, .If t [.Raise (some (.Call x [.JoinedStr (.Constant (.str a) k p :: r) q] y z)) u v] e o, l] → Str) rfl, (?f3 : ∀ {a : Str} {m n l t e o x k p y z u v r q}, dBody (inS (topS 3) 6) = [m, n, .If t [.Raise (some (.Call x [.JoinedStr (.Constant (.str a) k p :: r) q] y z)) u v] e o, l] → Str) rfl, (?f4 : ∀ {a : Str} {m l k p o r q s t u}, dBody (inS (topS 3) 8) = [m, .Return (some (.BinOp l o (.BinOp (.Constant (.str a) k p) r q s) t)) u] → Str) rfl]
  all_goals (intro a; intros; exact a)
noncomputable def tcs : List (List Str) := [tc0, tc1, tc2, tc3, tc4, tc5, tc6, tc7, tc8, tc9, tc10, tc11, tc12, tc13, tc14, tc15, tc16, tc17, tc18, tc19, tc20, tc21, tc22, tc23, tc24, tc25, tc26]
noncomputable def dcs : List Str := by
  refine (?f : ∀ {s : List Str}, [(dDoc (inS (topS 3) 10)), (dDoc (inS (topS 3) 4)), (dDoc (inS (topS 3) 5)), (dDoc (inS (topS 3) 6)), (dDoc (inS (topS 3) 8)), (dDoc (inS (topS 5) 1)), (dDoc (inS (topS 5) 10)), (dDoc (inS (topS 5) 2)), (dDoc (inS (topS 5) 3)), (dDoc (inS (topS 5) 4)), (dDoc (inS (topS 5) 6)), (dDoc (inS (topS 5) 7)), (dDoc (topS 7))] = s → List Str) (rfl : _ = [Str.ofString _, Str.ofString _, Str.ofString _, Str.ofString _, Str.ofString _, Str.ofString _, Str.ofString _, Str.ofString _, Str.ofString _, Str.ofString _, Str.ofString _, Str.ofString _, Str.ofString _]); exact fun {s} _ => s
noncomputable def uc0 : List String := ["dict", "__main__.__loader__#opaque", "tuple", "code", "frame", "function", "builtin_function_or_method", "type.__prepare__"]
noncomputable def uc1 : List String := ["type", "object", "object.__new__", "getset_descriptor", "function.__dict__", "function.__dict__#set", "ExceptionGroup.__weakref__", "super"]
noncomputable def uc2 : List String := ["object.__init_subclass__", "cell", "classmethod", "list", "staticmethod"]
noncomputable def ucs : List (List String) := [uc0, uc1, uc2]
noncomputable def nthS {α : Type} (d : α) : List α → Nat → α
  | s :: _, 0 => s
  | _ :: r, n + 1 => nthS d r n
  | [], _ => d
noncomputable def T0 (i : Nat) : Str := nthS ⟨⟨[]⟩⟩ (nthS [] tcs (i / 8)) (i % 8)
noncomputable def D0 (i : Nat) : Str := nthS ⟨⟨[]⟩⟩ dcs i
noncomputable def U0 (i : Nat) : String := nthS (String.ofList []) (nthS [] ucs (i / 8)) (i % 8)
noncomputable def myP : (Nat → Str) → (Nat → Str) → Program := by
  refine (?f : ∀ {F : (Nat → Str) → (Nat → Str) → Program}, (∀ T D, T0 = T → D0 = D → PySem.Challenge.pw_pg0326_01 = F T D) → (Nat → Str) → (Nat → Str) → Program) (fun T D h h2 => by
    delta PySem.Challenge.pw_pg0326_01
    have eT0 : Str.ofString "__name__" = T0 0 := rfl
    have eT1 : Str.ofString "law_pg0326_01" = T0 1 := rfl
    have eT2 : Str.ofString "__doc__" = T0 2 := rfl
    have eT3 : Str.ofString "__package__" = T0 3 := rfl
    have eT4 : Str.ofString "__loader__" = T0 4 := rfl
    have eT5 : Str.ofString "__spec__" = T0 5 := rfl
    have eT6 : Str.ofString "__annotations__" = T0 6 := rfl
    have eT7 : Str.ofString "__builtins__" = T0 7 := rfl
    have eT8 : Str.ofString "__file__" = T0 8 := rfl
    have eT9 : Str.ofString "/claim/cut.py" = T0 9 := rfl
    have eT10 : Str.ofString "__cached__" = T0 10 := rfl
    have eT11 : Str.ofString "_wall" = T0 11 := rfl
    have eT12 : Str.ofString "_tuplegetter" = T0 12 := rfl
    have eT13 : Str.ofString "Match" = T0 13 := rfl
    have eT14 : Str.ofString "_calculate_ratio" = T0 14 := rfl
    have eT15 : Str.ofString "SequenceMatcher" = T0 15 := rfl
    have eT16 : Str.ofString "_generate_overlap_table" = T0 16 := rfl
    have eT17 : Str.ofString "_law_rows" = T0 17 := rfl
    have eT18 : Str.ofString "_law_longest" = T0 18 := rfl
    have eT19 : Str.ofString "_law_blocks" = T0 19 := rfl
    have eT20 : Str.ofString "_law_due" = T0 20 := rfl
    have eT21 : Str.ofString "_law_names" = T0 21 := rfl
    have eT22 : Str.ofString "_law_told" = T0 22 := rfl
    have eT23 : Str.ofString "_law_like" = T0 23 := rfl
    have eT24 : Str.ofString "law" = T0 24 := rfl
    have eT25 : Str.ofString "<module>" = T0 25 := rfl
    have eT26 : Str.ofString "__main__" = T0 26 := rfl
    have eT27 : Str.ofString "k" = T0 27 := rfl
    have eT28 : Str.ofString "__module__" = T0 28 := rfl
    have eT29 : Str.ofString "cpy313.difflib" = T0 29 := rfl
    have eT30 : Str.ofString "__qualname__" = T0 30 := rfl
    have eT31 : Str.ofString "__firstlineno__" = T0 31 := rfl
    have eT32 : Str.ofString "__init__" = T0 32 := rfl
    have eT33 : Str.ofString "__get__" = T0 33 := rfl
    have eT34 : Str.ofString "__set__" = T0 34 := rfl
    have eT35 : Str.ofString "__delete__" = T0 35 := rfl
    have eT36 : Str.ofString "__static_attributes__" = T0 36 := rfl
    have eT37 : Str.ofString "self" = T0 37 := rfl
    have eT38 : Str.ofString "index" = T0 38 := rfl
    have eT39 : Str.ofString "doc" = T0 39 := rfl
    have eT40 : Str.ofString "_tuplegetter.__init__" = T0 40 := rfl
    have eT41 : Str.ofString "obj" = T0 41 := rfl
    have eT42 : Str.ofString "objtype" = T0 42 := rfl
    have eT43 : Str.ofString "_tuplegetter.__get__" = T0 43 := rfl
    have eT44 : Str.ofString "value" = T0 44 := rfl
    have eT45 : Str.ofString "_tuplegetter.__set__" = T0 45 := rfl
    have eT46 : Str.ofString "_tuplegetter.__delete__" = T0 46 := rfl
    have eT47 : Str.ofString "__dict__" = T0 47 := rfl
    have eT48 : Str.ofString "__weakref__" = T0 48 := rfl
    have eT49 : Str.ofString "__slots__" = T0 49 := rfl
    have eT50 : Str.ofString "_fields" = T0 50 := rfl
    have eT51 : Str.ofString "_field_defaults" = T0 51 := rfl
    have eT52 : Str.ofString "__new__" = T0 52 := rfl
    have eT53 : Str.ofString "_make" = T0 53 := rfl
    have eT54 : Str.ofString "_replace" = T0 54 := rfl
    have eT55 : Str.ofString "__replace__" = T0 55 := rfl
    have eT56 : Str.ofString "__repr__" = T0 56 := rfl
    have eT57 : Str.ofString "_asdict" = T0 57 := rfl
    have eT58 : Str.ofString "__getnewargs__" = T0 58 := rfl
    have eT59 : Str.ofString "__match_args__" = T0 59 := rfl
    have eT60 : Str.ofString "a" = T0 60 := rfl
    have eT61 : Str.ofString "b" = T0 61 := rfl
    have eT62 : Str.ofString "size" = T0 62 := rfl
    have eT63 : Str.ofString "__classcell__" = T0 63 := rfl
    have eT64 : Str.ofString "_cls" = T0 64 := rfl
    have eT65 : Str.ofString "Match.__new__" = T0 65 := rfl
    have eT66 : Str.ofString "cls" = T0 66 := rfl
    have eT67 : Str.ofString "iterable" = T0 67 := rfl
    have eT68 : Str.ofString "result" = T0 68 := rfl
    have eT69 : Str.ofString "Match._make" = T0 69 := rfl
    have eT70 : Str.ofString "__class__" = T0 70 := rfl
    have eT71 : Str.ofString "kwds" = T0 71 := rfl
    have eT72 : Str.ofString "Match._replace" = T0 72 := rfl
    have eT73 : Str.ofString "Match.__repr__" = T0 73 := rfl
    have eT74 : Str.ofString "Match._asdict" = T0 74 := rfl
    have eT75 : Str.ofString "Match.__getnewargs__" = T0 75 := rfl
    have eT76 : Str.ofString "Alias for field number 0" = T0 76 := rfl
    have eT77 : Str.ofString "Alias for field number 1" = T0 77 := rfl
    have eT78 : Str.ofString "Alias for field number 2" = T0 78 := rfl
    have eT79 : Str.ofString "matches" = T0 79 := rfl
    have eT80 : Str.ofString "length" = T0 80 := rfl
    have eT81 : Str.ofString "set_seqs" = T0 81 := rfl
    have eT82 : Str.ofString "set_seq1" = T0 82 := rfl
    have eT83 : Str.ofString "set_seq2" = T0 83 := rfl
    have eT84 : Str.ofString "_SequenceMatcher__chain_b" = T0 84 := rfl
    have eT85 : Str.ofString "find_longest_match" = T0 85 := rfl
    have eT86 : Str.ofString "get_matching_blocks" = T0 86 := rfl
    have eT87 : Str.ofString "get_opcodes" = T0 87 := rfl
    have eT88 : Str.ofString "get_grouped_opcodes" = T0 88 := rfl
    have eT89 : Str.ofString "ratio" = T0 89 := rfl
    have eT90 : Str.ofString "quick_ratio" = T0 90 := rfl
    have eT91 : Str.ofString "real_quick_ratio" = T0 91 := rfl
    have eT92 : Str.ofString "" = T0 92 := rfl
    have eT93 : Str.ofString "isjunk" = T0 93 := rfl
    have eT94 : Str.ofString "autojunk" = T0 94 := rfl
    have eT95 : Str.ofString "SequenceMatcher.__init__" = T0 95 := rfl
    have eT96 : Str.ofString "SequenceMatcher.set_seqs" = T0 96 := rfl
    have eT97 : Str.ofString "SequenceMatcher.set_seq1" = T0 97 := rfl
    have eT98 : Str.ofString "SequenceMatcher.set_seq2" = T0 98 := rfl
    have eT99 : Str.ofString "b2j" = T0 99 := rfl
    have eT100 : Str.ofString "i" = T0 100 := rfl
    have eT101 : Str.ofString "elt" = T0 101 := rfl
    have eT102 : Str.ofString "indices" = T0 102 := rfl
    have eT103 : Str.ofString "junk" = T0 103 := rfl
    have eT104 : Str.ofString "popular" = T0 104 := rfl
    have eT105 : Str.ofString "n" = T0 105 := rfl
    have eT106 : Str.ofString "ntest" = T0 106 := rfl
    have eT107 : Str.ofString "idxs" = T0 107 := rfl
    have eT108 : Str.ofString "__chain_b" = T0 108 := rfl
    have eT109 : Str.ofString "SequenceMatcher.__chain_b" = T0 109 := rfl
    have eT110 : Str.ofString "alo" = T0 110 := rfl
    have eT111 : Str.ofString "ahi" = T0 111 := rfl
    have eT112 : Str.ofString "blo" = T0 112 := rfl
    have eT113 : Str.ofString "bhi" = T0 113 := rfl
    have eT114 : Str.ofString "isbjunk" = T0 114 := rfl
    have eT115 : Str.ofString "besti" = T0 115 := rfl
    have eT116 : Str.ofString "bestj" = T0 116 := rfl
    have eT117 : Str.ofString "bestsize" = T0 117 := rfl
    have eT118 : Str.ofString "j2len" = T0 118 := rfl
    have eT119 : Str.ofString "nothing" = T0 119 := rfl
    have eT120 : Str.ofString "j2lenget" = T0 120 := rfl
    have eT121 : Str.ofString "newj2len" = T0 121 := rfl
    have eT122 : Str.ofString "j" = T0 122 := rfl
    have eT123 : Str.ofString "SequenceMatcher.find_longest_match" = T0 123 := rfl
    have eT124 : Str.ofString "la" = T0 124 := rfl
    have eT125 : Str.ofString "lb" = T0 125 := rfl
    have eT126 : Str.ofString "queue" = T0 126 := rfl
    have eT127 : Str.ofString "matching_blocks" = T0 127 := rfl
    have eT128 : Str.ofString "x" = T0 128 := rfl
    have eT129 : Str.ofString "i1" = T0 129 := rfl
    have eT130 : Str.ofString "j1" = T0 130 := rfl
    have eT131 : Str.ofString "k1" = T0 131 := rfl
    have eT132 : Str.ofString "non_adjacent" = T0 132 := rfl
    have eT133 : Str.ofString "i2" = T0 133 := rfl
    have eT134 : Str.ofString "j2" = T0 134 := rfl
    have eT135 : Str.ofString "k2" = T0 135 := rfl
    have eT136 : Str.ofString "SequenceMatcher.get_matching_blocks" = T0 136 := rfl
    have eT137 : Str.ofString "SequenceMatcher.get_opcodes" = T0 137 := rfl
    have eT138 : Str.ofString "SequenceMatcher.get_grouped_opcodes" = T0 138 := rfl
    have eT139 : Str.ofString "SequenceMatcher.ratio" = T0 139 := rfl
    have eT140 : Str.ofString "SequenceMatcher.quick_ratio" = T0 140 := rfl
    have eT141 : Str.ofString "SequenceMatcher.real_quick_ratio" = T0 141 := rfl
    have eT142 : Str.ofString "bjunk" = T0 142 := rfl
    have eT143 : Str.ofString "bpopular" = T0 143 := rfl
    have eT144 : Str.ofString "fullbcount" = T0 144 := rfl
    have eT145 : Str.ofString "opcodes" = T0 145 := rfl
    have eT146 : Str.ofString "prefix" = T0 146 := rfl
    have eT147 : Str.ofString "table" = T0 147 := rfl
    have eT148 : Str.ofString "idx" = T0 148 := rfl
    have eT149 : Str.ofString "cpy313.re._compiler" = T0 149 := rfl
    have eT150 : Str.ofString "one" = T0 150 := rfl
    have eT151 : Str.ofString "two" = T0 151 := rfl
    have eT152 : Str.ofString "start" = T0 152 := rfl
    have eT153 : Str.ofString "other" = T0 153 := rfl
    have eT154 : Str.ofString "ahead" = T0 154 := rfl
    have eT155 : Str.ofString "behind" = T0 155 := rfl
    have eT156 : Str.ofString "due" = T0 156 := rfl
    have eT157 : Str.ofString "matcher" = T0 157 := rfl
    have eT158 : Str.ofString "end" = T0 158 := rfl
    have eT159 : Str.ofString "script" = T0 159 := rfl
    have eT160 : Str.ofString "empty" = T0 160 := rfl
    have eT161 : Str.ofString "issubclass" = T0 161 := rfl
    have eT162 : Str.ofString "type" = T0 162 := rfl
    have eT163 : Str.ofString "tuple" = T0 163 := rfl
    have eT164 : Str.ofString "__getitem__" = T0 164 := rfl
    have eT165 : Str.ofString "AttributeError" = T0 165 := rfl
    have eT166 : Str.ofString "len" = T0 166 := rfl
    have eT167 : Str.ofString "TypeError" = T0 167 := rfl
    have eT168 : Str.ofString "classmethod" = T0 168 := rfl
    have eT169 : Str.ofString "__len__" = T0 169 := rfl
    have eT170 : Str.ofString "pop" = T0 170 := rfl
    have eT171 : Str.ofString "map" = T0 171 := rfl
    have eT172 : Str.ofString "list" = T0 172 := rfl
    have eT173 : Str.ofString "enumerate" = T0 173 := rfl
    have eT174 : Str.ofString "setdefault" = T0 174 := rfl
    have eT175 : Str.ofString "append" = T0 175 := rfl
    have eT176 : Str.ofString "set" = T0 176 := rfl
    have eT177 : Str.ofString "keys" = T0 177 := rfl
    have eT178 : Str.ofString "add" = T0 178 := rfl
    have eT179 : Str.ofString "items" = T0 179 := rfl
    have eT180 : Str.ofString "__contains__" = T0 180 := rfl
    have eT181 : Str.ofString "range" = T0 181 := rfl
    have eT182 : Str.ofString "get" = T0 182 := rfl
    have eT183 : Str.ofString "sort" = T0 183 := rfl
    have eT184 : Str.ofString "sum" = T0 184 := rfl
    have eT185 : Str.ofString "triple" = T0 185 := rfl
    have eT186 : Str.ofString ".0" = T0 186 := rfl
    have eT187 : Str.ofString "total" = T0 187 := rfl
    have eT188 : Str.ofString "fast" = T0 188 := rfl
    have eT189 : Str.ofString "left" = T0 189 := rfl
    have eT190 : Str.ofString "right" = T0 190 := rfl
    have eT191 : Str.ofString "at" = T0 191 := rfl
    have eT192 : Str.ofString "found" = T0 192 := rfl
    have eT193 : Str.ofString "names" = T0 193 := rfl
    have eT194 : Str.ofString "name" = T0 194 := rfl
    have eT195 : Str.ofString "int" = T0 195 := rfl
    have eT196 : Str.ofString "blocks" = T0 196 := rfl
    have eT197 : Str.ofString "block" = T0 197 := rfl
    have eT198 : Str.ofString "sign" = T0 198 := rfl
    have eD0 : Str.ofString _ = T0 199 := rfl
    have eD1 : Str.ofString _ = T0 200 := rfl
    have eC0 : Str.ofString _ = D0 0 := rfl
    have eC1 : Str.ofString _ = D0 1 := rfl
    have eC2 : Str.ofString _ = D0 2 := rfl
    have eC3 : Str.ofString _ = D0 3 := rfl
    have eC4 : Str.ofString _ = D0 4 := rfl
    have eC5 : Str.ofString _ = D0 5 := rfl
    have eC6 : Str.ofString _ = D0 6 := rfl
    have eC7 : Str.ofString _ = D0 7 := rfl
    have eC8 : Str.ofString _ = D0 8 := rfl
    have eC9 : Str.ofString _ = D0 9 := rfl
    have eC10 : Str.ofString _ = D0 10 := rfl
    have eC11 : Str.ofString _ = D0 11 := rfl
    have eC12 : Str.ofString _ = D0 12 := rfl
    have eM0 : Str.ofString _ = T0 208 := rfl
    have eM1 : Str.ofString _ = T0 209 := rfl
    have eM2 : Str.ofString _ = T0 210 := rfl
    have eM3 : Str.ofString _ = T0 211 := rfl
    have eM4 : Str.ofString _ = T0 212 := rfl
    simp only [eT0, eT1, eT2, eT3, eT4, eT5, eT6, eT7, eT8, eT9, eT10, eT11, eT12, eT13, eT14, eT15, eT16, eT17, eT18, eT19, eT20, eT21, eT22, eT23, eT24, eT25, eT26, eT27, eT28, eT29, eT30, eT31, eT32, eT33, eT34, eT35, eT36, eT37, eT38, eT39, eT40, eT41, eT42, eT43, eT44, eT45, eT46, eT47, eT48, eT49, eT50, eT51, eT52, eT53, eT54, eT55, eT56, eT57, eT58, eT59, eT60, eT61, eT62, eT63, eT64, eT65, eT66, eT67, eT68, eT69, eT70, eT71, eT72, eT73, eT74, eT75, eT76, eT77, eT78, eT79, eT80, eT81, eT82, eT83, eT84, eT85, eT86, eT87, eT88, eT89, eT90, eT91, eT92, eT93, eT94, eT95, eT96, eT97, eT98, eT99, eT100, eT101, eT102, eT103, eT104, eT105, eT106, eT107, eT108, eT109, eT110, eT111, eT112, eT113, eT114, eT115, eT116, eT117, eT118, eT119, eT120, eT121, eT122, eT123, eT124, eT125, eT126, eT127, eT128, eT129, eT130, eT131, eT132, eT133, eT134, eT135, eT136, eT137, eT138, eT139, eT140, eT141, eT142, eT143, eT144, eT145, eT146, eT147, eT148, eT149, eT150, eT151, eT152, eT153, eT154, eT155, eT156, eT157, eT158, eT159, eT160, eT161, eT162, eT163, eT164, eT165, eT166, eT167, eT168, eT169, eT170, eT171, eT172, eT173, eT174, eT175, eT176, eT177, eT178, eT179, eT180, eT181, eT182, eT183, eT184, eT185, eT186, eT187, eT188, eT189, eT190, eT191, eT192, eT193, eT194, eT195, eT196, eT197, eT198, eD0, eD1, eC0, eC1, eC2, eC3, eC4, eC5, eC6, eC7, eC8, eC9, eC10, eC11, eC12, eM0, eM1, eM2, eM3, eM4]
    rw [h, h2])
  exact fun {F} _ => F
theorem pw_eq : PySem.Challenge.pw_pg0326_01 = myP T0 D0 := by kernel_rfl
noncomputable def tS (T D : Nat → Str) (i : Nat) : Stmt := nth (myP T D).main.body i
noncomputable def tree0 (P : Params) : BT := (.node (boot_o_0 P) (.node (boot_o_1 P) (.node (boot_o_3 P) (.node (boot_o_7 P) .nil .nil) .nil) (.node (boot_o_5 P) (.node (boot_o_9 P) .nil .nil) .nil)) (.node (boot_o_2 P) (.node (boot_o_4 P) (.node (boot_o_8 P) .nil .nil) .nil) (.node (boot_o_6 P) (.node (boot_o_10 P) .nil .nil) .nil)))
noncomputable def tr0 (T : Nat → Str) (U : Nat → String) (D : Nat → Str) (P : Params) : BT := (.node (.mk (.type (U 2)) none (.seq #[(.str (T 37) 211), (.str (T 38) 212), (.str (T 39) 213)] 0) #[]) (.node (.mk (.type (U 15)) none (.fields #[(.ref 60), (.ref 60), (.ref 60)]) #[]) (.node (.mk (.ref 60) (some 126) .plain #[]) (.node (.mk .none none (.fields #[]) #[]) .nil .nil) .nil) (.node (.mk .none none (.fields #[]) #[]) .nil .nil)) (.node (.mk .none none (.fields #[]) #[]) (.node (.mk (.type (U 3)) none (.fields #[(.str (T 32) 406), (.str (T 95) 407), (.str (T 9) 408), (.int 145 0), (.int 5 0), (.int 0 0), (.int 0 0), (.int 3 0), (.ref 154), (.bool true), (.int 181 0), (.ref 155), .none, (.ref 156), (.ref 157), (.ref 158), (.int 414 0), (.int 145 0), (.str (T 9) 415)]) #[]) (.node (.mk (.type (U 5)) none (.func (.mk (T 22) (T 22) (dArgs (tS T D 14)) (.stmts (dBody (tS T D 14))) (dScope (tS T D 14)) 3 [] .none .none .none (.str (T 1) 588) none (.ref 286) .none 0)) #[]) .nil .nil) .nil) (.node (.mk .none none (.func (.mk (T 89) (T 139) (dArgs (inS (tS T D 5) 10)) (.stmts (dBody (inS (tS T D 5) 10))) (dScope (inS (tS T D 5) 10)) 0 [] .none .none .none .none none .none .none 0)) #[]) .nil .nil)))
noncomputable def tr1 (T : Nat → Str) (U : Nat → String) (D : Nat → Str) (P : Params) : BT := (.node (.mk (.type (U 2)) none (.seq #[] 0) #[]) (.node (.mk (.type (U 2)) none (.seq #[] 0) #[]) (.node (.mk .none none (.func (.mk (T 14) (T 14) (dArgs (tS T D 4)) (.stmts (dBody (tS T D 4))) (dScope (tS T D 4)) 0 [] .none .none .none .none none .none .none 0)) #[]) (.node (.mk (.type (U 2)) none (.seq #[] 0) #[]) .nil .nil) .nil) (.node (.mk (.type (U 2)) none (.seq #[] 0) #[]) .nil .nil)) (.node (.mk (.type (U 2)) none (.seq #[] 0) #[]) (.node (.mk (.type (U 2)) none (.seq #[] 0) #[]) .nil .nil) (.node (.mk (.type (U 5)) none (.func (.mk (T 91) (T 141) (dArgs (inS (tS T D 5) 12)) (.stmts (dBody (inS (tS T D 5) 12))) (dScope (inS (tS T D 5) 12)) 3 [] .none .none .none (.str (T 29) 194) none (.ref 238) .none 0)) #[]) .nil .nil)))
noncomputable def tr2 (T : Nat → Str) (U : Nat → String) (D : Nat → Str) (P : Params) : BT := (.node (.mk (.type (U 2)) none (.seq #[(.str (T 37) 220), (.str (T 41) 221), (.str (T 42) 222)] 0) #[]) (.node (.mk (.type (U 3)) none (.fields #[(.str (T 13) 255), (.str (T 13) 256), (.str (T 9) 257), (.int 23 0), (.int 0 0), (.int 0 0), (.int 0 0), (.int 0 0), (.ref 69), (.bool false), (.int 181 0), (.ref 70), .none, .none, .none, .none, (.int 258 0), (.int 23 0), (.str (T 9) 259)]) #[]) (.node (.mk (.type (U 8)) none (.cls (.mk (T 13) [(.type (U 2))] [(.ref 135), (.type (U 2)), (.type (U 9))] 134 (T 13) false [] [] false none false)) #[(some (.ref 65)), none, (some (.str (T 13) 253)), (some (.str (T 13) 261)), (some .none), (some (.bool false))]) (.node (.mk (.type (U 5)) none (.func (.mk (T 18) (T 18) (dArgs (tS T D 10)) (.stmts (dBody (tS T D 10))) (dScope (tS T D 10)) 3 [] .none .none .none (.str (T 1) 588) none (.ref 262) .none 0)) #[]) .nil .nil) .nil) (.node (.mk (.type (U 2)) none (.seq #[(.str (T 37) 495), (.str (T 124) 496), (.str (T 125) 497), (.str (T 126) 498), (.str (T 127) 499), (.str (T 110) 500), (.str (T 111) 501), (.str (T 112) 502), (.str (T 113) 503), (.str (T 100) 504), (.str (T 122) 505), (.str (T 27) 506), (.str (T 128) 507), (.str (T 129) 508), (.str (T 130) 509), (.str (T 131) 510), (.str (T 132) 511), (.str (T 133) 512), (.str (T 134) 513), (.str (T 135) 514)] 0) #[]) .nil .nil)) (.node (.mk (.type (U 2)) none (.seq #[(.str (T 37) 322)] 0) #[]) (.node (.mk (.type (U 5)) none (.func (.mk (T 81) (T 96) (dArgs (inS (tS T D 5) 2)) (.stmts (dBody (inS (tS T D 5) 2))) (dScope (inS (tS T D 5) 2)) 3 [] .none .none (.str (dDoc (inS (tS T D 5) 2)) 426) (.str (T 29) 194) none (.ref 166) .none 0)) #[]) (.node (.mk (.type (U 2)) none (.seq #[] 0) #[]) .nil .nil) .nil) (.node (.mk (.type (U 3)) none (.fields #[(.str (T 90) 544), (.str (T 140) 545), (.str (T 9) 546), (.int 413 0), (.int 1 0), (.int 0 0), (.int 0 0), (.int 3 0), (.ref 226), (.bool true), (.int 181 0), (.ref 227), .none, (.ref 228), (.ref 229), (.ref 230), (.int 548 0), (.int 413 0), (.str (T 9) 549)]) #[]) .nil .nil)))
noncomputable def tr3 (T : Nat → Str) (U : Nat → String) (D : Nat → Str) (P : Params) : BT := (.node (.mk .none none (.func (.mk (T 35) (T 46) (dArgs (inS (tS T D 2) 3)) (.stmts (dBody (inS (tS T D 2) 3))) (dScope (inS (tS T D 2) 3)) 0 [] .none .none .none .none none .none .none 0)) #[]) (.node (.mk .none none (.func (.mk (T 53) (T 69) (dArgs (inS (tS T D 3) 5)) (.stmts (dBody (inS (tS T D 3) 5))) (dScope (inS (tS T D 3) 5)) 0 [] .none .none .none .none none .none .none 0)) #[]) (.node (.mk (.type (U 3)) none (.fields #[(.str (T 15) 391), (.str (T 15) 392), (.str (T 9) 393), (.int 70 0), (.int 0 0), (.int 0 0), (.int 0 0), (.int 0 0), (.ref 149), (.bool false), (.int 181 0), (.ref 150), .none, .none, .none, .none, (.int 394 0), (.int 70 0), (.str (T 9) 395)]) #[]) (.node (.mk .none none (.fields #[]) #[]) .nil .nil) .nil) (.node (.mk (.type (U 2)) none (.seq #[] 0) #[]) .nil .nil)) (.node (.mk .none none (.func (.mk (T 58) (T 75) (dArgs (inS (tS T D 3) 10)) (.stmts (dBody (inS (tS T D 3) 10))) (dScope (inS (tS T D 3) 10)) 0 [] .none .none .none .none none .none .none 0)) #[]) (.node (.mk .none none (.fields #[]) #[]) .nil .nil) (.node (.mk (.type (U 2)) none (.seq #[] 0) #[]) .nil .nil)))
noncomputable def tr4 (T : Nat → Str) (U : Nat → String) (D : Nat → Str) (P : Params) : BT := (.node (boot_o_7 P) (.node (.mk (.type (U 2)) none (.seq #[] 0) #[]) (tr0 T U D P) (tr1 T U D P)) (.node (.mk (.type (U 6)) none (.fields #[(.builtin (U 7)), (.type (U 8))]) #[]) (tr2 T U D P) (tr3 T U D P)))
noncomputable def tr5 (T : Nat → Str) (U : Nat → String) (D : Nat → Str) (P : Params) : BT := (.node (.mk (.type (U 5)) none (.func (.mk (T 32) (T 40) (dArgs (inS (tS T D 2) 0)) (.stmts (dBody (inS (tS T D 2) 0))) (dScope (inS (tS T D 2) 0)) 3 [] .none .none .none (.str (T 29) 194) none (.ref 34) .none 0)) #[]) (.node (.mk (.type (U 0)) none (.dict #[(.mk (PySem.PyData.keyHash P (T 28)) (.str (T 28) 260) (.str (T 29) 194)), (.mk (PySem.PyData.keyHash P (T 30)) (.str (T 30) 262) (.str (T 13) 261)), (.mk (PySem.PyData.keyHash P (T 31)) (.str (T 31) 264) (.int 23 263)), (.mk (PySem.PyData.keyHash P (T 2)) (.str (T 2) 266) (.str (cDoc (tS T D 3)) 265)), (.mk (PySem.PyData.keyHash P (T 49)) (.str (T 49) 268) (.ref 73)), (.mk (PySem.PyData.keyHash P (T 50)) (.str (T 50) 272) (.ref 74)), (.mk (PySem.PyData.keyHash P (T 51)) (.str (T 51) 273) (.ref 75)), (.mk (PySem.PyData.keyHash P (T 52)) (.str (T 52) 284) (.ref 82)), (.mk (PySem.PyData.keyHash P (T 53)) (.str (T 53) 306) (.ref 91)), (.mk (PySem.PyData.keyHash P (T 54)) (.str (T 54) 317) (.ref 100)), (.mk (PySem.PyData.keyHash P (T 55)) (.str (T 55) 318) (.ref 100)), (.mk (PySem.PyData.keyHash P (T 56)) (.str (T 56) 326) (.ref 107)), (.mk (PySem.PyData.keyHash P (T 57)) (.str (T 57) 333) (.ref 114)), (.mk (PySem.PyData.keyHash P (T 58)) (.str (T 58) 341) (.ref 121)), (.mk (PySem.PyData.keyHash P (T 59)) (.str (T 59) 345) (.ref 122)), (.mk (PySem.PyData.keyHash P (T 60)) (.str (T 60) 355) (.ref 124)), (.mk (PySem.PyData.keyHash P (T 61)) (.str (T 61) 365) (.ref 127)), (.mk (PySem.PyData.keyHash P (T 62)) (.str (T 62) 375) (.ref 130)), (.mk (PySem.PyData.keyHash P (T 36)) (.str (T 36) 376) (.ref 132)), (.mk (PySem.PyData.keyHash P (T 63)) (.str (T 63) 377) (.ref 68))] 20) #[]) (.node (.mk (.type (U 4)) none (.dict #[(.mk (PySem.PyData.keyHash P (T 37)) (.str (T 37) 368) (.ref 130)), (.mk (PySem.PyData.keyHash P (T 38)) (.str (T 38) 369) (.int 2 366)), (.mk (PySem.PyData.keyHash P (T 39)) (.str (T 39) 370) (.str (T 78) 367))] 3) #[]) (.node (.mk (.type (U 2)) none (.seq #[] 0) #[]) .nil .nil) .nil) (.node (.mk (.type (U 3)) none (.fields #[(.str (T 85) 466), (.str (T 123) 467), (.str (T 9) 468), (.int 260 0), (.int 5 0), (.int 0 0), (.int 0 0), (.int 3 0), (.ref 190), (.bool true), (.int 181 0), (.ref 191), .none, (.ref 192), (.ref 193), (.ref 194), (.int 488 0), (.int 260 0), (.str (T 9) 489)]) #[]) .nil .nil)) (.node (.mk (.type (U 3)) none (.fields #[(.str (T 54) 307), (.str (T 72) 308), (.str (T 9) 309), (.int 41 0), (.int 1 0), (.int 1 0), (.int 0 0), (.int 11 0), (.ref 94), (.bool true), (.int 181 0), (.ref 95), .none, (.ref 96), (.ref 97), (.ref 98), (.int 314 0), (.int 41 0), (.str (T 9) 315)]) #[]) (.node (.mk (.type (U 2)) none (.seq #[(.str (T 37) 421), (.str (T 60) 422), (.str (T 61) 423)] 0) #[]) (.node (.mk (.type (U 2)) none (.seq #[] 0) #[]) .nil .nil) .nil) (.node (.mk .none none (.fields #[]) #[]) .nil .nil)))
noncomputable def tr6 (T : Nat → Str) (U : Nat → String) (D : Nat → Str) (P : Params) : BT := (.node (.mk (.type (U 2)) none (.seq #[] 0) #[]) (.node (.mk (.type (U 2)) none (.seq #[] 0) #[]) (.node (.mk (.type (U 6)) none (.fields #[(.builtin (U 7)), (.type (U 8))]) #[]) (.node (.mk .none none (.func (.mk (T 20) (T 20) (dArgs (tS T D 12)) (.stmts (dBody (tS T D 12))) (dScope (tS T D 12)) 0 [] .none .none .none .none none .none .none 0)) #[]) .nil .nil) .nil) (.node (.mk (.type (U 2)) none (.seq #[(.int 3 526)] 0) #[]) .nil .nil)) (.node (.mk (.type (U 2)) none (.seq #[] 0) #[]) (.node (.mk .none none (.func (.mk (T 83) (T 98) (dArgs (inS (tS T D 5) 4)) (.stmts (dBody (inS (tS T D 5) 4))) (dScope (inS (tS T D 5) 4)) 0 [] .none .none .none .none none .none .none 0)) #[]) .nil .nil) (.node (.mk (.type (U 11)) none (.fields #[(.str (T 47) 569), (.ref 242), (.builtin (U 12)), (.builtin (U 13))]) #[]) .nil .nil)))
noncomputable def tr7 (T : Nat → Str) (U : Nat → String) (D : Nat → Str) (P : Params) : BT := (.node (.mk (.type (U 5)) none (.func (.mk (T 33) (T 43) (dArgs (inS (tS T D 2) 1)) (.stmts (dBody (inS (tS T D 2) 1))) (dScope (inS (tS T D 2) 1)) 3 [] (.ref 36) .none .none (.str (T 29) 194) none (.ref 42) .none 0)) #[]) (.node (.mk (.type (U 0)) none (.dict #[] 0) #[]) (.node (.mk (.type (U 2)) none (.seq #[] 0) #[]) (.node (.mk (.type (U 2)) none (.seq #[] 0) #[]) .nil .nil) .nil) (.node (.mk (.type (U 5)) none (.func (.mk (T 86) (T 136) (dArgs (inS (tS T D 5) 7)) (.stmts (dBody (inS (tS T D 5) 7))) (dScope (inS (tS T D 5) 7)) 3 [] .none .none (.str (dDoc (inS (tS T D 5) 7)) 517) (.str (T 29) 194) none (.ref 202) .none 0)) #[]) .nil .nil)) (.node (.mk (.type (U 5)) none (.func (.mk (T 56) (T 73) (dArgs (inS (tS T D 3) 8)) (.stmts (dBody (inS (tS T D 3) 8))) (dScope (inS (tS T D 3) 8)) 3 [] .none .none (.str (dDoc (inS (tS T D 3) 8)) 325) (.str (T 29) 194) none (.ref 106) .none 0)) #[]) (.node (.mk (.type (U 2)) none (.seq #[] 0) #[]) (.node (.mk .none none (.func (.mk (T 24) (T 24) (dArgs (tS T D 16)) (.stmts (dBody (tS T D 16))) (dScope (tS T D 16)) 0 [] .none .none .none .none none .none .none 0)) #[]) .nil .nil) .nil) (.node (.mk (.type (U 2)) none (.seq #[(.str (T 37) 554)] 0) #[]) .nil .nil)))
noncomputable def tr8 (T : Nat → Str) (U : Nat → String) (D : Nat → Str) (P : Params) : BT := (.node (.mk (.type (U 0)) none (.dict #[(.mk (PySem.PyData.keyHash P (T 28)) (.str (T 28) 203) (.str (T 29) 194)), (.mk (PySem.PyData.keyHash P (T 31)) (.str (T 31) 207) (.int 5 206)), (.mk (PySem.PyData.keyHash P (T 32)) (.str (T 32) 216) (.ref 35)), (.mk (PySem.PyData.keyHash P (T 33)) (.str (T 33) 225) (.ref 43)), (.mk (PySem.PyData.keyHash P (T 34)) (.str (T 34) 234) (.ref 50)), (.mk (PySem.PyData.keyHash P (T 35)) (.str (T 35) 242) (.ref 57)), (.mk (PySem.PyData.keyHash P (T 36)) (.str (T 36) 245) (.ref 58)), (.mk (PySem.PyData.keyHash P (T 47)) (.str (T 47) 247) (.ref 61)), (.mk (PySem.PyData.keyHash P (T 48)) (.str (T 48) 249) (.ref 62)), (.mk (PySem.PyData.keyHash P (T 2)) (.str (T 2) 250) .none)] 4) #[]) (.node (.mk (.type (U 18)) (some 90) (.fields #[(.ref 89), (.bool false)]) #[]) (.node (.mk .none none (.fields #[]) #[]) (.node (.mk (.type (U 2)) none (.seq #[] 0) #[]) .nil .nil) .nil) (.node (.mk (.type (U 2)) none (.seq #[] 0) #[]) .nil .nil)) (.node (.mk (.type (U 0)) none (.dict #[(.mk (PySem.PyData.keyHash P (T 38)) (.str (T 38) 352) (.int 0 346)), (.mk (PySem.PyData.keyHash P (T 2)) (.str (T 2) 354) (.str (T 76) 347))] 2) #[]) (.node (.mk (.type (U 3)) none (.fields #[(.str (T 108) 446), (.str (T 109) 447), (.str (T 9) 448), (.int 236 0), (.int 1 0), (.int 0 0), (.int 0 0), (.int 3 0), (.ref 182), (.bool true), (.int 181 0), (.ref 183), .none, (.ref 184), (.ref 185), (.ref 186), (.int 461 0), (.int 236 0), (.str (T 9) 462)]) #[]) .nil .nil) (.node (.mk .none none (.func (.mk (T 16) (T 16) (dArgs (tS T D 7)) (.stmts (dBody (tS T D 7))) (dScope (tS T D 7)) 0 [] .none .none .none .none none .none .none 0)) #[]) .nil .nil)))
noncomputable def tr9 (T : Nat → Str) (U : Nat → String) (D : Nat → Str) (P : Params) : BT := (.node (.mk (.type (U 2)) none (.seq #[] 0) #[]) (.node (.mk .none none (.func (.mk (T 11) (T 11) (dArgs (tS T D 0)) (.stmts (dBody (tS T D 0))) (dScope (tS T D 0)) 0 [] .none .none .none .none none .none .none 0)) #[]) (tr5 T U D P) (tr6 T U D P)) (.node (.mk (.type (U 3)) none (.fields #[(.str (T 12) 198), (.str (T 12) 199), (.str (T 9) 200), (.int 5 0), (.int 0 0), (.int 0 0), (.int 0 0), (.int 0 0), (.ref 25), (.bool false), (.int 181 0), (.ref 26), .none, .none, .none, .none, (.int 201 0), (.int 5 0), (.str (T 9) 202)]) #[]) (tr7 T U D P) (tr8 T U D P)))
noncomputable def tr10 (T : Nat → Str) (U : Nat → String) (D : Nat → Str) (P : Params) : BT := (.node (.mk .none none (.func (.mk (T 32) (T 40) (dArgs (inS (tS T D 2) 0)) (.stmts (dBody (inS (tS T D 2) 0))) (dScope (inS (tS T D 2) 0)) 0 [] .none .none .none .none none .none .none 0)) #[]) (.node (.mk (.type (U 2)) none (.seq #[(.type (U 2))] 0) #[]) (.node (.mk (.type (U 0)) none (.dict #[(.mk (PySem.PyData.keyHash P (T 38)) (.str (T 38) 372) (.int 2 366)), (.mk (PySem.PyData.keyHash P (T 2)) (.str (T 2) 374) (.str (T 78) 367))] 2) #[]) (.node (.mk (.type (U 3)) none (.fields #[(.str (T 17) 590), (.str (T 17) 591), (.str (T 9) 592), (.int 440 0), (.int 1 0), (.int 0 0), (.int 0 0), (.int 3 0), (.ref 254), (.bool true), (.int 181 0), (.ref 255), .none, .none, .none, (.ref 256), (.int 593 0), (.int 440 0), (.str (T 9) 594)]) #[]) .nil .nil) .nil) (.node (.mk (.type (U 2)) none (.seq #[] 0) #[]) .nil .nil)) (.node (.mk (.type (U 2)) none (.seq #[] 0) #[]) (.node (.mk (.type (U 2)) none (.seq #[] 0) #[]) (.node (.mk .none none (.fields #[]) #[]) .nil .nil) .nil) (.node (.mk (.type (U 5)) none (.func (.mk (T 89) (T 139) (dArgs (inS (tS T D 5) 10)) (.stmts (dBody (inS (tS T D 5) 10))) (dScope (inS (tS T D 5) 10)) 3 [] .none .none (.str (dDoc (inS (tS T D 5) 10)) 542) (.str (T 29) 194) none (.ref 224) .none 0)) #[]) .nil .nil)))
noncomputable def tr11 (T : Nat → Str) (U : Nat → String) (D : Nat → Str) (P : Params) : BT := (.node (.mk (.type (U 3)) none (.fields #[(.str (T 34) 226), (.str (T 45) 227), (.str (T 9) 228), (.int 18 0), (.int 3 0), (.int 0 0), (.int 0 0), (.int 3 0), (.ref 44), (.bool true), (.int 181 0), (.ref 45), .none, (.ref 46), (.ref 47), (.ref 48), (.int 232 0), (.int 18 0), (.str (T 9) 233)]) #[]) (.node (.mk (.type (U 3)) none (.fields #[(.str (T 52) 274), (.str (T 65) 275), (.str (T 9) 276), (.int 29 0), (.int 4 0), (.int 0 0), (.int 0 0), (.int 3 0), (.ref 76), (.bool true), (.int 181 0), (.ref 77), .none, (.ref 78), (.ref 79), (.ref 80), (.int 281 0), (.int 29 0), (.str (T 9) 282)]) #[]) (.node (.mk (.type (U 5)) none (.func (.mk (T 14) (T 14) (dArgs (tS T D 4)) (.stmts (dBody (tS T D 4))) (dScope (tS T D 4)) 3 [] .none .none .none (.str (T 29) 194) none (.ref 144) .none 0)) #[]) (.node (.mk (.type (U 2)) none (.seq #[(.str (T 150) 621), (.str (T 151) 622), (.str (T 103) 623), (.str (T 156) 624), (.str (T 27) 625), (.str (T 122) 626), (.str (T 62) 627)] 0) #[]) .nil .nil) .nil) (.node (.mk (.type (U 3)) none (.fields #[(.str (T 87) 519), (.str (T 137) 520), (.str (T 9) 521), (.int 383 0), (.int 1 0), (.int 0 0), (.int 0 0), (.int 3 0), (.ref 204), (.bool true), (.int 181 0), (.ref 205), .none, (.ref 206), (.ref 207), (.ref 208), (.int 523 0), (.int 383 0), (.str (T 9) 524)]) #[]) .nil .nil)) (.node (.mk (.type (U 3)) none (.fields #[(.str (T 57) 327), (.str (T 74) 328), (.str (T 9) 329), (.int 56 0), (.int 1 0), (.int 0 0), (.int 0 0), (.int 3 0), (.ref 108), (.bool true), (.int 181 0), (.ref 109), .none, (.ref 110), (.ref 111), (.ref 112), (.int 331 0), (.int 56 0), (.str (T 9) 332)]) #[]) (.node (.mk (.type (U 2)) none (.seq #[(.str (T 37) 440), (.str (T 61) 441)] 0) #[]) .nil .nil) (.node (.mk (.type (U 0)) none (.dict #[(.mk (PySem.PyData.keyHash P (T 28)) (.str (T 28) 396) (.str (T 29) 194)), (.mk (PySem.PyData.keyHash P (T 31)) (.str (T 31) 400) (.int 70 399)), (.mk (PySem.PyData.keyHash P (T 2)) (.str (T 2) 402) (.str (cDoc (tS T D 5)) 401)), (.mk (PySem.PyData.keyHash P (T 32)) (.str (T 32) 417) (.ref 160)), (.mk (PySem.PyData.keyHash P (T 81)) (.str (T 81) 427) (.ref 167)), (.mk (PySem.PyData.keyHash P (T 82)) (.str (T 82) 436) (.ref 174)), (.mk (PySem.PyData.keyHash P (T 83)) (.str (T 83) 445) (.ref 181)), (.mk (PySem.PyData.keyHash P (T 84)) (.str (T 84) 463) (.ref 188)), (.mk (PySem.PyData.keyHash P (T 85)) (.str (T 85) 491) (.ref 196)), (.mk (PySem.PyData.keyHash P (T 86)) (.str (T 86) 518) (.ref 203)), (.mk (PySem.PyData.keyHash P (T 87)) (.str (T 87) 525) (.ref 210)), (.mk (PySem.PyData.keyHash P (T 88)) (.str (T 88) 534) (.ref 218)), (.mk (PySem.PyData.keyHash P (T 89)) (.str (T 89) 543) (.ref 225)), (.mk (PySem.PyData.keyHash P (T 90)) (.str (T 90) 550) (.ref 232)), (.mk (PySem.PyData.keyHash P (T 91)) (.str (T 91) 557) (.ref 239)), (.mk (PySem.PyData.keyHash P (T 36)) (.str (T 36) 568) (.ref 240)), (.mk (PySem.PyData.keyHash P (T 47)) (.str (T 47) 570) (.ref 243)), (.mk (PySem.PyData.keyHash P (T 48)) (.str (T 48) 572) (.ref 244))] 3) #[]) .nil .nil)))
noncomputable def tr12 (T : Nat → Str) (U : Nat → String) (D : Nat → Str) (P : Params) : BT := (.node (.mk .none none (.func (.mk (T 33) (T 43) (dArgs (inS (tS T D 2) 1)) (.stmts (dBody (inS (tS T D 2) 1))) (dScope (inS (tS T D 2) 1)) 0 [] .none .none .none .none none .none .none 0)) #[]) (.node (.mk (.type (U 2)) none (.seq #[] 0) #[]) (.node (.mk (.type (U 15)) none (.fields #[(.ref 135), (.ref 135), (.ref 135)]) #[]) (.node (.mk .none none (.fields #[]) #[]) .nil .nil) .nil) (.node (.mk .none none (.func (.mk (T 86) (T 136) (dArgs (inS (tS T D 5) 7)) (.stmts (dBody (inS (tS T D 5) 7))) (dScope (inS (tS T D 5) 7)) 0 [] .none .none .none .none none .none .none 0)) #[]) .nil .nil)) (.node (.mk .none none (.func (.mk (T 56) (T 73) (dArgs (inS (tS T D 3) 8)) (.stmts (dBody (inS (tS T D 3) 8))) (dScope (inS (tS T D 3) 8)) 0 [] .none .none .none .none none .none .none 0)) #[]) (.node (.mk .none none (.fields #[]) #[]) (.node (.mk (.type (U 2)) none (.seq #[(.str (T 159) 661), (.str (T 150) 662), (.str (T 151) 663), (.str (T 157) 664), (.str (T 153) 665), (.str (T 160) 666)] 0) #[]) .nil .nil) .nil) (.node (.mk (.type (U 2)) none (.seq #[] 0) #[]) .nil .nil)))
noncomputable def tr13 (T : Nat → Str) (U : Nat → String) (D : Nat → Str) (P : Params) : BT := (.node (.mk (.type (U 5)) none (.func (.mk (T 35) (T 46) (dArgs (inS (tS T D 2) 3)) (.stmts (dBody (inS (tS T D 2) 3))) (dScope (inS (tS T D 2) 3)) 3 [] .none .none .none (.str (T 29) 194) none (.ref 56) .none 0)) #[]) (.node (.mk (.type (U 5)) none (.func (.mk (T 53) (T 69) (dArgs (inS (tS T D 3) 5)) (.stmts (dBody (inS (tS T D 3) 5))) (dScope (inS (tS T D 3) 5)) 3 [] .none .none (.str (dDoc (inS (tS T D 3) 5)) 293) (.str (T 29) 194) (some 92) (.ref 88) .none 0)) #[]) (.node (.mk (.type (U 2)) none (.seq #[.none, (.str (T 92) 404), (.str (T 92) 405), (.bool true)] 0) #[]) (.node (.mk (.type (U 3)) none (.fields #[(.str (T 21) 631), (.str (T 21) 632), (.str (T 9) 633), (.int 483 0), (.int 1 0), (.int 0 0), (.int 0 0), (.int 3 0), (.ref 278), (.bool true), (.int 181 0), (.ref 279), .none, .none, .none, (.ref 280), (.int 634 0), (.int 483 0), (.str (T 9) 635)]) #[]) .nil .nil) .nil) (.node (.mk (.type (U 3)) none (.fields #[(.str (T 88) 527), (.str (T 138) 528), (.str (T 9) 529), (.int 386 0), (.int 2 0), (.int 0 0), (.int 0 0), (.int 3 0), (.ref 212), (.bool true), (.int 181 0), (.ref 213), .none, (.ref 214), (.ref 215), (.ref 216), (.int 532 0), (.int 386 0), (.str (T 9) 533)]) #[]) .nil .nil)) (.node (.mk (.type (U 5)) none (.func (.mk (T 58) (T 75) (dArgs (inS (tS T D 3) 10)) (.stmts (dBody (inS (tS T D 3) 10))) (dScope (inS (tS T D 3) 10)) 3 [] .none .none (.str (dDoc (inS (tS T D 3) 10)) 340) (.str (T 29) 194) none (.ref 120) .none 0)) #[]) (.node (.mk (.type (U 2)) none (.seq #[] 0) #[]) .nil .nil) (.node (.mk (.type (U 2)) none (.seq #[(.str (T 146) 580), (.str (T 147) 581), (.str (T 100) 582), (.str (T 148) 583)] 0) #[]) .nil .nil)))
noncomputable def tr14 (T : Nat → Str) (U : Nat → String) (D : Nat → Str) (P : Params) : BT := (.node (boot_o_9 P) (.node (.mk (.type (U 2)) none (.seq #[(.str (T 27) 190)] 0) #[]) (tr10 T U D P) (tr11 T U D P)) (.node (.mk (.type (U 2)) none (.seq #[] 0) #[]) (tr12 T U D P) (tr13 T U D P)))
noncomputable def tr15 (T : Nat → Str) (U : Nat → String) (D : Nat → Str) (P : Params) : BT := (.node (.mk (.type (U 2)) none (.seq #[] 0) #[]) (.node (.mk (.type (U 2)) none (.seq #[] 0) #[]) (.node (.mk (.type (U 19)) none (.seq #[] 0) #[]) (.node (.mk .none none (.func (.mk (T 18) (T 18) (dArgs (tS T D 10)) (.stmts (dBody (tS T D 10))) (dScope (tS T D 10)) 0 [] .none .none .none .none none .none .none 0)) #[]) .nil .nil) .nil) (.node (.mk (.type (U 2)) none (.seq #[] 0) #[]) .nil .nil)) (.node (.mk (.type (U 2)) none (.seq #[] 0) #[]) (.node (.mk .none none (.func (.mk (T 81) (T 96) (dArgs (inS (tS T D 5) 2)) (.stmts (dBody (inS (tS T D 5) 2))) (dScope (inS (tS T D 5) 2)) 0 [] .none .none .none .none none .none .none 0)) #[]) (.node (.mk (.type (U 3)) none (.fields #[(.str (T 23) 643), (.str (T 23) 644), (.str (T 9) 645), (.int 491 0), (.int 4 0), (.int 0 0), (.int 0 0), (.int 3 0), (.ref 288), (.bool true), (.int 181 0), (.ref 289), .none, (.ref 290), (.ref 291), (.ref 292), (.int 655 0), (.int 491 0), (.str (T 9) 656)]) #[]) .nil .nil) .nil) (.node (.mk (.type (U 2)) none (.seq #[] 0) #[]) .nil .nil)))
noncomputable def tr16 (T : Nat → Str) (U : Nat → String) (D : Nat → Str) (P : Params) : BT := (.node (.mk (.type (U 2)) none (.seq #[(.str (T 37) 238), (.str (T 41) 239)] 0) #[]) (.node (.mk (.type (U 2)) none (.seq #[(.str (T 66) 288), (.str (T 67) 289), (.str (T 68) 290)] 0) #[]) (.node (.mk (.type (U 2)) none (.seq #[] 0) #[]) (.node (.mk (.type (U 5)) none (.func (.mk (T 20) (T 20) (dArgs (tS T D 12)) (.stmts (dBody (tS T D 12))) (dScope (tS T D 12)) 3 [] .none .none .none (.str (T 1) 588) none (.ref 276) .none 0)) #[]) .nil .nil) .nil) (.node (.mk .none none (.fields #[]) #[]) .nil .nil)) (.node (.mk (.type (U 2)) none (.seq #[(.str (T 37) 337)] 0) #[]) (.node (.mk (.type (U 5)) none (.func (.mk (T 83) (T 98) (dArgs (inS (tS T D 5) 4)) (.stmts (dBody (inS (tS T D 5) 4))) (dScope (inS (tS T D 5) 4)) 3 [] .none .none (.str (dDoc (inS (tS T D 5) 4)) 444) (.str (T 29) 194) none (.ref 180) .none 0)) #[]) .nil .nil) (.node (.mk (.type (U 15)) none (.fields #[(.ref 242), (.ref 242), (.ref 242)]) #[]) .nil .nil)))
noncomputable def tr17 (T : Nat → Str) (U : Nat → String) (D : Nat → Str) (P : Params) : BT := (.node (.mk .none none (.fields #[]) #[]) (.node (.mk .none none (.fields #[]) #[]) (.node (.mk (.type (U 2)) none (.seq #[(.str (T 79) 384), (.str (T 80) 385)] 0) #[]) (.node (.mk (.type (U 3)) none (.fields #[(.str (T 19) 602), (.str (T 19) 603), (.str (T 9) 604), (.int 468 0), (.int 5 0), (.int 0 0), (.int 0 0), (.int 3 0), (.ref 264), (.bool true), (.int 181 0), (.ref 265), .none, (.ref 266), (.ref 267), (.ref 268), (.int 615 0), (.int 468 0), (.str (T 9) 616)]) #[]) .nil .nil) .nil) (.node (.mk .none none (.fields #[]) #[]) .nil .nil)) (.node (.mk .none none (.fields #[]) #[]) (.node (.mk (.type (U 3)) none (.fields #[(.str (T 82) 428), (.str (T 97) 429), (.str (T 9) 430), (.int 184 0), (.int 2 0), (.int 0 0), (.int 0 0), (.int 3 0), (.ref 168), (.bool true), (.int 181 0), (.ref 169), .none, (.ref 170), (.ref 171), (.ref 172), (.int 433 0), (.int 184 0), (.str (T 9) 434)]) #[]) (.node (.mk (.type (U 5)) none (.func (.mk (T 24) (T 24) (dArgs (tS T D 16)) (.stmts (dBody (tS T D 16))) (dScope (tS T D 16)) 3 [] .none .none .none (.str (T 1) 588) none (.ref 300) .none 0)) #[]) .nil .nil) .nil) (.node (.mk .none none (.func (.mk (T 91) (T 141) (dArgs (inS (tS T D 5) 12)) (.stmts (dBody (inS (tS T D 5) 12))) (dScope (inS (tS T D 5) 12)) 0 [] .none .none .none .none none .none .none 0)) #[]) .nil .nil)))
noncomputable def tr18 (T : Nat → Str) (U : Nat → String) (D : Nat → Str) (P : Params) : BT := (.node (.mk (.type (U 11)) none (.fields #[(.str (T 47) 246), (.ref 60), (.builtin (U 12)), (.builtin (U 13))]) #[]) (.node (.mk (.type (U 2)) none (.seq #[(.ref 68)] 0) #[]) (.node (.mk (.type (U 2)) none (.seq #[] 0) #[]) (.node (.mk .none none (.func (.mk (T 22) (T 22) (dArgs (tS T D 14)) (.stmts (dBody (tS T D 14))) (dScope (tS T D 14)) 0 [] .none .none .none .none none .none .none 0)) #[]) .nil .nil) .nil) (.node (.mk (.type (U 2)) none (.seq #[(.str (T 37) 538), (.str (T 79) 539)] 0) #[]) .nil .nil)) (.node (.mk (.type (U 4)) none (.dict #[(.mk (PySem.PyData.keyHash P (T 37)) (.str (T 37) 348) (.ref 124)), (.mk (PySem.PyData.keyHash P (T 38)) (.str (T 38) 349) (.int 0 346)), (.mk (PySem.PyData.keyHash P (T 39)) (.str (T 39) 350) (.str (T 76) 347))] 3) #[]) (.node (.mk (.type (U 2)) none (.seq #[(.int 0 464), .none, (.int 0 465), .none] 0) #[]) .nil .nil) (.node (.mk (.type (U 5)) none (.func (.mk (T 16) (T 16) (dArgs (tS T D 7)) (.stmts (dBody (tS T D 7))) (dScope (tS T D 7)) 3 [] .none .none (.str (dDoc (tS T D 7)) 586) (.str (T 149) 575) none (.ref 252) .none 0)) #[]) .nil .nil)))
noncomputable def tr19 (T : Nat → Str) (U : Nat → String) (D : Nat → Str) (P : Params) : BT := (.node (.mk (.type (U 3)) none (.fields #[(.str (T 25) 182), (.str (T 25) 183), (.str (T 9) 184), (.int 1 0), (.int 0 0), (.int 0 0), (.int 0 0), (.int 0 0), (.ref 11), (.bool false), (.int 181 0), (.ref 12), .none, .none, .none, .none, (.int 185 0), (.int 1 0), (.str (T 9) 186)]) #[]) (.node (.mk (.type (U 5)) none (.func (.mk (T 11) (T 11) (dArgs (tS T D 0)) (.stmts (dBody (tS T D 0))) (dScope (tS T D 0)) 3 [] .none .none .none (.str (T 26) 164) none (.ref 20) .none 0)) #[]) (tr15 T U D P) (tr16 T U D P)) (.node (.mk (.type (U 2)) none (.seq #[] 0) #[]) (tr17 T U D P) (tr18 T U D P)))
noncomputable def tr20 (T : Nat → Str) (U : Nat → String) (D : Nat → Str) (P : Params) : BT := (.node (boot_o_1 P) (.node (.mk (.type (U 0)) none (.dict #[(.mk (PySem.PyData.keyHash P (T 0)) (.str (T 0) 165) (.str (T 1) 588)), (.mk (PySem.PyData.keyHash P (T 2)) (.str (T 2) 166) .none), (.mk (PySem.PyData.keyHash P (T 3)) (.str (T 3) 167) .none), (.mk (PySem.PyData.keyHash P (T 4)) (.str (T 4) 168) (.builtin (U 1))), (.mk (PySem.PyData.keyHash P (T 5)) (.str (T 5) 169) .none), (.mk (PySem.PyData.keyHash P (T 6)) (.str (T 6) 170) (.ref 6)), (.mk (PySem.PyData.keyHash P (T 7)) (.str (T 7) 171) (.ref 4)), (.mk (PySem.PyData.keyHash P (T 8)) (.str (T 8) 173) (.str (T 9) 172)), (.mk (PySem.PyData.keyHash P (T 10)) (.str (T 10) 174) .none), (.mk (PySem.PyData.keyHash P (T 11)) (.str (T 11) 193) (.ref 21)), (.mk (PySem.PyData.keyHash P (T 12)) (.str (T 12) 252) (.ref 60)), (.mk (PySem.PyData.keyHash P (T 13)) (.str (T 13) 380) (.ref 135)), (.mk (PySem.PyData.keyHash P (T 14)) (.str (T 14) 388) (.ref 145)), (.mk (PySem.PyData.keyHash P (T 15)) (.str (T 15) 574) (.ref 242)), (.mk (PySem.PyData.keyHash P (T 16)) (.str (T 16) 587) (.ref 253)), (.mk (PySem.PyData.keyHash P (T 17)) (.str (T 17) 595) (.ref 258)), (.mk (PySem.PyData.keyHash P (T 18)) (.str (T 18) 601) (.ref 263)), (.mk (PySem.PyData.keyHash P (T 19)) (.str (T 19) 617) (.ref 270)), (.mk (PySem.PyData.keyHash P (T 20)) (.str (T 20) 630) (.ref 277)), (.mk (PySem.PyData.keyHash P (T 21)) (.str (T 21) 636) (.ref 282)), (.mk (PySem.PyData.keyHash P (T 22)) (.str (T 22) 642) (.ref 287)), (.mk (PySem.PyData.keyHash P (T 23)) (.str (T 23) 657) (.ref 294)), (.mk (PySem.PyData.keyHash P (T 24)) (.str (T 24) 669) (.ref 301))] 23) #[]) (tr4 T U D P) (tr9 T U D P)) (.node (boot_o_5 P) (tr14 T U D P) (tr19 T U D P)))
noncomputable def tr21 (T : Nat → Str) (U : Nat → String) (D : Nat → Str) (P : Params) : BT := (.node (.mk (.type (U 2)) none (.seq #[] 0) #[]) (.node (.mk (.type (U 6)) none (.fields #[(.builtin (U 16)), (.ref 60)]) #[]) (.node (.mk (.type (U 4)) none (.dict #[(.mk (PySem.PyData.keyHash P (T 37)) (.str (T 37) 358) (.ref 127)), (.mk (PySem.PyData.keyHash P (T 38)) (.str (T 38) 359) (.int 1 356)), (.mk (PySem.PyData.keyHash P (T 39)) (.str (T 39) 360) (.str (T 77) 357))] 3) #[]) (.node (.mk .none none (.func (.mk (T 17) (T 17) (dArgs (tS T D 9)) (.stmts (dBody (tS T D 9))) (dScope (tS T D 9)) 0 [] .none .none .none .none none .none .none 0)) #[]) .nil .nil) .nil) (.node (.mk (.type (U 2)) none (.seq #[(.str (T 37) 469), (.str (T 110) 470), (.str (T 111) 471), (.str (T 112) 472), (.str (T 113) 473), (.str (T 60) 474), (.str (T 61) 475), (.str (T 99) 476), (.str (T 114) 477), (.str (T 115) 478), (.str (T 116) 479), (.str (T 117) 480), (.str (T 118) 481), (.str (T 119) 482), (.str (T 100) 483), (.str (T 120) 484), (.str (T 121) 485), (.str (T 122) 486), (.str (T 27) 487)] 0) #[]) .nil .nil)) (.node (.mk (.type (U 2)) none (.seq #[(.str (T 37) 311), (.str (T 71) 312), (.str (T 68) 313)] 0) #[]) (.node (.mk (.type (U 5)) none (.func (.mk (T 32) (T 95) (dArgs (inS (tS T D 5) 1)) (.stmts (dBody (inS (tS T D 5) 1))) (dScope (inS (tS T D 5) 1)) 3 [] (.ref 153) .none (.str (dDoc (inS (tS T D 5) 1)) 416) (.str (T 29) 194) none (.ref 159) .none 0)) #[]) (.node (.mk (.type (U 2)) none (.seq #[] 0) #[]) .nil .nil) .nil) (.node (.mk (.type (U 3)) none (.fields #[(.str (T 89) 535), (.str (T 139) 536), (.str (T 9) 537), (.int 389 0), (.int 1 0), (.int 0 0), (.int 0 0), (.int 3 0), (.ref 219), (.bool true), (.int 181 0), (.ref 220), .none, (.ref 221), (.ref 222), (.ref 223), (.int 540 0), (.int 389 0), (.str (T 9) 541)]) #[]) .nil .nil)))
noncomputable def tr22 (T : Nat → Str) (U : Nat → String) (D : Nat → Str) (P : Params) : BT := (.node (.mk .none none (.func (.mk (T 34) (T 45) (dArgs (inS (tS T D 2) 2)) (.stmts (dBody (inS (tS T D 2) 2))) (dScope (inS (tS T D 2) 2)) 0 [] .none .none .none .none none .none .none 0)) #[]) (.node (.mk .none none (.func (.mk (T 52) (T 65) (dArgs (inS (tS T D 3) 4)) (.stmts (dBody (inS (tS T D 3) 4))) (dScope (inS (tS T D 3) 4)) 0 [] .none .none .none .none none .none .none 0)) #[]) (.node (.mk (.type (U 3)) none (.fields #[(.str (T 14) 381), (.str (T 14) 382), (.str (T 9) 383), (.int 66 0), (.int 2 0), (.int 0 0), (.int 0 0), (.int 3 0), (.ref 139), (.bool true), (.int 181 0), (.ref 140), .none, (.ref 141), (.ref 142), (.ref 143), (.int 386 0), (.int 66 0), (.str (T 9) 387)]) #[]) (.node (.mk .none none (.fields #[]) #[]) .nil .nil) .nil) (.node (.mk .none none (.func (.mk (T 87) (T 137) (dArgs (inS (tS T D 5) 8)) (.stmts (dBody (inS (tS T D 5) 8))) (dScope (inS (tS T D 5) 8)) 0 [] .none .none .none .none none .none .none 0)) #[]) .nil .nil)) (.node (.mk .none none (.func (.mk (T 57) (T 74) (dArgs (inS (tS T D 3) 9)) (.stmts (dBody (inS (tS T D 3) 9))) (dScope (inS (tS T D 3) 9)) 0 [] .none .none .none .none none .none .none 0)) #[]) (.node (.mk .none none (.fields #[]) #[]) .nil .nil) (.node (.mk (.type (U 2)) none (.seq #[(.str (T 60) 558), (.str (T 94) 559), (.str (T 61) 560), (.str (T 99) 561), (.str (T 142) 562), (.str (T 143) 563), (.str (T 144) 564), (.str (T 93) 565), (.str (T 127) 566), (.str (T 145) 567)] 0) #[]) .nil .nil)))
noncomputable def tr23 (T : Nat → Str) (U : Nat → String) (D : Nat → Str) (P : Params) : BT := (.node (.mk (.type (U 2)) none (.seq #[] 0) #[]) (.node (.mk (.type (U 4)) none .plain #[(some (.ref 71)), (some (.ref 3)), (some (.ref 67)), none, (some (.str (T 29) 194)), none, (some (.ref 0))]) (.node (.mk (.type (U 20)) none (.fields #[(.ref 82)]) #[]) (.node (.mk (.type (U 2)) none (.seq #[] 0) #[]) .nil .nil) .nil) (.node (.mk (.type (U 2)) none (.seq #[] 0) #[]) .nil .nil)) (.node (.mk (.type (U 2)) none (.seq #[] 0) #[]) (.node (.mk (.type (U 2)) none (.seq #[] 0) #[]) (.node (.mk .none none (.fields #[]) #[]) .nil .nil) .nil) (.node (.mk (.type (U 5)) none (.func (.mk (T 90) (T 140) (dArgs (inS (tS T D 5) 11)) (.stmts (dBody (inS (tS T D 5) 11))) (dScope (inS (tS T D 5) 11)) 3 [] .none .none .none (.str (T 29) 194) none (.ref 231) .none 0)) #[]) .nil .nil)))
noncomputable def tr24 (T : Nat → Str) (U : Nat → String) (D : Nat → Str) (P : Params) : BT := (.node (.mk (.type (U 3)) none (.fields #[(.str (T 35) 235), (.str (T 46) 236), (.str (T 9) 237), (.int 21 0), (.int 2 0), (.int 0 0), (.int 0 0), (.int 3 0), (.ref 51), (.bool true), (.int 181 0), (.ref 52), .none, (.ref 53), (.ref 54), (.ref 55), (.int 240 0), (.int 21 0), (.str (T 9) 241)]) #[]) (.node (.mk (.type (U 3)) none (.fields #[(.str (T 53) 285), (.str (T 69) 286), (.str (T 9) 287), (.int 33 0), (.int 2 0), (.int 0 0), (.int 0 0), (.int 3 0), (.ref 83), (.bool true), (.int 181 0), (.ref 84), .none, (.ref 85), (.ref 86), (.ref 87), (.int 291 0), (.int 33 0), (.str (T 9) 292)]) #[]) (.node (.mk (.type (U 4)) none .plain #[(some (.ref 151)), (some (.ref 3)), (some (.ref 148)), none, (some (.str (T 29) 194)), none, (some (.ref 0))]) (.node (.mk .none none (.func (.mk (T 21) (T 21) (dArgs (tS T D 13)) (.stmts (dBody (tS T D 13))) (dScope (tS T D 13)) 0 [] .none .none .none .none none .none .none 0)) #[]) .nil .nil) .nil) (.node (.mk .none none (.func (.mk (T 88) (T 138) (dArgs (inS (tS T D 5) 9)) (.stmts (dBody (inS (tS T D 5) 9))) (dScope (inS (tS T D 5) 9)) 0 [] .none .none .none .none none .none .none 0)) #[]) .nil .nil)) (.node (.mk (.type (U 3)) none (.fields #[(.str (T 58) 334), (.str (T 75) 335), (.str (T 9) 336), (.int 59 0), (.int 1 0), (.int 0 0), (.int 0 0), (.int 3 0), (.ref 115), (.bool true), (.int 181 0), (.ref 116), .none, (.ref 117), (.ref 118), (.ref 119), (.int 338 0), (.int 59 0), (.str (T 9) 339)]) #[]) (.node (.mk (.type (U 2)) none (.seq #[(.str (T 37) 449), (.str (T 61) 450), (.str (T 99) 451), (.str (T 100) 452), (.str (T 101) 453), (.str (T 102) 454), (.str (T 103) 455), (.str (T 93) 456), (.str (T 104) 457), (.str (T 105) 458), (.str (T 106) 459), (.str (T 107) 460)] 0) #[]) .nil .nil) (.node (.mk .none none (.fields #[]) #[]) .nil .nil)))
noncomputable def tr25 (T : Nat → Str) (U : Nat → String) (D : Nat → Str) (P : Params) : BT := (.node (boot_o_8 P) (.node (.mk .none none (.fields #[]) #[]) (tr21 T U D P) (tr22 T U D P)) (.node (.mk (.type (U 0)) none (.dict #[(.mk (PySem.PyData.keyHash P (T 28)) (.str (T 28) 203) (.str (T 29) 194)), (.mk (PySem.PyData.keyHash P (T 30)) (.str (T 30) 205) (.str (T 12) 204)), (.mk (PySem.PyData.keyHash P (T 31)) (.str (T 31) 207) (.int 5 206)), (.mk (PySem.PyData.keyHash P (T 32)) (.str (T 32) 216) (.ref 35)), (.mk (PySem.PyData.keyHash P (T 33)) (.str (T 33) 225) (.ref 43)), (.mk (PySem.PyData.keyHash P (T 34)) (.str (T 34) 234) (.ref 50)), (.mk (PySem.PyData.keyHash P (T 35)) (.str (T 35) 242) (.ref 57)), (.mk (PySem.PyData.keyHash P (T 36)) (.str (T 36) 245) (.ref 58))] 8) #[]) (tr23 T U D P) (tr24 T U D P)))
noncomputable def tr26 (T : Nat → Str) (U : Nat → String) (D : Nat → Str) (P : Params) : BT := (.node (.mk (.type (U 2)) none (.seq #[.none] 0) #[]) (.node (.mk (.type (U 17)) none (.cell (some (.ref 135))) #[]) (.node (.mk (.type (U 2)) none (.seq #[] 0) #[]) (.node (.mk .none none (.fields #[]) #[]) .nil .nil) .nil) (.node (.mk (.type (U 5)) none (.func (.mk (T 85) (T 123) (dArgs (inS (tS T D 5) 6)) (.stmts (dBody (inS (tS T D 5) 6))) (dScope (inS (tS T D 5) 6)) 3 [] (.ref 189) .none (.str (dDoc (inS (tS T D 5) 6)) 490) (.str (T 29) 194) none (.ref 195) .none 0)) #[]) .nil .nil)) (.node (.mk (.type (U 5)) none (.func (.mk (T 54) (T 72) (dArgs (inS (tS T D 3) 6)) (.stmts (dBody (inS (tS T D 3) 6))) (dScope (inS (tS T D 3) 6)) 3 [((T 70), 68)] .none .none (.str (dDoc (inS (tS T D 3) 6)) 316) (.str (T 29) 194) none (.ref 99) (.ref 93) 0)) #[]) (.node (.mk (.type (U 2)) none (.seq #[] 0) #[]) (.node (.mk .none none (.func (.mk (T 23) (T 23) (dArgs (tS T D 15)) (.stmts (dBody (tS T D 15))) (dScope (tS T D 15)) 0 [] .none .none .none .none none .none .none 0)) #[]) .nil .nil) .nil) (.node (.mk (.type (U 2)) none (.seq #[(.str (T 37) 547)] 0) #[]) .nil .nil)))
noncomputable def tr27 (T : Nat → Str) (U : Nat → String) (D : Nat → Str) (P : Params) : BT := (.node (.mk .none none (.fields #[]) #[]) (.node (.mk .none none (.fields #[]) #[]) (.node (.mk (.type (U 0)) none (.dict #[(.mk (PySem.PyData.keyHash P (T 28)) (.str (T 28) 396) (.str (T 29) 194)), (.mk (PySem.PyData.keyHash P (T 30)) (.str (T 30) 398) (.str (T 15) 397)), (.mk (PySem.PyData.keyHash P (T 31)) (.str (T 31) 400) (.int 70 399)), (.mk (PySem.PyData.keyHash P (T 2)) (.str (T 2) 402) (.str (cDoc (tS T D 5)) 401)), (.mk (PySem.PyData.keyHash P (T 32)) (.str (T 32) 417) (.ref 160)), (.mk (PySem.PyData.keyHash P (T 81)) (.str (T 81) 427) (.ref 167)), (.mk (PySem.PyData.keyHash P (T 82)) (.str (T 82) 436) (.ref 174)), (.mk (PySem.PyData.keyHash P (T 83)) (.str (T 83) 445) (.ref 181)), (.mk (PySem.PyData.keyHash P (T 84)) (.str (T 84) 463) (.ref 188)), (.mk (PySem.PyData.keyHash P (T 85)) (.str (T 85) 491) (.ref 196)), (.mk (PySem.PyData.keyHash P (T 86)) (.str (T 86) 518) (.ref 203)), (.mk (PySem.PyData.keyHash P (T 87)) (.str (T 87) 525) (.ref 210)), (.mk (PySem.PyData.keyHash P (T 88)) (.str (T 88) 534) (.ref 218)), (.mk (PySem.PyData.keyHash P (T 89)) (.str (T 89) 543) (.ref 225)), (.mk (PySem.PyData.keyHash P (T 90)) (.str (T 90) 550) (.ref 232)), (.mk (PySem.PyData.keyHash P (T 91)) (.str (T 91) 557) (.ref 239)), (.mk (PySem.PyData.keyHash P (T 36)) (.str (T 36) 568) (.ref 240))] 17) #[]) (.node (.mk (.type (U 3)) none (.fields #[(.str (T 20) 618), (.str (T 20) 619), (.str (T 9) 620), (.int 475 0), (.int 3 0), (.int 0 0), (.int 0 0), (.int 3 0), (.ref 271), (.bool true), (.int 181 0), (.ref 272), .none, (.ref 273), (.ref 274), (.ref 275), (.int 628 0), (.int 475 0), (.str (T 9) 629)]) #[]) .nil .nil) .nil) (.node (.mk (.type (U 2)) none (.seq #[] 0) #[]) .nil .nil)) (.node (.mk .none none (.fields #[]) #[]) (.node (.mk (.type (U 3)) none (.fields #[(.str (T 83) 437), (.str (T 98) 438), (.str (T 9) 439), (.int 209 0), (.int 2 0), (.int 0 0), (.int 0 0), (.int 3 0), (.ref 175), (.bool true), (.int 181 0), (.ref 176), .none, (.ref 177), (.ref 178), (.ref 179), (.int 442 0), (.int 209 0), (.str (T 9) 443)]) #[]) .nil .nil) (.node (.mk (.type (U 11)) none (.fields #[(.str (T 48) 571), (.ref 242), (.builtin (U 14)), .none]) #[]) .nil .nil)))
noncomputable def tr28 (T : Nat → Str) (U : Nat → String) (D : Nat → Str) (P : Params) : BT := (.node (.mk (.type (U 2)) none (.seq #[] 0) #[]) (.node (.mk (.type (U 2)) none (.seq #[] 0) #[]) (.node (.mk .none none (.fields #[]) #[]) (.node (.mk .none none (.func (.mk (T 19) (T 19) (dArgs (tS T D 11)) (.stmts (dBody (tS T D 11))) (dScope (tS T D 11)) 0 [] .none .none .none .none none .none .none 0)) #[]) .nil .nil) .nil) (.node (.mk (.type (U 2)) none (.seq #[] 0) #[]) .nil .nil)) (.node (.mk (.type (U 2)) none (.seq #[] 0) #[]) (.node (.mk .none none (.func (.mk (T 82) (T 97) (dArgs (inS (tS T D 5) 3)) (.stmts (dBody (inS (tS T D 5) 3))) (dScope (inS (tS T D 5) 3)) 0 [] .none .none .none .none none .none .none 0)) #[]) (.node (.mk (.type (U 3)) none (.fields #[(.str (T 24) 658), (.str (T 24) 659), (.str (T 9) 660), (.int 503 0), (.int 1 0), (.int 0 0), (.int 0 0), (.int 3 0), (.ref 295), (.bool true), (.int 181 0), (.ref 296), .none, (.ref 297), (.ref 298), (.ref 299), (.int 667 0), (.int 503 0), (.str (T 9) 668)]) #[]) .nil .nil) .nil) (.node (.mk (.type (U 2)) none (.seq #[] 0) #[]) .nil .nil)))
noncomputable def tr29 (T : Nat → Str) (U : Nat → String) (D : Nat → Str) (P : Params) : BT := (.node (.mk (.type (U 8)) none (.cls (.mk (T 12) [(.type (U 9))] [(.ref 60), (.type (U 9))] 59 (T 12) true [] [] false none false)) #[none, none, (some (.str (T 12) 196)), (some (.str (T 12) 204)), (some (.builtin (U 10))), (some (.bool true))]) (.node (.mk (.type (U 0)) none (.dict #[] 0) #[]) (.node (.mk (.type (U 2)) none (.seq #[(.str (T 37) 409), (.str (T 93) 410), (.str (T 60) 411), (.str (T 61) 412), (.str (T 94) 413)] 0) #[]) (.node (.mk .none none (.fields #[]) #[]) .nil .nil) .nil) (.node (.mk .none none (.fields #[]) #[]) .nil .nil)) (.node (.mk (.ref 60) (some 123) .plain #[]) (.node (.mk (.type (U 5)) none (.func (.mk (T 108) (T 109) (dArgs (inS (tS T D 5) 5)) (.stmts (dBody (inS (tS T D 5) 5))) (dScope (inS (tS T D 5) 5)) 3 [] .none .none .none (.str (T 29) 194) none (.ref 187) .none 0)) #[]) .nil .nil) (.node (.mk (.type (U 3)) none (.fields #[(.str (T 16) 577), (.str (T 16) 578), (.str (T 9) 579), (.int 419 0), (.int 1 0), (.int 0 0), (.int 0 0), (.int 3 0), (.ref 247), (.bool true), (.int 181 0), (.ref 248), .none, (.ref 249), (.ref 250), (.ref 251), (.int 584 0), (.int 419 0), (.str (T 9) 585)]) #[]) .nil .nil)))
noncomputable def tr30 (T : Nat → Str) (U : Nat → String) (D : Nat → Str) (P : Params) : BT := (.node (.mk .none none (.fields #[(.int 1 0), (.int 0 0), (.ref 20), (.int 5 0), (.int 0 0), (.ref 27), (.int 23 0), (.int 0 0), (.ref 71), (.int 66 0), (.int 0 0), (.ref 144), (.int 70 0), (.int 0 0), (.ref 151), (.int 419 0), (.int 0 0), (.ref 252), (.int 440 0), (.int 0 0), (.ref 257), (.int 453 0), (.int 0 0), (.ref 262), (.int 468 0), (.int 0 0), (.ref 269), (.int 475 0), (.int 0 0), (.ref 276), (.int 483 0), (.int 0 0), (.ref 281), (.int 488 0), (.int 0 0), (.ref 286), (.int 491 0), (.int 0 0), (.ref 293), (.int 503 0), (.int 0 0), (.ref 300)]) #[]) (.node (.mk (.type (U 3)) none (.fields #[(.str (T 11) 187), (.str (T 11) 188), (.str (T 9) 189), (.int 1 0), (.int 1 0), (.int 0 0), (.int 0 0), (.int 3 0), (.ref 15), (.bool true), (.int 181 0), (.ref 16), .none, (.ref 17), (.ref 18), (.ref 19), (.int 191 0), (.int 1 0), (.str (T 9) 192)]) #[]) (tr26 T U D P) (tr27 T U D P)) (.node (.mk (.type (U 4)) none .plain #[(some (.ref 27)), (some (.ref 3)), (some (.ref 24)), none, (some (.str (T 29) 194)), none, (some (.ref 0))]) (tr28 T U D P) (tr29 T U D P)))
noncomputable def tr31 (T : Nat → Str) (U : Nat → String) (D : Nat → Str) (P : Params) : BT := (.node (.mk (.type (U 3)) none (.fields #[(.str (T 32) 208), (.str (T 40) 209), (.str (T 9) 210), (.int 7 0), (.int 3 0), (.int 0 0), (.int 0 0), (.int 3 0), (.ref 29), (.bool true), (.int 181 0), (.ref 30), .none, (.ref 31), (.ref 32), (.ref 33), (.int 214 0), (.int 7 0), (.str (T 9) 215)]) #[]) (.node (.mk (.type (U 6)) none (.fields #[(.builtin (U 7)), (.type (U 8))]) #[]) (.node (.mk (.ref 60) (some 129) .plain #[]) (.node (.mk (.type (U 5)) none (.func (.mk (T 17) (T 17) (dArgs (tS T D 9)) (.stmts (dBody (tS T D 9))) (dScope (tS T D 9)) 3 [] .none .none .none (.str (T 1) 588) none (.ref 257) .none 0)) #[]) .nil .nil) .nil) (.node (.mk .none none (.func (.mk (T 85) (T 123) (dArgs (inS (tS T D 5) 6)) (.stmts (dBody (inS (tS T D 5) 6))) (dScope (inS (tS T D 5) 6)) 0 [] .none .none .none .none none .none .none 0)) #[]) .nil .nil)) (.node (.mk .none none (.func (.mk (T 54) (T 72) (dArgs (inS (tS T D 3) 6)) (.stmts (dBody (inS (tS T D 3) 6))) (dScope (inS (tS T D 3) 6)) 0 [] .none .none .none .none none .none .none 0)) #[]) (.node (.mk .none none (.fields #[]) #[]) (.node (.mk (.type (U 2)) none (.seq #[(.str (T 157) 646), (.str (T 150) 647), (.str (T 151) 648), (.str (T 103) 649), (.str (T 158) 650), (.str (T 27) 651), (.str (T 122) 652), (.str (T 62) 653), (.str (T 156) 654)] 0) #[]) .nil .nil) .nil) (.node (.mk (.type (U 2)) none (.seq #[] 0) #[]) .nil .nil)))
noncomputable def tr32 (T : Nat → Str) (U : Nat → String) (D : Nat → Str) (P : Params) : BT := (.node (.mk (.type (U 5)) none (.func (.mk (T 34) (T 45) (dArgs (inS (tS T D 2) 2)) (.stmts (dBody (inS (tS T D 2) 2))) (dScope (inS (tS T D 2) 2)) 3 [] .none .none .none (.str (T 29) 194) none (.ref 49) .none 0)) #[]) (.node (.mk (.type (U 5)) none (.func (.mk (T 52) (T 65) (dArgs (inS (tS T D 3) 4)) (.stmts (dBody (inS (tS T D 3) 4))) (dScope (inS (tS T D 3) 4)) 3 [] .none .none (.str (dDoc (inS (tS T D 3) 4)) 283) (.str (T 29) 194) none (.ref 81) .none 0)) #[]) (.node (.mk (.type (U 2)) none (.seq #[] 0) #[]) (.node (.mk (.type (U 2)) none (.seq #[] 0) #[]) .nil .nil) .nil) (.node (.mk (.type (U 5)) none (.func (.mk (T 87) (T 137) (dArgs (inS (tS T D 5) 8)) (.stmts (dBody (inS (tS T D 5) 8))) (dScope (inS (tS T D 5) 8)) 3 [] .none .none .none (.str (T 29) 194) none (.ref 209) .none 0)) #[]) .nil .nil)) (.node (.mk (.type (U 5)) none (.func (.mk (T 57) (T 74) (dArgs (inS (tS T D 3) 9)) (.stmts (dBody (inS (tS T D 3) 9))) (dScope (inS (tS T D 3) 9)) 3 [] .none .none .none (.str (T 29) 194) none (.ref 113) .none 0)) #[]) (.node (.mk (.type (U 2)) none (.seq #[] 0) #[]) .nil .nil) (.node (.mk (.type (U 8)) none (.cls (.mk (T 15) [(.type (U 9))] [(.ref 242), (.type (U 9))] 241 (T 15) true [] [] false none false)) #[none, none, (some (.str (T 15) 389)), (some (.str (T 15) 397)), (some (.builtin (U 10))), (some (.bool true))]) .nil .nil)))
noncomputable def tr33 (T : Nat → Str) (U : Nat → String) (D : Nat → Str) (P : Params) : BT := (.node (.mk (.type (U 3)) none (.fields #[(.str (T 33) 217), (.str (T 43) 218), (.str (T 9) 219), (.int 11 0), (.int 3 0), (.int 0 0), (.int 0 0), (.int 3 0), (.ref 37), (.bool true), (.int 181 0), (.ref 38), .none, (.ref 39), (.ref 40), (.ref 41), (.int 223 0), (.int 11 0), (.str (T 9) 224)]) #[]) (.node (.mk (.type (U 2)) none (.seq #[(.str (T 60) 269), (.str (T 61) 270), (.str (T 62) 271)] 0) #[]) (.node (.mk (.type (U 6)) none (.fields #[(.builtin (U 16)), (.ref 135)]) #[]) (.node (.mk (.type (U 2)) none (.seq #[(.str (T 150) 605), (.str (T 151) 606), (.str (T 152) 607), (.str (T 153) 608), (.str (T 103) 609), (.str (T 27) 610), (.str (T 122) 611), (.str (T 62) 612), (.str (T 154) 613), (.str (T 155) 614)] 0) #[]) .nil .nil) .nil) (.node (.mk (.type (U 3)) none (.fields #[(.str (T 86) 492), (.str (T 136) 493), (.str (T 9) 494), (.int 335 0), (.int 1 0), (.int 0 0), (.int 0 0), (.int 3 0), (.ref 197), (.bool true), (.int 181 0), (.ref 198), .none, (.ref 199), (.ref 200), (.ref 201), (.int 515 0), (.int 335 0), (.str (T 9) 516)]) #[]) .nil .nil)) (.node (.mk (.type (U 3)) none (.fields #[(.str (T 56) 319), (.str (T 73) 320), (.str (T 9) 321), (.int 52 0), (.int 1 0), (.int 0 0), (.int 0 0), (.int 3 0), (.ref 101), (.bool true), (.int 181 0), (.ref 102), .none, (.ref 103), (.ref 104), (.ref 105), (.int 323 0), (.int 52 0), (.str (T 9) 324)]) #[]) (.node (.mk (.type (U 2)) none (.seq #[(.str (T 37) 431), (.str (T 60) 432)] 0) #[]) (.node (.mk (.type (U 2)) none (.seq #[] 0) #[]) .nil .nil) .nil) (.node (.mk .none none (.fields #[]) #[]) .nil .nil)))
noncomputable def tr34 (T : Nat → Str) (U : Nat → String) (D : Nat → Str) (P : Params) : BT := (.node (.mk (.type (U 2)) none (.seq #[(.str (T 2) 243), (.str (T 38) 244)] 0) #[]) (.node (.mk (.type (U 0)) none (.dict #[(.mk (PySem.PyData.keyHash P (T 28)) (.str (T 28) 295) (.str (T 29) 194)), (.mk (PySem.PyData.keyHash P (T 0)) (.str (T 0) 298) (.str (T 53) 297)), (.mk (PySem.PyData.keyHash P (T 30)) (.str (T 30) 301) (.str (T 69) 300)), (.mk (PySem.PyData.keyHash P (T 2)) (.str (T 2) 303) (.str (dDoc (inS (tS T D 3) 5)) 293)), (.mk (PySem.PyData.keyHash P (T 6)) (.str (T 6) 305) (.ref 92))] 5) #[]) (.node (.mk (.type (U 2)) none (.seq #[] 0) #[]) (.node (.mk (.type (U 5)) none (.func (.mk (T 21) (T 21) (dArgs (tS T D 13)) (.stmts (dBody (tS T D 13))) (dScope (tS T D 13)) 3 [] .none .none .none (.str (T 1) 588) none (.ref 281) .none 0)) #[]) .nil .nil) .nil) (.node (.mk (.type (U 5)) none (.func (.mk (T 88) (T 138) (dArgs (inS (tS T D 5) 9)) (.stmts (dBody (inS (tS T D 5) 9))) (dScope (inS (tS T D 5) 9)) 3 [] (.ref 211) .none .none (.str (T 29) 194) none (.ref 217) .none 0)) #[]) .nil .nil)) (.node (.mk (.type (U 2)) none (.seq #[(.str (T 60) 342), (.str (T 61) 343), (.str (T 62) 344)] 0) #[]) (.node (.mk .none none (.func (.mk (T 108) (T 109) (dArgs (inS (tS T D 5) 5)) (.stmts (dBody (inS (tS T D 5) 5))) (dScope (inS (tS T D 5) 5)) 0 [] .none .none .none .none none .none .none 0)) #[]) .nil .nil) (.node (.mk (.type (U 2)) none (.seq #[] 0) #[]) .nil .nil)))
noncomputable def tr35 (T : Nat → Str) (U : Nat → String) (D : Nat → Str) (P : Params) : BT := (.node (boot_o_10 P) (.node (.mk (.type (U 2)) none (.seq #[] 0) #[]) (tr31 T U D P) (tr32 T U D P)) (.node (.mk .none none (.fields #[(.int 7 0), (.int 4 0), (.ref 34), (.int 11 0), (.int 4 0), (.ref 42), (.int 18 0), (.int 4 0), (.ref 49), (.int 21 0), (.int 4 0), (.ref 56)]) #[]) (tr33 T U D P) (tr34 T U D P)))
noncomputable def tr36 (T : Nat → Str) (U : Nat → String) (D : Nat → Str) (P : Params) : BT := (.node (.mk .none none (.fields #[]) #[]) (.node (.mk .none none (.fields #[(.int 29 0), (.int 4 0), (.ref 81), (.int 34 0), (.int 4 0), (.ref 88), (.int 41 0), (.int 4 0), (.ref 99), (.int 52 0), (.int 4 0), (.ref 106), (.int 56 0), (.int 4 0), (.ref 113), (.int 59 0), (.int 4 0), (.ref 120)]) #[]) (.node (.mk (.type (U 0)) none (.dict #[(.mk (PySem.PyData.keyHash P (T 28)) (.str (T 28) 260) (.str (T 29) 194)), (.mk (PySem.PyData.keyHash P (T 31)) (.str (T 31) 264) (.int 23 263)), (.mk (PySem.PyData.keyHash P (T 2)) (.str (T 2) 266) (.str (cDoc (tS T D 3)) 265)), (.mk (PySem.PyData.keyHash P (T 49)) (.str (T 49) 268) (.ref 73)), (.mk (PySem.PyData.keyHash P (T 50)) (.str (T 50) 272) (.ref 74)), (.mk (PySem.PyData.keyHash P (T 51)) (.str (T 51) 273) (.ref 75)), (.mk (PySem.PyData.keyHash P (T 52)) (.str (T 52) 284) (.ref 136)), (.mk (PySem.PyData.keyHash P (T 53)) (.str (T 53) 306) (.ref 91)), (.mk (PySem.PyData.keyHash P (T 54)) (.str (T 54) 317) (.ref 100)), (.mk (PySem.PyData.keyHash P (T 55)) (.str (T 55) 318) (.ref 100)), (.mk (PySem.PyData.keyHash P (T 56)) (.str (T 56) 326) (.ref 107)), (.mk (PySem.PyData.keyHash P (T 57)) (.str (T 57) 333) (.ref 114)), (.mk (PySem.PyData.keyHash P (T 58)) (.str (T 58) 341) (.ref 121)), (.mk (PySem.PyData.keyHash P (T 59)) (.str (T 59) 345) (.ref 122)), (.mk (PySem.PyData.keyHash P (T 60)) (.str (T 60) 355) (.ref 124)), (.mk (PySem.PyData.keyHash P (T 61)) (.str (T 61) 365) (.ref 127)), (.mk (PySem.PyData.keyHash P (T 62)) (.str (T 62) 375) (.ref 130)), (.mk (PySem.PyData.keyHash P (T 36)) (.str (T 36) 376) (.ref 132))] 2) #[]) (.node (.mk (.type (U 3)) none (.fields #[(.str (T 18) 596), (.str (T 18) 597), (.str (T 9) 598), (.int 453 0), (.int 3 0), (.int 0 0), (.int 0 0), (.int 3 0), (.ref 259), (.bool true), (.int 181 0), (.ref 260), .none, .none, .none, (.ref 261), (.int 599 0), (.int 453 0), (.str (T 9) 600)]) #[]) .nil .nil) .nil) (.node (.mk .none none (.fields #[]) #[]) .nil .nil)) (.node (.mk .none none (.fields #[]) #[]) (.node (.mk (.type (U 3)) none (.fields #[(.str (T 81) 418), (.str (T 96) 419), (.str (T 9) 420), (.int 173 0), (.int 3 0), (.int 0 0), (.int 0 0), (.int 3 0), (.ref 161), (.bool true), (.int 181 0), (.ref 162), .none, (.ref 163), (.ref 164), (.ref 165), (.int 424 0), (.int 173 0), (.str (T 9) 425)]) #[]) (.node (.mk (.type (U 5)) none (.func (.mk (T 23) (T 23) (dArgs (tS T D 15)) (.stmts (dBody (tS T D 15))) (dScope (tS T D 15)) 3 [] .none .none .none (.str (T 1) 588) none (.ref 293) .none 0)) #[]) .nil .nil) .nil) (.node (.mk .none none (.func (.mk (T 90) (T 140) (dArgs (inS (tS T D 5) 11)) (.stmts (dBody (inS (tS T D 5) 11))) (dScope (inS (tS T D 5) 11)) 0 [] .none .none .none .none none .none .none 0)) #[]) .nil .nil)))
noncomputable def tr37 (T : Nat → Str) (U : Nat → String) (D : Nat → Str) (P : Params) : BT := (.node (.mk (.type (U 2)) none (.seq #[] 0) #[]) (.node (.mk (.type (U 2)) none (.seq #[] 0) #[]) (.node (.mk .none none (.fields #[(.int 145 0), (.int 4 0), (.ref 159), (.int 173 0), (.int 4 0), (.ref 166), (.int 184 0), (.int 4 0), (.ref 173), (.int 209 0), (.int 4 0), (.ref 180), (.int 236 0), (.int 4 0), (.ref 187), (.int 260 0), (.int 4 0), (.ref 195), (.int 335 0), (.int 4 0), (.ref 202), (.int 383 0), (.int 4 0), (.ref 209), (.int 386 0), (.int 4 0), (.ref 217), (.int 389 0), (.int 4 0), (.ref 224), (.int 413 0), (.int 4 0), (.ref 231), (.int 416 0), (.int 4 0), (.ref 238)]) #[]) (.node (.mk (.type (U 2)) none (.seq #[] 0) #[]) .nil .nil) .nil) (.node (.mk (.type (U 2)) none (.seq #[(.str (T 37) 530), (.str (T 105) 531)] 0) #[]) .nil .nil)) (.node (.mk (.type (U 2)) none (.seq #[] 0) #[]) (.node (.mk (.type (U 2)) none (.seq #[] 0) #[]) .nil .nil) (.node (.mk (.type (U 6)) none (.fields #[(.builtin (U 16)), (.ref 242)]) #[]) .nil .nil)))
noncomputable def tr38 (T : Nat → Str) (U : Nat → String) (D : Nat → Str) (P : Params) : BT := (.node (.mk (.type (U 2)) none (.seq #[(.str (T 37) 229), (.str (T 41) 230), (.str (T 44) 231)] 0) #[]) (.node (.mk (.type (U 2)) none (.seq #[(.str (T 64) 277), (.str (T 60) 278), (.str (T 61) 279), (.str (T 62) 280)] 0) #[]) (.node (.mk (.type (U 2)) none (.seq #[] 0) #[]) (.node (.mk (.type (U 5)) none (.func (.mk (T 19) (T 19) (dArgs (tS T D 11)) (.stmts (dBody (tS T D 11))) (dScope (tS T D 11)) 3 [] .none .none .none (.str (T 1) 588) none (.ref 269) .none 0)) #[]) .nil .nil) .nil) (.node (.mk (.type (U 2)) none (.seq #[(.str (T 37) 522)] 0) #[]) .nil .nil)) (.node (.mk (.type (U 2)) none (.seq #[(.str (T 37) 330)] 0) #[]) (.node (.mk (.type (U 5)) none (.func (.mk (T 82) (T 97) (dArgs (inS (tS T D 5) 3)) (.stmts (dBody (inS (tS T D 5) 3))) (dScope (inS (tS T D 5) 3)) 3 [] .none .none (.str (dDoc (inS (tS T D 5) 3)) 435) (.str (T 29) 194) none (.ref 173) .none 0)) #[]) .nil .nil) (.node (.mk (.type (U 3)) none (.fields #[(.str (T 91) 551), (.str (T 141) 552), (.str (T 9) 553), (.int 416 0), (.int 1 0), (.int 0 0), (.int 0 0), (.int 3 0), (.ref 233), (.bool true), (.int 181 0), (.ref 234), .none, (.ref 235), (.ref 236), (.ref 237), (.int 555 0), (.int 416 0), (.str (T 9) 556)]) #[]) .nil .nil)))
noncomputable def tr39 (T : Nat → Str) (U : Nat → String) (D : Nat → Str) (P : Params) : BT := (.node (.mk (.type (U 11)) none (.fields #[(.str (T 48) 248), (.ref 60), (.builtin (U 14)), .none]) #[]) (.node (.mk (.type (U 2)) none (.seq #[(.str (T 70) 310)] 0) #[]) (.node (.mk .none none (.func (.mk (T 32) (T 95) (dArgs (inS (tS T D 5) 1)) (.stmts (dBody (inS (tS T D 5) 1))) (dScope (inS (tS T D 5) 1)) 0 [] .none .none .none .none none .none .none 0)) #[]) (.node (.mk (.type (U 3)) none (.fields #[(.str (T 22) 637), (.str (T 22) 638), (.str (T 9) 639), (.int 488 0), (.int 1 0), (.int 0 0), (.int 0 0), (.int 3 0), (.ref 283), (.bool true), (.int 181 0), (.ref 284), .none, .none, .none, (.ref 285), (.int 640 0), (.int 488 0), (.str (T 9) 641)]) #[]) .nil .nil) .nil) (.node (.mk (.type (U 2)) none (.seq #[] 0) #[]) .nil .nil)) (.node (.mk (.type (U 0)) none (.dict #[(.mk (PySem.PyData.keyHash P (T 38)) (.str (T 38) 362) (.int 1 356)), (.mk (PySem.PyData.keyHash P (T 2)) (.str (T 2) 364) (.str (T 77) 357))] 2) #[]) (.node (.mk (.type (U 2)) none (.seq #[] 0) #[]) .nil .nil) (.node (.mk (.type (U 2)) none (.seq #[] 0) #[]) .nil .nil)))
noncomputable def tr40 (T : Nat → Str) (U : Nat → String) (D : Nat → Str) (P : Params) : BT := (.node (.mk (.type (U 4)) none .plain #[(some (.ref 13)), (some (.ref 3)), (some (.ref 3)), none, (some (.str (T 26) 164)), none, (some (.ref 0))]) (.node (.mk (.type (U 2)) none (.seq #[] 0) #[]) (tr36 T U D P) (tr37 T U D P)) (.node (.mk .none none (.fields #[]) #[]) (tr38 T U D P) (tr39 T U D P)))
noncomputable def tr41 (T : Nat → Str) (U : Nat → String) (D : Nat → Str) (P : Params) : BT := (.node (boot_o_2 P) (.node (boot_o_4 P) (tr25 T U D P) (tr30 T U D P)) (.node (boot_o_6 P) (tr35 T U D P) (tr40 T U D P)))
noncomputable def tree1 (T : Nat → Str) (U : Nat → String) (D : Nat → Str) (P : Params) : BT := (.node (boot_o_0 P) (tr20 T U D P) (tr41 T U D P))
noncomputable def hp37 (P : Params) : List Obj := ob296 P :: ob297 P :: ob298 P :: ob299 P :: ob300 P :: ob301 P :: []
noncomputable def hp36 (P : Params) : List Obj := ob288 P :: ob289 P :: ob290 P :: ob291 P :: ob292 P :: ob293 P :: ob294 P :: ob295 P :: hp37 P
noncomputable def hp35 (P : Params) : List Obj := ob280 P :: ob281 P :: ob282 P :: ob283 P :: ob284 P :: ob285 P :: ob286 P :: ob287 P :: hp36 P
noncomputable def hp34 (P : Params) : List Obj := ob272 P :: ob273 P :: ob274 P :: ob275 P :: ob276 P :: ob277 P :: ob278 P :: ob279 P :: hp35 P
noncomputable def hp33 (P : Params) : List Obj := ob264 P :: ob265 P :: ob266 P :: ob267 P :: ob268 P :: ob269 P :: ob270 P :: ob271 P :: hp34 P
noncomputable def hp32 (P : Params) : List Obj := ob256 P :: ob257 P :: ob258 P :: ob259 P :: ob260 P :: ob261 P :: ob262 P :: ob263 P :: hp33 P
noncomputable def hp31 (P : Params) : List Obj := ob248 P :: ob249 P :: ob250 P :: ob251 P :: ob252 P :: ob253 P :: ob254 P :: ob255 P :: hp32 P
noncomputable def hp30 (P : Params) : List Obj := ob240 P :: ob241 P :: ob242 P :: ob243 P :: ob244 P :: ob245 P :: ob246 P :: ob247 P :: hp31 P
noncomputable def hp29 (P : Params) : List Obj := ob232 P :: ob233 P :: ob234 P :: ob235 P :: ob236 P :: ob237 P :: ob238 P :: ob239 P :: hp30 P
noncomputable def hp28 (P : Params) : List Obj := ob224 P :: ob225 P :: ob226 P :: ob227 P :: ob228 P :: ob229 P :: ob230 P :: ob231 P :: hp29 P
noncomputable def hp27 (P : Params) : List Obj := ob216 P :: ob217 P :: ob218 P :: ob219 P :: ob220 P :: ob221 P :: ob222 P :: ob223 P :: hp28 P
noncomputable def hp26 (P : Params) : List Obj := ob208 P :: ob209 P :: ob210 P :: ob211 P :: ob212 P :: ob213 P :: ob214 P :: ob215 P :: hp27 P
noncomputable def hp25 (P : Params) : List Obj := ob200 P :: ob201 P :: ob202 P :: ob203 P :: ob204 P :: ob205 P :: ob206 P :: ob207 P :: hp26 P
noncomputable def hp24 (P : Params) : List Obj := ob192 P :: ob193 P :: ob194 P :: ob195 P :: ob196 P :: ob197 P :: ob198 P :: ob199 P :: hp25 P
noncomputable def hp23 (P : Params) : List Obj := ob184 P :: ob185 P :: ob186 P :: ob187 P :: ob188 P :: ob189 P :: ob190 P :: ob191 P :: hp24 P
noncomputable def hp22 (P : Params) : List Obj := ob176 P :: ob177 P :: ob178 P :: ob179 P :: ob180 P :: ob181 P :: ob182 P :: ob183 P :: hp23 P
noncomputable def hp21 (P : Params) : List Obj := ob168 P :: ob169 P :: ob170 P :: ob171 P :: ob172 P :: ob173 P :: ob174 P :: ob175 P :: hp22 P
noncomputable def hp20 (P : Params) : List Obj := ob160 P :: ob161 P :: ob162 P :: ob163 P :: ob164 P :: ob165 P :: ob166 P :: ob167 P :: hp21 P
noncomputable def hp19 (P : Params) : List Obj := ob152 P :: ob153 P :: ob154 P :: ob155 P :: ob156 P :: ob157 P :: ob158 P :: ob159 P :: hp20 P
noncomputable def hp18 (P : Params) : List Obj := ob144 P :: ob145 P :: ob146 P :: ob147 P :: ob148 P :: ob149 P :: ob150 P :: ob151 P :: hp19 P
noncomputable def hp17 (P : Params) : List Obj := ob136 P :: ob137 P :: ob138 P :: ob139 P :: ob140 P :: ob141 P :: ob142 P :: ob143 P :: hp18 P
noncomputable def hp16 (P : Params) : List Obj := ob128 P :: ob129 P :: ob130 P :: ob131 P :: ob132 P :: ob133 P :: ob134 P :: ob135 P :: hp17 P
noncomputable def hp15 (P : Params) : List Obj := ob120 P :: ob121 P :: ob122 P :: ob123 P :: ob124 P :: ob125 P :: ob126 P :: ob127 P :: hp16 P
noncomputable def hp14 (P : Params) : List Obj := ob112 P :: ob113 P :: ob114 P :: ob115 P :: ob116 P :: ob117 P :: ob118 P :: ob119 P :: hp15 P
noncomputable def hp13 (P : Params) : List Obj := ob104 P :: ob105 P :: ob106 P :: ob107 P :: ob108 P :: ob109 P :: ob110 P :: ob111 P :: hp14 P
noncomputable def hp12 (P : Params) : List Obj := ob96 P :: ob97 P :: ob98 P :: ob99 P :: ob100 P :: ob101 P :: ob102 P :: ob103 P :: hp13 P
noncomputable def hp11 (P : Params) : List Obj := ob88 P :: ob89 P :: ob90 P :: ob91 P :: ob92 P :: ob93 P :: ob94 P :: ob95 P :: hp12 P
noncomputable def hp10 (P : Params) : List Obj := ob80 P :: ob81 P :: ob82 P :: ob83 P :: ob84 P :: ob85 P :: ob86 P :: ob87 P :: hp11 P
noncomputable def hp9 (P : Params) : List Obj := ob72 P :: ob73 P :: ob74 P :: ob75 P :: ob76 P :: ob77 P :: ob78 P :: ob79 P :: hp10 P
noncomputable def hp8 (P : Params) : List Obj := ob64 P :: ob65 P :: ob66 P :: ob67 P :: ob68 P :: ob69 P :: ob70 P :: ob71 P :: hp9 P
noncomputable def hp7 (P : Params) : List Obj := ob56 P :: ob57 P :: ob58 P :: ob59 P :: ob60 P :: ob61 P :: ob62 P :: ob63 P :: hp8 P
noncomputable def hp6 (P : Params) : List Obj := ob48 P :: ob49 P :: ob50 P :: ob51 P :: ob52 P :: ob53 P :: ob54 P :: ob55 P :: hp7 P
noncomputable def hp5 (P : Params) : List Obj := ob40 P :: ob41 P :: ob42 P :: ob43 P :: ob44 P :: ob45 P :: ob46 P :: ob47 P :: hp6 P
noncomputable def hp4 (P : Params) : List Obj := ob32 P :: ob33 P :: ob34 P :: ob35 P :: ob36 P :: ob37 P :: ob38 P :: ob39 P :: hp5 P
noncomputable def hp3 (P : Params) : List Obj := ob24 P :: ob25 P :: ob26 P :: ob27 P :: ob28 P :: ob29 P :: ob30 P :: ob31 P :: hp4 P
noncomputable def hp2 (P : Params) : List Obj := ob16 P :: ob17 P :: ob18 P :: ob19 P :: ob20 P :: ob21 P :: ob22 P :: ob23 P :: hp3 P
noncomputable def hp1 (P : Params) : List Obj := boot_o_8 P :: boot_o_9 P :: boot_o_10 P :: ob11 P :: ob12 P :: ob13 P :: ob14 P :: ob15 P :: hp2 P
noncomputable def hp0 (P : Params) : List Obj := boot_o_0 P :: boot_o_1 P :: boot_o_2 P :: ob3 P :: boot_o_4 P :: boot_o_5 P :: boot_o_6 P :: boot_o_7 P :: hp1 P
noncomputable def heap1 (P : Params) : Heap := ⟨⟨hp0 P⟩, lifeE⟩

noncomputable def runL (T : Nat → Str) (U : Nat → String) (D : Nat → Str) (w : World) (os : OsState) : Option SharedT :=
  topT tbQ (myP T D) w 11 (some (.ref 6)) 2411 ⟨tree0 w.params, 11, lifeE, ⟨[]⟩, boot_drawn, boot_toks, os⟩ (topStub (myP T D))
noncomputable def runR (T : Nat → Str) (U : Nat → String) (D : Nat → Str) (w : World) (os : OsState) : Option SharedT := some ⟨tree1 T U D w.params, 302, lifeE, ⟨[]⟩, .mk 0 0 0 0, 670, os⟩
noncomputable def ign {α : Type} (_ : α) : Bool := true
theorem lay1 : ign (runR T0 U0) = true := by k_qdec
theorem lay2 : ign (runL T0 U0) = true := by k_qdec
theorem run_tw (D : Nat → Str) : PySem.W.Fast.tw15381529512651596867 PySem.W.Fast.tw13825946027806631103 PySem.W.Fast.tw3833181326764847126 D = runR PySem.W.Fast.tw13825946027806631103 PySem.W.Fast.tw3833181326764847126 D := by
  funext w os
  kernel_rfl
theorem run_eq (D : Nat → Str) : runL T0 U0 D = runR T0 U0 D := by
  rw [PySem.W.Fast.te15381529512651596867, PySem.W.Fast.te13825946027806631103, PySem.W.Fast.te3833181326764847126]
  exact run_tw D
theorem heap0_eq (P : Params) : absHeap (tree0 P) 11 lifeE = boot_heap P := by kernel_rfl
theorem heap1_eq (P : Params) : absHeap (tree1 T0 U0 D0 P) 302 lifeE = heap1 P := by kernel_rfl
theorem top_run (w : World) (os : OsState) : topRun treeTable PySem.Challenge.pw_pg0326_01 w 11 (some (.ref 6)) 2411 ⟨boot_heap w.params, Array.mk [], boot_drawn, boot_toks, os⟩ (topStub PySem.Challenge.pw_pg0326_01) = some ⟨heap1 w.params, Array.mk [], .mk 0 0 0 0, 670, os⟩ := by
  have h : topT tbQ (myP T0 D0) _ _ _ _ _ (topStub (myP T0 D0)) = some _ := congrFun (congrFun (run_eq D0) w) os
  have := topT_of h
  unfold SharedT.abs at this
  dsimp only at this
  rw [heap0_eq, heap1_eq] at this
  rw [tbQ_eq, pw_eq]
  exact this
theorem top_size (w : World) : ((boot_heap w.params).isNs mainGlobals && (Array.mk [] : Array GenState).size == 0, (boot_heap w.params).objs.size, (boot_heap w.params).nsMap mainGlobals "__annotations__") = (true, 11, some (.ref 6)) := by kernel_rfl
theorem top_open : ∀ w : World, (fencedOpening treeTable PySem.Challenge.pw_pg0326_01 w 4894).map (fun s => (s.heap, s.gens, s.drawn, s.toks)) = some (boot_heap w.params, Array.mk [], boot_drawn, boot_toks) :=
  boot_open (by kernel_rfl) (by decide) (fun s => by kernel_rfl)

/-- the objects of the text that the walk knows -/
noncomputable def KF (P : Params) : Frag := (nat_lit 2, boot_o_2 P) :: (nat_lit 3, ob3 P) :: (nat_lit 15, ob15 P) :: (nat_lit 17, ob17 P) :: (nat_lit 18, ob18 P) :: (nat_lit 20, ob20 P) :: (nat_lit 21, ob21 P) :: (nat_lit 29, ob29 P) :: (nat_lit 31, ob31 P) :: (nat_lit 32, ob32 P) :: (nat_lit 34, ob34 P) :: (nat_lit 35, ob35 P) :: (nat_lit 36, ob36 P) :: (nat_lit 37, ob37 P) :: (nat_lit 39, ob39 P) :: (nat_lit 40, ob40 P) :: (nat_lit 42, ob42 P) :: (nat_lit 43, ob43 P) :: (nat_lit 44, ob44 P) :: (nat_lit 46, ob46 P) :: (nat_lit 47, ob47 P) :: (nat_lit 49, ob49 P) :: (nat_lit 50, ob50 P) :: (nat_lit 51, ob51 P) :: (nat_lit 53, ob53 P) :: (nat_lit 54, ob54 P) :: (nat_lit 56, ob56 P) :: (nat_lit 57, ob57 P) :: (nat_lit 58, ob58 P) :: (nat_lit 59, ob59 P) :: (nat_lit 60, ob60 P) :: (nat_lit 61, ob61 P) :: (nat_lit 62, ob62 P) :: (nat_lit 65, ob65 P) :: (nat_lit 68, ob68 P) :: (nat_lit 73, ob73 P) :: (nat_lit 74, ob74 P) :: (nat_lit 75, ob75 P) :: (nat_lit 76, ob76 P) :: (nat_lit 78, ob78 P) :: (nat_lit 79, ob79 P) :: (nat_lit 81, ob81 P) :: (nat_lit 82, ob82 P) :: (nat_lit 83, ob83 P) :: (nat_lit 85, ob85 P) :: (nat_lit 86, ob86 P) :: (nat_lit 88, ob88 P) :: (nat_lit 89, ob89 P) :: (nat_lit 90, ob90 P) :: (nat_lit 91, ob91 P) :: (nat_lit 92, ob92 P) :: (nat_lit 93, ob93 P) :: (nat_lit 94, ob94 P) :: (nat_lit 96, ob96 P) :: (nat_lit 97, ob97 P) :: (nat_lit 99, ob99 P) :: (nat_lit 100, ob100 P) :: (nat_lit 101, ob101 P) :: (nat_lit 103, ob103 P) :: (nat_lit 104, ob104 P) :: (nat_lit 106, ob106 P) :: (nat_lit 107, ob107 P) :: (nat_lit 108, ob108 P) :: (nat_lit 110, ob110 P) :: (nat_lit 111, ob111 P) :: (nat_lit 113, ob113 P) :: (nat_lit 114, ob114 P) :: (nat_lit 115, ob115 P) :: (nat_lit 117, ob117 P) :: (nat_lit 118, ob118 P) :: (nat_lit 120, ob120 P) :: (nat_lit 121, ob121 P) :: (nat_lit 122, ob122 P) :: (nat_lit 123, ob123 P) :: (nat_lit 124, ob124 P) :: (nat_lit 126, ob126 P) :: (nat_lit 127, ob127 P) :: (nat_lit 129, ob129 P) :: (nat_lit 130, ob130 P) :: (nat_lit 132, ob132 P) :: (nat_lit 134, ob134 P) :: (nat_lit 135, ob135 P) :: (nat_lit 136, ob136 P) :: (nat_lit 139, ob139 P) :: (nat_lit 141, ob141 P) :: (nat_lit 142, ob142 P) :: (nat_lit 144, ob144 P) :: (nat_lit 145, ob145 P) :: (nat_lit 153, ob153 P) :: (nat_lit 154, ob154 P) :: (nat_lit 156, ob156 P) :: (nat_lit 157, ob157 P) :: (nat_lit 159, ob159 P) :: (nat_lit 160, ob160 P) :: (nat_lit 161, ob161 P) :: (nat_lit 163, ob163 P) :: (nat_lit 164, ob164 P) :: (nat_lit 166, ob166 P) :: (nat_lit 167, ob167 P) :: (nat_lit 168, ob168 P) :: (nat_lit 170, ob170 P) :: (nat_lit 171, ob171 P) :: (nat_lit 173, ob173 P) :: (nat_lit 174, ob174 P) :: (nat_lit 175, ob175 P) :: (nat_lit 177, ob177 P) :: (nat_lit 178, ob178 P) :: (nat_lit 180, ob180 P) :: (nat_lit 181, ob181 P) :: (nat_lit 182, ob182 P) :: (nat_lit 184, ob184 P) :: (nat_lit 185, ob185 P) :: (nat_lit 187, ob187 P) :: (nat_lit 188, ob188 P) :: (nat_lit 189, ob189 P) :: (nat_lit 190, ob190 P) :: (nat_lit 192, ob192 P) :: (nat_lit 193, ob193 P) :: (nat_lit 195, ob195 P) :: (nat_lit 196, ob196 P) :: (nat_lit 197, ob197 P) :: (nat_lit 199, ob199 P) :: (nat_lit 200, ob200 P) :: (nat_lit 202, ob202 P) :: (nat_lit 203, ob203 P) :: (nat_lit 204, ob204 P) :: (nat_lit 206, ob206 P) :: (nat_lit 207, ob207 P) :: (nat_lit 209, ob209 P) :: (nat_lit 210, ob210 P) :: (nat_lit 211, ob211 P) :: (nat_lit 212, ob212 P) :: (nat_lit 214, ob214 P) :: (nat_lit 215, ob215 P) :: (nat_lit 217, ob217 P) :: (nat_lit 218, ob218 P) :: (nat_lit 219, ob219 P) :: (nat_lit 221, ob221 P) :: (nat_lit 222, ob222 P) :: (nat_lit 224, ob224 P) :: (nat_lit 225, ob225 P) :: (nat_lit 226, ob226 P) :: (nat_lit 228, ob228 P) :: (nat_lit 229, ob229 P) :: (nat_lit 231, ob231 P) :: (nat_lit 232, ob232 P) :: (nat_lit 233, ob233 P) :: (nat_lit 235, ob235 P) :: (nat_lit 236, ob236 P) :: (nat_lit 238, ob238 P) :: (nat_lit 239, ob239 P) :: (nat_lit 240, ob240 P) :: (nat_lit 241, ob241 P) :: (nat_lit 242, ob242 P) :: (nat_lit 243, ob243 P) :: (nat_lit 244, ob244 P) :: (nat_lit 247, ob247 P) :: (nat_lit 249, ob249 P) :: (nat_lit 250, ob250 P) :: (nat_lit 252, ob252 P) :: (nat_lit 253, ob253 P) :: (nat_lit 254, ob254 P) :: (nat_lit 257, ob257 P) :: (nat_lit 258, ob258 P) :: (nat_lit 259, ob259 P) :: (nat_lit 262, ob262 P) :: (nat_lit 263, ob263 P) :: (nat_lit 264, ob264 P) :: (nat_lit 266, ob266 P) :: (nat_lit 267, ob267 P) :: (nat_lit 269, ob269 P) :: (nat_lit 270, ob270 P) :: (nat_lit 271, ob271 P) :: (nat_lit 273, ob273 P) :: (nat_lit 274, ob274 P) :: (nat_lit 276, ob276 P) :: (nat_lit 277, ob277 P) :: (nat_lit 278, ob278 P) :: (nat_lit 281, ob281 P) :: (nat_lit 282, ob282 P) :: (nat_lit 283, ob283 P) :: (nat_lit 286, ob286 P) :: (nat_lit 287, ob287 P) :: (nat_lit 288, ob288 P) :: (nat_lit 290, ob290 P) :: (nat_lit 291, ob291 P) :: (nat_lit 293, ob293 P) :: (nat_lit 294, ob294 P) :: (nat_lit 295, ob295 P) :: (nat_lit 297, ob297 P) :: (nat_lit 298, ob298 P) :: (nat_lit 300, ob300 P) :: (nat_lit 301, ob301 P) :: []
noncomputable def KA : List Addr := [2, 3, 15, 17, 18, 20, 21, 29, 31, 32, 34, 35, 36, 37, 39, 40, 42, 43, 44, 46, 47, 49, 50, 51, 53, 54, 56, 57, 58, 59, 60, 61, 62, 65, 68, 73, 74, 75, 76, 78, 79, 81, 82, 83, 85, 86, 88, 89, 90, 91, 92, 93, 94, 96, 97, 99, 100, 101, 103, 104, 106, 107, 108, 110, 111, 113, 114, 115, 117, 118, 120, 121, 122, 123, 124, 126, 127, 129, 130, 132, 134, 135, 136, 139, 141, 142, 144, 145, 153, 154, 156, 157, 159, 160, 161, 163, 164, 166, 167, 168, 170, 171, 173, 174, 175, 177, 178, 180, 181, 182, 184, 185, 187, 188, 189, 190, 192, 193, 195, 196, 197, 199, 200, 202, 203, 204, 206, 207, 209, 210, 211, 212, 214, 215, 217, 218, 219, 221, 222, 224, 225, 226, 228, 229, 231, 232, 233, 235, 236, 238, 239, 240, 241, 242, 243, 244, 247, 249, 250, 252, 253, 254, 257, 258, 259, 262, 263, 264, 266, 267, 269, 270, 271, 273, 274, 276, 277, 278, 281, 282, 283, 286, 287, 288, 290, 291, 293, 294, 295, 297, 298, 300, 301]
theorem KA_eq (P : Params) : KA = (KF P).map (·.1) := by kernel_rfl
noncomputable def HK : Hook := kHook KF KA KA_eq

noncomputable def viewQ : Program := view PySem.Challenge.pw_pg0326_01 [0, 2, 3, 4, 5, 7, 9, 10, 11, 12, 13, 14, 15, 16]
noncomputable def looseQ : List Str := [.ofString "_tuplegetter", .ofString "Match", .ofString "SequenceMatcher"]
noncomputable def XtQ (s : Shared) : Bool := xlAt viewQ [] s && recOk (RowW.records (OpenRow.toRowW (OpenLaw.row PySem.Challenge.rw_pg0326_01))) s

noncomputable def viewT (T D : Nat → Str) : Program := view (myP T D) [0, 2, 3, 4, 5, 7, 9, 10, 11, 12, 13, 14, 15, 16]
noncomputable def XtT (T D : Nat → Str) (s : Shared) : Bool := xlAt (viewT T D) [] s && recOk [] s
noncomputable def lkA (p q : Program) (X : Shared → Bool) (H : Params → Heap) (w : World) (os : OsState) :=
  ((staticsOk (importedModules p.main.body) (boot_heap w.params) (H w.params) && namesBound p (H w.params) && gensDone ⟨H w.params, Array.mk [], .mk 0 0 0 0, 670, os⟩ && laidKept (boot_heap w.params) (H w.params)),
    openSeen q looseQ (importedModules p.main.body) X true ⟨H w.params, Array.mk [], .mk 0 0 0 0, 670, os⟩)
noncomputable def lkB (q : Program) (_ : World) (_ : OsState) := (true, openGood q looseQ)
noncomputable def lkL (T : Nat → Str) (U : Nat → String) (D : Nat → Str) := lkA (myP T D) (viewT T D) (XtT T D) (fun P => absHeap (tree1 T U D P) 302 lifeE)
noncomputable def lkR (T D : Nat → Str) := lkB (viewT T D)
theorem lay3 : ign (lkL T0 U0) = true := by k_qdec
theorem lay4 : ign (lkR T0) = true := by k_qdec
theorem lk_tw (D : Nat → Str) : PySem.W.Fast.tw8404984073036601407 PySem.W.Fast.tw13825946027806631103 PySem.W.Fast.tw3833181326764847126 D = PySem.W.Fast.tw12537045571503754594 PySem.W.Fast.tw13825946027806631103 D := by
  funext w os
  kernel_rfl
theorem lk_eq (D : Nat → Str) : lkL T0 U0 D = lkR T0 D := by
  rw [PySem.W.Fast.te8404984073036601407, PySem.W.Fast.te12537045571503754594, PySem.W.Fast.te13825946027806631103, PySem.W.Fast.te3833181326764847126]
  exact lk_tw D
theorem view_eq : viewQ = viewT T0 D0 := by unfold viewQ viewT; rw [pw_eq]
theorem xt_eq : XtQ = XtT T0 D0 := by
  funext s
  unfold XtQ XtT
  rw [view_eq]
  rfl
theorem lk_eq0 : lkA PySem.Challenge.pw_pg0326_01 viewQ XtQ heap1 = lkB viewQ := by
  have h : (fun P => absHeap (tree1 T0 U0 D0 P) 302 lifeE) = heap1 := funext heap1_eq
  have := lk_eq D0
  unfold lkL lkR at this
  rw [h] at this
  rw [pw_eq, view_eq, xt_eq]
  exact this
theorem y_eq (w : World) (os : OsState) : Hook.obs HK ⟨heap1 w.params, Array.mk [], .mk 0 0 0 0, 670, os⟩ = Hook.val HK w := by kernel_rfl
theorem left_all : LeftO PySem.Challenge.pw_pg0326_01 viewQ looseQ XtQ (Hook.obs HK) (Hook.val HK) 4894 true :=
  LeftO.of_pieces (H₀ := boot_heap) (H₁ := heap1) top_open top_size top_run (by decide) fun w => by
    funext os
    have h := congrFun (congrFun lk_eq0 w) os
    unfold lkA lkB at h
    obtain ⟨h1, h2⟩ := Prod.mk.inj h
    exact Prod.ext h1 (Prod.ext h2 (y_eq w os))
noncomputable def rowT (T D : Nat → Str) : OpenLaw := ⟨myP T D, T 24, [T 15, T 86], 8, some 63, none, false⟩
theorem row_eq : PySem.Challenge.rw_pg0326_01 = rowT T0 D0 := by
  delta PySem.Challenge.rw_pg0326_01 rowT
  rw [pw_eq]
  kernel_rfl
noncomputable def wsL (T D : Nat → Str) : Bool := OpenLaw.wellSaid (rowT T D)
theorem lay5 : ign (wsL T0) = true := by k_qdec
theorem ws_tw (D : Nat → Str) : PySem.W.Fast.tw11754401950239494628 PySem.W.Fast.tw13825946027806631103 D = true := by kernel_rfl
theorem ws_ok : OpenLaw.wellSaid PySem.Challenge.rw_pg0326_01 = true := by
  rw [row_eq]
  show wsL T0 D0 = true
  rw [PySem.W.Fast.te11754401950239494628, PySem.W.Fast.te13825946027806631103]
  exact ws_tw D0
end Mine
end
section
namespace Mine

/-! the plain law: windows, blocks, overlap tables, over lists of ints alone -/

/-- xs[i..] and ys[j..] agree for s places, none of them junk -/
noncomputable def Blk (jk : Option Int) (a b : List Int) (lo hi lo' hi' i j s : Nat) : Prop :=
  lo ≤ i ∧ i + s ≤ hi ∧ lo' ≤ j ∧ j + s ≤ hi' ∧ ∀ t, t < s → ∃ x, a[i + t]? = some x ∧ b[j + t]? = some x ∧ jk ≠ some x

noncomputable def Best (jk : Option Int) (a b : List Int) (lo hi lo' hi' i j s : Nat) : Prop :=
  Blk jk a b lo hi lo' hi' i j s ∧ (∀ i' j' s', Blk jk a b lo hi lo' hi' i' j' s' → s' ≤ s) ∧ (s = 0 → i = lo ∧ j = lo') ∧
  (0 < s → ∀ i' j', Blk jk a b lo hi lo' hi' i' j' s → i < i' ∨ (i = i' ∧ j ≤ j'))

theorem Best.unique {jk : Option Int} {a b : List Int} {lo hi lo' hi' i j s i' j' s' : Nat} (h : Best jk a b lo hi lo' hi' i j s) (h' : Best jk a b lo hi lo' hi' i' j' s') :
    i = i' ∧ j = j' ∧ s = s' := by
  obtain ⟨h1, h2, h3, h4⟩ := h
  obtain ⟨g1, g2, g3, g4⟩ := h'
  have e : s = s' := Nat.le_antisymm (g2 _ _ _ h1) (h2 _ _ _ g1)
  subst e
  rcases Nat.eq_zero_or_pos s with z | z
  · have := h3 z; have := g3 z; lia
  · have := h4 z _ _ g1; have := g4 z _ _ h1; lia

/-- junk at the same time at i of xs and at j of ys -/
noncomputable def Jk (jk : Option Int) (a b : List Int) (i j : Nat) : Prop := ∃ x, jk = some x ∧ a[i]? = some x ∧ b[j]? = some x

/-- the longest block of two whole rows: the best one, lengthened by junk -/
noncomputable def Long (jk : Option Int) (xs ys : List Int) (i j s : Nat) : Prop :=
  ∃ i₀ j₀ s₀ d e, Best jk xs ys 0 xs.length 0 ys.length i₀ j₀ s₀ ∧ i₀ = i + d ∧ j₀ = j + d ∧ s = d + s₀ + e ∧
    (∀ t, t < d → Jk jk xs ys (i + t) (j + t)) ∧ (i = 0 ∨ j = 0 ∨ ¬ Jk jk xs ys (i - 1) (j - 1)) ∧
    (∀ t, t < e → Jk jk xs ys (i₀ + s₀ + t) (j₀ + s₀ + t)) ∧ ¬ Jk jk xs ys (i + s) (j + s)

theorem Long.unique {jk : Option Int} {xs ys : List Int} {i j s i' j' s' : Nat} (h : Long jk xs ys i j s) (h' : Long jk xs ys i' j' s') : i = i' ∧ j = j' ∧ s = s' := by
  obtain ⟨i₀, j₀, s₀, d, e, B, h1, h2, h3, h4, h5, h6, h7⟩ := h
  obtain ⟨i₁, j₁, s₁, d', e', B', g1, g2, g3, g4, g5, g6, g7⟩ := h'
  obtain ⟨rfl, rfl, rfl⟩ := B.unique B'
  have hd : d = d' := by
    rcases Nat.lt_trichotomy d d' with c | c | c
    · exfalso
      rcases h5 with q | q | q
      · lia
      · lia
      · refine q ?_
        have := g4 (d' - d - 1) (by lia)
        rwa [show i' + (d' - d - 1) = i - 1 by lia, show j' + (d' - d - 1) = j - 1 by lia] at this
    · exact c
    · exfalso
      rcases g5 with q | q | q
      · lia
      · lia
      · refine q ?_
        have := h4 (d - d' - 1) (by lia)
        rwa [show i + (d - d' - 1) = i' - 1 by lia, show j + (d - d' - 1) = j' - 1 by lia] at this
  subst hd
  have hi : i = i' := by lia
  have hj : j = j' := by lia
  subst hi; subst hj
  refine ⟨rfl, rfl, ?_⟩
  rcases Nat.lt_trichotomy e e' with c | c | c
  · exfalso
    refine h7 ?_
    have := g6 e c
    rwa [show i₀ + s₀ + e = i + s by lia, show j₀ + s₀ + e = j + s by lia] at this
  · lia
  · exfalso
    refine g7 ?_
    have := h6 e' c
    rwa [show i₀ + s₀ + e' = i + s' by lia, show j₀ + s₀ + e' = j + s' by lia] at this

theorem Jk.lt {jk : Option Int} {a b : List Int} {i j : Nat} (h : Jk jk a b i j) : i < a.length ∧ j < b.length := by
  obtain ⟨x, _, h1, h2⟩ := h
  exact ⟨(List.getElem?_eq_some_iff.mp h1).1, (List.getElem?_eq_some_iff.mp h2).1⟩

theorem Long.le {jk : Option Int} {xs ys : List Int} {i j s : Nat} (h : Long jk xs ys i j s) : i + s ≤ xs.length ∧ j + s ≤ ys.length := by
  obtain ⟨i₀, j₀, s₀, d, e, B, h1, h2, h3, h4, h5, h6, h7⟩ := h
  obtain ⟨_, b1, _, b2, _⟩ := B.1
  rcases Nat.eq_zero_or_pos e with z | z
  · lia
  · have := (h6 (e - 1) (by lia)).lt
    lia

abbrev Tri := Nat × Nat × Nat
noncomputable def shift (p q : Nat) (t : Tri) : Tri := (t.1 + p, t.2.1 + q, t.2.2)

/-- the blocks of two rows, in their order -/
inductive RB (jk : Option Int) : List Int → List Int → List Tri → Prop
  | nil {xs ys i j} : Long jk xs ys i j 0 → RB jk xs ys []
  | node {xs ys i j s A B} : Long jk xs ys i j s → 0 < s → RB jk (xs.take i) (ys.take j) A → RB jk (xs.drop (i + s)) (ys.drop (j + s)) B →
      RB jk xs ys (A ++ (i, j, s) :: B.map (shift (i + s) (j + s)))

theorem RB.unique {jk : Option Int} {xs ys : List Int} {A B : List Tri} (h : RB jk xs ys A) (h' : RB jk xs ys B) : A = B := by
  induction h generalizing B with
  | nil l =>
    cases h' with
    | nil _ => rfl
    | node l' z _ _ => have := l.unique l'; lia
  | node l z _ _ ih1 ih2 =>
    cases h' with
    | nil l' => have := l.unique l'; lia
    | node l' z' a b =>
      obtain ⟨rfl, rfl, rfl⟩ := l.unique l'
      rw [ih1 a, ih2 b]

/-- one step of joining blocks that touch -/
noncomputable def join (due : List Tri) (t : Tri) : List Tri :=
  match due.getLast? with
  | some u => if u.1 + u.2.2 = t.1 ∧ u.2.1 + u.2.2 = t.2.1 then due.dropLast ++ [(u.1, u.2.1, u.2.2 + t.2.2)] else due ++ [t]
  | none => due ++ [t]

theorem join_snoc (due : List Tri) (u t : Tri) : join (due ++ [u]) t = if u.1 + u.2.2 = t.1 ∧ u.2.1 + u.2.2 = t.2.1 then due ++ [(u.1, u.2.1, u.2.2 + t.2.2)] else due ++ [u] ++ [t] := by
  unfold join
  simp
theorem join_nil (t : Tri) : join [] t = [t] := rfl

noncomputable def due (out : List Tri) : List Tri := out.foldl join []

/-- the other reading of the joining: the open block apart -/
noncomputable def pend (na : List Tri) (u : Tri) : List Tri := if u.2.2 = 0 then na else na ++ [u]
noncomputable def step2 (p : List Tri × Tri) (t : Tri) : List Tri × Tri :=
  if p.2.1 + p.2.2.2 = t.1 ∧ p.2.2.1 + p.2.2.2 = t.2.1 then (p.1, (p.2.1, p.2.2.1, p.2.2.2 + t.2.2)) else (pend p.1 p.2, t)
noncomputable def Ok2 (p : List Tri × Tri) : Prop := p.2.2.2 = 0 → p = ([], (0, 0, 0))

theorem step2_ok {p : List Tri × Tri} {t : Tri} (h : Ok2 p) (ht : 0 < t.2.2) : Ok2 (step2 p t) ∧ pend (step2 p t).1 (step2 p t).2 = join (pend p.1 p.2) t := by
  obtain ⟨na, u⟩ := p
  by_cases z : u.2.2 = 0
  · have := h z
    simp only [Prod.mk.injEq] at this
    obtain ⟨rfl, rfl⟩ := this
    obtain ⟨t1, t2, t3⟩ := t
    simp only at ht
    unfold step2 pend Ok2
    simp only [Nat.add_zero, Nat.zero_add]
    by_cases c : 0 = t1 ∧ 0 = t2
    · obtain ⟨rfl, rfl⟩ := c
      simp only [and_self, if_true, join_nil]
      refine ⟨fun h => by lia, ?_⟩
      rw [if_neg (by lia)]; rfl
    · rw [if_neg c]
      simp only [if_true, join_nil]
      refine ⟨fun h => by lia, ?_⟩
      rw [if_neg (by lia)]; rfl
  · unfold step2
    have e : pend na u = na ++ [u] := by unfold pend; rw [if_neg z]
    rw [e, join_snoc]
    split
    · refine ⟨fun h => by simp only at h; lia, ?_⟩
      unfold pend
      rw [if_neg (by simp only; lia)]
    · refine ⟨fun h => by simp only at h; lia, ?_⟩
      have zt : ¬ t.2.2 = 0 := by lia
      simp only [pend, if_neg zt, if_neg z]

theorem fold2 : ∀ (out : List Tri) (p : List Tri × Tri), Ok2 p → (∀ t ∈ out, 0 < t.2.2) →
    Ok2 (out.foldl step2 p) ∧ pend (out.foldl step2 p).1 (out.foldl step2 p).2 = out.foldl join (pend p.1 p.2)
  | [], _, h, _ => ⟨h, rfl⟩
  | t :: r, p, h, ht => by
    obtain ⟨a, b⟩ := step2_ok h (ht t (.head _))
    have := fold2 r (step2 p t) a fun x hx => ht x (.tail _ hx)
    rw [b] at this
    exact this

theorem fold2_due (out : List Tri) (ht : ∀ t ∈ out, 0 < t.2.2) : pend (out.foldl step2 ([], (0, 0, 0))).1 (out.foldl step2 ([], (0, 0, 0))).2 = due out :=
  (fold2 out _ (fun _ => rfl) ht).2

/-- what RB yields lies in order -/
theorem RB.facts {jk : Option Int} {xs ys : List Int} {A : List Tri} (h : RB jk xs ys A) :
    (∀ t ∈ A, 0 < t.2.2 ∧ t.1 + t.2.2 ≤ xs.length ∧ t.2.1 + t.2.2 ≤ ys.length) ∧ A.Pairwise (fun t u => t.1 < u.1) ∧ A.length ≤ xs.length := by
  induction h with
  | nil _ => exact ⟨fun _ h => (nomatch h), .nil, Nat.zero_le _⟩
  | @node xs ys i j s A B l z _ _ ih1 ih2 =>
    obtain ⟨a1, a2, a3⟩ := ih1
    obtain ⟨b1, b2, b3⟩ := ih2
    have hl := l.le
    simp only [List.length_take, List.length_drop] at a1 a3 b1 b3
    refine ⟨?_, ?_, ?_⟩
    · intro t ht
      rcases List.mem_append.mp ht with h | h
      · have := a1 t h; lia
      · rcases List.mem_cons.mp h with rfl | h
        · exact ⟨z, hl.1, hl.2⟩
        · obtain ⟨u, hu, rfl⟩ := List.mem_map.mp h
          have := b1 u hu
          simp only [shift]; lia
    · refine List.pairwise_append.mpr ⟨a2, List.pairwise_cons.mpr ⟨?_, ?_⟩, ?_⟩
      · intro u hu
        obtain ⟨v, hv, rfl⟩ := List.mem_map.mp hu
        simp only [shift]; lia
      · exact List.pairwise_map.mpr (b2.imp fun h => by simp only [shift]; lia)
      · intro t ht u hu
        have := a1 t ht
        rcases List.mem_cons.mp hu with rfl | hu
        · simp only; lia
        · obtain ⟨v, hv, rfl⟩ := List.mem_map.mp hu
          simp only [shift]; lia
    · simp only [List.length_append, List.length_cons, List.length_map]; lia

end Mine
end
section
namespace Mine
/-! overlap tables -/
section
variable {α : Type}
noncomputable def Bord (cs : List α) (i k : Nat) : Prop := k ≤ i ∧ ∀ t, t < k → cs[t]? = cs[i + 1 - k + t]?
noncomputable def IsOv (cs : List α) (i k : Nat) : Prop := Bord cs i k ∧ ∀ k', Bord cs i k' → k' ≤ k
theorem ov_zero (cs : List α) : IsOv cs 0 0 := ⟨⟨Nat.le_refl _, fun _ h => absurd h (Nat.not_lt_zero _)⟩, fun _ h => h.1⟩
theorem kmp_start {cs : List α} {i idx : Nat} (h : IsOv cs i idx) : ∀ k, Bord cs (i + 1) k → k ≤ idx + 1 := by
  intro k hk
  cases k with
  | zero => lia
  | succ k =>
    have : Bord cs i k := ⟨by have := hk.1; lia, fun t ht => by
      have := hk.2 t (by lia)
      rwa [show i + 1 + 1 - (k + 1) + t = i + 1 - k + t by lia] at this⟩
    have := h.2 k this
    lia
theorem kmp_hit {cs : List α} {i idx : Nat} (b : Bord cs i idx) (hm : ∀ k, Bord cs (i + 1) k → k ≤ idx + 1) (e : cs[i + 1]? = cs[idx]?) : IsOv cs (i + 1) (idx + 1) := by
  have h1 := b.1
  refine ⟨⟨by lia, fun t ht => ?_⟩, hm⟩
  rcases Nat.lt_or_ge t idx with c | c
  · have := b.2 t c
    rwa [show i + 1 - idx + t = i + 1 + 1 - (idx + 1) + t by lia] at this
  · obtain rfl : t = idx := by lia
    rw [← e, show i + 1 + 1 - (t + 1) + t = i + 1 by lia]
theorem kmp_zero {cs : List α} {i : Nat} (hm : ∀ k, Bord cs (i + 1) k → k ≤ 1) (e : cs[i + 1]? ≠ cs[0]?) : IsOv cs (i + 1) 0 := by
  refine ⟨⟨by lia, fun _ h => absurd h (Nat.not_lt_zero _)⟩, fun k hk => ?_⟩
  have := hm k hk
  rcases Nat.eq_zero_or_pos k with c | c
  · lia
  · obtain rfl : k = 1 := by lia
    have := hk.2 0 (by lia)
    rw [show i + 1 + 1 - 1 + 0 = i + 1 by lia] at this
    exact absurd this.symm e
theorem kmp_fall {cs : List α} {i idx u : Nat} (b : Bord cs i idx) (h0 : 0 < idx) (hm : ∀ k, Bord cs (i + 1) k → k ≤ idx + 1) (e : cs[i + 1]? ≠ cs[idx]?) (hu : IsOv cs (idx - 1) u) :
    Bord cs i u ∧ ∀ k, Bord cs (i + 1) k → k ≤ u + 1 := by
  have h1 := b.1
  have h2 := hu.1.1
  refine ⟨⟨by lia, fun t ht => ?_⟩, fun k hk => ?_⟩
  · have a1 := hu.1.2 t ht
    have a2 := b.2 (idx - u + t) (by lia)
    rw [show idx - 1 + 1 - u + t = idx - u + t by lia] at a1
    rw [show i + 1 - idx + (idx - u + t) = i + 1 - u + t by lia] at a2
    exact a1.trans a2
  · have h3 := hm k hk
    have h4 := hk.1
    by_cases c : k = idx + 1
    · subst c
      have := hk.2 idx (by lia)
      rw [show i + 1 + 1 - (idx + 1) + idx = i + 1 by lia] at this
      exact absurd this.symm e
    · cases k with
      | zero => lia
      | succ k =>
        have : Bord cs (idx - 1) k := ⟨by lia, fun t ht => by
          have a1 := hk.2 t (by lia)
          have a2 := b.2 (idx - k + t) (by lia)
          rw [show i + 1 + 1 - (k + 1) + t = i + 1 - k + t by lia] at a1
          rw [show i + 1 - idx + (idx - k + t) = i + 1 - k + t by lia] at a2
          rw [show idx - 1 + 1 - k + t = idx - k + t by lia, a2]
          exact a1⟩
        have := hu.2 k this
        lia
theorem ov_set {cs : List α} {T : List Nat} {i v : Nat} (hT : T.length = cs.length) (hov : ∀ j, j ≤ i → j < cs.length → ∃ k, T[j]? = some k ∧ IsOv cs j k) (h : IsOv cs (i + 1) v) :
    ∀ j, j ≤ i + 1 → j < cs.length → ∃ k, (T.set (i + 1) v)[j]? = some k ∧ IsOv cs j k := by
  intro j h1 h2
  by_cases c : j = i + 1
  · subst c
    exact ⟨v, by simp [hT, h2], h⟩
  · obtain ⟨k, a, b⟩ := hov j (by lia) h2
    exact ⟨k, by rw [List.getElem?_set_ne (by lia)]; exact a, b⟩
theorem getD_ne {cs : List α} {a b : Nat} {d : α} (ha : a < cs.length) (hb : b < cs.length) : cs.getD a d = cs.getD b d ↔ cs[a]? = cs[b]? := by
  simp [List.getD, ha, hb]
end
end Mine
end
section
namespace Mine
/-! the best block so far -/
structure BI (Bk Pr : Nat → Nat → Nat → Prop) (lo lo' k j s : Nat) : Prop where
  zero : s = 0 → k = lo ∧ j = lo'
  blk : 0 < s → Bk k j s
  pr : 0 < s → Pr k j s
  max : ∀ i' j' s', 0 < s' → Bk i' j' s' → Pr i' j' s' → s' ≤ s
  ord : 0 < s → ∀ i' j', Bk i' j' s → Pr i' j' s → k < i' ∨ (k = i' ∧ j ≤ j')
section
variable {Bk Pr N : Nat → Nat → Nat → Prop} {lo lo' k j s v k' j' : Nat}
theorem BI.start (hP : ∀ i j s, 0 < s → ¬ Pr i j s) : BI Bk Pr lo lo' lo lo' 0 :=
  ⟨fun _ => ⟨rfl, rfl⟩, fun h => absurd h (Nat.lt_irrefl _), fun h => absurd h (Nat.lt_irrefl _), fun i j s z _ h => absurd h (hP i j s z), fun h => absurd h (Nat.lt_irrefl _)⟩
theorem BI.congr {Pr' : Nat → Nat → Nat → Prop} (h : BI Bk Pr lo lo' k j s) (e : ∀ i j s, 0 < s → Bk i j s → (Pr' i j s ↔ Pr i j s)) : BI Bk Pr' lo lo' k j s :=
  ⟨h.zero, h.blk, fun z => (e _ _ _ z (h.blk z)).mpr (h.pr z), fun i j s z b p => h.max i j s z b ((e i j s z b).mp p), fun z i j b p => h.ord z i j b ((e i j s z b).mp p)⟩
/-- a longer one -/
theorem BI.hit (h : BI Bk Pr lo lo' k j s) (hN : ∀ i j i' j' s, N i j s → N i' j' s → i = i' ∧ j = j') (hb : Bk k' j' v) (hn : N k' j' v)
    (hm : ∀ i' j' s', 0 < s' → Bk i' j' s' → N i' j' s' → s' ≤ v) (hv : s < v) : BI Bk (fun i j s => Pr i j s ∨ N i j s) lo lo' k' j' v := by
  refine ⟨fun z => absurd z (by grind), fun _ => hb, fun _ => .inr hn, ?_, ?_⟩
  · rintro i1 j1 s1 z b (p | p)
    · have := h.max _ _ _ z b p; grind
    · exact hm _ _ _ z b p
  · rintro _ i1 j1 b (p | p)
    · have := h.max _ _ _ (by grind) b p; grind
    · obtain ⟨rfl, rfl⟩ := hN _ _ _ _ _ hn p
      exact .inr ⟨rfl, Nat.le_refl _⟩
/-- no longer one -/
theorem BI.miss (h : BI Bk Pr lo lo' k j s) (hm : ∀ i' j' s', 0 < s' → Bk i' j' s' → N i' j' s' → s' ≤ s)
    (ho : 0 < s → ∀ i' j', Bk i' j' s → N i' j' s → k < i' ∨ (k = i' ∧ j ≤ j')) : BI Bk (fun i j s => Pr i j s ∨ N i j s) lo lo' k j s := by
  refine ⟨h.zero, h.blk, fun z => .inl (h.pr z), ?_, ?_⟩
  · rintro i1 j1 s1 z b (p | p)
    · exact h.max _ _ _ z b p
    · exact hm _ _ _ z b p
  · rintro z i1 j1 b (p | p)
    · exact h.ord z _ _ b p
    · exact ho z _ _ b p
theorem BI.best {jk : Option Int} {a b : List Int} {hi hi' : Nat} (h : BI (Blk jk a b lo hi lo' hi') Pr lo lo' k j s) (hl : lo ≤ hi) (hl' : lo' ≤ hi') (all : ∀ i j s, 0 < s → Blk jk a b lo hi lo' hi' i j s → Pr i j s) :
    Best jk a b lo hi lo' hi' k j s := by
  refine ⟨?_, fun i j s' hb => ?_, h.zero, fun z i j hb => h.ord z i j hb (all i j s z hb)⟩
  · rcases Nat.eq_zero_or_pos s with z | z
    · obtain ⟨rfl, rfl⟩ := h.zero z
      subst z
      exact ⟨Nat.le_refl _, by grind, Nat.le_refl _, by grind, fun _ h => absurd h (Nat.not_lt_zero _)⟩
    · exact h.blk z
  · rcases Nat.eq_zero_or_pos s' with z | z
    · grind
    · exact h.max i j s' z hb (all i j s' z hb)
end

/-! the law's rows of cells -/
inductive Cell where
  | int (i : Int)
  | one
  | two
  | none
  deriving DecidableEq
noncomputable def cellL (jk : Option Int) (x : Int) : Cell := if jk = some x then .one else .int x
noncomputable def cellR (jk : Option Int) (x : Int) : Cell := if jk = some x then .two else .int x
theorem cell_eq {jk : Option Int} {x y : Int} : cellL jk x = cellR jk y ↔ x = y ∧ jk ≠ some x := by
  unfold cellL cellR
  constructor
  · intro h
    split at h <;> split at h <;> try cases h
    exact ⟨rfl, by assumption⟩
  · rintro ⟨rfl, h⟩
    rw [if_neg h, if_neg h]
theorem cellL_ne {jk : Option Int} {x : Int} : cellL jk x ≠ .none := by unfold cellL; split <;> exact fun h => nomatch h
theorem cellR_ne {jk : Option Int} {x : Int} : cellR jk x ≠ .none := by unfold cellR; split <;> exact fun h => nomatch h

noncomputable def rows (jk : Option Int) (xs ys : List Int) (at_ : Nat) : List Cell := (xs.map (cellL jk)).drop at_ ++ [Cell.none] ++ ys.map (cellR jk)
theorem rows_l {jk : Option Int} {xs ys : List Int} {a i : Nat} (h : i < xs.length - a) : (rows jk xs ys a)[i]? = xs[a + i]?.map (cellL jk) := by
  unfold rows
  rw [List.append_assoc, List.getElem?_append_left (by simp; grind), List.getElem?_drop, List.getElem?_map]
theorem rows_m {jk : Option Int} {xs ys : List Int} {a : Nat} : (rows jk xs ys a)[xs.length - a]? = some .none := by
  unfold rows
  rw [List.append_assoc, List.getElem?_append_right (by simp)]
  simp
theorem rows_r {jk : Option Int} {xs ys : List Int} {a i : Nat} : (rows jk xs ys a)[xs.length - a + 1 + i]? = ys[i]?.map (cellR jk) := by
  unfold rows
  rw [List.getElem?_append_right (by simp), List.getElem?_map]
  congr 2
  simp
theorem rows_len {jk : Option Int} {xs ys : List Int} {a : Nat} : (rows jk xs ys a).length = xs.length - a + 1 + ys.length := by
  unfold rows; simp; grind

/-- a border at the end e of the second row is a block from a of the first row on -/
theorem bord_blk {jk : Option Int} {xs ys : List Int} {a e s : Nat} (ha : a ≤ xs.length) (he : e < ys.length) :
    Bord (rows jk xs ys a) (xs.length - a + 1 + e) s ↔ s ≤ e + 1 ∧ Blk jk xs ys 0 xs.length 0 ys.length a (e + 1 - s) s := by
  constructor
  · rintro ⟨h1, h2⟩
    have c1 : s ≤ xs.length - a := by
      refine Nat.le_of_not_lt fun c => ?_
      have := h2 (xs.length - a) c
      rw [rows_m, show xs.length - a + 1 + e + 1 - s + (xs.length - a) = xs.length - a + 1 + (xs.length - a + e + 1 - s) by grind, rows_r] at this
      cases hy : ys[xs.length - a + e + 1 - s]? with
      | none => rw [hy] at this; cases this
      | some y => rw [hy] at this; exact cellR_ne (Option.some.inj this).symm
    have c2 : s ≤ e + 1 := by
      refine Nat.le_of_not_lt fun c => ?_
      have := h2 (s - e - 2) (by grind)
      rw [show xs.length - a + 1 + e + 1 - s + (s - e - 2) = xs.length - a by grind, rows_m, rows_l (by grind)] at this
      cases hy : xs[a + (s - e - 2)]? with
      | none => rw [hy] at this; cases this
      | some y => rw [hy] at this; exact cellL_ne (Option.some.inj this)
    refine ⟨c2, Nat.zero_le _, by grind, Nat.zero_le _, by grind, fun t ht => ?_⟩
    have := h2 t ht
    rw [show xs.length - a + 1 + e + 1 - s + t = xs.length - a + 1 + (e + 1 - s + t) by grind, rows_r, rows_l (by grind)] at this
    have hx : xs[a + t]? = some xs[a + t] := List.getElem?_eq_getElem (by grind)
    have hy : ys[e + 1 - s + t]? = some ys[e + 1 - s + t] := List.getElem?_eq_getElem (by grind)
    rw [hx, hy] at this
    obtain ⟨q1, q2⟩ := cell_eq.mp (Option.some.inj this)
    exact ⟨_, hx, by rw [q1]; exact hy, q2⟩
  · rintro ⟨c2, _, h1, _, h2, h3⟩
    refine ⟨by grind, fun t ht => ?_⟩
    obtain ⟨x, q1, q2, q3⟩ := h3 t ht
    rw [show xs.length - a + 1 + e + 1 - s + t = xs.length - a + 1 + (e + 1 - s + t) by grind, rows_r, rows_l (by grind), q1, q2]
    exact congrArg some (cell_eq.mpr ⟨rfl, q3⟩)
/-- processed by the law's two loops: the blocks from before a, and those from a that end before e -/
noncomputable def PrL (a e : Nat) (i j s : Nat) : Prop := i < a ∨ (i = a ∧ j + s ≤ e)
section
variable {jk : Option Int} {xs ys : List Int} {a e v k j s : Nat}
theorem law_hit (h : BI (Blk jk xs ys 0 xs.length 0 ys.length) (PrL a e) 0 0 k j s) (ha : a ≤ xs.length) (he : e < ys.length) (hv : IsOv (rows jk xs ys a) (xs.length - a + 1 + e) v) (hs : s < v) :
    v ≤ e + 1 ∧ BI (Blk jk xs ys 0 xs.length 0 ys.length) (PrL a (e + 1)) 0 0 a (e + 1 - v) v := by
  obtain ⟨b1, b2⟩ := (bord_blk ha he).mp hv.1
  refine ⟨b1, (h.hit (N := fun i j s => i = a ∧ j + s = e + 1) (by rintro i j i' j' s ⟨rfl, h⟩ ⟨rfl, h'⟩; exact ⟨rfl, by grind⟩) b2 ⟨rfl, by grind⟩ ?_ hs).congr ?_⟩
  · rintro i1 j1 s1 z b ⟨rfl, h2⟩
    exact hv.2 s1 ((bord_blk ha he).mpr ⟨by grind, by rwa [show e + 1 - s1 = j1 by grind]⟩)
  · intro i1 j1 s1 z b
    unfold PrL
    grind
theorem law_miss (h : BI (Blk jk xs ys 0 xs.length 0 ys.length) (PrL a e) 0 0 k j s) (ha : a ≤ xs.length) (he : e < ys.length) (hv : IsOv (rows jk xs ys a) (xs.length - a + 1 + e) v) (hs : ¬ s < v) :
    BI (Blk jk xs ys 0 xs.length 0 ys.length) (PrL a (e + 1)) 0 0 k j s := by
  refine (h.miss (N := fun i j s => i = a ∧ j + s = e + 1) ?_ ?_).congr ?_
  · rintro i1 j1 s1 z b ⟨rfl, h2⟩
    have := hv.2 s1 ((bord_blk ha he).mpr ⟨by grind, by rwa [show e + 1 - s1 = j1 by grind]⟩)
    grind
  · rintro z i1 j1 b ⟨rfl, h2⟩
    rcases h.pr z with q | ⟨rfl, q⟩
    · exact .inl q
    · exact .inr ⟨rfl, by grind⟩
  · intro i1 j1 s1 z b
    unfold PrL
    grind
end
end Mine
namespace Mine
theorem jk_iff {jk : Option Int} {xs ys : List Int} {a b : Nat} (ha : a < xs.length) (hb : b < ys.length) : Jk jk xs ys a b ↔ jk = some (xs.getD a 0) ∧ jk = some (ys.getD b 0) := by
  have e1 : xs[a]? = some (xs.getD a 0) := by simp [List.getD, ha]
  have e2 : ys[b]? = some (ys.getD b 0) := by simp [List.getD, hb]
  constructor
  · rintro ⟨x, h1, h2, h3⟩
    rw [e1] at h2; rw [e2] at h3
    exact ⟨by rw [h1, ← h2], by rw [h1, ← h3]⟩
  · rintro ⟨h1, h2⟩
    exact ⟨_, h1, e1, by rw [e2, ← h1, h2]⟩
end Mine
end
section
open PySem PySem.W PySem.Spec PySem.Calls PyProof.Rows
set_option maxRecDepth 100000
namespace Mine

abbrev Led := List (Addr × Obj)
/-! the tree's parts by let names: smaller proof terms -/
theorem fold_A {M : Model} {A : Around} {α : Type} {t : Sem α} {Q : α → Shared → Prop} {E : Value → Shared → Prop} {s : Shared} (h : let AA := A; wpAny M AA t Q E s) : wpAny M A t Q E s := h
theorem fold_env {M : Model} {A : Around} {b : List Stmt} {env : Env} {Q : Flow → Shared → Prop} {E : Value → Shared → Prop} {s : Shared} (h : let ee := env; wpAny M A (execs b ee) Q E s) : wpAny M A (execs b env) Q E s := h
theorem fold_E {M : Model} {A : Around} {α : Type} {t : Sem α} {Q : α → Shared → Prop} {E : Value → Shared → Prop} {s : Shared} (h : let eE := E; wpAny M A t Q eE s) : wpAny M A t Q E s := h
theorem fold_Q {M : Model} {A : Around} {α : Type} {t : Sem α} {Q : α → Shared → Prop} {E : Value → Shared → Prop} {s : Shared} (h : let qQ := Q; wpAny M A t qQ E s) : wpAny M A t Q E s := h
theorem room0 {dp N R : Nat} (h : dp + N < R) : dp < R := Nat.lt_of_le_of_lt (Nat.le_add_right _ _) h
theorem room1 {dp N n R : Nat} (h : dp + N < R) (e : n + 1 ≤ N) : dp + 1 + n < R := by lia
theorem units1 {un N n R : Nat} (h : un + 8 * N < R) (e : n + 1 ≤ N) : un + 3 + 8 * n < R := by lia
theorem units2 {un N R : Nat} (h : un + 8 * N < R) (e : 67 ≤ 8 * N) : un + 3 + 64 < R := by lia
/-- the names that the law's top leaves open, as its walk has them -/
noncomputable abbrev lQ : List Str := looseW viewQ looseQ ++ (recsOf viewQ).map (·.name) ++ (litsOf viewQ).map (·.1) ++ (clssOf viewQ (looseW viewQ looseQ)).map (·.name)

/-- what a call of the text's own function hands back, from any frame of the call's own -/
abbrev Calls (w : World) (mean : ExcName → Option Value) (mg mb : Str → Option Value) (f : Addr) (vs : List Value) (need : Nat) (news : Led) (Ret : Value → Led → Prop) : Prop :=
  ∀ (dp un : Nat) (gd : Option (List Code)) (cn : Str) (cs : Scope) (a : Addr) (ccd : Value) (cl : List (Str × Addr)) (outer : List Env) (A₀ : Around) (base h₀ : Heap) (L : Addr) (m : Str → Option Value) (s : Shared) (Q E : Value → Shared → Prop),
    Below A₀ base outer h₀ → Fr h₀ L s.heap m → (KF w.params).In h₀ → News h₀ L s.heap news → Top topProg lQ mean mg mb h₀ → cs.kind = .function → dp + need < recursionLimit → un + 8 * need < cLine →
    (∀ v news' h' tk', Fr h₀ L h' m → News h₀ L h' news' → Ret v news' → Q v { s with heap := h', toks := tk' }) →
    wpAny (model (OpenLaw.prog PySem.Challenge.rw_pg0326_01) w) (ktrTop dp un gd cn cs L a ccd cl outer) (call (.ref f) vs) Q E s

theorem Calls.use {w : World} {mean : ExcName → Option Value} {mg mb : Str → Option Value} {f : Addr} {vs : List Value} {need : Nat} {news : Led} {Ret : Value → Led → Prop}
    {dp un : Nat} {gd : Option (List Code)} {cn : Str} {cs : Scope} {a : Addr} {ccd : Value} {cl : List (Str × Addr)} {outer : List Env} {A₀ : Around} {base h₀ : Heap} {L : Addr} {m : Str → Option Value} {s : Shared} {Q E : Value → Shared → Prop}
    (C : Calls w mean mg mb f vs need news Ret)
    (B : Below A₀ base outer h₀) (F : Fr h₀ L s.heap m) (X : (KF w.params).In h₀) (N : News h₀ L s.heap news) (T : Top topProg lQ mean mg mb h₀) (hk : cs.kind = .function) (hd : dp + need < recursionLimit) (hu : un + 8 * need < cLine)
    (ret : ∀ v news' h' tk', Fr h₀ L h' m → News h₀ L h' news' → Ret v news' → Q v { s with heap := h', toks := tk' }) :
    wpAny (model (OpenLaw.prog PySem.Challenge.rw_pg0326_01) w) (ktrTop dp un gd cn cs L a ccd cl outer) (call (.ref f) vs) Q E s := C _ _ _ _ _ _ _ _ _ _ _ _ _ _ _ _ _ B F X N T hk hd hu ret
noncomputable def Cell.val : Cell → Tok → Value
  | .int i, t => .int i t
  | .one, t => .str (Str.ofString "one") t
  | .two, t => .str (Str.ofString "two") t
  | .none, _ => .none
noncomputable def CsAre (vs : List Value) (cs : List Cell) : Prop := vs.length = cs.length ∧ ∀ (i : Nat) (c : Cell), cs[i]? = some c → ∃ t, vs[i]? = some (Cell.val c t)
theorem CsAre.append {a b : List Value} {c d : List Cell} (h : CsAre a c) (g : CsAre b d) : CsAre (a ++ b) (c ++ d) := by
  refine ⟨by simp [h.1, g.1], fun i x hx => ?_⟩
  by_cases q : i < c.length
  · rw [List.getElem?_append_left q] at hx
    obtain ⟨u, hu⟩ := h.2 i x hx
    exact ⟨u, by rw [List.getElem?_append_left (by rw [h.1]; exact q)]; exact hu⟩
  · rw [List.getElem?_append_right (by lia)] at hx
    obtain ⟨u, hu⟩ := g.2 _ x hx
    exact ⟨u, by rw [List.getElem?_append_right (by rw [h.1]; lia), h.1]; exact hu⟩
theorem CsAre.drop {a : List Value} {c : List Cell} (h : CsAre a c) (n : Nat) : CsAre (a.drop n) (c.drop n) := by
  refine ⟨by simp [h.1], fun i x hx => ?_⟩
  rw [List.getElem?_drop] at hx
  obtain ⟨u, hu⟩ := h.2 _ x hx
  exact ⟨u, by rw [List.getElem?_drop]; exact hu⟩
theorem CsAre.none : CsAre [Value.none] [Cell.none] := ⟨rfl, fun i x hx => by
  cases i with
  | zero => simp at hx; subst hx; exact ⟨0, rfl⟩
  | succ i => simp at hx⟩
theorem CsAre.snoc {vs : List Value} {cs : List Cell} {c : Cell} {t : Tok} (h : CsAre vs cs) : CsAre (vs ++ [Cell.val c t]) (cs ++ [c]) := h.append ⟨rfl, fun i x hx => by
  cases i with
  | zero => simp at hx; subst hx; exact ⟨t, rfl⟩
  | succ i => simp at hx⟩
theorem News.sub {h₀ h : Heap} {L : Addr} {a b : Led} (N : News h₀ L h a) (e : ∀ p ∈ b, p ∈ a) : News h₀ L h b := fun p hp => N p (e p hp)
end Mine
namespace Mine
/-! stops for the walk -/
noncomputable def Stop (P : Prop) : Prop := P
theorem Stop.of {P : Prop} (h : Stop P) : P := h
theorem Stop.go {P : Prop} (h : P) : Stop P := h

/-! no iterator in the ledger -/
noncomputable def noIt (o : Obj) : Bool := match o.cls with
  | .type n => !(["range_iterator", "list_iterator", "enumerate", "dict_keyiterator", "set_iterator"] : List String).contains n
  | _ => true
/-- no iterator in the ledger but at the addresses ex, each of which lies in it -/
noncomputable def NoIt (ex : List Addr) (news : Led) : Prop := (∀ p ∈ news, noIt p.2 = true ∨ p.1 ∈ ex) ∧ ∀ a ∈ ex, ∃ o, (a, o) ∈ news
theorem NoIt.nil : NoIt [] [] := ⟨fun _ h => (nomatch h), fun _ h => (nomatch h)⟩
theorem NoIt.cons {ex : List Addr} {a : Addr} {o : Obj} {news : Led} (h : noIt o = true) (N : NoIt ex news) : NoIt ex ((a, o) :: news) :=
  ⟨fun p hp => by
    rcases List.mem_cons.mp hp with rfl | hp
    · exact .inl h
    · exact N.1 p hp, fun a ha => (N.2 a ha).imp fun _ h => .tail _ h⟩
theorem NoIt.own {ex : List Addr} {a : Addr} {o : Obj} {news : Led} (N : NoIt ex news) : NoIt (a :: ex) ((a, o) :: news) :=
  ⟨fun p hp => by
    rcases List.mem_cons.mp hp with rfl | hp
    · exact .inr (.head _)
    · exact (N.1 p hp).imp id fun h => .tail _ h, fun b hb => by
    rcases List.mem_cons.mp hb with rfl | hb
    · exact ⟨o, .head _⟩
    · exact (N.2 b hb).imp fun _ h => .tail _ h⟩
theorem NoIt.append {ex : List Addr} {a b : Led} (h : ∀ p ∈ a, noIt p.2 = true) (N : NoIt ex b) : NoIt ex (a ++ b) :=
  ⟨fun p hp => (List.mem_append.mp hp).elim (fun hp => .inl (h p hp)) (N.1 p), fun a ha => (N.2 a ha).imp fun _ h => List.mem_append_right _ h⟩
theorem NoIt.fresh {ex : List Addr} {news : Led} (X : NoIt ex news) {h₀ h : Heap} {L : Addr} (N : News h₀ L h news) : h.objs.size ∉ ex := fun hm => by
  obtain ⟨o, ho⟩ := X.2 _ hm
  exact Nat.lt_irrefl _ (Heap.lt_size (N _ ho).1)
theorem NoIt.off {ex : List Addr} {news : Led} (N : NoIt ex news) {h₀ h : Heap} {L : Addr} {I : Addr} {it : Obj} (hi : noIt it = false) (hx : I ∉ ex) (W : News h₀ L h news) (hI : h.get? I = some it) : ∀ p ∈ news, p.1 ≠ I := by
  rintro p hp rfl
  have := (W p hp).1
  rw [hI] at this
  cases this
  rcases N.1 p hp with q | q
  · rw [q] at hi; cases hi
  · exact hx q

section
variable {prog : Program} {w : World} {A : Around} {E : Value → Shared → Prop} {s : Shared} {env : Env} {h₀ : Heap} {x : Str} {body : List Stmt} {Q : Flow → Shared → Prop}

/-- the end of a turn: own: the iterator's entries -/
noncomputable def Turn (h₀ : Heap) (L : Addr) (ex : List Addr) (own : Led) (J : (Str → Option Value) → Led → Prop) (s₁ : Shared) (Q : Flow → Shared → Prop) (f : Flow) (s₂ : Shared) : Prop :=
  match f with
  | .ret v => Q (.ret v) s₂
  | .brk => Q .next s₂
  | _ => ∃ h' tk m' news', s₂ = { s₁ with heap := h', toks := tk } ∧ Fr h₀ L h' m' ∧ News h₀ L h' (own ++ news') ∧ NoIt ex news' ∧ J m' news'
theorem Turn.next {ex : List Addr} {L : Addr} {own news' : Led} {J : (Str → Option Value) → Led → Prop} {s₁ : Shared} {h' : Heap} {tk : Nat} {m' : Str → Option Value}
    (F : Fr h₀ L h' m') (N : News h₀ L h' (own ++ news')) (hn : NoIt ex news') (hj : J m' news') : Turn h₀ L ex own J s₁ Q .next { s₁ with heap := h', toks := tk } := ⟨h', tk, m', news', rfl, F, N, hn, hj⟩
theorem Turn.cont {ex : List Addr} {L : Addr} {own news' : Led} {J : (Str → Option Value) → Led → Prop} {s₁ : Shared} {h' : Heap} {tk : Nat} {m' : Str → Option Value}
    (F : Fr h₀ L h' m') (N : News h₀ L h' (own ++ news')) (hn : NoIt ex news') (hj : J m' news') : Turn h₀ L ex own J s₁ Q .cont { s₁ with heap := h', toks := tk } := ⟨h', tk, m', news', rfl, F, N, hn, hj⟩

/-- a loop over whatever walks by one iterator object of its own -/
theorem loop_one (ex : List Addr) {I : Addr} {n : Nat} {P : Nat → Value → Prop} {St : Nat → Heap → Prop} {m₀ : Str → Option Value} {news : Led} (J : Nat → (Str → Option Value) → Led → Prop)
    (W : Walks prog w A I [I] [I] n P St) (hI : ∀ i h, St i h → ∃ it, h.get? I = some it ∧ noIt it = false) (hLI : env.locals ≠ I) (hx : I ∉ ex) (hIn : h₀.get? I = none) (hst : St 0 s.heap)
    (F : Fr h₀ env.locals s.heap m₀) (N : News h₀ env.locals s.heap news) (hc : NoIt ex news) (hj : J 0 m₀ news)
    (turn : ∀ i v m₁ news₁ it h tk, i < n → P i v → J i m₁ news₁ → NoIt ex news₁ → Fr h₀ env.locals h (fun y => if y = x then some v else m₁ y) → News h₀ env.locals h ((I, it) :: news₁) → (∀ p ∈ news₁, p.1 ≠ I) →
      wpAny (model prog w) A (execs body env) (Turn h₀ env.locals ex [(I, it)] (J (i + 1)) { s with heap := h, toks := tk } Q) E { s with heap := h, toks := tk })
    (done : ∀ m₁ news₁ h tk, J n m₁ news₁ → NoIt ex news₁ → Fr h₀ env.locals h m₁ → News h₀ env.locals h news₁ → Q .next { s with heap := h, toks := tk }) :
    LoopAtV prog w A h₀ env x body Q E (.ref I) s := by
  have offI : ∀ {h : Heap} {nx : Led} {i : Nat}, St i h → NoIt ex nx → News h₀ env.locals h nx → ∀ p ∈ nx, p.1 ∉ [I] := fun hs hn hN p hp hb => by
    obtain ⟨it, h1, h2⟩ := hI _ _ hs
    exact hn.off h2 hx hN h1 p hp (List.mem_singleton.mp hb)
  refine ⟨I, [I], [I], n, P, St, m₀, news, fun i m nx => NoIt ex nx ∧ J i m nx, rfl, W, by simpa using hLI, by simpa using hIn, offI hst hc N, hst, F, N, ⟨hc, hj⟩, ?_, ?_⟩
  · rintro i v m₁ news₁ s₁ own ⟨hh, tk, rfl⟩ hi hP ⟨hn, hJ⟩ hoff hown hget hall hSt F₁ N₁
    obtain ⟨it, h1, h2⟩ := hI _ _ hSt
    have hio : (I, it) ∈ own := hall I (by simp) hIn it h1
    have hone : ∀ p ∈ own, p = (I, it) := fun p hp => by
      have e := List.mem_singleton.mp (hown p hp)
      have := hget p hp
      rw [e, h1] at this
      obtain ⟨a, b⟩ := p
      simp only at e this
      cases this; rw [e]
    have N₂ : News h₀ env.locals hh ((I, it) :: news₁) := fun p hp => by
      rcases List.mem_cons.mp hp with rfl | hp
      · exact N₁ _ (List.mem_append_left _ hio)
      · exact N₁ p (List.mem_append_right _ hp)
    refine wpAny_mono (turn i v m₁ news₁ it hh tk hi hP hJ hn F₁ N₂ (hn.off h2 hx (fun p hp => N₁ p (List.mem_append_right _ hp)) h1)) (fun f s₂ p => ?_) fun _ _ e => e
    have fin : (∃ h' tk' m' news', s₂ = { s with heap := h', toks := tk' } ∧ Fr h₀ env.locals h' m' ∧ News h₀ env.locals h' ([(I, it)] ++ news') ∧ NoIt ex news' ∧ J (i + 1) m' news') →
        LoopStepU h₀ env.locals [I] own (fun m nx => NoIt ex nx ∧ J (i + 1) m nx) { s with heap := hh, toks := tk } .next s₂ := by
      rintro ⟨h', tk', m', news', e, F', N', hn', hj'⟩
      refine ⟨rfl, h', tk', m', news', e, F', fun p hp => ?_, fun p hp hb => ?_, hn', hj'⟩
      · rcases List.mem_append.mp hp with hp | hp
        · rw [hone p hp]; exact N' _ (List.mem_append_left _ (.head _))
        · exact N' p (List.mem_append_right _ hp)
      · exact hn'.off h2 hx (fun q hq => N' q (List.mem_append_right _ hq)) (N' (I, it) (List.mem_append_left _ (.head _))).1 p hp (List.mem_singleton.mp hb)
    cases f with
    | ret v => exact .ret p
    | brk => exact .brk p
    | next => exact .next (fin p)
    | cont => exact .cont (fin p)
  · rintro h' tk m' news' F' N' _ ⟨hn, hJ⟩
    exact done m' news' h' tk hJ hn F' N'

/-- for x in range(a₀, b₀) -/
theorem loop_range (ex : List Addr) {r : Addr} {a₀ b₀ : Int} {t₀ u₀ v₀ : Tok} {m₀ : Str → Option Value} {news : Led} (J : Nat → (Str → Option Value) → Led → Prop)
    (hh : A.handled = none) (hr : IsRange s.heap r a₀ b₀ 1 t₀ u₀ v₀) (hs : -1000000 ≤ a₀ ∧ a₀ ≤ 1000000 ∧ -1000000 ≤ b₀ ∧ b₀ ≤ 1000000)
    (F : Fr h₀ env.locals s.heap m₀) (N : News h₀ env.locals s.heap news) (hc : NoIt ex news) (hj : J 0 m₀ news)
    (turn : ∀ (i : Nat) t m₁ news₁ I it h tk, a₀ + (i : Int) < b₀ → J i m₁ news₁ → NoIt ex news₁ → Fr h₀ env.locals h (fun y => if y = x then some (.int (a₀ + (i : Int)) t) else m₁ y) → News h₀ env.locals h ((I, it) :: news₁) → (∀ p ∈ news₁, p.1 ≠ I) →
      wpAny (model prog w) A (execs body env) (Turn h₀ env.locals ex [(I, it)] (J (i + 1)) { s with heap := h, toks := tk } Q) E { s with heap := h, toks := tk })
    (done : ∀ m₁ news₁ h tk, J (b₀ - a₀).toNat m₁ news₁ → NoIt ex news₁ → Fr h₀ env.locals h m₁ → News h₀ env.locals h news₁ → Q .next { s with heap := h, toks := tk }) :
    wpAny (model prog w) A (pyIter (.ref r)) (fun it s₂ => LoopAtV prog w A h₀ env x body Q E it s₂) E s := by
  have hn := rangeSize_nat a₀ b₀
  refine wpAny_pyIter_range hr (small_one (by lia) (by lia) (by lia) (by lia)) ?_
  have hLt : env.locals < s.heap.objs.size := F.ns.lt
  have hIn : h₀.get? s.heap.objs.size = none := by
    cases e : h₀.get? s.heap.objs.size with
    | none => rfl
    | some o => exact absurd (Heap.lt_size (F.keep _ _ e)) (Nat.lt_irrefl _)
  refine loop_one ex J (Walks.range hh _ a₀ 1 (b₀ - a₀).toNat) (fun i h hst => ⟨_, hst, rfl⟩) (Nat.ne_of_lt hLt) (hc.fresh N) hIn ?_ (F.push _) (fun p hp => ⟨Heap.get?_push_of_some _ (N p hp).1, (N p hp).2⟩) hc hj ?_ ?_
  · show IsRangeIter _ _ _ _ _
    rw [hn]; simpa using Heap.get?_push_size _ rfl
  · rintro i v m₁ news₁ it h tk hi ⟨t, rfl⟩ hJ hno F₁ N₁ hoff
    rw [show a₀ + (i : Int) * 1 = a₀ + (i : Int) by lia] at F₁
    exact turn i t m₁ news₁ _ it h tk (by lia) hJ hno F₁ N₁ hoff
  · exact done

/-- a while, with its else -/
noncomputable def WStep (h₀ : Heap) (L : Addr) (s : Shared) (J : Nat → (Str → Option Value) → Led → Prop) (Q : Flow → Shared → Prop) (n : Nat) (f : Flow) (s₂ : Shared) : Prop :=
  match f with
  | .ret v => Q (.ret v) s₂
  | .brk => Q .next s₂
  | _ => ∃ h' tk m' news' n', s₂ = { s with heap := h', toks := tk } ∧ Fr h₀ L h' m' ∧ News h₀ L h' news' ∧ n' < n ∧ J n' m' news'
theorem while_else {test : Expr} {orelse : List Stmt} {pos : Pos} {L : Addr} {m : Str → Option Value} {news : Led} (J : Nat → (Str → Option Value) → Led → Prop) {n₀ : Nat}
    (F : Fr h₀ L s.heap m) (N : News h₀ L s.heap news) (hJ : J n₀ m news)
    (turn : ∀ n m₁ news₁ h₁ tk₁, Fr h₀ L h₁ m₁ → News h₀ L h₁ news₁ → J n m₁ news₁ →
      wpAny (model prog w) A (isTrue test env (eval test env)) (fun b s₂ =>
        if b = true then wpAny (model prog w) A (execs body env) (WStep h₀ L s J Q n) E s₂ else wpAny (model prog w) A (execs orelse env) Q E s₂) E { s with heap := h₁, toks := tk₁ })
    (hE : PassesOwn (model prog w) A env E := by passes_own) :
    wpAny (model prog w) A (exec (.While test body orelse pos) env) Q E s := by
  refine wpAny_While (codeAny_whileLoop (fun n s' => ∃ h₁ tk₁ m₁ news₁, s' = { s with heap := h₁, toks := tk₁ } ∧ Fr h₀ L h₁ m₁ ∧ News h₀ L h₁ news₁ ∧ J n m₁ news₁) ?_ n₀ ⟨s.heap, s.toks, m, news, rfl, F, N, hJ⟩)
  rintro n s' ⟨h₁, tk₁, m₁, news₁, rfl, F₁, N₁, J₁⟩
  refine wpAny_mono (turn n m₁ news₁ h₁ tk₁ F₁ N₁ J₁) (fun b s₂ h₂ => ?_) hE
  cases b with
  | false =>
    simp only [Bool.false_eq_true, if_false] at h₂ ⊢
    exact wpAny_mono h₂ (fun f s₃ h₃ => h₃) hE
  | true =>
    simp only [if_true] at h₂ ⊢
    refine wpAny_mono h₂ (fun f s₃ h₃ => ?_) hE
    cases f with
    | next =>
      obtain ⟨h', tk, m₂, news₂, n', rfl, F₂, N₂, hn, J₂⟩ := h₃
      exact ⟨n', hn, h', tk, m₂, news₂, rfl, F₂, N₂, J₂⟩
    | cont =>
      obtain ⟨h', tk, m₂, news₂, n', rfl, F₂, N₂, hn, J₂⟩ := h₃
      exact ⟨n', hn, h', tk, m₂, news₂, rfl, F₂, N₂, J₂⟩
    | brk => exact h₃
    | ret v => exact h₃
end
end Mine
namespace Mine
section
variable {prog : Program} {w : World} {A : Around} {E : Value → Shared → Prop} {s : Shared} {h₀ : Heap} {L : Addr} {m : Str → Option Value} {news : Led}
theorem len_led {l : Addr} {its : Array Value} {n : Nat} {Q : Value → Shared → Prop} (N : News h₀ L s.heap news) (hm : (l, listOf its n) ∈ news) (hz : its.size < 2 ^ 62)
    (h : Q (.int its.size (s.toks + 1)) { s with toks := s.toks + 1 + 1 }) : wpAny (model prog w) A (call (.builtin "len") [.ref l]) Q E s :=
  Calls.call_len_list (News.isList N hm) (by lia) h
end
end Mine
namespace Mine
/-! names of a frame -/
noncomputable def Has (m : Str → Option Value) : List (Str × Value) → Prop
  | [] => True
  | (n, v) :: r => m n = some v ∧ Has m r
noncomputable def bindM (m : Str → Option Value) : List (Str × Value) → Str → Option Value
  | [] => m
  | (n, v) :: r => fun y => if y = n then some v else bindM m r y
theorem bindM_eq {m : Str → Option Value} : ∀ {ps : List (Str × Value)}, Has m ps → bindM m ps = m
  | [], _ => rfl
  | (n, v) :: r, h => by
    funext y
    show (if y = n then some v else bindM m r y) = m y
    by_cases e : y = n
    · rw [if_pos e, e, h.1]
    · rw [if_neg e, bindM_eq h.2]
theorem Fr.has {h₀ h : Heap} {L : Addr} {m : Str → Option Value} (ps : List (Str × Value)) (F : Fr h₀ L h m) (H : Has m ps) : Fr h₀ L h (bindM m ps) := by rw [bindM_eq H]; exact F
theorem Fr.hasX {h₀ h : Heap} {L : Addr} {x : Str} {v : Value} {m : Str → Option Value} (ps : List (Str × Value)) (F : Fr h₀ L h (fun y => if y = x then some v else m y)) (H : Has m ps) :
    Fr h₀ L h (fun y => if y = x then some v else bindM m ps y) := by rw [bindM_eq H]; exact F

section
variable {prog : Program} {w : World} {A : Around} {E : Value → Shared → Prop} {s : Shared} {h₀ : Heap} {L : Addr} {m : Str → Option Value} {news : Led}
/-- an item of a list of the ledger -/
theorem item_led {value slice : PySem.Expr} {l : Addr} {vs : List Value} {n : Nat} {k : Int} {u : Tok} {v : Value} {Q : Value → Shared → Prop} (N : News h₀ L s.heap news) (hm : (l, listOf vs.toArray n) ∈ news)
    (h0 : 0 ≤ k) (hhi : k < 2 ^ 63) (hx : vs[k.toNat]? = some v) (h : Q v s)
    (hs : subscripted slice false (.ref l) (.int k u) = operate [.ref l, .int k u] (getItem (.ref l) (.int k u)) := by with_unfolding_all rfl) :
    wpAny (model prog w) A (subscriptTail value slice (.ref l) (.int k u)) Q E s := item_litK (News.isList N hm) h0 hhi hx h hs
theorem item_cs {value slice : PySem.Expr} {l : Addr} {vs : List Value} {cs : List Cell} {n : Nat} {k : Int} {u : Tok} {Q : Value → Shared → Prop} (N : News h₀ L s.heap news) (hm : (l, listOf vs.toArray n) ∈ news)
    (hc : CsAre vs cs) (h0 : 0 ≤ k) (h1 : k < cs.length) (hz : cs.length < 2 ^ 63) (h : ∀ t, Q (Cell.val (cs.getD k.toNat .none) t) s)
    (hs : subscripted slice false (.ref l) (.int k u) = operate [.ref l, .int k u] (getItem (.ref l) (.int k u)) := by with_unfolding_all rfl) :
    wpAny (model prog w) A (subscriptTail value slice (.ref l) (.int k u)) Q E s := by
  have hk : k.toNat < cs.length := by lia
  obtain ⟨t, ht⟩ := hc.2 k.toNat (cs.getD k.toNat .none) (by simp [List.getD, hk])
  exact item_led N hm h0 (by lia) ht (h t) hs
theorem item_ints {value slice : PySem.Expr} {l : Addr} {vs : List Value} {ns : List Int} {n : Nat} {k : Int} {u : Tok} {Q : Value → Shared → Prop} (N : News h₀ L s.heap news) (hm : (l, listOf vs.toArray n) ∈ news)
    (hc : IntsAre vs ns) (h0 : 0 ≤ k) (h1 : k < ns.length) (hz : ns.length < 2 ^ 63) (h : ∀ t, Q (.int (ns.getD k.toNat 0) t) s)
    (hs : subscripted slice false (.ref l) (.int k u) = operate [.ref l, .int k u] (getItem (.ref l) (.int k u)) := by with_unfolding_all rfl) :
    wpAny (model prog w) A (subscriptTail value slice (.ref l) (.int k u)) Q E s := by
  have hk : k.toNat < ns.length := by lia
  obtain ⟨t, ht⟩ := hc.get k.toNat (ns.getD k.toNat 0) (by simp [List.getD, hk])
  exact item_led N hm h0 (by lia) ht (h t) hs
theorem ne_cells {c d : Cell} {t u : Tok} {Q : Value → Shared → Prop} (h : Q (.bool (decide (c ≠ d))) s) : wpAny (model prog w) A (compareOp .NotEq (Cell.val c t) (Cell.val d u)) Q E s := by
  have r : ∀ {a b : Value} {r : Bool}, SeqAt.RcNeAt A s a b r → r = decide (c ≠ d) → wpAny (model prog w) A (compareOp .NotEq a b) Q E s := by
    rintro a b r R rfl
    exact R prog w E Q h
  cases c <;> cases d <;> simp only [Cell.val]
  · exact r (SeqAt.RcNeAt.int_int _ _ _ _) (by rw [Bool.eq_iff_iff]; simp)
  · exact r (SeqAt.RcNeAt.int_str _ _ _ _) (by simp)
  · exact r (SeqAt.RcNeAt.int_str _ _ _ _) (by simp)
  · exact r (SeqAt.RcNeAt.int_none _ _) (by simp)
  · exact r (SeqAt.RcNeAt.str_int _ _ _ _) (by simp)
  · exact r (SeqAt.RcNeAt.str_str _ _ _ _) (by simp)
  · exact r (SeqAt.RcNeAt.str_str _ _ _ _) (by decide)
  · exact r (SeqAt.RcNeAt.str_none _ _) (by simp)
  · exact r (SeqAt.RcNeAt.str_int _ _ _ _) (by simp)
  · exact r (SeqAt.RcNeAt.str_str _ _ _ _) (by decide)
  · exact r (SeqAt.RcNeAt.str_str _ _ _ _) (by simp)
  · exact r (SeqAt.RcNeAt.str_none _ _) (by simp)
  · exact r (SeqAt.RcNeAt.none_int _ _) (by simp)
  · exact r (SeqAt.RcNeAt.none_str _ _) (by simp)
  · exact r (SeqAt.RcNeAt.none_str _ _) (by simp)
  · exact r (SeqAt.RcNeAt.none_none) (by simp)
end
end Mine
namespace Mine
theorem News.drop2 {h₀ h : Heap} {L : Addr} {a b : Addr × Obj} {r : Led} (N : News h₀ L h (a :: b :: r)) : News h₀ L h (a :: r) := fun q hq => N q (by rcases List.mem_cons.mp hq with rfl | hq; exact .head _; exact .tail _ (.tail _ hq))
theorem News.drop1 {h₀ h : Heap} {L : Addr} {a : Addr × Obj} {r : Led} (N : News h₀ L h (a :: r)) : News h₀ L h r := fun q hq => N q (.tail _ hq)
end Mine
namespace Mine
section
variable {ex : List Addr} {h₀ : Heap} {L : Addr} {s s₂ : Shared} {J : Nat → (Str → Option Value) → Led → Prop} {J' : (Str → Option Value) → Led → Prop} {Q : Flow → Shared → Prop} {n : Nat} {own : Led} {v : Value}
theorem wstep_brk (h : Q .next s₂) : WStep h₀ L s J Q n .brk s₂ := h
theorem wstep_ret (h : Q (.ret v) s₂) : WStep h₀ L s J Q n (.ret v) s₂ := h
theorem wstep_next {h' : Heap} {tk : Nat} {m' : Str → Option Value} {news' : Led} (n' : Nat) (F : Fr h₀ L h' m') (N : News h₀ L h' news') (hn : n' < n) (hj : J n' m' news') : WStep h₀ L s J Q n .next { s with heap := h', toks := tk } :=
  ⟨h', tk, m', news', n', rfl, F, N, hn, hj⟩
theorem turn_brk (h : Q .next s₂) : Turn h₀ L ex own J' s Q .brk s₂ := h
theorem turn_ret (h : Q (.ret v) s₂) : Turn h₀ L ex own J' s Q (.ret v) s₂ := h
end
end Mine
namespace Mine
section
variable {prog : Program} {w : World} {A : Around} {h₀ : Heap} {L : Addr} {m : Str → Option Value} {env : Env} {elt : Expr} {x : Str} {scope : Scope} {cl : List (Str × Addr)} {s : Shared} {S : Led → Prop} {P : Nat → Value → Prop} {Fin : List Value → Led → Prop} {news : Led}
/-- a list comprehension: J says what the values so far and the ledger are -/
theorem comp_gen {n : Nat} (J : List Value → Led → Prop) (hj : J [] news)
    (turn : ∀ v I oI C oC D m₂ ys nx h tk (E' : Value → Shared → Prop), ys.length < n → P ys.length v → J ys nx → LCg.NsObj oC m₂ → m₂ x = some v → Fr h₀ L h m → News h₀ L h ((I, oI) :: (C, oC) :: (D, LCg.lst ys) :: nx) → LCg.Off3 I C D nx → ((@Ne Nat I C) ∧ (@Ne Nat I D) ∧ (@Ne Nat C D)) →
      wpAny (model prog w) A (eval elt (compEnvC scope cl C env)) (LCg.CompEnd h₀ L m { s with heap := h, toks := tk } I oI C oC D (LCg.lst ys) S (fun y nx' => J (ys ++ [y]) nx')) E' { s with heap := h, toks := tk })
    (fin : ∀ ys nx, ys.length = n → J ys nx → Fin ys nx) : LCg.CompRest prog w A h₀ L m env elt x scope cl s S P Fin n 0 [] news := by
  have key : ∀ (j i : Nat) (ys : List Value) (nx : Led), i + j = n → ys.length = i → J ys nx → LCg.CompRest prog w A h₀ L m env elt x scope cl s S P Fin j i ys nx := by
    intro j
    induction j with
    | zero => exact fun i ys nx hi hl hJ => LCg.CompRest.zero (fin ys nx (by lia) hJ)
    | succ j ih =>
      rintro i ys nx hi rfl hJ
      refine LCg.CompRest.succ ?_
      intro v I oI C oC D m₂ h tk E' hv hC hx F N off ne
      refine wpAny_mono (turn v I oI C oC D m₂ ys nx h tk E' (by lia) hv hJ hC hx F N off ne) (fun y s₂ hq => ?_) fun _ _ e => e
      obtain ⟨h', tk', nw, e, F', N', off', hS, hJ'⟩ := hq
      exact ⟨h', tk', nw, e, F', N', off', hS, ih (ys.length + 1) _ _ (by lia) (by simp) hJ'⟩
  exact key n 0 [] news (by lia) rfl hj
end
end Mine
namespace Mine
theorem noIt_of {o : Obj} {c : String} (h : o.cls = .type c) (hc : (["range_iterator", "list_iterator", "enumerate", "dict_keyiterator", "set_iterator"] : List String).contains c = true := by decide) : noIt o = false := by unfold noIt; rw [h]; simp only [hc]; rfl
theorem pick_from {vs : List Value} {x : Int} (h : 0 ≤ x) : slicePick vs.toArray (some x) none none = (vs.drop x.toNat).toArray := by
  rw [kms_pick_eq]
  congr 1
  unfold kms_pick kms_lo kms_hi
  simp only [if_neg (show ¬ x < 0 by lia)]
  rw [kmk_drop_min, List.take_of_length_le (by rw [List.length_drop]; exact Nat.sub_le_sub_left (Nat.min_le_left _ _) _)]
theorem pick_upto {vs : List Value} {x : Int} (h : 0 ≤ x) : slicePick vs.toArray none (some x) none = (vs.take x.toNat).toArray := by
  rw [kms_pick_eq]
  congr 1
  unfold kms_pick kms_lo kms_hi
  simp only [if_neg (show ¬ x < 0 by lia)]
  rw [List.drop_zero, Nat.sub_zero, kmk_take_min]
section
variable {prog : Program} {w : World} {A : Around} {E : Value → Shared → Prop} {s : Shared} {h₀ : Heap} {L a b : Addr} {m : Str → Option Value} {news : Led} {its its2 : Array Value} {k k2 : Nat} {Q : Value → Shared → Prop}
theorem slice_from {value slice : PySem.Expr} {l : Addr} {vs : List Value} {n : Nat} {x : Int} {t : Tok} (F : Fr h₀ L s.heap m) (N : News h₀ L s.heap news) (hm : (l, ({ cls := .type "list", data := .seq vs.toArray n } : Obj)) ∈ news) (h0 : 0 ≤ x) (hz : vs.length ≤ 10000)
    (h : ∀ D h', Fr h₀ L h' m → News h₀ L h' ((D, listOf (vs.drop x.toNat).toArray 0) :: news) → (∀ p ∈ news, p.1 < D) → Q (.ref D) { s with heap := h' })
    (hs : subscripted slice false (.ref l) (.ref s.heap.objs.size) = operate [.ref s.heap.objs.size, .ref l] (getItem (.ref l) (.ref s.heap.objs.size))) (ht : ∀ r, letTemporaryGo value (.ref l) r = pure ()) :
    wpAny (model prog w) A (subscriptTail value slice (.ref l) (.ref s.heap.objs.size)) Q E { s with heap := s.heap.push { cls := .type "slice", data := .fields #[.int x t, .none, .none] } } := by
  refine kmk_slice F N (News.isList N hm) (.int _ _) .none (fun D h' F' N' l1 => h D h' F' ?_ l1) hs ht (by rw [PySem.sizeLine_eq, List.size_toArray]; lia)
  rw [pick_from h0] at N'
  exact N'
theorem slice_upto {value slice : PySem.Expr} {l : Addr} {vs : List Value} {n : Nat} {x : Int} {t : Tok} (F : Fr h₀ L s.heap m) (N : News h₀ L s.heap news) (hm : (l, ({ cls := .type "list", data := .seq vs.toArray n } : Obj)) ∈ news) (h0 : 0 ≤ x) (hz : vs.length ≤ 10000)
    (h : ∀ D h', Fr h₀ L h' m → News h₀ L h' ((D, listOf (vs.take x.toNat).toArray 0) :: news) → (∀ p ∈ news, p.1 < D) → Q (.ref D) { s with heap := h' })
    (hs : subscripted slice false (.ref l) (.ref s.heap.objs.size) = operate [.ref s.heap.objs.size, .ref l] (getItem (.ref l) (.ref s.heap.objs.size))) (ht : ∀ r, letTemporaryGo value (.ref l) r = pure ()) :
    wpAny (model prog w) A (subscriptTail value slice (.ref l) (.ref s.heap.objs.size)) Q E { s with heap := s.heap.push { cls := .type "slice", data := .fields #[.none, .int x t, .none] } } := by
  refine kmk_slice F N (News.isList N hm) .none (.int _ _) (fun D h' F' N' l1 => h D h' F' ?_ l1) hs ht (by rw [PySem.sizeLine_eq, List.size_toArray]; lia)
  rw [pick_upto h0] at N'
  exact N'
theorem cat_led {vs us : List Value} (F : Fr h₀ L s.heap m) (N : News h₀ L s.heap news) (ha : (a, ({ cls := .type "list", data := .seq vs.toArray k } : Obj)) ∈ news) (hb : (b, ({ cls := .type "list", data := .seq us.toArray k2 } : Obj)) ∈ news)
    (h : ∀ D h', Fr h₀ L h' m → News h₀ L h' ((D, listOf (vs ++ us).toArray 0) :: news) → (∀ p ∈ news, p.1 < D) → Q (.ref D) { s with heap := h' })
    (hz : vs.length + us.length ≤ 10000) : wpAny (model prog w) A (binaryOp .Add (.ref a) (.ref b)) Q E s :=
  kmk_add_lit F N (News.isList N ha) (News.isList N hb) (by simp) h (by rw [PySem.sizeLine_eq]; simp; lia)
end
end Mine
namespace Mine
section
variable {prog : Program} {w : World} {A : Around} {E : Value → Shared → Prop} {s : Shared} {env : Env} {h₀ : Heap} {body : List Stmt} {Q : Flow → Shared → Prop}
/-- the end of a loop, its ways joined -/
noncomputable def WExit (h₀ : Heap) (L : Addr) (s : Shared) (Jd : (Str → Option Value) → Led → Prop) (s₂ : Shared) : Prop :=
  ∃ h' tk m' news', s₂ = { s with heap := h', toks := tk } ∧ Fr h₀ L h' m' ∧ News h₀ L h' news' ∧ Jd m' news'
theorem WExit.mk {L : Addr} {Jd : (Str → Option Value) → Led → Prop} {h' : Heap} {tk : Nat} {m' : Str → Option Value} {news' : Led} (F : Fr h₀ L h' m') (N : News h₀ L h' news') (hj : Jd m' news') : WExit h₀ L s Jd { s with heap := h', toks := tk } :=
  ⟨h', tk, m', news', rfl, F, N, hj⟩
theorem while_done {test : Expr} {pos : Pos} {L : Addr} {m : Str → Option Value} {news : Led} (J : Nat → (Str → Option Value) → Led → Prop) (Jd : (Str → Option Value) → Led → Prop) {n₀ : Nat}
    (F : Fr h₀ L s.heap m) (N : News h₀ L s.heap news) (hJ : J n₀ m news)
    (turn : ∀ n m₁ news₁ h₁ tk₁, Fr h₀ L h₁ m₁ → News h₀ L h₁ news₁ → J n m₁ news₁ →
      wpAny (model prog w) A (isTrue test env (eval test env)) (fun b s₂ =>
        if b = true then wpAny (model prog w) A (execs body env) (WStep h₀ L s J Q n) E s₂ else WExit h₀ L s Jd s₂) E { s with heap := h₁, toks := tk₁ })
    (done : ∀ m₁ news₁ h₁ tk₁, Fr h₀ L h₁ m₁ → News h₀ L h₁ news₁ → Jd m₁ news₁ → Q .next { s with heap := h₁, toks := tk₁ })
    (hE : PassesOwn (model prog w) A env E := by passes_own) :
    wpAny (model prog w) A (exec (.While test body [] pos) env) Q E s := by
  refine while_else J F N hJ (fun n m₁ news₁ h₁ tk₁ F₁ N₁ J₁ => ?_) hE
  refine wpAny_mono (turn n m₁ news₁ h₁ tk₁ F₁ N₁ J₁) (fun b s₂ h₂ => ?_) fun _ _ e => e
  cases b with
  | true => exact h₂
  | false =>
    simp only [Bool.false_eq_true, if_false] at h₂ ⊢
    obtain ⟨h', tk, m', news', rfl, F', N', hj⟩ := h₂
    exact wpAny_execs_nil (done _ _ _ _ F' N' hj)
end
end Mine
end
section
open PySem PySem.W PySem.Spec PySem.Calls PyProof.Rows
set_option maxRecDepth 100000
namespace Mine
section
variable {prog : Program} {w : World} {A : Around} {E : Value → Shared → Prop} {s : Shared}
theorem draw_list {it t : Addr} {items : Array Value} (hne : t ≠ it) : ∀ (n i : Nat) (s : Shared) (Q : List Value → Shared → Prop), s.heap.IsListIter it t i → s.heap.IsList t items → i + n ≤ items.size →
    (∀ h', h'.IsListIter it t (i + n) → Heap.SameBut it s.heap h' → Q ((items.toList.drop i).take n) { s with heap := h' }) → wpAny (model prog w) A (draw (.ref it) n) Q E s
  | 0, i, s, Q, hit, _, _, hQ => by
    show wpAny _ _ (pure []) Q E s
    exact wpAny_pure (by simpa using hQ s.heap hit (Heap.SameBut.refl ..))
  | n + 1, i, s, Q, hit, ht, hle, hQ => by
    have hlt : i < items.size := by lia
    show wpAny _ _ (pyNext (.ref it) >>= _) Q E s
    refine wpAny_bind (wpAny_pyNext_list_item hit ht (x := items[i]) (by simp [hlt]) fun h₁ hit₁ hs₁ => ?_)
    refine wpAny_bind (wpAny_holding (draw_list hne n (i + 1) _ _ hit₁ (ht.extBut hs₁.extBut hne) (by lia) fun h₂ hit₂ hs₂ => wpAny_pure ?_))
    have hd : items.toList.drop i = items[i] :: items.toList.drop (i + 1) := by simp [List.drop_eq_getElem_cons, hlt]
    have := hQ h₂ (by rw [show i + (n + 1) = i + 1 + n by lia]; exact hit₂) (hs₁.trans hs₂)
    rw [hd, List.take_succ_cons] at this
    exact this
theorem unpackItems_list {t : Addr} {items : Array Value} {Q : List Value → Shared → Prop} (hh : A.handled = none) (ht : s.heap.IsList t items)
    (hQ : ∀ h', Heap.ExtBut s.heap.objs.size s.heap h' → Q items.toList { s with heap := h' }) : wpAny (model prog w) A (unpackItems (.ref t) items.size none) Q E s := by
  have hlt : t ≠ s.heap.objs.size := by obtain ⟨o, ho, _⟩ := ht; exact Nat.ne_of_lt (Heap.lt_size ho)
  have hp : ∀ {o : Obj}, (s.heap.push o).IsList t items := fun {o} => by
    obtain ⟨ol, h1, h2⟩ := ht
    exact ⟨ol, Heap.get?_push_of_some _ h1, h2⟩
  unfold unpackItems
  refine wpAny_bind ?_
  · unfold notIterableAtAll
    refine wpAny_bind (wpAny_specialOf ht.typeIs slot_list_iter.lookup ?_)
    refine wpAny_pure ?_
    simp only [Bool.false_eq_true, if_false]
    refine wpAny_bind (wpAny_holding (wpAny_pyIter_list ht ?_))
    refine wpAny_bind (wpAny_holding (draw_list hlt items.size 0 _ _ ⟨_, Heap.get?_push_size _ rfl, rfl, rfl⟩ hp (by lia) fun h₁ hit₁ hs₁ => ?_))
    have hall : List.take items.size (List.drop 0 items.toList) = items.toList := by
      rw [List.drop_zero]; exact List.take_of_length_le (by simp)
    rw [hall]
    rw [if_neg (by simp)]
    have ht₁ : h₁.IsList t items := Heap.IsList.extBut hp hs₁.extBut hlt
    refine wpAny_bind (wpAny_holding (wpAny_pyNext_list_end hh hit₁ ht₁ (by simp) fun h₂ he₂ => ?_))
    simp only [Option.isSome_none, Bool.false_eq_true, if_false]
    refine wpAny_pure (hQ h₂ fun b o hb e => he₂ b o hb (hs₁.extBut b o hb (Heap.get?_push_of_some _ e)))
variable {h₀ : Heap} {L : Addr} {m : Str → Option Value} {news : Led} {env : Env}
theorem unpackN_list {elts : List Expr} {k} {pos : Pos} {t : Addr} {items : Array Value} {n : Nat} {Q : Unit → Shared → Prop} (F : Fr h₀ L s.heap m) (N : News h₀ L s.heap news) (ht : (t, ({ cls := .type "list", data := .seq items n } : Obj)) ∈ news)
    (hh : A.handled = none) (hn : (assignEach elts env).length = items.size) (hstar : (assignEach elts env).findIdx? (·.1) = none)
    (h : ∀ h', Fr h₀ L h' m → News h₀ L h' news → wpAny (model prog w) A (assignInOrder ((assignEach elts env).map (·.2)) items.toList) Q E { s with heap := h' }) :
    wpAny (model prog w) A (assign (.Tuple elts k pos) env (.ref t)) Q E s := by
  rw [assign_Tuple]
  refine wpAny_bind (wpAny_standAt ?_)
  unfold unpack
  rw [hn, hstar]
  exact wpAny_bind (wpAny_holding (unpackItems_list hh (News.isList N ht) fun h' he => h h' (F.extBut he (Nat.le_refl _)) (N.extBut he (Nat.le_refl _))))
end
/-- a list of blocks: lists of three numbers of the ledger -/
noncomputable def BsAre (nw : Led) (bs : List Value) (ts : List Tri) : Prop :=
  bs.length = ts.length ∧ ∀ (i : Nat) (t : Tri), ts[i]? = some t → ∃ a t1 t2 t3, bs[i]? = some (.ref a) ∧ (a, listOf [Value.int t.1 t1, .int t.2.1 t2, .int t.2.2 t3].toArray 0) ∈ nw
theorem BsAre.nil {nw : Led} : BsAre nw [] [] := ⟨rfl, fun _ _ h => by simp at h⟩
theorem BsAre.mono {nw nw' : Led} {bs : List Value} {ts : List Tri} (h : BsAre nw bs ts) (e : ∀ p ∈ nw, p ∈ nw') : BsAre nw' bs ts := ⟨h.1, fun i t ht => by
  obtain ⟨a, t1, t2, t3, q1, q2⟩ := h.2 i t ht
  exact ⟨a, t1, t2, t3, q1, e _ q2⟩⟩
theorem BsAre.append {nw : Led} {a b : List Value} {c d : List Tri} (h : BsAre nw a c) (g : BsAre nw b d) : BsAre nw (a ++ b) (c ++ d) := by
  refine ⟨by simp [h.1, g.1], fun i x hx => ?_⟩
  by_cases q : i < c.length
  · rw [List.getElem?_append_left q] at hx
    obtain ⟨a', u⟩ := h.2 i x hx
    exact ⟨a', by rw [List.getElem?_append_left (by rw [h.1]; exact q)]; exact u⟩
  · rw [List.getElem?_append_right (by lia)] at hx
    obtain ⟨a', u⟩ := g.2 _ x hx
    exact ⟨a', by rw [List.getElem?_append_right (by rw [h.1]; lia), h.1]; exact u⟩
theorem BsAre.one {nw : Led} {a : Addr} {x y z : Int} {t : Tri} {t1 t2 t3 : Tok} (h : (a, listOf [Value.int x t1, .int y t2, .int z t3].toArray 0) ∈ nw) (hx : x = t.1) (hy : y = t.2.1) (hz : z = t.2.2) : BsAre nw [.ref a] [t] := by
  subst hx hy hz
  exact ⟨rfl, fun i u hu => by
    cases i with
    | zero => simp at hu; subst hu; exact ⟨a, t1, t2, t3, rfl, h⟩
    | succ i => simp at hu⟩
end Mine
end
section
open PySem PySem.W PySem.Spec PySem.Calls PyProof.Rows
set_option maxRecDepth 100000
namespace Mine
section
variable {prog : Program} {w : World} {A : Around} {E : Value → Shared → Prop} {s : Shared} {env : Env} {h₀ : Heap} {target : Expr} {body : List Stmt} {Q : Flow → Shared → Prop}
theorem rest_of (ex : List Addr) {I : Addr} {c : String} (hcl : (["range_iterator", "list_iterator", "enumerate", "dict_keyiterator", "set_iterator"] : List String).contains c = true) {keep : Led} {xs : List Itm} (J : Nat → (Str → Option Value) → Led → Prop)
    (hk : ∀ i m nx, J i m nx → SubL keep nx) (hx : I ∉ ex)
    (turn : ∀ i a v m₁ news₁ it h tk, xs[i]? = some a → a.Is v h → J i m₁ news₁ → NoIt ex news₁ → Fr h₀ env.locals h m₁ → News h₀ env.locals h ((I, it) :: news₁) → (∀ p ∈ news₁, p.1 ≠ I) →
      wpAny (model prog w) A (assign target env v) (fun _ s₂ => wpAny (model prog w) A (execs body env) (Turn h₀ env.locals ex [(I, it)] (J (i + 1)) { s with heap := h, toks := tk } Q) E s₂) E { s with heap := h, toks := tk })
    (done : ∀ m₁ news₁ h tk, J xs.length m₁ news₁ → NoIt ex news₁ → Fr h₀ env.locals h m₁ → News h₀ env.locals h news₁ → Q .next { s with heap := h, toks := tk }) :
    ∀ (k i : Nat) m news, i + k = xs.length → J i m news → NoIt ex news → ItemsRest prog w A E h₀ env target body Q s [(I, c)] keep (xs.drop i) m news := by
  intro k
  induction k with
  | zero =>
    intro i m news hi hJ hn
    rw [List.drop_of_length_le (by lia)]
    exact ItemsRest.zero fun h tk F N => done m news h tk (by rw [← hi]; exact hJ) hn F N
  | succ k ih =>
    intro i m news hi hJ hn
    have hlt : i < xs.length := by lia
    rw [List.drop_eq_getElem_cons hlt]
    intro v h tk hv F
    refine AllObj.cons fun it hit => AllObj.nil fun N => ?_
    have hi' : noIt it = false := noIt_of hit hcl
    have N' : News h₀ env.locals h ((I, it) :: news) := N
    have hoff := hn.off hi' hx (News.drop1 N') (N' (I, it) (.head _)).1
    refine wpAny_mono (turn i _ v m news it h tk (List.getElem?_eq_getElem hlt) hv hJ hn F N' hoff) (fun _ s₂ h₂ => wpAny_mono h₂ (fun f s₃ p => ?_) fun _ _ e => e) fun _ _ e => e
    have fin : (∃ h' tk' m' news', s₃ = { { s with heap := h, toks := tk } with heap := h', toks := tk' } ∧ Fr h₀ env.locals h' m' ∧ News h₀ env.locals h' ([(I, it)] ++ news') ∧ NoIt ex news' ∧ J (i + 1) m' news') →
        UnrEndW h₀ env.locals { s with heap := h, toks := tk } [(I, it)] (fun m' n' => SubL keep n' ∧ ItemsRest prog w A E h₀ env target body Q s [(I, c)] keep (xs.drop (i + 1)) m' n') s₃ := by
      rintro ⟨h', tk', m', news', e, F', N', hn', hj'⟩
      refine ⟨h', tk', m', news', e, F', N', fun p hp q hq => ?_, hk _ _ _ hj', ih (i + 1) m' news' (by lia) hj' hn'⟩
      rw [List.mem_singleton.mp hq]
      exact hn'.off hi' hx (fun r hr => N' r (List.mem_append_right _ hr)) (N' (I, it) (List.mem_append_left _ (.head _))).1 p hp
    cases f with
    | ret v => exact p
    | brk => exact p
    | next => exact fin p
    | cont => exact fin p
/-- for target in l, l a list of the ledger -/
theorem turns_list (ex : List Addr) {ax : Addr} {vs : List Value} {k : Nat} {m₀ : Str → Option Value} {news : Led} (J : Nat → (Str → Option Value) → Led → Prop)
    (hh : A.handled = none) (F : Fr h₀ env.locals s.heap m₀) (N : News h₀ env.locals s.heap news) (hm : (ax, listOf vs.toArray k) ∈ news) (hk : ∀ i m nx, J i m nx → (ax, listOf vs.toArray k) ∈ nx) (hc : NoIt ex news) (hj : J 0 m₀ news)
    (turn : ∀ i v m₁ news₁ I it h tk, vs[i]? = some v → J i m₁ news₁ → NoIt ex news₁ → Fr h₀ env.locals h m₁ → News h₀ env.locals h ((I, it) :: news₁) → (∀ p ∈ news₁, p.1 ≠ I) →
      wpAny (model prog w) A (assign target env v) (fun _ s₂ => wpAny (model prog w) A (execs body env) (Turn h₀ env.locals ex [(I, it)] (J (i + 1)) { s with heap := h, toks := tk } Q) E s₂) E { s with heap := h, toks := tk })
    (done : ∀ m₁ news₁ h tk, J vs.length m₁ news₁ → NoIt ex news₁ → Fr h₀ env.locals h m₁ → News h₀ env.locals h news₁ → Q .next { s with heap := h, toks := tk }) :
    wpAny (model prog w) A (pyIter (.ref ax)) (fun it s₂ => TurnsAt prog w A h₀ env target body Q E it s₂) E s := by
  refine iter_listTurns hh F N hm rfl rfl fun I hI => ?_
  have hx : I ∉ ex := fun hm' => by
    obtain ⟨o, ho⟩ := hc.2 _ hm'
    exact Nat.lt_irrefl _ (hI _ ho)
  have := rest_of (prog := prog) (w := w) (A := A) (E := E) (s := s) (env := env) (h₀ := h₀) (target := target) (body := body) (Q := Q) ex (I := I) (c := "list_iterator") (by decide) (keep := [(ax, listOf vs.toArray k)]) (xs := vs.map .val) J (fun i m nx h => ⟨hk i m nx h, trivial⟩) hx
    (fun i a v m₁ news₁ it h tk ha hv hJ hn F₁ N₁ ho => by
      rw [List.getElem?_map] at ha
      cases hq : vs[i]? with
      | none => rw [hq] at ha; cases ha
      | some u =>
        rw [hq] at ha
        cases ha
        have e : v = u := hv
        subst e
        exact turn i v m₁ news₁ I it h tk hq hJ hn F₁ N₁ ho)
    (fun m₁ news₁ h tk hJ => done m₁ news₁ h tk (by rwa [List.length_map] at hJ)) (vs.map Itm.val).length 0 m₀ news (by simp) hj hc
  exact this
end
end Mine
end
section
namespace Mine
noncomputable def TLe (A B : Nat) (t : Tri) : Prop := t.1 + t.2.2 ≤ A ∧ t.2.1 + t.2.2 ≤ B
theorem join_le {A B : Nat} {d : List Tri} {t : Tri} (h : ∀ u ∈ d, TLe A B u) (ht : TLe A B t) : ∀ u ∈ join d t, TLe A B u := by
  rcases List.eq_nil_or_concat d with rfl | ⟨d', v, rfl⟩
  · rw [join_nil]
    intro u hu
    rw [List.mem_singleton.mp hu]; exact ht
  · rw [List.concat_eq_append, join_snoc]
    rw [List.concat_eq_append] at h
    have hv := h v (by simp)
    split
    · rename_i c
      intro u hu
      rcases List.mem_append.mp hu with hu | hu
      · exact h u (List.mem_append_left _ hu)
      · rw [List.mem_singleton.mp hu]
        unfold TLe at ht ⊢
        simp only
        lia
    · intro u hu
      rcases List.mem_append.mp hu with hu | hu
      · exact h u hu
      · rw [List.mem_singleton.mp hu]; exact ht
theorem fold_le {A B : Nat} : ∀ (out d : List Tri), (∀ u ∈ out, TLe A B u) → (∀ u ∈ d, TLe A B u) → ∀ u ∈ out.foldl join d, TLe A B u
  | [], _, _, h => h
  | t :: r, d, ho, h => fold_le r (join d t) (fun u hu => ho u (.tail _ hu)) (join_le h (ho t (.head _)))
theorem RB.le {jk : Option Int} {xs ys : List Int} {out : List Tri} (h : RB jk xs ys out) : ∀ u ∈ out, TLe xs.length ys.length u := fun u hu => (h.facts.1 u hu).2
end Mine
end
section
open PySem PySem.W PySem.Spec PySem.Calls PyProof.Rows
set_option maxRecDepth 100000
namespace Mine
/-! blocks as data -/
noncomputable def triD (t : Tri) : PyData := .list [.int t.1, .int t.2.1, .int t.2.2]
theorem triD_canLay : ∀ ts : List Tri, PyData.canLayAll0 (ts.map triD) = true
  | [] => rfl
  | _ :: r => by simp [PyData.canLayAll0, PyData.canLay0, triD, triD_canLay r]
theorem triD_depth : ∀ ts : List Tri, PyData.depthAll (ts.map triD) ≤ 2
  | [] => Nat.zero_le _
  | t :: r => by
    have := triD_depth r
    simp only [List.map_cons, PyData.depthAll, PyData.depth, triD]
    lia
theorem trisD_shaped (ts : List Tri) : SeqAt.shaped (.list (ts.map triD)) = true := by
  have := triD_depth ts
  simp only [SeqAt.shaped, PyData.canLay0, PyData.depth, triD_canLay, Bool.true_and]
  exact decide_eq_true (by lia)
theorem triD_eqv (t u : Tri) : PyData.eqv (triD t) (triD u) = decide (t = u) := by
  obtain ⟨a, b, c⟩ := t
  obtain ⟨d, e, f⟩ := u
  unfold triD
  simp only [PyData.eqv, PyData.eqvAll, Bool.and_true]
  rw [Bool.eq_iff_iff]
  simp only [Bool.and_eq_true, beq_iff_eq, decide_eq_true_eq, Prod.mk.injEq]
  lia
theorem trisD_eqvAll : ∀ ts us : List Tri, PyData.eqvAll (ts.map triD) (us.map triD) = decide (ts = us)
  | [], [] => by simp [PyData.eqvAll]
  | [], _ :: _ => by simp [PyData.eqvAll]
  | _ :: _, [] => by simp [PyData.eqvAll]
  | a :: r, b :: t => by
    simp only [List.map_cons, PyData.eqvAll, triD_eqv, trisD_eqvAll r t]
    by_cases h : a = b <;> by_cases h' : r = t <;> simp [h, h']
theorem trisD_eqv (ts us : List Tri) : PyData.eqv (.list (ts.map triD)) (.list (us.map triD)) = decide (ts = us) := by
  simp only [PyData.eqv]; exact trisD_eqvAll ts us
theorem BsAre.tail {nw : Led} {b : Value} {bs : List Value} {t : Tri} {ts : List Tri} (h : BsAre nw (b :: bs) (t :: ts)) : (∃ a t1 t2 t3, b = .ref a ∧ (a, listOf [Value.int t.1 t1, .int t.2.1 t2, .int t.2.2 t3].toArray 0) ∈ nw) ∧ BsAre nw bs ts := by
  refine ⟨?_, by have := h.1; simpa using this, fun i u hu => h.2 (i + 1) u (by simpa using hu)⟩
  obtain ⟨a, t1, t2, t3, q1, q2⟩ := h.2 0 t rfl
  exact ⟨a, t1, t2, t3, Option.some.inj q1, q2⟩
theorem BsAre.reads {h₀ h : Heap} {L : Addr} {nw : Led} (N : News h₀ L h nw) : ∀ {bs : List Value} {ts : List Tri}, BsAre nw bs ts → ∃ as, ReadsAll h bs (ts.map triD) as
  | [], [], _ => ⟨_, .nil⟩
  | [], _ :: _, h => absurd h.1 (by simp)
  | _ :: _, [], h => absurd h.1 (by simp)
  | b :: bs, t :: ts, h => by
    obtain ⟨⟨a, t1, t2, t3, rfl, hm⟩, h2⟩ := h.tail
    obtain ⟨as, r⟩ := BsAre.reads N h2
    exact ⟨_, .cons (reads_list_at (News.get N hm) rfl rfl (.cons (.int _ _) (.cons (.int _ _) (.cons (.int _ _) .nil)))) r⟩
theorem BsAre.read {h₀ h : Heap} {L a : Addr} {nw : Led} (N : News h₀ L h nw) {bs : List Value} {ts : List Tri} {n : Nat} (hm : (a, listOf bs.toArray n) ∈ nw) (hb : BsAre nw bs ts) : ∃ as, Reads h (.ref a) (.list (ts.map triD)) as :=
  let ⟨as, r⟩ := hb.reads N
  ⟨_, reads_list_at (News.get N hm) rfl rfl (by simpa using r)⟩
section
variable {prog : Program} {w : World} {A : Around} {E : Value → Shared → Prop} {s : Shared} {h₀ : Heap} {L : Addr} {m : Str → Option Value} {news : Led} {a b : Addr} {bs cs : List Value} {ts us : List Tri} {n k : Nat} {Q : Value → Shared → Prop}
theorem eq_tris (N : News h₀ L s.heap news) (ha : (a, listOf bs.toArray n) ∈ news) (hb : (b, listOf cs.toArray k) ∈ news) (ht : BsAre news bs ts) (hv : BsAre news cs us) (hu : A.units + 64 < cLine) (h : Q (.bool (decide (ts = us))) s) :
    wpAny (model prog w) A (compareOp .Eq (.ref a) (.ref b)) Q E s :=
  let ⟨_, r⟩ := ht.read N ha
  let ⟨_, r'⟩ := hv.read N hb
  eq_dataH r r' (trisD_shaped _) (trisD_shaped _) hu (by rw [trisD_eqv]; exact h)
theorem ne_tris (N : News h₀ L s.heap news) (ha : (a, listOf bs.toArray n) ∈ news) (hb : (b, listOf cs.toArray k) ∈ news) (ht : BsAre news bs ts) (hv : BsAre news cs us) (hu : A.units + 64 < cLine) (h : Q (.bool (!decide (ts = us))) s) :
    wpAny (model prog w) A (compareOp .NotEq (.ref a) (.ref b)) Q E s :=
  let ⟨_, r⟩ := ht.read N ha
  let ⟨_, r'⟩ := hv.read N hb
  ne_dataH r r' (trisD_shaped _) (trisD_shaped _) hu (by rw [trisD_eqv]; exact h)
/-- the last item of a list of the ledger -/
theorem item_last {value slice : PySem.Expr} {l : Addr} {vs : List Value} {x : Value} {n : Nat} {u : Tok} {Q : Value → Shared → Prop} (N : News h₀ L s.heap news) (hm : (l, listOf (vs ++ [x]).toArray n) ∈ news) (hz : vs.length ≤ 10000) (h : Q x s)
    (hs : subscripted slice false (.ref l) (.int (-1) u) = operate [.ref l, .int (-1) u] (getItem (.ref l) (.int (-1) u)) := by with_unfolding_all rfl) (hg : ∀ r, letTemporaryGo value (.ref l) r = pure () := by intro _; with_unfolding_all rfl) :
    wpAny (model prog w) A (subscriptTail value slice (.ref l) (.int (-1) u)) Q E s :=
  kim_back (l := vs ++ [x]) N hm rfl rfl (by decide) (by simp; lia) (by decide) (by rw [show (-1 + (((vs ++ [x]).length : Nat) : Int)).toNat = vs.length by rw [List.length_append, List.length_singleton]; lia]; simp) h hs hg
end
/-- blocks of the ledger, the newest first -/
inductive BlkL : Led → List Value → List Tri → Prop
  | nil : BlkL [] [] []
  | snoc {nl : Led} {bs : List Value} {ts : List Tri} {a : Addr} {x y z : Nat} {t1 t2 t3 : Tok} : BlkL nl bs ts → (∀ p ∈ nl, p.1 < a) →
      BlkL ((a, listOf [Value.int x t1, .int y t2, .int z t3].toArray 0) :: nl) (bs ++ [.ref a]) (ts ++ [(x, y, z)])
theorem BlkL.noIt {nl : Led} {bs : List Value} {ts : List Tri} (h : BlkL nl bs ts) : ∀ p ∈ nl, noIt p.2 = true := by
  induction h with
  | nil => intro _ h; cases h
  | snoc _ _ ih =>
    intro p hp
    rcases List.mem_cons.mp hp with rfl | hp
    · rfl
    · exact ih p hp
theorem BlkL.bs {nl : Led} {bs : List Value} {ts : List Tri} (h : BlkL nl bs ts) : BsAre nl bs ts := by
  induction h with
  | nil => exact BsAre.nil
  | snoc _ _ ih => exact (ih.mono fun p hp => .tail _ hp).append (BsAre.one (.head _) rfl rfl rfl)
end Mine
end
section
open PySem PySem.W PySem.Spec PySem.Calls PyProof.Rows
set_option maxRecDepth 100000
set_option maxHeartbeats 4000000
namespace Mine
section
variable {w : World} {A : Around} {E : Value → Shared → Prop} {s : Shared} {h : Heap} {R : Result → Shared → Prop} {g : Array GenState} {d : Drawn} {t : Nat} {os : OsState}
abbrev M0 (w : World) : Model := model (OpenLaw.prog PySem.Challenge.rw_pg0326_01) w
theorem fill0 (w : World) : OpenLaw.prog PySem.Challenge.rw_pg0326_01 = OpenLaw.prog PySem.Challenge.rw_pg0326_01 ∧ KF w.params = KF w.params := by
  w_on
  k_fill
  exact ⟨rfl, rfl⟩
theorem k135 (X : (KF w.params).In h) : h.get? 135 = some (ob135 w.params) := X _ _ rfl
theorem find_init (X : (KF w.params).In h) : Looks (M0 w) h (typeLookup (.ref 135) "__init__") (some (.builtin "object.__init__")) := looks_findIn X (by w_on; k_is)
theorem sub_tup (X : (KF w.params).In h) : Looks (M0 w) h (isSubtype (.ref 135) (.type "tuple")) true := looks_subIn X (by w_on; k_is)
theorem sub_self (X : (KF w.params).In h) : Looks (M0 w) h (isSubtype (.ref 135) (.ref 135)) true := looks_subIn X (by w_on; k_is)
theorem sub_obj (X : (KF w.params).In h) : Looks (M0 w) h (isSubtype (.ref 135) (.type "object")) true := looks_subIn X (by w_on; k_is)
theorem inst_type (X : (KF w.params).In h) : Looks (M0 w) h (isInstance (.ref 135) (.type "type")) true := looks_instIn X (by w_on; k_is)
theorem cls135 (w : World) : clsIn (KF w.params) 135 = some (ClassData.mk "Match" [(.type "tuple")] [(.ref 135), (.type "tuple"), (.type "object")] 134 "Match" false [] [] false none false) := by unfold clsIn; rfl
theorem mro135 (X : (KF w.params).In h) : Looks (M0 w) h (mroOf (.ref 135)) [.ref 135, .type "tuple", .type "object"] := (looks_clsIn X (cls135 w)).andThen .now
theorem madeBy135 (X : (KF w.params).In h) : Looks (M0 w) h (Bind.madeBy (.ref 135)) none := by
  intro A Q E s k q
  unfold Bind.madeBy
  refine wpAny_bind (mro135 X A _ E s k ?_)
  rw [List.forIn_cons]
  refine wpAny_bind (wpAny_bind (wpAny_bind (wpAny_bind (wpAny_loadPart (k _ _ (k135 X)) (wpAny_pure ?_)))))
  exact wpAny_pure (wpAny_pure (wpAny_pure q))
theorem solid_tuple : Builtin.Slots.bestBase [.type "tuple"] = pure (.type "tuple") := by kernel_rfl
theorem static135 (X : (KF w.params).In h) : Looks (M0 w) h (Bind.staticBase (.ref 135)) (.type "tuple") := by
  intro A Q E s k q
  unfold Bind.staticBase
  refine wpAny_bind (mro135 X A _ E s k ?_)
  rw [List.forIn_cons]
  refine wpAny_bind (wpAny_bind (wpAny_bind (madeBy135 X A _ E s k ?_)))
  simp only [Option.isSome_none, Bool.false_eq_true, if_false]
  refine wpAny_bind (looks_clsIn X (cls135 w) A _ E s k ?_)
  dsimp only
  rw [solid_tuple]
  refine wpAny_bind (wpAny_pure (wpAny_pure ?_))
  dsimp only
  rw [List.forIn_cons, PySem.F.called_tuple.made]
  exact wpAny_bind (wpAny_bind (wpAny_pure (wpAny_pure (wpAny_pure (wpAny_pure q)))))
theorem here135 (X : (KF w.params).In h) : Looks (M0 w) h (Bind.madeHere "tuple.__new__" (.ref 135)) () := by
  unfold Bind.madeHere
  refine (static135 X).andThen ?_
  rw [PySem.F.called_tuple.made]
  exact Looks.of_pure (by kernel_rfl)
theorem tn_kind : builtinKind "tuple.__new__" = some .builtinFn := by decide +kernel
theorem tn_split : splitId "tuple.__new__" = some ("tuple", "__new__") := by decide +kernel
theorem tup_new {T : Addr} {o : Obj} {items : Array Value} {n : Nat} (X : (KF w.params).In h) (ho : h.get? T = some o) (hc : o.cls = .type "tuple") (hd : o.data = .seq items n) (hz : items.size ≤ sizeLine)
    (hq : ∀ h' : Heap, (∀ b o', h.get? b = some o' → h'.get? b = some o') → R (.ok (.ret (.ref (h'.objs.size + 1)))) ⟨(h'.push emptyDict).push { cls := .ref 135, dict := some h'.objs.size, data := .seq items }, g, d, t, os⟩) :
    codeAny (M0 w) A (.call (.builtin "tuple.__new__") ⟨[.ref 135, .ref T], []⟩) R ⟨h, g, d, t, os⟩ := by
  have f1 := find_init X
  have f2 := sub_tup X
  have f3 := k135 X
  have f4 := here135 X
  have f5 := inst_type X
  refine codeAny_call_builtin (by decide +kernel) F.entry_tuple_new ?_
  unfold checkBuiltinCall
  simp only [tn_kind, tn_split]
  have f6 := static135 X
  have f7 : Looks (M0 w) h (Bind.madeBy (.type "tuple")) (some "tuple.__new__") := Looks.of_pure PySem.F.called_tuple.made
  repeat (first | with_reducible refine wpAny_collect_seq T (.inr rfl) ho hc hd (fun h' hk => ?_) hz | lk)
  have f8 : h'.get? 135 = some (ob135 w.params) := hk _ _ f3
  simp only [Array.toArray_toList]
  rw [if_neg (Nat.not_lt.mpr hz)]
  show wpAny _ _ (newObjAsIs _ _ _) _ _ _
  unfold newObjAsIs classHasDel
  refine wpAny_bind (wpAny_alloc (wpAny_bind (wpAny_bind (wpAny_load (Heap.get?_push_of_some _ (Heap.get?_push_of_some _ f8)) (wpAny_pure ?_)))))
  refine wpAny_pure (wpAny_pure ?_)
  show R _ _
  rw [Heap.size_push]
  exact hq h' hk
noncomputable abbrev matchO (d : Addr) (items : Array Value) : Obj := { cls := .ref 135, dict := some d, data := .seq items }
theorem tup_led {h₀ : Heap} {L D : Addr} {m : Str → Option Value} {news : Led} {items : Array Value} {n : Nat} {Q : Value → Shared → Prop} (F : Fr h₀ L s.heap m) (N : News h₀ L s.heap news) (X₀ : (KF w.params).In h₀)
    (hm : (D, ({ cls := .type "tuple", data := .seq items n } : Obj)) ∈ news) (hz : items.size ≤ sizeLine)
    (hq : ∀ x d h', Fr h₀ L h' m → News h₀ L h' ((x, matchO d items) :: (d, emptyDict) :: news) → (∀ p ∈ news, p.1 < d) → d < x → Q (.ref x) { s with heap := h' }) :
    wpAny (M0 w) A (call (.builtin "tuple.__new__") [.ref 135, .ref D]) Q E s := by
  obtain ⟨hh, g, d, t, os⟩ := s
  refine wpAny_call (tup_new (X₀.keeps F.keep) (N _ hm).1 rfl rfl hz fun h' hk => ?_)
  have F' : Fr h₀ L h' m := F.keeps hk
  have N' : News h₀ L h' news := N.grown hk
  have N2 := (N'.push F' emptyDict).push (F'.push _) (matchO h'.objs.size items)
  rw [Heap.size_push] at N2
  exact hq _ h'.objs.size _ ((F'.push _).push _) N2 (fun p hp => Heap.lt_size (N' p hp).1) (Nat.lt_succ_self _)
end
end Mine
end
section
open PySem PySem.W PySem.Spec PySem.Calls PyProof.Rows
set_option maxRecDepth 100000
set_option maxHeartbeats 4000000
namespace Mine
section
variable {w : World} {A : Around} {E : Value → Shared → Prop} {s : Shared} {h : Heap} {R : Result → Shared → Prop} {g : Array GenState} {d : Drawn} {t : Nat} {os : OsState}
theorem gi_kind : builtinKind "tuple.__getitem__" = some .slot := by decide +kernel
theorem gi_split : splitId "tuple.__getitem__" = some ("tuple", "__getitem__") := by decide +kernel
theorem gi_plain : plainId "tuple.__getitem__" = true := by decide +kernel
theorem item_match {x dx : Addr} {items : Array Value} {k : Int} {u : Tok} {j : Nat} {v : Value} (X : (KF w.params).In h) (hx : h.get? x = some (matchO dx items)) (h0 : 0 ≤ k) (h1 : k < 2 ^ 62) (hj : seqIndex? k items.size = some j) (hv : items[j]? = some v)
    (hq : R (.ok (.ret v)) ⟨h, g, d, t, os⟩) : codeAny (M0 w) A (.call (.builtin "tuple.__getitem__") ⟨[.ref x, .int k u], []⟩) R ⟨h, g, d, t, os⟩ := by
  have t1 : Looks (M0 w) h (typeOf (.ref x)) (.ref 135) := (Looks.ld hx).andThen .now
  have t2 : Looks (M0 w) h (isInstance (.ref x) (.type "tuple")) true := t1.andThen (sub_tup X)
  refine codeAny_call_builtin gi_plain PySem.F.entry_tuple_getitem ?_
  refine @check_slot (M0 w) _ _ _ "tuple.__getitem__" "tuple" "__getitem__" (.ref x) [.int k u] [] _ gi_kind gi_split t2 (PySem.F.args_tuple_getitem_2 _ _) ?_
  unfold Builtin.«tuple.__getitem__»
  have t3 : Looks (M0 w) h (typeOf (.int k u)) (.type "int") := Looks.of_pure rfl
  iterate 9 lk
  unfold Builtin.Tuple.tupleItemsOf seqItems?
  iterate 14 lk
  have t4 : Looks (M0 w) h (specialOf (.int k u) (Str.ofString "__index__")) (some (.builtin "int.__index__")) := t3.andThen (Looks.of_pure AutoSeq1.idx_int)
  have t5 : Looks (M0 w) h (asIndex (.int k u)) k := Looks.of_pure rfl
  refine t4.at ?_
  iterate 3 lk
  rw [if_neg (by simp; lia), hj]
  simp only [Option.bind_some, hv]
  exact wpAny_pure hq
theorem check_fn {M : Model} {id : String} {args : List Value} {Q : Unit → Shared → Prop} (kind : builtinKind id = none) (ok : argsOk id ⟨args, []⟩) (h : Q () s) : wpAny M A (checkBuiltinCall id ⟨args, []⟩) Q E s := by
  simp only [checkBuiltinCall, kind]
  cases hsig : Manifest.signature? id with
  | none => exact wpAny_pure h
  | some sig =>
    simp only [argsOk, hsig] at ok
    have h2 : Bind.checkArgs id sig ⟨args, []⟩ = pure () := ok
    show wpAny _ _ (Bind.checkArgs id sig ⟨args, []⟩) _ _ s
    rw [h2]; exact wpAny_pure h
theorem sub_match (X : (KF w.params).In h) (hq : R (.ok (.ret (.bool true))) ⟨h, g, d, t, os⟩) : codeAny (M0 w) A (.call (.builtin "issubclass") ⟨[.ref 135, .type "tuple"], []⟩) R ⟨h, g, d, t, os⟩ := by
  have f1 := sub_tup X
  refine codeAny_call_builtin PySem.F.plain_issubclass PySem.F.entry_issubclass (check_fn PySem.F.kind_issubclass (PySem.F.args_issubclass_2 _ _) ?_)
  have f2 : Looks (M0 w) h (typeOf (.type "tuple")) (.type "type") := Looks.of_pure (by kernel_rfl)
  refine issubclass_outer ?_
  unfold Builtin.«issubclass.nested»
  have f3 := k135 X
  repeat lk
  exact hq
end
end Mine
end
section
open PySem PySem.W PySem.Spec PySem.Calls PyProof.Rows
set_option maxRecDepth 100000
set_option maxHeartbeats 4000000
namespace Mine
theorem fill7 (w : World) : OpenLaw.prog PySem.Challenge.rw_pg0326_01 = OpenLaw.prog PySem.Challenge.rw_pg0326_01 ∧ KF w.params = KF w.params := by
  w_on
  k_fill
  exact ⟨rfl, rfl⟩
section
variable {w : World} {A : Around} {E : Value → Shared → Prop} {s : Shared} {h : Heap} {R : Result → Shared → Prop} {g : Array GenState} {d : Drawn} {t : Nat} {os : OsState}
theorem find_ga (X : (KF w.params).In h) : Looks (M0 w) h (typeLookup (.ref 135) "__getattribute__") (some (.builtin "tuple.__getattribute__")) := looks_findIn X (by w_on; k_is)
theorem find_gx (X : (KF w.params).In h) : Looks (M0 w) h (typeLookup (.ref 135) "__getattr__") none := looks_findIn X (by w_on; k_is)
theorem fo_a (w : World) : findObj (KF w.params) 135 (some emptyDict) "a" = some (.bind (.ref 43) (.ref 124)) := findObj_data (by rfl) (by w_on; k_is) (by w_on; k_is) (by w_on; k_is)
theorem fo_b (w : World) : findObj (KF w.params) 135 (some emptyDict) "b" = some (.bind (.ref 43) (.ref 127)) := findObj_data (by rfl) (by w_on; k_is) (by w_on; k_is) (by w_on; k_is)
theorem fo_c (w : World) : findObj (KF w.params) 135 (some emptyDict) "size" = some (.bind (.ref 43) (.ref 130)) := findObj_data (by rfl) (by w_on; k_is) (by w_on; k_is) (by w_on; k_is)
theorem tga_kind : builtinKind "tuple.__getattribute__" = some .slot := by decide +kernel
theorem tga_split : splitId "tuple.__getattribute__" = some ("tuple", "__getattribute__") := by decide +kernel
theorem tga_plain : plainId "tuple.__getattribute__" = true := by decide +kernel
theorem get_match {x dx : Addr} {items : Array Value} {name : Str} {gg a : Value} {expr : Bool} {Q : Value → Shared → Prop} (X : (KF w.params).In s.heap) (hx : s.heap.get? x = some (matchO dx items)) (hdx : s.heap.get? dx = some emptyDict)
    (hf : findObj (KF w.params) 135 (some emptyDict) name = some (.bind gg a))
    (h : ∀ E', wpAny (M0 w) A.in1 (call gg [a, .ref x, .ref 135]) (fun v s' => wpAny (M0 w) A (handedOut v) Q E s') E' { s with toks := s.toks + 1 }) :
    wpAny (M0 w) A (getAttr (.ref x) name expr) Q E s := by
  obtain ⟨hh, g, d, t, os⟩ := s
  have I : InstAt hh x (matchO dx items) 135 (some emptyDict) := ⟨hx, rfl, rfl, hdx⟩
  have t1 : Looks (M0 w) hh (typeOf (.ref x)) (.ref 135) := I.type
  have t2 := find_ga X
  have t3 := find_gx X
  have t4 := looks_find (M := M0 w) X I hf
  have t5 : Looks (M0 w) hh (bindSpecial (.builtin "tuple.__getattribute__") (.ref x)) (.builtin "tuple.__getattribute__", [.ref x]) := Looks.of_pure (PySem.F.slot_tuple_getattribute.bind _)
  unfold getAttr getAttrBy
  refine wpAny_bind (wpAny_mkText (wpAny_holding (wpAny_bind (t1.at (wpAny_bind (t2.at ?_))))))
  show wpAny _ _ (getAttrByItsOwn _ _ _ _ _ _) _ _ _
  unfold getAttrByItsOwn hookBefore
  repeat lk
  refine wpAny_tryCatch (wpAny_bind (wpAny_holding ?_))
  unfold callGetattribute
  rw [if_neg (by cases expr <;> decide)]
  unfold boundAndCalled
  refine wpAny_bind (t5.at ?_)
  refine wpAny_call (codeAny_call_builtin tga_plain am_entry_tuple_getattribute ?_)
  refine @check_slot (M0 w) _ _ _ "tuple.__getattribute__" "tuple" "__getattribute__" (.ref x) [.str name _] [] _ tga_kind tga_split (t1.andThen (sub_tup X)) (PySem.F.args_tuple_getattribute_2 _ _) ?_
  unfold Builtin.«object.__getattribute__»
  repeat (first | (with_reducible refine wpAny_mono (h _) ?_ fun _ _ e => e) | lk)
  intro v s' z
  exact wpAny_pure (wpAny_pure z)
end
end Mine
end
section
open PySem PySem.W PySem.Spec PySem.Calls PyProof.Rows
set_option maxRecDepth 100000
set_option maxHeartbeats 4000000
namespace Mine
theorem fill8 (w : World) : OpenLaw.prog PySem.Challenge.rw_pg0326_01 = OpenLaw.prog PySem.Challenge.rw_pg0326_01 ∧ KF w.params = KF w.params := by
  w_on
  k_fill
  exact ⟨rfl, rfl⟩
section
variable {w : World} {A : Around} {E : Value → Shared → Prop} {s : Shared} {h : Heap} {R : Result → Shared → Prop} {g : Array GenState} {d : Drawn} {t : Nat} {os : OsState}
theorem find_iter (X : (KF w.params).In h) : Looks (M0 w) h (typeLookup (.ref 135) "__iter__") (some (.builtin "tuple.__iter__")) := looks_findIn X (by w_on; k_is)
theorem find_len (X : (KF w.params).In h) : Looks (M0 w) h (typeLookup (.ref 135) "__len__") (some (.builtin "tuple.__len__")) := looks_findIn X (by w_on; k_is)
theorem ti_kind : builtinKind "tuple.__iter__" = some .slot := by decide +kernel
theorem ti_split : splitId "tuple.__iter__" = some ("tuple", "__iter__") := by decide +kernel
theorem ti_plain : plainId "tuple.__iter__" = true := by decide +kernel
noncomputable abbrev tupIt (x : Addr) (i : Nat) : Obj := { cls := .type "tuple_iterator", data := .fields #[.ref x, .int i 0] }

theorem call_slot_if {self : Value} {id : String} {name : Str} {refuse : Sem Value} {Q : Option Value → Shared → Prop} (t1 : Looks (M0 w) s.heap (specialOf self name) (some (.builtin id))) (t2 : Looks (M0 w) s.heap (bindSpecial (.builtin id) self) (.builtin id, [self]))
    (hc : wpAny (M0 w) A (call (.builtin id) [self]) (fun v => Q (some v)) E s) : wpAny (M0 w) A (callSpecialIfBoundUnlessNone? self name refuse) Q E s := by
  simp only [callSpecialIfBoundUnlessNone?, bindSpecialIfBound?]
  refine wpAny_holding (wpAny_bind (wpAny_bind (t1.at ?_)))
  have fin : wpAny (M0 w) A (if (Value.builtin id == Value.none) = true then (refuse >>= fun v => pure (some v)) else (call (.builtin id) [self] >>= fun v => pure (some v))) Q E s := by
    simp only [PySem.builtin_beq_none, Bool.false_eq_true, if_false]
    exact wpAny_bind (wpAny_mono hc (fun v s' h' => wpAny_pure h') fun _ _ h' => h')
  refine wpAny_bind (wpAny_askSetting (wpAny_ite ?_))
  split
  · exact wpAny_bind (t2.at (wpAny_pure fin))
  · exact wpAny_tryCatch (wpAny_bind (t2.at (wpAny_pure fin)))
theorem iter_match {x dx : Addr} {items : Array Value} {Q : Value → Shared → Prop} (X : (KF w.params).In s.heap) (hx : s.heap.get? x = some (matchO dx items))
    (hQ : Q (.ref s.heap.objs.size) { s with heap := s.heap.push (tupIt x 0) }) : wpAny (M0 w) A (pyIter (.ref x)) Q E s := by
  have t1 : Looks (M0 w) s.heap (typeOf (.ref x)) (.ref 135) := (Looks.ld hx).andThen .now
  have t2 := find_iter X
  have t3 : Looks (M0 w) s.heap (specialOf (.ref x) "__iter__") (some (.builtin "tuple.__iter__")) := t1.andThen t2
  have t4 : Looks (M0 w) s.heap (isInstance (.ref x) (.type "tuple")) true := t1.andThen (sub_tup X)
  have t5 : Looks (M0 w) s.heap (bindSpecial (.builtin "tuple.__iter__") (.ref x)) (.builtin "tuple.__iter__", [.ref x]) := Looks.of_pure (PySem.F.slot_tuple_iter.bind _)
  unfold pyIter
  refine wpAny_bind (t3.at ?_)
  refine wpAny_bind (call_slot_if t3 t5 ?_)
  refine wpAny_call (codeAny_call_builtin ti_plain PySem.F.entry_tuple_iter ?_)
  refine @check_slot (M0 w) _ _ _ "tuple.__iter__" "tuple" "__iter__" (.ref x) [] [] _ ti_kind ti_split t4 (PySem.F.args_tuple_iter_1 _) ?_
  show wpAny _ _ (do ret (← newFields "tuple_iterator" [.ref x, rawInt 0])) _ _ s
  refine wpAny_bind (wpAny_newObj_type (wpAny_pure ?_))
  refine wpAny_bind (wpAny_specialOf (T := "tuple_iterator") ⟨_, Heap.get?_push_size _ rfl, rfl⟩ PySem.F.slot_tuple_iterator_next.lookup (wpAny_pure hQ))
theorem next_match {x dx I : Addr} {i : Nat} {items : Array Value} {v : Value} {Q : Option Value → Shared → Prop} (hit : s.heap.get? I = some (tupIt x i)) (hx : s.heap.get? x = some (matchO dx items)) (hv : items[i]? = some v)
    (hQ : ∀ h', h'.get? I = some (tupIt x (i + 1)) → Heap.SameBut I s.heap h' → Q (some v) { s with heap := h' }) : wpAny (M0 w) A (pyNext (.ref I)) Q E s := by
  have hT : s.TypeIs (.ref I) "tuple_iterator" := ⟨_, hit, rfl⟩
  unfold pyNext
  refine wpAny_bind (wpAny_attempt (wpAny_callSpecial?_slot (name := Str.ofString "__next__") hT PySem.F.slot_tuple_iterator_next
    (wpAny_call_entry PySem.F.slot_tuple_iterator_next hT PySem.F.entry_tuple_iterator_next ?_ (PySem.F.args_tuple_iterator_next_1 _))))
  show wpAny _ _ (field (.ref I) 0 >>= _) _ _ s
  refine wpAny_bind (wpAny_field hit rfl (x := .ref x) rfl ?_)
  show wpAny _ _ (if (Value.ref x == Value.none) = true then _ else _) _ _ s
  rw [if_neg (show ¬ ((Value.ref x == Value.none) = true) from Bool.false_ne_true)]
  show wpAny _ _ (field (.ref I) 1 >>= _) _ _ s
  refine wpAny_bind (wpAny_field hit rfl (x := .int i 0) rfl ?_)
  show wpAny _ _ (seqItems? (.ref x) >>= _) _ _ s
  refine wpAny_bind (wpAny_seqItems hx rfl ?_)
  simp only [Int.toNat_natCast, hv]
  refine wpAny_bind (wpAny_setField hit rfl (by simp) (wpAny_pure ⟨v, rfl, wpAny_pure (hQ _ ?_ (Heap.SameBut.update ..))⟩))
  exact Heap.get?_update_self _ hit rfl
theorem next_match_end {x dx I : Addr} {i : Nat} {items : Array Value} {Q : Option Value → Shared → Prop} (hh : A.handled = none) (hit : s.heap.get? I = some (tupIt x i)) (hx : s.heap.get? x = some (matchO dx items)) (hv : items[i]? = none)
    (hQ : ∀ h', Heap.ExtBut I s.heap h' → Q none { s with heap := h' }) : wpAny (M0 w) A (pyNext (.ref I)) Q E s := by
  have hT : s.TypeIs (.ref I) "tuple_iterator" := ⟨_, hit, rfl⟩
  unfold pyNext
  refine wpAny_bind (wpAny_attempt (wpAny_callSpecial?_slot (name := Str.ofString "__next__") hT PySem.F.slot_tuple_iterator_next
    (wpAny_call_entry PySem.F.slot_tuple_iterator_next hT PySem.F.entry_tuple_iterator_next ?_ (PySem.F.args_tuple_iterator_next_1 _))))
  show wpAny _ _ (field (.ref I) 0 >>= _) _ _ s
  refine wpAny_bind (wpAny_field hit rfl (x := .ref x) rfl ?_)
  show wpAny _ _ (if (Value.ref x == Value.none) = true then _ else _) _ _ s
  rw [if_neg (show ¬ ((Value.ref x == Value.none) = true) from Bool.false_ne_true)]
  show wpAny _ _ (field (.ref I) 1 >>= _) _ _ s
  refine wpAny_bind (wpAny_field hit rfl (x := .int i 0) rfl ?_)
  show wpAny _ _ (seqItems? (.ref x) >>= _) _ _ s
  refine wpAny_bind (wpAny_seqItems hx rfl ?_)
  simp only [Int.toNat_natCast, hv]
  refine wpAny_bind (wpAny_rule (wpAny_bind (wpAny_setField hit rfl (by simp) ?_)))
  show wpAny _ _ (newExc (.type "StopIteration") [] >>= _) _ _ _
  refine wpAny_bind ?_
  simp only [newExc, newTuple]
  refine wpAny_bind (wpAny_newObj_type ?_ (by size_fits))
  refine wpAny_bind (m := firstArgMember _ _) (wpAny_of_eq (a := Value.none) (by first | rfl | (simp only [firstArgMember]; rfl)) ?_)
  refine wpAny_newObj_type ?_ (by size_fits)
  simp only [raiseNew]
  refine wpAny_bind (wpAny_handled ?_)
  first | rw [show A.in1.handled = none from hh] | rw [hh]
  refine wpAny_bind (wpAny_pure (wpAny_throw ?_))
  refine wpAny_bind (wpAny_isInstance (T := "StopIteration") (b := true) ⟨_, Heap.get?_push_size _ rfl, rfl⟩ PySem.isSubtype_stop ?_)
  exact wpAny_pure (hQ _ (((Heap.SameBut.update ..).extBut.push _).push _))
theorem draw_match {x dx I : Addr} {items : Array Value} (hne : x ≠ I) : ∀ (n i : Nat) (s : Shared) (Q : List Value → Shared → Prop), s.heap.get? I = some (tupIt x i) → s.heap.get? x = some (matchO dx items) → i + n ≤ items.size →
    (∀ h', h'.get? I = some (tupIt x (i + n)) → Heap.SameBut I s.heap h' → Q ((items.toList.drop i).take n) { s with heap := h' }) → wpAny (M0 w) A (draw (.ref I) n) Q E s
  | 0, i, s, Q, hit, _, _, hQ => by
    show wpAny _ _ (pure []) Q E s
    exact wpAny_pure (by simpa using hQ s.heap hit (Heap.SameBut.refl ..))
  | n + 1, i, s, Q, hit, hx, hle, hQ => by
    have hlt : i < items.size := by lia
    show wpAny _ _ (pyNext (.ref I) >>= _) Q E s
    refine wpAny_bind (next_match hit hx (v := items[i]) (by simp [hlt]) fun h₁ hit₁ hs₁ => ?_)
    refine wpAny_bind (wpAny_holding (draw_match hne n (i + 1) _ _ hit₁ (hs₁.extBut x _ hne hx) (by lia) fun h₂ hit₂ hs₂ => wpAny_pure ?_))
    have hd : items.toList.drop i = items[i] :: items.toList.drop (i + 1) := by simp [List.drop_eq_getElem_cons, hlt]
    have := hQ h₂ (by rw [show i + (n + 1) = i + 1 + n by lia]; exact hit₂) (hs₁.trans hs₂)
    rw [hd, List.take_succ_cons] at this
    exact this
theorem unpack_match {x dx : Addr} {items : Array Value} {Q : List Value → Shared → Prop} (X : (KF w.params).In s.heap) (hh : A.handled = none) (hx : s.heap.get? x = some (matchO dx items))
    (hQ : ∀ h', Heap.ExtBut s.heap.objs.size s.heap h' → Q items.toList { s with heap := h' }) : wpAny (M0 w) A (unpackItems (.ref x) items.size none) Q E s := by
  have hlt : x ≠ s.heap.objs.size := Nat.ne_of_lt (Heap.lt_size hx)
  have t1 : Looks (M0 w) s.heap (typeOf (.ref x)) (.ref 135) := (Looks.ld hx).andThen .now
  have t3 : Looks (M0 w) s.heap (specialOf (.ref x) "__iter__") (some (.builtin "tuple.__iter__")) := t1.andThen (find_iter X)
  unfold unpackItems
  refine wpAny_bind ?_
  unfold notIterableAtAll
  refine wpAny_bind (t3.at ?_)
  refine wpAny_pure ?_
  simp only [Bool.false_eq_true, if_false]
  refine wpAny_bind (wpAny_holding (iter_match X hx ?_))
  have hx1 : (s.heap.push (tupIt x 0)).get? x = some (matchO dx items) := Heap.get?_push_of_some _ hx
  refine wpAny_bind (wpAny_holding (draw_match hlt items.size 0 _ _ (Heap.get?_push_size _ rfl) hx1 (by lia) fun h₁ hit₁ hs₁ => ?_))
  have hall : List.take items.size (List.drop 0 items.toList) = items.toList := by
    rw [List.drop_zero]; exact List.take_of_length_le (by simp)
  rw [hall]
  rw [if_neg (by simp)]
  have hx2 : h₁.get? x = some (matchO dx items) := hs₁.extBut x _ hlt hx1
  refine wpAny_bind (wpAny_holding (next_match_end hh hit₁ hx2 (by simp) fun h₂ he₂ => ?_))
  simp only [Option.isSome_none, Bool.false_eq_true, if_false]
  exact wpAny_pure (hQ h₂ fun b o hb e => he₂ b o hb (hs₁.extBut b o hb (Heap.get?_push_of_some _ e)))
theorem unpackN_match {h₀ : Heap} {L : Addr} {m : Str → Option Value} {news : Led} {env : Env} {elts : List Expr} {k} {pos : Pos} {x dx : Addr} {items : Array Value} {Q : Unit → Shared → Prop} (X : (KF w.params).In h₀) (F : Fr h₀ L s.heap m) (N : News h₀ L s.heap news) (hx : (x, matchO dx items) ∈ news)
    (hh : A.handled = none) (hn : (assignEach elts env).length = items.size) (hstar : (assignEach elts env).findIdx? (·.1) = none)
    (h : ∀ h', Fr h₀ L h' m → News h₀ L h' news → wpAny (M0 w) A (assignInOrder ((assignEach elts env).map (·.2)) items.toList) Q E { s with heap := h' }) :
    wpAny (M0 w) A (assign (.Tuple elts k pos) env (.ref x)) Q E s := by
  rw [assign_Tuple]
  refine wpAny_bind (wpAny_standAt ?_)
  unfold unpack
  rw [hn, hstar]
  exact wpAny_bind (wpAny_holding (unpack_match (X.keeps F.keep) hh (N _ hx).1 fun h' he => h h' (F.extBut he (Nat.le_refl _)) (N.extBut he (Nat.le_refl _))))
end
end Mine
end
section
open PySem PySem.W PySem.Spec PySem.Calls PyProof.Rows
set_option maxRecDepth 100000
set_option maxHeartbeats 4000000
namespace Mine
section
variable {w : World} {A : Around} {E : Value → Shared → Prop} {s : Shared} {h : Heap} {R : Result → Shared → Prop} {g : Array GenState} {d : Drawn} {t : Nat} {os : OsState}
theorem tl_kind : builtinKind "tuple.__len__" = some .slot := by decide +kernel
theorem tl_split : splitId "tuple.__len__" = some ("tuple", "__len__") := by decide +kernel
theorem tl_plain : plainId "tuple.__len__" = true := by decide +kernel
theorem call_special {self : Value} {id : String} {name : Str} {args : List Value} {Q : Option Value → Shared → Prop} (t1 : Looks (M0 w) s.heap (specialOf self name) (some (.builtin id))) (t2 : Looks (M0 w) s.heap (bindSpecial (.builtin id) self) (.builtin id, [self]))
    (hc : wpAny (M0 w) A (call (.builtin id) (self :: args)) (fun v => Q (some v)) E s) : wpAny (M0 w) A (callSpecial? self name args) Q E s := by
  simp only [callSpecial?]
  refine wpAny_bind (t1.at ?_)
  refine wpAny_holding (wpAny_bind (t2.at ?_))
  exact wpAny_bind (wpAny_mono hc (fun v s' h' => wpAny_pure h') fun _ _ h' => h')
theorem len_match {x dx : Addr} {items : Array Value} {Q : Value → Shared → Prop} (X : (KF w.params).In s.heap) (hx : s.heap.get? x = some (matchO dx items)) (hz : items.size < 2 ^ 62)
    (h : Q (.int items.size (s.toks + 1)) { s with toks := s.toks + 1 + 1 }) : wpAny (M0 w) A (call (.builtin "len") [.ref x]) Q E s := by
  have t1 : Looks (M0 w) s.heap (typeOf (.ref x)) (.ref 135) := (Looks.ld hx).andThen .now
  have t3 : Looks (M0 w) s.heap (specialOf (.ref x) "__len__") (some (.builtin "tuple.__len__")) := t1.andThen (find_len X)
  have t4 : Looks (M0 w) s.heap (isInstance (.ref x) (.type "tuple")) true := t1.andThen (sub_tup X)
  have t5 : Looks (M0 w) s.heap (bindSpecial (.builtin "tuple.__len__") (.ref x)) (.builtin "tuple.__len__", [.ref x]) := Looks.of_pure (PySem.F.slot_tuple_len.bind _)
  refine PySem.Calls.call_function_entry kind_len plain_len entry_len (args_len1 _) ?_
  unfold Builtin.«len»
  refine wpAny_bind (m := oneArg "len" _) (wpAny_pure ?_)
  refine wpAny_bind (m := callSpecial? (.ref x) (Str.ofString "__len__")) (call_special t3 t5 ?_)
  refine wpAny_call (codeAny_call_builtin tl_plain PySem.F.entry_tuple_len ?_)
  refine @check_slot (M0 w) _ _ _ "tuple.__len__" "tuple" "__len__" (.ref x) [] [] _ tl_kind tl_split t4 (PySem.F.args_tuple_len_1 _) ?_
  unfold Builtin.«tuple.__len__» Builtin.Tuple.tupleItemsOf
  refine wpAny_bind (wpAny_pure ?_)
  refine wpAny_bind (wpAny_bind (wpAny_seqItems hx rfl (wpAny_pure ?_)))
  refine wpAny_bind (wpAny_mkInt (wpAny_pure ?_))
  refine wpAny_bind (wpAny_holding (wpAny_pure ?_))
  refine wpAny_bind (wpAny_letGo ?_)
  show wpAny _ _ (if ((items.size : Nat) : Int) < 0 then _ else _) _ _ _
  rw [if_neg (by lia)]
  show wpAny _ _ (if ((items.size : Nat) : Int) ≥ 2 ^ 63 then _ else _) _ _ _
  rw [if_neg (by lia)]
  exact wpAny_bind (wpAny_mkInt (wpAny_pure ⟨_, rfl, h⟩))
theorem hint_match {x dx : Addr} {items : Array Value} {Q : Bool → Shared → Prop} (X : (KF w.params).In s.heap) (hx : s.heap.get? x = some (matchO dx items)) (hz : items.size < 2 ^ 62)
    (h : ∀ b tk, Q b { s with toks := tk }) : wpAny (M0 w) A (Builtin.List.listLengthHint (.ref x)) Q E s := by
  have t1 : Looks (M0 w) s.heap (typeOf (.ref x)) (.ref 135) := (Looks.ld hx).andThen .now
  have t3 : Looks (M0 w) s.heap (specialOf (.ref x) "__len__") (some (.builtin "tuple.__len__")) := t1.andThen (find_len X)
  have t4 : Looks (M0 w) s.heap (isInstance (.ref x) (.type "tuple")) true := t1.andThen (sub_tup X)
  unfold Builtin.List.listLengthHint
  refine wpAny_bind (t3.at ?_)
  generalize hid : ("tuple.__len__" : String) = id0
  wp_delta
  rw [show splitId id0 = some ("tuple", "__len__") from by subst hid; exact tl_split]
  subst hid
  refine wpAny_bind (t4.at ?_)
  refine wpAny_ite_split (fun hab => absurd hab (by decide)) (fun _ => ?_)
  refine wpAny_ite_split (fun _ => ?_) (fun hab => absurd (by decide +kernel) hab)
  refine wpAny_bind (t1.at ?_)
  refine wpAny_bind (len_match X hx hz ?_)
  refine wpAny_bind (wpAny_pure ?_)
  exact wpAny_pure (h _ _)
section
variable {h₀ : Heap} {L : Addr} {m : Str → Option Value} {news : Led}
/-- the loop that fills a list from an iterator -/
theorem ext_loop {S I : Addr} {res : Value} {n : Nat} (J Jd : List Value → Led → Prop)
    (next : ∀ acc nx c s (E : Value → Shared → Prop) (Q : Option Value → Shared → Prop), acc.length < n → J acc nx → Fr h₀ L s.heap m → News h₀ L s.heap ((S, listOf acc.toArray c) :: nx) → (∀ q ∈ nx, q.1 ≠ S) →
      (∀ v nx' h' tk', J (acc ++ [v]) nx' → Fr h₀ L h' m → News h₀ L h' ((S, listOf acc.toArray c) :: nx') → (∀ q ∈ nx', q.1 ≠ S) → Q (some v) { s with heap := h', toks := tk' }) → wpAny (M0 w) A.in1 (pyNext (.ref I)) Q E s)
    (stop : ∀ acc nx c s (E : Value → Shared → Prop) (Q : Option Value → Shared → Prop), acc.length = n → J acc nx → Fr h₀ L s.heap m → News h₀ L s.heap ((S, listOf acc.toArray c) :: nx) → (∀ q ∈ nx, q.1 ≠ S) →
      (∀ nx' h' tk', Jd acc nx' → Fr h₀ L h' m → News h₀ L h' ((S, listOf acc.toArray c) :: nx') → Q none { s with heap := h', toks := tk' }) → wpAny (M0 w) A.in1 (pyNext (.ref I)) Q E s) (hn : n ≤ 10000) :
    ∀ (k : Nat) (s : Shared) (acc : List Value) (nx : Led) (c : Nat), acc.length + k = n → J acc nx → Fr h₀ L s.heap m → News h₀ L s.heap ((S, listOf acc.toArray c) :: nx) → (∀ q ∈ nx, q.1 ≠ S) →
      (∀ (vs : List Value) nx' c' h' tk', vs.length = n → Jd vs nx' → Fr h₀ L h' m → News h₀ L h' ((S, listOf vs.toArray c') :: nx') → R (.ok (.ret res)) { s with heap := h', toks := tk' }) →
      codeAny (M0 w) A (.builtin "list.extend.loop" ⟨[.ref S, .ref I, res], []⟩) R s
  | 0, s, acc, nx, c, hk, hJ, F, N, hS, hR => by
    refine codeAny_builtin PySem.F.entry_extend_loop ?_
    rw [Around.under_plainId PySem.F.plain_extend_loop _]
    show wpAny _ A.in1 (pyNext (.ref I) >>= _) _ _ s
    refine wpAny_bind (stop acc nx c s _ _ (by lia) hJ F N hS fun nx' h' tk' hj F' N' => ?_)
    exact wpAny_pure (hR acc nx' c h' tk' (by lia) hj F' N')
  | k + 1, s, acc, nx, c, hk, hJ, F, N, hS, hR => by
    refine codeAny_builtin PySem.F.entry_extend_loop ?_
    rw [Around.under_plainId PySem.F.plain_extend_loop _]
    show wpAny _ A.in1 (pyNext (.ref I) >>= _) _ _ s
    refine wpAny_bind (next acc nx c s _ _ (by lia) hJ F N hS fun v nx' h' tk' hJ' F' N' hS' => ?_)
    have hob := (N' _ (.head _))
    show wpAny _ A.in1 (updateSeq S (·.push v) >>= _) _ _ _
    refine wpAny_bind (wpAny_updateSeq hob.1 rfl ?_ (by rw [PySem.sizeLine_eq, List.size_toArray]; lia) (by rw [PySem.sizeLine_eq, Array.size_push, List.size_toArray]; lia))
    have hup : (h'.update S (Obj.mapSeq (·.push v))).get? S = some _ := Heap.get?_update_self (Obj.mapSeq (·.push v)) hob.1 rfl
    have U := news_set (pre := []) (post := nx') N' (fun _ h => nomatch h) hS' (Heap.SameBut.update ..) hup
    have U' : News h₀ L (h'.update S (Obj.mapSeq (·.push v))) ((S, listOf (acc ++ [v]).toArray (if (acc.toArray.push v).size == acc.toArray.size then c else c + 1)) :: nx') := by
      rw [← List.push_toArray]
      exact U
    refine wpAny_pure ⟨plainId_quiet PySem.F.plain_extend_loop _, ext_loop J Jd next stop hn k _ (acc ++ [v]) nx' _ (by simp; lia) hJ' (F'.change (Heap.SameBut.update ..) hob.2.1 hob.2.2) U' hS' fun vs nx'' c' h'' tk'' hl hj F'' N'' => hR vs nx'' c' h'' tk'' hl hj F'' N''⟩

theorem touch_led {S : Addr} {c : Nat} {nx : Led} {Q : Unit → Shared → Prop} (F : Fr h₀ L s.heap m) (N : News h₀ L s.heap ((S, listOf #[] c) :: nx)) (hS : ∀ q ∈ nx, q.1 ≠ S)
    (h : ∀ h' c', Fr h₀ L h' m → News h₀ L h' ((S, listOf #[] c') :: nx) → Q () { s with heap := h' }) : wpAny (M0 w) A (Builtin.List.listTouch (.ref S)) Q E s := by
  have hob := N _ (.head _)
  show wpAny _ _ (updateSeq S (·.push .none) >>= fun _ => updateSeq S (·.pop)) _ _ _
  refine wpAny_bind (wpAny_updateSeq hob.1 rfl ?_)
  have h2 := Heap.get?_update_self (Obj.mapSeq (·.push Value.none)) hob.1 rfl
  have U2 := news_set (pre := []) (post := nx) N (fun _ h => nomatch h) hS (Heap.SameBut.update ..) h2
  have F2 := F.change (Heap.SameBut.update s.heap S (Obj.mapSeq (·.push Value.none))) hob.2.1 hob.2.2
  refine wpAny_updateSeq (hz := by seq_fits) h2 rfl ?_
  have h3 := Heap.get?_update_self (Obj.mapSeq (·.pop)) h2 rfl
  have U3 := news_set (pre := []) (post := nx) U2 (fun _ h => nomatch h) hS (Heap.SameBut.update ..) h3
  exact h _ _ (F2.change (Heap.SameBut.update ..) hob.2.1 hob.2.2) U3
theorem list_src {r : Addr} {T : Value} {n : Nat} {Q : Value → Shared → Prop} (J : Addr → List Value → Led → Prop) (Jd : List Value → Led → Prop) (F : Fr h₀ L s.heap m) (N : News h₀ L s.heap news) (hr : r < s.heap.objs.size)
    (hT : ∀ h', (∀ b o, s.heap.get? b = some o → h'.get? b = some o) → Looks (M0 w) h' (typeOf (.ref r)) T) (h2 : (T == .type "list") = false) (h3 : (T == .type "tuple") = false)
    (iter : ∀ S c h₁ (E Q : Value → Shared → Prop), Fr h₀ L h₁ m → News h₀ L h₁ ((S, listOf #[] c) :: news) → (∀ q ∈ news, q.1 < S) →
      (∀ I nx h', Fr h₀ L h' m → News h₀ L h' ((S, listOf #[] c) :: nx) → (∀ q ∈ nx, q.1 ≠ S) → J I [] nx → Q (.ref I) { s with heap := h' }) → wpAny (M0 w) A.in1.in1 (pyIter (.ref r)) Q E { s with heap := h₁ })
    (hint : ∀ S c I nx h₁ (E : Value → Shared → Prop) (Q : Bool → Shared → Prop), Fr h₀ L h₁ m → News h₀ L h₁ ((S, listOf #[] c) :: nx) → J I [] nx → (∀ b tk, Q b { s with heap := h₁, toks := tk }) →
      wpAny (M0 w) A.in1.in1 (Builtin.List.listLengthHint (.ref r)) Q E { s with heap := h₁ })
    (next : ∀ S I acc nx c s (E : Value → Shared → Prop) (Q : Option Value → Shared → Prop), acc.length < n → J I acc nx → Fr h₀ L s.heap m → News h₀ L s.heap ((S, listOf acc.toArray c) :: nx) → (∀ q ∈ nx, q.1 ≠ S) →
      (∀ v nx' h' tk', J I (acc ++ [v]) nx' → Fr h₀ L h' m → News h₀ L h' ((S, listOf acc.toArray c) :: nx') → (∀ q ∈ nx', q.1 ≠ S) → Q (some v) { s with heap := h', toks := tk' }) → wpAny (M0 w) A.in1.in1 (pyNext (.ref I)) Q E s)
    (stop : ∀ S I acc nx c s (E : Value → Shared → Prop) (Q : Option Value → Shared → Prop), acc.length = n → J I acc nx → Fr h₀ L s.heap m → News h₀ L s.heap ((S, listOf acc.toArray c) :: nx) → (∀ q ∈ nx, q.1 ≠ S) →
      (∀ nx' h' tk', Jd acc nx' → Fr h₀ L h' m → News h₀ L h' ((S, listOf acc.toArray c) :: nx') → Q none { s with heap := h', toks := tk' }) → wpAny (M0 w) A.in1.in1 (pyNext (.ref I)) Q E s) (hn : n ≤ 10000)
    (hQ : ∀ D (vs : List Value) nx c h' tk, vs.length = n → Jd vs nx → (∀ q ∈ news, q.1 < D) → Fr h₀ L h' m → News h₀ L h' ((D, listOf vs.toArray c) :: nx) → Q (.ref D) { s with heap := h', toks := tk }) :
    wpAny (M0 w) A (call (.type "list") [.ref r]) Q E s := by
  refine callType_codes (Q₁ := fun obj s₁ => obj = .ref s.heap.objs.size ∧ s₁ = { s with heap := s.heap.push { cls := .type "list", data := .seq #[] } }) PySem.F.called_list (PySem.F.typeCall_list_1 _) PySem.F.entry_list_init
    (code_list_new _ ⟨rfl, rfl⟩) fun obj s₁ h₁ => ?_
  obtain ⟨rfl, rfl⟩ := h₁
  have hS : (s.heap.push { cls := .type "list", data := .seq #[] }).get? s.heap.objs.size = some { cls := .type "list", data := .seq #[] } := Heap.get?_push_size _ rfl
  have hSr : s.heap.objs.size ≠ r := Nat.ne_of_gt hr
  refine ⟨⟨_, hS, rfl⟩, PySem.F.args_list_init_2 _ _, ?_⟩
  have lt : ∀ q ∈ news, q.1 < s.heap.objs.size := fun q hq => Heap.lt_size (N q hq).1
  have N1 := N.push F (listOf #[] 0)
  have F1 := F.push (listOf #[] 0)
  show wpAny _ _ (do let old ← Builtin.List.listItems (.ref s.heap.objs.size); Builtin.List.listUpdate (.ref s.heap.objs.size) (fun _ => #[]); letGo old.toList.reverse; Builtin.List.listExtendWith (.ref s.heap.objs.size) (.ref r) .none) _ _ _
  refine wpAny_bind ?_
  unfold Builtin.List.listItems
  refine wpAny_bind (wpAny_seqItems hS rfl (wpAny_pure ?_))
  show wpAny _ _ (updateSeq s.heap.objs.size (fun _ => #[]) >>= fun _ => letGo (#[] : Array Value).toList.reverse >>= fun _ => Builtin.List.listExtendWith (.ref s.heap.objs.size) (.ref r) .none) _ _ _
  refine wpAny_bind (wpAny_updateSeq hS rfl ?_)
  have hS2 := Heap.get?_update_self (Obj.mapSeq (fun _ => (#[] : Array Value))) hS rfl
  have ne : ∀ q ∈ news, q.1 ≠ s.heap.objs.size := fun q hq => Nat.ne_of_lt (lt q hq)
  have N2 := news_set (pre := []) (post := news) N1 (fun _ h => nomatch h) ne (Heap.SameBut.update ..) hS2
  have F2 := F1.change (Heap.SameBut.update _ s.heap.objs.size (Obj.mapSeq (fun _ => (#[] : Array Value)))) (N1 _ (.head _)).2.1 (N1 _ (.head _)).2.2
  have K2 : ∀ b o, s.heap.get? b = some o → ((s.heap.push (listOf #[] 0)).update s.heap.objs.size (Obj.mapSeq (fun _ => (#[] : Array Value)))).get? b = some o := fun b o e =>
    (Heap.get?_update_other _ _ (Nat.ne_of_gt (Heap.lt_size e))).trans (Heap.get?_push_of_some _ e)
  refine wpAny_bind (wpAny_letGo ?_)
  unfold Builtin.List.listExtendWith
  refine wpAny_bind ((hT _ K2).at ?_)
  have h1 : Builtin.List.listSameRef (.ref s.heap.objs.size) (.ref r) = false := by simp [Builtin.List.listSameRef, hSr]
  simp only [h1, h2, h3, Bool.or_false, Bool.false_eq_true, if_false]
  refine wpAny_bind (iter _ _ _ _ _ F2 N2 lt fun I nx h' F3 N3 ne3 hJ => ?_)
  refine wpAny_bind (wpAny_holding (hint _ _ I nx _ _ _ F3 N3 hJ fun b tk => ?_))
  have key : ∀ (hh : Heap) (c₁ tk : Nat), Fr h₀ L hh m → News h₀ L hh ((s.heap.objs.size, listOf #[] c₁) :: nx) →
      codeAny (M0 w) A.in1 (.builtin "list.extend.loop" ⟨[.ref s.heap.objs.size, .ref I, .none], []⟩) (wants (fun r s₂ => r = .none ∧ Q (.ref s.heap.objs.size) s₂) E) { s with heap := hh, toks := tk } := by
    intro hh c₁ tk F4 N4
    refine ext_loop (J I) Jd (next _ I) (stop _ I) hn n _ [] nx c₁ (by simp) hJ F4 N4 ne3 fun vs nx' c' h' tk' hl hj F5 N5 => ?_
    exact ⟨rfl, hQ _ vs nx' c' h' tk' hl hj lt F5 N5⟩
  refine wpAny_ite_split (fun _ => ?_) (fun _ => wpAny_pure ⟨plainId_quiet PySem.F.plain_extend_loop _, key _ _ _ F3 N3⟩)
  refine wpAny_bind (wpAny_rule ?_)
  refine wpAny_bind (touch_led F3 N3 ne3 fun h4 c4 F4 N4 => ?_)
  exact wpAny_pure ⟨plainId_quiet PySem.F.plain_extend_loop _, key _ _ _ F4 N4⟩
theorem Fr.extOther {h h' : Heap} {I : Addr} (F : Fr h₀ L h m) (hs : Heap.ExtBut I h h') (hL : I ≠ L) (h0 : h₀.get? I = none) : Fr h₀ L h' m :=
  ⟨F.ns.extBut hs (Ne.symm hL), fun c x e => hs c x (fun hc => by rw [hc, h0] at e; exact nomatch e) (F.keep c x e), F.above⟩
theorem News.extOther {h h' : Heap} {I : Addr} {nx : Led} (N : News h₀ L h nx) (hs : Heap.ExtBut I h h') (hI : ∀ p ∈ nx, p.1 ≠ I) : News h₀ L h' nx :=
  fun p hp => ⟨hs _ _ (hI p hp) (N p hp).1, (N p hp).2⟩
/-- list(x), x a Match -/
theorem list_match {x dx : Addr} {vs : List Value} {Q : Value → Shared → Prop} (X : (KF w.params).In h₀) (hh : A.handled = none) (F : Fr h₀ L s.heap m) (N : News h₀ L s.heap news) (hx : (x, matchO dx vs.toArray) ∈ news) (hz : vs.length ≤ 1000)
    (h : ∀ D c h' tk, Fr h₀ L h' m → News h₀ L h' ((D, listOf vs.toArray c) :: news) → (∀ q ∈ news, q.1 < D) → Q (.ref D) { s with heap := h', toks := tk }) : wpAny (M0 w) A (call (.type "list") [.ref x]) Q E s := by
  refine list_src (T := .ref 135) (n := vs.length) (fun I acc nx => acc = vs.take acc.length ∧ nx = (I, tupIt x acc.length) :: news ∧ ∀ p ∈ news, p.1 ≠ I) (fun us nx => us = vs ∧ nx = news) F N (Heap.lt_size (N _ hx).1)
    (fun h' hk => (Looks.ld (hk _ _ (N _ hx).1)).andThen .now) (by decide) (by decide) ?_ ?_ ?_ ?_ (by lia) ?_
  · intro S c h₁ E Q F1 N1 lt q
    refine iter_match (X.keeps F1.keep) (N1 _ (.tail _ hx)).1 ?_
    have N2 := N1.push F1 (tupIt x 0)
    have hI : ∀ q ∈ (S, listOf #[] c) :: news, q.1 < h₁.objs.size := fun q hq => Heap.lt_size (N1 q hq).1
    refine q _ ((_, tupIt x 0) :: news) _ (F1.push _) (News.sub N2 fun p hp => ?_) (fun p hp => ?_) ⟨rfl, rfl, fun p hp => Nat.ne_of_lt (hI _ (.tail _ hp))⟩
    · rcases List.mem_cons.mp hp with rfl | hp
      · exact .tail _ (.head _)
      · rcases List.mem_cons.mp hp with rfl | hp
        · exact .head _
        · exact .tail _ (.tail _ hp)
    · rcases List.mem_cons.mp hp with rfl | hp
      · exact Nat.ne_of_gt (hI _ (.head _))
      · exact Nat.ne_of_lt (lt p hp)
  · rintro S c I nx h₁ E Q F1 N1 ⟨_, rfl, _⟩ q
    exact hint_match (X.keeps F1.keep) (N1 _ (.tail _ (.tail _ hx))).1 (by rw [List.size_toArray]; lia) q
  · rintro S I acc nx c s E Q hl ⟨ha, rfl, hne⟩ F1 N1 ne q
    refine next_match (N1 _ (.tail _ (.head _))).1 (N1 _ (.tail _ (.tail _ hx))).1 (v := vs[acc.length]) (by simp [hl]) fun h' hit hs => ?_
    have hI := (N1 _ (.tail _ (.head _)))
    refine q _ ((I, tupIt x (acc.length + 1)) :: news) _ _ ⟨?_, by simp, hne⟩ (F1.change hs hI.2.1 hI.2.2) ?_ ?_
    · rw [List.length_append, List.length_singleton, List.take_add_one, ← ha]; simp [hl]
    · exact news_set (pre := [(S, listOf acc.toArray c)]) (post := news) N1 (fun p hp => by rw [List.mem_singleton.mp hp]; exact Ne.symm (ne _ (.head _))) hne hs hit
    · exact fun p hp => by
        rcases List.mem_cons.mp hp with rfl | hp
        · exact ne (I, tupIt x acc.length) (.head _)
        · exact ne _ (.tail _ hp)
  · rintro S I acc nx c s E Q hl ⟨ha, rfl, hne⟩ F1 N1 ne q
    refine next_match_end (by exact hh) (N1 _ (.tail _ (.head _))).1 (N1 _ (.tail _ (.tail _ hx))).1 (by simp [hl]) fun h' hs => ?_
    have hI := (N1 _ (.tail _ (.head _)))
    refine q news _ _ ⟨by rw [ha, hl, List.take_length], rfl⟩ (Fr.extOther F1 hs hI.2.1 hI.2.2) (News.extOther (News.drop2 N1) hs fun p hp => ?_)
    rcases List.mem_cons.mp hp with rfl | hp
    · exact Ne.symm (ne _ (.head _))
    · exact hne p hp
  · rintro D us nx c h' tk _ ⟨rfl, rfl⟩ lt F1 N1
    exact h D c h' tk F1 N1 lt
end
end
end Mine
end
section
open PySem PySem.W PySem.Spec PySem.Calls PyProof.Rows
set_option maxRecDepth 100000
set_option maxHeartbeats 4000000
namespace Mine
/-! the fields of an object, in a dict of its own -/
structure Flds (k : Nat) (es : List DictEntry) (f : Str → Option Value) : Prop where
  len : es.length ≤ k
  noref : es.any (·.refKey) = false
  get : ∀ name, (es.find? (·.key.isStr name)).map (·.val) = f name
theorem Flds.nil : Flds 0 [] (fun _ => none) := ⟨Nat.le_refl _, rfl, fun _ => rfl⟩
theorem Flds.getL {k : Nat} {es : List DictEntry} {f : Str → Option Value} (h : Flds k es f) (name : Str) : getL name es = some (f name) := by
  have := h.get name
  unfold PySem.W.getL
  cases hq : es.find? (·.key.isStr name) with
  | none => rw [hq] at this; rw [← this]; simp [h.noref]
  | some e => rw [hq] at this; rw [← this]; rfl
theorem isStr_eq {v : Value} {a b : Str} (h : v.isStr a = true) (h' : v.isStr b = true) : a = b := by
  cases v <;> simp [Value.isStr] at h h'
  rw [← h, ← h']
theorem Flds.put {name : Str} {hsh : Int} {t : Tok} {v : Value} : ∀ {k : Nat} {es : List DictEntry} {f : Str → Option Value}, Flds k es f → Flds (k + 1) (putL name hsh (.str name t) v es) (fun y => if y = name then some v else f y) := by
  have key : ∀ es : List DictEntry, (putL name hsh (.str name t) v es).length ≤ es.length + 1 ∧ (putL name hsh (.str name t) v es).any (·.refKey) = es.any (·.refKey) ∧
      ∀ y, ((putL name hsh (.str name t) v es).find? (·.key.isStr y)).map (·.val) = if y = name then some v else (es.find? (·.key.isStr y)).map (·.val) := by
    intro es
    induction es with
    | nil =>
      refine ⟨Nat.le_refl _, rfl, fun y => ?_⟩
      unfold putL
      by_cases e : y = name
      · subst e; simp [Value.isStr]
      · simp [Value.isStr, e, Ne.symm e]
    | cons e r ih =>
      obtain ⟨i1, i2, i3⟩ := ih
      unfold putL
      cases he : e.key.isStr name with
      | true =>
        refine ⟨Nat.le_succ _, rfl, fun y => ?_⟩
        by_cases ey : y = name
        · subst ey; simp [he]
        · have : e.key.isStr y = false := by
            cases h : e.key.isStr y with
            | false => rfl
            | true => exact absurd (isStr_eq h he) ey
          simp [this, ey]
      | false =>
        refine ⟨by simp; lia, by simp [i2], fun y => ?_⟩
        simp only [Bool.false_eq_true, if_false, List.find?_cons]
        cases h : e.key.isStr y with
        | true =>
          have : y ≠ name := fun q => by rw [q, he] at h; cases h
          simp [this]
        | false => exact i3 y
  intro k es f h
  obtain ⟨k1, k2, k3⟩ := key es
  exact ⟨Nat.le_trans k1 (Nat.succ_le_succ h.len), k2.trans h.noref, fun y => by rw [k3, h.get]⟩
theorem fill10 (w : World) : OpenLaw.prog PySem.Challenge.rw_pg0326_01 = OpenLaw.prog PySem.Challenge.rw_pg0326_01 ∧ KF w.params = KF w.params := by
  w_on
  k_fill
  exact ⟨rfl, rfl⟩
section
variable {w : World} {A : Around} {E : Value → Shared → Prop} {s : Shared} {h₀ : Heap} {L M D : Addr} {m : Str → Option Value} {news : Led} {es : List DictEntry} {k n : Nat} {f : Str → Option Value} {name : Str} {v : Value}
theorem pg242 (w : World) (name : Str) : plainGet (KF w.params) 242 name = true := (show plainGet (KF w.params) 242 "a" = true by w_on; k_is)
theorem hd242 (w : World) : hasDictIn (KF w.params) 242 = true := by w_on; k_is
theorem po242 (w : World) : plainOver (KF w.params) 242 = true := by w_on; k_is
theorem sa242 (w : World) : findIn (KF w.params) (.ref 242) "__setattr__" = some (some (.builtin "object.__setattr__")) := by w_on; k_is
theorem inst242 {h : Heap} (N : News h₀ L h news) (hM : (M, instObj 242 D) ∈ news) (hD : (D, dictOf es n) ∈ news) : InstAt h M (instObj 242 D) 242 (some (dictOf es n)) := ⟨(N _ hM).1, rfl, rfl, (N _ hD).1⟩
theorem get_fld {expr : Bool} {Q : Value → Shared → Prop} (F : Fr h₀ L s.heap m) (X : (KF w.params).In h₀) (N : News h₀ L s.heap news) (hM : (M, instObj 242 D) ∈ news) (hD : (D, dictOf es n) ∈ news) (fl : Flds k es f)
    (ha : findIn (KF w.params) (.ref 242) name = some none) (hl : f name = some v) (hv : handedIn v = true) (h : Q v { s with toks := s.toks + 1 }) : wpAny (M0 w) A (getAttr (.ref M) name expr) Q E s :=
  get_own F X (inst242 N hM hD) (pg242 w name) (hd242 w) ha rfl (by rw [fl.getL, hl]) hv h
theorem set_fld {Q : Unit → Shared → Prop} {g : Obj → Led} (F : Fr h₀ L s.heap m) (X : (KF w.params).In h₀) (N : News h₀ L s.heap news) (hM : (M, instObj 242 D) ∈ news) (hD : (D, dictOf es n) ∈ news) (fl : Flds k es f) (hk : k < 900)
    (ha : findIn (KF w.params) (.ref 242) name = some none) (U : UpdF D (dictOf es n) news g)
    (h : ∀ es' n' h', Flds (k + 1) es' (fun y => if y = name then some v else f y) → Fr h₀ L h' m → News h₀ L h' (g (dictOf es' n')) → Q () { s with heap := h', toks := s.toks + 2 }) : wpAny (M0 w) A (setAttr (.ref M) name v) Q E s := by
  obtain ⟨pre, post, e1, e2, a, b⟩ := U.split
  have fl' := fl.put (name := name) (hsh := PyData.keyHash w.params name) (t := s.toks + 1) (v := v)
  have up : Upd D (dictOf es n) (dictOf (putL name (PyData.keyHash w.params name) (.str name (s.toks + 1)) v es) (putN name es n)) news (g (dictOf (putL name (PyData.keyHash w.params name) (.str name (s.toks + 1)) v es) (putN name es n))) := by
    rw [e2]; subst e1
    clear e2 U N hM hD
    induction pre with
    | nil => exact Upd.head b
    | cons p r ih => exact Upd.tail (a p (.head _)) (ih fun q hq => a q (.tail _ hq))
  exact set_dict F X N (inst242 N hM hD) rfl (sa242 w) (po242 w) (by unfold takerIn; rw [ha]; rfl) (hd242 w) (by rw [fl.getL]; rfl) rfl up (Nat.le_trans fl'.len (by lia)) fun h' F' N' => h _ _ h' fl' F' N'
theorem meth_fld {pl : Sem Bool} {Q : Value × List Value → Shared → Prop} {a : Addr} (F : Fr h₀ L s.heap m) (X : (KF w.params).In h₀) (N : News h₀ L s.heap news) (hM : (M, instObj 242 D) ∈ news) (hD : (D, dictOf es n) ∈ news) (fl : Flds k es f)
    (hf : findIn (KF w.params) (.ref 242) name = some (some (.ref a))) (ht : isFn (KF w.params) (.ref a) = true) (hl : f name = none) (h : Q (.ref a, [.ref M]) s) : wpAny (M0 w) A (getMethod (.ref M) name pl) Q E s :=
  method_inst F X (inst242 N hM hD) (pg242 w name) hf ht (by rw [fl.getL, hl]) h
end
end Mine
end
section
open PySem PySem.W PySem.Spec PySem.Calls PyProof.Rows
set_option maxRecDepth 100000
namespace Mine
section
variable {prog : Program} {w : World} {A : Around} {E : Value → Shared → Prop} {s : Shared} {env : Env} {h₀ : Heap} {target : Expr} {body : List Stmt} {Q : Flow → Shared → Prop}
theorem rest_of2 (ex : List Addr) {I I' : Addr} {c c' : String} (hcl : (["range_iterator", "list_iterator", "enumerate", "dict_keyiterator", "set_iterator"] : List String).contains c = true) (hcl' : (["range_iterator", "list_iterator", "enumerate", "dict_keyiterator", "set_iterator"] : List String).contains c' = true)
    {keep : Led} {xs : List Itm} (J : Nat → (Str → Option Value) → Led → Prop)
    (hk : ∀ i m nx, J i m nx → SubL keep nx) (hx : I ∉ ex) (hx' : I' ∉ ex)
    (turn : ∀ i a v m₁ news₁ it it' h tk, xs[i]? = some a → a.Is v h → J i m₁ news₁ → NoIt ex news₁ → Fr h₀ env.locals h m₁ → News h₀ env.locals h ((I, it) :: (I', it') :: news₁) → (∀ p ∈ news₁, p.1 ≠ I) → (∀ p ∈ news₁, p.1 ≠ I') →
      wpAny (model prog w) A (assign target env v) (fun _ s₂ => wpAny (model prog w) A (execs body env) (Turn h₀ env.locals ex [(I, it), (I', it')] (J (i + 1)) { s with heap := h, toks := tk } Q) E s₂) E { s with heap := h, toks := tk })
    (done : ∀ m₁ news₁ h tk, J xs.length m₁ news₁ → NoIt ex news₁ → Fr h₀ env.locals h m₁ → News h₀ env.locals h news₁ → Q .next { s with heap := h, toks := tk }) :
    ∀ (k i : Nat) m news, i + k = xs.length → J i m news → NoIt ex news → ItemsRest prog w A E h₀ env target body Q s [(I, c), (I', c')] keep (xs.drop i) m news := by
  intro k
  induction k with
  | zero =>
    intro i m news hi hJ hn
    rw [List.drop_of_length_le (by lia)]
    exact ItemsRest.zero fun h tk F N => done m news h tk (by rw [← hi]; exact hJ) hn F N
  | succ k ih =>
    intro i m news hi hJ hn
    have hlt : i < xs.length := by lia
    rw [List.drop_eq_getElem_cons hlt]
    intro v h tk hv F
    refine AllObj.cons fun it hit => AllObj.cons fun it' hit' => AllObj.nil fun N => ?_
    have hi1 : noIt it = false := noIt_of hit hcl
    have hi2 : noIt it' = false := noIt_of hit' hcl'
    have N' : News h₀ env.locals h ((I, it) :: (I', it') :: news) := N
    have hoff := hn.off hi1 hx (News.drop1 (News.drop1 N')) (N' (I, it) (.head _)).1
    have hoff' := hn.off hi2 hx' (News.drop1 (News.drop1 N')) (N' (I', it') (.tail _ (.head _))).1
    refine wpAny_mono (turn i _ v m news it it' h tk (List.getElem?_eq_getElem hlt) hv hJ hn F N' hoff hoff') (fun _ s₂ h₂ => wpAny_mono h₂ (fun f s₃ p => ?_) fun _ _ e => e) fun _ _ e => e
    have fin : (∃ h' tk' m' news', s₃ = { { s with heap := h, toks := tk } with heap := h', toks := tk' } ∧ Fr h₀ env.locals h' m' ∧ News h₀ env.locals h' ([(I, it), (I', it')] ++ news') ∧ NoIt ex news' ∧ J (i + 1) m' news') →
        UnrEndW h₀ env.locals { s with heap := h, toks := tk } [(I, it), (I', it')] (fun m' n' => SubL keep n' ∧ ItemsRest prog w A E h₀ env target body Q s [(I, c), (I', c')] keep (xs.drop (i + 1)) m' n') s₃ := by
      rintro ⟨h', tk', m', news', e, F', N', hn', hj'⟩
      refine ⟨h', tk', m', news', e, F', N', fun p hp q hq => ?_, hk _ _ _ hj', ih (i + 1) m' news' (by lia) hj' hn'⟩
      have Nn := fun r hr => N' r (List.mem_append_right _ hr)
      rcases List.mem_cons.mp hq with rfl | hq
      · exact hn'.off hi1 hx Nn (N' (I, it) (.head _)).1 p hp
      · rw [List.mem_singleton.mp hq]
        exact hn'.off hi2 hx' Nn (N' (I', it') (.tail _ (.head _))).1 p hp
    cases f with
    | ret v => exact p
    | brk => exact p
    | next => exact fin p
    | cont => exact fin p
/-- for i, x in enumerate(l), l a list of the ledger -/
theorem turns_enum (ex : List Addr) {elts : List Expr} {ek} {pos : Pos} {ax : Addr} {vs : List Value} {k : Nat} {m₀ : Str → Option Value} {news : Led} (J : Nat → (Str → Option Value) → Led → Prop)
    (hh : A.handled = none) (F : Fr h₀ env.locals s.heap m₀) (N : News h₀ env.locals s.heap news) (hm : (ax, listOf vs.toArray k) ∈ news) (hk : ∀ i m nx, J i m nx → (ax, listOf vs.toArray k) ∈ nx) (hc : NoIt ex news) (hj : J 0 m₀ news)
    (turn : ∀ (i : Nat) v T t m₁ news₁ I I' it it' h tk, vs[i]? = some v → IsTup h T #[.int (i : Int) t, v] → J i m₁ news₁ → NoIt ex news₁ → Fr h₀ env.locals h m₁ → News h₀ env.locals h ((I, it) :: (I', it') :: news₁) → (∀ p ∈ news₁, p.1 ≠ I) → (∀ p ∈ news₁, p.1 ≠ I') → @Ne Nat I I' →
      wpAny (model prog w) A (assign (.Tuple elts ek pos) env (.ref T)) (fun _ s₂ => wpAny (model prog w) A (execs body env) (Turn h₀ env.locals ex [(I, it), (I', it')] (J (i + 1)) { s with heap := h, toks := tk } Q) E s₂) E { s with heap := h, toks := tk })
    (done : ∀ m₁ news₁ h tk, J vs.length m₁ news₁ → NoIt ex news₁ → Fr h₀ env.locals h m₁ → News h₀ env.locals h news₁ → Q .next { s with heap := h, toks := tk }) :
    wpAny (model prog w) A (call (.type "enumerate") [.ref ax]) (fun xv s₁ => wpAny (model prog w) A (pyIter xv) (fun it s₂ => TurnsAt prog w A h₀ env (.Tuple elts ek pos) body Q E it s₂) E s₁) E s := by
  refine ktu_enum hh F N hm rfl rfl rfl fun I hI => ?_
  have fr : ∀ j, I + j ∉ ex := fun j hm' => by
    obtain ⟨o, ho⟩ := hc.2 _ hm'
    have h1 : I + j < I := hI _ ho
    exact absurd (show @LT.lt Nat _ (I + j) I from h1) (Nat.not_lt.mpr (Nat.le_add_right I j))
  have := rest_of2 (prog := prog) (w := w) (A := A) (E := E) (s := s) (env := env) (h₀ := h₀) (target := .Tuple elts ek pos) (body := body) (Q := Q) ex (I := I + 1) (I' := I) (c := "enumerate") (c' := "list_iterator") (by decide) (by decide) (keep := [(ax, listOf vs.toArray k)]) (xs := enumItems 0 vs) J
    (fun i m nx h => ⟨hk i m nx h, trivial⟩) (fr 1) (fr 0)
    (fun i a v m₁ news₁ it it' h tk ha hv hJ hn F₁ N₁ ho ho' => by
      have hil : i < vs.length := by rw [← enumItems_length vs 0]; exact (List.getElem?_eq_some_iff.mp ha).1
      rw [enumItems_get vs 0 i (List.getElem?_eq_getElem hil)] at ha
      cases ha
      obtain ⟨T, t, rfl, hT⟩ := hv
      rw [Nat.zero_add] at hT
      exact turn i _ T t m₁ news₁ (I + 1) I it it' h tk (List.getElem?_eq_getElem hil) hT hJ hn F₁ N₁ ho ho' (Nat.succ_ne_self _))
    (fun m₁ news₁ h tk hJ => done m₁ news₁ h tk (by rwa [enumItems_length] at hJ)) (enumItems 0 vs).length 0 m₀ news (by simp) hj hc
  exact this
end
end Mine
end
section
open PySem PySem.W PySem.Spec PySem.Calls PyProof.Rows
set_option maxRecDepth 100000
namespace Mine
section
variable {prog : Program} {w : World} {A : Around} {E : Value → Shared → Prop} {s : Shared} {env : Env} {h₀ : Heap} {x : Str} {body : List Stmt} {Q : Flow → Shared → Prop}
/-- a loop over what walks by an iterator of its own and one object d of the ledger, which the body leaves alone -/
theorem loop_two (ex : List Addr) {I d : Addr} {od : Obj} {n : Nat} {P : Nat → Value → Prop} {St : Nat → Heap → Prop} {m₀ : Str → Option Value} {news : Led} (J : Nat → (Str → Option Value) → Led → Prop)
    (W : Walks prog w A I [I, d] [I] n P St) (hI : ∀ i h, St i h → ∃ it, h.get? I = some it ∧ noIt it = false) (hLI : env.locals ≠ I) (hx : I ∉ ex) (hIn : h₀.get? I = none) (hst : St 0 s.heap)
    (F : Fr h₀ env.locals s.heap m₀) (N : News h₀ env.locals s.heap news) (hc : NoIt ex news) (hj : J 0 m₀ news) (hk : ∀ i m nx, J i m nx → (d, od) ∈ nx)
    (turn : ∀ i v m₁ news₁ it h tk, i < n → P i v → J i m₁ news₁ → NoIt ex news₁ → Fr h₀ env.locals h (fun y => if y = x then some v else m₁ y) → News h₀ env.locals h ((I, it) :: news₁) → (∀ p ∈ news₁, p.1 ≠ I) →
      wpAny (model prog w) A (execs body env) (Turn h₀ env.locals ex [(I, it)] (J (i + 1)) { s with heap := h, toks := tk } Q) E { s with heap := h, toks := tk })
    (done : ∀ m₁ news₁ h tk, J n m₁ news₁ → NoIt ex news₁ → Fr h₀ env.locals h m₁ → News h₀ env.locals h news₁ → Q .next { s with heap := h, toks := tk }) :
    LoopAtV prog w A h₀ env x body Q E (.ref I) s := by
  have offI : ∀ {h : Heap} {nx : Led} {i : Nat}, St i h → NoIt ex nx → News h₀ env.locals h nx → ∀ p ∈ nx, p.1 ∉ [I] := fun hs hn hN p hp hb => by
    obtain ⟨it, h1, h2⟩ := hI _ _ hs
    exact hn.off h2 hx hN h1 p hp (List.mem_singleton.mp hb)
  have hd := N _ (hk _ _ _ hj)
  have hdL : env.locals ≠ d := fun e => hd.2.1 e.symm
  refine ⟨I, [I, d], [I], n, P, St, m₀, news, fun i m nx => NoIt ex nx ∧ J i m nx, rfl, W, by simpa using ⟨hLI, hdL⟩, by simpa using hIn, offI hst hc N, hst, F, N, ⟨hc, hj⟩, ?_, ?_⟩
  · rintro i v m₁ news₁ s₁ own ⟨hh, tk, rfl⟩ hi hP ⟨hn, hJ⟩ hoff hown hget hall hSt F₁ N₁
    obtain ⟨it, h1, h2⟩ := hI _ _ hSt
    have hio : (I, it) ∈ own := hall I (by simp) hIn it h1
    have hdn := N₁ _ (List.mem_append_right own (hk _ _ _ hJ))
    have hone : ∀ p ∈ own, p = (I, it) ∨ p = (d, od) := fun p hp => by
      obtain ⟨a, b⟩ := p
      have q : hh.get? a = some b := hget _ hp
      rcases List.mem_cons.mp (hown _ hp) with e | e
      · left
        have e : a = I := e
        subst e
        rw [h1] at q; cases q; rfl
      · right
        have e : a = d := List.mem_singleton.mp e
        subst e
        have : hh.get? a = some od := hdn.1
        rw [this] at q; cases q; rfl
    have N₂ : News h₀ env.locals hh ((I, it) :: news₁) := fun p hp => by
      rcases List.mem_cons.mp hp with rfl | hp
      · exact N₁ _ (List.mem_append_left _ hio)
      · exact N₁ p (List.mem_append_right _ hp)
    refine wpAny_mono (turn i v m₁ news₁ it hh tk hi hP hJ hn F₁ N₂ (hn.off h2 hx (fun p hp => N₁ p (List.mem_append_right _ hp)) h1)) (fun f s₂ p => ?_) fun _ _ e => e
    have fin : (∃ h' tk' m' news', s₂ = { s with heap := h', toks := tk' } ∧ Fr h₀ env.locals h' m' ∧ News h₀ env.locals h' ([(I, it)] ++ news') ∧ NoIt ex news' ∧ J (i + 1) m' news') →
        LoopStepU h₀ env.locals [I] own (fun m nx => NoIt ex nx ∧ J (i + 1) m nx) { s with heap := hh, toks := tk } .next s₂ := by
      rintro ⟨h', tk', m', news', e, F', N', hn', hj'⟩
      refine ⟨rfl, h', tk', m', news', e, F', fun p hp => ?_, fun p hp hb => ?_, hn', hj'⟩
      · rcases List.mem_append.mp hp with hp | hp
        · rcases hone p hp with rfl | rfl
          · exact N' _ (List.mem_append_left _ (.head _))
          · exact N' _ (List.mem_append_right _ (hk _ _ _ hj'))
        · exact N' p (List.mem_append_right _ hp)
      · exact hn'.off h2 hx (fun q hq => N' q (List.mem_append_right _ hq)) (N' (I, it) (List.mem_append_left _ (.head _))).1 p hp (List.mem_singleton.mp hb)
    cases f with
    | ret v => exact .ret p
    | brk => exact .brk p
    | next => exact .next (fin p)
    | cont => exact .cont (fin p)
  · rintro h' tk m' news' F' N' _ ⟨hn, hJ⟩
    exact done m' news' h' tk hJ hn F' N'
/-- for x in d.keys() -/
theorem loop_keys {K : Type} [DecidableEq K] {knd : KeyKind prog w K} (ex : List Addr) {v d : Addr} {od : Obj} {kvs : List (K × Value)} {m₀ : Str → Option Value} {news : Led} (J : Nat → (Str → Option Value) → Led → Prop)
    (hh : A.handled = none) (F : Fr h₀ env.locals s.heap m₀) (N : News h₀ env.locals s.heap news) (hv : (v, { cls := .type "dict_keys", data := .fields #[.ref d] }) ∈ news) (hm : (d, od) ∈ news) (hd : od.IsDictOf knd kvs)
    (hc : NoIt ex news) (hj : J 0 m₀ news) (hk : ∀ i m nx, J i m nx → (d, od) ∈ nx)
    (turn : ∀ i k y vx m₁ news₁ I it h tk, kvs[i]? = some (k, y) → knd.is k vx = true → J i m₁ news₁ → NoIt ex news₁ → Fr h₀ env.locals h (fun y => if y = x then some vx else m₁ y) → News h₀ env.locals h ((I, it) :: news₁) → (∀ p ∈ news₁, p.1 ≠ I) →
      wpAny (model prog w) A (execs body env) (Turn h₀ env.locals ex [(I, it)] (J (i + 1)) { s with heap := h, toks := tk } Q) E { s with heap := h, toks := tk })
    (done : ∀ m₁ news₁ h tk, J kvs.length m₁ news₁ → NoIt ex news₁ → Fr h₀ env.locals h m₁ → News h₀ env.locals h news₁ → Q .next { s with heap := h, toks := tk }) :
    wpAny (model prog w) A (pyIter (.ref v)) (fun it s₂ => LoopAtV prog w A h₀ env x body Q E it s₂) E s := by
  obtain ⟨ep, hat⟩ := (kda_dict N hm hd).dictAt
  refine kdl_pyIter_keys (knd := knd) ⟨_, (N _ hv).1, rfl, rfl⟩ hat ?_
  have hlt : ∀ p ∈ news, p.1 < s.heap.objs.size := fun p hp => Heap.lt_size (N p hp).1
  have hIn : h₀.get? s.heap.objs.size = none := by
    cases e : h₀.get? s.heap.objs.size with
    | none => rfl
    | some o => exact absurd (Heap.lt_size (F.keep _ _ e)) (Nat.lt_irrefl _)
  refine loop_two ex J (Walks.dictKeys (knd := knd) hh _ d (Nat.ne_of_lt (hlt _ hm)) kvs ep) (fun i h hst => ?_) (Nat.ne_of_lt F.ns.lt) (hc.fresh N) hIn ⟨⟨_, Heap.get?_push_size _ rfl, rfl, rfl⟩, hat.push _⟩ (F.push _)
    (fun p hp => ⟨Heap.get?_push_of_some _ (N p hp).1, (N p hp).2⟩) hc hj hk ?_ done
  · obtain ⟨o, ho, hcl, _⟩ := hst.1
    exact ⟨o, ho, noIt_of hcl⟩
  · rintro i vx m₁ news₁ it h tk hi ⟨k, y, hky, hkx⟩ hJ hno F₁ N₁ hoff
    exact turn i k y vx m₁ news₁ _ it h tk hky hkx hJ hno F₁ N₁ hoff
end
end Mine
end
section
open PySem PySem.W PySem.Spec PySem.Calls PyProof.Rows
set_option maxRecDepth 100000
set_option maxHeartbeats 1000000
namespace Mine
noncomputable def bt (w : World) : Bool := w.params.followText "set-order"
noncomputable abbrev set0 (b : Bool) : Obj := { cls := .type "set", dict := none, data := .set #[] 0 (.fresh 0 0 (!b)) }
noncomputable def tab1 (b : Bool) : SetTable := { mask := 7, place := #[0], dummies := #[], finger := 0, led := !b, moves := 0, plain := true }
noncomputable abbrev set1 (b : Bool) (t : Tok) : Obj := { cls := .type "set", dict := none, data := .set #[(0, .int 0 t)] 1 (tab1 b) }
section
variable {prog : Program} {w : World} {A : Around} {E : Value → Shared → Prop} {s : Shared}
theorem code_set_new' {Q₁ : Value → Shared → Prop} (h : Q₁ (.ref s.heap.objs.size) { s with heap := s.heap.push (set0 (bt w)) }) :
    codeAny (model prog w) A (.call (.builtin "set.__new__") ⟨[.type "set"], []⟩) (wants Q₁ E) s := by
  refine codeAny_of_tree ?_
  show wpAny _ A.in1 (do checkBuiltinCall "set.__new__" ⟨[.type "set"], []⟩; again (.builtin "set.__new__" ⟨[.type "set"], []⟩)) _ _ s
  refine wpAny_bind (wpAny_of_eq PySem.F.newCall_set_0 (wpAny_pure ⟨plainId_quiet PySem.F.plain_set_new _, codeAny_builtin PySem.F.entry_set_new ?_⟩))
  rw [Around.under_plainId PySem.F.plain_set_new _]
  unfold Builtin.«set.__new__» Builtin.Frozenset.newClass
  have hsub := sub_set_self
  obtain ⟨hp, g, d, tk, os⟩ := s
  dsimp only
  wp_walk
  refine wpAny_askSetting (wpAny_pure ?_)
  dsimp only
  simp only [newObj]
  refine wpAny_bind (wpAny_alloc (wpAny_pure ?_))
  exact wpAny_pure h
theorem call_set_0' {Q : Value → Shared → Prop} (h : Q (.ref s.heap.objs.size) { s with heap := s.heap.push (set0 (bt w)) }) : wpAny (model prog w) A (call (.type "set") []) Q E s := by
  obtain ⟨c, tl, hmro⟩ := PySem.F.called_set.mro
  have hmade := PySem.F.called_set.made
  have hsub := PySem.F.called_set.sub
  refine wpAny_call (codeAny_of_tree ?_)
  show wpAny _ _ (callAny (.type "set") _) _ _ _
  refine wpAny_pure ⟨Code.quiet_builtin _ (by decide +kernel), codeAny_builtin PySem.F.entry_type_call ?_⟩
  rw [Around.under_plain (weight_type_call_type "set" [] []) rfl]
  have h1 := PySem.F.called_set.notType
  have h2 := PySem.F.called_set.canCreate
  have hct := PySem.F.typeCall_set_0
  repeat (any_goals (first | assumption | wp_step))
  refine codeAny_mono (code_set_new' (E := E) (Q₁ := fun obj s₁ => obj = .ref s.heap.objs.size ∧ s₁ = { s with heap := s.heap.push (set0 (bt w)) }) ⟨rfl, rfl⟩) fun r s₁ hr => ?_
  cases r with
  | error e => exact hr
  | ok fl =>
    cases fl with
    | ret obj =>
      obtain ⟨rfl, rfl⟩ := hr
      have hS : (s.heap.push (set0 (bt w))).get? s.heap.objs.size = some (set0 (bt w)) := Heap.get?_push_size _ rfl
      have hT : Shared.TypeIs { s with heap := s.heap.push (set0 (bt w)) } (.ref s.heap.objs.size) "set" := ⟨_, hS, rfl⟩
      have hli := PySem.F.called_set.init.lookup
      have hbi := PySem.F.called_set.init.bind (.ref s.heap.objs.size)
      repeat (any_goals (first | assumption | wp_step))
      refine codeAny_mono (codeAny_call_builtin (R := wants (fun r s₂ => r = .none ∧ Q (.ref s.heap.objs.size) s₂) E) PySem.F.called_set.init.plain PySem.F.entry_set_init (check_set_init hT ?_)) fun r₂ s₂ hr₂ => ?_
      · unfold Builtin.«set.__init__» noKeywords
        wp_walk
        exact ⟨rfl, h⟩
      · cases r₂ with
        | error e => exact hr₂
        | ok fl₂ =>
          cases fl₂ with
          | ret r =>
            obtain ⟨rfl, hq⟩ := hr₂
            repeat (any_goals (first | assumption | wp_step))
          | _ => exact hr₂.elim
    | _ => exact hr.elim
theorem set0_obj (b : Bool) : Obj.SetObjOf (PySem.intKind prog w) (set0 b) (fun _ => false) 0 := setObjOf_fresh _
theorem set1_obj (b : Bool) (t : Tok) : Obj.SetObjOf (PySem.intKind prog w) (set1 b t) (fun k => decide (k = 0)) 1 := by
  refine ⟨⟨rfl, rfl, rfl⟩, #[(0, .int 0 t)], 1, _, rfl, ?_, ?_, rfl, ?_⟩
  · intro e he
    have e1 : e = (0, .int 0 t) := by simpa using he
    subst e1
    exact ⟨⟨0, intKind_is prog w 0 t, rfl⟩, rfl⟩
  · intro k
    constructor
    · intro h
      have : k = 0 := of_decide_eq_true h
      subst this
      exact ⟨(0, .int 0 t), by simp, intKind_is prog w 0 t⟩
    · rintro ⟨e, he, hk⟩
      have e1 : e = (0, .int 0 t) := by simpa using he
      subst e1
      exact decide_eq_true ((PySem.intKind prog w).inj _ k 0 hk (intKind_is prog w 0 t))
  · cases b <;> rfl
/-- the first junk: 0 -/
theorem call_set_add0 {a : Addr} {b : Bool} {t : Tok} {Q : Value → Shared → Prop} (hS : s.heap.get? a = some (set0 b))
    (h : ∀ h', Heap.SameBut a s.heap h' → h'.get? a = some (set1 b t) → Q .none { s with heap := h', toks := s.toks + 1 }) : wpAny (model prog w) A (call (.builtin "set.add") [.ref a, .int 0 t]) Q E s := by
  have hT : s.TypeIs (.ref a) "set" := ⟨_, hS, rfl⟩
  refine wpAny_call_entry PySem.F.slot_set_add hT PySem.F.entry_set_add ?_ (PySem.F.args_set_add_2 _ _)
  unfold Builtin.«set.add» Builtin.Frozenset.oneOther
  simp only [List.isEmpty_nil, bind_assoc]
  unfold Builtin.Frozenset.addrOf setAdd
  refine wpAny_bind (wpAny_pure ?_)
  try dsimp only
  refine wpAny_bind (wpAny_pure ?_)
  try dsimp only
  refine wpAny_bind ?_
  refine wpAny_holding ?_
  refine wpAny_bind ((PySem.intKind prog w).pyHash (intKind_is prog w 0 t) ?_)
  unfold setAddHashed setAddHashedIn
  have hf : (SetTable.fresh 0 0 (!b)).fits 0 = true := by cases b <;> rfl
  refine wpAny_holding (wpAny_bind (wpAny_setState_of hS rfl hf ?_))
  dsimp only
  rw [byScan_of (knd := PySem.intKind prog w) rfl (by decide) (fun e he => by simp at he)]
  simp only [↓reduceIte]
  unfold setAddByScan
  refine wpAny_bind ?_
  refine wpAny_bind (wpAny_rule ?_)
  refine wpAny_bind (wpAny_setScan_of (intKind_is prog w 0 t) (s := { s with toks := s.toks + 1 }) hS rfl hf (fun e he => by simp at he) ?_)
  have hL : layNew (.fresh 0 0 (!b)) #[] ((PySem.intKind prog w).hash 0) (.int 0 t) = (#[(0, .int 0 t)], tab1 b, false, false) := by cases b <;> rfl
  dsimp only
  rw [hL]
  dsimp only
  refine wpAny_bind (wpAny_pure ?_)
  rw [if_pos (show (tab1 b).plain = true from rfl)]
  refine wpAny_bind ?_
  rw [hashByValue_scannable 8 rfl]
  refine wpAny_pure ?_
  try simp only [↓reduceIte]
  have hup := Heap.get?_update_self (Obj.putSet #[(0, Value.int 0 t)] (tab1 b)) hS (by rw [putSet_of _ _ rfl]; rfl)
  rw [putSet_of _ _ rfl] at hup
  refine wpAny_bind (wpAny_storeSet_of (s := { s with toks := s.toks + 1 }) hS rfl ?_ (by rw [PySem.sizeLine_eq]; simp))
  rw [if_neg (by cases b <;> exact (by decide : ¬ (false = true)))]
  refine wpAny_pure ?_
  dsimp only
  refine wpAny_pure (wpAny_pure ?_)
  exact ⟨_, rfl, h _ (Heap.SameBut.update ..) hup⟩
theorem slot_setit_next : Slot "set_iterator" "__next__" "set_iterator.__next__" :=
  .of (owner := "set_iterator") (n := "__next__") (by rw [typeLookup_type, builtinLookup_eq_fast]; kernel_rfl) (by decide +kernel) (by decide +kernel) (by decide +kernel)
    (by first | exact .inl (by decide +kernel) | exact .inr (by decide +kernel)) (by rw [isSubtype_type]; kernel_rfl)
theorem slot_setit_iter : Slot "set_iterator" "__iter__" "set_iterator.__iter__" :=
  .of (owner := "set_iterator") (n := "__iter__") (by rw [typeLookup_type, builtinLookup_eq_fast]; kernel_rfl) (by decide +kernel) (by decide +kernel) (by decide +kernel)
    (by first | exact .inl (by decide +kernel) | exact .inr (by decide +kernel)) (by rw [isSubtype_type]; kernel_rfl)
theorem entry_setit_next : entryFor table "set_iterator.__next__" = some Builtin.«set_iterator.__next__» := entryFor_of_fast (by kernel_rfl)
theorem args_setit_next (a : Value) : argsOk "set_iterator.__next__" ⟨[a], []⟩ := by unfold argsOk; kernel_rfl
theorem entry_set_iter : entryFor table "set.__iter__" = some Builtin.«frozenset.__iter__» := entryFor_alias (id' := "frozenset.__iter__") (by kernel_rfl) rfl (by decide +kernel) (by kernel_rfl)

noncomputable abbrev setIt (a : Addr) (sl i n ep : Nat) : Obj := { cls := .type "set_iterator", data := .fields #[.int sl 0, .int i 0, .ref a, .int n 0, .int ep 0] }
theorem iter_set {a : Addr} {o : Obj} {es : Array (Int × Value)} {ep : Nat} {tb : SetTable} {Q : Value → Shared → Prop} (ho : s.heap.get? a = some o) (hc : o.cls = .type "set") (hd : o.data = .set es ep tb) (hf : tb.fits es.size = true) (hs : es.size ≤ 1)
    (hQ : Q (.ref s.heap.objs.size) { s with heap := s.heap.push (setIt a 0 0 es.size ep) }) : wpAny (model prog w) A (pyIter (.ref a)) Q E s := by
  have hT : s.TypeIs (.ref a) "set" := ⟨_, ho, hc⟩
  refine wpAny_pyIter_slot hT PySem.F.slot_set_iter (wpAny_call_entry PySem.F.slot_set_iter hT entry_set_iter ?_ (PySem.F.args_set_iter_1 _))
  unfold Builtin.«frozenset.__iter__» Builtin.Frozenset.slot0 slotArgs
  refine wpAny_bind ?_
  refine wpAny_bind ?_
  refine wpAny_pure ?_
  unfold Builtin.Frozenset.addrOf
  refine wpAny_pure ?_
  dsimp only
  refine wpAny_bind ?_
  unfold Builtin.Frozenset.sizeOf
  refine wpAny_bind (wpAny_setEntries_of ho hd hf (wpAny_pure ?_))
  refine wpAny_bind ?_
  unfold setDrawn setsByText
  refine wpAny_bind (wpAny_setState_of ho hd hf ?_)
  dsimp only
  refine wpAny_bind (wpAny_bind (wpAny_askSetting (wpAny_pure ?_)))
  refine wpAny_pure ?_
  refine wpAny_ite_split (fun hab => ?_) (fun _ => ?_)
  · have hab : (_ && (!tb.plain && decide (es.size > 1))) = true := hab
    simp only [Bool.and_eq_true, decide_eq_true_eq] at hab
    lia
  refine wpAny_bind (wpAny_pure ?_)
  refine wpAny_bind (wpAny_setEpoch_of ho hd hf ?_)
  refine wpAny_bind (wpAny_newObj_type (wpAny_pure ?_))
  exact ⟨_, rfl, "set_iterator", _, ⟨_, Heap.get?_push_size _ rfl, rfl⟩, slot_setit_next.lookup, hQ⟩
theorem pick_one {f : Nat → Nat} {e : Int × Value} : pickOrder f #[e] = #[e] := by
  unfold pickOrder
  show pickOrder.go f 1 0 [e] #[] = _
  unfold pickOrder.go
  simp [Nat.mod_one, pickOrder.go]
noncomputable def setR (b : Bool) (es : Array (Int × Value)) (tb : SetTable) (sl i : Nat) : Option (Value × Nat) :=
  if b = true then (es[i]?).map fun e => (e.2, sl) else match es[SetTable.below tb.place sl]?, tb.place[SetTable.below tb.place sl]? with
    | some (_, x), some j => some (x, j + 1)
    | _, _ => none
theorem set_next {a : Addr} {o : Obj} {es : Array (Int × Value)} {sl i ep : Nat} {tb : SetTable} {Q : Option (Value × Nat) → Shared → Prop} (ho : s.heap.get? a = some o) (hd : o.data = .set es ep tb) (hf : tb.fits es.size = true) (hs : es.size ≤ 1)
    (hled : bt w = false → tb.led = true ∨ es = #[]) (h : Q (setR (bt w) es tb sl i) s) : wpAny (model prog w) A (setNext a sl i ep) Q E s := by
  unfold setNext
  refine wpAny_bind (wpAny_setState_of ho hd hf ?_)
  dsimp only
  unfold setsByText
  refine wpAny_bind (wpAny_bind (wpAny_askSetting (wpAny_pure ?_)))
  refine wpAny_ite_split (fun hb => ?_) (fun hb => ?_)
  · have hb : bt w = true := hb
    rw [bne_self_eq_false]
    simp only [Bool.false_eq_true, if_false]
    refine wpAny_bind ?_
    unfold setWalk setsByText
    refine wpAny_bind (wpAny_setState_of ho hd hf ?_)
    dsimp only
    refine wpAny_bind (wpAny_bind (wpAny_askSetting (wpAny_pure ?_)))
    refine wpAny_ite_split (fun _ => ?_) (fun hab => absurd hb hab)
    refine wpAny_bind (wpAny_askSetting (wpAny_pure ?_))
    refine wpAny_pure ?_
    have e : ∀ f, pickOrder f es = es := fun f => by
      rcases es with ⟨l⟩
      match l, hs with
      | [], _ => rfl
      | [e], _ => exact pick_one
      | _ :: _ :: _, h => exact absurd h (by simp)
    rw [e]
    unfold setR at h
    rw [if_pos hb] at h
    exact h
  · have hb : ¬ bt w = true := hb
    refine wpAny_ite_split (fun hab => ?_) (fun _ => ?_)
    · have hab : (!tb.plain && decide (es.size > 1)) = true := hab
      simp only [Bool.and_eq_true, decide_eq_true_eq] at hab
      lia
    refine wpAny_bind ?_
    show wpAny _ _ (if (!tb.led && !es.isEmpty) = true then _ else _) _ _ _
    refine wpAny_ite_split (fun hab => ?_) (fun _ => ?_)
    · exfalso
      rcases hled (by simpa using hb) with e | e
      · rw [e] at hab; simp at hab
      · rw [e] at hab; simp at hab
    refine wpAny_pure (wpAny_pure ?_)
    unfold setR at h
    rw [if_neg hb] at h
    exact h
theorem next_set_pre {I a : Addr} {o : Obj} {es : Array (Int × Value)} {sl i ep : Nat} {tb : SetTable} {Q : Option Value → Shared → Prop} (hit : s.heap.get? I = some (setIt a sl i es.size ep)) (ho : s.heap.get? a = some o) (hd : o.data = .set es ep tb) (hf : tb.fits es.size = true) (hs : es.size ≤ 1)
    (hled : bt w = false → tb.led = true ∨ es = #[])
    (hc : wpAny (model prog w) A.in1 (match setR (bt w) es tb sl i with
        | some (x, next) => do setField (.ref I) 0 (rawInt next); setField (.ref I) 1 (rawInt (i + 1)); ret x
        | none => do setField (.ref I) 2 .none; raiseNew (← newExc (.type "StopIteration") [])) (fun fin s' => ∃ v, fin = .done (.ret v) ∧ Q (some v) s') (fun e s' => wpAny (model prog w) A (isInstance e (.type "StopIteration")) (fun b s'' => b = true ∧ Q none s'') E s') s) : wpAny (model prog w) A (pyNext (.ref I)) Q E s := by
  have hT : s.TypeIs (.ref I) "set_iterator" := ⟨_, hit, rfl⟩
  unfold pyNext
  refine wpAny_bind (wpAny_attempt (wpAny_callSpecial?_slot (name := Str.ofString "__next__") hT slot_setit_next
    (wpAny_call_entry slot_setit_next hT entry_setit_next ?_ (args_setit_next _))))
  unfold Builtin.«set_iterator.__next__» slotArgs
  refine wpAny_bind (wpAny_pure ?_)
  dsimp only
  refine wpAny_bind (wpAny_fieldsOf hit rfl ?_)
  dsimp only
  refine wpAny_bind (wpAny_setEntries_of ho hd hf ?_)
  rw [bne_self_eq_false]
  simp only [Bool.false_eq_true, if_false]
  refine wpAny_bind (set_next ho hd hf hs hled ?_)
  refine wpAny_mono hc (fun fin s' hq => ?_) (fun e s' hq => ?_)
  · obtain ⟨v, rfl, q⟩ := hq
    exact ⟨v, rfl, wpAny_pure q⟩
  · refine wpAny_bind (wpAny_mono hq (fun b s'' q => ?_) fun _ _ e => e)
    obtain ⟨rfl, q⟩ := q
    exact wpAny_pure q
theorem next_set_end {I a : Addr} {o : Obj} {es : Array (Int × Value)} {sl i ep : Nat} {tb : SetTable} {Q : Option Value → Shared → Prop} (hh : A.handled = none) (hit : s.heap.get? I = some (setIt a sl i es.size ep)) (ho : s.heap.get? a = some o) (hd : o.data = .set es ep tb) (hf : tb.fits es.size = true) (hs : es.size ≤ 1)
    (hled : bt w = false → tb.led = true ∨ es = #[]) (hr : setR (bt w) es tb sl i = none) (hQ : ∀ h', Heap.ExtBut I s.heap h' → Q none { s with heap := h' }) : wpAny (model prog w) A (pyNext (.ref I)) Q E s := by
  refine next_set_pre hit ho hd hf hs hled ?_
  rw [hr]
  dsimp only
  refine wpAny_bind (wpAny_setField hit rfl (by simp) ?_)
  show wpAny _ _ (newExc (.type "StopIteration") [] >>= _) _ _ _
  refine wpAny_bind ?_
  simp only [newExc, newTuple]
  refine wpAny_bind (wpAny_newObj_type ?_ (by size_fits))
  refine wpAny_bind (m := firstArgMember _ _) (wpAny_of_eq (a := Value.none) (by first | rfl | (simp only [firstArgMember]; rfl)) ?_)
  refine wpAny_newObj_type ?_ (by size_fits)
  simp only [raiseNew]
  refine wpAny_bind (wpAny_handled ?_)
  first | rw [show A.in1.handled = none from hh] | rw [hh]
  refine wpAny_bind (wpAny_pure (wpAny_throw ?_))
  refine wpAny_isInstance (T := "StopIteration") (b := true) ⟨_, Heap.get?_push_size _ rfl, rfl⟩ PySem.isSubtype_stop ?_
  exact ⟨rfl, hQ _ (((Heap.SameBut.update ..).extBut.push _).push _)⟩
theorem next_set_item {I a : Addr} {o : Obj} {es : Array (Int × Value)} {sl i ep nx : Nat} {v : Value} {tb : SetTable} {Q : Option Value → Shared → Prop} (hit : s.heap.get? I = some (setIt a sl i es.size ep)) (ho : s.heap.get? a = some o) (hd : o.data = .set es ep tb) (hf : tb.fits es.size = true) (hs : es.size ≤ 1)
    (hled : bt w = false → tb.led = true ∨ es = #[]) (hr : setR (bt w) es tb sl i = some (v, nx)) (hQ : ∀ h', h'.get? I = some (setIt a nx (i + 1) es.size ep) → Heap.SameBut I s.heap h' → Q (some v) { s with heap := h' }) : wpAny (model prog w) A (pyNext (.ref I)) Q E s := by
  refine next_set_pre hit ho hd hf hs hled ?_
  rw [hr]
  dsimp only
  refine wpAny_bind (wpAny_setField hit rfl (by simp) ?_)
  have h1 := Heap.get?_update_self (Obj.mapFields (·.setIfInBounds 0 (rawInt nx))) hit rfl
  refine wpAny_bind (wpAny_setField h1 rfl (by simp) ?_)
  refine wpAny_pure ⟨_, rfl, hQ _ ?_ ((Heap.SameBut.update ..).trans (Heap.SameBut.update ..))⟩
  exact Heap.get?_update_self _ h1 rfl
theorem iter_setit {I a : Addr} {sl i n ep : Nat} {Q : Value → Shared → Prop} (hit : s.heap.get? I = some (setIt a sl i n ep)) (h : Q (.ref I) s) : wpAny (model prog w) A (pyIter (.ref I)) Q E s := by
  have hT : s.TypeIs (.ref I) "set_iterator" := ⟨_, hit, rfl⟩
  refine wpAny_pyIter_slot hT slot_setit_iter (wpAny_call_entry slot_setit_iter hT (entryFor_alias (b := Builtin.«dict_keyiterator.__iter__») (id' := "dict_keyiterator.__iter__") (by kernel_rfl) rfl (by decide +kernel) (by kernel_rfl)) ?_ (by unfold argsOk; kernel_rfl))
  show wpAny _ _ (ret (.ref I)) _ _ s
  exact wpAny_pure ⟨_, rfl, "set_iterator", _, hT, slot_setit_next.lookup, h⟩
noncomputable def slAt (w : World) (i : Nat) : Nat := if bt w = true then 0 else i
theorem Walks.set (hh : A.handled = none) (I a : Addr) (hne : a ≠ I) (o : Obj) (es : Array (Int × Value)) (ep : Nat) (tb : SetTable) (hd : o.data = .set es ep tb) (hf : tb.fits es.size = true) (hs : es.size ≤ 1)
    (hled : bt w = false → tb.led = true ∨ es = #[]) (hr : ∀ i, i ≤ es.size → setR (bt w) es tb (slAt w i) i = (es[i]?).map fun e => (e.2, slAt w (i + 1))) :
    Walks prog w A I [I, a] [I] es.size (fun i v => ∃ e, es[i]? = some e ∧ v = e.2) (fun i h => h.get? I = some (setIt a (slAt w i) i es.size ep) ∧ h.get? a = some o) where
  sub := fun b hb => by simp at hb; simp [hb]
  frame := fun _ _ _ st hk => ⟨hk I (by simp) _ st.1, hk a (by simp) _ st.2⟩
  item := fun i s Q E hi st hQ => by
    refine next_set_item (v := (es[i]).2) (nx := slAt w (i + 1)) st.1 st.2 hd hf hs hled (by rw [hr i (Nat.le_of_lt hi)]; simp [hi]) fun h' hit' hs' => ?_
    exact hQ _ h' s.toks ⟨es[i], by simp [hi], rfl⟩ ⟨hit', (hs'.2 a hne).trans st.2⟩ fun b o hb e => (hs'.2 b (fun h => hb (by simp [h]))).trans e
  done := fun s Q E st hQ => next_set_end hh st.1 st.2 hd hf hs hled (by rw [hr _ (Nat.le_refl _)]; simp) fun h' he' => hQ h' s.toks fun b o hb e => he' b o (fun h => hb (by simp [h])) e
  self := fun _ _ _ _ st hQ => iter_setit st.1 hQ
theorem walks0 (hh : A.handled = none) (I a : Addr) (hne : a ≠ I) : Walks prog w A I [I, a] [I] 0 (fun i v => ∃ e, (#[] : Array (Int × Value))[i]? = some e ∧ v = e.2) (fun i h => h.get? I = some (setIt a (slAt w i) i 0 0) ∧ h.get? a = some (set0 (bt w))) :=
  Walks.set hh I a hne (set0 (bt w)) #[] 0 _ rfl (by cases bt w <;> rfl) (Nat.zero_le _) (fun _ => .inr rfl) fun i _ => by
    unfold setR
    split
    · simp
    · simp
theorem walks1 (hh : A.handled = none) (I a : Addr) (hne : a ≠ I) (t : Tok) : Walks prog w A I [I, a] [I] 1 (fun i v => ∃ e, (#[((0 : Int), Value.int 0 t)] : Array (Int × Value))[i]? = some e ∧ v = e.2) (fun i h => h.get? I = some (setIt a (slAt w i) i 1 1) ∧ h.get? a = some (set1 (bt w) t)) :=
  Walks.set hh I a hne (set1 (bt w) t) #[(0, .int 0 t)] 1 _ rfl (by cases bt w <;> rfl) (Nat.le_refl _) (fun h => .inl (by rw [h]; rfl)) fun i hi => by
    unfold setR slAt
    have hi : i ≤ 1 := hi
    cases hb : bt w with
    | true => rfl
    | false =>
      match i, hi with
      | 0, _ => rfl
      | 1, _ => rfl
end
end Mine
end
section
open PySem PySem.W PySem.Spec PySem.Calls PyProof.Rows
set_option maxRecDepth 100000
set_option maxHeartbeats 1000000
namespace Mine
section
variable {K : Type} [DecidableEq K]
theorem valueAt_cons (p : K × Value) (r : List (K × Value)) (k : K) : valueAt (p :: r) k = if p.1 = k then some p.2 else valueAt r k := by
  unfold valueAt
  rw [List.find?_cons]
  by_cases h : p.1 = k
  · simp [h]
  · simp [h]
theorem valueAt_app (a b : List (K × Value)) (k : K) : valueAt (a ++ b) k = (valueAt a k).or (valueAt b k) := by
  unfold valueAt
  rw [List.find?_append]
  cases a.find? (fun kv => decide (kv.1 = k)) <;> rfl
theorem valueAt_none (kvs : List (K × Value)) (k : K) : valueAt kvs k = none ↔ kvs.any (fun kv => kv.1 = k) = false := by
  unfold valueAt
  simp
theorem valueAt_stored (kvs : List (K × Value)) (k : K) (v : Value) (k' : K) : valueAt (stored kvs k v) k' = if k' = k then some v else valueAt kvs k' := by
  unfold stored
  by_cases h : kvs.any (fun kv => kv.1 = k) = true
  · rw [if_pos h]
    have key : ∀ l : List (K × Value), l.any (fun kv => kv.1 = k) = true → valueAt (l.map fun kv => if kv.1 = k then (kv.1, v) else kv) k' = if k' = k then some v else valueAt l k' := by
      have gen : ∀ l : List (K × Value), valueAt (l.map fun kv => if kv.1 = k then (kv.1, v) else kv) k' = if k' = k then (if l.any (fun kv => kv.1 = k) = true then some v else none) else valueAt l k' := by
        intro l
        induction l with
        | nil => simp [valueAt]
        | cons p r ih =>
          rw [List.map_cons, valueAt_cons, valueAt_cons, ih]
          by_cases h1 : p.1 = k
          · by_cases h2 : k' = k
            · subst h2; simp [h1]
            · have h3 : ¬ p.1 = k' := fun e => h2 (e.symm.trans h1)
              have h4 : ¬ k = k' := fun e => h2 e.symm
              simp [h1, h2, h4]
          · by_cases h2 : k' = k
            · subst h2
              have : (decide (p.1 = k')) = false := decide_eq_false h1
              simp only [if_neg h1, if_true, List.any_cons, this, Bool.false_or]
            · simp [h1, h2]
      intro l hl
      rw [gen, hl]; rfl
    exact key kvs h
  · rw [if_neg h]
    have h' : kvs.any (fun kv => kv.1 = k) = false := by cases q : kvs.any (fun kv => kv.1 = k) with | true => exact absurd q h | false => rfl
    rw [valueAt_app, valueAt_cons]
    by_cases h2 : k' = k
    · subst h2
      rw [(valueAt_none kvs k').mpr h']
      simp
    · have h4 : ¬ k = k' := fun e => h2 e.symm
      simp only [h2, if_false, h4]
      cases valueAt kvs k' <;> rfl
theorem valueAt_without (kvs : List (K × Value)) (k k' : K) : valueAt (PySem.without kvs k) k' = if k' = k then none else valueAt kvs k' := by
  unfold PySem.without
  induction kvs with
  | nil => simp [valueAt]
  | cons p r ih =>
    rw [List.filter_cons, valueAt_cons]
    by_cases h1 : p.1 = k
    · have : decide (p.1 ≠ k) = false := by simp [h1]
      rw [this]
      simp only [Bool.false_eq_true, if_false, ih]
      by_cases h2 : k' = k
      · simp [h2]
      · have h3 : ¬ p.1 = k' := fun e => h2 (e.symm.trans h1)
        simp [h2, h3]
    · have : decide (p.1 ≠ k) = true := by simp [h1]
      rw [this]
      simp only [if_true, valueAt_cons, ih]
      by_cases h2 : k' = k
      · subst h2; simp [h1]
      · simp [h2]
theorem valueAt_at {kvs : List (K × Value)} {i : Nat} {k : K} {y : Value} (h : kvs[i]? = some (k, y)) : (valueAt kvs k).isSome = true := by
  cases hq : valueAt kvs k with
  | some _ => rfl
  | none =>
    have := (valueAt_none kvs k).mp hq
    rw [List.any_eq_false] at this
    exact absurd (by simp) (this _ (List.mem_of_getElem? h))
theorem valueAt_mem {kvs : List (K × Value)} {k : K} {v : Value} (h : valueAt kvs k = some v) : (k, v) ∈ kvs := by
  unfold valueAt at h
  obtain ⟨p, hp, rfl⟩ := Option.map_eq_some_iff.mp h
  have := List.find?_some hp
  have e : p.1 = k := by simpa using this
  subst e
  exact List.mem_of_find?_eq_some hp
end
/-! where a sign stands -/
noncomputable def pos (ys : List Int) (x : Int) (i : Nat) : List Int := ((List.range i).filter fun j => ys[j]? = some x).map Int.ofNat
theorem pos_succ (ys : List Int) (x : Int) (i : Nat) : pos ys x (i + 1) = if ys[i]? = some x then pos ys x i ++ [(i : Int)] else pos ys x i := by
  unfold pos
  rw [List.range_succ, List.filter_append, List.map_append]
  by_cases h : ys[i]? = some x
  · rw [if_pos h, List.filter_cons_of_pos (by simpa using h)]; rfl
  · rw [if_neg h, List.filter_cons_of_neg (by simpa using h)]; simp
theorem pos_len (ys : List Int) (x : Int) (i : Nat) : (pos ys x i).length ≤ i := by
  unfold pos
  rw [List.length_map]
  exact Nat.le_trans (List.length_filter_le _ _) (by simp)
theorem pos_mem {ys : List Int} {x : Int} {j : Nat} : (j : Int) ∈ pos ys x ys.length ↔ ys[j]? = some x := by
  unfold pos
  rw [List.mem_map]
  constructor
  · rintro ⟨k, hk, e⟩
    have e : k = j := by have : (k : Int) = j := e; lia
    subst e
    simpa using (List.mem_filter.mp hk).2
  · intro h
    exact ⟨j, List.mem_filter.mpr ⟨List.mem_range.mpr (List.getElem?_eq_some_iff.mp h).1, by simpa using h⟩, rfl⟩
theorem pos_nil {ys : List Int} {x : Int} : pos ys x ys.length = [] ↔ x ∉ ys := by
  constructor
  · intro h hx
    obtain ⟨j, hj⟩ := List.getElem?_of_mem hx
    have := pos_mem.mpr hj
    rw [h] at this; cases this
  · intro h
    unfold pos
    rw [List.map_eq_nil_iff, List.filter_eq_nil_iff]
    intro j _ hj
    exact h (List.mem_of_getElem? (by simpa using hj))
/-- the index of a row over the ledger -/
structure IdxL (nl : Led) (kvs : List (Int × Value)) (ys : List Int) (i : Nat) : Prop where
  val : ∀ x v, valueAt kvs x = some v → ∃ a vs c, v = .ref a ∧ (a, listOf vs.toArray c) ∈ nl ∧ IntsAre vs (pos ys x i)
  non : ∀ x, valueAt kvs x = none → pos ys x i = []
  inj : ∀ x y a, valueAt kvs x = some (.ref a) → valueAt kvs y = some (.ref a) → x = y
  len : kvs.length ≤ i
  mem : ∀ x v, valueAt kvs x = some v → x ∈ ys
theorem IdxL.nil {ys : List Int} : IdxL [] [] ys 0 := ⟨fun x v h => by simp [valueAt] at h, fun _ _ => rfl, fun x y a h => by simp [valueAt] at h, Nat.le_refl _, fun x v h => by simp [valueAt] at h⟩
noncomputable def updL (a : Addr) (o : Obj) (nl : Led) : Led := nl.map fun p => if p.1 = a then (a, o) else p
theorem updL_mem {a : Addr} {o : Obj} {nl : Led} {p : Addr × Obj} (h : p ∈ updL a o nl) : p = (a, o) ∨ p ∈ nl := by
  obtain ⟨q, hq, rfl⟩ := List.mem_map.mp h
  by_cases e : q.1 = a
  · rw [if_pos e]; exact .inl rfl
  · rw [if_neg e]; exact .inr hq
theorem updL_other {a b : Addr} {o o' : Obj} {nl : Led} (h : (b, o') ∈ nl) (e : b ≠ a) : (b, o') ∈ updL a o nl := List.mem_map.mpr ⟨_, h, if_neg e⟩
theorem updL_self {a : Addr} {o o' : Obj} {nl : Led} (h : (a, o') ∈ nl) : (a, o) ∈ updL a o nl := List.mem_map.mpr ⟨_, h, if_pos rfl⟩
/-- the sign was there before -/
theorem IdxL.there {nl : Led} {kvs : List (Int × Value)} {ys : List Int} {i : Nat} {x : Int} {a : Addr} {vs : List Value} {c c' : Nat} {t : Tok} (h : IdxL nl kvs ys i) (hx : ys[i]? = some x) (ha : valueAt kvs x = some (.ref a)) (hm : (a, listOf vs.toArray c) ∈ nl)
    (hv : IntsAre vs (pos ys x i)) : IdxL (updL a (listOf (vs ++ [Value.int i t]).toArray c') nl) kvs ys (i + 1) := by
  refine ⟨fun y v hy => ?_, fun y hy => ?_, h.inj, Nat.le_succ_of_le h.len, h.mem⟩
  · by_cases e : y = x
    · subst e
      rw [ha] at hy
      cases hy
      exact ⟨a, _, c', rfl, updL_self hm, by rw [pos_succ, if_pos hx]; exact hv.append (.cons _ _ .nil)⟩
    · obtain ⟨b, us, d, rfl, hb, hu⟩ := h.val y v hy
      have hne : b ≠ a := fun q => by
        subst q
        exact e (h.inj y x b hy ha)
      exact ⟨b, us, d, rfl, updL_other hb hne, by rw [pos_succ, if_neg (fun q => e (Option.some.inj (q.symm.trans hx)))]; exact hu⟩
  · have e : y ≠ x := fun q => by subst q; rw [ha] at hy; cases hy
    rw [pos_succ, if_neg (fun q => e (Option.some.inj (q.symm.trans hx)))]
    exact h.non y hy
/-- a new sign -/
theorem IdxL.fresh {nl : Led} {kvs : List (Int × Value)} {ys : List Int} {i : Nat} {x : Int} {a : Addr} {c : Nat} {t : Tok} (h : IdxL nl kvs ys i) (hx : ys[i]? = some x) (ha : valueAt kvs x = none) (hn : ∀ p ∈ nl, p.1 ≠ a) :
    IdxL ((a, listOf [Value.int i t].toArray c) :: nl) (stored kvs x (.ref a)) ys (i + 1) := by
  have old : ∀ y b, valueAt kvs y = some (.ref b) → b ≠ a := fun y b hy e => by
    obtain ⟨b', us, d, e', hb, _⟩ := h.val y _ hy
    cases e'
    exact hn _ hb e
  refine ⟨fun y v hy => ?_, fun y hy => ?_, fun y z b hy hz => ?_, Nat.le_trans (PySem.stored_length_le ..) (Nat.succ_le_succ h.len), fun y v hy => ?_⟩
  · rw [valueAt_stored] at hy
    by_cases e : y = x
    · subst e
      rw [if_pos rfl] at hy
      cases hy
      refine ⟨a, [Value.int i t], c, rfl, .head _, ?_⟩
      rw [pos_succ, if_pos hx, h.non y ha]
      exact .cons _ _ .nil
    · rw [if_neg e] at hy
      obtain ⟨b, us, d, rfl, hb, hu⟩ := h.val y v hy
      exact ⟨b, us, d, rfl, .tail _ hb, by rw [pos_succ, if_neg (fun q => e (Option.some.inj (q.symm.trans hx)))]; exact hu⟩
  · rw [valueAt_stored] at hy
    by_cases e : y = x
    · rw [if_pos e] at hy; cases hy
    · rw [if_neg e] at hy
      rw [pos_succ, if_neg (fun q => e (Option.some.inj (q.symm.trans hx)))]
      exact h.non y hy
  · rw [valueAt_stored] at hy hz
    by_cases e1 : y = x <;> by_cases e2 : z = x
    · rw [e1, e2]
    · rw [if_pos e1] at hy; rw [if_neg e2] at hz
      cases hy
      exact absurd rfl (old z _ hz)
    · rw [if_neg e1] at hy; rw [if_pos e2] at hz
      cases hz
      exact absurd rfl (old y _ hy)
    · rw [if_neg e1] at hy; rw [if_neg e2] at hz
      exact h.inj y z b hy hz
  · rw [valueAt_stored] at hy
    by_cases e : y = x
    · rw [e]; exact List.mem_of_getElem? hx
    · rw [if_neg e] at hy; exact h.mem y v hy
end Mine
end
section
open PySem PySem.W PySem.Spec PySem.Calls PyProof.Rows
set_option maxRecDepth 100000
namespace Mine
section
variable {prog : Program} {w : World} {A : Around} {E : Value → Shared → Prop} {s : Shared} {env : Env} {h₀ : Heap} {x : Str} {body : List Stmt} {Q : Flow → Shared → Prop}
theorem loop_set0 (ex : List Addr) {a : Addr} {m₀ : Str → Option Value} {news : Led} (hh : A.handled = none) (F : Fr h₀ env.locals s.heap m₀) (N : News h₀ env.locals s.heap news) (hm : (a, set0 (bt w)) ∈ news) (hc : NoIt ex news)
    (done : ∀ h tk, Fr h₀ env.locals h m₀ → News h₀ env.locals h news → Q .next { s with heap := h, toks := tk }) :
    wpAny (model prog w) A (pyIter (.ref a)) (fun it s₂ => LoopAtV prog w A h₀ env x body Q E it s₂) E s := by
  refine iter_set (N _ hm).1 rfl rfl (by cases bt w <;> rfl) (Nat.zero_le _) ?_
  have hlt : ∀ p ∈ news, p.1 < s.heap.objs.size := fun p hp => Heap.lt_size (N p hp).1
  have hIn : h₀.get? s.heap.objs.size = none := ktu_new F (Nat.le_refl _)
  refine loop_two (d := a) (od := set0 (bt w)) ex (fun _ m nx => m = m₀ ∧ nx = news) (walks0 hh _ a (Nat.ne_of_lt (hlt _ hm))) (fun i h hst => ⟨_, hst.1, rfl⟩) (Nat.ne_of_lt F.ns.lt) (hc.fresh N) hIn
    ⟨by show Heap.get? _ _ = some (setIt a (slAt w 0) 0 0 0); rw [show slAt w 0 = 0 by unfold slAt; split <;> rfl]; exact Heap.get?_push_size _ rfl, Heap.get?_push_of_some _ (N _ hm).1⟩ (F.push _)
    (fun p hp => ⟨Heap.get?_push_of_some _ (N p hp).1, (N p hp).2⟩) hc ⟨rfl, rfl⟩ (fun i m nx e => e.2 ▸ hm) ?_ ?_
  · intro i v m₁ news₁ it h tk hi
    exact absurd hi (Nat.not_lt_zero _)
  · rintro m₁ news₁ h tk ⟨rfl, rfl⟩ _ F1 N1
    exact done h tk F1 N1
theorem loop_set1 (ex : List Addr) {a : Addr} {t : Tok} {m₀ : Str → Option Value} {news : Led} (J : (Str → Option Value) → Led → Prop) (hh : A.handled = none) (F : Fr h₀ env.locals s.heap m₀) (N : News h₀ env.locals s.heap news) (hm : (a, set1 (bt w) t) ∈ news) (hc : NoIt ex news)
    (hJ : ∀ m nx, J m nx → (a, set1 (bt w) t) ∈ nx)
    (turn : ∀ I it h tk, Fr h₀ env.locals h (fun y => if y = x then some (.int 0 t) else m₀ y) → News h₀ env.locals h ((I, it) :: news) → (∀ p ∈ news, p.1 ≠ I) →
      wpAny (model prog w) A (execs body env) (Turn h₀ env.locals ex [(I, it)] J { s with heap := h, toks := tk } Q) E { s with heap := h, toks := tk })
    (done : ∀ m nx h tk, J m nx → NoIt ex nx → Fr h₀ env.locals h m → News h₀ env.locals h nx → Q .next { s with heap := h, toks := tk }) :
    wpAny (model prog w) A (pyIter (.ref a)) (fun it s₂ => LoopAtV prog w A h₀ env x body Q E it s₂) E s := by
  refine iter_set (N _ hm).1 rfl rfl (by cases bt w <;> rfl) (Nat.le_refl _) ?_
  have hlt : ∀ p ∈ news, p.1 < s.heap.objs.size := fun p hp => Heap.lt_size (N p hp).1
  have hIn : h₀.get? s.heap.objs.size = none := ktu_new F (Nat.le_refl _)
  refine loop_two (d := a) (od := set1 (bt w) t) ex (fun i m nx => (i = 0 ∧ m = m₀ ∧ nx = news) ∨ (i = 1 ∧ J m nx)) (walks1 hh _ a (Nat.ne_of_lt (hlt _ hm)) t) (fun i h hst => ⟨_, hst.1, rfl⟩) (Nat.ne_of_lt F.ns.lt) (hc.fresh N) hIn
    ⟨by show Heap.get? _ _ = some (setIt a (slAt w 0) 0 1 1); rw [show slAt w 0 = 0 by unfold slAt; split <;> rfl]; exact Heap.get?_push_size _ rfl, Heap.get?_push_of_some _ (N _ hm).1⟩ (F.push _)
    (fun p hp => ⟨Heap.get?_push_of_some _ (N p hp).1, (N p hp).2⟩) hc (.inl ⟨rfl, rfl, rfl⟩) (fun i m nx e => by
      rcases e with ⟨_, _, e⟩ | ⟨_, e⟩
      · exact e ▸ hm
      · exact hJ m nx e) ?_ ?_
  · rintro i v m₁ news₁ it h tk hi ⟨e, he, rfl⟩ hj hno F1 N1 hI
    obtain rfl : i = 0 := by lia
    rcases hj with ⟨_, rfl, rfl⟩ | ⟨q, _⟩
    · have e1 : e = (0, .int 0 t) := by simpa using he.symm
      subst e1
      refine wpAny_mono (turn _ it h tk F1 N1 hI) (fun f s₂ p => ?_) fun _ _ e => e
      cases f with
      | ret v => exact p
      | brk => exact p
      | next => obtain ⟨a1, a2, a3, a4, a5, a6, a7, a8, a9⟩ := p; exact ⟨a1, a2, a3, a4, a5, a6, a7, a8, .inr ⟨rfl, a9⟩⟩
      | cont => obtain ⟨a1, a2, a3, a4, a5, a6, a7, a8, a9⟩ := p; exact ⟨a1, a2, a3, a4, a5, a6, a7, a8, .inr ⟨rfl, a9⟩⟩
    · lia
  · rintro m₁ news₁ h tk hj hno F1 N1
    rcases hj with ⟨q, _⟩ | ⟨_, hj⟩
    · lia
    · exact done _ _ h tk hj hno F1 N1
theorem set_new_led {L : Addr} {m : Str → Option Value} {news : Led} {Q : Value → Shared → Prop} (F : Fr h₀ L s.heap m) (N : News h₀ L s.heap news)
    (h : ∀ J h', Fr h₀ L h' m → News h₀ L h' ((J, set0 (bt w)) :: news) → (∀ p ∈ news, p.1 < J) → Q (.ref J) { s with heap := h' }) : wpAny (model prog w) A (call (.type "set") []) Q E s :=
  call_set_0' (h _ _ (F.push _) (N.push F _) fun p hp => Heap.lt_size (N p hp).1)
theorem truthy_fn {a : Addr} {o : Obj} {Q : Bool → Shared → Prop} (ho : s.heap.get? a = some o) (hc : o.cls = .type "function") (h : Q true s) : wpAny (model prog w) A (truthy (.ref a)) Q E s := by
  have hT : s.TypeIs (.ref a) "function" := ⟨o, ho, hc⟩
  unfold truthy
  unfold callSpecial?
  refine wpAny_bind (wpAny_bind (wpAny_specialOf hT (r := none) (by rw [typeLookup_type, builtinLookup_eq_fast]; kernel_rfl) (wpAny_pure ?_)))
  refine wpAny_bind (wpAny_specialOf hT (r := none) (by rw [typeLookup_type, builtinLookup_eq_fast]; kernel_rfl) ?_)
  exact wpAny_pure h
theorem UpdF.app {d : Addr} {o : Obj} {r : Led} {g : Obj → Led} : ∀ {nl : Led}, (∀ p ∈ nl, p.1 ≠ d) → UpdF d o r g → UpdF d o (nl ++ r) (fun o' => nl ++ g o')
  | [], _, U => U
  | p :: nl, h, U => UpdF.tail (h p (.head _)) (UpdF.app (fun q hq => h q (.tail _ hq)) U)
end
end Mine
end
section
open PySem PySem.W PySem.Spec PySem.Calls PyProof.Rows
set_option maxRecDepth 100000
set_option maxHeartbeats 1000000
namespace Mine
theorem slot_md_get : Slot "method_descriptor" "__get__" "method_descriptor.__get__" :=
  .of (owner := "method_descriptor") (n := "__get__") (by rw [typeLookup_type, builtinLookup_eq_fast]; kernel_rfl) (by decide +kernel) (by decide +kernel) (by decide +kernel)
    (by first | exact .inl (by decide +kernel) | exact .inr (by decide +kernel)) (by rw [isSubtype_type]; kernel_rfl)
theorem entry_md_get : entryFor table "method_descriptor.__get__" = some Builtin.«method_descriptor.__get__» := entryFor_of_fast (by kernel_rfl)
theorem args_md_get (a b c : Value) : argsOk "method_descriptor.__get__" ⟨[a, b, c], []⟩ := by unfold argsOk; kernel_rfl
theorem md_no_set : typeLookup (.type "method_descriptor") "__set__" = pure none := by rw [typeLookup_type, builtinLookup_eq_fast]; kernel_rfl
theorem md_no_del : typeLookup (.type "method_descriptor") "__delete__" = pure none := by rw [typeLookup_type, builtinLookup_eq_fast]; kernel_rfl
theorem dict_no_hook : typeLookup (.type "dict") "__getattr__" = pure none := by rw [typeLookup_type, builtinLookup_eq_fast]; kernel_rfl
noncomputable abbrev boundGet (a : Addr) : Obj := { cls := .type "builtin_function_or_method", data := .fields #[.builtin "dict.get", .ref a] }
section
variable {prog : Program} {w : World} {A : Around} {E : Value → Shared → Prop} {h : Heap} {g : Array GenState} {d : Drawn} {t : Nat} {os : OsState} {a : Addr} {o : Obj}
theorem dget_call {R : Result → Shared → Prop} (hx : h.get? a = some o) (hc : o.cls = .type "dict") (hq : R (.ok (.ret (.ref h.objs.size))) ⟨h.push (boundGet a), g, d, t, os⟩) :
    codeAny (model prog w) A (.call (.builtin "method_descriptor.__get__") ⟨[.builtin "dict.get", .ref a, .type "dict"], []⟩) R ⟨h, g, d, t, os⟩ := by
  have hT : (⟨h, g, d, t, os⟩ : Shared).TypeIs (.ref a) "dict" := ⟨_, hx, hc⟩
  have hT5 : (⟨h, g, d, t, os⟩ : Shared).TypeIs (.builtin "dict.get") "method_descriptor" := PySem.F.type_dict_get
  refine codeAny_call_builtin slot_md_get.plain entry_md_get (slot_md_get.check _ _ _ _ _ _ _ _ hT5 (args_md_get _ _ _) ?_)
  have f9 : ".".intercalate ("dict.get".cutAt '.').dropLast = "dict" := by decide +kernel
  have f8 : isSubtype (.type "dict") (.type (".".intercalate ("dict.get".cutAt '.').dropLast)) = pure true := by rw [f9, isSubtype_type]; kernel_rfl
  repeat (any_goals (first | assumption | wp_step))
theorem get_dget {es : Array DictEntry} {n : Nat} {Q : Value → Shared → Prop} (hx : h.get? a = some { cls := .type "dict", data := .dict es n }) (hq : Q (.ref h.objs.size) ⟨h.push (boundGet a), g, d, t + 1, os⟩) : wpAny (model prog w) A (getAttr (.ref a) "get" true) Q E ⟨h, g, d, t, os⟩ := by
  have hT : (⟨h, g, d, t, os⟩ : Shared).TypeIs (.ref a) "dict" := ⟨_, hx, rfl⟩
  have f1 := PySem.F.slot_dict_get.lookup
  have f2 := PySem.F.slot_dict_getattribute.lookup
  have f3 := PySem.F.slot_dict_getattribute.bind (.ref a)
  have f4 := dict_no_hook
  repeat (any_goals (first | assumption | wp_step))
  have hT1 : (⟨h, g, d, t + 1, os⟩ : Shared).TypeIs (.ref a) "dict" := ⟨_, hx, rfl⟩
  refine codeAny_call_builtin PySem.F.slot_dict_getattribute.plain PySem.F.entry_dict_ga (PySem.F.slot_dict_getattribute.check _ _ _ _ _ _ _ _ hT1 (PySem.F.args_dict_getattribute_2 _ _) ?_)
  have f5 := PySem.F.type_dict_get
  have f6 := slot_md_get.lookup
  have f7 := md_no_set
  have f8 := md_no_del
  repeat (any_goals (first | assumption | wp_step))
  refine dget_call hx rfl ?_
  refine wpAny_pure ?_
  show wpAny _ _ (handedOut (.ref h.objs.size)) _ _ _
  rw [handedOut_of rfl]
  exact wpAny_pure hq
theorem set_no_hook : typeLookup (.type "set") "__getattr__" = pure none := by rw [typeLookup_type, builtinLookup_eq_fast]; kernel_rfl
theorem type_sc : typeOf (.builtin "set.__contains__") = pure (.type "method_descriptor") := by show builtinType _ = _; rw [builtinType_eq_fast]; kernel_rfl
noncomputable abbrev boundHas (a : Addr) : Obj := { cls := .type "builtin_function_or_method", data := .fields #[.builtin "set.__contains__", .ref a] }
theorem shas_call {R : Result → Shared → Prop} (hx : h.get? a = some o) (hc : o.cls = .type "set") (hq : R (.ok (.ret (.ref h.objs.size))) ⟨h.push (boundHas a), g, d, t, os⟩) :
    codeAny (model prog w) A (.call (.builtin "method_descriptor.__get__") ⟨[.builtin "set.__contains__", .ref a, .type "set"], []⟩) R ⟨h, g, d, t, os⟩ := by
  have hT : (⟨h, g, d, t, os⟩ : Shared).TypeIs (.ref a) "set" := ⟨_, hx, hc⟩
  have hT5 : (⟨h, g, d, t, os⟩ : Shared).TypeIs (.builtin "set.__contains__") "method_descriptor" := type_sc
  refine codeAny_call_builtin slot_md_get.plain entry_md_get (slot_md_get.check _ _ _ _ _ _ _ _ hT5 (args_md_get _ _ _) ?_)
  have f9 : ".".intercalate ("set.__contains__".cutAt '.').dropLast = "set" := by decide +kernel
  have f8 : isSubtype (.type "set") (.type (".".intercalate ("set.__contains__".cutAt '.').dropLast)) = pure true := by rw [f9, isSubtype_type]; kernel_rfl
  repeat (any_goals (first | assumption | wp_step))
theorem get_shas {es : Array (Int × Value)} {n : Nat} {tb : SetTable} {Q : Value → Shared → Prop} (hx : h.get? a = some { cls := .type "set", dict := none, data := .set es n tb }) (hq : Q (.ref h.objs.size) ⟨h.push (boundHas a), g, d, t + 1, os⟩) : wpAny (model prog w) A (getAttr (.ref a) "__contains__" true) Q E ⟨h, g, d, t, os⟩ := by
  have hT : (⟨h, g, d, t, os⟩ : Shared).TypeIs (.ref a) "set" := ⟨_, hx, rfl⟩
  have f1 := PySem.F.slot_set_contains.lookup
  have f2 := PySem.F.slot_set_getattribute.lookup
  have f3 := PySem.F.slot_set_getattribute.bind (.ref a)
  have f4 := set_no_hook
  repeat (any_goals (first | assumption | wp_step))
  have hT1 : (⟨h, g, d, t + 1, os⟩ : Shared).TypeIs (.ref a) "set" := ⟨_, hx, rfl⟩
  refine codeAny_call_builtin PySem.F.slot_set_getattribute.plain PySem.F.entry_set_ga (PySem.F.slot_set_getattribute.check _ _ _ _ _ _ _ _ hT1 (PySem.F.args_set_getattribute_2 _ _) ?_)
  have f5 := type_sc
  have f6 := slot_md_get.lookup
  have f7 := md_no_set
  have f8 := md_no_del
  repeat (any_goals (first | assumption | wp_step))
  refine shas_call hx rfl ?_
  refine wpAny_pure ?_
  show wpAny _ _ (handedOut (.ref h.objs.size)) _ _ _
  rw [handedOut_of rfl]
  exact wpAny_pure hq
end
/-! the ledger's own forms, and calls of the bound methods -/
section
variable {prog : Program} {w : World} {A : Around} {E : Value → Shared → Prop} {s : Shared} {h₀ : Heap} {L : Addr} {m : Str → Option Value} {news : Led} {a x : Addr} {o : Obj}
theorem get_dget_led {kvs : List (Int × Value)} {Q : Value → Shared → Prop} (F : Fr h₀ L s.heap m) (N : News h₀ L s.heap news) (hm : (a, o) ∈ news) (hd : o.IsDictOf (PySem.intKind prog w) kvs)
    (h : ∀ G h', Fr h₀ L h' m → News h₀ L h' ((G, boundGet a) :: news) → (∀ p ∈ news, p.1 < G) → Q (.ref G) { s with heap := h', toks := s.toks + 1 }) : wpAny (model prog w) A (getAttr (.ref a) "get" true) Q E s := by
  obtain ⟨es, ep, ⟨hc, hd1, hs1⟩, hdat, _⟩ := hd
  obtain ⟨c, dd, dt, sl⟩ := o
  simp only at hc hd1 hs1 hdat
  subst hc hd1 hs1 hdat
  have hx := (N _ hm).1
  have q := h s.heap.objs.size _ (F.push _) (N.push F _) fun p hp => Heap.lt_size (N p hp).1
  obtain ⟨hh, g, d, t, os⟩ := s
  exact get_dget hx q
theorem get_shas_led {S : Int → Bool} {n : Nat} {Q : Value → Shared → Prop} (F : Fr h₀ L s.heap m) (N : News h₀ L s.heap news) (hm : (a, o) ∈ news) (hd : o.SetObjOf (PySem.intKind prog w) S n)
    (h : ∀ G h', Fr h₀ L h' m → News h₀ L h' ((G, boundHas a) :: news) → (∀ p ∈ news, p.1 < G) → Q (.ref G) { s with heap := h', toks := s.toks + 1 }) : wpAny (model prog w) A (getAttr (.ref a) "__contains__" true) Q E s := by
  obtain ⟨⟨hc, hd1, hs1⟩, es, ep, tb, hdat, _⟩ := hd
  obtain ⟨c, dd, dt, sl⟩ := o
  simp only at hc hd1 hs1 hdat
  subst hc hd1 hs1 hdat
  have hx := (N _ hm).1
  have q := h s.heap.objs.size _ (F.push _) (N.push F _) fun p hp => Heap.lt_size (N p hp).1
  obtain ⟨hh, g, d, t, os⟩ := s
  exact get_shas hx q
noncomputable def BmAt (x : Addr) (id : String) (v : Value) (h : Heap) : Prop := h.get? x = some { cls := .type "builtin_function_or_method", data := .fields #[.builtin id, v] }
theorem BmAt.of {h : Heap} {id : String} {v : Value} (N : News h₀ L h news) (hm : (x, ({ cls := .type "builtin_function_or_method", data := .fields #[.builtin id, v] } : Obj)) ∈ news) : BmAt x id v h := (N _ hm).1
theorem callWith_bm {pos : Pos} {id : String} {v : Value} {first : List Value} {env : Env} {e : Expr} {rest : List Expr} {Q : Value → Shared → Prop} (_N : News h₀ L s.heap news) (_hm : (x, ({ cls := .type "builtin_function_or_method", data := .fields #[.builtin id, v] } : Obj)) ∈ news)
    (h : wpAny (model prog w) A (spliced (backTo pos (starEach (e :: rest) env))) (fun vs s₁ => BmAt x id v s₁.heap ∧ wpAny (model prog w) A (call (.ref x) (first ++ vs)) Q E s₁) E s)
    (he : starEach (e :: rest) env = (false, eval e env) :: starEach rest env := by rfl) (hplain : (backTo pos (starEach rest env)).any (·.1) = false := by rfl) :
    wpAny (model prog w) A (callWith pos (.ref x) first (backTo pos (starEach (e :: rest) env)) []) Q E s := by
  rw [he] at h ⊢
  refine callWith_of (P := BmAt x id v) (by show ((false || (backTo pos (starEach rest env)).any (·.1)) || false) = false; rw [hplain]; rfl) (fun hh X => ?_) (evalArgs_plain h)
  exact ⟨.machine, .inr (.inl rfl), (Looks.ld (part := none) X).andThen .now⟩
end
end Mine
end
section
open PySem PySem.W PySem.Spec PySem.Calls PyProof.Rows
set_option maxRecDepth 100000
set_option maxHeartbeats 1000000
namespace Mine
section
variable {prog : Program} {w : World} {A : Around} {E : Value → Shared → Prop} {s : Shared} {h₀ : Heap} {L : Addr} {m : Str → Option Value} {news : Led} {a x : Addr} {o : Obj}
noncomputable def callR (Q E : Value → Shared → Prop) (r : Result) (s' : Shared) : Prop := match r with | .ok (.ret v) => Q v s' | .ok _ => False | .error e => E e s'
theorem call_bmR {id : String} {v : Value} {args : List Value} {b : Builtin} {Q : Value → Shared → Prop} (hx : BmAt x id v s.heap) (hq : plainId id = true) (hb : entryFor table id = some b)
    (hk : wpAny (model prog w) A.in1 (checkBoundCall id ⟨v :: args, []⟩) (fun _ s₁ => wpAny (model prog w) A.in1 (b ⟨v :: args, []⟩) (fun fin s' => match fin with | .done f => callR Q E (.ok f) s' | .again c' => c'.quiet = true ∧ codeAny (model prog w) A c' (callR Q E) s') (fun e s' => callR Q E (.error e) s') s₁) E s) : wpAny (model prog w) A (call (.ref x) args) Q E s := by
  refine wpAny_call (codeAny_mono (R := callR Q E) ?_ fun r s' h => ?_)
  · refine codeAny_of_tree ?_
    show wpAny _ A.in1 (callAny (.ref x) ⟨args, []⟩) _ _ s
    simp only [callAny]
    refine wpAny_bind (wpAny_load hx ?_)
    simp only [show (Value.type "builtin_function_or_method" == Value.type "method" || Value.type "builtin_function_or_method" == Value.type "builtin_function_or_method" || Value.type "builtin_function_or_method" == Value.type "method-wrapper") = true by decide, if_true]
    refine KFB.if_so (by decide) ?_
    refine wpAny_bind (wpAny_mono hk (fun _ s₁ h₁ => ?_) fun _ _ e => e)
    refine wpAny_bind (wpAny_pure (wpAny_pure ?_))
    refine ⟨plainId_quiet hq _, codeAny_builtin hb ?_⟩
    rw [Around.under_plainId hq _]
    exact h₁
  · cases r with
    | ok f => cases f <;> exact h
    | error e => exact h
theorem chk_bound {id T : String} {args : List Value} {Q : Unit → Shared → Prop} (hx : s.heap.get? a = some o) (hc : o.cls = .type T) (hnc : (match o.data with | .cls _ => true | _ => false) = false) (h1 : isSubtype (.type T) (.type "module") = pure false) (e3 : builtinKind id = some .method) (e4 : Manifest.varargsMethods.contains id = false)
    (e5 : (match Manifest.signature? id with | some sig => Bind.checkArgs id { sig with full := s!"{Bind.lastOf T}.{Bind.lastOf id}" } ⟨.ref a :: args, []⟩ | none => pure ()) = pure ()) (h : Q () s) : wpAny (model prog w) A (checkBoundCall id ⟨.ref a :: args, []⟩) Q E s := by
  have hT : s.TypeIs (.ref a) T := ⟨o, hx, hc⟩
  unfold checkBoundCall
  cases hs : Manifest.signature? id with
  | none => exact wpAny_pure h
  | some sig =>
    rw [hs] at e5
    simp only [e3]
    refine KFB.if_not rfl ?_
    refine wpAny_bind (wpAny_isInstance hT h1 ?_)
    refine KFB.if_not (by rw [e4]; rfl) ?_
    refine wpAny_bind ?_
    refine wpAny_bind (wpAny_loadPart hx (wpAny_pure ?_))
    refine KFB.if_not hnc ?_
    refine wpAny_bind (wpAny_typeOf hT ?_)
    dsimp only at e5 ⊢
    rw [e5]
    exact wpAny_pure h
theorem ca_dget (a x y : Value) : (match Manifest.signature? "dict.get" with | some sig => Bind.checkArgs "dict.get" { sig with full := s!"{Bind.lastOf "dict"}.{Bind.lastOf "dict.get"}" } ⟨[a, x, y], []⟩ | none => pure ()) = pure () := by kernel_rfl
theorem ca_shas (a x : Value) : (match Manifest.signature? "set.__contains__" with | some sig => Bind.checkArgs "set.__contains__" { sig with full := s!"{Bind.lastOf "set"}.{Bind.lastOf "set.__contains__"}" } ⟨[a, x], []⟩ | none => pure ()) = pure () := by kernel_rfl
theorem dm_sub : isSubtype (.type "dict") (.type "module") = pure false := by rw [isSubtype_type]; kernel_rfl
theorem sm_sub : isSubtype (.type "set") (.type "module") = pure false := by rw [isSubtype_type]; kernel_rfl
theorem kind_dget : builtinKind "dict.get" = some .method := by decide +kernel
theorem kind_shas : builtinKind "set.__contains__" = some .method := by decide +kernel
theorem va_dget : Manifest.varargsMethods.contains "dict.get" = false := by decide +kernel
theorem va_shas : Manifest.varargsMethods.contains "set.__contains__" = false := by decide +kernel
theorem pl_dget : plainId "dict.get" = true := by decide +kernel
theorem pl_shas : plainId "set.__contains__" = true := by decide +kernel
theorem dget_bm {kvs : List (Int × Value)} {k : Int} {t : Tok} {dflt : Value} {G : Addr} {Q : Value → Shared → Prop} (N : News h₀ L s.heap news) (hG : (G, boundGet a) ∈ news) (hm : (a, o) ∈ news) (hd : o.IsDictOf (PySem.intKind prog w) kvs) (lo : (a == sysModules) = false)
    (h : Q ((valueAt kvs k).getD dflt) { s with toks := s.toks + 1 }) : wpAny (model prog w) A (call (.ref G) [.int k t, dflt]) Q E s := by
  have hD := kda_dict N hm hd
  obtain ⟨es, ep, hex, hdat, _⟩ := hd
  refine call_bmR (BmAt.of N hG) pl_dget PySem.F.entry_dict_get (@chk_bound prog w A.in1 E s a o "dict.get" "dict" [.int k t, dflt] _ (N _ hm).1 hex.1 (by rw [hdat]) dm_sub kind_dget va_dget (ca_dget _ _ _) ?_)
  exact meets_dict_get_default _ _ (intKind_is _ _ k t) lo dflt A (callR Q E) s ⟨_, hD.mapOf, h⟩
theorem shas_bm {S : Int → Bool} {n : Nat} {k : Int} {t : Tok} {G : Addr} {Q : Value → Shared → Prop} (N : News h₀ L s.heap news) (hG : (G, boundHas a) ∈ news) (hm : (a, o) ∈ news) (hd : o.SetObjOf (PySem.intKind prog w) S n) (hn : n < scanBound)
    (h : Q (.bool (S k)) { s with toks := s.toks + 1 }) : wpAny (model prog w) A (call (.ref G) [.int k t]) Q E s := by
  have hS := hd.setOf (N _ hm).1 hn
  obtain ⟨hex, es, ep, tb, hdat, _⟩ := hd
  refine call_bmR (BmAt.of N hG) pl_shas PySem.entry_set_contains (@chk_bound prog w A.in1 E s a o "set.__contains__" "set" [.int k t] _ (N _ hm).1 hex.1 (by rw [hdat]) sm_sub kind_shas va_shas (ca_shas _ _) ?_)
  unfold Builtin.«frozenset.__contains__» Builtin.Frozenset.oneOther
  simp only [List.isEmpty_nil, bind_assoc]
  unfold Builtin.Frozenset.addrOf Builtin.Frozenset.withSetAsKey setContains
  refine wpAny_bind (wpAny_pure ?_)
  try dsimp only
  refine wpAny_bind (wpAny_pure ?_)
  try dsimp only
  refine wpAny_bind (wpAny_tryCatch ?_)
  refine wpAny_holding ?_
  refine wpAny_bind ((PySem.intKind prog w).pyHash (intKind_is prog w k t) ?_)
  refine wpAny_bind (wpAny_setFind_of (s := { s with toks := s.toks + 1 }) (intKind_is prog w k t) rfl hS fun r hr => ?_)
  refine wpAny_pure ?_
  show wpAny _ _ (ret (Value.bool r.isSome)) _ _ _
  rw [hr]
  exact wpAny_pure h
end
end Mine
end
section
namespace Mine
/-! find_longest_match: blocks by their ends -/
section
variable {jk : Option Int} {a b : List Int} {lo hi lo' hi' : Nat}
/-- the longest block that ends ahead of i and ahead of e -/
noncomputable def IsEnd (jk : Option Int) (a b : List Int) (lo hi lo' hi' i e r : Nat) : Prop :=
  (0 < r → ∃ k j, Blk jk a b lo hi lo' hi' k j r ∧ k + r = i ∧ j + r = e) ∧ ∀ k j s, 0 < s → Blk jk a b lo hi lo' hi' k j s → k + s = i → j + s = e → s ≤ r
theorem IsEnd.start {e : Nat} : IsEnd jk a b lo hi lo' hi' lo e 0 :=
  ⟨fun h => absurd h (Nat.lt_irrefl _), fun k j s z hb h1 h2 => by have := hb.1; lia⟩
theorem IsEnd.left {i : Nat} : IsEnd jk a b lo hi lo' hi' i 0 0 :=
  ⟨fun h => absurd h (Nat.lt_irrefl _), fun k j s z hb h1 h2 => by lia⟩
/-- one more -/
theorem IsEnd.step {i e r : Nat} {x : Int} (h : IsEnd jk a b lo hi lo' hi' i e r) (h1 : lo ≤ i) (h2 : i < hi) (h3 : lo' ≤ e) (h4 : e < hi') (ha : a[i]? = some x) (hb : b[e]? = some x) (hx : jk ≠ some x) : IsEnd jk a b lo hi lo' hi' (i + 1) (e + 1) (r + 1) := by
  refine ⟨fun _ => ?_, fun k j s z hB hk hj => ?_⟩
  · rcases Nat.eq_zero_or_pos r with q | q
    · subst q
      refine ⟨i, e, ⟨h1, by lia, h3, by lia, fun t ht => ?_⟩, rfl, rfl⟩
      obtain rfl : t = 0 := by lia
      exact ⟨x, ha, hb, hx⟩
    · obtain ⟨k, j, ⟨b1, b2, b3, b4, b5⟩, hk, hj⟩ := h.1 q
      refine ⟨k, j, ⟨b1, by lia, b3, by lia, fun t ht => ?_⟩, by lia, by lia⟩
      rcases Nat.lt_or_ge t r with c | c
      · exact b5 t c
      · have e1 : k + t = i := by lia
        have e2 : j + t = e := by lia
        exact ⟨x, by rw [e1]; exact ha, by rw [e2]; exact hb, hx⟩
  · obtain ⟨b1, b2, b3, b4, b5⟩ := hB
    rcases Nat.lt_or_ge 1 s with c | c
    · have := h.2 k j (s - 1) (by lia) ⟨b1, by lia, b3, by lia, fun t ht => b5 t (by lia)⟩ (by lia) (by lia)
      lia
    · lia
/-- no more -/
theorem IsEnd.none {i e : Nat} (h : ∀ x, a[i]? = some x → b[e]? = some x → jk ≠ some x → lo ≤ i → i < hi → lo' ≤ e → e < hi' → False) : IsEnd jk a b lo hi lo' hi' (i + 1) (e + 1) 0 := by
  refine ⟨fun h => absurd h (Nat.lt_irrefl _), fun k j s z hB hk hj => ?_⟩
  exfalso
  obtain ⟨b1, b2, b3, b4, b5⟩ := hB
  obtain ⟨x, e1, e2, e3⟩ := b5 (s - 1) (by lia)
  rw [show k + (s - 1) = i by lia] at e1
  rw [show j + (s - 1) = e by lia] at e2
  exact h x e1 e2 e3 (by lia) (by lia) (by lia) (by lia)
/-- the blocks seen: those that end in the rows ahead of i, or in row i ahead of e -/
noncomputable def PrF (i e : Nat) (k j s : Nat) : Prop := k + s ≤ i ∨ (k + s = i + 1 ∧ j + s ≤ e)
theorem prF_row {k j s i e : Nat} (h : BI (Blk jk a b lo hi lo' hi') (fun k j s => k + s ≤ i) lo lo' k j s) : BI (Blk jk a b lo hi lo' hi') (PrF i 0) lo lo' k j s :=
  h.congr fun k j s z _ => by unfold PrF; lia
theorem prF_skip {k j s i e e' : Nat} (h : BI (Blk jk a b lo hi lo' hi') (PrF i e) lo lo' k j s) (he : e ≤ e') (hn : ∀ y x, e ≤ y → y < e' → a[i]? = some x → b[y]? = some x → jk ≠ some x → lo' ≤ y → y < hi' → False) :
    BI (Blk jk a b lo hi lo' hi') (PrF i e') lo lo' k j s :=
  h.congr fun k j s z hB => by
    unfold PrF
    constructor
    · rintro (p | ⟨p, q⟩)
      · exact .inl p
      · rcases Nat.lt_or_ge e (j + s) with c | c
        · exfalso
          obtain ⟨b1, b2, b3, b4, b5⟩ := hB
          obtain ⟨x, e1, e2, e3⟩ := b5 (s - 1) (by lia)
          rw [show k + (s - 1) = i by lia] at e1
          exact hn (j + (s - 1)) x (by lia) (by lia) e1 e2 e3 (by lia) (by lia)
        · exact .inr ⟨p, c⟩
    · rintro (p | ⟨p, q⟩)
      · exact .inl p
      · exact .inr ⟨p, by lia⟩
theorem prF_done {k j s i e : Nat} (h : BI (Blk jk a b lo hi lo' hi') (PrF i e) lo lo' k j s) (hn : ∀ y x, e ≤ y → a[i]? = some x → b[y]? = some x → jk ≠ some x → lo' ≤ y → y < hi' → False) :
    BI (Blk jk a b lo hi lo' hi') (fun k j s => k + s ≤ i + 1) lo lo' k j s :=
  h.congr fun k j s z hB => by
    unfold PrF
    constructor
    · intro p
      rcases Nat.lt_or_ge i (k + s) with c | c
      · refine .inr ⟨by lia, ?_⟩
        rcases Nat.lt_or_ge e (j + s) with c2 | c2
        · exfalso
          obtain ⟨b1, b2, b3, b4, b5⟩ := hB
          obtain ⟨x, e1, e2, e3⟩ := b5 (s - 1) (by lia)
          rw [show k + (s - 1) = i by lia] at e1
          exact hn (j + (s - 1)) x (by lia) e1 e2 e3 (by lia) (by lia)
        · exact c2
      · exact .inl c
    · rintro (p | ⟨p, q⟩) <;> lia
theorem flm_hit {k j s i e v : Nat} (h : BI (Blk jk a b lo hi lo' hi') (PrF i e) lo lo' k j s) (hv : IsEnd jk a b lo hi lo' hi' (i + 1) (e + 1) v) (hs : s < v) :
    BI (Blk jk a b lo hi lo' hi') (PrF i (e + 1)) lo lo' (i + 1 - v) (e + 1 - v) v ∧ v ≤ i + 1 ∧ v ≤ e + 1 := by
  obtain ⟨k', j', hB, hk, hj⟩ := hv.1 (by lia)
  obtain rfl : k' = i + 1 - v := by lia
  obtain rfl : j' = e + 1 - v := by lia
  refine ⟨(h.hit (N := fun k j s => k + s = i + 1 ∧ j + s = e + 1) (fun _ _ _ _ _ p q => by lia) hB ⟨hk, hj⟩ (fun i' j' s' z hb' n' => hv.2 i' j' s' z hb' n'.1 n'.2) hs).congr fun k j s z _ => ?_, by lia, by lia⟩
  unfold PrF
  lia
theorem flm_miss {k j s i e v : Nat} (h : BI (Blk jk a b lo hi lo' hi') (PrF i e) lo lo' k j s) (hv : IsEnd jk a b lo hi lo' hi' (i + 1) (e + 1) v) (hs : v ≤ s) : BI (Blk jk a b lo hi lo' hi') (PrF i (e + 1)) lo lo' k j s := by
  refine (h.miss (N := fun k j s => k + s = i + 1 ∧ j + s = e + 1) (fun i' j' s' z hb' n' => Nat.le_trans (hv.2 i' j' s' z hb' n'.1 n'.2) hs) (fun z i' j' hb' n' => ?_)).congr fun k j s z _ => ?_
  · have := h.pr z
    unfold PrF at this
    lia
  · unfold PrF
    lia
theorem Best.no_left {i j s : Nat} {x : Int} (h : Best jk a b lo hi lo' hi' i j s) (h1 : lo < i) (h2 : lo' < j) (ha : a[i - 1]? = some x) (hb : b[j - 1]? = some x) (hx : jk ≠ some x) : False := by
  obtain ⟨⟨b1, b2, b3, b4, b5⟩, m1, m2, _⟩ := h
  rcases Nat.eq_zero_or_pos s with z | z
  · have := m2 z; lia
  · have := m1 (i - 1) (j - 1) (s + 1) ⟨by lia, by lia, by lia, by lia, fun t ht => by
      cases t with
      | zero => exact ⟨x, ha, hb, hx⟩
      | succ t =>
        have := b5 t (by lia)
        rw [show i - 1 + (t + 1) = i + t by lia, show j - 1 + (t + 1) = j + t by lia]
        exact this⟩
    lia
theorem Best.no_right {i j s : Nat} {x : Int} (h : Best jk a b lo hi lo' hi' i j s) (h1 : i + s < hi) (h2 : j + s < hi') (ha : a[i + s]? = some x) (hb : b[j + s]? = some x) (hx : jk ≠ some x) : False := by
  obtain ⟨⟨b1, b2, b3, b4, b5⟩, m1, m2, _⟩ := h
  have := m1 i j (s + 1) ⟨by lia, by lia, by lia, by lia, fun t ht => by
    rcases Nat.lt_or_ge t s with c | c
    · exact b5 t c
    · obtain rfl : t = s := by lia
      exact ⟨x, ha, hb, hx⟩⟩
  lia
theorem getD_some {l : List Int} {i : Nat} (h : i < l.length) : l[i]? = some (l.getD i 0) := by simp [List.getD, h]
theorem jk_getD {i j : Nat} (h1 : i < a.length) (h2 : j < b.length) : Jk jk a b i j ↔ jk = some (b.getD j 0) ∧ a.getD i 0 = b.getD j 0 := by
  unfold Jk
  constructor
  · rintro ⟨x, e, ha, hb⟩
    rw [getD_some h1] at ha
    rw [getD_some h2] at hb
    cases ha
    have : b.getD j 0 = a.getD i 0 := Option.some.inj hb
    exact ⟨by rw [this]; exact e, this.symm⟩
  · rintro ⟨e, h⟩
    exact ⟨_, e, by rw [getD_some h1, h], getD_some h2⟩
end
end Mine
end
section
open PySem PySem.W PySem.Spec PySem.Calls PyProof.Rows
set_option maxRecDepth 100000
namespace Mine
section
variable {jk : Option Int} {a b : List Int} {lo hi lo' hi' i : Nat} {kvs : List (Int × Value)} {PS : List Int} {x : Int}
/-- the lengths that the last row left -/
noncomputable def DI (jk : Option Int) (a b : List Int) (lo hi lo' hi' : Nat) (kvs : List (Int × Value)) (i : Nat) : Prop :=
  ∀ e : Nat, (valueAt kvs ((e : Int) - 1) = none ∧ IsEnd jk a b lo hi lo' hi' i e 0) ∨ ∃ r t, 0 < r ∧ valueAt kvs ((e : Int) - 1) = some (.int (r : Nat) t) ∧ IsEnd jk a b lo hi lo' hi' i e r
theorem DI.start : DI jk a b lo hi lo' hi' [] lo := fun _ => .inl ⟨rfl, IsEnd.start⟩
/-- where the row's sign stands -/
structure PosOf (jk : Option Int) (b : List Int) (x : Int) (PS : List Int) : Prop where
  mem : ∀ y : Nat, (y : Int) ∈ PS ↔ b[y]? = some x ∧ jk ≠ some x
  nat : ∀ v ∈ PS, ∃ y : Nat, v = (y : Int)
  inc : PS.Pairwise (· < ·)
theorem pos_inc (ys : List Int) (x : Int) (n : Nat) : (pos ys x n).Pairwise (· < ·) := by
  unfold pos
  refine List.pairwise_map.mpr ((List.pairwise_lt_range.filter _).imp ?_)
  intro a b h
  show (a : Int) < (b : Int)
  lia
theorem pos_nat {ys : List Int} {x : Int} {n : Nat} : ∀ v ∈ pos ys x n, ∃ y : Nat, v = (y : Int) := by
  intro v hv
  obtain ⟨j, _, rfl⟩ := List.mem_map.mp hv
  exact ⟨j, rfl⟩
theorem PosOf.pos (h : jk ≠ some x) : PosOf jk b x (pos b x b.length) := ⟨fun _ => pos_mem.trans ⟨fun p => ⟨p, h⟩, fun p => p.1⟩, pos_nat, pos_inc _ _ _⟩
theorem PosOf.nil (h : jk = some x ∨ x ∉ b) : PosOf jk b x [] := ⟨fun y => ⟨fun p => (nomatch p), fun ⟨p, q⟩ => (h.elim (fun e => q e) (fun e => e (List.mem_of_getElem? p))).elim⟩, fun _ p => (nomatch p), .nil⟩
/-- the row's own lengths, so far -/
noncomputable def NI (jk : Option Int) (a b : List Int) (lo hi lo' hi' : Nat) (kvs : List (Int × Value)) (PS : List Int) (q i : Nat) : Prop :=
  ∀ e : Nat, (valueAt kvs ((e : Int) - 1) = none ∧ ∀ z y : Nat, z < q → PS[z]? = some (y : Int) → e = y + 1 → y < lo' ∨ hi' ≤ y) ∨ ∃ r t, 0 < r ∧ valueAt kvs ((e : Int) - 1) = some (.int (r : Nat) t) ∧ IsEnd jk a b lo hi lo' hi' (i + 1) e r
theorem NI.start : NI jk a b lo hi lo' hi' [] PS 0 i := fun _ => .inl ⟨rfl, fun z y h => absurd h (Nat.not_lt_zero _)⟩
theorem NI.skip {q j : Nat} (h : NI jk a b lo hi lo' hi' kvs PS q i) (hj : PS[q]? = some (j : Int)) (hlt : j < lo') : NI jk a b lo hi lo' hi' kvs PS (q + 1) i := fun e => (h e).imp (fun ⟨p, p2⟩ => ⟨p, fun z y hz hy he => by
  rcases Nat.lt_or_ge z q with c | c
  · exact p2 z y c hy he
  · obtain rfl : z = q := by lia
    rw [hj] at hy
    have : (j : Int) = y := Option.some.inj hy
    lia⟩) id
theorem NI.put {q j r : Nat} {t : Tok} (h : NI jk a b lo hi lo' hi' kvs PS q i) (hj : PS[q]? = some (j : Int)) (hr : IsEnd jk a b lo hi lo' hi' (i + 1) (j + 1) r) (h0 : 0 < r) : NI jk a b lo hi lo' hi' (stored kvs (j : Int) (.int (r : Nat) t)) PS (q + 1) i := fun e => by
  by_cases he : e = j + 1
  · subst he
    refine .inr ⟨r, t, h0, ?_, hr⟩
    rw [valueAt_stored, if_pos (by lia)]
  · rw [valueAt_stored, if_neg (by lia)]
    refine (h e).imp (fun ⟨p, p2⟩ => ⟨p, fun z y hz hy he2 => ?_⟩) id
    rcases Nat.lt_or_ge z q with c | c
    · exact p2 z y c hy he2
    · obtain rfl : z = q := by lia
      rw [hj] at hy
      have : (j : Int) = y := Option.some.inj hy
      lia
theorem NI.done {q : Nat} (h : NI jk a b lo hi lo' hi' kvs PS q i) (P : PosOf jk b x PS) (hx : a[i]? = some x) (hz : ∀ z y : Nat, q ≤ z → PS[z]? = some (y : Int) → hi' ≤ y) : DI jk a b lo hi lo' hi' kvs (i + 1) := fun e => by
  refine (h e).imp (fun ⟨p, p2⟩ => ⟨p, ?_⟩) id
  cases e with
  | zero => exact IsEnd.left
  | succ y =>
    refine IsEnd.none fun x' e1 e2 e3 l1 l2 l3 l4 => ?_
    rw [hx] at e1
    cases e1
    have hm := (P.mem y).mpr ⟨e2, e3⟩
    obtain ⟨z, hz1⟩ := List.getElem?_of_mem hm
    rcases Nat.lt_or_ge z q with c | c
    · rcases p2 z y c hz1 rfl with w | w <;> lia
    · have := hz z y c hz1; lia
theorem row_next {q y e k j s : Nat} (P : PosOf jk b x PS) (hx : a[i]? = some x) (h : BI (Blk jk a b lo hi lo' hi') (PrF i e) lo lo' k j s) (h1 : ∀ v ∈ PS.take q, v < (e : Int)) (h2 : ∀ v ∈ PS.drop q, (e : Int) ≤ v) (hq : PS[q]? = some (y : Int)) :
    BI (Blk jk a b lo hi lo' hi') (PrF i y) lo lo' k j s ∧ (∀ v ∈ PS.take (q + 1), v < ((y + 1 : Nat) : Int)) ∧ (∀ v ∈ PS.drop (q + 1), ((y + 1 : Nat) : Int) ≤ v) := by
  have hlt : q < PS.length := (List.getElem?_eq_some_iff.mp hq).1
  have hge : PS[q] = (y : Int) := by rw [List.getElem?_eq_getElem hlt] at hq; exact Option.some.inj hq
  have hd : PS.drop q = (y : Int) :: PS.drop (q + 1) := by rw [List.drop_eq_getElem_cons hlt, hge]
  have hey : (e : Int) ≤ y := h2 _ (by rw [hd]; exact .head _)
  have hinc : (PS.drop q).Pairwise (· < ·) := P.inc.sublist (List.drop_sublist _ _)
  rw [hd] at hinc
  have hgt := (List.pairwise_cons.mp hinc).1
  refine ⟨prF_skip h (by lia) fun y' x' l1 l2 e1 e2 e3 _ _ => ?_, fun v hv => ?_, fun v hv => ?_⟩
  · rw [hx] at e1
    cases e1
    have hm := (P.mem y').mpr ⟨e2, e3⟩
    rw [← List.take_append_drop q PS] at hm
    rcases List.mem_append.mp hm with hm | hm
    · have := h1 _ hm; lia
    · rw [hd] at hm
      rcases List.mem_cons.mp hm with hm | hm
      · lia
      · have := hgt _ hm; lia
  · rw [List.take_add_one, hq] at hv
    rcases List.mem_append.mp hv with hv | hv
    · have := h1 _ hv; lia
    · have : v = (y : Int) := by simpa using hv
      lia
  · have := hgt _ hv; lia
theorem row_done {q e k j s : Nat} (P : PosOf jk b x PS) (hx : a[i]? = some x) (h : BI (Blk jk a b lo hi lo' hi') (PrF i e) lo lo' k j s) (h1 : ∀ v ∈ PS.take q, v < (e : Int)) (h2 : ∀ v ∈ PS.drop q, (hi' : Int) ≤ v) :
    BI (Blk jk a b lo hi lo' hi') (fun k j s => k + s ≤ i + 1) lo lo' k j s :=
  prF_done h fun y' x' l1 e1 e2 e3 l2 l3 => by
    rw [hx] at e1
    cases e1
    have hm := (P.mem y').mpr ⟨e2, e3⟩
    rw [← List.take_append_drop q PS] at hm
    rcases List.mem_append.mp hm with hm | hm
    · have := h1 _ hm; lia
    · have := h2 _ hm; lia
end
end Mine
end
section
namespace Mine
/-! windows and slices -/
/-- what a window's longest block is -/
noncomputable def LongW (jk : Option Int) (a b : List Int) (lo hi lo' hi' i j s : Nat) : Prop :=
  ∃ i₀ j₀ s₀ d e, Best jk a b lo hi lo' hi' i₀ j₀ s₀ ∧ i₀ = i + d ∧ j₀ = j + d ∧ s = d + s₀ + e ∧ lo ≤ i ∧ lo' ≤ j ∧ i + s ≤ hi ∧ j + s ≤ hi' ∧
    (∀ t, t < d → Jk jk a b (i + t) (j + t)) ∧ (i = lo ∨ j = lo' ∨ ¬ Jk jk a b (i - 1) (j - 1)) ∧
    (∀ t, t < e → Jk jk a b (i₀ + s₀ + t) (j₀ + s₀ + t)) ∧ (i + s = hi ∨ j + s = hi' ∨ ¬ Jk jk a b (i + s) (j + s))
noncomputable def cut (xs : List Int) (lo hi : Nat) : List Int := (xs.take hi).drop lo
theorem cut_len {xs : List Int} {lo hi : Nat} (h : hi ≤ xs.length) : (cut xs lo hi).length = hi - lo := by unfold cut; simp; grind
theorem cut_get {xs : List Int} {lo hi t : Nat} : (cut xs lo hi)[t]? = if lo + t < hi then xs[lo + t]? else none := by
  unfold cut
  rw [List.getElem?_drop]
  split
  · rw [List.getElem?_take_of_lt (by assumption)]
  · rw [List.getElem?_eq_none]
    simp; grind
/-- the blocks of a window, in their order, with their places in the whole rows -/
inductive WB (jk : Option Int) (xs ys : List Int) : Nat → Nat → Nat → Nat → List Tri → Prop
  | nil {lo hi lo' hi' i j} : LongW jk xs ys lo hi lo' hi' i j 0 → WB jk xs ys lo hi lo' hi' []
  | node {lo hi lo' hi' i j s A B} : LongW jk xs ys lo hi lo' hi' i j s → 0 < s → WB jk xs ys lo i lo' j A → WB jk xs ys (i + s) hi (j + s) hi' B → WB jk xs ys lo hi lo' hi' (A ++ (i, j, s) :: B)
section
variable {jk : Option Int} {xs ys : List Int} {lo hi lo' hi' i j s : Nat}
theorem cut_blk (h1 : hi ≤ xs.length) (h2 : hi' ≤ ys.length) (l1 : lo ≤ hi) (l2 : lo' ≤ hi') : Blk jk (cut xs lo hi) (cut ys lo' hi') 0 (cut xs lo hi).length 0 (cut ys lo' hi').length i j s ↔ Blk jk xs ys lo hi lo' hi' (lo + i) (lo' + j) s := by
  unfold Blk
  rw [cut_len h1, cut_len h2]
  constructor
  · rintro ⟨_, a2, _, a4, a5⟩
    refine ⟨by grind, by grind, by grind, by grind, fun t ht => ?_⟩
    obtain ⟨x, e1, e2, e3⟩ := a5 t ht
    rw [cut_get, if_pos (by grind)] at e1 e2
    exact ⟨x, by rw [Nat.add_assoc]; exact e1, by rw [Nat.add_assoc]; exact e2, e3⟩
  · rintro ⟨_, a2, _, a4, a5⟩
    refine ⟨by grind, by grind, by grind, by grind, fun t ht => ?_⟩
    obtain ⟨x, e1, e2, e3⟩ := a5 t ht
    refine ⟨x, ?_, ?_, e3⟩
    · rw [cut_get, if_pos (by grind), ← Nat.add_assoc]; exact e1
    · rw [cut_get, if_pos (by grind), ← Nat.add_assoc]; exact e2
theorem cut_best (h1 : hi ≤ xs.length) (h2 : hi' ≤ ys.length) (l1 : lo ≤ hi) (l2 : lo' ≤ hi') (h : Best jk xs ys lo hi lo' hi' (lo + i) (lo' + j) s) : Best jk (cut xs lo hi) (cut ys lo' hi') 0 (cut xs lo hi).length 0 (cut ys lo' hi').length i j s := by
  obtain ⟨a1, a2, a3, a4⟩ := h
  refine ⟨(cut_blk h1 h2 l1 l2).mpr a1, fun i' j' s' hb => a2 _ _ _ ((cut_blk h1 h2 l1 l2).mp hb), fun z => by have := a3 z; grind, fun z i' j' hb => ?_⟩
  have := a4 z _ _ ((cut_blk h1 h2 l1 l2).mp hb)
  grind
theorem cut_jk : Jk jk (cut xs lo hi) (cut ys lo' hi') i j ↔ lo + i < hi ∧ lo' + j < hi' ∧ Jk jk xs ys (lo + i) (lo' + j) := by
  unfold Jk
  constructor
  · rintro ⟨x, e, e1, e2⟩
    rw [cut_get] at e1 e2
    split at e1 <;> split at e2
    · exact ⟨by assumption, by assumption, x, e, e1, e2⟩
    · cases e2
    · cases e1
    · cases e1
  · rintro ⟨l1, l2, x, e, e1, e2⟩
    exact ⟨x, e, by rw [cut_get, if_pos l1]; exact e1, by rw [cut_get, if_pos l2]; exact e2⟩
theorem LongW.long (h1 : hi ≤ xs.length) (h2 : hi' ≤ ys.length) (h : LongW jk xs ys lo hi lo' hi' i j s) : Long jk (cut xs lo hi) (cut ys lo' hi') (i - lo) (j - lo') s ∧ lo ≤ i ∧ lo' ≤ j ∧ i + s ≤ hi ∧ j + s ≤ hi' := by
  obtain ⟨i₀, j₀, s₀, d, e, B, e1, e2, e3, g1, g2, g3, g4, k1, k2, k3, k4⟩ := h
  have l1 : lo ≤ hi := by grind
  have l2 : lo' ≤ hi' := by grind
  refine ⟨⟨i₀ - lo, j₀ - lo', s₀, d, e, cut_best h1 h2 l1 l2 (by rw [show lo + (i₀ - lo) = i₀ by grind, show lo' + (j₀ - lo') = j₀ by grind]; exact B), by grind, by grind, e3, fun t ht => ?_, ?_, fun t ht => ?_, ?_⟩, g1, g2, g3, g4⟩
  · refine cut_jk.mpr ⟨by grind, by grind, ?_⟩
    rw [show lo + (i - lo + t) = i + t by grind, show lo' + (j - lo' + t) = j + t by grind]
    exact k1 t ht
  · rcases k2 with q | q | q
    · exact .inl (by grind)
    · exact .inr (.inl (by grind))
    · by_cases c1 : i = lo
      · exact .inl (by grind)
      · by_cases c2 : j = lo'
        · exact .inr (.inl (by grind))
        · refine .inr (.inr fun hj => q ?_)
          have := (cut_jk.mp hj).2.2
          rwa [show lo + (i - lo - 1) = i - 1 by grind, show lo' + (j - lo' - 1) = j - 1 by grind] at this
  · refine cut_jk.mpr ⟨by grind, by grind, ?_⟩
    rw [show lo + (i₀ - lo + s₀ + t) = i₀ + s₀ + t by grind, show lo' + (j₀ - lo' + s₀ + t) = j₀ + s₀ + t by grind]
    exact k3 t ht
  · intro hj
    obtain ⟨c1, c2, c3⟩ := cut_jk.mp hj
    rcases k4 with q | q | q
    · grind
    · grind
    · rw [show lo + (i - lo + s) = i + s by grind, show lo' + (j - lo' + s) = j + s by grind] at c3
      exact q c3
theorem cut_take {k : Nat} (hk : lo + k ≤ hi) : (cut xs lo hi).take k = cut xs lo (lo + k) := by
  apply List.ext_getElem?
  intro t
  rw [cut_get]
  by_cases c : t < k
  · rw [List.getElem?_take_of_lt c, cut_get, if_pos (by grind), if_pos (by grind)]
  · rw [if_neg (by grind), List.getElem?_eq_none]
    rw [List.length_take]; grind
theorem cut_drop {k : Nat} : (cut xs lo hi).drop k = cut xs (lo + k) hi := by
  unfold cut
  rw [List.drop_drop]
theorem cut_all : cut xs 0 xs.length = xs := by unfold cut; simp
/-- they are those of the slices -/
theorem WB.rb {A : List Tri} (h : WB jk xs ys lo hi lo' hi' A) (h1 : hi ≤ xs.length) (h2 : hi' ≤ ys.length) : ∃ A', RB jk (cut xs lo hi) (cut ys lo' hi') A' ∧ A = A'.map (shift lo lo') := by
  induction h with
  | nil l => exact ⟨[], RB.nil (l.long h1 h2).1, rfl⟩
  | @node lo hi lo' hi' i j s A B l z _ _ ih1 ih2 =>
    obtain ⟨L, g1, g2, g3, g4⟩ := l.long h1 h2
    obtain ⟨A', r1, rfl⟩ := ih1 (by grind) (by grind)
    obtain ⟨B', r2, rfl⟩ := ih2 h1 h2
    refine ⟨_, RB.node L z (A := A') (B := B') ?_ ?_, ?_⟩
    · rw [cut_take (by grind), cut_take (by grind), show lo + (i - lo) = i by grind, show lo' + (j - lo') = j by grind]; exact r1
    · rw [cut_drop, cut_drop, show lo + (i - lo + s) = i + s by grind, show lo' + (j - lo' + s) = j + s by grind]; exact r2
    · rw [List.map_append, List.map_cons, List.map_map]
      congr 1
      congr 1
      · show (i, j, s) = (i - lo + lo, j - lo' + lo', s)
        rw [show i - lo + lo = i by grind, show j - lo' + lo' = j by grind]
      · refine List.map_congr_left fun t _ => ?_
        show (t.1 + (i + s), t.2.1 + (j + s), t.2.2) = (t.1 + (i - lo + s) + lo, t.2.1 + (j - lo' + s) + lo', t.2.2)
        rw [show t.1 + (i + s) = t.1 + (i - lo + s) + lo by grind, show t.2.1 + (j + s) = t.2.1 + (j - lo' + s) + lo' by grind]
end
end Mine
end
section
open PySem PySem.W PySem.Spec PySem.Calls PyProof.Rows
set_option maxRecDepth 100000
namespace Mine
/-! the sort, over a strict order of its own -/
section
variable {N : Nat} {key : Nat → Nat} {cmp : Nat → Nat → (Bool → Shared → Prop) → Shared → Prop} {Inv : Shared → Prop}
/-- an order of the places -/
structure Pm (N : Nat) (p : Array Nat) : Prop where
  size : p.size = N
  lt : ∀ k, k < N → p.getD k 0 < N
  inj : ∀ a b, a < N → b < N → p.getD a 0 = p.getD b 0 → a = b
theorem pm_of {p : Array Nat} (h : p.Perm (List.range N).toArray) : Pm N p := by
  have hl : p.toList.Perm (List.range N) := by simpa using h.toList
  have hs : p.size = N := by have := hl.length_eq; simpa using this
  refine ⟨hs, fun k hk => ?_, fun a b ha hb e => ?_⟩
  · have h1 : k < p.size := by lia
    have : p[k] ∈ List.range N := hl.mem_iff.mp (by simp)
    rw [show p.getD k 0 = p[k] by simp [Array.getD, h1]]
    exact List.mem_range.mp this
  · have h1 : a < p.size := by lia
    have h2 : b < p.size := by lia
    rw [show p.getD a 0 = p[a] by simp [Array.getD, h1], show p.getD b 0 = p[b] by simp [Array.getD, h2]] at e
    have hn : p.toList.Nodup := hl.nodup_iff.mpr List.nodup_range
    exact (List.getElem_inj (h₀ := by simpa using h1) (h₁ := by simpa using h2) hn).mp (by simpa using e)
/-- ascending as far as n -/
noncomputable def Asc (key : Nat → Nat) (p : Array Nat) (n : Nat) : Prop := ∀ a b, a < b → b < n → key (p.getD a 0) < key (p.getD b 0)
noncomputable def Dsc (key : Nat → Nat) (p : Array Nat) (n : Nat) : Prop := ∀ a b, a < b → b < n → key (p.getD b 0) < key (p.getD a 0)
variable (hcmp : ∀ i j (C : Bool → Shared → Prop) s, i < N → j < N → Inv s → (∀ s', Inv s' → C (decide (key i < key j)) s') → cmp i j C s) (hk : ∀ i j, i < N → j < N → key i = key j → i = j)
include hcmp hk
theorem asc_wp {p : Array Nat} (P : Pm N p) {Q : Nat → Shared → Prop} : ∀ (f n : Nat) (s : Shared), n + f = N → 1 ≤ n → Asc key p n → Inv s → (∀ m s', Inv s' → n ≤ m → m ≤ N → Asc key p m → (m < N → key (p.getD m 0) < key (p.getD (m - 1) 0)) → Q m s') → (kas_asc p f n).kasWp cmp Q s
  | 0, n, s, hn, h1, hA, hI, hQ => hQ n s hI (Nat.le_refl _) (by lia) hA (fun h => by lia)
  | f + 1, n, s, hn, h1, hA, hI, hQ => by
    refine hcmp _ _ _ s (P.lt _ (by lia)) (P.lt _ (by lia)) hI fun s' hI' => ?_
    by_cases c : key (p.getD n 0) < key (p.getD (n - 1) 0)
    · rw [decide_eq_true c]; dsimp only; rw [if_pos rfl]
      exact hQ n s' hI' (Nat.le_refl _) (by lia) hA fun _ => c
    · rw [decide_eq_false c]; dsimp only; rw [if_neg (show ¬ (false = true) by decide)]
      have hne : key (p.getD (n - 1) 0) < key (p.getD n 0) := by
        rcases Nat.lt_or_ge (key (p.getD (n - 1) 0)) (key (p.getD n 0)) with q | q
        · exact q
        · have e := hk _ _ (P.lt _ (by lia)) (P.lt _ (by lia)) (Nat.le_antisymm q (Nat.le_of_not_lt c))
          have := P.inj _ _ (by lia) (by lia) e
          lia
      refine asc_wp P f (n + 1) s' (by lia) (by lia) (fun a b hab hb => ?_) hI' fun m s'' hI'' h3 h4 h5 h6 => hQ m s'' hI'' (by lia) h4 h5 h6
      by_cases e : b = n
      · subst e
        by_cases e2 : a = b - 1
        · rw [e2]; exact hne
        · exact Nat.lt_trans (hA a (b - 1) (by lia) (by lia)) hne
      · exact hA a b hab (by lia)
theorem desc_wp {p : Array Nat} (P : Pm N p) {Q : Array Nat × Nat × Nat → Shared → Prop} : ∀ (f n : Nat) (s : Shared), n + f = N → 1 ≤ n → Dsc key p n → Inv s → (∀ m s', Inv s' → n ≤ m → m ≤ N → Dsc key p m → Q (p, m, 0) s') → (kas_desc f p n 0).kasWp cmp Q s
  | 0, n, s, hn, h1, hA, hI, hQ => hQ n s hI (Nat.le_refl _) (by lia) hA
  | f + 1, n, s, hn, h1, hA, hI, hQ => by
    refine hcmp _ _ _ s (P.lt _ (by lia)) (P.lt _ (by lia)) hI fun s' hI' => ?_
    by_cases c : key (p.getD n 0) < key (p.getD (n - 1) 0)
    · rw [decide_eq_true c]; dsimp only; rw [if_pos rfl, if_neg (by lia)]
      refine desc_wp P f (n + 1) s' (by lia) (by lia) (fun a b hab hb => ?_) hI' fun m s'' hI'' h3 h4 h5 => hQ m s'' hI'' (by lia) h4 h5
      by_cases e : b = n
      · subst e
        by_cases e2 : a = b - 1
        · rw [e2]; exact c
        · exact Nat.lt_trans c (hA a (b - 1) (by lia) (by lia))
      · exact hA a b hab (by lia)
    · rw [decide_eq_false c]; dsimp only; rw [if_neg (show ¬ (false = true) by decide)]
      have hne : key (p.getD (n - 1) 0) < key (p.getD n 0) := by
        rcases Nat.lt_or_ge (key (p.getD (n - 1) 0)) (key (p.getD n 0)) with q | q
        · exact q
        · have e := hk _ _ (P.lt _ (by lia)) (P.lt _ (by lia)) (Nat.le_antisymm q (Nat.le_of_not_lt c))
          have := P.inj _ _ (by lia) (by lia) e
          lia
      refine hcmp _ _ _ s' (P.lt _ (by lia)) (P.lt _ (by lia)) hI' fun s'' hI'' => ?_
      rw [decide_eq_true hne]; dsimp only; rw [if_pos rfl]
      exact hQ n s'' hI'' (Nat.le_refl _) (by lia) hA
theorem place_wp {p : Array Nat} (P : Pm N p) {k : Nat} (hkN : k < N) (hA : Asc key p k) {Q : Nat → Shared → Prop} : ∀ (f l r : Nat) (s : Shared), l ≤ r → r ≤ k → r - l ≤ f → Inv s → (∀ i, i < l → key (p.getD i 0) < key (p.getD k 0)) → (∀ i, r ≤ i → i < k → key (p.getD k 0) < key (p.getD i 0)) →
    (∀ l s', Inv s' → l ≤ k → (∀ i, i < l → key (p.getD i 0) < key (p.getD k 0)) → (∀ i, l ≤ i → i < k → key (p.getD k 0) < key (p.getD i 0)) → Q l s') → (kas_place p k f l r).kasWp cmp Q s
  | 0, l, r, s, h1, h2, h3, hI, hl, hr, hQ => hQ l s hI (by lia) hl (fun i a b => hr i (by lia) b)
  | f + 1, l, r, s, h1, h2, h3, hI, hl, hr, hQ => by
    unfold kas_place
    by_cases c : l ≥ r
    · rw [if_pos c]
      exact hQ l s hI (by lia) hl (fun i a b => hr i (by lia) b)
    · rw [if_neg c]
      have hm1 : (l + r) / 2 < r := by lia
      have hm2 : l ≤ (l + r) / 2 := by lia
      refine hcmp _ _ _ s (P.lt _ hkN) (P.lt _ (by lia)) hI fun s' hI' => ?_
      by_cases d : key (p.getD k 0) < key (p.getD ((l + r) / 2) 0)
      · rw [decide_eq_true d]; dsimp only; rw [if_pos rfl]
        refine place_wp P hkN hA f l ((l + r) / 2) s' hm2 (by lia) (Nat.le_of_lt_succ (Nat.lt_of_lt_of_le (Nat.sub_lt_sub_right hm2 hm1) h3)) hI' hl (fun i a b => ?_) hQ
        by_cases e : i = (l + r) / 2
        · rw [e]; exact d
        · exact Nat.lt_trans d (hA _ _ (by lia) b)
      · rw [decide_eq_false d]; dsimp only; rw [if_neg (show ¬ (false = true) by decide)]
        have hne : key (p.getD ((l + r) / 2) 0) < key (p.getD k 0) := by
          rcases Nat.lt_or_ge (key (p.getD ((l + r) / 2) 0)) (key (p.getD k 0)) with q | q
          · exact q
          · have e := hk _ _ (P.lt _ (by lia)) (P.lt _ (by lia)) (Nat.le_antisymm q (Nat.le_of_not_lt d))
            have := P.inj _ _ (by lia) (by lia) e
            lia
        refine place_wp P hkN hA f ((l + r) / 2 + 1) r s' (by lia) h2 (Nat.le_of_lt_succ (Nat.lt_of_lt_of_le (Nat.sub_lt_sub_left (Nat.lt_of_not_le c) (Nat.lt_succ_of_le hm2)) h3)) hI' (fun i a => ?_) hr hQ
        by_cases e : i = (l + r) / 2
        · rw [e]; exact hne
        · exact Nat.lt_trans (hA _ _ (by lia) (by lia)) hne
theorem bin_wp {Q : Array Nat → Shared → Prop} : ∀ (f : Nat) (p : Array Nat) (k : Nat) (s : Shared), p.Perm (List.range N).toArray → k + f = N → 1 ≤ k → Asc key p k → Inv s → (∀ p' s', Inv s' → p'.Perm (List.range N).toArray → Asc key p' N → Q p' s') → (kas_bin f p k).kasWp cmp Q s
  | 0, p, k, s, hp, hkf, h1, hA, hI, hQ => hQ p s hI hp (by rw [← show k = N by lia]; exact hA)
  | f + 1, p, k, s, hp, hkf, h1, hA, hI, hQ => by
    have P := pm_of hp
    unfold kas_bin
    rw [KasT.kasWp_bind]
    refine place_wp hcmp hk P (by lia) hA k 0 k s (Nat.zero_le _) (Nat.le_refl _) (by lia) hI (fun i h => by lia) (fun i a b => by lia) fun l s' hI' hlk hl hr => ?_
    have hks : k < p.size := by rw [P.size]; lia
    have hb := getElem?_bubble (xs := p) (src := k) hks (k - l) (Nat.sub_le _ _)
    have hget : ∀ j, j < N → (bubble p k (k - l)).getD j 0 = if j = l then p.getD k 0 else if l < j ∧ j ≤ k then p.getD (j - 1) 0 else p.getD j 0 := fun j hj => by
      simp only [Array.getD_eq_getD_getElem?]
      rw [hb j, show k - (k - l) = l by lia]
      by_cases c1 : j = l
      · rw [if_pos c1, if_pos c1]
      · rw [if_neg c1, if_neg c1]
        by_cases c2 : l < j ∧ j ≤ k
        · rw [if_pos c2, if_pos c2]
        · rw [if_neg c2, if_neg c2]
    refine bin_wp f (bubble p k (k - l)) (k + 1) s' ((bubble_perm _ _ _).trans hp) (by lia) (by lia) (fun a b hab hb' => ?_) hI' hQ
    rw [hget a (by lia), hget b (by lia)]
    by_cases a1 : a = l
    · rw [if_pos a1, if_neg (by lia), if_pos (by lia)]
      exact hr _ (by lia) (by lia)
    · rw [if_neg a1]
      by_cases b1 : b = l
      · rw [if_pos b1, if_neg (by lia)]
        exact hl a (by lia)
      · rw [if_neg b1]
        by_cases a2 : l < a ∧ a ≤ k
        · rw [if_pos a2, if_pos (by lia)]
          exact hA _ _ (by lia) (by lia)
        · rw [if_neg a2]
          by_cases b2 : l < b ∧ b ≤ k
          · rw [if_pos b2]
            exact hA _ _ (by lia) (by lia)
          · rw [if_neg b2]
            exact hA _ _ hab (by lia)
theorem tail3_wp {p : Array Nat} {n : Nat} {Q : Nat × Array Nat → Shared → Prop} {s : Shared} (hp : p.Perm (List.range N).toArray) (h1 : 1 ≤ n) (hn : n ≤ N) (hD : Dsc key p n) (hI : Inv s) (hQ : ∀ m p' s', Inv s' → 1 ≤ m → m ≤ N → p'.Perm (List.range N).toArray → Asc key p' m → Q (m, p') s') :
    (kas_tail3 n N p).kasWp cmp Q s := by
  have P := pm_of hp
  have hr : (kas_rev p 0 n).Perm (List.range N).toArray := (mirror_perm _ _ _ _).trans hp
  have hget : ∀ j, j < n → (kas_rev p 0 n).getD j 0 = p.getD (n - 1 - j) 0 := fun j hj => by
    have := getElem?_mirror_all (xs := p) (i := 0) (j := n) (by rw [P.size]; lia) j
    unfold kas_rev
    rw [Array.getD_eq_getD_getElem?, this, if_pos (by lia), Array.getD_eq_getD_getElem?]
    congr 2
    lia
  unfold kas_tail3
  rw [KasT.kasWp_bind]
  refine asc_wp hcmp hk (pm_of hr) (N - n) n s (by lia) h1 (fun a b hab hb => ?_) hI fun m s' hI' h3 h4 h5 _ => hQ m _ s' hI' (by lia) h4 hr h5
  rw [hget a (by lia), hget b hb]
  exact hD _ _ (Nat.sub_lt_sub_left (Nat.lt_of_lt_of_le hab (Nat.le_sub_one_of_lt hb)) hab) (by lia)
theorem sort_wp {Q : Array Nat → Shared → Prop} {s : Shared} (h2 : 2 ≤ N) (hI : Inv s) (hQ : ∀ p' s', Inv s' → p'.Perm (List.range N).toArray → Asc key p' N → Q p' s') : (kas_sort N).kasWp cmp Q s := by
  have hp0 : ((List.range N).toArray).Perm (List.range N).toArray := Array.Perm.refl _
  have P := pm_of hp0
  unfold kas_sort
  rw [KasT.kasWp_bind]
  have fin : ∀ m p' s', Inv s' → 1 ≤ m → m ≤ N → p'.Perm (List.range N).toArray → Asc key p' m → (if (m, p').1 < N then kas_bin (N - max (m, p').1 1) (m, p').2 (max (m, p').1 1) else KasT.ret (m, p').2).kasWp cmp Q s' := fun m p' s' hI' h3 h4 hp' hA => by
    by_cases c : m < N
    · rw [if_pos c]
      show (kas_bin (N - max m 1) p' (max m 1)).kasWp cmp Q s'
      rw [Nat.max_eq_left h3]
      exact bin_wp hcmp hk (N - m) p' m s' hp' (by lia) h3 hA hI' hQ
    · rw [if_neg c]
      exact hQ p' s' hI' hp' (by rw [← show m = N by lia]; exact hA)
  unfold kas_count
  rw [KasT.kasWp_bind]
  refine asc_wp hcmp hk P (N - 1) 1 s (by lia) (Nat.le_refl _) (fun a b hab hb => by lia) hI fun n s' hI' h3 h4 h5 h6 => ?_
  by_cases c : n = N
  · rw [if_pos (by simp [c])]
    exact fin n _ s' hI' h3 h4 hp0 h5
  · rw [if_neg (by simp [c])]
    by_cases d : n > 1
    · rw [if_pos d]
      refine hcmp _ _ _ s' (P.lt _ (by lia)) (P.lt _ (by lia)) hI' fun s'' hI'' => ?_
      rw [decide_eq_true (h5 0 (n - 1) (by lia) (by lia))]; dsimp only; rw [if_pos rfl]
      exact fin n _ s'' hI'' h3 h4 hp0 h5
    · rw [if_neg d]
      obtain rfl : n = 1 := by lia
      unfold kas_descPart
      rw [KasT.kasWp_bind]
      refine desc_wp hcmp hk P (N - 2) 2 s' (by lia) (by lia) (fun a b hab hb => ?_) hI' fun m s'' hI'' h7 h8 h9 => ?_
      · obtain rfl : a = 0 := by lia
        obtain rfl : b = 1 := by lia
        exact h6 (by lia)
      · rw [if_neg (by simp)]
        exact tail3_wp (n := m) hcmp hk hp0 (Nat.le_trans (by decide) h7) h8 h9 hI'' fun m p' s3 hI3 g1 g2 g3 g4 => fin m p' s3 hI3 g1 g2 g3 g4
end
end Mine
end
section
open PySem PySem.W PySem.Spec PySem.Calls PyProof.Rows
set_option maxRecDepth 100000
set_option maxHeartbeats 4000000
namespace Mine
theorem fill20 (w : World) : OpenLaw.prog PySem.Challenge.rw_pg0326_01 = OpenLaw.prog PySem.Challenge.rw_pg0326_01 ∧ KF w.params = KF w.params := by
  w_on
  k_fill
  exact ⟨rfl, rfl⟩
section
variable {w : World} {A : Around} {E : Value → Shared → Prop} {s : Shared} {h : Heap}
theorem find_lt (X : (KF w.params).In h) : Looks (M0 w) h (typeLookup (.ref 135) "__lt__") (some (.builtin "tuple.__lt__")) := looks_findIn X (by w_on; k_is)
theorem tlt_kind : builtinKind "tuple.__lt__" = some .slot := by decide +kernel
theorem tlt_split : splitId "tuple.__lt__" = some ("tuple", "__lt__") := by decide +kernel
theorem tlt_plain : plainId "tuple.__lt__" = true := by decide +kernel
theorem special_ifb {self : Value} {id : String} {name : Str} {args : List Value} {Q : Option Value → Shared → Prop} (t1 : Looks (M0 w) s.heap (specialOf self name) (some (.builtin id))) (t2 : Looks (M0 w) s.heap (bindSpecial (.builtin id) self) (.builtin id, [self]))
    (hc : wpAny (M0 w) A (call (.builtin id) (self :: args)) (fun v => Q (some v)) E s) : wpAny (M0 w) A (callSpecialIfBound? self name args) Q E s := by
  simp only [callSpecialIfBound?, bindSpecialIfBound?]
  refine wpAny_holding (wpAny_bind (wpAny_bind (t1.at ?_)))
  refine wpAny_bind (wpAny_askSetting (wpAny_ite ?_))
  have fin : wpAny (M0 w) A (call (.builtin id) ([self] ++ args) >>= fun v => pure (some v)) Q E s := wpAny_bind (wpAny_mono hc (fun v s' h' => wpAny_pure h') fun _ _ h' => h')
  split
  · exact wpAny_bind (t2.at (wpAny_pure fin))
  · exact wpAny_tryCatch (wpAny_bind (t2.at (wpAny_pure fin)))
theorem lt_match {x y dx dy : Addr} {a b c d e f : Int} {t1 t2 t3 u1 u2 u3 : Tok} {Q : Bool → Shared → Prop} (X : (KF w.params).In s.heap) (hu : A.units < cLine) (hx : s.heap.get? x = some (matchO dx #[.int a t1, .int b t2, .int c t3])) (hy : s.heap.get? y = some (matchO dy #[.int d u1, .int e u2, .int f u3]))
    (hne : a ≠ d ∨ (a = d ∧ b = e ∧ c = f)) (h : Q (decide (a < d)) s) : wpAny (M0 w) A (keyLt' oneType' (.ref x) (.ref y)) Q E s := by
  have z1 : Looks (M0 w) s.heap (typeOf (.ref x)) (.ref 135) := (Looks.ld hx).andThen .now
  have z1y : Looks (M0 w) s.heap (typeOf (.ref y)) (.ref 135) := (Looks.ld hy).andThen .now
  have z3 : Looks (M0 w) s.heap (specialOf (.ref x) "__lt__") (some (.builtin "tuple.__lt__")) := z1.andThen (find_lt X)
  have t4 : Looks (M0 w) s.heap (isInstance (.ref x) (.type "tuple")) true := z1.andThen (sub_tup X)
  have t4y : Looks (M0 w) s.heap (isInstance (.ref y) (.type "tuple")) true := z1y.andThen (sub_tup X)
  have t5 : Looks (M0 w) s.heap (bindSpecial (.builtin "tuple.__lt__") (.ref x)) (.builtin "tuple.__lt__", [.ref x]) := Looks.of_pure (PySem.F.slot_tuple_lt.bind _)
  rw [keyLt'_oneType, oneLt'_eq]
  simp only [if_true]
  refine wpAny_bind (wpAny_cRoomFor hu ?_)
  refine wpAny_bind (special_ifb z3 t5 ?_)
  refine wpAny_call (codeAny_call_builtin tlt_plain PySem.F.entry_tuple_lt ?_)
  refine @check_slot (M0 w) _ _ _ "tuple.__lt__" "tuple" "__lt__" (.ref x) [.ref y] [] _ tlt_kind tlt_split t4 (PySem.F.args_tuple_lt_2 _ _) ?_
  have key : ∀ {R : PySem.Fin → Shared → Prop} {E' : Value → Shared → Prop} {A' : Around}, R (.done (.ret (.bool (decide (a < d))))) s → wpAny (M0 w) A' (Builtin.«tuple.__lt__» ⟨[.ref x, .ref y], []⟩) R E' s := by
    intro R E' A' hR
    show wpAny _ _ (do
      let (a, [b]) ← slotArgs "__lt__" 1 ⟨[.ref x, .ref y], []⟩ | unsupported "internal:tuple.compare"
      _) _ _ _
    refine wpAny_bind (wpAny_pure ?_)
    dsimp only
    refine wpAny_bind (t4y.at ?_)
    simp only [Bool.not_true, Bool.false_eq_true, if_false]
    unfold Builtin.Tuple.tupleItemsOf
    refine wpAny_bind (wpAny_bind (wpAny_seqItems hx rfl (wpAny_pure ?_)))
    refine wpAny_bind (wpAny_bind (wpAny_seqItems hy rfl (wpAny_pure ?_)))
    refine wpAny_bind ?_
    show wpAny _ _ (forIn [(Value.int a t1, Value.int d u1), (Value.int b t2, Value.int e u2), (Value.int c t3, Value.int f u3)] _ _) _ _ _
    rcases hne with hne | ⟨rfl, rfl, rfl⟩
    · rw [List.forIn_cons]
      refine wpAny_bind (wpAny_bind (wpAny_eqBool_int ?_))
      rw [show (a == d) = false by simpa using hne]
      simp only [Bool.not_false, if_true]
      refine wpAny_bind (wpAny_rule ?_)
      refine wpAny_bind ?_
      show wpAny _ _ (compareOp .Lt (.int a t1) (.int d u1)) _ _ _
      refine wpAny_lt_int ?_
      refine wpAny_bind (wpAny_pure (wpAny_pure (wpAny_pure ?_)))
      exact wpAny_pure hR
    · rw [decide_eq_false (Int.lt_irrefl a)] at hR
      rw [List.forIn_cons]
      refine wpAny_bind (wpAny_bind (wpAny_eqBool_int ?_))
      rw [beq_self_eq_true]
      simp only [Bool.not_true, Bool.false_eq_true, if_false]
      refine wpAny_pure ?_
      dsimp only
      rw [List.forIn_cons]
      refine wpAny_bind (wpAny_bind (wpAny_eqBool_int ?_))
      rw [beq_self_eq_true]
      simp only [Bool.not_true, Bool.false_eq_true, if_false]
      refine wpAny_pure ?_
      dsimp only
      rw [List.forIn_cons]
      refine wpAny_bind (wpAny_bind (wpAny_eqBool_int ?_))
      rw [beq_self_eq_true]
      simp only [Bool.not_true, Bool.false_eq_true, if_false]
      refine wpAny_pure ?_
      dsimp only
      rw [List.forIn_nil]
      refine wpAny_pure ?_
      exact wpAny_pure hR
  refine key ?_
  show wpAny _ _ (truthOfDropped (.bool (decide (a < d)))) _ _ _
  exact wpAny_truthy_bool h
end
end Mine
end
section
open PySem PySem.W PySem.Spec PySem.Calls PyProof.Rows
set_option maxRecDepth 100000
set_option maxHeartbeats 4000000
namespace Mine
section
variable {prog : Program} {w : World} {A : Around} {E : Value → Shared → Prop} {s : Shared} {h₀ : Heap} {L a : Addr} {m : Str → Option Value} {news : Led} {vs : List Value}
theorem sort_small {n : Nat} {P : PySem.Fin → Shared → Prop} (F : Fr h₀ L s.heap m) (N : News h₀ L s.heap news) (ho : s.heap.get? a = some (seqObj "list" vs.toArray n)) (haL : a ≠ L) (ha0 : h₀.get? a = none) (hna : ∀ p ∈ news, p.1 ≠ a) (h2 : vs.length < 2)
    (h : ∀ c h', Fr h₀ L h' m → News h₀ L h' ((a, seqObj "list" vs.toArray c) :: news) → P (.done (.ret .none)) { s with heap := h' }) : wpAny (model prog w) A (Builtin.«list.sort» ⟨[.ref a], []⟩) P E s := by
  have s1 := Heap.SameBut.update s.heap a (Obj.mapSeq fun _ => (#[] : Array Value))
  obtain ⟨e1, ho1⟩ : ∃ e1, (s.heap.update a (Obj.mapSeq fun _ => (#[] : Array Value))).get? a = some (seqObj "list" #[] e1) := ⟨_, get?_update_seq ho fun _ => #[]⟩
  have F3 : Fr h₀ L (((s.heap.update a (Obj.mapSeq fun _ => (#[] : Array Value))).push (seqObj "tuple" vs.toArray 0)).push (seqObj "list" #[] 0)) m := ((kas_fr F s1 haL ha0).push _).push _
  have N2 : News h₀ L (((s.heap.update a (Obj.mapSeq fun _ => (#[] : Array Value))).push (seqObj "tuple" vs.toArray 0)).push (seqObj "list" #[] 0)) news :=
    (kas_news N s1 hna).grown fun b x e => Heap.get?_push_of_some _ (Heap.get?_push_of_some _ e)
  have ho3 : (((s.heap.update a (Obj.mapSeq fun _ => (#[] : Array Value))).push (seqObj "tuple" vs.toArray 0)).push (seqObj "list" #[] 0)).get? a = some (seqObj "list" #[] e1) := Heap.get?_push_of_some _ (Heap.get?_push_of_some _ ho1)
  rw [list_sort_plain]
  refine wpAny_bind (listItems_at ho rfl ?_)
  refine wpAny_bind (listUpdate_at ho rfl ?_ (by rw [List.size_toArray, PySem.sizeLine_eq]; lia) (Nat.zero_le _))
  refine wpAny_bind (seqEpoch_at ho1 rfl ?_)
  refine wpAny_bind (wpAny_newTuple ?_ (by show vs.length ≤ _; rw [PySem.sizeLine_eq]; lia))
  refine wpAny_bind (wpAny_newList ?_ (Nat.zero_le _))
  refine wpAny_holding ?_
  show wpAny (model prog w) A _ P E { s with heap := ((s.heap.update a (Obj.mapSeq fun _ => (#[] : Array Value))).push (seqObj "tuple" vs.toArray 0)).push (seqObj "list" #[] 0) }
  dsimp only
  have hn2 : vs.toArray.size < 2 := by rw [List.size_toArray]; lia
  rw [if_pos hn2, if_pos hn2]
  refine wpAny_bind (wpAny_pure ?_)
  refine wpAny_bind (wpAny_pure ?_)
  dsimp only
  have hout : Array.map (fun x => x.2) (arrOf (SortSt.mk' general' (vs.toArray.zip vs.toArray) #[] 7 none)) = vs.toArray := by
    show Array.map (fun x => x.2) (vs.toArray.zip vs.toArray) = vs.toArray
    apply Array.ext
    · simp
    · intro i h1 h2
      simp
  rw [hout]
  refine wpAny_bind (seqEpoch_at ho3 rfl ?_)
  have s2 := Heap.SameBut.update (((s.heap.update a (Obj.mapSeq fun _ => (#[] : Array Value))).push (seqObj "tuple" vs.toArray 0)).push (seqObj "list" #[] 0)) a (Obj.mapSeq fun _ => vs.toArray)
  obtain ⟨c2, hc2⟩ : ∃ c2, ((((s.heap.update a (Obj.mapSeq fun _ => (#[] : Array Value))).push (seqObj "tuple" vs.toArray 0)).push (seqObj "list" #[] 0)).update a (Obj.mapSeq fun _ => vs.toArray)).get? a = some (seqObj "list" vs.toArray c2) := ⟨_, get?_update_seq ho3 fun _ => vs.toArray⟩
  refine wpAny_bind (listUpdate_at ho3 rfl ?_ (Nat.zero_le _) (by rw [List.size_toArray, PySem.sizeLine_eq]; lia))
  simp only [bne_self_eq_false, Bool.false_eq_true, if_false]
  refine wpAny_pure (h c2 _ (kas_fr F3 s2 haL ha0) fun p hp => ?_)
  rcases List.mem_cons.mp hp with rfl | hp
  · exact ⟨hc2, haL, ha0⟩
  · exact kas_news N2 s2 hna p hp
theorem UpdF.again {d : Addr} {o : Obj} : ∀ {l : Led} {g : Obj → Led}, UpdF d o l g → ∀ o', UpdF d o' (g o') g
  | _, _, .head h, _ => .head h
  | _, _, .tail h r, o' => .tail h (UpdF.again r o')
end
/-- Matches of the ledger -/
noncomputable def MsAre (nw : Led) (ms : List Value) (ts : List Tri) : Prop :=
  ms.length = ts.length ∧ ∀ (i : Nat) (t : Tri), ts[i]? = some t → ∃ x d t1 t2 t3, ms[i]? = some (.ref x) ∧ (x, matchO d #[.int t.1 t1, .int t.2.1 t2, .int t.2.2 t3]) ∈ nw ∧ (d, emptyDict) ∈ nw
theorem MsAre.nil {nw : Led} : MsAre nw [] [] := ⟨rfl, fun _ _ h => by simp at h⟩
theorem MsAre.mono {nw nw' : Led} {ms : List Value} {ts : List Tri} (h : MsAre nw ms ts) (e : ∀ p ∈ nw, p ∈ nw') : MsAre nw' ms ts := ⟨h.1, fun i t ht => by
  obtain ⟨x, d, t1, t2, t3, q1, q2, q3⟩ := h.2 i t ht
  exact ⟨x, d, t1, t2, t3, q1, e _ q2, e _ q3⟩⟩
theorem MsAre.snoc {nw : Led} {ms : List Value} {ts : List Tri} {x d : Addr} {i j k : Nat} {t1 t2 t3 : Tok} (h : MsAre nw ms ts) (hx : (x, matchO d #[.int i t1, .int j t2, .int k t3]) ∈ nw) (hd : (d, emptyDict) ∈ nw) : MsAre nw (ms ++ [.ref x]) (ts ++ [(i, j, k)]) := by
  refine ⟨by simp [h.1], fun q t ht => ?_⟩
  by_cases c : q < ts.length
  · rw [List.getElem?_append_left c] at ht
    obtain ⟨x', u⟩ := h.2 q t ht
    exact ⟨x', by rw [List.getElem?_append_left (by rw [h.1]; exact c)]; exact u⟩
  · rw [List.getElem?_append_right (by lia)] at ht
    have h0 : q - ts.length = 0 := by
      have := (List.getElem?_eq_some_iff.mp ht).1
      simp at this; lia
    rw [h0] at ht
    simp at ht
    subst ht
    exact ⟨x, d, t1, t2, t3, by rw [List.getElem?_append_right (by rw [h.1]; lia), h.1, h0]; rfl, hx, hd⟩
section
variable {w : World} {A : Around} {E : Value → Shared → Prop} {s : Shared} {h₀ : Heap} {L D : Addr} {m : Str → Option Value} {news : Led} {vs : List Value} {ts : List Tri} {g : Obj → Led}
theorem sort_led {n : Nat} {Q : Value → Shared → Prop} (F : Fr h₀ L s.heap m) (X : (KF w.params).In h₀) (N : News h₀ L s.heap news) (U : UpdF D (listOf vs.toArray n) news g) (hM : ∀ o, MsAre (g o) vs ts) (hu : A.in1.units < cLine) (h64 : ts.length < 64)
    (hd : ∀ (i j : Nat) (t u : Tri), ts[i]? = some t → ts[j]? = some u → t.1 = u.1 → i = j)
    (h : ∀ h' vs' ts' c, Fr h₀ L h' m → News h₀ L h' (g (listOf vs'.toArray c)) → (∀ o, MsAre (g o) vs' ts') → ts'.Perm ts → ts'.Pairwise (fun t u => t.1 < u.1) → Q .none { s with heap := h' }) :
    wpAny (M0 w) A (call (.builtin "list.sort") [.ref D]) Q E s := by
  have hlen : vs.length = ts.length := (hM emptyDict).1
  by_cases h2 : vs.length < 2
  · obtain ⟨pre, post, e0, hg, x1, x2⟩ := U.split
    rw [e0] at N
    have nz := N (D, listOf vs.toArray n) (List.mem_append_right _ (.head _))
    have N₀ : News h₀ L s.heap (pre ++ post) := fun p hp => N p ((List.mem_append.mp hp).elim (fun q => List.mem_append_left _ q) fun q => List.mem_append_right _ (.tail _ q))
    refine wpAny_call_entry PyProof.Rows.slot_list_sort ⟨_, nz.1, rfl⟩ PyProof.Rows.entry_list_sort (sort_small (news := pre ++ post) F N₀ nz.1 nz.2.1 nz.2.2 (fun p hp => (List.mem_append.mp hp).elim (x1 p) (x2 p)) h2 fun c h' F' N' => ?_) (PyProof.Rows.args_list_sort _)
    refine ⟨.none, rfl, h h' vs ts c F' ?_ hM (List.Perm.refl _) ?_⟩
    · rw [hg]
      intro p hp
      rcases List.mem_append.mp hp with hp | hp
      · exact N' p (.tail _ (List.mem_append_left _ hp))
      · rcases List.mem_cons.mp hp with rfl | hp
        · exact N' _ (.head _)
        · exact N' p (.tail _ (List.mem_append_right _ hp))
    · rw [hlen] at h2
      match ts, h2 with
      | [], _ => exact .nil
      | [_], _ => exact List.pairwise_singleton _ _
      | _ :: _ :: _, h => exact absurd h (by simp)
  · have at' : ∀ (i : Nat), i < vs.length → ∃ t, ts[i]? = some t := fun i hi => ⟨_, List.getElem?_eq_getElem (by lia)⟩
    refine kas_lsort (T := .ref 135) (vs := vs) F N U (by simp) (by lia) (by lia) (fun e1 h' F' N' v hv => ?_) (by decide) fun e1 h' F' N' => ?_
    · obtain ⟨i, hi⟩ := List.getElem?_of_mem hv
      obtain ⟨t, ht⟩ := at' i (List.getElem?_eq_some_iff.mp hi).1
      obtain ⟨x, d, t1, t2, t3, q1, q2, _⟩ := (hM (seqObj "list" #[] e1)).2 i t ht
      rw [hi] at q1
      cases q1
      exact (Looks.ld (N' _ q2).1).andThen .now
    · refine sort_wp (N := vs.length) (key := fun i => (ts.getD i (0, 0, 0)).1) (Inv := fun s' => ∃ h', Fr h₀ L h' m ∧ News h₀ L h' (g (seqObj "list" #[] e1)) ∧ s' = { s with heap := h' }) ?_ ?_ (by lia) ⟨h', F', N', rfl⟩ ?_
      · rintro i j C s1 hi hj ⟨h1, F1, N1, rfl⟩ hC
        obtain ⟨t, ht⟩ := at' i hi
        obtain ⟨u, hu'⟩ := at' j hj
        obtain ⟨x, d, t1, t2, t3, q1, q2, _⟩ := (hM (seqObj "list" #[] e1)).2 i t ht
        obtain ⟨y, d', u1, u2, u3, r1, r2, _⟩ := (hM (seqObj "list" #[] e1)).2 j u hu'
        show wpAny _ _ (keyLt' oneType' (vs.getD i Value.none) (vs.getD j Value.none)) C _ _
        rw [show vs.getD i Value.none = .ref x by rw [List.getD_eq_getElem?_getD, q1]; rfl, show vs.getD j Value.none = .ref y by rw [List.getD_eq_getElem?_getD, r1]; rfl]
        refine lt_match (X.keeps F1.keep) hu (N1 _ q2).1 (N1 _ r2).1 ?_ ?_
        · by_cases e : t.1 = u.1
          · obtain rfl := hd i j t u ht hu' e
            rw [ht] at hu'
            cases hu'
            exact .inr ⟨rfl, rfl, rfl⟩
          · exact .inl (by lia)
        · have := hC _ ⟨h1, F1, N1, rfl⟩
          simp only [List.getD_eq_getElem?_getD, ht, hu', Option.getD_some] at this
          rw [show decide ((t.1 : Int) < (u.1 : Int)) = decide (t.1 < u.1) by simp]
          exact this
      · intro i j hi hj e
        obtain ⟨t, ht⟩ := at' i hi
        obtain ⟨u, hu'⟩ := at' j hj
        simp only [List.getD_eq_getElem?_getD, ht, hu', Option.getD_some] at e
        exact hd i j t u ht hu' e
      · rintro p' s1 ⟨h1, F1, N1, rfl⟩ hp hA
        have P := pm_of hp
        have hl : p'.toList.Perm (List.range vs.length) := by simpa using hp.toList
        refine KasFin.intro F1 N1 (UpdF.again U _) fun h3 c F3 N3 => h h3 (p'.toList.map fun i => vs.getD i Value.none) (p'.toList.map fun i => ts.getD i (0, 0, 0)) c F3 N3 (fun o => ⟨by simp, fun i t ht => ?_⟩) ?_ ?_
        · rw [List.getElem?_map] at ht
          obtain ⟨k, hk, rfl⟩ := Option.map_eq_some_iff.mp ht
          have hk2 : k < vs.length := List.mem_range.mp (hl.mem_iff.mp (List.mem_of_getElem? hk))
          obtain ⟨u, hu'⟩ := at' k hk2
          obtain ⟨x, d, t1, t2, t3, q1, q2, q3⟩ := (hM o).2 k u hu'
          refine ⟨x, d, t1, t2, t3, ?_, ?_, q3⟩
          · rw [List.getElem?_map, hk, Option.map_some, List.getD_eq_getElem?_getD, q1]; rfl
          · rw [List.getD_eq_getElem?_getD, hu']; exact q2
        · have h5 := hl.map (fun i => ts.getD i (0, 0, 0))
          refine h5.trans ?_
          rw [hlen]
          rw [show (List.range ts.length).map (fun i => ts.getD i (0, 0, 0)) = ts by
            apply List.ext_getElem?
            intro k
            rw [List.getElem?_map]
            by_cases c : k < ts.length
            · rw [List.getElem?_range c, Option.map_some, List.getD_eq_getElem?_getD, List.getElem?_eq_getElem c]; rfl
            · rw [List.getElem?_eq_none (by simp; lia), List.getElem?_eq_none (by lia)]; rfl]
        · rw [List.pairwise_map, List.pairwise_iff_getElem]
          intro i j hi hj hij
          have hs := P.size
          have h6 := hA i j hij (by rw [Array.length_toList] at hj; lia)
          rw [show p'.getD i 0 = p'.toList[i] by simp [Array.getD, show i < p'.size by rw [Array.length_toList] at hi; exact hi], show p'.getD j 0 = p'.toList[j] by simp [Array.getD, show j < p'.size by rw [Array.length_toList] at hj; exact hj]] at h6
          exact h6
end
end Mine
end
section
open PySem PySem.W PySem.Spec PySem.Calls PyProof.Rows
set_option maxRecDepth 100000
set_option maxHeartbeats 4000000
namespace Mine
theorem mro_map : mroOf (.type "map") = pure [.type "map", .type "object"] := by rw [mroOf_type]; kernel_rfl
theorem lookup_map_new : typeLookup (.type "map") "__new__" = pure (some (.builtin "map.__new__")) := by rw [typeLookup_type, builtinLookup_eq_fast]; kernel_rfl
theorem slot_map_init : Slot "map" "__init__" "object.__init__" :=
  .of (owner := "object") (n := "__init__") (by rw [typeLookup_type, builtinLookup_eq_fast]; kernel_rfl) (by decide +kernel) (by decide +kernel) (by decide +kernel)
    (by first | exact .inl (by decide +kernel) | exact .inr (by decide +kernel)) (by rw [isSubtype_type]; kernel_rfl)
theorem slot_map_next : Slot "map" "__next__" "map.__next__" :=
  .of (owner := "map") (n := "__next__") (by rw [typeLookup_type, builtinLookup_eq_fast]; kernel_rfl) (by decide +kernel) (by decide +kernel) (by decide +kernel)
    (by first | exact .inl (by decide +kernel) | exact .inr (by decide +kernel)) (by rw [isSubtype_type]; kernel_rfl)
theorem slot_map_iter : Slot "map" "__iter__" "map.__iter__" :=
  .of (owner := "map") (n := "__iter__") (by rw [typeLookup_type, builtinLookup_eq_fast]; kernel_rfl) (by decide +kernel) (by decide +kernel) (by decide +kernel)
    (by first | exact .inl (by decide +kernel) | exact .inr (by decide +kernel)) (by rw [isSubtype_type]; kernel_rfl)
theorem called_map : TypeCalled "map" "map.__new__" "object.__init__" :=
  ⟨by decide +kernel, by decide +kernel, ⟨_, _, mro_map⟩, madeBy_type mro_map lookup_map_new (by decide +kernel), by decide +kernel, by rw [isSubtype_type]; kernel_rfl, slot_map_init⟩
theorem typeCall_map_2 (a b : Value) : checkTypeCall "map" ⟨[a, b], []⟩ = pure () := by kernel_rfl
theorem newCall_map_2 (a b : Value) : checkBuiltinCall "map.__new__" ⟨[.type "map", a, b], []⟩ = pure () := by kernel_rfl
theorem entry_map_new : entryFor table "map.__new__" = some Builtin.«map.__new__» := entryFor_of_tree (by kernel_rfl)
theorem entry_map_next : entryFor table "map.__next__" = some Builtin.«map.__next__» := entryFor_of_tree (by kernel_rfl)
theorem args_map_next (a : Value) : argsOk "map.__next__" ⟨[a], []⟩ := by unfold argsOk; kernel_rfl
theorem args_map_iter (a : Value) : argsOk "map.__iter__" ⟨[a], []⟩ := by unfold argsOk; kernel_rfl
theorem entry_map_iter : entryFor table "map.__iter__" = some Builtin.«dict_keyiterator.__iter__» :=
  entryFor_alias (id' := "dict_keyiterator.__iter__") (by kernel_rfl) rfl (by decide +kernel) (by kernel_rfl)
theorem sub_map : isSubtype (.type "map") (.type "map") = pure true := by rw [isSubtype_type]; kernel_rfl
theorem map_no_len : typeLookup (.type "map") "__len__" = pure none := by rw [typeLookup_type, builtinLookup_eq_fast]; kernel_rfl
theorem map_no_hint : typeLookup (.type "map") "__length_hint__" = pure none := by rw [typeLookup_type, builtinLookup_eq_fast]; kernel_rfl
noncomputable abbrev mapO (T : Addr) (fn : Value) : Obj := { cls := .type "map", data := .fields #[.ref T, fn] }
noncomputable abbrev mapH1 (h : Heap) (l : Addr) : Heap := h.push { cls := .type "list_iterator", data := .fields #[.ref l, .int 0 0] }
noncomputable abbrev mapH2 (h : Heap) (l : Addr) : Heap := (mapH1 h l).push { cls := .type "tuple", data := .seq #[.ref h.objs.size] }
noncomputable abbrev mapH3 (h : Heap) (l : Addr) (fn : Value) : Heap := (mapH2 h l).push (mapO (mapH1 h l).objs.size fn)
theorem meets_map_new (fn : Value) (l : Addr) (xs : Array Value) :
    Meets (Builtin.«map.__new__» ⟨[.type "map", fn, .ref l], []⟩) (fun _ R s => s.heap.IsList l xs ∧
      R (.ok (.ret (.ref (mapH2 s.heap l).objs.size))) { s with heap := mapH3 s.heap l fn }) :=
  .of_wp fun prog w A R s h => by
    obtain ⟨hp, g, d, tk, os⟩ := s; obtain ⟨hl, h⟩ := h
    have hsub := sub_map
    have hL1 : Heap.IsList (Shared.heap ⟨hp, g, d, tk, os⟩) l xs := hl
    wp_walk using wpAny_pyIter_list hL1
    exact ⟨_, rfl, h⟩
section
variable {prog : Program} {w : World} {A : Around} {E : Value → Shared → Prop} {s : Shared}
theorem call_map {fn : Value} {l : Addr} {xs : Array Value} {Q : Value → Shared → Prop} (hl : s.heap.IsList l xs) (h : Q (.ref (mapH2 s.heap l).objs.size) { s with heap := mapH3 s.heap l fn }) : wpAny (model prog w) A (call (.type "map") [fn, .ref l]) Q E s := by
  refine callType_new called_map (by decide) (typeCall_map_2 _ _) (newCall_map_2 _ _) (fun obj => PySem.F.args_object_init_3 obj _ _) entry_map_new
    (meets_map_new fn l xs) ⟨hl, ?_⟩
  exact ⟨⟨_, Heap.get?_push_size _ rfl, rfl⟩, h⟩
theorem iter_map {z T : Addr} {fn : Value} {Q : Value → Shared → Prop} (hz : s.heap.get? z = some (mapO T fn)) (h : Q (.ref z) s) : wpAny (model prog w) A (pyIter (.ref z)) Q E s := by
  have hT : s.TypeIs (.ref z) "map" := ⟨_, hz, rfl⟩
  refine wpAny_pyIter_slot hT slot_map_iter (wpAny_call_entry slot_map_iter hT entry_map_iter ?_ (args_map_iter _))
  show wpAny _ _ (ret (.ref z)) _ _ s
  exact wpAny_pure ⟨_, rfl, "map", _, hT, slot_map_next.lookup, h⟩
theorem hint_map {z T : Addr} {fn : Value} {Q : Bool → Shared → Prop} (hz : s.heap.get? z = some (mapO T fn)) (h : Q true s) : wpAny (model prog w) A (Builtin.List.listLengthHint (.ref z)) Q E s := by
  have hT : s.TypeIs (.ref z) "map" := ⟨_, hz, rfl⟩
  have f1 := map_no_len
  have f2 := map_no_hint
  unfold Builtin.List.listLengthHint
  refine wpAny_bind (wpAny_specialOf hT f1 ?_)
  dsimp only
  refine wpAny_ite_split (fun hab => absurd hab (by decide)) (fun _ => ?_)
  refine wpAny_ite_split (fun hab => absurd hab (by decide)) (fun _ => ?_)
  refine wpAny_bind (wpAny_specialOf hT f2 ?_)
  exact wpAny_pure h
theorem next_map {z T I l : Addr} {fn x : Value} {k : Nat} {xs : Array Value} {Q : Option Value → Shared → Prop} (hz : s.heap.get? z = some (mapO T fn)) (hT : s.heap.get? T = some { cls := .type "tuple", data := .seq #[.ref I] })
    (h1 : s.heap.IsListIter I l k) (hl : s.heap.IsList l xs) (hx : xs[k]? = some x) (hzI : z ≠ I)
    (hQ : ∀ h' E', h'.IsListIter I l (k + 1) → Heap.SameBut I s.heap h' → wpAny (model prog w) A.in1 (call fn [x]) (fun v s' => Q (some v) s') E' { s with heap := h' }) : wpAny (model prog w) A (pyNext (.ref z)) Q E s := by
  have hty : s.TypeIs (.ref z) "map" := ⟨_, hz, rfl⟩
  unfold pyNext
  refine wpAny_bind (wpAny_attempt (wpAny_callSpecial?_slot (name := Str.ofString "__next__") hty slot_map_next
    (wpAny_call_entry slot_map_next hty entry_map_next ?_ (args_map_next _))))
  show wpAny _ _ (field (.ref z) 0 >>= _) _ _ s
  refine wpAny_bind (wpAny_field hz rfl (x := .ref T) rfl ?_)
  refine wpAny_bind (wpAny_seqItems hT rfl ?_)
  dsimp only
  refine wpAny_bind ?_
  simp only [← Array.forIn_toList, List.forIn_cons, List.forIn_nil]
  refine wpAny_bind (wpAny_bind (wpAny_holding ?_))
  refine wpAny_nextOf_list_item h1 hl hx fun h' h1' hs => ?_
  refine wpAny_pure (wpAny_pure ?_)
  have hz' : h'.get? z = some (mapO T fn) := hs.extBut _ _ hzI hz
  refine wpAny_bind (wpAny_field hz' rfl (x := fn) rfl ?_)
  refine wpAny_bind (wpAny_holding (wpAny_mono (hQ h' _ h1' hs) (fun v s' q => ?_) fun _ _ e => e))
  refine wpAny_bind (wpAny_letGo ?_)
  exact wpAny_pure ⟨v, rfl, wpAny_pure q⟩
theorem next_map_end {z T I l : Addr} {fn : Value} {k : Nat} {xs : Array Value} {Q : Option Value → Shared → Prop} (hh : A.handled = none) (hz : s.heap.get? z = some (mapO T fn)) (hT : s.heap.get? T = some { cls := .type "tuple", data := .seq #[.ref I] })
    (h1 : s.heap.IsListIter I l k) (hl : s.heap.IsList l xs) (hx : xs[k]? = none)
    (hQ : ∀ h', Heap.ExtBut I s.heap h' → Q none { s with heap := h' }) : wpAny (model prog w) A (pyNext (.ref z)) Q E s := by
  have hty : s.TypeIs (.ref z) "map" := ⟨_, hz, rfl⟩
  unfold pyNext
  refine wpAny_bind (wpAny_attempt (wpAny_callSpecial?_slot (name := Str.ofString "__next__") hty slot_map_next
    (wpAny_call_entry slot_map_next hty entry_map_next ?_ (args_map_next _))))
  show wpAny _ _ (field (.ref z) 0 >>= _) _ _ s
  refine wpAny_bind (wpAny_field hz rfl (x := .ref T) rfl ?_)
  refine wpAny_bind (wpAny_seqItems hT rfl ?_)
  dsimp only
  refine wpAny_bind ?_
  simp only [← Array.forIn_toList, List.forIn_cons, List.forIn_nil]
  refine wpAny_bind (wpAny_bind (wpAny_holding ?_))
  refine wpAny_nextOf_list_end hh h1 hl hx fun h' e he ho => ?_
  obtain ⟨o, ho, hc⟩ := ho
  refine wpAny_bind (wpAny_isInstance (T := "StopIteration") (b := true) ⟨o, ho, hc⟩ isSubtype_stop ?_)
  exact wpAny_pure (hQ _ he)
end
end Mine
end
section
namespace Mine
/-! the queue of windows -/
abbrev Win := Nat × Nat × Nat × Nat
section
variable {jk : Option Int} {xs ys : List Int} {lo hi lo' hi' i j s : Nat}
noncomputable def QB (jk : Option Int) (xs ys : List Int) : List Win → List Tri → Prop
  | [], T => T = []
  | w :: ws, T => ∃ A B, WB jk xs ys w.1 w.2.1 w.2.2.1 w.2.2.2 A ∧ QB jk xs ys ws B ∧ T = A ++ B
theorem QB.app : ∀ {p q : List Win} {T : List Tri}, QB jk xs ys (p ++ q) T ↔ ∃ A B, QB jk xs ys p A ∧ QB jk xs ys q B ∧ T = A ++ B
  | [], q, T => ⟨fun h => ⟨[], T, rfl, h, rfl⟩, fun ⟨_, _, h1, h2, h3⟩ => by rw [h3, show _ = [] from h1]; exact h2⟩
  | w :: p, q, T => by
    constructor
    · rintro ⟨A, B, h1, h2, rfl⟩
      obtain ⟨C, D, h3, h4, rfl⟩ := QB.app.mp h2
      exact ⟨A ++ C, D, ⟨A, C, h1, h3, rfl⟩, h4, (List.append_assoc ..).symm⟩
    · rintro ⟨A, B, ⟨C, D, h1, h2, rfl⟩, h4, rfl⟩
      exact ⟨C, D ++ B, h1, QB.app.mpr ⟨D, B, h2, h4, rfl⟩, List.append_assoc ..⟩
theorem QB.one {w : Win} {T : List Tri} : QB jk xs ys [w] T ↔ WB jk xs ys w.1 w.2.1 w.2.2.1 w.2.2.2 T :=
  ⟨fun ⟨A, B, h1, h2, h3⟩ => by rw [h3, show B = [] from h2, List.append_nil]; exact h1, fun h => ⟨T, [], h, rfl, (List.append_nil _).symm⟩⟩
noncomputable def QInv (jk : Option Int) (xs ys : List Int) (qs : List Win) (F : List Tri) : Prop :=
  ∀ T, QB jk xs ys qs T → ∃ Full, WB jk xs ys 0 xs.length 0 ys.length Full ∧ (F ++ T).Perm Full
noncomputable def wm (w : Win) : Nat := 2 * (w.2.1 - w.1) + 1
noncomputable def qm : List Win → Nat
  | [] => 0
  | w :: ws => wm w + qm ws
theorem qm_app : ∀ (p q : List Win), qm (p ++ q) = qm p + qm q
  | [], q => (Nat.zero_add _).symm
  | w :: p, q => by show wm w + qm (p ++ q) = wm w + qm p + qm q; rw [qm_app p q, Nat.add_assoc]
theorem qm_len : ∀ (p : List Win), p.length ≤ qm p
  | [] => Nat.le_refl _
  | w :: p => by have := qm_len p; show p.length + 1 ≤ 2 * (w.2.1 - w.1) + 1 + qm p; lia
noncomputable def WOk (xs ys : List Int) (w : Win) : Prop := w.1 ≤ w.2.1 ∧ w.2.1 ≤ xs.length ∧ w.2.2.1 ≤ w.2.2.2 ∧ w.2.2.2 ≤ ys.length
theorem QInv.start : QInv jk xs ys [(0, xs.length, 0, ys.length)] [] := fun T h => ⟨T, QB.one.mp h, List.Perm.refl _⟩
theorem WB.deg (h : lo = hi ∨ lo' = hi') (h1 : lo ≤ hi) (h2 : lo' ≤ hi') : WB jk xs ys lo hi lo' hi' [] := by
  refine WB.nil (i := lo) (j := lo') ⟨lo, lo', 0, 0, 0, ⟨⟨Nat.le_refl _, h1, Nat.le_refl _, h2, fun _ h => absurd h (Nat.not_lt_zero _)⟩, ?_, fun _ => ⟨rfl, rfl⟩, fun h => absurd h (Nat.lt_irrefl _)⟩, rfl, rfl, rfl, Nat.le_refl _, Nat.le_refl _, h1, h2,
    fun _ h => absurd h (Nat.not_lt_zero _), .inl rfl, fun _ h => absurd h (Nat.not_lt_zero _), ?_⟩
  · rintro i' j' s' ⟨a1, a2, a3, a4, _⟩; lia
  · lia
noncomputable def winL (lo i lo' j : Nat) : List Win := if lo < i ∧ lo' < j then [(lo, i, lo', j)] else []
noncomputable def winR (i hi j hi' : Nat) : List Win := if i < hi ∧ j < hi' then [(i, hi, j, hi')] else []
theorem win_wb {T : List Tri} (h1 : lo ≤ i) (h2 : lo' ≤ j) (h : QB jk xs ys (winL lo i lo' j) T) : WB jk xs ys lo i lo' j T := by
  unfold winL at h
  split at h
  · exact QB.one.mp h
  · rw [show T = [] from h]; exact WB.deg (by lia) h1 h2
theorem winR_wb {T : List Tri} (h1 : i ≤ hi) (h2 : j ≤ hi') (h : QB jk xs ys (winR i hi j hi') T) : WB jk xs ys i hi j hi' T := win_wb h1 h2 h
theorem QInv.miss {qs : List Win} {F : List Tri} (h : QInv jk xs ys (qs ++ [(lo, hi, lo', hi')]) F) (l : LongW jk xs ys lo hi lo' hi' i j 0) : QInv jk xs ys qs F := fun T hT => by
  have := h (T ++ []) (QB.app.mpr ⟨T, [], hT, QB.one.mpr (WB.nil l), rfl⟩)
  rwa [List.append_nil] at this
theorem LongW.in (l : LongW jk xs ys lo hi lo' hi' i j s) : lo ≤ i ∧ lo' ≤ j ∧ i + s ≤ hi ∧ j + s ≤ hi' := by
  obtain ⟨i₀, j₀, s₀, d, e, _, _, _, _, h1, h2, h3, h4, _⟩ := l
  exact ⟨h1, h2, h3, h4⟩
theorem QInv.hit {qs : List Win} {F : List Tri} (h : QInv jk xs ys (qs ++ [(lo, hi, lo', hi')]) F) (l : LongW jk xs ys lo hi lo' hi' i j s) (z : 0 < s) : QInv jk xs ys (qs ++ winL lo i lo' j ++ winR (i + s) hi (j + s) hi') (F ++ [(i, j, s)]) := fun T hT => by
  obtain ⟨C, B, hC, hB, rfl⟩ := QB.app.mp hT
  obtain ⟨Z, A, hZ, hA, rfl⟩ := QB.app.mp hC
  obtain ⟨g1, g2, g3, g4⟩ := l.in
  obtain ⟨Full, w, p⟩ := h (Z ++ (A ++ (i, j, s) :: B)) (QB.app.mpr ⟨Z, _, hZ, QB.one.mpr (WB.node l z (win_wb g1 g2 hA) (winR_wb g3 g4 hB)), rfl⟩)
  refine ⟨Full, w, List.Perm.trans ?_ p⟩
  rw [List.append_assoc]
  refine List.Perm.append_left F ?_
  show ((i, j, s) :: (Z ++ A ++ B)).Perm (Z ++ (A ++ (i, j, s) :: B))
  rw [← List.append_assoc Z A]
  exact List.perm_middle.symm
theorem qm_hit {qs : List Win} (l : LongW jk xs ys lo hi lo' hi' i j s) (z : 0 < s) : qm (qs ++ winL lo i lo' j ++ winR (i + s) hi (j + s) hi') < qm (qs ++ [(lo, hi, lo', hi')]) := by
  obtain ⟨g1, g2, g3, g4⟩ := l.in
  have a : qm (winL lo i lo' j) ≤ 2 * (i - lo) + 1 := by unfold winL; split <;> first | exact Nat.le_refl _ | exact Nat.zero_le _
  have b : qm (winR (i + s) hi (j + s) hi') ≤ 2 * (hi - (i + s)) + 1 := by unfold winR; split <;> first | exact Nat.le_refl _ | exact Nat.zero_le _
  rw [qm_app, qm_app, qm_app]
  show _ < qm qs + (2 * (hi - lo) + 1 + 0)
  lia
theorem WOk.hit {qs : List Win} (h : ∀ w ∈ qs ++ [(lo, hi, lo', hi')], WOk xs ys w) (l : LongW jk xs ys lo hi lo' hi' i j s) : ∀ w ∈ qs ++ winL lo i lo' j ++ winR (i + s) hi (j + s) hi', WOk xs ys w := by
  obtain ⟨g1, g2, g3, g4⟩ := l.in
  obtain ⟨k1, k2, k3, k4⟩ := h _ (List.mem_append_right _ (.head _))
  dsimp only at k1 k2 k3 k4
  intro w hw
  rcases List.mem_append.mp hw with hw | hw
  · rcases List.mem_append.mp hw with hw | hw
    · exact h w (List.mem_append_left _ hw)
    · unfold winL at hw
      split at hw
      · rw [List.mem_singleton.mp hw]
        refine ⟨?_, ?_, ?_, ?_⟩ <;> dsimp only <;> lia
      · exact absurd hw (by simp)
  · unfold winR at hw
    split at hw
    · rw [List.mem_singleton.mp hw]
      refine ⟨?_, ?_, ?_, ?_⟩ <;> dsimp only <;> lia
    · exact absurd hw (by simp)
theorem shift00 (A : List Tri) : A.map (shift 0 0) = A := by
  rw [show (shift 0 0) = id from rfl, List.map_id]
theorem QInv.done {F : List Tri} (h : QInv jk xs ys [] F) : ∃ Full, RB jk xs ys Full ∧ F.Perm Full := by
  obtain ⟨Full, w, p⟩ := h [] rfl
  rw [List.append_nil] at p
  obtain ⟨A', r, rfl⟩ := w.rb (Nat.le_refl _) (Nat.le_refl _)
  rw [cut_all, cut_all] at r
  rw [shift00] at p
  exact ⟨A', r, p⟩
theorem sorted_eq {A B : List Tri} (p : A.Perm B) (h1 : A.Pairwise (fun t u => t.1 < u.1)) (h2 : B.Pairwise (fun t u => t.1 < u.1)) : A = B :=
  List.Perm.eq_of_pairwise (fun _ _ _ _ x y => absurd x (Nat.not_lt.mpr (Nat.le_of_lt y))) h1 h2 p
theorem perm_inj {A B : List Tri} (p : A.Perm B) (h2 : B.Pairwise (fun t u => t.1 < u.1)) (i j : Nat) (t u : Tri) (hi : A[i]? = some t) (hj : A[j]? = some u) (e : t.1 = u.1) : i = j := by
  have h3 : (B.map (·.1)).Nodup := by
    unfold List.Nodup
    rw [List.pairwise_map]
    exact h2.imp fun h => Nat.ne_of_lt h
  have h4 : (A.map (·.1)).Nodup := (p.map _).nodup_iff.mpr h3
  have hi' : (A.map (·.1))[i]? = some t.1 := by rw [List.getElem?_map, hi]; rfl
  have hj' : (A.map (·.1))[j]? = some t.1 := by rw [List.getElem?_map, hj, e]; rfl
  exact (List.getElem?_inj (List.getElem?_eq_some_iff.mp hi').1 h4).mp (hi'.trans hj'.symm)
end
end Mine
end
open PySem PySem.W PySem.Spec PySem.Calls PyProof.Rows
set_option maxRecDepth 100000
set_option maxHeartbeats 8000000
namespace Mine
section
local macro_rules | `(tactic| k_mem) => `(tactic| ((repeat (first | assumption | exact List.Mem.head _ | refine' List.Mem.tail _ ?_ | refine' List.mem_append_right _ ?_)); done))
local macro_rules | `(tactic| k_all) => `(tactic| assumption)
local macro_rules | `(tactic| walk_at $s:str) => `(tactic| k_extra $s)
theorem kreg1 : True := by
  k_with_none
  k_with "eval BinOp" => ((try clear qF0b); (fail_if_success (have hq9 := @qF0b)); refine fold_Q ?_; intro qF0b; walk_at "eval BinOp")
  k_with "eval BinOp" => ((try clear qF0); (fail_if_success (have hq9 := @qF0)); refine fold_Q ?_; intro qF0; walk_at "eval BinOp")
  k_with "isTrue Compare" => ((try clear qF1); (fail_if_success (have hq9 := @qF1)); refine fold_Q ?_; intro qF1; walk_at "isTrue Compare")
  k_with "eval Subscript" => ((try clear qF2b); (fail_if_success (have hq9 := @qF2b)); refine fold_Q ?_; intro qF2b; walk_at "eval Subscript")
  k_with "eval Subscript" => ((try clear qF2); (fail_if_success (have hq9 := @qF2)); refine fold_Q ?_; intro qF2; walk_at "eval Subscript")
  k_with "eval Call" => ((try clear qF3b); (fail_if_success (have hq9 := @qF3b)); refine fold_Q ?_; intro qF3b; walk_at "eval Call")
  k_with "eval Call" => ((try clear qF3); (fail_if_success (have hq9 := @qF3)); refine fold_Q ?_; intro qF3; walk_at "eval Call")
  k_with "eval Tuple" => ((try clear qF4); (fail_if_success (have hq9 := @qF4)); refine fold_Q ?_; intro qF4; walk_at "eval Tuple")
  k_with "exec Assign" => ((try clear qF5); (fail_if_success (have hq9 := @qF5)); refine fold_Q ?_; intro qF5; walk_at "exec Assign")
  k_with "exec AugAssign" => ((try clear qF6); (fail_if_success (have hq9 := @qF6)); refine fold_Q ?_; intro qF6; walk_at "exec AugAssign")
  k_with "eval Attribute Name" => ((try clear qF7); (fail_if_success (have hq9 := @qF7)); refine fold_Q ?_; intro qF7; walk_at "eval Attribute Name")
  k_with "isTrue BoolOp" => ((try clear qF8); (fail_if_success (have hq9 := @qF8)); refine fold_Q ?_; intro qF8; walk_at "isTrue BoolOp")
  k_with "exec If" => ((try clear qF9); (fail_if_success (have hq9 := @qF9)); refine fold_Q ?_; intro qF9; walk_at "exec If")
  k_with "eval Compare" => ((try clear qF10); (fail_if_success (have hq9 := @qF10)); refine fold_Q ?_; intro qF10; walk_at "eval Compare")
  k_with "eval Call Attribute" => ((try clear qF11); (fail_if_success (have hq9 := @qF11)); refine fold_Q ?_; intro qF11; walk_at "eval Call Attribute")
  k_with "eval List" => ((try clear qF12); (fail_if_success (have hq9 := @qF12)); refine fold_Q ?_; intro qF12; walk_at "eval List")
  k_with "exec Expr" => ((try clear qF13); (fail_if_success (have hq9 := @qF13)); refine fold_Q ?_; intro qF13; walk_at "exec Expr")
  k_with "exec Return some" => ((try clear qF14); (fail_if_success (have hq9 := @qF14)); refine fold_Q ?_; intro qF14; walk_at "exec Return some")
  k_with "pyIter ref" => (refine Stop.of ?_)
  k_with "exec While" => (refine Stop.of ?_)
  k_with "Turn" => (first | refine turn_brk ?_ | refine turn_ret ?_ | refine Stop.of ?_)
  k_with "WStep" => (first | refine wstep_brk ?_ | refine wstep_ret ?_ | refine Stop.of ?_)
  k_with "call builtin:len" => (k_here; (with_reducible show wpAny _ _ (call (Value.builtin "len") [Value.ref _]) _ _ _); k_dflt (refine' len_led (by k_asm) (by k_mem) (by (simp only [List.size_toArray] <;> lia)) ?_; k_whole))
  k_with "subscriptTail" => (k_here; (with_reducible show wpAny _ _ (subscriptTail _ _ (Value.ref _) (Value.int _ _)) _ _ _); k_dflt (refine' item_cs (by k_asm) (by k_mem) (by assumption) (by lia) (by lia) (by lia) ?_); intro _)
  k_with "compareOp NotEq" => (refine ne_cells ?_)
  k_with "setItem ref int" => (k_here; (with_reducible show wpAny _ _ (setItem (Value.ref _) (Value.int _ _) (Value.int _ _)) _ _ _); k_dflt (refine' ksa_set (by k_asm) (by k_asm) (by k_upd) (by assumption) (by lia) (by (simp only [List.length_map]; lia)) (by lia) ?_); intro _ _ _ _ _ _)
  trivial
variable {w : World} {mean : ExcName → Option Value} {mg mb : Str → Option Value}
inductive ROv (news : Led) (cs : List Cell) (v : Value) (news' : Led) : Prop
  | mk (a : Addr) (ts : List Value) (T : List Nat) (h1 : v = .ref a) (h2 : news' = (a, listOf ts.toArray 0) :: news) (h3 : (∀ q ∈ news, q.1 < a)) (h4 : IntsAre ts (T.map Int.ofNat)) (h5 : T.length = cs.length) (h6 : ∀ j, j < cs.length → ∃ k, T[j]? = some k ∧ IsOv cs j k) : ROv news cs v news'
inductive JOv (news : Led) (D p : Addr) (cs : List Cell) (i : Nat) (m : Str → Option Value) (nx : Led) : Prop
  | mk (ts : List Value) (T : List Nat) (h1 : nx = (D, listOf ts.toArray 0) :: news) (h2 : Has m [(Str.ofString "table", .ref D), (Str.ofString "prefix", .ref p)]) (h3 : IntsAre ts (T.map Int.ofNat)) (h4 : T.length = cs.length) (h5 : ∀ j, j ≤ i → j < cs.length → ∃ k, T[j]? = some k ∧ IsOv cs j k) : JOv news D p cs i m nx
theorem c_overlap {news : Led} {p : Addr} {vs : List Value} {cs : List Cell} {n : Nat} (hp : (p, listOf vs.toArray n) ∈ news) (hc : CsAre vs cs) (hl : cs.length ≤ 1000) {ex : List Addr} (hno : NoIt ex news) :
    Calls w mean mg mb 253 [.ref p] 1 news (ROv news cs) := by
  w_on
  have hcl := hc.1
  unfold Calls
  k_fill
  intro dp un gd cn csc a ccd cl outer A₀ base h₀ L m s Q E B F X N T hk hd hu hret
  refine wpAny_call ?_
  k_dflt (refine' code_def (scope := Scope.mk _ _ _ _ _) (params := Arguments.mk _ _ _ _ _ _ _) (body := _ :: _) (binds := [(Str.ofString "prefix", Value.ref p)]) ?k1 ?k2 ?k3 ?k4 ?k5 ?kA ?kF ?kK ?k6 ?k7 ?k8 ?k9 ?kB ?_ ?c2 ?c3 ?c4 ?c5; (case kA => exact rfl); (case kF => exact rfl); (case kK => assumption); (case k1 => k_asm); (case k2 => k_asm); (case k3 => k_asm); (case k4 => k_asm); (case k5 => k_asm); (case k6 => exact rfl); (case k7 => k_is); (case k8 => first | exact room0 hd | ktr_room); (case k9 => exact BindsTo.of_eq rfl); (case c5 => decide); (case kB => exact locs rfl); (case c2 => exact rfl); (case c3 => exact rfl); (case c4 => exact rfl); k_whole; intro g' L' h' FG' F' N' B' X' T'; (try dsimp only); (try k_fold); refine fold_A ?_; intro AA; have hAu : AA.units = un + 3 := rfl; have hAd : AA.depth = dp + 1 := rfl; refine fold_env ?_; intro ee)
  k_steps
  refine Stop.go ?_
  rename_i l1 h1 o1 D h2 hi n1 s1 e1 e2 e3 o2 h3 F3 N3 e4 h4 tk4 t4 u4 v4 R4 F4 N4 k4
  clear F3 N3 k4
  replace N4 := News.drop2 N4
  refine loop_range ex (JOv news D p cs)
    rfl R4 ?hb F4 N4 ?hno ?hj ?turn ?done
  case hb => lia
  case hno => exact NoIt.cons rfl hno
  case hj =>
    refine ⟨_, List.replicate cs.length 0, rfl, ⟨rfl, rfl, trivial⟩, ?_, by simp, ?_⟩
    · rw [krep_flat] at hi
      rw [List.map_replicate, show cs.length = ((vs.toArray.size : Nat) : Int).toNat by simp [hcl]]
      exact hi
    · intro j h1 h2
      obtain rfl : j = 0 := by lia
      exact ⟨0, by simp [h2], ov_zero cs⟩
  case done =>
    rintro m₁ nx h tk ⟨ts, T, rfl, hm, hi, hT, hov⟩ hno1 F5 N5
    replace F5 := Fr.has _ F5 hm
    try k_fold
    k_steps
    rename (Fr h₀ L _ m) => kF
    rename (News h₀ L _ _) => kN
    exact hret _ _ _ _ kF kN ⟨D, ts, T, rfl, rfl, fun q hq => Nat.lt_trans (o1 q hq) o2.1, hi, hT, fun j hj => hov j (by lia) hj⟩
  case turn =>
    rintro i t m₁ nx I it h tk hi ⟨ts, T, rfl, hm, hi, hT, hov⟩ hno1 F5 N5 hI
    replace F5 := Fr.hasX _ F5 hm
    have hDI := neN (hI _ (.head _))
    have hDn : ∀ q ∈ news, q.1 ≠ D := fun q hq => Nat.ne_of_lt (Nat.lt_trans (o1 q hq) o2.1)
    try k_fold
    k_steps
    refine Stop.go ?_
    rename_i tx h6 F6 N6
    obtain ⟨k0, hk0, ho0⟩ := hov i (Nat.le_refl _) (by lia)
    refine while_else (fun n m nx => nx = (I, it) :: (D, listOf ts.toArray 0) :: news ∧ (∃ u, Has m [(Str.ofString "idx", .int (n : Int) u), (Str.ofString "i", .int (1 + (i : Int)) t), (Str.ofString "table", .ref D), (Str.ofString "prefix", .ref p)]) ∧ Bord cs i n ∧ ∀ k, Bord cs (i + 1) k → k ≤ n + 1)
      (n₀ := k0) F6 N6 ?wj ?wt
    case wj =>
      refine ⟨rfl, ⟨tx, congrArg some (congrArg (Value.int · tx) ?_), rfl, rfl, rfl, trivial⟩, ho0.1, kmp_start ho0⟩
      rw [show (1 + (i : Int) - 1).toNat = i by lia]
      simp [List.getD, hk0]
    case wt =>
      rintro idx m₂ nx h7 tk7 F7 N7 ⟨rfl, ⟨u, hm2⟩, hb, hmx⟩
      replace F7 := Fr.has _ F7 hm2
      have hbi := hb.1
      try k_fold
      k_steps
      · refine Stop.go ?_
        rename (Fr _ _ _ _) => F8
        rename (News _ _ _ _) => N8
        rename (IntsAre _ _) => h8
        rename (cs.getD _ _ ≠ cs.getD _ _) => hne
        rename ((idx : Int) = 0) => h0
        rw [show (1 + (i : Int)).toNat = i + 1 by lia] at h8 hne N8
        rw [show ((idx : Int)).toNat = 0 by lia] at hne
        refine Turn.next F8 N8 (NoIt.cons rfl hno) ⟨_, T.set (i + 1) 0, rfl, ⟨rfl, rfl, trivial⟩, by rw [List.map_set]; exact h8, by rw [List.length_set]; exact hT, ov_set hT hov (kmp_zero (fun k hk => by have := hmx k hk; lia) ?_)⟩
        rw [Ne, getD_ne (by lia) (by lia)] at hne
        exact hne
      · refine Stop.go ?_
        rename (Fr _ _ _ _) => F8
        rename (News _ _ _ _) => N8
        rename (cs.getD _ _ ≠ cs.getD _ _) => hne
        rename ((idx : Int) ≠ 0) => h0
        obtain ⟨k, hk1, hk2⟩ := hov (idx - 1) (by lia) (by lia)
        rw [show (1 + (i : Int)).toNat = i + 1 by lia, show ((idx : Int)).toNat = idx by lia, Ne, getD_ne (by lia) (by lia)] at hne
        obtain ⟨q1, q2⟩ := kmp_fall hb (by lia) hmx hne hk2
        have hkl := hk2.1.1
        refine wstep_next k F8 N8 (by lia) ⟨rfl, ⟨_, congrArg some (congrArg (Value.int · _) ?_), rfl, rfl, rfl, trivial⟩, q1, q2⟩
        rw [show ((idx : Int) - 1).toNat = idx - 1 by lia]
        simp [List.getD, hk1]
      · refine Stop.go ?_
        rename (Fr _ _ _ _) => F8
        rename (News _ _ _ _) => N8
        rename (IntsAre _ _) => h8
        rename (¬ (cs.getD _ _ ≠ cs.getD _ _)) => hne
        rw [show (1 + (i : Int)).toNat = i + 1 by lia] at h8 hne N8
        rw [show ((idx : Int)).toNat = idx by lia, Classical.not_not, getD_ne (by lia) (by lia)] at hne
        refine Turn.next F8 N8 (NoIt.cons rfl hno) ⟨_, T.set (i + 1) (idx + 1), rfl, ⟨rfl, rfl, trivial⟩, by rw [List.map_set]; exact h8, by rw [List.length_set]; exact hT, ov_set hT hov (kmp_hit hb hmx hne)⟩
end
section
noncomputable def jv : Option Int → Tok → Value
  | none, _ => .none
  | some i, t => .int i t
section
variable {prog : Program} {w : World} {A : Around} {E : Value → Shared → Prop} {s : Shared} {h₀ : Heap} {L : Addr} {m : Str → Option Value} {news : Led}
theorem eq_jv {x : Int} {jk : Option Int} {t u : Tok} {Q : Value → Shared → Prop} (h : Q (.bool (decide (jk = some x))) s) : wpAny (model prog w) A (compareOp .Eq (.int x t) (jv jk u)) Q E s := by
  cases jk with
  | none =>
    refine cmp_ofEq ?_
    exact (SeqAt.RcAt.int_none (A := A) (s := s) x t) prog w E Q (by simpa using h)
  | some i =>
    refine cmp_ofEq ?_
    refine (SeqAt.RcAt.int_int (A := A) (s := s) x t i u) prog w E Q ?_
    rwa [show (x == i) = decide (some i = some x) by rw [Bool.eq_iff_iff, beq_iff_eq, decide_eq_true_iff]; exact ⟨fun e => e ▸ rfl, fun e => (Option.some.inj e).symm⟩]
end
local macro_rules | `(tactic| k_mem) => `(tactic| ((repeat (first | assumption | exact List.Mem.head _ | refine' List.Mem.tail _ ?_ | refine' List.mem_append_right _ ?_)); done))
local macro_rules | `(tactic| walk_at $s:str) => `(tactic| k_extra $s)
theorem kreg2 : True := by
  k_with_none
  k_with "eval BinOp" => ((try clear qF0b); (fail_if_success (have hq9 := @qF0b)); refine fold_Q ?_; intro qF0b; walk_at "eval BinOp")
  k_with "eval BinOp" => ((try clear qF0); (fail_if_success (have hq9 := @qF0)); refine fold_Q ?_; intro qF0; walk_at "eval BinOp")
  k_with "isTrue Compare" => ((try clear qF1); (fail_if_success (have hq9 := @qF1)); refine fold_Q ?_; intro qF1; walk_at "isTrue Compare")
  k_with "eval Subscript" => ((try clear qF2b); (fail_if_success (have hq9 := @qF2b)); refine fold_Q ?_; intro qF2b; walk_at "eval Subscript")
  k_with "eval Subscript" => ((try clear qF2); (fail_if_success (have hq9 := @qF2)); refine fold_Q ?_; intro qF2; walk_at "eval Subscript")
  k_with "eval Call" => ((try clear qF3b); (fail_if_success (have hq9 := @qF3b)); refine fold_Q ?_; intro qF3b; walk_at "eval Call")
  k_with "eval Call" => ((try clear qF3); (fail_if_success (have hq9 := @qF3)); refine fold_Q ?_; intro qF3; walk_at "eval Call")
  k_with "eval Tuple" => ((try clear qF4); (fail_if_success (have hq9 := @qF4)); refine fold_Q ?_; intro qF4; walk_at "eval Tuple")
  k_with "exec Assign" => ((try clear qF5); (fail_if_success (have hq9 := @qF5)); refine fold_Q ?_; intro qF5; walk_at "exec Assign")
  k_with "exec AugAssign" => ((try clear qF6); (fail_if_success (have hq9 := @qF6)); refine fold_Q ?_; intro qF6; walk_at "exec AugAssign")
  k_with "eval Attribute Name" => ((try clear qF7); (fail_if_success (have hq9 := @qF7)); refine fold_Q ?_; intro qF7; walk_at "eval Attribute Name")
  k_with "isTrue BoolOp" => ((try clear qF8); (fail_if_success (have hq9 := @qF8)); refine fold_Q ?_; intro qF8; walk_at "isTrue BoolOp")
  k_with "exec If" => ((try clear qF9); (fail_if_success (have hq9 := @qF9)); refine fold_Q ?_; intro qF9; walk_at "exec If")
  k_with "eval Compare" => ((try clear qF10); (fail_if_success (have hq9 := @qF10)); refine fold_Q ?_; intro qF10; walk_at "eval Compare")
  k_with "eval Call Attribute" => ((try clear qF11); (fail_if_success (have hq9 := @qF11)); refine fold_Q ?_; intro qF11; walk_at "eval Call Attribute")
  k_with "eval List" => ((try clear qF12); (fail_if_success (have hq9 := @qF12)); refine fold_Q ?_; intro qF12; walk_at "eval List")
  k_with "exec Expr" => ((try clear qF13); (fail_if_success (have hq9 := @qF13)); refine fold_Q ?_; intro qF13; walk_at "exec Expr")
  k_with "exec Return some" => ((try clear qF14); (fail_if_success (have hq9 := @qF14)); refine fold_Q ?_; intro qF14; walk_at "exec Return some")
  k_with "pyIter ref" => (refine Stop.of ?_)
  k_with "exec While" => (refine Stop.of ?_)
  k_with "Turn" => (first | refine turn_brk ?_ | refine turn_ret ?_ | refine Stop.of ?_)
  k_with "WStep" => (first | refine wstep_brk ?_ | refine wstep_ret ?_ | refine Stop.of ?_)
  k_with "call builtin:len" => (k_here; (with_reducible show wpAny _ _ (call (Value.builtin "len") [Value.ref _]) _ _ _); k_dflt (refine' len_led (by k_asm) (by k_mem) (by (simp only [List.size_toArray] <;> lia)) ?_; k_whole))
  k_with "subscriptTail" => (k_here; (with_reducible show wpAny _ _ (subscriptTail _ _ (Value.ref _) (Value.int _ _)) _ _ _); k_dflt (refine' item_cs (by k_asm) (by k_mem) (by assumption) (by lia) (by lia) (by lia) ?_); intro _)
  k_with "compareOp NotEq" => (refine ne_cells ?_)
  k_with "WExit" => (refine Stop.of ?_)
  k_with "CompSrc" => (refine Stop.of ?_)
  k_with "CompEnd" => (refine Stop.of ?_)
  k_with "binaryOp Add ref ref" => (k_here; (with_reducible show wpAny _ _ (binaryOp _ (Value.ref _) (Value.ref _)) _ _ _); k_dflt (refine' cat_led (by k_asm) (by k_asm) (by k_mem) (by k_mem) ?_ (by (simp only [List.length_append, List.length_drop, List.length_take, List.length_cons, List.length_nil]; lia))); intro _ _ _ _ xl9; (try k_lt xl9); (try (revert xl9; intro _)))
  k_with "subscriptTail Name Slice ref ref" => (k_here; (with_reducible show wpAny _ _ (subscriptTail _ (PySem.Expr.Slice _ _ none _) (Value.ref _) (Value.ref _)) _ _ _); k_dflt (first | refine' slice_from (by k_asm) (by k_asm) (by k_dflt k_mem) (by lia) (by lia) ?_ (by with_unfolding_all rfl) (by kmk_pure) | refine' slice_upto (by k_asm) (by k_asm) (by k_dflt k_mem) (by lia) (by lia) ?_ (by with_unfolding_all rfl) (by kmk_pure)); intro _ _ _ _ xl9; (try k_lt xl9); (try (revert xl9; intro _)))
  k_with "call ref" => (refine Stop.of ?_)
  k_with "compareOp Eq" => (refine eq_jv ?_)
  k_with "subscriptTail" => (k_here; (with_reducible show wpAny _ _ (subscriptTail _ _ (Value.ref _) (Value.int _ _)) _ _ _); k_dflt (refine' item_ints (by k_asm) (by k_mem) (by assumption) (by lia) (by lia) (by lia) ?_); intro _)
  trivial
variable {w : World} {mean : ExcName → Option Value} {mg mb : Str → Option Value}
inductive RLong (news : Led) (jk : Option Int) (xs ys : List Int) (v : Value) (news' : Led) : Prop
  | mk (r : Addr) (i j s : Nat) (t1 t2 t3 : Tok) (h1 : v = .ref r) (h2 : news' = (r, listOf [.int i t1, .int j t2, .int s t3].toArray 0) :: news) (h3 : (∀ q ∈ news, q.1 < r)) (h4 : Long jk xs ys i j s) : RLong news jk xs ys v news'
inductive JLa (news : Led) (D2 D1 L' : Addr) (oJ : Obj) (zt zs : List Value) (p q : Addr) (jk : Option Int) (xs ys : List Int) (i : Nat) (m : Str → Option Value) (nx : Led) : Prop
  | mk (h1 : nx = (D2, LCg.lst zt) :: (D1, LCg.lst zs) :: (L' + 1, oJ) :: news) (kk jj ss : Nat) (t1 t2 t3 : Tok) (h2 : Has m [(Str.ofString "k", .int kk t1), (Str.ofString "j", .int jj t2), (Str.ofString "size", .int ss t3), (Str.ofString "left", .ref D1), (Str.ofString "right", .ref D2), (Str.ofString "one", .ref p), (Str.ofString "two", .ref q)]) (h3 : BI (Blk jk xs ys 0 xs.length 0 ys.length) (PrL i 0) 0 0 kk jj ss) : JLa news D2 D1 L' oJ zt zs p q jk xs ys i m nx
inductive JLb (news : Led) (D2 D1 L' : Addr) (oJ : Obj) (zt zs : List Value) (p q : Addr) (jk : Option Int) (xs ys : List Int) (kk jj ss : Nat) (n : Nat) (m : Str → Option Value) (nx : Led) : Prop
  | mk (h1 : nx = (D2, LCg.lst zt) :: (D1, LCg.lst zs) :: (L' + 1, oJ) :: news) (k j d : Nat) (t1 t2 t3 : Tok) (h2 : Has m [(Str.ofString "k", .int k t1), (Str.ofString "j", .int j t2), (Str.ofString "size", .int ((d + ss : Nat) : Int) t3), (Str.ofString "one", .ref p), (Str.ofString "two", .ref q)]) (h3 : kk = k + d) (h4 : jj = j + d) (h5 : n = k) (h6 : ∀ t, t < d → Jk jk xs ys (k + t) (j + t)) : JLb news D2 D1 L' oJ zt zs p q jk xs ys kk jj ss n m nx
inductive JLc (news : Led) (D2 D1 L' : Addr) (oJ : Obj) (zt zs : List Value) (p q : Addr) (jk : Option Int) (xs ys : List Int) (kk jj ss : Nat) (m : Str → Option Value) (nx : Led) : Prop
  | mk (h1 : nx = (D2, LCg.lst zt) :: (D1, LCg.lst zs) :: (L' + 1, oJ) :: news) (k j d : Nat) (t1 t2 t3 : Tok) (h2 : Has m [(Str.ofString "k", .int k t1), (Str.ofString "j", .int j t2), (Str.ofString "size", .int ((d + ss : Nat) : Int) t3), (Str.ofString "one", .ref p), (Str.ofString "two", .ref q)]) (h3 : kk = k + d) (h4 : jj = j + d) (h5 : (∀ t, t < d → Jk jk xs ys (k + t) (j + t))) (h6 : (k = 0 ∨ j = 0 ∨ ¬ Jk jk xs ys (k - 1) (j - 1))) : JLc news D2 D1 L' oJ zt zs p q jk xs ys kk jj ss m nx
inductive JLd (news : Led) (D2 D1 L' : Addr) (oJ : Obj) (zt zs : List Value) (p q : Addr) (jk : Option Int) (xs ys : List Int) (kk jj ss k j d : Nat) (t1 t2 : Tok) (n : Nat) (m : Str → Option Value) (nx : Led) : Prop
  | mk (h1 : nx = (D2, LCg.lst zt) :: (D1, LCg.lst zs) :: (L' + 1, oJ) :: news) (e : Nat) (t3 : Tok) (h2 : Has m [(Str.ofString "k", .int k t1), (Str.ofString "j", .int j t2), (Str.ofString "size", .int ((d + ss + e : Nat) : Int) t3), (Str.ofString "one", .ref p), (Str.ofString "two", .ref q)]) (h3 : n + e = xs.length) (h4 : ∀ t, t < e → Jk jk xs ys (kk + ss + t) (jj + ss + t)) : JLd news D2 D1 L' oJ zt zs p q jk xs ys kk jj ss k j d t1 t2 n m nx
inductive JLe (news : Led) (D2 D1 L' : Addr) (oJ : Obj) (zt zs : List Value) (p q : Addr) (jk : Option Int) (xs ys : List Int) (kk jj ss k j d : Nat) (t1 t2 : Tok) (m : Str → Option Value) (nx : Led) : Prop
  | mk (h1 : nx = (D2, LCg.lst zt) :: (D1, LCg.lst zs) :: (L' + 1, oJ) :: news) (e : Nat) (t3 : Tok) (h2 : Has m [(Str.ofString "k", .int k t1), (Str.ofString "j", .int j t2), (Str.ofString "size", .int ((d + ss + e : Nat) : Int) t3), (Str.ofString "one", .ref p), (Str.ofString "two", .ref q)]) (h3 : (∀ t, t < e → Jk jk xs ys (kk + ss + t) (jj + ss + t))) (h4 : ¬ Jk jk xs ys (k + (d + ss + e)) (j + (d + ss + e))) : JLe news D2 D1 L' oJ zt zs p q jk xs ys kk jj ss k j d t1 t2 m nx
theorem c_longest {news : Led} {p q : Addr} {vs us : List Value} {xs ys : List Int} {n k : Nat} {jk : Option Int} {tj : Tok} (hp : (p, listOf vs.toArray n) ∈ news) (hq : (q, listOf us.toArray k) ∈ news) (hx : IntsAre vs xs) (hy : IntsAre us ys) 
    (hl1 : xs.length ≤ 100) (hl2 : ys.length ≤ 100) {ex : List Addr} (hno : NoIt ex news) :
    Calls w mean mg mb 263 [.ref p, .ref q, jv jk tj] 2 news (RLong news jk xs ys) := by
  w_on
  have hvl := hx.length
  have hul := hy.length
  unfold Calls
  k_fill
  intro dp un gd cn csc a ccd cl outer A₀ base h₀ L m s Q E B F X N T hk hd hu hret
  refine wpAny_call ?_
  k_dflt (refine' code_defC (scope := Scope.mk _ _ _ _ _) (params := Arguments.mk _ _ _ _ _ _ _) (body := _ :: _) (binds := [(Str.ofString "one", Value.ref p), (Str.ofString "two", Value.ref q), (Str.ofString "junk", jv jk tj)]) ?k1 ?k2 ?k3 ?k4 ?k5 ?kA ?kF ?kK ?k6 ?k7 ?k8 ?k9 ?kB ?kD ?_ ?c2 ?c3 ?c4; (case kA => exact rfl); (case kF => exact rfl); (case kK => assumption); (case k1 => k_asm); (case k2 => k_asm); (case k3 => k_asm); (case k4 => k_asm); (case k5 => k_asm); (case k6 => exact rfl); (case k7 => k_is); (case k8 => first | exact room0 hd | ktr_room); (case k9 => exact BindsTo.of_eq rfl); (case kB => exact rfl); (case kD => decide +kernel); (case c2 => exact rfl); (case c3 => exact rfl); (case c4 => exact rfl); k_whole; intro g' L' h' tk' cells' FG' F' N' Y' B' X' T' l1; (try k_lt l1); k_cells Y'; (try simp only [List.cons_append, List.nil_append] at N'); (try dsimp only); (try k_lift B'); (try k_fold))
  rename_i oJ dJ
  replace dJ : oJ.data = .cell (some (jv jk tj)) := dJ
  generalize hmm : bindL _ _ _ = m0 at F'
  have hm0 : Has m0 [(Str.ofString "one", .ref p), (Str.ofString "two", .ref q)] := by subst hmm; exact ⟨rfl, rfl, trivial⟩
  clear hmm
  replace F' := Fr.has _ F' hm0
  refine fold_Q ?_
  intro qQ
  refine fold_E ?_
  intro eE
  refine fold_A ?_
  intro AA
  refine fold_env ?_
  intro ee
  k_steps
  refine Stop.go ?_
  refine LCg.CompSrc.ledger rfl F' N' (.tail _ hp) ?_ fun g => ?_
  · rw [PySem.sizeLine_eq, List.size_toArray]; lia
  refine comp_gen (fun ys nx => nx = (L' + 1, oJ) :: news ∧ CsAre ys ((xs.take ys.length).map (cellL jk))) ⟨rfl, rfl, fun _ _ h => by simp at h⟩ ?turn ?fin
  case turn =>
    rintro v I oI C oC D m₂ zs nx h tk E' hl hv ⟨rfl, hzs⟩ hC hX F1 N1 off ne
    obtain ⟨x, tx, rfl, hx1⟩ := IntsAre.at hx zs.length v (by simpa using hv)
    have key : ∀ t, CsAre (zs ++ [Cell.val (cellL jk x) t]) ((xs.take (zs ++ [Cell.val (cellL jk x) t]).length).map (cellL jk)) := fun t => by
      have := CsAre.snoc (c := cellL jk x) (t := t) hzs
      rw [List.length_append, List.length_singleton, List.take_add_one, hx1, List.map_append]
      exact this
    k_steps
    all_goals (refine Stop.go ?_)
    · rename (jk = some x) => he
      rw [cellL, if_pos he] at key
      exact ⟨_, _, _, rfl, F1, N1, off, .inr ⟨_, .tail _ hp, rfl, _, rfl⟩, rfl, key _⟩
    · rename (¬ jk = some x) => he
      rw [cellL, if_neg he] at key
      exact ⟨_, _, _, rfl, F1, N1, off, .inr ⟨_, .tail _ hp, rfl, _, rfl⟩, rfl, key _⟩
  case fin =>
    rintro zs nx hzl ⟨rfl, hzs⟩
    rw [hzl, List.size_toArray, hvl, List.take_length] at hzs
    rw [List.size_toArray, hvl] at hzl
    unfold LCg.FinA
    intro D1 h1 tk1 F2 N2 off2
    try dsimp only
    k_steps
    refine Stop.go ?_
    refine LCg.CompSrc.ledger rfl F2 N2 (.tail _ (.tail _ hq)) ?_ fun g => ?_
    · rw [PySem.sizeLine_eq, List.size_toArray]; lia
    refine comp_gen (fun zt nx => nx = (D1, LCg.lst zs) :: (L' + 1, oJ) :: news ∧ CsAre zt ((ys.take zt.length).map (cellR jk))) ⟨rfl, rfl, fun _ _ h => by simp at h⟩ ?turn ?fin
    case turn =>
      rintro v I oI C oC D m₂ zs nx h tk E' hl hv ⟨rfl, hzs⟩ hC hX F1 N1 off ne
      obtain ⟨x, tx, rfl, hx1⟩ := IntsAre.at hy zs.length v (by simpa using hv)
      have key : ∀ t, CsAre (zs ++ [Cell.val (cellR jk x) t]) ((ys.take (zs ++ [Cell.val (cellR jk x) t]).length).map (cellR jk)) := fun t => by
        have := CsAre.snoc (c := cellR jk x) (t := t) hzs
        rw [List.length_append, List.length_singleton, List.take_add_one, hx1, List.map_append]
        exact this
      k_steps
      all_goals (refine Stop.go ?_)
      · rename (jk = some x) => he
        rw [cellR, if_pos he] at key
        exact ⟨_, _, _, rfl, F1, N1, off, .inr ⟨_, .tail _ (.tail _ hq), rfl, _, rfl⟩, rfl, key _⟩
      · rename (¬ jk = some x) => he
        rw [cellR, if_neg he] at key
        exact ⟨_, _, _, rfl, F1, N1, off, .inr ⟨_, .tail _ (.tail _ hq), rfl, _, rfl⟩, rfl, key _⟩
    case fin =>
      rintro zt nx hztl ⟨rfl, hzt⟩
      rw [hztl, List.size_toArray, hul, List.take_length] at hzt
      rw [List.size_toArray, hul] at hztl
      unfold LCg.FinA
      intro D2 h2 tk2 F3 N3 off3
      try dsimp only
      k_steps
      refine Stop.go ?_
      rename (IsRange _ _ _ _ _ _ _ _) => R4
      rename (Fr _ _ _ _) => F4
      rename (News _ _ _ _) => N4
      replace N4 : News g' L' _ ((D2, LCg.lst zt) :: (D1, LCg.lst zs) :: (L' + 1, oJ) :: news) := News.drop1 N4
      refine loop_range ((L' + 1) :: ex) (JLa news D2 D1 L' oJ zt zs p q jk xs ys)
        rfl R4 ?hb F4 N4 ?hno ?hj ?turn ?done
      case hb => lia
      case hno =>
        exact NoIt.cons rfl (NoIt.cons rfl (NoIt.own hno))
      case hj =>
        exact ⟨rfl, 0, 0, 0, _, _, _, ⟨rfl, rfl, rfl, rfl, rfl, rfl, rfl, trivial⟩, BI.start (fun i j s z h => by unfold PrL at h; lia)⟩
      case done =>
        rintro m₁ nx h tk ⟨rfl, kk, jj, ss, t1, t2, t3, hm, hb⟩ hno1 F5 N5
        replace F5 := Fr.has _ F5 hm
        try k_fold
        have hB := hb.best (Nat.zero_le _) (Nat.zero_le _) (fun a b c z hk => by
          have := hk.2.1
          unfold PrL
          lia)
        have hB1 : kk + ss ≤ xs.length := hB.1.2.1
        have hB2 : jj + ss ≤ ys.length := hB.1.2.2.2.1
        k_steps
        refine Stop.go ?_
        refine while_done (JLb news D2 D1 L' oJ zt zs p q jk xs ys kk jj ss)
          (JLc news D2 D1 L' oJ zt zs p q jk xs ys kk jj ss)
          (n₀ := kk) F5 N5 ?wj ?wt ?wd
        case wj => exact ⟨rfl, kk, jj, 0, t1, t2, t3, ⟨rfl, rfl, congrArg some (congrArg (Value.int · _) (by lia)), rfl, rfl, trivial⟩, rfl, rfl, rfl, fun _ h => absurd h (Nat.not_lt_zero _)⟩
        case wt =>
          rintro n m₂ nx h7 tk7 F7 N7 ⟨rfl, k, j, d, t1, t2, t3, hm2, hk, hj, rfl, hd2⟩
          replace F7 := Fr.has _ F7 hm2
          try k_fold
          k_steps
          · refine Stop.go ?_
            rename (jk = some (List.getD xs _ _)) => e1
            rename (jk = some (List.getD ys _ _)) => e2
            rename (Fr _ _ _ _) => F6
            rename (News _ _ _ _) => N6
            rw [show ((n : Int) - 1).toNat = n - 1 by lia] at e1
            rw [show ((j : Int) - 1).toNat = j - 1 by lia] at e2
            refine wstep_next (n - 1) F6 (News.drop1 N6) (by lia) ⟨rfl, n - 1, j - 1, d + 1, _, _, _, ⟨congrArg some (congrArg (Value.int · _) ?_), congrArg some (congrArg (Value.int · _) ?_), congrArg some (congrArg (Value.int · _) ?_), rfl, rfl, trivial⟩, by lia, by lia, rfl, fun t ht => ?_⟩
            · lia
            · lia
            · lia
            · rcases Nat.eq_zero_or_pos t with z | z
              · subst z
                exact (jk_iff (by lia) (by lia)).mpr ⟨e1, e2⟩
              · have := hd2 (t - 1) (by lia)
                rwa [show n + (t - 1) = n - 1 + t by lia, show j + (t - 1) = j - 1 + t by lia] at this
          · refine Stop.go ?_
            rename (¬ jk = some (List.getD ys _ _)) => e2
            rw [show ((j : Int) - 1).toNat = j - 1 by lia] at e2
            exact WExit.mk F7 N7 ⟨rfl, n, j, d, t1, t2, t3, ⟨rfl, rfl, rfl, rfl, rfl, trivial⟩, hk, hj, hd2, .inr (.inr fun q => e2 ((jk_iff (by lia) (by lia)).mp q).2)⟩
          · refine Stop.go ?_
            rename (¬ jk = some (List.getD xs _ _)) => e2
            rw [show ((n : Int) - 1).toNat = n - 1 by lia] at e2
            exact WExit.mk F7 N7 ⟨rfl, n, j, d, t1, t2, t3, ⟨rfl, rfl, rfl, rfl, rfl, trivial⟩, hk, hj, hd2, .inr (.inr fun q => e2 ((jk_iff (by lia) (by lia)).mp q).1)⟩
          · refine Stop.go ?_
            exact WExit.mk F7 N7 ⟨rfl, n, j, d, t1, t2, t3, ⟨rfl, rfl, rfl, rfl, rfl, trivial⟩, hk, hj, hd2, .inr (.inl (by lia))⟩
          · refine Stop.go ?_
            exact WExit.mk F7 N7 ⟨rfl, n, j, d, t1, t2, t3, ⟨rfl, rfl, rfl, rfl, rfl, trivial⟩, hk, hj, hd2, .inl (by lia)⟩
        case wd =>
          rintro m₂ nx h7 tk7 F7 N7 ⟨rfl, k, j, d, t1, t2, t3, hm2, hk, hj, hd2, hend⟩
          replace F7 := Fr.has _ F7 hm2
          try k_fold
          k_steps
          refine Stop.go ?_
          refine while_done (JLd news D2 D1 L' oJ zt zs p q jk xs ys kk jj ss k j d t1 t2)
            (JLe news D2 D1 L' oJ zt zs p q jk xs ys kk jj ss k j d t1 t2)
            (n₀ := xs.length) F7 N7 ?vj ?vt ?vd
          case vj => exact ⟨rfl, 0, t3, ⟨rfl, rfl, rfl, rfl, rfl, trivial⟩, rfl, fun _ h => absurd h (Nat.not_lt_zero _)⟩
          case vt =>
            rintro n m₂ nx h7 tk7 F7 N7 ⟨rfl, e, t3, hm2, hne, he2⟩
            replace F7 := Fr.has _ F7 hm2
            try k_fold
            k_steps
            · refine Stop.go ?_
              rename (jk = some (List.getD xs _ _)) => e1
              rename (jk = some (List.getD ys _ _)) => e2
              rename (Fr _ _ _ _) => F6
              rename (News _ _ _ _) => N6
              rename ((k : Int) + _ < _) => c1
              rename ((j : Int) + _ < _) => c2
              rw [List.size_toArray] at c1 c2
              rw [show ((k : Int) + ((d + ss + e : Nat) : Int)).toNat = kk + ss + e by lia] at e1
              rw [show ((j : Int) + ((d + ss + e : Nat) : Int)).toNat = jj + ss + e by lia] at e2
              refine wstep_next (n - 1) F6 N6 (by lia) ⟨rfl, e + 1, _, ⟨rfl, rfl, congrArg some (congrArg (Value.int · _) ?_), rfl, rfl, trivial⟩, by lia, fun t ht => ?_⟩
              · lia
              · by_cases c : t < e
                · exact he2 t c
                · obtain rfl : t = e := by lia
                  exact (jk_iff (by lia) (by lia)).mpr ⟨e1, e2⟩
            · refine Stop.go ?_
              rename (¬ jk = some (List.getD ys _ _)) => e2
              rename ((k : Int) + _ < _) => c1
              rename ((j : Int) + _ < _) => c2
              rw [List.size_toArray] at c1 c2
              rw [show ((j : Int) + ((d + ss + e : Nat) : Int)).toNat = j + (d + ss + e) by lia] at e2
              exact WExit.mk F7 N7 ⟨rfl, e, t3, ⟨rfl, rfl, rfl, rfl, rfl, trivial⟩, he2, fun q => e2 ((jk_iff (by lia) (by lia)).mp q).2⟩
            · refine Stop.go ?_
              rename (¬ jk = some (List.getD xs _ _)) => e2
              rename ((k : Int) + _ < _) => c1
              rename ((j : Int) + _ < _) => c2
              rw [List.size_toArray] at c1 c2
              rw [show ((k : Int) + ((d + ss + e : Nat) : Int)).toNat = k + (d + ss + e) by lia] at e2
              exact WExit.mk F7 N7 ⟨rfl, e, t3, ⟨rfl, rfl, rfl, rfl, rfl, trivial⟩, he2, fun q => e2 ((jk_iff (by lia) (by lia)).mp q).1⟩
            · refine Stop.go ?_
              rename (¬ (j : Int) + _ < _) => c2
              rw [List.size_toArray] at c2
              exact WExit.mk F7 N7 ⟨rfl, e, t3, ⟨rfl, rfl, rfl, rfl, rfl, trivial⟩, he2, fun q => by have := q.lt; lia⟩
            · refine Stop.go ?_
              rename (¬ (k : Int) + _ < _) => c2
              rw [List.size_toArray] at c2
              exact WExit.mk F7 N7 ⟨rfl, e, t3, ⟨rfl, rfl, rfl, rfl, rfl, trivial⟩, he2, fun q => by have := q.lt; lia⟩
          case vd =>
            rintro m₂ nx h7 tk7 F7 N7 ⟨rfl, e, t3, hm2, he2, hne⟩
            replace F7 := Fr.has _ F7 hm2
            try k_fold
            k_steps
            rename (Fr h₀ L _ m) => kF
            rename (News h₀ L _ _) => kN
            rename (D2 < _ ∧ D1 < _ ∧ _) => hl
            exact hret _ _ _ _ kF (News.sub kN fun q hq => by
              rcases List.mem_cons.mp hq with rfl | hq
              · exact .head _
              · exact .tail _ (.tail _ (.tail _ (.tail _ hq)))) ⟨_, k, j, d + ss + e, _, _, _, rfl, rfl, fun q hq => Nat.lt_trans (l1 q hq) (Nat.lt_trans (Nat.lt_succ_self _) hl.2.2.1), kk, jj, ss, d, e, hB, hk, hj, rfl, hd2, hend, he2, hne⟩
      case turn =>
        rintro i t m₁ nx I it h tk hi ⟨rfl, kk, jj, ss, t1, t2, t3, hm, hb⟩ hno1 F5 N5 hI
        replace F5 := Fr.hasX _ F5 hm
        try k_fold
        k_steps
        · rename (News _ _ _ _) => N9
          have hrow : CsAre (zs.drop (0 + (i : Int)).toNat ++ [Value.none] ++ zt) (rows jk xs ys i) := by
            rw [show (0 + (i : Int)).toNat = i by lia]
            exact ((hzs.drop i).append CsAre.none).append hzt
          refine Stop.go ?_
          k_dflt (refine' Calls.use (c_overlap (List.Mem.head _) hrow ?l ?no) ?B ?F ?X ?N ?T ?hk ?hd ?hu ?_; (case B => k_asm); (case F => k_asm); (case X => k_asm); (case N => k_asm); (case T => k_asm); (case hk => exact rfl); (case hd => first | exact room1 hd (by decide) | ktr_room); (case hu => first | exact units1 hu (by decide) | ktr_units); (case l => (rw [rows_len]; lia)); (case no => exact NoIt.cons rfl (NoIt.cons rfl (NoIt.cons rfl (NoIt.cons rfl (NoIt.own hno1))))))
          rintro v nx' h10 tk10 F10 N10 ⟨T0, ts, TT, rfl, rfl, hlt, hts, hTl, hov⟩
          replace N10 := News.sub (b := (T0, listOf ts.toArray 0) :: (I, it) :: (D2, LCg.lst zt) :: (D1, LCg.lst zs) :: (L' + 1, oJ) :: news) N10 (fun q hq => by
            rcases List.mem_cons.mp hq with rfl | hq
            · exact .head _
            · exact .tail _ (.tail _ (.tail _ (.tail _ (.tail _ hq)))))
          have hno2 : NoIt (I :: (L' + 1) :: ex) ((T0, listOf ts.toArray 0) :: (I, it) :: (D2, LCg.lst zt) :: (D1, LCg.lst zs) :: (L' + 1, oJ) :: news) := NoIt.cons rfl (NoIt.own hno1)
          have hL : (List.map Int.ofNat TT).length = xs.length - i + 1 + ys.length := by rw [List.length_map, hTl, rows_len]
          clear N9 hlt hrow
          k_steps
          refine Stop.go ?_
          rename (IsRange _ _ _ _ _ _ _ _) => R11
          rename (Fr _ _ _ _) => F11
          rename (News _ _ _ _) => N11
          replace N11 := News.sub (b := (T0, listOf ts.toArray 0) :: (I, it) :: (D2, LCg.lst zt) :: (D1, LCg.lst zs) :: (L' + 1, oJ) :: news) N11 (fun q hq => by first | exact hq | exact .tail _ hq)
          refine loop_range (I :: (L' + 1) :: ex) (fun e m nx => nx = (T0, listOf ts.toArray 0) :: (I, it) :: (D2, LCg.lst zt) :: (D1, LCg.lst zs) :: (L' + 1, oJ) :: news ∧ ∃ (kk jj ss : Nat) (t1 t2 t3 : Tok),
              Has m [(Str.ofString "table", .ref T0), (Str.ofString "at", .int (0 + (i : Int)) t), (Str.ofString "k", .int kk t1), (Str.ofString "j", .int jj t2), (Str.ofString "size", .int ss t3), (Str.ofString "left", .ref D1), (Str.ofString "right", .ref D2), (Str.ofString "one", .ref p), (Str.ofString "two", .ref q)] ∧
              BI (Blk jk xs ys 0 xs.length 0 ys.length) (PrL i e) 0 0 kk jj ss)
            rfl R11 ?hb F11 N11 hno2 ?hj ?turn ?done
          case hb => lia
          case hj => exact ⟨rfl, kk, jj, ss, t1, t2, t3, ⟨rfl, rfl, rfl, rfl, rfl, rfl, rfl, rfl, rfl, trivial⟩, hb⟩
          case done =>
            rintro m₁ nx h tk ⟨rfl, kk, jj, ss, t1, t2, t3, hm, hb⟩ hno4 F5 N5
            replace F5 := Fr.has _ F5 hm
            try k_fold
            k_steps
            refine Stop.go ?_
            refine Turn.next F5 (news' := (D2, LCg.lst zt) :: (D1, LCg.lst zs) :: (L' + 1, oJ) :: news) (News.drop1 N5) hno1 ⟨rfl, kk, jj, ss, t1, t2, t3, ⟨rfl, rfl, rfl, rfl, rfl, rfl, rfl, trivial⟩, hb.congr fun a b c z hk => ?_⟩
            have := hk.2.2.2.1
            unfold PrL
            lia
          case turn =>
            rintro e te m₁ nx I2 it2 h tk he ⟨rfl, kk, jj, ss, t1, t2, t3, hm, hb⟩ hno3 F5 N5 hI2
            replace F5 := Fr.hasX _ F5 hm
            obtain ⟨v, hv1, hv2⟩ := hov (xs.length - i + 1 + e) (by rw [rows_len]; lia)
            have hgd : (List.map Int.ofNat TT).getD (((vs.toArray.size : Nat) : Int) - (0 + (i : Int)) + 1 + (0 + (e : Int))).toNat 0 = (v : Int) := by
              rw [show (((vs.toArray.size : Nat) : Int) - (0 + (i : Int)) + 1 + (0 + (e : Int))).toNat = xs.length - i + 1 + e by rw [List.size_toArray]; lia]
              simp [List.getD, hv1]
            try k_fold
            k_steps
            all_goals (refine Stop.go ?_)
            · rename (_ < List.getD _ _ _) => hs
              rename (Fr _ _ _ _) => F6
              rename (News _ _ _ _) => N6
              rw [hgd] at hs
              obtain ⟨q1, q2⟩ := law_hit hb (by lia) (by lia) hv2 (by lia)
              refine Turn.next F6 (News.drop1 N6) hno3 ⟨rfl, i, e + 1 - v, v, _, _, _, ⟨rfl, rfl, congrArg some (congrArg (Value.int · _) ?_), congrArg some (congrArg (Value.int · _) ?_), congrArg some (congrArg (Value.int · _) hgd), rfl, rfl, rfl, rfl, trivial⟩, q2⟩
              · lia
              · rw [hgd]; lia
            · rename (¬ _ < List.getD _ _ _) => hs
              rw [hgd] at hs
              exact Turn.next F5 N5 hno3 ⟨rfl, kk, jj, ss, _, _, _, ⟨rfl, rfl, rfl, rfl, rfl, rfl, rfl, rfl, rfl, trivial⟩, law_miss hb (by lia) (by lia) hv2 (by lia)⟩
end
section
local macro_rules | `(tactic| k_mem) => `(tactic| ((repeat (first | assumption | exact List.Mem.head _ | refine' List.Mem.tail _ ?_ | refine' List.mem_append_right _ ?_)); done))
local macro_rules | `(tactic| walk_at $s:str) => `(tactic| k_extra $s)
theorem kreg3 : True := by
  k_with_none
  k_with "eval BinOp" => ((try clear qF0b); (fail_if_success (have hq9 := @qF0b)); refine fold_Q ?_; intro qF0b; walk_at "eval BinOp")
  k_with "eval BinOp" => ((try clear qF0); (fail_if_success (have hq9 := @qF0)); refine fold_Q ?_; intro qF0; walk_at "eval BinOp")
  k_with "isTrue Compare" => ((try clear qF1); (fail_if_success (have hq9 := @qF1)); refine fold_Q ?_; intro qF1; walk_at "isTrue Compare")
  k_with "eval Subscript" => ((try clear qF2b); (fail_if_success (have hq9 := @qF2b)); refine fold_Q ?_; intro qF2b; walk_at "eval Subscript")
  k_with "eval Subscript" => ((try clear qF2); (fail_if_success (have hq9 := @qF2)); refine fold_Q ?_; intro qF2; walk_at "eval Subscript")
  k_with "eval Call" => ((try clear qF3b); (fail_if_success (have hq9 := @qF3b)); refine fold_Q ?_; intro qF3b; walk_at "eval Call")
  k_with "eval Call" => ((try clear qF3); (fail_if_success (have hq9 := @qF3)); refine fold_Q ?_; intro qF3; walk_at "eval Call")
  k_with "eval Tuple" => ((try clear qF4); (fail_if_success (have hq9 := @qF4)); refine fold_Q ?_; intro qF4; walk_at "eval Tuple")
  k_with "exec Assign" => ((try clear qF5); (fail_if_success (have hq9 := @qF5)); refine fold_Q ?_; intro qF5; walk_at "exec Assign")
  k_with "exec AugAssign" => ((try clear qF6); (fail_if_success (have hq9 := @qF6)); refine fold_Q ?_; intro qF6; walk_at "exec AugAssign")
  k_with "eval Attribute Name" => ((try clear qF7); (fail_if_success (have hq9 := @qF7)); refine fold_Q ?_; intro qF7; walk_at "eval Attribute Name")
  k_with "isTrue BoolOp" => ((try clear qF8); (fail_if_success (have hq9 := @qF8)); refine fold_Q ?_; intro qF8; walk_at "isTrue BoolOp")
  k_with "exec If" => ((try clear qF9); (fail_if_success (have hq9 := @qF9)); refine fold_Q ?_; intro qF9; walk_at "exec If")
  k_with "eval Compare" => ((try clear qF10); (fail_if_success (have hq9 := @qF10)); refine fold_Q ?_; intro qF10; walk_at "eval Compare")
  k_with "eval Call Attribute" => ((try clear qF11); (fail_if_success (have hq9 := @qF11)); refine fold_Q ?_; intro qF11; walk_at "eval Call Attribute")
  k_with "eval List" => ((try clear qF12); (fail_if_success (have hq9 := @qF12)); refine fold_Q ?_; intro qF12; walk_at "eval List")
  k_with "exec Expr" => ((try clear qF13); (fail_if_success (have hq9 := @qF13)); refine fold_Q ?_; intro qF13; walk_at "exec Expr")
  k_with "exec Return some" => ((try clear qF14); (fail_if_success (have hq9 := @qF14)); refine fold_Q ?_; intro qF14; walk_at "exec Return some")
  k_with "pyIter ref" => (refine Stop.of ?_)
  k_with "exec While" => (refine Stop.of ?_)
  k_with "Turn" => (first | refine turn_brk ?_ | refine turn_ret ?_ | refine Stop.of ?_)
  k_with "WStep" => (first | refine wstep_brk ?_ | refine wstep_ret ?_ | refine Stop.of ?_)
  k_with "call builtin:len" => (k_here; (with_reducible show wpAny _ _ (call (Value.builtin "len") [Value.ref _]) _ _ _); k_dflt (refine' len_led (by k_asm) (by k_mem) (by (simp only [List.size_toArray] <;> lia)) ?_; k_whole))
  k_with "subscriptTail" => (k_here; (with_reducible show wpAny _ _ (subscriptTail _ _ (Value.ref _) (Value.int _ _)) _ _ _); k_dflt (refine' item_cs (by k_asm) (by k_mem) (by assumption) (by lia) (by lia) (by lia) ?_); intro _)
  k_with "compareOp NotEq" => (refine ne_cells ?_)
  k_with "WExit" => (refine Stop.of ?_)
  k_with "CompSrc" => (refine Stop.of ?_)
  k_with "CompEnd" => (refine Stop.of ?_)
  k_with "binaryOp Add ref ref" => (k_here; (with_reducible show wpAny _ _ (binaryOp _ (Value.ref _) (Value.ref _)) _ _ _); k_dflt (refine' cat_led (by k_asm) (by k_asm) (by k_mem) (by k_mem) ?_ (by (simp only [List.length_append, List.length_drop, List.length_take, List.length_cons, List.length_nil]; lia))); intro _ _ _ _ xl9; (try k_lt xl9); (try (revert xl9; intro _)))
  k_with "subscriptTail Name Slice ref ref" => (k_here; (with_reducible show wpAny _ _ (subscriptTail _ (PySem.Expr.Slice _ _ none _) (Value.ref _) (Value.ref _)) _ _ _); k_dflt (first | refine' slice_from (by k_asm) (by k_asm) (by k_dflt k_mem) (by lia) (by lia) ?_ (by with_unfolding_all rfl) (by kmk_pure) | refine' slice_upto (by k_asm) (by k_asm) (by k_dflt k_mem) (by lia) (by lia) ?_ (by with_unfolding_all rfl) (by kmk_pure)); intro _ _ _ _ xl9; (try k_lt xl9); (try (revert xl9; intro _)))
  k_with "call ref" => (refine Stop.of ?_)
  k_with "subscriptTail" => (k_here; (with_reducible show wpAny _ _ (subscriptTail _ _ (Value.ref _) (Value.int _ _)) _ _ _); k_dflt (refine' item_ints (by k_asm) (by k_mem) (by assumption) (by lia) (by lia) (by lia) ?_); intro _)
  k_with "assign Tuple cons ref" => (k_here; (with_reducible show wpAny _ _ (assign (Expr.Tuple _ _ _) _ (Value.ref _)) _ _ _); k_dflt (refine' unpackN_list (by k_asm) (by k_asm) (by k_mem) (by exact rfl) (by exact rfl) (by exact rfl) ?_); intro _ _ _)
  trivial
variable {w : World} {mean : ExcName → Option Value} {mg mb : Str → Option Value}
theorem allLt_mem {d : Addr} : ∀ {l : Led}, AllLt d l → ∀ p ∈ l, p.1 < d
  | [], _, _, h => nomatch h
  | _ :: _, x, p, h => by
    rcases List.mem_cons.mp h with rfl | h
    · exact x.1
    · exact allLt_mem x.2 p h
noncomputable def Grow (news nl : Led) : Prop := (∀ p ∈ nl, noIt p.2 = true) ∧ ∀ q ∈ news, ∀ p ∈ nl, q.1 < p.1
inductive BlRet (news : Led) (jk : Option Int) (xs ys : List Int) (a b : Nat) (v : Value) (news' : Led) : Prop
  | mk (r : Addr) (bs : List Value) (out : List Tri) (nl : Led) (h1 : v = .ref r) (h2 : news' = (r, listOf bs.toArray 0) :: (nl ++ news)) (h3 : Grow news ((r, listOf bs.toArray 0) :: nl)) (h4 : BsAre nl bs (out.map (shift a b))) (h5 : RB jk xs ys out) : BlRet news jk xs ys a b v news'
theorem blocks_end {h₀ h : Heap} {L : Addr} {pD e1 e2 pI p2 f1 f2 p1 g1 g2 g3 : Addr × Obj} {nl1 nl2 news : Led} (kN : News h₀ L h (pD :: e1 :: e2 :: pI :: p2 :: (nl2 ++ f1 :: f2 :: p1 :: (nl1 ++ g1 :: g2 :: g3 :: news))))
    (lD : e1.1 < pD.1 ∧ e2.1 < pD.1 ∧ pI.1 < pD.1 ∧ p2.1 < pD.1 ∧ AllLt pD.1 (nl2 ++ f1 :: f2 :: p1 :: (nl1 ++ g1 :: g2 :: g3 :: news))) (lI : p2.1 < pI.1 ∧ AllLt pI.1 (nl2 ++ f1 :: f2 :: p1 :: (nl1 ++ g1 :: g2 :: g3 :: news)))
    (gr1 : Grow (g1 :: g2 :: g3 :: news) (p1 :: nl1)) (gr2 : Grow (f1 :: f2 :: p1 :: (nl1 ++ g1 :: g2 :: g3 :: news)) (p2 :: nl2)) (hD : noIt pD.2 = true) (hI : noIt pI.2 = true) :
    News h₀ L h (pD :: ((pI :: (nl2 ++ nl1)) ++ news)) ∧ Grow news (pD :: pI :: (nl2 ++ nl1)) := by
  refine ⟨News.sub kN fun q hq => ?_, fun q hq => ?_, fun q hq r hr => ?_⟩
  · simp only [List.mem_cons, List.mem_append] at hq ⊢
    rcases hq with h | (h | h | h) | h <;> simp [h]
  · simp only [List.mem_cons, List.mem_append] at hq
    rcases hq with rfl | rfl | h | h
    · exact hD
    · exact hI
    · exact gr2.1 q (.tail _ h)
    · exact gr1.1 q (.tail _ h)
  · have m1 : q ∈ nl2 ++ f1 :: f2 :: p1 :: (nl1 ++ g1 :: g2 :: g3 :: news) := by simp [hq]
    simp only [List.mem_cons, List.mem_append] at hr
    rcases hr with rfl | rfl | h | h
    · exact allLt_mem lD.2.2.2.2 q m1
    · exact allLt_mem lI.2 q m1
    · exact gr2.2 q (by simp [hq]) r (.tail _ h)
    · exact gr1.2 q (by simp [hq]) r (.tail _ h)
theorem shift_shift (a b c d : Nat) : shift a b ∘ shift c d = shift (a + c) (b + d) := by
  funext ⟨x, y, z⟩
  show (x + c + a, y + d + b, z) = (x + (a + c), y + (b + d), z)
  rw [Nat.add_assoc, Nat.add_assoc, Nat.add_comm c, Nat.add_comm d]
theorem bs_end {nl1 nl2 : Led} {bs1 bs2 : List Value} {out1 out2 : List Tri} {a b i j s : Nat} {I : Addr} {x y z : Int} {t1 t2 t3 : Tok} (h1 : BsAre nl1 bs1 (out1.map (shift a b))) (h2 : BsAre nl2 bs2 (out2.map (shift (a + i + s) (b + j + s))))
    (hx : x = (a : Int) + i) (hy : y = (b : Int) + j) (hz : z = s) :
    BsAre ((I, listOf [Value.int x t1, .int y t2, .int z t3].toArray 0) :: (nl2 ++ nl1)) (bs1 ++ [.ref I] ++ bs2) ((out1 ++ (i, j, s) :: out2.map (shift (i + s) (j + s))).map (shift a b)) := by
  have e : (out1 ++ (i, j, s) :: out2.map (shift (i + s) (j + s))).map (shift a b) = out1.map (shift a b) ++ [shift a b (i, j, s)] ++ out2.map (shift (a + i + s) (b + j + s)) := by
    rw [List.map_append, List.map_cons, List.map_map, shift_shift, ← Nat.add_assoc, ← Nat.add_assoc]
    simp
  rw [e]
  refine ((h1.mono fun p hp => ?_).append (BsAre.one (List.Mem.head _) ?_ ?_ hz)).append (h2.mono fun p hp => ?_)
  · exact .tail _ (List.mem_append_right _ hp)
  · simp only [shift]; lia
  · simp only [shift]; lia
  · exact .tail _ (List.mem_append_left _ hp)
theorem room_bl {dp n m : Nat} (h : dp + (n + 4) < 1000) (e : m < n) : dp + 1 + (m + 4) < 1000 := by lia
theorem units_bl {un n m : Nat} (h : un + 8 * (n + 4) < 9900) (e : m < n) : un + 3 + 8 * (m + 4) < 9900 := by lia
theorem c_blocks_step {news : Led} {p q : Addr} {vs us : List Value} {xs ys : List Int} {n k : Nat} {jk : Option Int} {tj : Tok} {a b : Nat} {ta tb : Tok} (hp : (p, listOf vs.toArray n) ∈ news) (hq : (q, listOf us.toArray k) ∈ news) (hx : IntsAre vs xs) (hy : IntsAre us ys)
    (hl1 : xs.length ≤ 100) (hl2 : ys.length ≤ 100) {ex : List Addr} (hno : NoIt ex news)
    (ih : ∀ {news : Led} {p q : Addr} {vs us : List Value} {xs' ys : List Int} {n k : Nat} {a b : Nat} {ta tb : Tok} (_ : (p, listOf vs.toArray n) ∈ news) (_ : (q, listOf us.toArray k) ∈ news) (_ : IntsAre vs xs') (_ : IntsAre us ys)
      (_ : xs'.length < xs.length) (_ : ys.length ≤ 100) {ex : List Addr} (_ : NoIt ex news),
      Calls w mean mg mb 270 [.ref p, .ref q, .int a ta, .int b tb, jv jk tj] (xs'.length + 4) news (BlRet news jk xs' ys a b)) :
    Calls w mean mg mb 270 [.ref p, .ref q, .int a ta, .int b tb, jv jk tj] (xs.length + 4) news (BlRet news jk xs ys a b) := by
  w_on
  have hvl := hx.length
  have hul := hy.length
  unfold Calls
  k_fill
  intro dp un gd cn csc aa ccd cl outer A₀ base h₀ L m s Q E B F X N T hk hd hu hret
  refine wpAny_call ?_
  k_dflt (refine' code_def (scope := Scope.mk _ _ _ _ _) (params := Arguments.mk _ _ _ _ _ _ _) (body := _ :: _) (binds := [(Str.ofString "one", Value.ref p), (Str.ofString "two", Value.ref q), (Str.ofString "start", Value.int a ta), (Str.ofString "other", Value.int b tb), (Str.ofString "junk", jv jk tj)]) ?k1 ?k2 ?k3 ?k4 ?k5 ?kA ?kF ?kK ?k6 ?k7 ?k8 ?k9 ?kB ?_ ?c2 ?c3 ?c4 ?c5; (case kA => exact rfl); (case kF => exact rfl); (case kK => assumption); (case k1 => k_asm); (case k2 => k_asm); (case k3 => k_asm); (case k4 => k_asm); (case k5 => k_asm); (case k6 => exact rfl); (case k7 => k_is); (case k8 => first | exact room0 hd | ktr_room); (case k9 => exact BindsTo.of_eq rfl); (case c5 => decide); (case kB => exact locs rfl); (case c2 => exact rfl); (case c3 => exact rfl); (case c4 => exact rfl); k_whole; intro g' L' h' FG' F' N' B' X' T'; (try dsimp only); (try k_fold); refine fold_A ?_; intro AA; have hAu : AA.units = un + 3 := rfl; have hAd : AA.depth = dp + 1 := rfl; refine fold_env ?_; intro ee)
  k_steps
  refine Stop.go ?_
  k_dflt (refine' Calls.use (c_longest (jk := jk) (tj := tj) hp hq hx hy hl1 hl2 hno) ?B ?F ?X ?N ?T ?hk ?hd ?hu ?_; (case B => k_asm); (case F => k_asm); (case X => k_asm); (case N => k_asm); (case T => k_asm); (case hk => exact rfl); (case hd => first | exact room1 hd (by decide) | ktr_room); (case hu => first | exact units1 hu (by decide) | ktr_units))
  rintro v nx' h10 tk10 F10 N10 ⟨r0, i0, j0, s0, t1, t2, t3, rfl, rfl, hlt, hlong⟩
  have hle := hlong.le
  k_steps
  · rename ((s0 : Int) = 0) => hs0
    rename (Fr h₀ L _ m) => kF
    rename (News h₀ L _ _) => kN
    rename (r0 < _ ∧ _) => hl
    obtain rfl : s0 = 0 := by lia
    exact hret _ _ _ _ kF (News.sub kN fun q hq => by
      rcases List.mem_cons.mp hq with rfl | hq
      · exact .head _
      · exact .tail _ (.tail _ hq)) ⟨_, [], [], [], rfl, rfl, ⟨fun p hp => by rw [List.mem_singleton.mp hp]; rfl, fun q hq p hp => by rw [List.mem_singleton.mp hp]; exact allLt_mem hl.2 q hq⟩, BsAre.nil, RB.nil hlong⟩
  · refine Stop.go ?_
    rename ((s0 : Int) ≠ 0) => hs0
    have e1 : (xs.take i0).length = i0 := by rw [List.length_take]; lia
    have e2 : (ys.take j0).length = j0 := by rw [List.length_take]; lia
    have e3 : (xs.drop (i0 + s0)).length = xs.length - (i0 + s0) := by rw [List.length_drop]
    have e4 : (ys.drop (j0 + s0)).length = ys.length - (j0 + s0) := by rw [List.length_drop]
    have hl7 : (xs.take i0).length < xs.length := by lia
    have hl8 : (xs.drop (i0 + s0)).length < xs.length := by lia
    k_dflt (refine' Calls.use (ih (xs' := xs.take i0) (ys := ys.take j0) (.tail _ (.head _)) (.head _) (hx.take _) (hy.take _) ?e1 ?e2 ?no) ?B ?F ?X ?N ?T ?hk ?hd ?hu ?_; (case e1 => lia); (case e2 => lia); (case B => k_asm); (case F => k_asm); (case X => k_asm); (case N => k_asm); (case no => exact NoIt.cons rfl (NoIt.cons rfl (NoIt.cons rfl hno))); (case T => k_asm); (case hk => exact rfl); (case hd => exact room_bl hd hl7); (case hu => exact units_bl hu hl7))
    rintro v nx' h11 tk11 F11 N11 ⟨r1, bs1, out1, nl1, rfl, rfl, gr1, hb1, hr1⟩
    k_steps
    refine Stop.go ?_
    rw [show ((a : Int) + (i0 : Int) + (s0 : Int)) = ((a + i0 + s0 : Nat) : Int) by lia, show ((b : Int) + (j0 : Int) + (s0 : Int)) = ((b + j0 + s0 : Nat) : Int) by lia]
    have hx2 : IntsAre (vs.drop ((i0 : Int) + (s0 : Int)).toNat) (xs.drop (i0 + s0)) := by rw [show ((i0 : Int) + (s0 : Int)).toNat = i0 + s0 by lia]; exact hx.drop _
    have hy2 : IntsAre (us.drop ((j0 : Int) + (s0 : Int)).toNat) (ys.drop (j0 + s0)) := by rw [show ((j0 : Int) + (s0 : Int)).toNat = j0 + s0 by lia]; exact hy.drop _
    have f1 := hr1.facts.2.2
    have f1' : bs1.length ≤ 100 := by rw [hb1.1, List.length_map]; lia
    k_dflt (refine' Calls.use (ih (xs' := xs.drop (i0 + s0)) (ys := ys.drop (j0 + s0)) (.tail _ (.head _)) (.head _) hx2 hy2 ?e1 ?e2 ?no) ?B ?F ?X ?N ?T ?hk ?hd ?hu ?_; (case e1 => lia); (case e2 => lia); (case B => k_asm); (case F => k_asm); (case X => k_asm); (case N => k_asm); (case no => exact NoIt.cons rfl (NoIt.cons rfl (NoIt.cons rfl (NoIt.append (fun p hp => gr1.1 p (.tail _ hp)) (NoIt.cons rfl (NoIt.cons rfl (NoIt.cons rfl hno))))))); (case T => k_asm); (case hk => exact rfl); (case hd => exact room_bl hd hl8); (case hu => exact units_bl hu hl8))
    rintro v nx' h12 tk12 F12 N12 ⟨r2, bs2, out2, nl2, rfl, rfl, gr2, hb2, hr2⟩
    have f2 := hr2.facts.2.2
    have f2' : bs2.length ≤ 100 := by rw [hb2.1, List.length_map]; lia
    k_steps
    rename (Fr h₀ L _ m) => kF
    rename (News h₀ L _ _) => kN
    rename (_ < _ ∧ _ < _ ∧ _ < _ ∧ _ < _ ∧ AllLt _ _) => lD
    rename (r2 < _ ∧ AllLt _ _) => lI
    obtain ⟨k1, k2⟩ := blocks_end kN lD lI gr1 gr2 rfl rfl
    exact hret _ _ _ _ kF k1 ⟨_, _, out1 ++ (i0, j0, s0) :: out2.map (shift (i0 + s0) (j0 + s0)), _, rfl, rfl, k2, bs_end hb1 hb2 rfl rfl rfl, RB.node hlong (by lia) hr1 hr2⟩
theorem c_blocks {jk : Option Int} {tj : Tok} : ∀ (N : Nat) {news : Led} {p q : Addr} {vs us : List Value} {xs ys : List Int} {n k : Nat} {a b : Nat} {ta tb : Tok} (_ : (p, listOf vs.toArray n) ∈ news) (_ : (q, listOf us.toArray k) ∈ news) (_ : IntsAre vs xs) (_ : IntsAre us ys)
    (_ : xs.length < N) (_ : N ≤ 101) (_ : ys.length ≤ 100) {ex : List Addr} (_ : NoIt ex news),
    Calls w mean mg mb 270 [.ref p, .ref q, .int a ta, .int b tb, jv jk tj] (xs.length + 4) news (BlRet news jk xs ys a b)
  | 0, _, _, _, _, _, _, _, _, _, _, _, _, _, _, _, _, _, h, _, _, _, _ => absurd h (Nat.not_lt_zero _)
  | N + 1, news, p, q, vs, us, xs, ys, n, k, a, b, ta, tb, hp, hq, hx, hy, h, hN, hl2, ex, hno =>
    c_blocks_step hp hq hx hy (by lia) hl2 hno fun hp hq hx hy hl hl2 _ hno => c_blocks N hp hq hx hy (by lia) (by lia) hl2 hno
end
theorem getItem_led {prog : Program} {w : World} {A : Around} {E : Value → Shared → Prop} {s : Shared} {h₀ : Heap} {L : Addr} {news : Led} {l : Addr} {vs : List Value} {n : Nat} {k : Int} {u : Tok} {v : Value} {Q : Value → Shared → Prop} (N : News h₀ L s.heap news) (hm : (l, listOf vs.toArray n) ∈ news)
    (h0 : 0 ≤ k) (hhi : k < 2 ^ 63) (hx : vs[k.toNat]? = some v) (h : Q v s) : wpAny (model prog w) A (getItem (.ref l) (.int k u)) Q E s := wpAny_getItem_list (News.isList N hm) h0 hhi (by simpa using hx) h
local macro_rules | `(tactic| k_mem) => `(tactic| ((repeat (first | assumption | exact List.Mem.head _ | refine' List.Mem.tail _ ?_ | refine' List.mem_append_right _ ?_)); done))
local macro_rules | `(tactic| k_all) => `(tactic| assumption)
local macro_rules | `(tactic| walk_at $s:str) => `(tactic| k_extra $s)
theorem kreg4 : True := by
  k_with_none
  k_with "eval BinOp" => ((try clear qF0b); (fail_if_success (have hq9 := @qF0b)); refine fold_Q ?_; intro qF0b; walk_at "eval BinOp")
  k_with "eval BinOp" => ((try clear qF0); (fail_if_success (have hq9 := @qF0)); refine fold_Q ?_; intro qF0; walk_at "eval BinOp")
  k_with "isTrue Compare" => ((try clear qF1); (fail_if_success (have hq9 := @qF1)); refine fold_Q ?_; intro qF1; walk_at "isTrue Compare")
  k_with "eval Subscript" => ((try clear qF2b); (fail_if_success (have hq9 := @qF2b)); refine fold_Q ?_; intro qF2b; walk_at "eval Subscript")
  k_with "eval Subscript" => ((try clear qF2); (fail_if_success (have hq9 := @qF2)); refine fold_Q ?_; intro qF2; walk_at "eval Subscript")
  k_with "eval Call" => ((try clear qF3b); (fail_if_success (have hq9 := @qF3b)); refine fold_Q ?_; intro qF3b; walk_at "eval Call")
  k_with "eval Call" => ((try clear qF3); (fail_if_success (have hq9 := @qF3)); refine fold_Q ?_; intro qF3; walk_at "eval Call")
  k_with "eval Tuple" => ((try clear qF4); (fail_if_success (have hq9 := @qF4)); refine fold_Q ?_; intro qF4; walk_at "eval Tuple")
  k_with "exec Assign" => ((try clear qF5); (fail_if_success (have hq9 := @qF5)); refine fold_Q ?_; intro qF5; walk_at "exec Assign")
  k_with "exec AugAssign" => ((try clear qF6); (fail_if_success (have hq9 := @qF6)); refine fold_Q ?_; intro qF6; walk_at "exec AugAssign")
  k_with "eval Attribute Name" => ((try clear qF7); (fail_if_success (have hq9 := @qF7)); refine fold_Q ?_; intro qF7; walk_at "eval Attribute Name")
  k_with "isTrue BoolOp" => ((try clear qF8); (fail_if_success (have hq9 := @qF8)); refine fold_Q ?_; intro qF8; walk_at "isTrue BoolOp")
  k_with "exec If" => ((try clear qF9); (fail_if_success (have hq9 := @qF9)); refine fold_Q ?_; intro qF9; walk_at "exec If")
  k_with "eval Compare" => ((try clear qF10); (fail_if_success (have hq9 := @qF10)); refine fold_Q ?_; intro qF10; walk_at "eval Compare")
  k_with "eval Call Attribute" => ((try clear qF11); (fail_if_success (have hq9 := @qF11)); refine fold_Q ?_; intro qF11; walk_at "eval Call Attribute")
  k_with "eval List" => ((try clear qF12); (fail_if_success (have hq9 := @qF12)); refine fold_Q ?_; intro qF12; walk_at "eval List")
  k_with "exec Expr" => ((try clear qF13); (fail_if_success (have hq9 := @qF13)); refine fold_Q ?_; intro qF13; walk_at "exec Expr")
  k_with "exec Return some" => ((try clear qF14); (fail_if_success (have hq9 := @qF14)); refine fold_Q ?_; intro qF14; walk_at "exec Return some")
  k_with "pyIter ref" => (refine Stop.of ?_)
  k_with "exec While" => (refine Stop.of ?_)
  k_with "Turn" => (first | refine turn_brk ?_ | refine turn_ret ?_ | refine Stop.of ?_)
  k_with "WStep" => (first | refine wstep_brk ?_ | refine wstep_ret ?_ | refine Stop.of ?_)
  k_with "call builtin:len" => (k_here; (with_reducible show wpAny _ _ (call (Value.builtin "len") [Value.ref _]) _ _ _); k_dflt (refine' len_led (by k_asm) (by k_mem) (by (simp only [List.size_toArray] <;> lia)) ?_; k_whole))
  k_with "subscriptTail" => (k_here; (with_reducible show wpAny _ _ (subscriptTail _ _ (Value.ref _) (Value.int _ _)) _ _ _); k_dflt (refine' item_cs (by k_asm) (by k_mem) (by assumption) (by lia) (by lia) (by lia) ?_); intro _)
  k_with "WExit" => (refine Stop.of ?_)
  k_with "CompSrc" => (refine Stop.of ?_)
  k_with "CompEnd" => (refine Stop.of ?_)
  k_with "binaryOp Add ref ref" => (k_here; (with_reducible show wpAny _ _ (binaryOp _ (Value.ref _) (Value.ref _)) _ _ _); k_dflt (refine' cat_led (by k_asm) (by k_asm) (by k_mem) (by k_mem) ?_ (by (simp only [List.length_append, List.length_drop, List.length_take, List.length_cons, List.length_nil]; lia))); intro _ _ _ _ xl9; (try k_lt xl9); (try (revert xl9; intro _)))
  k_with "subscriptTail Name Slice ref ref" => (k_here; (with_reducible show wpAny _ _ (subscriptTail _ (PySem.Expr.Slice _ _ none _) (Value.ref _) (Value.ref _)) _ _ _); k_dflt (first | refine' slice_from (by k_asm) (by k_asm) (by k_dflt k_mem) (by lia) (by lia) ?_ (by with_unfolding_all rfl) (by kmk_pure) | refine' slice_upto (by k_asm) (by k_asm) (by k_dflt k_mem) (by lia) (by lia) ?_ (by with_unfolding_all rfl) (by kmk_pure)); intro _ _ _ _ xl9; (try k_lt xl9); (try (revert xl9; intro _)))
  k_with "call ref" => (refine Stop.of ?_)
  k_with "subscriptTail" => (k_here; (with_reducible show wpAny _ _ (subscriptTail _ _ (Value.ref _) (Value.int _ _)) _ _ _); k_dflt (refine' item_ints (by k_asm) (by k_mem) (by assumption) (by lia) (by lia) (by lia) ?_); intro _)
  k_with "assign Tuple cons ref" => (k_here; (with_reducible show wpAny _ _ (assign (Expr.Tuple _ _ _) _ (Value.ref _)) _ _ _); k_dflt (refine' unpackN_list (by k_asm) (by k_asm) (by k_mem) (by exact rfl) (by exact rfl) (by exact rfl) ?_); intro _ _ _)
  k_with "compareOp NotEq ref ref" => (refine Stop.of ?_)
  k_with "subscriptTail" => (k_here; (with_reducible show wpAny _ _ (subscriptTail _ _ (Value.ref _) (Value.int _ _)) _ _ _); k_dflt (refine' item_led (by k_asm) (by k_mem) (by decide) (by decide) (by exact rfl) ?_))
  k_with "subscriptTail" => (k_here; (with_reducible show wpAny _ _ (subscriptTail _ _ (Value.ref _) (Value.int (-1) _)) _ _ _); k_dflt (refine' item_last (by k_asm) (by k_mem) (by lia) ?_))
  k_with "getItem ref int" => (k_here; k_dflt (refine' getItem_led (by k_asm) (by k_mem) (by decide) (by decide) (by exact rfl) ?_))
  k_with "setItem ref int" => (refine Stop.of ?_)
  k_with "call builtin:list.append" => (refine Stop.of ?_)
  k_with "ite" => (first | with_reducible refine ite_tt ?_ | with_reducible refine ite_ff ?_ | (with_reducible refine split_ine ?_ ?_ <;> intro _) | (with_reducible refine split_ieq ?_ ?_ <;> intro _) | (refine split_dec ?_ ?_ <;> intro _))
  k_with "execs cons" => (dsimp only; walk_at "execs cons")
  k_with "execs nil" => (dsimp only; walk_at "execs nil")
  trivial
section
variable {w : World} {mean : ExcName → Option Value} {mg mb : Str → Option Value}
noncomputable def Hide (P : Prop) : Prop := P
theorem turn_app {nlD : Led} {ds : List Value} {ts out : List Tri} {b : Addr} {R : Led} {u1 u2 u3 : Tok} {x y z : Nat} (hB : BlkL nlD ds ts) (ho : ∀ p ∈ nlD, ∀ q ∈ R, q.1 < p.1) (hl : ∀ p ∈ nlD, p.1 < b) (hR : ∀ q ∈ R, q.1 < b) (e : ts ++ [(x, y, z)] = out) :
    BlkL ((b, listOf [Value.int (x : Int) u1, .int (y : Int) u2, .int (z : Int) u3].toArray 0) :: nlD) (ds ++ [.ref b]) out ∧ (∀ p ∈ (b, listOf [Value.int (x : Int) u1, .int (y : Int) u2, .int (z : Int) u3].toArray 0) :: nlD, ∀ q ∈ R, q.1 < p.1) := by
  subst e
  refine ⟨.snoc hB hl, fun p hp q hq => ?_⟩
  rcases List.mem_cons.mp hp with rfl | hp
  · exact hR q hq
  · exact ho p hp q hq
theorem turn_perm {pb pe pI pD : Addr × Obj} {nlD rest : Led} : ∀ q ∈ [pI] ++ (pD :: ((pb :: nlD) ++ rest)), q ∈ pb :: pe :: pI :: pD :: (nlD ++ rest) := fun q hq => by
  simp only [List.mem_cons, List.mem_append, List.singleton_append] at hq ⊢
  rcases hq with h | h | (h | h) | h <;> simp [h]
theorem due_sub {nlD nl news : Led} {pD p2 p1 pd pr q : Addr × Obj} (hq : q ∈ pD :: ((p1 :: nlD) ++ news)) : q ∈ pD :: p2 :: p1 :: pd :: (nlD ++ pr :: (nl ++ news)) := by
  simp only [List.mem_cons, List.mem_append] at hq ⊢
  rcases hq with h | (h | h) | h <;> simp [h]
theorem due_grow {nlD nl news : Led} {pD p1 pr : Addr × Obj} (hn : ∀ p ∈ nlD, noIt p.2 = true) (h1 : noIt pD.2 = true) (h2 : noIt p1.2 = true) (lD : AllLt pD.1 (nlD ++ pr :: (nl ++ news))) (lB : AllLt p1.1 (nlD ++ pr :: (nl ++ news)))
    (ho : ∀ q ∈ news, ∀ r ∈ nlD, q.1 < r.1) : Grow news (pD :: (p1 :: nlD)) := by
  refine ⟨fun q hq => ?_, fun q hq r hr => ?_⟩
  · rcases List.mem_cons.mp hq with rfl | hq
    · exact h1
    · rcases List.mem_cons.mp hq with rfl | hq
      · exact h2
      · exact hn q hq
  · have m1 : q ∈ nlD ++ pr :: (nl ++ news) := List.mem_append_right _ (.tail _ (List.mem_append_right _ hq))
    rcases List.mem_cons.mp hr with rfl | hr
    · exact allLt_mem lD q m1
    · rcases List.mem_cons.mp hr with rfl | hr
      · exact allLt_mem lB q m1
      · exact ho q hq r hr
theorem due_end {nlD : Led} {ds : List Value} {ts us : List Tri} {a : Addr} {x y z : Int} {i j k : Nat} {t1 t2 t3 : Tok} (h : BsAre nlD ds ts) (e : ts = us) (hx : x = i) (hy : y = j) (hz : z = k) :
    BsAre ((a, listOf [Value.int x t1, .int y t2, .int z t3].toArray 0) :: nlD) (ds ++ [.ref a]) (us ++ [(i, j, k)]) := by
  subst e
  exact (h.mono fun p hp => .tail _ hp).append (BsAre.one (.head _) hx hy hz)
inductive RDue (news : Led) (jk : Option Int) (xs ys : List Int) (v : Value) (news' : Led) : Prop
  | mk (r : Addr) (bs : List Value) (out : List Tri) (nl : Led) (h1 : v = .ref r) (h2 : news' = (r, listOf bs.toArray 0) :: (nl ++ news)) (h3 : Grow news ((r, listOf bs.toArray 0) :: nl)) (h4 : RB jk xs ys out) (h5 : BsAre nl bs (due out ++ [(xs.length, ys.length, 0)])) : RDue news jk xs ys v news'
inductive JDue (news nl : Led) (D0 r1 p q : Addr) (bs1 : List Value) (out : List Tri) (i : Nat) (m : Str → Option Value) (nx : Led) : Prop
  | mk (nlD : Led) (ds : List Value) (ts : List Tri) (n : Nat) (h1 : nx = (D0, listOf ds.toArray n) :: (nlD ++ (r1, listOf bs1.toArray 0) :: (nl ++ news))) (h2 : BlkL nlD ds ts) (h3 : (∀ p ∈ nlD, ∀ q ∈ (D0, listOf [].toArray 0) :: (r1, listOf bs1.toArray 0) :: (nl ++ news), q.1 < p.1)) (h4 : ts = (out.take i).foldl join []) (h5 : ts.length ≤ i) (h6 : Has m [(Str.ofString "due", .ref D0), (Str.ofString "one", .ref p), (Str.ofString "two", .ref q)]) : JDue news nl D0 r1 p q bs1 out i m nx
theorem c_due {news : Led} {p q : Addr} {vs us : List Value} {xs ys : List Int} {n k : Nat} {jk : Option Int} {tj : Tok} (hp : (p, listOf vs.toArray n) ∈ news) (hq : (q, listOf us.toArray k) ∈ news) (hx : IntsAre vs xs) (hy : IntsAre us ys)
    (hl1 : xs.length ≤ 100) (hl2 : ys.length ≤ 100) {ex : List Addr} (hno : NoIt ex news) :
    Calls w mean mg mb 277 [.ref p, .ref q, jv jk tj] (xs.length + 20) news (RDue news jk xs ys) := by
  w_on
  have hvl := hx.length
  have hul := hy.length
  unfold Calls
  k_fill
  intro dp un gd cn csc aa ccd cl outer A₀ base h₀ L m s Q E B F X N T hk hd hu hret
  refine wpAny_call ?_
  k_dflt (refine' code_def (scope := Scope.mk _ _ _ _ _) (params := Arguments.mk _ _ _ _ _ _ _) (body := _ :: _) (binds := [(Str.ofString "one", Value.ref p), (Str.ofString "two", Value.ref q), (Str.ofString "junk", jv jk tj)]) ?k1 ?k2 ?k3 ?k4 ?k5 ?kA ?kF ?kK ?k6 ?k7 ?k8 ?k9 ?kB ?_ ?c2 ?c3 ?c4 ?c5; (case kA => exact rfl); (case kF => exact rfl); (case kK => assumption); (case k1 => k_asm); (case k2 => k_asm); (case k3 => k_asm); (case k4 => k_asm); (case k5 => k_asm); (case k6 => exact rfl); (case k7 => k_is); (case k8 => first | exact room0 hd | ktr_room); (case k9 => exact BindsTo.of_eq rfl); (case c5 => decide); (case kB => exact locs rfl); (case c2 => exact rfl); (case c3 => exact rfl); (case c4 => exact rfl); k_whole; intro g' L' h' FG' F' N' B' X' T'; (try dsimp only); (try k_fold); refine fold_A ?_; intro AA; have hAu : AA.units = un + 3 := rfl; have hAd : AA.depth = dp + 1 := rfl; refine fold_env ?_; intro ee)
  k_steps
  rename (Fr _ _ _ _) => F1
  k_dflt (refine' For_turns F1 ?_)
  k_steps
  refine Stop.go ?_
  rename (News _ _ _ _) => N1
  rename (∀ p ∈ news, _) => l1
  k_dflt (refine' Calls.use (c_blocks 101 (a := 0) (b := 0) (jk := jk) (tj := tj) (.tail _ hp) (.tail _ hq) hx hy (by lia) (by lia) hl2 ?no) ?B ?F ?X ?N ?T ?hk ?hd ?hu ?_; (case B => k_asm); (case F => k_asm); (case X => k_asm); (case N => k_asm); (case no => exact NoIt.cons rfl hno); (case T => k_asm); (case hk => exact rfl); (case hd => first | exact room1 hd (by decide) | ktr_room); (case hu => first | exact units1 hu (by decide) | ktr_units))
  rintro v nx' h11 tk11 F11 N11 ⟨r1, bs1, out, nl, rfl, rfl, gr, hb, hr⟩
  have hfacts := hr.facts
  have hbl : bs1.length = out.length := by rw [hb.1, List.length_map]
  rename_i D0 _ _
  have hrest : ∀ q ∈ (r1, listOf bs1.toArray 0) :: (nl ++ news), q.1 ≠ D0 := fun q hq => by
    rcases List.mem_cons.mp hq with rfl | hq
    · exact Nat.ne_of_gt (gr.2 _ (.head _) _ (.head _))
    · rcases List.mem_append.mp hq with hq | hq
      · exact Nat.ne_of_gt (gr.2 _ (.head _) _ (.tail _ hq))
      · exact Nat.ne_of_lt (l1 q hq)
  have hno' : NoIt ex ((r1, listOf bs1.toArray 0) :: (nl ++ news)) := NoIt.append (a := (r1, listOf bs1.toArray 0) :: nl) gr.1 hno
  replace N11 := News.sub (b := (D0, listOf [].toArray 0) :: ([] ++ (r1, listOf bs1.toArray 0) :: (nl ++ news))) N11 (fun q hq => by
    simp only [List.mem_cons, List.mem_append, List.nil_append] at hq ⊢
    rcases hq with h | h | h | h <;> simp [h])
  refine turns_list ex (JDue news nl D0 r1 p q bs1 out)
    rfl F11 N11 (.tail _ (.head _)) ?hk ?hc ?hj ?turn ?done
  case hk =>
    rintro i m nx ⟨nlD, ds, ts, n, rfl, _⟩
    exact .tail _ (List.mem_append_right _ (.head _))
  case hc => exact NoIt.cons rfl hno'
  case hj => exact ⟨[], [], [], 0, rfl, BlkL.nil, fun p hp => (nomatch hp), rfl, Nat.le_refl _, ⟨rfl, rfl, rfl, trivial⟩⟩
  case done =>
    rintro m₁ nx h tk ⟨nlD, ds, ts, n, rfl, hB, hord, hts, htl, hm⟩ hno1 F5 N5
    replace F5 := Fr.has _ F5 hm
    have hdl := hB.bs.1
    have := hr.facts.2.2
    try k_fold
    k_steps
    rename (Fr h₀ L _ m) => kF
    rename (News h₀ L _ _) => kN
    rename (_ < _ ∧ _ < _ ∧ D0 < _ ∧ AllLt _ _) => lD
    rename (_ < _ ∧ D0 < _ ∧ AllLt _ _) => lC
    rename (D0 < _ ∧ AllLt _ _) => lB
    exact hret _ _ _ _ kF (News.sub kN fun q hq => due_sub hq) ⟨_, _, out, _, rfl, rfl, due_grow hB.noIt rfl rfl lD.2.2.2 lB.2 (fun q hq r hr => hord r hr q (.tail _ (.tail _ (List.mem_append_right _ hq)))), hr, due_end hB.bs (by rw [hts, hbl, List.take_length]; rfl) (by rw [List.size_toArray, hvl]) (by rw [List.size_toArray, hul]) rfl⟩
  case turn =>
    rintro i v m₁ nx I it h tk hv ⟨nlD, ds, ts, n, rfl, hB, hord, hts, htl, hm⟩ hno1 F5 N5 hI
    have hil : i < out.length := by rw [← hbl]; exact (List.getElem?_eq_some_iff.mp hv).1
    obtain ⟨⟨x, y, z⟩, ht⟩ : ∃ t, out[i]? = some t := ⟨_, List.getElem?_eq_getElem hil⟩
    obtain ⟨a1, u1, u2, u3, hv1, ha1⟩ := hb.2 i (shift 0 0 (x, y, z)) (by rw [List.getElem?_map, ht]; rfl)
    rw [hv1] at hv
    cases hv
    have hmem : (a1, listOf [Value.int (x : Int) u1, .int (y : Int) u2, .int (z : Int) u3].toArray 0) ∈ nl ++ news := List.mem_append_left _ ha1
    have hnext : (out.take (i + 1)).foldl join [] = join ts (x, y, z) := by rw [List.take_add_one, ht, hts]; simp
    have hdl := hB.bs.1
    have hdz0 : ∀ (k : List Value) (k' : List Value) (ts : List Tri), k'.length = k.length + 1 → k'.length = ts.length → ts.length ≤ i → i < out.length → k.length ≤ 10000 := fun k k' ts a b c d => by have := hr.facts.2.2; lia
    have hl := hr.facts.2.2
    have hxz : x + z ≤ xs.length := (hr.le _ (List.mem_of_getElem? ht)).1
    have hyz : y + z ≤ ys.length := (hr.le _ (List.mem_of_getElem? ht)).2
    have htle : ∀ u ∈ ts, TLe xs.length ys.length u := hts ▸ fold_le _ _ (fun u hu => hr.le u (List.mem_of_mem_take hu)) (fun _ h => nomatch h)
    replace F5 := Fr.has _ F5 hm
    have hDI : @Ne Nat D0 I := hI _ (.head _)
    clear hv1 ht ha1 hfacts hbl hm
    clear hr gr
    try k_fold
    cases hB with
    | nil =>
      k_steps
      refine Stop.go ?_
      rename (News _ _ _ _) => N6
      rename (I < _ ∧ D0 < _ ∧ AllLt _ _) => l2
      refine ne_tris (ts := []) (us := []) N6 (.tail _ (.tail _ (.head _))) (.head _) BsAre.nil BsAre.nil ?hu ?_
      case hu => first | exact units2 hu (by decide) | ktr_units
      k_steps
      refine Stop.go ?_
      rename (_ < _ ∧ _ < _ ∧ D0 < _ ∧ AllLt _ _) => l3
      rename (Fr _ _ _ _) => F7
      rename (News _ _ _ _) => N7
      refine append_K F7 N7 (Upd.tail (Nat.ne_of_gt l3.2.2.1) (Upd.tail (Nat.ne_of_gt l2.2.1) (Upd.tail (Ne.symm hDI) (Upd.head hrest)))) (fun h9 F9 N9 => ?_) (Nat.zero_le _)
      k_steps
      refine Stop.go ?_
      obtain ⟨c1, c2⟩ := turn_app (u1 := u1) (u2 := u2) (u3 := u3) (R := (D0, listOf [].toArray 0) :: (r1, listOf bs1.toArray 0) :: (nl ++ news)) BlkL.nil (fun _ h => nomatch h) (fun _ h => nomatch h) (List.forall_mem_cons.mpr ⟨l3.2.2.1, allLt_mem l3.2.2.2⟩) (out := [(x, y, z)]) rfl
      exact Turn.next F9 (News.sub N9 turn_perm) (NoIt.cons rfl (NoIt.cons rfl hno')) ⟨_, _, _, _, rfl, c1, c2, by rw [hnext, join_nil], by simp, ⟨rfl, rfl, rfl, trivial⟩⟩
    | snoc hB' hlt =>
      rename_i nlD ds ts a2 x2 y2 z2 q1 q2 q3
      have hdz : ds.length ≤ 10000 := hdz0 ds _ _ (by simp) hdl htl hil
      have hxz2 : x2 + z2 ≤ xs.length := (htle _ (List.mem_append_right _ (.head _))).1
      have hyz2 : y2 + z2 ≤ ys.length := (htle _ (List.mem_append_right _ (.head _))).2
      have hD2 : @LT.lt Nat _ D0 a2 := hord _ (.head _) _ (.head _)
      have h2I : @Ne Nat a2 I := hI _ (.tail _ (.head _))
      have hr2 : ∀ q ∈ nlD ++ (r1, listOf bs1.toArray 0) :: (nl ++ news), q.1 ≠ a2 := fun q hq => by
        rcases List.mem_append.mp hq with hq | hq
        · exact Nat.ne_of_lt (hlt q hq)
        · exact Nat.ne_of_lt (hord _ (.head _) q (.tail _ hq))
      have hid : Hide (BlkL nlD ds ts ∧ (∀ p ∈ nlD, p.1 < a2) ∧ join (ts ++ [(x2, y2, z2)]) (x, y, z) = List.foldl join [] (List.take (i + 1) out) ∧ (ts ++ [(x2, y2, z2)]).length ≤ i) := ⟨hB', hlt, hnext.symm, htl⟩
      have hrD : ∀ q ∈ nlD ++ (r1, listOf bs1.toArray 0) :: (nl ++ news), q.1 ≠ D0 := fun q hq => by
        rcases List.mem_append.mp hq with hq | hq
        · exact Nat.ne_of_gt (hord q (.tail _ hq) _ (.head _))
        · exact hrest q hq
      have hord' : Hide (∀ p ∈ (a2, listOf [Value.int (x2 : Int) q1, .int (y2 : Int) q2, .int (z2 : Int) q3].toArray 0) :: nlD, ∀ q ∈ (D0, listOf [].toArray 0) :: (r1, listOf bs1.toArray 0) :: (nl ++ news), q.1 < p.1) := hord
      have hBs := (BlkL.snoc (t1 := q1) (t2 := q2) (t3 := q3) (x := x2) (y := y2) (z := z2) hB' hlt).bs
      clear hnext hts htle hord hlt hB' hl htl hdl hdz0 hil
      k_steps
      refine Stop.go ?_
      rename (News _ _ _ _) => N6
      refine ne_tris (ts := ts ++ [(x2, y2, z2)]) (us := []) N6 (.tail _ (.tail _ (.head _))) (.head _) (hBs.mono fun p hp => .tail _ (.tail _ (.tail _ (List.mem_append_left _ hp)))) BsAre.nil ?hu ?_
      case hu => first | exact units2 hu (by decide) | ktr_units
      rw [show (!decide (ts ++ [(x2, y2, z2)] = [])) = true by simp]
      k_steps
      · refine Stop.go ?_
        rename (Fr _ _ _ _) => F7
        rename (News _ _ _ _) => N7
        rename (I < _ ∧ D0 < _ ∧ AllLt _ _) => l2
        rename ((x2 : Int) + z2 = _) => e1
        rename ((y2 : Int) + z2 = _) => e2
        have l22 : @LT.lt Nat _ a2 _ := l2.2.2.1
        refine ksa_set (ns := [(x2 : Int), y2, z2]) F7 N7 (Upd.tail (Nat.ne_of_gt l22) (Upd.tail (Ne.symm h2I) (Upd.tail (Nat.ne_of_lt hD2) (Upd.head hr2)))) (.cons _ _ (.cons _ _ (.cons _ _ .nil))) (by decide) (by simp) (by decide) ?_
        intro h9 F9 N9 hi9 hl9 hs9
        k_steps
        refine Stop.go ?_
        obtain ⟨hB', hlt, hj, htl⟩ := hid
        rw [join_snoc, if_pos ⟨by show x2 + z2 = x; lia, by show y2 + z2 = y; lia⟩] at hj
        have ho2 : ∀ o : Obj, ∀ p ∈ (a2, o) :: nlD, ∀ q ∈ (D0, listOf [].toArray 0) :: (r1, listOf bs1.toArray 0) :: (nl ++ news), q.1 < p.1 := fun o p hp q hq => by
          rcases List.mem_cons.mp hp with rfl | hp
          · exact hord' _ (.head _) q hq
          · exact hord' p (.tail _ hp) q hq
        exact Turn.next F9 (News.drop1 N9) (NoIt.cons rfl (NoIt.cons rfl (NoIt.append hB'.noIt hno'))) ⟨(a2, listOf [Value.int (x2 : Int) q1, .int (y2 : Int) q2, .int ((z2 + z : Nat) : Int) _].toArray 0) :: nlD, _, _, _, rfl, BlkL.snoc hB' hlt, fun p hp => ho2 _ p hp, hj, by simpa using Nat.le_succ_of_le htl, ⟨rfl, rfl, rfl, trivial⟩⟩
      · refine Stop.go ?_
        rename (_ < _ ∧ I < _ ∧ D0 < _ ∧ AllLt _ _) => l3
        rename (I < _ ∧ D0 < _ ∧ AllLt _ _) => l2
        rename ((y2 : Int) + z2 ≠ _) => e1
        rename (Fr _ _ _ _) => F7
        rename (News _ _ _ _) => N7
        refine append_K F7 N7 (Upd.tail (Nat.ne_of_gt l3.2.2.1) (Upd.tail (Nat.ne_of_gt l2.2.1) (Upd.tail (Ne.symm hDI) (Upd.head (List.forall_mem_cons.mpr ⟨Nat.ne_of_gt hD2, hrD⟩))))) (fun h9 F9 N9 => ?_) (by rw [PySem.sizeLine_eq, List.size_toArray, List.length_append, List.length_singleton]; lia)
        rw [List.push_toArray] at N9
        k_steps
        refine Stop.go ?_
        obtain ⟨hB', hlt, hj, htl⟩ := hid
        rw [join_snoc, if_neg (fun c => by have c1 : x2 + z2 = x := c.1; have c2 : y2 + z2 = y := c.2; lia)] at hj
        have l33 := allLt_mem l3.2.2.2
        obtain ⟨c1, c2⟩ := turn_app (u1 := u1) (u2 := u2) (u3 := u3) (R := (D0, listOf [].toArray 0) :: (r1, listOf bs1.toArray 0) :: (nl ++ news)) (BlkL.snoc (t1 := q1) (t2 := q2) (t3 := q3) hB' hlt) hord' (fun p hp => l33 p (List.mem_append_left _ hp)) (List.forall_mem_cons.mpr ⟨l3.2.2.1, fun p hp => l33 p (List.mem_append_right _ hp)⟩) hj
        exact Turn.next F9 (News.sub N9 turn_perm) (NoIt.cons rfl (NoIt.append c1.noIt hno')) ⟨_, _, _, _, rfl, c1, c2, rfl, by rw [← hj]; simpa using htl, ⟨rfl, rfl, rfl, trivial⟩⟩
      · refine Stop.go ?_
        rename (_ < _ ∧ I < _ ∧ D0 < _ ∧ AllLt _ _) => l3
        rename (I < _ ∧ D0 < _ ∧ AllLt _ _) => l2
        rename ((x2 : Int) + z2 ≠ _) => e1
        rename (Fr _ _ _ _) => F7
        rename (News _ _ _ _) => N7
        refine append_K F7 N7 (Upd.tail (Nat.ne_of_gt l3.2.2.1) (Upd.tail (Nat.ne_of_gt l2.2.1) (Upd.tail (Ne.symm hDI) (Upd.head (List.forall_mem_cons.mpr ⟨Nat.ne_of_gt hD2, hrD⟩))))) (fun h9 F9 N9 => ?_) (by rw [PySem.sizeLine_eq, List.size_toArray, List.length_append, List.length_singleton]; lia)
        rw [List.push_toArray] at N9
        k_steps
        refine Stop.go ?_
        obtain ⟨hB', hlt, hj, htl⟩ := hid
        rw [join_snoc, if_neg (fun c => by have c1 : x2 + z2 = x := c.1; have c2 : y2 + z2 = y := c.2; lia)] at hj
        have l33 := allLt_mem l3.2.2.2
        obtain ⟨c1, c2⟩ := turn_app (u1 := u1) (u2 := u2) (u3 := u3) (R := (D0, listOf [].toArray 0) :: (r1, listOf bs1.toArray 0) :: (nl ++ news)) (BlkL.snoc (t1 := q1) (t2 := q2) (t3 := q3) hB' hlt) hord' (fun p hp => l33 p (List.mem_append_left _ hp)) (List.forall_mem_cons.mpr ⟨l3.2.2.1, fun p hp => l33 p (List.mem_append_right _ hp)⟩) hj
        exact Turn.next F9 (News.sub N9 turn_perm) (NoIt.cons rfl (NoIt.append c1.noIt hno')) ⟨_, _, _, _, rfl, c1, c2, rfl, by rw [← hj]; simpa using htl, ⟨rfl, rfl, rfl, trivial⟩⟩
end
section
theorem kreg5 : True := by
  k_with "binaryOp Add ref ref" => (refine Stop.of ?_)
  k_with "call type:range" => ((with_unfolding_all refine range1_rows (by with_reducible assumption) (by with_reducible assumption) ?_); intro _ _ _ _ _ _ _ _ _)
  trivial
variable {w : World} {mean : ExcName → Option Value} {mg mb : Str → Option Value}
theorem off1_mem {D : Addr} : ∀ {l : Led}, LCg.Off1 D l → ∀ p ∈ l, p.1 ≠ D
  | [], _, _, h => nomatch h
  | _ :: _, x, p, h => by
    rcases List.mem_cons.mp h with rfl | h
    · exact x.1
    · exact off1_mem x.2 p h
inductive JRow (news : Led) (L' A1 B1 sp : Addr) (oK : Obj) (i : Nat) (m : Str → Option Value) (nx : Led) : Prop
  | mk (us : List Value) (ws : List Value) (xs : List Int) (ys : List Int) (c : Nat) (d : Nat) (h1 : nx = (B1, listOf ws.toArray d) :: (A1, listOf us.toArray c) :: (L' + 1, oK) :: news) (h2 : IntsAre us xs) (h3 : IntsAre ws ys) (h4 : xs.length ≤ i) (h5 : ys.length ≤ i) (h6 : 2 * xs.length ≤ i + 1) (h7 : 2 * ys.length ≤ i) (h8 : Has m [(Str.ofString "one", .ref A1), (Str.ofString "two", .ref B1), (Str.ofString "script", .ref sp)]) : JRow news L' A1 B1 sp oK i m nx
inductive RRow (news : Led) (v : Value) (news' : Led) : Prop
  | mk (x : Addr) (p : Addr) (q : Addr) (us : List Value) (ws : List Value) (xs : List Int) (ys : List Int) (c : Nat) (d : Nat) (e : Nat) (h1 : v = .ref x) (h2 : news' = (x, ({ cls := .type "tuple", data := .seq #[.ref p, .ref q] c } : Obj)) :: (p, listOf us.toArray d) :: (q, listOf ws.toArray e) :: news) (h3 : IntsAre us xs) (h4 : IntsAre ws ys) (h5 : 5 ≤ xs.length) (h6 : xs.length ≤ 8) (h7 : 5 ≤ ys.length) (h8 : ys.length ≤ 8) (h9 : (∀ r ∈ news, r.1 ≠ x ∧ r.1 ≠ p ∧ r.1 ≠ q)) (h10 : @Ne Nat x p) (h11 : @Ne Nat x q) (h12 : @Ne Nat p q) : RRow news v news'
theorem c_rows {news : Led} {sp : Addr} {vs : List Value} {ns : List Int} (hv : IntsAre vs ns) (hl : ns.length ≤ 63) {ex : List Addr} (hno : NoIt ex news) :
  ∀ (dp un : Nat) (gd : Option (List Code)) (cn : Str) (cs : Scope) (a : Addr) (ccd : Value) (cl : List (Str × Addr)) (outer : List Env) (A₀ : Around) (base h₀ : Heap) (L : Addr) (m : Str → Option Value) (s : Shared) (Q E : Value → Shared → Prop),
    Below A₀ base outer h₀ → Fr h₀ L s.heap m → (KF w.params).In h₀ → News h₀ L s.heap news → Top topProg lQ mean mg mb h₀ → cs.kind = .function → dp + 10 < recursionLimit → un + 80 < cLine → h₀.IsList sp vs.toArray →
    (∀ v news' h' tk', Fr h₀ L h' m → News h₀ L h' news' → ((RRow news) v news') → Q v { s with heap := h', toks := tk' }) →
    wpAny (model (OpenLaw.prog PySem.Challenge.rw_pg0326_01) w) (ktrTop dp un gd cn cs L a ccd cl outer) (call (.ref 258) [.ref sp]) Q E s := by
  w_on
  k_fill
  intro dp un gd cn csc aa ccd cl outer A₀ base h₀ L m s Q E B F X N T hk hd hu hs hret
  refine wpAny_call ?_
  k_dflt (refine' code_defC (scope := Scope.mk _ _ _ _ _) (params := Arguments.mk _ _ _ _ _ _ _) (body := _ :: _) (binds := [(Str.ofString "script", Value.ref sp)]) ?k1 ?k2 ?k3 ?k4 ?k5 ?kA ?kF ?kK ?k6 ?k7 ?k8 ?k9 ?kB ?kD ?_ ?c2 ?c3 ?c4; (case kA => exact rfl); (case kF => exact rfl); (case kK => assumption); (case k1 => k_asm); (case k2 => k_asm); (case k3 => k_asm); (case k4 => k_asm); (case k5 => k_asm); (case k6 => exact rfl); (case k7 => k_is); (case k8 => first | exact room0 hd | ktr_room); (case k9 => exact BindsTo.of_eq rfl); (case kB => exact rfl); (case kD => decide +kernel); (case c2 => exact rfl); (case c3 => exact rfl); (case c4 => exact rfl); k_whole; intro g' L' h' tk' cells' FG' F' N' Y' B' X' T' l1; (try k_lt l1); k_cells Y'; (try simp only [List.cons_append, List.nil_append] at N'); (try dsimp only); (try k_lift B'); (try k_fold))
  rename_i oJ dJ
  replace dJ : oJ.data = .cell none := dJ
  generalize hmm : bindL _ _ _ = m0 at F'
  have hm0 : Has m0 [(Str.ofString "script", .ref sp)] := by subst hmm; exact ⟨rfl, trivial⟩
  clear hmm
  replace F' := Fr.has _ F' hm0
  refine fold_Q ?_
  intro qQ
  refine fold_E ?_
  intro eE
  refine fold_A ?_
  intro AA
  refine fold_env ?_
  intro ee
  have hs' : g'.IsList sp vs.toArray := by
    obtain ⟨o, h1, h2⟩ := hs
    exact ⟨o, FG'.keep _ _ h1, h2⟩
  have hvl := hv.length
  have hJ : ∀ q ∈ news, q.1 ≠ L' + 1 := fun q hq => Nat.ne_of_lt (Nat.lt_succ_of_lt (l1 q hq))
  k_steps
  refine Stop.go ?_
  rename (Fr g' L' _ _) => F1
  rename (News g' L' _ _) => N1
  rename (IsRange _ _ _ _ _ _ _ _) => R1
  rename (_ < _ ∧ _ < _ ∧ L' + 1 < _ ∧ AllLt _ news) => lD
  rename (_ < _ ∧ L' + 1 < _ ∧ AllLt _ news) => lB
  rename (L' + 1 < _ ∧ AllLt _ news) => lA
  rename_i q0 q1 q2 q3 oK dK A1 h9 B1 h10 C1 h11 h12 h13 h14 D1 ws1 h15 F3 N3 hI1 hC1 hL1 lE h16 tk2 t1 u1 v1 hup
  have hnoR : NoIt ex news := hno
  replace N1 := News.sub (b := (B1, listOf #[] 0) :: (A1, listOf #[] 0) :: (L' + 1, oK) :: news) N1 (fun q hq => .tail _ (.tail _ hq))
  refine loop_range ((L' + 1) :: ex) (JRow news L' A1 B1 sp oK) rfl R1 (by lia) F1 N1 ?hn ?hj ?turn ?done
  case hn => exact NoIt.cons rfl (NoIt.cons rfl (NoIt.own hno))
  case hj => exact ⟨[], [], [], [], 0, 0, rfl, .nil, .nil, Nat.le_refl _, Nat.le_refl _, by simp, by simp, rfl, rfl, rfl, trivial⟩
  case turn =>
    rintro i t m₁ nx I it h tk hi ⟨us, ws, xs, ys, c, d, rfl, hxs, hys, l2, l3, l4, l5, hm⟩ hno1 F5 N5 hI
    replace F5 := Fr.hasX _ F5 hm
    have hub : ∀ r ∈ (L' + 1, oK) :: news, r.1 ≠ A1 := List.forall_mem_cons.mpr ⟨Nat.ne_of_lt lA.1, fun r hr => Nat.ne_of_lt (allLt_mem lA.2 r hr)⟩
    have hub2 : ∀ r ∈ (A1, listOf us.toArray c) :: (L' + 1, oK) :: news, r.1 ≠ B1 := List.forall_mem_cons.mpr ⟨Nat.ne_of_lt lB.1, List.forall_mem_cons.mpr ⟨Nat.ne_of_lt lB.2.1, fun r hr => Nat.ne_of_lt (allLt_mem lB.2.2 r hr)⟩⟩
    have hAI : @Ne Nat A1 I := hI _ (.tail _ (.head _))
    have hBI : @Ne Nat B1 I := hI _ (.head _)
    have hul := hxs.length
    have hwl := hys.length
    have hi6 : i < 6 := by lia
    have e0 : ((0 : Int) + (i : Int)).fmod 2 = ((i % 2 : Nat) : Int) := by rw [Int.zero_add]; exact (Int.fmod_eq_emod_of_nonneg _ (by decide)).trans (by lia)
    k_steps
    · refine Stop.go ?_
      rename (((0 : Int) + (i : Int)).fmod 2 = 0) => he
      rw [e0] at he
      rename (Fr g' L' _ _) => F6
      rename (News g' L' _ _) => N6
      refine append_K F6 N6 (Upd.tail (Ne.symm hAI) (Upd.tail (Nat.ne_of_gt lB.1) (Upd.head hub))) (fun h7 F7 N7 => ?_) (by rw [PySem.sizeLine_eq, List.size_toArray]; lia)
      k_steps
      refine Stop.go ?_
      exact Turn.next F7 N7 (NoIt.cons rfl (NoIt.cons rfl (NoIt.own hno))) ⟨us ++ [.int (ns.getD (0 + (i : Int)).toNat 0) _], ws, xs ++ [ns.getD (0 + (i : Int)).toNat 0], ys, c + 1, d, by rw [List.push_toArray], hxs.append (.cons _ _ .nil), hys, by rw [List.length_append, List.length_singleton]; lia, by lia, by rw [List.length_append, List.length_singleton]; lia, by lia, rfl, rfl, rfl, trivial⟩
    · refine Stop.go ?_
      rename (¬ (((0 : Int) + (i : Int)).fmod 2 = 0)) => he
      rw [e0] at he
      rename (Fr g' L' _ _) => F6
      rename (News g' L' _ _) => N6
      refine append_K F6 N6 (Upd.tail (Ne.symm hBI) (Upd.head hub2)) (fun h7 F7 N7 => ?_) (by rw [PySem.sizeLine_eq, List.size_toArray]; lia)
      k_steps
      refine Stop.go ?_
      exact Turn.next F7 N7 (NoIt.cons rfl (NoIt.cons rfl (NoIt.own hno))) ⟨us, ws ++ [.int (ns.getD (0 + (i : Int)).toNat 0) _], xs, ys ++ [ns.getD (0 + (i : Int)).toNat 0], c, d + 1, by rw [List.push_toArray], hxs, hys.append (.cons _ _ .nil), by lia, by rw [List.length_append, List.length_singleton]; lia, by lia, by rw [List.length_append, List.length_singleton]; lia, rfl, rfl, rfl, trivial⟩
  case done =>
    rintro m₁ nx h tk ⟨us, ws, xs, ys, c, d, rfl, hxs, hys, l2, l3, l4, l5, hm⟩ hno1 F5 N5
    replace F5 := Fr.has _ F5 hm
    have hul := hxs.length
    have hwl := hys.length
    have hm4 : 0 ≤ ns.sum.fmod 4 ∧ ns.sum.fmod 4 < 4 := ⟨Int.fmod_nonneg_of_pos _ (by decide), Int.fmod_lt_of_pos _ (by decide)⟩
    k_steps
    refine Stop.go ?_
    rename (Fr g' _ _ _) => F6
    rename (News g' _ _ _) => N6
    rename (B1 < _ ∧ A1 < _ ∧ L' + 1 < _ ∧ AllLt _ news) => lZ
    obtain ⟨zs, hz, N7⟩ : ∃ zs : List Value, IntsAre zs [0, 1, 0, 0, 2] ∧ News g' L' _ ((_, listOf zs.toArray 0) :: (B1, listOf ws.toArray d) :: (A1, listOf us.toArray c) :: (L' + 1, oK) :: news) := ⟨_, by repeat constructor, N6⟩
    clear N6
    refine cat_led F6 N7 (.tail _ (.tail _ (.head _))) (.head _) ?_ (by have := hz.length; simp at this; lia)
    intro P1 h17 F8 N8 lP
    replace N8 := News.drop2 N8
    have hzl : zs.length = 5 := by have := hz.length; simpa using this
    k_steps
    refine Stop.go ?_
    rename (Fr g' _ _ _) => F9
    rename (News g' _ _ _) => N9
    obtain ⟨zt, hzt, N10⟩ : ∃ zt : List Value, IntsAre zt [1, 0, 0, 1, 0] ∧ News g' L' _ ((_, listOf zt.toArray 0) :: (P1, listOf (us ++ zs).toArray 0) :: (B1, listOf ws.toArray d) :: (A1, listOf us.toArray c) :: (L' + 1, oK) :: news) := ⟨_, by repeat constructor, N9⟩
    clear N9
    have hztl : zt.length = 5 := by have := hzt.length; simpa using this
    refine cat_led F9 N10 (.tail _ (.tail _ (.head _))) (.head _) ?_ (by lia)
    intro P2 h18 F11 N11 lP2
    have lP12 : @LT.lt Nat _ P1 P2 := lP2 _ (.tail _ (.head _))
    have lP2n : ∀ r ∈ news, r.1 < P2 := fun r hr => lP2 r (.tail _ (.tail _ (.tail _ (.tail _ (.tail _ hr)))))
    have lP1n : ∀ r ∈ news, r.1 < P1 := fun r hr => lP r (.tail _ (.tail _ (.tail _ (.tail _ hr))))
    have lP1L : @LT.lt Nat _ (L' + 1) P1 := lP _ (.tail _ (.tail _ (.tail _ (.head _))))
    replace N11 := News.sub (b := (P2, listOf (ws ++ zt).toArray 0) :: (P1, listOf (us ++ zs).toArray 0) :: (L' + 1, oK) :: news) N11 (fun q hq => by
      simp only [List.mem_cons] at hq ⊢
      rcases hq with h | h | h | h <;> simp [h])
    have hxs2 := hxs.append hz
    have hys2 := hys.append hzt
    generalize hg1 : us ++ zs = us2 at N11 hxs2
    generalize hg2 : ws ++ zt = ws2 at N11 hys2
    have hx2l : 5 ≤ (xs ++ [0, 1, 0, 0, 2]).length ∧ (xs ++ [0, 1, 0, 0, 2]).length ≤ 8 := by rw [List.length_append]; simp; lia
    have hy2l : 5 ≤ (ys ++ [1, 0, 0, 1, 0]).length ∧ (ys ++ [1, 0, 0, 1, 0]).length ≤ 8 := by rw [List.length_append]; simp; lia
    generalize hg3 : xs ++ [0, 1, 0, 0, 2] = xs2 at hxs2 hx2l
    generalize hg4 : ys ++ [1, 0, 0, 1, 0] = ys2 at hys2 hy2l
    clear N10 lP lP2
    k_steps
    · rename (Fr h₀ L _ m) => kF
      rename (News h₀ L _ _) => kN
      rename (P2 < _ ∧ P1 < _ ∧ L' + 1 < _ ∧ AllLt _ news) => lT
      refine hret _ _ _ _ kF (News.sub kN fun q hq => ?_) ⟨_, P1, P2, us2, ws2, xs2, ys2, 0, 0, 0, rfl, rfl, hxs2, hys2, hx2l.1, hx2l.2, hy2l.1, hy2l.2, fun r hr => ⟨Nat.ne_of_lt (allLt_mem lT.2.2.2 r hr), Nat.ne_of_lt (lP1n r hr), Nat.ne_of_lt (lP2n r hr)⟩, Nat.ne_of_gt lT.2.1, Nat.ne_of_gt lT.1, Nat.ne_of_lt lP12⟩
      simp only [List.mem_cons] at hq ⊢
      rcases hq with h | h | h | h <;> simp [h]
    · refine Stop.go ?_
      rename (Fr g' _ _ _) => F12
      rename (News g' _ _ _) => N12
      have hu2 := hxs2.length
      have hw2 := hys2.length
      refine LCg.CompSrc.ledger rfl F12 N12 (.tail _ (.head _)) ?_ fun g => ?_
      · rw [PySem.sizeLine_eq, List.size_toArray]; lia
      refine comp_gen (fun zs nx => nx = (P2, listOf ws2.toArray 0) :: (P1, listOf us2.toArray 0) :: (L' + 1, oK) :: news ∧ IntsAre zs ((xs2.take zs.length).map fun x => x.fmod (ns.sum.fmod 4 + 1))) ⟨rfl, .nil⟩ ?turn1 ?fin1
      case turn1 =>
        rintro v I oI C oC D m₂ zs nx h tk E' hl hv ⟨rfl, hzs⟩ hC hX F1 N1 off ne
        obtain ⟨x, tx, rfl, hx1⟩ := IntsAre.at hxs2 zs.length v (by simpa using hv)
        have key : ∀ t, IntsAre (zs ++ [Value.int (x.fmod (ns.sum.fmod 4 + 1)) t]) ((xs2.take (zs ++ [Value.int (x.fmod (ns.sum.fmod 4 + 1)) t]).length).map fun x => x.fmod (ns.sum.fmod 4 + 1)) := fun t => by
          have := hzs.append (.cons (x.fmod (ns.sum.fmod 4 + 1)) t .nil)
          rw [List.length_append, List.length_singleton, List.take_add_one, hx1, List.map_append]
          exact this
        k_steps
        refine Stop.go ?_
        exact ⟨_, _, _, rfl, F1, N1, off, .inr ⟨_, .tail _ (.head _), rfl, _, rfl⟩, rfl, key _⟩
      case fin1 =>
        rintro zs nx hzl1 ⟨rfl, hzs⟩
        rw [hzl1, List.size_toArray, hu2, List.take_length] at hzs
        rw [List.size_toArray, hu2] at hzl1
        unfold LCg.FinE
        intro D1 h1 tk1 F2 N2 off2
        try dsimp only
        k_steps
        refine Stop.go ?_
        refine LCg.CompSrc.ledger rfl F2 N2 (.tail _ (.head _)) ?_ fun g => ?_
        · rw [PySem.sizeLine_eq, List.size_toArray]; lia
        refine comp_gen (fun zt nx => nx = (D1, LCg.lst zs) :: (P2, listOf ws2.toArray 0) :: (P1, listOf us2.toArray 0) :: (L' + 1, oK) :: news ∧ IntsAre zt ((ys2.take zt.length).map fun x => x.fmod (ns.sum.fmod 4 + 1))) ⟨rfl, .nil⟩ ?turn2 ?fin2
        case turn2 =>
          rintro v I oI C oC D m₂ zt nx h tk E' hl hv ⟨rfl, hzt⟩ hC hX F1 N1 off ne
          obtain ⟨x, tx, rfl, hx1⟩ := IntsAre.at hys2 zt.length v (by simpa using hv)
          have key : ∀ t, IntsAre (zt ++ [Value.int (x.fmod (ns.sum.fmod 4 + 1)) t]) ((ys2.take (zt ++ [Value.int (x.fmod (ns.sum.fmod 4 + 1)) t]).length).map fun x => x.fmod (ns.sum.fmod 4 + 1)) := fun t => by
            have := hzt.append (.cons (x.fmod (ns.sum.fmod 4 + 1)) t .nil)
            rw [List.length_append, List.length_singleton, List.take_add_one, hx1, List.map_append]
            exact this
          k_steps
          refine Stop.go ?_
          exact ⟨_, _, _, rfl, F1, N1, off, .inr ⟨_, .tail _ (.head _), rfl, _, rfl⟩, rfl, key _⟩
        case fin2 =>
          rintro zt nx hzl2 ⟨rfl, hzt⟩
          rw [hzl2, List.size_toArray, hw2, List.take_length] at hzt
          rw [List.size_toArray, hw2] at hzl2
          unfold LCg.FinE
          intro D2 h2 tk2 F3 N3 off3
          try dsimp only
          k_steps
          rename (Fr h₀ L _ m) => kF
          rename (News h₀ L _ _) => kN
          rename (D2 < _ ∧ D1 < _ ∧ P2 < _ ∧ P1 < _ ∧ L' + 1 < _ ∧ AllLt _ news) => lT
          have hzs2 := hzs.length
          have hzt2 := hzt.length
          rw [List.length_map] at hzs2 hzt2
          refine hret _ _ _ _ kF (News.sub kN fun q hq => ?_) ⟨_, D1, D2, zs, zt, _, _, 0, zs.length, zt.length, rfl, rfl, hzs, hzt, by rw [List.length_map]; exact hx2l.1, by rw [List.length_map]; exact hx2l.2, by rw [List.length_map]; exact hy2l.1, by rw [List.length_map]; exact hy2l.2, fun r hr => ⟨Nat.ne_of_lt (allLt_mem lT.2.2.2.2.2 r hr), off1_mem off2 r (.tail _ (.tail _ (.tail _ hr))), off1_mem off3 r (.tail _ (.tail _ (.tail _ (.tail _ hr))))⟩, Nat.ne_of_gt lT.2.1, Nat.ne_of_gt lT.1, off1_mem off3 _ (.head _)⟩
          simp only [List.mem_cons] at hq ⊢
          rcases hq with h | h | h | h <;> simp [h, LCg.lst]
end
theorem kreg6 : True := by
  k_with_none
  k_with "eval BinOp" => ((try clear qF0b); (fail_if_success (have hq9 := @qF0b)); refine fold_Q ?_; intro qF0b; walk_at "eval BinOp")
  k_with "eval BinOp" => ((try clear qF0); (fail_if_success (have hq9 := @qF0)); refine fold_Q ?_; intro qF0; walk_at "eval BinOp")
  k_with "isTrue Compare" => ((try clear qF1); (fail_if_success (have hq9 := @qF1)); refine fold_Q ?_; intro qF1; walk_at "isTrue Compare")
  k_with "eval Subscript" => ((try clear qF2b); (fail_if_success (have hq9 := @qF2b)); refine fold_Q ?_; intro qF2b; walk_at "eval Subscript")
  k_with "eval Subscript" => ((try clear qF2); (fail_if_success (have hq9 := @qF2)); refine fold_Q ?_; intro qF2; walk_at "eval Subscript")
  k_with "eval Call" => ((try clear qF3b); (fail_if_success (have hq9 := @qF3b)); refine fold_Q ?_; intro qF3b; walk_at "eval Call")
  k_with "eval Call" => ((try clear qF3); (fail_if_success (have hq9 := @qF3)); refine fold_Q ?_; intro qF3; walk_at "eval Call")
  k_with "eval Tuple" => ((try clear qF4); (fail_if_success (have hq9 := @qF4)); refine fold_Q ?_; intro qF4; walk_at "eval Tuple")
  k_with "exec Assign" => ((try clear qF5); (fail_if_success (have hq9 := @qF5)); refine fold_Q ?_; intro qF5; walk_at "exec Assign")
  k_with "exec AugAssign" => ((try clear qF6); (fail_if_success (have hq9 := @qF6)); refine fold_Q ?_; intro qF6; walk_at "exec AugAssign")
  k_with "eval Attribute Name" => ((try clear qF7); (fail_if_success (have hq9 := @qF7)); refine fold_Q ?_; intro qF7; walk_at "eval Attribute Name")
  k_with "isTrue BoolOp" => ((try clear qF8); (fail_if_success (have hq9 := @qF8)); refine fold_Q ?_; intro qF8; walk_at "isTrue BoolOp")
  k_with "exec If" => ((try clear qF9); (fail_if_success (have hq9 := @qF9)); refine fold_Q ?_; intro qF9; walk_at "exec If")
  k_with "eval Compare" => ((try clear qF10); (fail_if_success (have hq9 := @qF10)); refine fold_Q ?_; intro qF10; walk_at "eval Compare")
  k_with "eval Call Attribute" => ((try clear qF11); (fail_if_success (have hq9 := @qF11)); refine fold_Q ?_; intro qF11; walk_at "eval Call Attribute")
  k_with "eval List" => ((try clear qF12); (fail_if_success (have hq9 := @qF12)); refine fold_Q ?_; intro qF12; walk_at "eval List")
  k_with "exec Expr" => ((try clear qF13); (fail_if_success (have hq9 := @qF13)); refine fold_Q ?_; intro qF13; walk_at "exec Expr")
  k_with "exec Return some" => ((try clear qF14); (fail_if_success (have hq9 := @qF14)); refine fold_Q ?_; intro qF14; walk_at "exec Return some")
  k_with "pyIter ref" => (refine Stop.of ?_)
  k_with "exec While" => (refine Stop.of ?_)
  k_with "Turn" => (first | refine turn_brk ?_ | refine turn_ret ?_ | refine Stop.of ?_)
  k_with "WStep" => (first | refine wstep_brk ?_ | refine wstep_ret ?_ | refine Stop.of ?_)
  k_with "call builtin:len" => (k_here; (with_reducible show wpAny _ _ (call (Value.builtin "len") [Value.ref _]) _ _ _); k_dflt (refine' len_led (by k_asm) (by k_mem) (by (simp only [List.size_toArray] <;> lia)) ?_; k_whole))
  k_with "subscriptTail" => (k_here; (with_reducible show wpAny _ _ (subscriptTail _ _ (Value.ref _) (Value.int _ _)) _ _ _); k_dflt (refine' item_cs (by k_asm) (by k_mem) (by assumption) (by lia) (by lia) (by lia) ?_); intro _)
  k_with "WExit" => (refine Stop.of ?_)
  k_with "CompSrc" => (refine Stop.of ?_)
  k_with "CompEnd" => (refine Stop.of ?_)
  k_with "binaryOp Add ref ref" => (k_here; (with_reducible show wpAny _ _ (binaryOp _ (Value.ref _) (Value.ref _)) _ _ _); k_dflt (refine' cat_led (by k_asm) (by k_asm) (by k_mem) (by k_mem) ?_ (by (simp only [List.length_append, List.length_drop, List.length_take, List.length_cons, List.length_nil]; lia))); intro _ _ _ _ xl9; (try k_lt xl9); (try (revert xl9; intro _)))
  k_with "subscriptTail Name Slice ref ref" => (k_here; (with_reducible show wpAny _ _ (subscriptTail _ (PySem.Expr.Slice _ _ none _) (Value.ref _) (Value.ref _)) _ _ _); k_dflt (first | refine' slice_from (by k_asm) (by k_asm) (by k_dflt k_mem) (by lia) (by lia) ?_ (by with_unfolding_all rfl) (by kmk_pure) | refine' slice_upto (by k_asm) (by k_asm) (by k_dflt k_mem) (by lia) (by lia) ?_ (by with_unfolding_all rfl) (by kmk_pure)); intro _ _ _ _ xl9; (try k_lt xl9); (try (revert xl9; intro _)))
  k_with "call ref" => (refine Stop.of ?_)
  k_with "subscriptTail" => (k_here; (with_reducible show wpAny _ _ (subscriptTail _ _ (Value.ref _) (Value.int _ _)) _ _ _); k_dflt (refine' item_ints (by k_asm) (by k_mem) (by assumption) (by lia) (by lia) (by lia) ?_); intro _)
  k_with "assign Tuple cons ref" => (k_here; (with_reducible show wpAny _ _ (assign (Expr.Tuple _ _ _) _ (Value.ref _)) _ _ _); k_dflt (refine' unpackN_list (by k_asm) (by k_asm) (by k_mem) (by exact rfl) (by exact rfl) (by exact rfl) ?_); intro _ _ _)
  k_with "compareOp NotEq ref ref" => (refine Stop.of ?_)
  k_with "subscriptTail" => (k_here; (with_reducible show wpAny _ _ (subscriptTail _ _ (Value.ref _) (Value.int _ _)) _ _ _); k_dflt (refine' item_led (by k_asm) (by k_mem) (by decide) (by decide) (by exact rfl) ?_))
  k_with "subscriptTail" => (k_here; (with_reducible show wpAny _ _ (subscriptTail _ _ (Value.ref _) (Value.int (-1) _)) _ _ _); k_dflt (refine' item_last (by k_asm) (by k_mem) (by lia) ?_))
  k_with "getItem ref int" => (k_here; k_dflt (refine' getItem_led (by k_asm) (by k_mem) (by decide) (by decide) (by exact rfl) ?_))
  k_with "setItem ref int" => (refine Stop.of ?_)
  k_with "call builtin:list.append" => (refine Stop.of ?_)
  k_with "ite" => (first | with_reducible refine ite_tt ?_ | with_reducible refine ite_ff ?_ | (with_reducible refine split_ine ?_ ?_ <;> intro _) | (with_reducible refine split_ieq ?_ ?_ <;> intro _) | (refine split_dec ?_ ?_ <;> intro _))
  k_with "execs cons" => (dsimp only; walk_at "execs cons")
  k_with "execs nil" => (dsimp only; walk_at "execs nil")
  trivial
section
theorem meta_tuple : typeOf (.type "tuple") = pure (.type "type") := by kernel_rfl
theorem kreg7 : True := by
  k_with "getMethod type:tuple" => (k_here; refine' method_type (by k_asm) (by k_asm) (by exact meta_tuple) (by decide +kernel) ?e ?h ?_)
  k_with "call builtin:tuple.__new__" => (refine Stop.of ?_)
  trivial
variable {w : World} {mean : ExcName → Option Value} {mg mb : Str → Option Value}
theorem c_new82 {news : Led} {a b c : Int} {t1 t2 t3 : Tok} :
    Calls w mean mg mb 82 [.ref 135, .int a t1, .int b t2, .int c t3] 4 news (fun v news' => ∃ x d, v = .ref x ∧ news' = (x, matchO d #[.int a t1, .int b t2, .int c t3]) :: (d, emptyDict) :: news ∧ (∀ q ∈ news, q.1 < d) ∧ d < x) := by
  w_on
  unfold Calls
  k_fill
  intro dp un gd cn csc aa ccd cl outer A₀ base h₀ L m s Q E B F X N T hk hd hu hret
  refine wpAny_call ?_
  k_dflt (refine' code_def (scope := Scope.mk _ _ _ _ _) (params := Arguments.mk _ _ _ _ _ _ _) (body := _ :: _) (binds := [(Str.ofString "_cls", Value.ref 135), (Str.ofString "a", Value.int a t1), (Str.ofString "b", Value.int b t2), (Str.ofString "size", Value.int c t3)]) ?k1 ?k2 ?k3 ?k4 ?k5 ?kA ?kF ?kK ?k6 ?k7 ?k8 ?k9 ?kB ?_ ?c2 ?c3 ?c4 ?c5; (case kA => exact rfl); (case kF => exact rfl); (case kK => assumption); (case k1 => k_asm); (case k2 => k_asm); (case k3 => k_asm); (case k4 => k_asm); (case k5 => k_asm); (case k6 => exact rfl); (case k7 => k_is); (case k8 => first | exact room0 hd | ktr_room); (case k9 => exact BindsTo.of_eq rfl); (case c5 => decide); (case kB => exact locs rfl); (case c2 => exact rfl); (case c3 => exact rfl); (case c4 => exact rfl); k_whole; intro g' L' h' FG' F' N' B' X' T'; (try dsimp only); (try k_fold); refine fold_A ?_; intro AA; have hAu : AA.units = un + 3 := rfl; have hAd : AA.depth = dp + 1 := rfl; refine fold_env ?_; intro ee)
  k_steps
  refine Stop.go ?_
  rename (Fr _ _ _ _) => F7
  rename (News _ _ _ _) => N7
  rename (∀ p ∈ news, _) => l7
  refine tup_led F7 N7 X' (.head _) (by rw [PySem.sizeLine_eq]; exact Nat.le_of_ble_eq_true rfl) ?_
  intro x d h9 F9 N9 l9 l10
  k_steps
  rename (Fr h₀ L _ m) => kF
  rename (News h₀ L _ _) => kN
  exact hret _ _ _ _ kF (News.sub kN fun q hq => by
    rcases List.mem_cons.mp hq with rfl | hq
    · exact .head _
    · rcases List.mem_cons.mp hq with rfl | hq
      · exact .tail _ (.head _)
      · exact .tail _ (.tail _ (.tail _ hq))) ⟨x, d, rfl, rfl, fun q hq => l9 q (.tail _ hq), l10⟩
theorem call135 {h : Heap} (X : (KF w.params).In h) : Looks (M0 w) h (specialOf (.ref 135) "__call__") (some (.builtin "type.__call__")) := looks_specialIn X (by w_on; k_is)
theorem oi_args4 (a b c d : Value) : argsOk "object.__init__" ⟨[a, b, c, d], []⟩ := by unfold argsOk; kernel_rfl
theorem c_match {news : Led} {a b c : Int} {t1 t2 t3 : Tok} :
    Calls w mean mg mb 135 [.int a t1, .int b t2, .int c t3] 8 news (fun v news' => ∃ x d, v = .ref x ∧ news' = (x, matchO d #[.int a t1, .int b t2, .int c t3]) :: (d, emptyDict) :: news ∧ (∀ q ∈ news, q.1 < d) ∧ d < x) := by
  w_on
  unfold Calls
  k_fill
  intro dp un gd cn csc aa ccd cl outer A₀ base h₀ L m s Q E B F X N T hk hd hu hret
  refine wpAny_call ?_
  obtain ⟨hh, g, dd, tk, os⟩ := s
  have X1 := X.keeps F.keep
  have f1 := call135 X1
  have f2 := inst_type X1
  have f3 := mro135 X1
  have f4 := madeBy135 X1
  refine codeAny_of_tree ?_
  show wpAny _ _ (callAny (.ref 135) _) _ _ _
  refine nd_load (k135 X1) ?_
  show wpAny _ _ (callAny.viaDunder (.ref 135) _) _ _ _
  unfold callAny.viaDunder
  refine wpAny_bind (f1.at ?_)
  dsimp only
  rw [tc_bind]
  refine wpAny_bind (wpAny_pure (wpAny_bind (wpAny_pure ?_)))
  refine wpAny_pure (a := Fin.again (.call (.builtin "type.__call__") ⟨.ref 135 :: [.int a t1, .int b t2, .int c t3], []⟩)) (And.intro rfl ?_)
  refine codeAny_call_builtin_at (Code.quiet_builtin _ (by decide +kernel)) entry_typeCall (check_slot tc_kind tc_split f2 (tc_args _ _ _) ?_)
  unfold Builtin.«type.__call__»
  iterate 9 (first | simp only [List.isEmpty_cons, Bool.false_eq_true, if_false] | lk)
  k_dflt (refine' cls_sm F X ?m1 ?m2 ?m3 ?m4 ?m5 ?_; (case m1 => k_is); (case m2 => k_is); (case m3 => k_is); (case m4 => k_is); (case m5 => k_handed))
  iterate 2 lk
  k_dflt (refine' Calls.use (c_new82 (a := a) (b := b) (c := c)) ?B ?F ?X ?N ?T ?hk ?hd ?hu ?_; (case B => exact B); (case F => exact F); (case X => exact X); (case N => exact N); (case T => exact T); (case hk => exact hk))
  case hd =>
    have e : (Code.builtin "type.__call__" { pos := [Value.ref 135, Value.int a t1, Value.int b t2, Value.int c t3] }).weight ≤ 3 := Nat.le_of_ble_eq_true (by kernel_rfl)
    have e2 : (ktrTop dp un gd cn csc L aa ccd cl outer).depth = dp := rfl
    lia
  case hu =>
    have e : (Code.builtin "type.__call__" { pos := [Value.ref 135, Value.int a t1, Value.int b t2, Value.int c t3] }).cUnits ≤ 30 := Nat.le_of_ble_eq_true (by kernel_rfl)
    have e2 : (ktrTop dp un gd cn csc L aa ccd cl outer).units = un := rfl
    lia
  rintro v nx' h10 tk10 F10 N10 ⟨x, d, rfl, rfl, l1, l2⟩
  have X2 := X.keeps F10.keep
  have g1 : Looks (M0 w) h10 (typeOf (.ref x)) (.ref 135) := (Looks.ld (N10 _ (.head _)).1).andThen .now
  have g2 := sub_self X2
  have g3 := find_init X2
  have g4 : Looks (M0 w) h10 (bindSpecial (.builtin "object.__init__") (.ref x)) (.builtin "object.__init__", [.ref x]) := Looks.of_pure (oi_bind _)
  unfold isInstance callSpecial? specialOf
  repeat (first | with_reducible refine wpAny_call ?_ | lk)
  have g5 : Looks (M0 w) h10 (isInstance (.ref x) (.type "object")) true := g1.andThen (sub_obj X2)
  have g6 := madeBy135 X2
  refine codeAny_call_builtin oi_plain entry_oi (check_slot oi_kind oi_split g5 (oi_args4 _ _ _ _) ?_)
  unfold Builtin.«object.__init__»
  repeat lk
  exact hret _ _ _ _ F10 N10 ⟨x, d, rfl, rfl, l1, l2⟩
end
theorem kreg8 : True := by
  k_with_none
  k_with "eval BinOp" => ((try clear qF0b); (fail_if_success (have hq9 := @qF0b)); refine fold_Q ?_; intro qF0b; walk_at "eval BinOp")
  k_with "eval BinOp" => ((try clear qF0); (fail_if_success (have hq9 := @qF0)); refine fold_Q ?_; intro qF0; walk_at "eval BinOp")
  k_with "isTrue Compare" => ((try clear qF1); (fail_if_success (have hq9 := @qF1)); refine fold_Q ?_; intro qF1; walk_at "isTrue Compare")
  k_with "eval Subscript" => ((try clear qF2b); (fail_if_success (have hq9 := @qF2b)); refine fold_Q ?_; intro qF2b; walk_at "eval Subscript")
  k_with "eval Subscript" => ((try clear qF2); (fail_if_success (have hq9 := @qF2)); refine fold_Q ?_; intro qF2; walk_at "eval Subscript")
  k_with "eval Call" => ((try clear qF3b); (fail_if_success (have hq9 := @qF3b)); refine fold_Q ?_; intro qF3b; walk_at "eval Call")
  k_with "eval Call" => ((try clear qF3); (fail_if_success (have hq9 := @qF3)); refine fold_Q ?_; intro qF3; walk_at "eval Call")
  k_with "eval Tuple" => ((try clear qF4); (fail_if_success (have hq9 := @qF4)); refine fold_Q ?_; intro qF4; walk_at "eval Tuple")
  k_with "exec Assign" => ((try clear qF5); (fail_if_success (have hq9 := @qF5)); refine fold_Q ?_; intro qF5; walk_at "exec Assign")
  k_with "exec AugAssign" => ((try clear qF6); (fail_if_success (have hq9 := @qF6)); refine fold_Q ?_; intro qF6; walk_at "exec AugAssign")
  k_with "eval Attribute Name" => ((try clear qF7); (fail_if_success (have hq9 := @qF7)); refine fold_Q ?_; intro qF7; walk_at "eval Attribute Name")
  k_with "isTrue BoolOp" => ((try clear qF8); (fail_if_success (have hq9 := @qF8)); refine fold_Q ?_; intro qF8; walk_at "isTrue BoolOp")
  k_with "exec If" => ((try clear qF9); (fail_if_success (have hq9 := @qF9)); refine fold_Q ?_; intro qF9; walk_at "exec If")
  k_with "eval Compare" => ((try clear qF10); (fail_if_success (have hq9 := @qF10)); refine fold_Q ?_; intro qF10; walk_at "eval Compare")
  k_with "eval Call Attribute" => ((try clear qF11); (fail_if_success (have hq9 := @qF11)); refine fold_Q ?_; intro qF11; walk_at "eval Call Attribute")
  k_with "eval List" => ((try clear qF12); (fail_if_success (have hq9 := @qF12)); refine fold_Q ?_; intro qF12; walk_at "eval List")
  k_with "exec Expr" => ((try clear qF13); (fail_if_success (have hq9 := @qF13)); refine fold_Q ?_; intro qF13; walk_at "exec Expr")
  k_with "exec Return some" => ((try clear qF14); (fail_if_success (have hq9 := @qF14)); refine fold_Q ?_; intro qF14; walk_at "exec Return some")
  k_with "pyIter ref" => (refine Stop.of ?_)
  k_with "exec While" => (refine Stop.of ?_)
  k_with "Turn" => (first | refine turn_brk ?_ | refine turn_ret ?_ | refine Stop.of ?_)
  k_with "WStep" => (first | refine wstep_brk ?_ | refine wstep_ret ?_ | refine Stop.of ?_)
  k_with "call builtin:len" => (k_here; (with_reducible show wpAny _ _ (call (Value.builtin "len") [Value.ref _]) _ _ _); k_dflt (refine' len_led (by k_asm) (by k_mem) (by (simp only [List.size_toArray] <;> lia)) ?_; k_whole))
  k_with "subscriptTail" => (k_here; (with_reducible show wpAny _ _ (subscriptTail _ _ (Value.ref _) (Value.int _ _)) _ _ _); k_dflt (refine' item_cs (by k_asm) (by k_mem) (by assumption) (by lia) (by lia) (by lia) ?_); intro _)
  k_with "WExit" => (refine Stop.of ?_)
  k_with "CompSrc" => (refine Stop.of ?_)
  k_with "CompEnd" => (refine Stop.of ?_)
  k_with "binaryOp Add ref ref" => (k_here; (with_reducible show wpAny _ _ (binaryOp _ (Value.ref _) (Value.ref _)) _ _ _); k_dflt (refine' cat_led (by k_asm) (by k_asm) (by k_mem) (by k_mem) ?_ (by (simp only [List.length_append, List.length_drop, List.length_take, List.length_cons, List.length_nil]; lia))); intro _ _ _ _ xl9; (try k_lt xl9); (try (revert xl9; intro _)))
  k_with "subscriptTail Name Slice ref ref" => (k_here; (with_reducible show wpAny _ _ (subscriptTail _ (PySem.Expr.Slice _ _ none _) (Value.ref _) (Value.ref _)) _ _ _); k_dflt (first | refine' slice_from (by k_asm) (by k_asm) (by k_dflt k_mem) (by lia) (by lia) ?_ (by with_unfolding_all rfl) (by kmk_pure) | refine' slice_upto (by k_asm) (by k_asm) (by k_dflt k_mem) (by lia) (by lia) ?_ (by with_unfolding_all rfl) (by kmk_pure)); intro _ _ _ _ xl9; (try k_lt xl9); (try (revert xl9; intro _)))
  k_with "call ref" => (refine Stop.of ?_)
  k_with "subscriptTail" => (k_here; (with_reducible show wpAny _ _ (subscriptTail _ _ (Value.ref _) (Value.int _ _)) _ _ _); k_dflt (refine' item_ints (by k_asm) (by k_mem) (by assumption) (by lia) (by lia) (by lia) ?_); intro _)
  k_with "assign Tuple cons ref" => (k_here; (with_reducible show wpAny _ _ (assign (Expr.Tuple _ _ _) _ (Value.ref _)) _ _ _); k_dflt (refine' unpackN_list (by k_asm) (by k_asm) (by k_mem) (by exact rfl) (by exact rfl) (by exact rfl) ?_); intro _ _ _)
  k_with "compareOp NotEq ref ref" => (refine Stop.of ?_)
  k_with "subscriptTail" => (k_here; (with_reducible show wpAny _ _ (subscriptTail _ _ (Value.ref _) (Value.int _ _)) _ _ _); k_dflt (refine' item_led (by k_asm) (by k_mem) (by decide) (by decide) (by exact rfl) ?_))
  k_with "subscriptTail" => (k_here; (with_reducible show wpAny _ _ (subscriptTail _ _ (Value.ref _) (Value.int (-1) _)) _ _ _); k_dflt (refine' item_last (by k_asm) (by k_mem) (by lia) ?_))
  k_with "getItem ref int" => (k_here; k_dflt (refine' getItem_led (by k_asm) (by k_mem) (by decide) (by decide) (by exact rfl) ?_))
  k_with "setItem ref int" => (refine Stop.of ?_)
  k_with "call builtin:list.append" => (refine Stop.of ?_)
  k_with "ite" => (first | with_reducible refine ite_tt ?_ | with_reducible refine ite_ff ?_ | (with_reducible refine split_ine ?_ ?_ <;> intro _) | (with_reducible refine split_ieq ?_ ?_ <;> intro _) | (refine split_dec ?_ ?_ <;> intro _))
  k_with "execs cons" => (dsimp only; walk_at "execs cons")
  k_with "execs nil" => (dsimp only; walk_at "execs nil")
  trivial
section
theorem kreg9 : True := by
  k_with "getMethod type:tuple" => (k_here; refine' method_type (by k_asm) (by k_asm) (by exact meta_tuple) (by decide +kernel) ?e ?h ?_)
  k_with "call type:type" => (refine Stop.of ?_)
  k_with "call builtin:issubclass" => (refine Stop.of ?_)
  k_with "call builtin:tuple.__getitem__" => (refine Stop.of ?_)
  trivial
variable {w : World} {mean : ExcName → Option Value} {mg mb : Str → Option Value}
theorem c_tget_a {news : Led} {x d : Addr} {a b c : Value} (hx : (x, matchO d #[a, b, c]) ∈ news) (hd' : (d, emptyDict) ∈ news) :
    Calls w mean mg mb 43 [.ref 124, .ref x, .ref 135] 4 news (fun v news' => v = a ∧ news' = news) := by
  w_on
  unfold Calls
  k_fill
  intro dp un gd cn csc aa ccd cl outer A₀ base h₀ L m s Q E B F X N T hk hd hu hret
  refine wpAny_call ?_
  k_dflt (refine' code_def (scope := Scope.mk _ _ _ _ _) (params := Arguments.mk _ _ _ _ _ _ _) (body := _ :: _) (binds := [(Str.ofString "self", Value.ref 124), (Str.ofString "obj", Value.ref x), (Str.ofString "objtype", Value.ref 135)]) ?k1 ?k2 ?k3 ?k4 ?k5 ?kA ?kF ?kK ?k6 ?k7 ?k8 ?k9 ?kB ?_ ?c2 ?c3 ?c4 ?c5; (case kA => exact rfl); (case kF => exact rfl); (case kK => assumption); (case k1 => k_asm); (case k2 => k_asm); (case k3 => k_asm); (case k4 => k_asm); (case k5 => k_asm); (case k6 => exact rfl); (case k7 => k_is); (case k8 => first | exact room0 hd | ktr_room); (case k9 => first | exact BindsTo.of_eq rfl | exact binds_K (by k_in) rfl (by k_is) rfl rfl rfl); (case c5 => decide); (case kB => exact locs rfl); (case c2 => exact rfl); (case c3 => exact rfl); (case c4 => exact rfl); k_whole; intro g' L' h' FG' F' N' B' X' T'; (try dsimp only); (try k_fold); refine fold_A ?_; intro AA; have hAu : AA.units = un + 3 := rfl; have hAd : AA.depth = dp + 1 := rfl; refine fold_env ?_; intro ee)
  k_steps
  refine Stop.go ?_
  rename (News _ _ _ _) => N7
  refine kto_own (C := 135) (od := some emptyDict) ⟨(N7 _ hx).1, rfl, rfl, (N7 _ hd').1⟩ ?_
  k_steps
  refine Stop.go ?_
  refine wpAny_call (sub_match (X'.keeps (Fr.keep (by assumption))) ?_)
  k_steps
  refine Stop.go ?_
  refine wpAny_call (item_match (X'.keeps (Fr.keep (by assumption))) (N7 _ hx).1 (by decide) (by decide) (j := 0) rfl rfl ?_)
  k_steps
  rename (Fr h₀ L _ m) => kF
  rename (News h₀ L _ _) => kN
  exact hret _ _ _ _ kF kN ⟨rfl, rfl⟩
theorem c_tget_b {news : Led} {x d : Addr} {a b c : Value} (hx : (x, matchO d #[a, b, c]) ∈ news) (hd' : (d, emptyDict) ∈ news) :
    Calls w mean mg mb 43 [.ref 127, .ref x, .ref 135] 4 news (fun v news' => v = b ∧ news' = news) := by
  w_on
  unfold Calls
  k_fill
  intro dp un gd cn csc aa ccd cl outer A₀ base h₀ L m s Q E B F X N T hk hd hu hret
  refine wpAny_call ?_
  k_dflt (refine' code_def (scope := Scope.mk _ _ _ _ _) (params := Arguments.mk _ _ _ _ _ _ _) (body := _ :: _) (binds := [(Str.ofString "self", Value.ref 127), (Str.ofString "obj", Value.ref x), (Str.ofString "objtype", Value.ref 135)]) ?k1 ?k2 ?k3 ?k4 ?k5 ?kA ?kF ?kK ?k6 ?k7 ?k8 ?k9 ?kB ?_ ?c2 ?c3 ?c4 ?c5; (case kA => exact rfl); (case kF => exact rfl); (case kK => assumption); (case k1 => k_asm); (case k2 => k_asm); (case k3 => k_asm); (case k4 => k_asm); (case k5 => k_asm); (case k6 => exact rfl); (case k7 => k_is); (case k8 => first | exact room0 hd | ktr_room); (case k9 => first | exact BindsTo.of_eq rfl | exact binds_K (by k_in) rfl (by k_is) rfl rfl rfl); (case c5 => decide); (case kB => exact locs rfl); (case c2 => exact rfl); (case c3 => exact rfl); (case c4 => exact rfl); k_whole; intro g' L' h' FG' F' N' B' X' T'; (try dsimp only); (try k_fold); refine fold_A ?_; intro AA; have hAu : AA.units = un + 3 := rfl; have hAd : AA.depth = dp + 1 := rfl; refine fold_env ?_; intro ee)
  k_steps
  refine Stop.go ?_
  rename (News _ _ _ _) => N7
  refine kto_own (C := 135) (od := some emptyDict) ⟨(N7 _ hx).1, rfl, rfl, (N7 _ hd').1⟩ ?_
  k_steps
  refine Stop.go ?_
  refine wpAny_call (sub_match (X'.keeps (Fr.keep (by assumption))) ?_)
  k_steps
  refine Stop.go ?_
  refine wpAny_call (item_match (X'.keeps (Fr.keep (by assumption))) (N7 _ hx).1 (by decide) (by decide) (j := 1) rfl rfl ?_)
  k_steps
  rename (Fr h₀ L _ m) => kF
  rename (News h₀ L _ _) => kN
  exact hret _ _ _ _ kF kN ⟨rfl, rfl⟩
theorem c_tget_c {news : Led} {x d : Addr} {a b c : Value} (hx : (x, matchO d #[a, b, c]) ∈ news) (hd' : (d, emptyDict) ∈ news) :
    Calls w mean mg mb 43 [.ref 130, .ref x, .ref 135] 4 news (fun v news' => v = c ∧ news' = news) := by
  w_on
  unfold Calls
  k_fill
  intro dp un gd cn csc aa ccd cl outer A₀ base h₀ L m s Q E B F X N T hk hd hu hret
  refine wpAny_call ?_
  k_dflt (refine' code_def (scope := Scope.mk _ _ _ _ _) (params := Arguments.mk _ _ _ _ _ _ _) (body := _ :: _) (binds := [(Str.ofString "self", Value.ref 130), (Str.ofString "obj", Value.ref x), (Str.ofString "objtype", Value.ref 135)]) ?k1 ?k2 ?k3 ?k4 ?k5 ?kA ?kF ?kK ?k6 ?k7 ?k8 ?k9 ?kB ?_ ?c2 ?c3 ?c4 ?c5; (case kA => exact rfl); (case kF => exact rfl); (case kK => assumption); (case k1 => k_asm); (case k2 => k_asm); (case k3 => k_asm); (case k4 => k_asm); (case k5 => k_asm); (case k6 => exact rfl); (case k7 => k_is); (case k8 => first | exact room0 hd | ktr_room); (case k9 => first | exact BindsTo.of_eq rfl | exact binds_K (by k_in) rfl (by k_is) rfl rfl rfl); (case c5 => decide); (case kB => exact locs rfl); (case c2 => exact rfl); (case c3 => exact rfl); (case c4 => exact rfl); k_whole; intro g' L' h' FG' F' N' B' X' T'; (try dsimp only); (try k_fold); refine fold_A ?_; intro AA; have hAu : AA.units = un + 3 := rfl; have hAd : AA.depth = dp + 1 := rfl; refine fold_env ?_; intro ee)
  k_steps
  refine Stop.go ?_
  rename (News _ _ _ _) => N7
  refine kto_own (C := 135) (od := some emptyDict) ⟨(N7 _ hx).1, rfl, rfl, (N7 _ hd').1⟩ ?_
  k_steps
  refine Stop.go ?_
  refine wpAny_call (sub_match (X'.keeps (Fr.keep (by assumption))) ?_)
  k_steps
  refine Stop.go ?_
  refine wpAny_call (item_match (X'.keeps (Fr.keep (by assumption))) (N7 _ hx).1 (by decide) (by decide) (j := 2) rfl rfl ?_)
  k_steps
  rename (Fr h₀ L _ m) => kF
  rename (News h₀ L _ _) => kN
  exact hret _ _ _ _ kF kN ⟨rfl, rfl⟩
end
theorem kreg10 : True := by
  k_with_none
  k_with "eval BinOp" => ((try clear qF0b); (fail_if_success (have hq9 := @qF0b)); refine fold_Q ?_; intro qF0b; walk_at "eval BinOp")
  k_with "eval BinOp" => ((try clear qF0); (fail_if_success (have hq9 := @qF0)); refine fold_Q ?_; intro qF0; walk_at "eval BinOp")
  k_with "isTrue Compare" => ((try clear qF1); (fail_if_success (have hq9 := @qF1)); refine fold_Q ?_; intro qF1; walk_at "isTrue Compare")
  k_with "eval Subscript" => ((try clear qF2b); (fail_if_success (have hq9 := @qF2b)); refine fold_Q ?_; intro qF2b; walk_at "eval Subscript")
  k_with "eval Subscript" => ((try clear qF2); (fail_if_success (have hq9 := @qF2)); refine fold_Q ?_; intro qF2; walk_at "eval Subscript")
  k_with "eval Call" => ((try clear qF3b); (fail_if_success (have hq9 := @qF3b)); refine fold_Q ?_; intro qF3b; walk_at "eval Call")
  k_with "eval Call" => ((try clear qF3); (fail_if_success (have hq9 := @qF3)); refine fold_Q ?_; intro qF3; walk_at "eval Call")
  k_with "eval Tuple" => ((try clear qF4); (fail_if_success (have hq9 := @qF4)); refine fold_Q ?_; intro qF4; walk_at "eval Tuple")
  k_with "exec Assign" => ((try clear qF5); (fail_if_success (have hq9 := @qF5)); refine fold_Q ?_; intro qF5; walk_at "exec Assign")
  k_with "exec AugAssign" => ((try clear qF6); (fail_if_success (have hq9 := @qF6)); refine fold_Q ?_; intro qF6; walk_at "exec AugAssign")
  k_with "eval Attribute Name" => ((try clear qF7); (fail_if_success (have hq9 := @qF7)); refine fold_Q ?_; intro qF7; walk_at "eval Attribute Name")
  k_with "isTrue BoolOp" => ((try clear qF8); (fail_if_success (have hq9 := @qF8)); refine fold_Q ?_; intro qF8; walk_at "isTrue BoolOp")
  k_with "exec If" => ((try clear qF9); (fail_if_success (have hq9 := @qF9)); refine fold_Q ?_; intro qF9; walk_at "exec If")
  k_with "eval Compare" => ((try clear qF10); (fail_if_success (have hq9 := @qF10)); refine fold_Q ?_; intro qF10; walk_at "eval Compare")
  k_with "eval Call Attribute" => ((try clear qF11); (fail_if_success (have hq9 := @qF11)); refine fold_Q ?_; intro qF11; walk_at "eval Call Attribute")
  k_with "eval List" => ((try clear qF12); (fail_if_success (have hq9 := @qF12)); refine fold_Q ?_; intro qF12; walk_at "eval List")
  k_with "exec Expr" => ((try clear qF13); (fail_if_success (have hq9 := @qF13)); refine fold_Q ?_; intro qF13; walk_at "exec Expr")
  k_with "exec Return some" => ((try clear qF14); (fail_if_success (have hq9 := @qF14)); refine fold_Q ?_; intro qF14; walk_at "exec Return some")
  k_with "pyIter ref" => (refine Stop.of ?_)
  k_with "exec While" => (refine Stop.of ?_)
  k_with "Turn" => (first | refine turn_brk ?_ | refine turn_ret ?_ | refine Stop.of ?_)
  k_with "WStep" => (first | refine wstep_brk ?_ | refine wstep_ret ?_ | refine Stop.of ?_)
  k_with "call builtin:len" => (k_here; (with_reducible show wpAny _ _ (call (Value.builtin "len") [Value.ref _]) _ _ _); k_dflt (refine' len_led (by k_asm) (by k_mem) (by (simp only [List.size_toArray] <;> lia)) ?_; k_whole))
  k_with "subscriptTail" => (k_here; (with_reducible show wpAny _ _ (subscriptTail _ _ (Value.ref _) (Value.int _ _)) _ _ _); k_dflt (refine' item_cs (by k_asm) (by k_mem) (by assumption) (by lia) (by lia) (by lia) ?_); intro _)
  k_with "WExit" => (refine Stop.of ?_)
  k_with "CompSrc" => (refine Stop.of ?_)
  k_with "CompEnd" => (refine Stop.of ?_)
  k_with "binaryOp Add ref ref" => (k_here; (with_reducible show wpAny _ _ (binaryOp _ (Value.ref _) (Value.ref _)) _ _ _); k_dflt (refine' cat_led (by k_asm) (by k_asm) (by k_mem) (by k_mem) ?_ (by (simp only [List.length_append, List.length_drop, List.length_take, List.length_cons, List.length_nil]; lia))); intro _ _ _ _ xl9; (try k_lt xl9); (try (revert xl9; intro _)))
  k_with "subscriptTail Name Slice ref ref" => (k_here; (with_reducible show wpAny _ _ (subscriptTail _ (PySem.Expr.Slice _ _ none _) (Value.ref _) (Value.ref _)) _ _ _); k_dflt (first | refine' slice_from (by k_asm) (by k_asm) (by k_dflt k_mem) (by lia) (by lia) ?_ (by with_unfolding_all rfl) (by kmk_pure) | refine' slice_upto (by k_asm) (by k_asm) (by k_dflt k_mem) (by lia) (by lia) ?_ (by with_unfolding_all rfl) (by kmk_pure)); intro _ _ _ _ xl9; (try k_lt xl9); (try (revert xl9; intro _)))
  k_with "call ref" => (refine Stop.of ?_)
  k_with "subscriptTail" => (k_here; (with_reducible show wpAny _ _ (subscriptTail _ _ (Value.ref _) (Value.int _ _)) _ _ _); k_dflt (refine' item_ints (by k_asm) (by k_mem) (by assumption) (by lia) (by lia) (by lia) ?_); intro _)
  k_with "assign Tuple cons ref" => (k_here; (with_reducible show wpAny _ _ (assign (Expr.Tuple _ _ _) _ (Value.ref _)) _ _ _); k_dflt (refine' unpackN_list (by k_asm) (by k_asm) (by k_mem) (by exact rfl) (by exact rfl) (by exact rfl) ?_); intro _ _ _)
  k_with "compareOp NotEq ref ref" => (refine Stop.of ?_)
  k_with "subscriptTail" => (k_here; (with_reducible show wpAny _ _ (subscriptTail _ _ (Value.ref _) (Value.int _ _)) _ _ _); k_dflt (refine' item_led (by k_asm) (by k_mem) (by decide) (by decide) (by exact rfl) ?_))
  k_with "subscriptTail" => (k_here; (with_reducible show wpAny _ _ (subscriptTail _ _ (Value.ref _) (Value.int (-1) _)) _ _ _); k_dflt (refine' item_last (by k_asm) (by k_mem) (by lia) ?_))
  k_with "getItem ref int" => (k_here; k_dflt (refine' getItem_led (by k_asm) (by k_mem) (by decide) (by decide) (by exact rfl) ?_))
  k_with "setItem ref int" => (refine Stop.of ?_)
  k_with "call builtin:list.append" => (refine Stop.of ?_)
  k_with "ite" => (first | with_reducible refine ite_tt ?_ | with_reducible refine ite_ff ?_ | (with_reducible refine split_ine ?_ ?_ <;> intro _) | (with_reducible refine split_ieq ?_ ?_ <;> intro _) | (refine split_dec ?_ ?_ <;> intro _))
  k_with "execs cons" => (dsimp only; walk_at "execs cons")
  k_with "execs nil" => (dsimp only; walk_at "execs nil")
  trivial
section
theorem kreg11 : True := by
  k_with "getAttr ref" => (refine Stop.of ?_)
  k_with "call type:list" => (refine Stop.of ?_)
  trivial
variable {w : World} {mean : ExcName → Option Value} {mg mb : Str → Option Value}
theorem ne_three {prog : Program} {w : World} {A : Around} {E : Value → Shared → Prop} {s : Shared} {h₀ : Heap} {L : Addr} {news : Led} {a b : Addr} {x y z x' y' z' : Int} {t1 t2 t3 u1 u2 u3 : Tok} {n k : Nat} {Q : Value → Shared → Prop} (N : News h₀ L s.heap news)
    (ha : (a, listOf [Value.int x t1, .int y t2, .int z t3].toArray n) ∈ news) (hb : (b, listOf [Value.int x' u1, .int y' u2, .int z' u3].toArray k) ∈ news) (hu : A.units + 64 < cLine) (h : Q (.bool (!decide (x = x' ∧ y = y' ∧ z = z'))) s) :
    wpAny (model prog w) A (compareOp .NotEq (.ref a) (.ref b)) Q E s :=
  ne_dataH (reads_list_at (News.get N ha) rfl rfl (.cons (.int _ _) (.cons (.int _ _) (.cons (.int _ _) .nil)))) (reads_list_at (News.get N hb) rfl rfl (.cons (.int _ _) (.cons (.int _ _) (.cons (.int _ _) .nil)))) rfl rfl hu
    (by rw [show PyData.eqv (.list [.int x, .int y, .int z]) (.list [.int x', .int y', .int z']) = decide (x = x' ∧ y = y' ∧ z = z') by
          simp only [PyData.eqv, PyData.eqvAll, Bool.and_true]
          rw [Bool.eq_iff_iff]
          simp only [Bool.and_eq_true, beq_iff_eq, decide_eq_true_eq]]
        exact h)
inductive RNam (news : Led) (a b c : Int) (v : Value) (news' : Led) : Prop
  | mk (r : Addr) (u1 : Tok) (u2 : Tok) (u3 : Tok) (h1 : v = .ref r) (h2 : news' = (r, listOf [.int a u1, .int b u2, .int c u3].toArray 0) :: news) (h3 : ∀ q ∈ news, q.1 < r) : RNam news a b c v news'
theorem c_names {news : Led} {x d : Addr} {a b c : Int} {t1 t2 t3 : Tok} (hx : (x, matchO d #[.int a t1, .int b t2, .int c t3]) ∈ news) (hd' : (d, emptyDict) ∈ news) :
    Calls w mean mg mb 282 [.ref x] 12 news (RNam news a b c) := by
  w_on
  unfold Calls
  k_fill
  intro dp un gd cn csc aa ccd cl outer A₀ base h₀ L m s Q E B F X N T hk hd hu hret
  refine wpAny_call ?_
  k_dflt (refine' code_def (scope := Scope.mk _ _ _ _ _) (params := Arguments.mk _ _ _ _ _ _ _) (body := _ :: _) (binds := [(Str.ofString "found", Value.ref x)]) ?k1 ?k2 ?k3 ?k4 ?k5 ?kA ?kF ?kK ?k6 ?k7 ?k8 ?k9 ?kB ?_ ?c2 ?c3 ?c4 ?c5; (case kA => exact rfl); (case kF => exact rfl); (case kK => assumption); (case k1 => k_asm); (case k2 => k_asm); (case k3 => k_asm); (case k4 => k_asm); (case k5 => k_asm); (case k6 => exact rfl); (case k7 => k_is); (case k8 => first | exact room0 hd | ktr_room); (case k9 => exact BindsTo.of_eq rfl); (case c5 => decide); (case kB => exact locs rfl); (case c2 => exact rfl); (case c3 => exact rfl); (case c4 => exact rfl); k_whole; intro g' L' h' FG' F' N' B' X' T'; (try dsimp only); (try k_fold); refine fold_A ?_; intro AA; have hAu : AA.units = un + 3 := rfl; have hAd : AA.depth = dp + 1 := rfl; refine fold_env ?_; intro ee)
  k_steps
  refine Stop.go ?_
  rename (News _ _ _ _) => N19
  refine get_match (X'.keeps (Fr.keep (by assumption))) (N19 _ hx).1 (N19 _ hd').1 (fo_a w) fun E1 => ?_
  k_dflt (refine' Calls.use (c_tget_a hx hd') ?B ?F ?X ?N ?T ?hk ?hd ?hu ?_; (case B => k_asm); (case F => k_asm); (case X => k_asm); (case N => exact N19); (case T => k_asm); (case hk => exact rfl); (case hd => first | exact room1 hd (by decide) | ktr_room); (case hu => first | exact units1 hu (by decide) | ktr_units))
  rintro v nx' h11 tk11 F11 N11 ⟨rfl, rfl⟩
  refine handed_on rfl ?_
  clear N19 E1
  k_steps
  refine Stop.go ?_
  refine get_match (X'.keeps (Fr.keep (by assumption))) (N11 _ hx).1 (N11 _ hd').1 (fo_b w) fun E1 => ?_
  k_dflt (refine' Calls.use (c_tget_b hx hd') ?B ?F ?X ?N ?T ?hk ?hd ?hu ?_; (case B => k_asm); (case F => k_asm); (case X => k_asm); (case N => exact N11); (case T => k_asm); (case hk => exact rfl); (case hd => first | exact room1 hd (by decide) | ktr_room); (case hu => first | exact units1 hu (by decide) | ktr_units))
  rintro v nx' h12 tk12 F12 N12 ⟨rfl, rfl⟩
  refine handed_on rfl ?_
  clear N11 E1
  k_steps
  refine Stop.go ?_
  refine get_match (X'.keeps (Fr.keep (by assumption))) (N12 _ hx).1 (N12 _ hd').1 (fo_c w) fun E1 => ?_
  k_dflt (refine' Calls.use (c_tget_c hx hd') ?B ?F ?X ?N ?T ?hk ?hd ?hu ?_; (case B => k_asm); (case F => k_asm); (case X => k_asm); (case N => exact N12); (case T => k_asm); (case hk => exact rfl); (case hd => first | exact room1 hd (by decide) | ktr_room); (case hu => first | exact units1 hu (by decide) | ktr_units))
  rintro v nx' h13 tk13 F13 N13 ⟨rfl, rfl⟩
  refine handed_on rfl ?_
  clear N12 E1
  k_steps
  refine Stop.go ?_
  rename (News _ _ _ _) => N14
  rename (Fr _ _ _ _) => F14
  refine list_match X' rfl F14 N14 (.tail _ hx) (by simp) fun D9 c9 h9 tk9 F9 N9 l9 => ?_
  k_steps
  refine Stop.go ?_
  refine ne_three N9 (.head _) (.tail _ (.head _)) ?hu ?_
  case hu => first | exact units2 hu (by decide) | ktr_units
  rw [show (!decide (a = a ∧ b = b ∧ c = c)) = false by simp]
  k_steps
  refine Stop.go ?_
  rename (∀ (p : Addr × Obj), p ∈ nx' → _) => l1
  refine LCg.CompSrc.ledger rfl F9 N9 (.tail _ (.head _)) ?_ fun g => ?_
  · rw [PySem.sizeLine_eq]; simp
  refine comp_gen (fun ys nx => nx = _ :: _ :: nx' ∧ ys = List.replicate ys.length (.bool true)) ⟨rfl, rfl⟩ ?turn ?fin
  case turn =>
    rintro v I oI C oC D m₂ zs nx h tk E' hl hv ⟨rfl, hzs⟩ hC hX F1 N1 off ne
    obtain ⟨y, ty, rfl⟩ : ∃ y ty, v = .int y ty := by
      generalize zs.length = i at hv hl
      match i, hl with
      | 0, _ => exact ⟨_, _, (Option.some.inj hv).symm⟩
      | 1, _ => exact ⟨_, _, (Option.some.inj hv).symm⟩
      | 2, _ => exact ⟨_, _, (Option.some.inj hv).symm⟩
      | i + 3, h => exact absurd h (by simp)
    k_steps
    refine Stop.go ?_
    exact ⟨_, _, _, rfl, F1, N1, off, .inr ⟨_, .tail _ (.head _), rfl, _, rfl⟩, rfl, by rw [List.length_append, List.length_singleton, List.replicate_succ', ← hzs]⟩
  case fin =>
    rintro zt nx hztl ⟨rfl, hzt⟩
    unfold LCg.FinE
    intro D2 h2 tk2 F3 N3 off3
    try dsimp only
    k_steps
    obtain rfl : zt = [.bool true, .bool true, .bool true] := by rw [hzt, hztl]; rfl
    refine SeqAt.in_list_reads (reads_list_at (N3 _ (.head _)).1 rfl rfl (.cons (.bool _) (.cons (.bool _) (.cons (.bool _) .nil)))) (.bool false) rfl rfl (Nat.lt_of_le_of_lt (Nat.add_le_add_left (Nat.min_le_right _ _) _) ?hu) ?_
    case hu =>
      rw [show (PyData.bool false).depth = 0 from rfl]
      ktr_units
    k_steps
    rename (Fr h₀ L _ m) => kF
    rename (News h₀ L _ _) => kN
    exact hret _ _ _ _ kF (News.sub kN fun q hq => by
      rcases List.mem_cons.mp hq with rfl | hq
      · exact .tail _ (.tail _ (.head _))
      · exact .tail _ (.tail _ (.tail _ hq))) ⟨_, _, _, _, rfl, rfl, l1⟩
end
theorem kreg12 : True := by
  k_with_none
  k_with "eval BinOp" => ((try clear qF0b); (fail_if_success (have hq9 := @qF0b)); refine fold_Q ?_; intro qF0b; walk_at "eval BinOp")
  k_with "eval BinOp" => ((try clear qF0); (fail_if_success (have hq9 := @qF0)); refine fold_Q ?_; intro qF0; walk_at "eval BinOp")
  k_with "isTrue Compare" => ((try clear qF1); (fail_if_success (have hq9 := @qF1)); refine fold_Q ?_; intro qF1; walk_at "isTrue Compare")
  k_with "eval Subscript" => ((try clear qF2b); (fail_if_success (have hq9 := @qF2b)); refine fold_Q ?_; intro qF2b; walk_at "eval Subscript")
  k_with "eval Subscript" => ((try clear qF2); (fail_if_success (have hq9 := @qF2)); refine fold_Q ?_; intro qF2; walk_at "eval Subscript")
  k_with "eval Call" => ((try clear qF3b); (fail_if_success (have hq9 := @qF3b)); refine fold_Q ?_; intro qF3b; walk_at "eval Call")
  k_with "eval Call" => ((try clear qF3); (fail_if_success (have hq9 := @qF3)); refine fold_Q ?_; intro qF3; walk_at "eval Call")
  k_with "eval Tuple" => ((try clear qF4); (fail_if_success (have hq9 := @qF4)); refine fold_Q ?_; intro qF4; walk_at "eval Tuple")
  k_with "exec Assign" => ((try clear qF5); (fail_if_success (have hq9 := @qF5)); refine fold_Q ?_; intro qF5; walk_at "exec Assign")
  k_with "exec AugAssign" => ((try clear qF6); (fail_if_success (have hq9 := @qF6)); refine fold_Q ?_; intro qF6; walk_at "exec AugAssign")
  k_with "eval Attribute Name" => ((try clear qF7); (fail_if_success (have hq9 := @qF7)); refine fold_Q ?_; intro qF7; walk_at "eval Attribute Name")
  k_with "isTrue BoolOp" => ((try clear qF8); (fail_if_success (have hq9 := @qF8)); refine fold_Q ?_; intro qF8; walk_at "isTrue BoolOp")
  k_with "exec If" => ((try clear qF9); (fail_if_success (have hq9 := @qF9)); refine fold_Q ?_; intro qF9; walk_at "exec If")
  k_with "eval Compare" => ((try clear qF10); (fail_if_success (have hq9 := @qF10)); refine fold_Q ?_; intro qF10; walk_at "eval Compare")
  k_with "eval Call Attribute" => ((try clear qF11); (fail_if_success (have hq9 := @qF11)); refine fold_Q ?_; intro qF11; walk_at "eval Call Attribute")
  k_with "eval List" => ((try clear qF12); (fail_if_success (have hq9 := @qF12)); refine fold_Q ?_; intro qF12; walk_at "eval List")
  k_with "exec Expr" => ((try clear qF13); (fail_if_success (have hq9 := @qF13)); refine fold_Q ?_; intro qF13; walk_at "exec Expr")
  k_with "exec Return some" => ((try clear qF14); (fail_if_success (have hq9 := @qF14)); refine fold_Q ?_; intro qF14; walk_at "exec Return some")
  k_with "pyIter ref" => (refine Stop.of ?_)
  k_with "exec While" => (refine Stop.of ?_)
  k_with "Turn" => (first | refine turn_brk ?_ | refine turn_ret ?_ | refine Stop.of ?_)
  k_with "WStep" => (first | refine wstep_brk ?_ | refine wstep_ret ?_ | refine Stop.of ?_)
  k_with "call builtin:len" => (k_here; (with_reducible show wpAny _ _ (call (Value.builtin "len") [Value.ref _]) _ _ _); k_dflt (refine' len_led (by k_asm) (by k_mem) (by (simp only [List.size_toArray] <;> lia)) ?_; k_whole))
  k_with "subscriptTail" => (k_here; (with_reducible show wpAny _ _ (subscriptTail _ _ (Value.ref _) (Value.int _ _)) _ _ _); k_dflt (refine' item_cs (by k_asm) (by k_mem) (by assumption) (by lia) (by lia) (by lia) ?_); intro _)
  k_with "WExit" => (refine Stop.of ?_)
  k_with "CompSrc" => (refine Stop.of ?_)
  k_with "CompEnd" => (refine Stop.of ?_)
  k_with "binaryOp Add ref ref" => (k_here; (with_reducible show wpAny _ _ (binaryOp _ (Value.ref _) (Value.ref _)) _ _ _); k_dflt (refine' cat_led (by k_asm) (by k_asm) (by k_mem) (by k_mem) ?_ (by (simp only [List.length_append, List.length_drop, List.length_take, List.length_cons, List.length_nil]; lia))); intro _ _ _ _ xl9; (try k_lt xl9); (try (revert xl9; intro _)))
  k_with "subscriptTail Name Slice ref ref" => (k_here; (with_reducible show wpAny _ _ (subscriptTail _ (PySem.Expr.Slice _ _ none _) (Value.ref _) (Value.ref _)) _ _ _); k_dflt (first | refine' slice_from (by k_asm) (by k_asm) (by k_dflt k_mem) (by lia) (by lia) ?_ (by with_unfolding_all rfl) (by kmk_pure) | refine' slice_upto (by k_asm) (by k_asm) (by k_dflt k_mem) (by lia) (by lia) ?_ (by with_unfolding_all rfl) (by kmk_pure)); intro _ _ _ _ xl9; (try k_lt xl9); (try (revert xl9; intro _)))
  k_with "call ref" => (refine Stop.of ?_)
  k_with "subscriptTail" => (k_here; (with_reducible show wpAny _ _ (subscriptTail _ _ (Value.ref _) (Value.int _ _)) _ _ _); k_dflt (refine' item_ints (by k_asm) (by k_mem) (by assumption) (by lia) (by lia) (by lia) ?_); intro _)
  k_with "assign Tuple cons ref" => (k_here; (with_reducible show wpAny _ _ (assign (Expr.Tuple _ _ _) _ (Value.ref _)) _ _ _); k_dflt (refine' unpackN_list (by k_asm) (by k_asm) (by k_mem) (by exact rfl) (by exact rfl) (by exact rfl) ?_); intro _ _ _)
  k_with "compareOp NotEq ref ref" => (refine Stop.of ?_)
  k_with "subscriptTail" => (k_here; (with_reducible show wpAny _ _ (subscriptTail _ _ (Value.ref _) (Value.int _ _)) _ _ _); k_dflt (refine' item_led (by k_asm) (by k_mem) (by decide) (by decide) (by exact rfl) ?_))
  k_with "subscriptTail" => (k_here; (with_reducible show wpAny _ _ (subscriptTail _ _ (Value.ref _) (Value.int (-1) _)) _ _ _); k_dflt (refine' item_last (by k_asm) (by k_mem) (by lia) ?_))
  k_with "getItem ref int" => (k_here; k_dflt (refine' getItem_led (by k_asm) (by k_mem) (by decide) (by decide) (by exact rfl) ?_))
  k_with "setItem ref int" => (refine Stop.of ?_)
  k_with "call builtin:list.append" => (refine Stop.of ?_)
  k_with "ite" => (first | with_reducible refine ite_tt ?_ | with_reducible refine ite_ff ?_ | (with_reducible refine split_ine ?_ ?_ <;> intro _) | (with_reducible refine split_ieq ?_ ?_ <;> intro _) | (refine split_dec ?_ ?_ <;> intro _))
  k_with "execs cons" => (dsimp only; walk_at "execs cons")
  k_with "execs nil" => (dsimp only; walk_at "execs nil")
  trivial
theorem kreg13 : True := by
  k_with "getAttr ref" => (k_here; k_dflt (refine' get_fld (by k_asm) (by k_asm) (by k_asm) (by k_mem) (by k_mem) (by assumption) (by k_is) (by first | exact rfl | assumption | (dsimp only; (repeat (rw [if_neg (by decide)])); first | exact rfl | assumption)) (by first | exact rfl | assumption) ?_))
  k_with "getMethod ref" => (k_here; k_dflt (refine' meth_fld (by k_asm) (by k_asm) (by k_asm) (by k_mem) (by k_mem) (by assumption) (by k_is) (by k_is) (by first | exact rfl | assumption | (dsimp only; (repeat (rw [if_neg (by decide)])); first | exact rfl | assumption)) ?_))
  k_with "setAttr ref" => (k_here; k_dflt (refine' set_fld (by k_asm) (by k_asm) (by k_asm) (by k_mem) (by k_mem) (by assumption) (by lia) (by k_is) (by first | k_updF | fail) ?_); intro _ _ _ _ _ xN9; (try dsimp only at xN9); (try (revert xN9; intro _)))
  trivial
section
variable {w : World} {mean : ExcName → Option Value} {mg mb : Str → Option Value}
theorem is_not {p : Addr} {o : Obj} {va : Value} {rest : Led} {A : Around} {E : Value → Shared → Prop} {s : Shared} {h₀ : Heap} {L : Addr} {Q : Value → Shared → Prop} (N : News h₀ L s.heap rest) (hp : (p, o) ∈ rest) (hc : o.cls ≠ .type "tuple")
    (hva : va = .none ∨ ∃ q o, va = .ref q ∧ q ≠ p ∧ (q, o) ∈ rest) (h : Q (.bool false) s) : wpAny (M0 w) A (compareOp .Is (.ref p) va) Q E s := by
  rcases hva with rfl | ⟨q, oq, rfl, hne, hq⟩
  · exact wpAny_is_other (by rfl) (by intro x; cases x) h
  · exact kto_is (N _ hp).1 (N _ hq).1 (Ne.symm hne) hc h
inductive RSet1 (rest : Led) (D p : Addr) (k : Nat) (f : Str → Option Value) (v : Value) (news' : Led) : Prop
  | mk (h1 : v = .none) (es' : List DictEntry) (n' : Nat) (h2 : news' = (D, dictOf es' n') :: rest) (h3 : Flds (k + 3) es' (fun y => if y = "opcodes" then some .none else if y = "matching_blocks" then some .none else if y = "a" then some (.ref p) else f y)) : RSet1 rest D p k f v news'
theorem c_set1 {rest : Led} {M D p : Addr} {es : List DictEntry} {n k : Nat} {f : Str → Option Value} {va : Value} (hM : (M, instObj 242 D) ∈ rest) (hD : ∀ q ∈ rest, q.1 ≠ D) (fl : Flds k es f) (hk : k ≤ 500) (ha : f "a" = some va) (hva : va = .none ∨ ∃ q o, va = .ref q ∧ q ≠ p ∧ (q, o) ∈ rest) {o : Obj} (hp : (p, o) ∈ rest) (hc : o.cls ≠ .type "tuple") (hh : handedIn va = true) :
    Calls w mean mg mb 174 [.ref M, .ref p] 4 ((D, dictOf es n) :: rest) (RSet1 rest D p k f) := by
  w_on
  unfold Calls
  k_fill
  intro dp un gd cn csc aa ccd cl outer A₀ base h₀ L m s Q E B F X N T hk hd hu hret
  refine wpAny_call ?_
  k_dflt (refine' code_def (scope := Scope.mk _ _ _ _ _) (params := Arguments.mk _ _ _ _ _ _ _) (body := _ :: _) (binds := [(Str.ofString "self", Value.ref M), (Str.ofString "a", Value.ref p)]) ?k1 ?k2 ?k3 ?k4 ?k5 ?kA ?kF ?kK ?k6 ?k7 ?k8 ?k9 ?kB ?_ ?c2 ?c3 ?c4 ?c5; (case kA => exact rfl); (case kF => exact rfl); (case kK => assumption); (case k1 => k_asm); (case k2 => k_asm); (case k3 => k_asm); (case k4 => k_asm); (case k5 => k_asm); (case k6 => exact rfl); (case k7 => k_is); (case k8 => first | exact room0 hd | ktr_room); (case k9 => first | exact BindsTo.of_eq rfl | exact binds_K (by k_in) rfl (by k_is) rfl rfl rfl); (case c5 => decide); (case kB => exact locs rfl); (case c2 => exact rfl); (case c3 => exact rfl); (case c4 => exact rfl); k_whole; intro g' L' h' FG' F' N' B' X' T'; (try dsimp only); (try k_fold); refine fold_A ?_; intro AA; have hAu : AA.units = un + 3 := rfl; have hAd : AA.depth = dp + 1 := rfl; refine fold_env ?_; intro ee)
  k_steps
  refine is_not N' (.tail _ hp) hc (hva.imp id fun ⟨q, o, a, b, c⟩ => ⟨q, o, a, b, .tail _ c⟩) ?_
  k_steps
  rename (Fr h₀ L _ m) => kF
  rename (News h₀ L _ _) => kN
  exact hret _ _ _ _ kF kN ⟨rfl, _, _, rfl, by assumption⟩
end
local macro_rules | `(tactic| k_updF) => `(tactic| (refine' UpdF.app ?a ?b; (case a => assumption); (case b => k_updF)))
local macro_rules | `(tactic| k_updF) => `(tactic| (refine' UpdF.tail ?a ?b; (case a => assumption); (case b => k_updF)))
theorem kreg14 : True := by
  k_with "call type:enumerate" => (refine Stop.of ?_)
  k_with "call type:set" => (refine Stop.of ?_)
  k_with "call type:set nil nil" => (refine Stop.of ?_)
  k_with "call builtin:dict.setdefault" => (refine Stop.of ?_)
  k_with "call builtin:set.add" => (refine Stop.of ?_)
  k_with "truthy ref" => (refine Stop.of ?_)
  k_with "delItem" => (refine Stop.of ?_)
  k_with "exec For" => (refine Stop.of ?_)
  k_with "getMethod ref" => (k_here; k_dflt (first | ((with_reducible show wpAny _ _ (getMethod (Value.ref _) (Str.ofString "setdefault") _) _ _ _); refine kob_method (knd := PySem.intKind _ _) PySem.F.slot_dict_setdefault PySem.F.type_dict_setdefault (by k_asm) (by k_mem) (by assumption) ?_) | ((with_reducible show wpAny _ _ (getMethod (Value.ref _) (Str.ofString "keys") _) _ _ _); refine kdl_method (knd := PySem.intKind _ _) PySem.F.slot_dict_keys PySem.F.type_dict_keys (by k_asm) (by k_mem) (by assumption) ?_) | ((with_reducible show wpAny _ _ (getMethod (Value.ref _) (Str.ofString "get") _) _ _ _); refine kdg_method (knd := PySem.intKind _ _) (by k_asm) (by k_mem) (by assumption) ?_)))
  k_with "exec For Tuple Call cons nil" => (refine Stop.of ?_)
  k_with "exec For Name Call cons nil" => (refine Stop.of ?_)
  k_with "exec For Name Name cons nil" => (refine Stop.of ?_)
  k_with "exec For Tuple Name cons nil" => (refine Stop.of ?_)
  k_with "exec For Name Attribute cons nil" => (refine Stop.of ?_)
  k_with "exec For Tuple Call" => (refine Stop.of ?_)
  k_with "call builtin:dict.keys" => (refine Stop.of ?_)
  k_with "callWith ref" => (k_here; k_dflt (refine' callWith_F (by exact FnAt.of (by k_asm) (by k_mem)) ?_; k_whole))
  k_with "And" => ((with_reducible show FnAt _ _ ∧ _); refine ⟨FnAt.of (by k_asm) (by k_mem), ?_⟩; try dsimp only [List.nil_append, List.cons_append])
  trivial
section
variable {w : World} {mean : ExcName → Option Value} {mg mb : Str → Option Value}
/-- the function that tells junk -/
abbrev JkFn (w : World) (mean : ExcName → Option Value) (mg mb : Str → Option Value) (fn : Addr) (rest : Led) : Prop :=
  (∃ fd, (fn, ({ cls := .type "function", data := .func fd } : Obj)) ∈ rest) ∧ ∀ (news : Led) (x : Int) (t : Tok), (∀ p ∈ rest, p ∈ news) → Calls w mean mg mb fn [.int x t] 6 news (fun v news' => v = .bool (decide (x = 0)) ∧ news' = news)
/-- what the index of b is -/
structure SMB (w : World) (jk : Option Int) (ys : List Int) (nl : Led) (Bx Jx Px : Addr) : Prop where
  idx : ∃ oB kvs, (Bx, oB) ∈ nl ∧ oB.IsDictOf (PySem.intKind (OpenLaw.prog PySem.Challenge.rw_pg0326_01) w) kvs ∧ kvs.length ≤ 200 ∧ (Bx == sysModules) = false ∧
    ∀ x, if jk = some x then valueAt kvs x = none else (valueAt kvs x = none → x ∉ ys) ∧ ∀ v, valueAt kvs x = some v → ∃ a vs c, v = .ref a ∧ (a, listOf vs.toArray c) ∈ nl ∧ IntsAre vs (pos ys x ys.length)
  junk : ∃ oJ n, (Jx, oJ) ∈ nl ∧ oJ.SetObjOf (PySem.intKind (OpenLaw.prog PySem.Challenge.rw_pg0326_01) w) (fun x => decide (jk = some x ∧ x ∈ ys)) n ∧ n ≤ 1
  it : ∀ p ∈ nl, noIt p.2 = true
theorem dict_noIt {prog : Program} {w : World} {K : Type} [DecidableEq K] {knd : KeyKind prog w K} {o : Obj} {kvs : List (K × Value)} (h : o.IsDictOf knd kvs) : noIt o = true := by
  obtain ⟨es, ep, hx, _⟩ := h
  unfold noIt
  rw [hx.1]
  rfl
theorem led_upd {h₀ h' : Heap} {L a : Addr} {o' : Obj} {pre nl base : Led} (N : News h₀ L h' ((pre ++ (nl ++ base)).map fun p => if p.1 = a then (a, o') else p)) (hpre : ∀ p ∈ pre, p.1 ≠ a) (hbase : ∀ p ∈ base, p.1 ≠ a) : News h₀ L h' (pre ++ (updL a o' nl ++ base)) := by
  have e : ∀ l : Led, (∀ p ∈ l, p.1 ≠ a) → (l.map fun p => if p.1 = a then (a, o') else p) = l := fun l hl => by
    induction l with
    | nil => rfl
    | cons p r ih => rw [List.map_cons, if_neg (hl p (.head _)), ih fun q hq => hl q (.tail _ hq)]
  rw [List.map_append, List.map_append, e pre hpre, e base hbase] at N
  exact N
theorem smb_noIt {nl : Led} {a b c : Addr × Obj} (hn : ∀ p ∈ nl, noIt p.2 = true) (hc : noIt c.2 = true) (hb : noIt b.2 = true) (ha : noIt a.2 = true) : ∀ p ∈ a :: b :: c :: nl, noIt p.2 = true := fun p hp => by
  rcases List.mem_cons.mp hp with rfl | hp
  · exact ha
  · rcases List.mem_cons.mp hp with rfl | hp
    · exact hb
    · rcases List.mem_cons.mp hp with rfl | hp
      · exact hc
      · exact hn p hp
theorem smb_ord {nl rest : Led} {D Bx Jx Px : Addr} {oD oD' oD2 oD3 oB oJ oJ' oP : Obj} (hb : ∀ q ∈ (D, oD) :: rest, q.1 < Bx) (hn : ∀ p ∈ nl, Bx < p.1) (lJ : ∀ p ∈ (Bx, oB) :: (nl ++ (D, oD2) :: rest), p.1 < Jx) (lP : ∀ p ∈ (Jx, oJ) :: (Bx, oB) :: (nl ++ (D, oD3) :: rest), p.1 < Px) :
    ∀ p ∈ (Px, oP) :: (Jx, oJ') :: (Bx, oB) :: nl, ∀ q ∈ (D, oD') :: rest, q.1 < p.1 := fun p hp q hq => by
  have q1 : q.1 < Bx := by
    rcases List.mem_cons.mp hq with rfl | hq
    · exact hb (D, oD) (.head _)
    · exact hb q (.tail _ hq)
  have q2 : @LT.lt Nat _ Bx Jx := lJ _ (.head _)
  have q3 : @LT.lt Nat _ Jx Px := lP _ (.head _)
  rcases List.mem_cons.mp hp with rfl | hp
  · exact Nat.lt_trans q1 (Nat.lt_trans q2 q3)
  · rcases List.mem_cons.mp hp with rfl | hp
    · exact Nat.lt_trans q1 q2
    · rcases List.mem_cons.mp hp with rfl | hp
      · exact q1
      · exact Nat.lt_trans q1 (hn p hp)
theorem int_shape {prog : Program} {w : World} {k : Int} {v : Value} (h : (PySem.intKind prog w).is k v = true) : ∃ t, v = .int k t := by
  cases v with
  | int i t =>
    have : i = k := (PySem.intKind prog w).inj _ _ _ (intKind_is prog w i t) h
    subst this
    exact ⟨t, rfl⟩
  | _ => exact absurd h (by intro h; cases h)
inductive RChain (w : World) (rest : Led) (D : Addr) (es : List DictEntry) (n k : Nat) (f : Str → Option Value) (jk : Option Int) (ys : List Int) (v : Value) (news' : Led) : Prop
  | mk (h1 : v = .none) (es' : List DictEntry) (n' : Nat) (nl : Led) (Bx : Addr) (Jx : Addr) (Px : Addr) (h2 : news' = nl ++ (D, dictOf es' n') :: rest) (h3 : (∀ p ∈ nl, ∀ q ∈ (D, dictOf es n) :: rest, q.1 < p.1)) (h4 : Flds (k + 3) es' (fun y => if y = "bpopular" then some (.ref Px) else if y = "bjunk" then some (.ref Jx) else if y = "b2j" then some (.ref Bx) else f y)) (h5 : SMB w jk ys nl Bx Jx Px) : RChain w rest D es n k f jk ys v news'
inductive JCha (w : World) (rest : Led) (D Bx M p : Addr) (es1 : List DictEntry) (n1 : Nat) (ys : List Int) (i : Nat) (m : Str → Option Value) (nx : Led) : Prop
  | mk (kvs : List (Int × Value)) (oB : Obj) (nl : Led) (h1 : nx = (Bx, oB) :: (nl ++ (D, dictOf es1 n1) :: rest)) (h2 : oB.IsDictOf (PySem.intKind (OpenLaw.prog PySem.Challenge.rw_pg0326_01) w) kvs) (h3 : IdxL nl kvs ys i) (h4 : noIt oB = true) (h5 : (∀ p ∈ nl, noIt p.2 = true)) (h6 : (∀ p ∈ nl, Bx < p.1)) (h7 : Has m [(Str.ofString "self", .ref M), (Str.ofString "b", .ref p), (Str.ofString "b2j", .ref Bx)]) : JCha w rest D Bx M p es1 n1 ys i m nx
inductive JChb (w : World) (rest nl : Led) (D Bx Jx Vx M p fn : Addr) (oB : Obj) (es2 : List DictEntry) (n2 : Nat) (kvs : List (Int × Value)) (i : Nat) (m : Str → Option Value) (nx : Led) : Prop
  | mk (oJ : Obj) (h1 : nx = (Vx, { cls := .type "dict_keys", data := .fields #[.ref Bx] }) :: (Jx, oJ) :: (Bx, oB) :: (nl ++ (D, dictOf es2 n2) :: rest)) (h2 : noIt oJ = true) (h3 : Has m [(Str.ofString "isjunk", .ref fn), (Str.ofString "junk", .ref Jx), (Str.ofString "self", .ref M), (Str.ofString "b", .ref p), (Str.ofString "b2j", .ref Bx)]) (h4 : ((0 ∉ (kvs.take i).map (·.1) ∧ oJ = set0 (bt w)) ∨ (0 ∈ (kvs.take i).map (·.1) ∧ ∃ t, oJ = set1 (bt w) t))) : JChb w rest nl D Bx Jx Vx M p fn oB es2 n2 kvs i m nx
inductive JChc (w : World) (rest nl : Led) (D Bx Jx Vx M p fn : Addr) (es2 : List DictEntry) (n2 : Nat) (kvs : List (Int × Value)) (t0 : Tok) (m : Str → Option Value) (nx : Led) : Prop
  | mk (oB' : Obj) (h1 : nx = (Vx, { cls := .type "dict_keys", data := .fields #[.ref Bx] }) :: (Jx, set1 (bt w) t0) :: (Bx, oB') :: (nl ++ (D, dictOf es2 n2) :: rest)) (h2 : oB'.IsDictOf (PySem.intKind (OpenLaw.prog PySem.Challenge.rw_pg0326_01) w) (PySem.without kvs 0)) (h3 : Has m [(Str.ofString "isjunk", .ref fn), (Str.ofString "junk", .ref Jx), (Str.ofString "self", .ref M), (Str.ofString "b", .ref p), (Str.ofString "b2j", .ref Bx)]) : JChc w rest nl D Bx Jx Vx M p fn es2 n2 kvs t0 m nx
theorem c_chain {rest : Led} {M D p : Addr} {es : List DictEntry} {n k c : Nat} {f : Str → Option Value} {jkv : Value} {au : Bool} {jk : Option Int} {vs : List Value} {ys : List Int} (hM : (M, instObj 242 D) ∈ rest) (hD : ∀ q ∈ rest, q.1 ≠ D) (fl : Flds k es f) (hk : k ≤ 500)
    (hb : f "b" = some (.ref p)) (hp : (p, listOf vs.toArray c) ∈ rest) (hy : IntsAre vs ys) (hl : ys.length ≤ 100) (hj : f "isjunk" = some jkv) (hau : f "autojunk" = some (.bool au)) (hjk : (jkv = .none ∧ jk = none) ∨ ∃ fn, jkv = .ref fn ∧ jk = some 0 ∧ JkFn w mean mg mb fn rest) (hh : handedIn jkv = true) {ex : List Addr} (hno : NoIt ex ((D, dictOf es n) :: rest)) :
    Calls w mean mg mb 188 [.ref M] 12 ((D, dictOf es n) :: rest) (RChain w rest D es n k f jk ys) := by
  w_on
  unfold Calls
  k_fill
  intro dp un gd cn csc aa ccd cl outer A₀ base h₀ L m s Q E B F X N T hk hd hu hret
  refine wpAny_call ?_
  k_dflt (refine' code_def (scope := Scope.mk _ _ _ _ _) (params := Arguments.mk _ _ _ _ _ _ _) (body := _ :: _) (binds := [(Str.ofString "self", Value.ref M)]) ?k1 ?k2 ?k3 ?k4 ?k5 ?kA ?kF ?kK ?k6 ?k7 ?k8 ?k9 ?kB ?_ ?c2 ?c3 ?c4 ?c5; (case kA => exact rfl); (case kF => exact rfl); (case kK => assumption); (case k1 => k_asm); (case k2 => k_asm); (case k3 => k_asm); (case k4 => k_asm); (case k5 => k_asm); (case k6 => exact rfl); (case k7 => k_is); (case k8 => first | exact room0 hd | ktr_room); (case k9 => first | exact BindsTo.of_eq rfl | exact binds_K (by k_in) rfl (by k_is) rfl rfl rfl); (case c5 => decide); (case kB => exact locs rfl); (case c2 => exact rfl); (case c3 => exact rfl); (case c4 => exact rfl); k_whole; intro g' L' h' FG' F' N' B' X' T'; (try dsimp only); (try k_fold); refine fold_A ?_; intro AA; have hAu : AA.units = un + 3 := rfl; have hAd : AA.depth = dp + 1 := rfl; refine fold_env ?_; intro ee)
  have hyl := hy.length
  k_steps
  refine Stop.go ?_
  rename (Fr _ _ _ _) => F1
  rename (News _ _ _ _) => N1
  rename_i h1 tk1 Bx h2 o0 loB _ _ hd0 _ lB es1 n1 h3 fl1 h4
  k_dflt (refine' For_turns F1 ?_)
  k_steps
  refine Stop.go ?_
  have hbase : ∀ q ∈ (D, dictOf es1 n1) :: rest, q.1 < Bx := fun q hq => by
    rcases List.mem_cons.mp hq with rfl | hq
    · exact lB.1
    · exact allLt_mem lB.2 q hq
  have hno1 : NoIt ex ((D, dictOf es1 n1) :: rest) := ⟨fun q hq => by
    rcases List.mem_cons.mp hq with rfl | hq
    · exact .inl rfl
    · exact hno.1 q (.tail _ hq), fun a ha => by
    obtain ⟨o, ho⟩ := hno.2 a ha
    rcases List.mem_cons.mp ho with e | ho
    · cases e; exact ⟨_, .head _⟩
    · exact ⟨o, .tail _ ho⟩⟩
  refine turns_enum (vs := vs) (k := c) ex (JCha w rest D Bx M p es1 n1 ys) rfl F1 N1 ?hm ?hk ?hc ?hj ?turn ?done
  case hm => exact .tail _ (.tail _ hp)
  case hk =>
    rintro i m nx ⟨kvs, oB, nl, rfl, _⟩
    exact .tail _ (List.mem_append_right _ (.tail _ hp))
  case hc => exact NoIt.cons (dict_noIt hd0) hno1
  case hj => exact ⟨[], o0, [], rfl, hd0, IdxL.nil, dict_noIt hd0, fun _ h => (nomatch h), fun _ h => (nomatch h), ⟨rfl, rfl, rfl, trivial⟩⟩
  case done =>
    rintro m₁ nx h tk ⟨kvs, oB, nl, rfl, hdB, hix, hnoB, hnn, hlt, hm⟩ hno2 F5 N5
    replace F5 := Fr.has _ F5 hm
    have hnD : ∀ p ∈ nl, p.1 ≠ D := fun p hp => Nat.ne_of_gt (Nat.lt_trans lB.1 (hlt p hp))
    have hBD : @Ne Nat Bx D := Nat.ne_of_gt lB.1
    try k_fold
    rcases hjk with ⟨rfl, rfl⟩ | ⟨fn, rfl, rfl, ⟨ofn, hfo⟩, hfn⟩
    · k_steps
      refine Stop.go ?_
      rename (Fr _ _ _ _) => F6
      rename (News _ _ _ _) => N6
      refine set_new_led F6 N6 fun Jx h6 F7 N7 lJ => ?_
      have hJD : @Ne Nat Jx D := Nat.ne_of_gt (lJ _ (.tail _ (List.mem_append_right _ (.head _))))
      k_steps
      refine Stop.go ?_
      rename (Fr _ _ _ _) => F8
      rename (News _ _ _ _) => N8
      refine set_new_led F8 N8 fun Px h8 F9 N9 lP => ?_
      have hPD : @Ne Nat Px D := Nat.ne_of_gt (lP _ (.tail _ (.tail _ (List.mem_append_right _ (.head _)))))
      have hix' : IdxL nl kvs ys ys.length := by rw [← hyl]; exact hix
      have hSM : SMB w none ys ((Px, set0 (bt w)) :: (Jx, set0 (bt w)) :: (Bx, oB) :: nl) Bx Jx Px := by
        refine ⟨⟨oB, kvs, .tail _ (.tail _ (.head _)), hdB, by have := hix'.len; lia, loB, fun x => ?_⟩, ⟨_, 0, .tail _ (.head _), by rw [show (fun x : Int => decide ((none : Option Int) = some x ∧ x ∈ ys)) = fun _ => false by funext x; simp]; exact set0_obj _, Nat.zero_le _⟩, fun p hp => ?_⟩
        · rw [if_neg (by simp)]
          refine ⟨fun hn => pos_nil.mp (hix'.non x hn), fun v hv => ?_⟩
          obtain ⟨a, us, d, e, ha, hu⟩ := hix'.val x v hv
          exact ⟨a, us, d, e, .tail _ (.tail _ (.tail _ ha)), hu⟩
        · exact smb_noIt hnn hnoB rfl rfl p hp
      have hord := smb_ord (oP := set0 (bt w)) (oJ' := set0 (bt w)) (oD' := dictOf es n) hbase hlt lJ lP
      have hD9 : @Eq Nat D D := rfl
      k_steps
      all_goals first
        | (exfalso; rename (200 ≤ _) => h200; rw [List.size_toArray] at h200; lia)
        | (rename (Fr h₀ L _ m) => kF
           rename (News h₀ L _ _) => kN
           exact hret _ _ _ _ kF kN ⟨rfl, _, _, (Px, set0 (bt w)) :: (Jx, set0 (bt w)) :: (Bx, oB) :: nl, Bx, Jx, Px, rfl, hord, by assumption, hSM⟩)
    · k_steps
      refine Stop.go ?_
      rename (Fr _ _ _ _) => F6
      rename (News _ _ _ _) => N6
      refine set_new_led F6 N6 fun Jx h6 F7 N7 lJ => ?_
      have hJD : @Ne Nat Jx D := Nat.ne_of_gt (lJ _ (.tail _ (List.mem_append_right _ (.head _))))
      k_steps
      refine Stop.go ?_
      rename (News _ _ _ _) => N8
      refine truthy_fn (N8 _ (.tail _ (.tail _ (List.mem_append_right _ (.tail _ hfo))))).1 rfl ?_
      k_steps
      refine Stop.go ?_
      rename (Fr _ _ _ _) => F9
      k_dflt (refine' For_invVF F9 ?k1 ?k2 ?_; (case k1 => exact rfl); (case k2 => exact rfl))
      k_steps
      refine Stop.go ?_
      rename (Fr _ _ _ _) => F10
      rename (News _ _ _ _) => N10
      refine kdl_view_keys (knd := PySem.intKind _ _) F10 N10 (.tail _ (.head _)) hdB loB fun Vx h11 F11 N11 lV => ?_
      rename_i es2 n2 h2x fl2 F2z N2z h2y tk2y h2z
      k_steps
      refine Stop.go ?_
      have hno3 : NoIt ex ((D, dictOf es2 n2) :: rest) := ⟨fun q hq => by
        rcases List.mem_cons.mp hq with rfl | hq
        · exact .inl rfl
        · exact hno1.1 q (.tail _ hq), fun a ha => by
        obtain ⟨o, ho⟩ := hno1.2 a ha
        rcases List.mem_cons.mp ho with e | ho
        · cases e; exact ⟨_, .head _⟩
        · exact ⟨o, .tail _ ho⟩⟩
      have hnB : NoIt ex ((Bx, oB) :: (nl ++ (D, dictOf es2 n2) :: rest)) := NoIt.cons hnoB (NoIt.append hnn hno3)
      have hnd : (kvs.map (·.1)).Nodup := hdB.choose_spec.choose_spec.2.2.2.2
      have hJrest : ∀ p ∈ (Bx, oB) :: (nl ++ (D, dictOf es2 n2) :: rest), p.1 ≠ Jx := fun p hp => Nat.ne_of_lt (by
        rcases List.mem_cons.mp hp with rfl | hp
        · exact lJ (Bx, oB) (.head _)
        · rcases List.mem_append.mp hp with hp | hp
          · exact lJ p (.tail _ (List.mem_append_left _ hp))
          · rcases List.mem_cons.mp hp with rfl | hp
            · exact lJ (D, dictOf es1 n1) (.tail _ (List.mem_append_right _ (.head _)))
            · exact lJ p (.tail _ (List.mem_append_right _ (.tail _ hp))))
      have hVJ : @Ne Nat Vx Jx := Nat.ne_of_gt (lV _ (.head _))
      refine loop_keys (knd := PySem.intKind (OpenLaw.prog PySem.Challenge.rw_pg0326_01) w) (kvs := kvs) (od := oB) ex (JChb w rest nl D Bx Jx Vx M p fn oB es2 n2 kvs) rfl F11 N11 (.head _) (.tail _ (.tail _ (.head _))) hdB ?kc ?kj ?kk ?kt ?kd
      case kc => exact NoIt.cons rfl (NoIt.cons rfl hnB)
      case kj => exact ⟨_, rfl, rfl, ⟨rfl, rfl, rfl, rfl, rfl, trivial⟩, .inl ⟨by simp, rfl⟩⟩
      case kk =>
        rintro i m nx ⟨oJ, rfl, _⟩
        exact .tail _ (.tail _ (.head _))
      case kt =>
        rintro i k0 y vx m₂ nx I it h tk hky hkx ⟨oJ, rfl, hnoJ, hm2, hcase⟩ hno4 F12 N12 hI
        obtain ⟨tx, rfl⟩ := int_shape hkx
        have hfo2 : (fn, ({ cls := .type "function", data := .func ofn } : Obj)) ∈ nl ++ (D, dictOf es2 n2) :: rest := List.mem_append_right _ (.tail _ hfo)
        replace F12 := Fr.hasX _ F12 hm2
        try k_fold
        k_steps
        refine Stop.go ?_
        rename (Fr _ _ _ _) => F13
        rename (News _ _ _ _) => N13
        k_dflt (refine' Calls.use (hfn _ k0 tx ?hs) ?B ?F ?X ?N ?T ?hk ?hd ?hu ?_; (case N => exact N13); (case hs => exact fun p hp => .tail _ (.tail _ (.tail _ (.tail _ (List.mem_append_right _ (.tail _ hp)))))); (case B => k_asm); (case F => exact F13); (case X => k_asm); (case T => k_asm); (case hk => exact rfl); (case hd => first | exact room1 hd (by decide) | ktr_room); (case hu => first | exact units1 hu (by decide) | ktr_units))
        rintro v nx' h14 tk14 F14 N14 ⟨rfl, rfl⟩
        have htk : (kvs.take (i + 1)).map (·.1) = (kvs.take i).map (·.1) ++ [k0] := by rw [List.take_add_one, hky, List.map_append]; rfl
        have hnin : k0 ∉ (kvs.take i).map (·.1) := by
          have h1 : ((kvs.take (i + 1)).map (·.1)).Nodup := hnd.sublist ((List.take_sublist _ _).map _)
          rw [htk] at h1
          intro hin
          exact (List.nodup_append.mp h1).2.2 k0 hin k0 (.head _) rfl
        by_cases h0 : k0 = 0
        · subst h0
          obtain rfl : oJ = set0 (bt w) := hcase.elim (fun q => q.2) (fun q => absurd q.1 hnin)
          rw [show decide ((0 : Int) = 0) = true from rfl]
          k_steps
          refine getMethod_set_add (knd := PySem.intKind (OpenLaw.prog PySem.Challenge.rw_pg0326_01) w) ((set0_obj (bt w)).setOf (N14 _ (.tail _ (.tail _ (.head _)))).1 (by decide)) ?_
          k_steps
          refine Stop.go ?_
          rename (Fr _ _ _ _) => F15
          rename (News _ _ _ _) => N15
          have hob := N15 _ (.tail _ (.tail _ (.head _)))
          refine call_set_add0 hob.1 fun h16 hs16 hg16 => ?_
          have N16 := news_set (pre := [(I, it), (Vx, _)]) (post := (Bx, oB) :: (nl ++ (D, dictOf es2 n2) :: rest)) N15 (fun q hq => by
            rcases List.mem_cons.mp hq with rfl | hq
            · exact Ne.symm (hI _ (.tail _ (.head _)))
            · rw [List.mem_singleton.mp hq]
              exact hVJ) hJrest hs16 hg16
          have F16 := F15.change hs16 hob.2.1 hob.2.2
          k_steps
          refine Stop.go ?_
          exact Turn.next F16 N16 (NoIt.cons rfl (NoIt.cons rfl hnB)) ⟨_, rfl, rfl, ⟨rfl, rfl, rfl, rfl, rfl, trivial⟩, .inr ⟨by rw [htk]; simp, _, rfl⟩⟩
        · rw [decide_eq_false h0]
          k_steps
          refine Stop.go ?_
          refine Turn.next F14 N14 (NoIt.cons rfl (NoIt.cons hnoJ hnB)) ⟨oJ, rfl, hnoJ, ⟨rfl, rfl, rfl, rfl, rfl, trivial⟩, hcase.imp (fun q => ⟨?_, q.2⟩) (fun q => ⟨?_, q.2⟩)⟩
          · rw [htk]
            intro hin
            rcases List.mem_append.mp hin with hin | hin
            · exact q.1 hin
            · exact h0 (List.mem_singleton.mp hin).symm
          · rw [htk]
            exact List.mem_append_left _ q.1
      case kd =>
        rintro m₂ nx h tk ⟨oJ, rfl, hnoJ, hm2, hcase⟩ hno4 F12 N12
        replace F12 := Fr.has _ F12 hm2
        rw [List.take_length] at hcase
        have hix' : IdxL nl kvs ys ys.length := by rw [← hyl]; exact hix
        have hkl := hix'.len
        have hVD : @Ne Nat Vx D := Nat.ne_of_gt (lV _ (.tail _ (.tail _ (List.mem_append_right _ (.head _)))))
        have hVB : @Ne Nat Vx Bx := Nat.ne_of_gt (lV _ (.tail _ (.head _)))
        have hJB : @Ne Nat Jx Bx := Ne.symm (hJrest _ (.head _))
        have hnB2 : ∀ p ∈ nl ++ (D, dictOf es2 n2) :: rest, p.1 ≠ Bx := fun p hp => by
          rcases List.mem_append.mp hp with hp | hp
          · exact Nat.ne_of_gt (hlt p hp)
          · rcases List.mem_cons.mp hp with rfl | hp
            · exact Nat.ne_of_lt lB.1
            · exact Nat.ne_of_lt (hbase p (.tail _ hp))
        have lJ' : ∀ o : Obj, ∀ p ∈ (Bx, o) :: (nl ++ (D, dictOf es1 n1) :: rest), p.1 < Jx := fun o p hp => by
          rcases List.mem_cons.mp hp with rfl | hp
          · exact lJ (Bx, oB) (.head _)
          · exact lJ p (.tail _ hp)
        have hkey : (valueAt kvs 0).isSome = true ↔ (0 : Int) ∈ kvs.map (·.1) := by
          constructor
          · intro h0
            obtain ⟨v0, hv0⟩ := Option.isSome_iff_exists.mp h0
            exact List.mem_map.mpr ⟨_, valueAt_mem hv0, rfl⟩
          · intro h0
            obtain ⟨⟨a0, b0⟩, h1, rfl⟩ := List.mem_map.mp h0
            obtain ⟨j0, hj0⟩ := List.getElem?_of_mem h1
            exact valueAt_at hj0
        try k_fold
        k_steps
        refine Stop.go ?_
        rename (Fr _ _ _ _) => F13
        rename (News _ _ _ _) => N13
        k_dflt (refine' For_invVF F13 ?k1 ?k2 ?_; (case k1 => exact rfl); (case k2 => exact rfl))
        k_steps
        refine Stop.go ?_
        rename (Fr _ _ _ _) => F14
        rename (News _ _ _ _) => N14
        rcases hcase with ⟨h0, rfl⟩ | ⟨h0, t0, rfl⟩
        · have hv0 : valueAt kvs 0 = none := by cases hq : valueAt kvs 0 with | none => rfl | some v0 => exact absurd (hkey.mp (by rw [hq]; rfl)) h0
          have h0y : (0 : Int) ∉ ys := pos_nil.mp (hix'.non 0 hv0)
          have hSM : ∀ Px, SMB w (some 0) ys ((Px, set0 (bt w)) :: (Jx, set0 (bt w)) :: (Bx, oB) :: nl) Bx Jx Px := fun Px => by
            refine ⟨⟨oB, kvs, .tail _ (.tail _ (.head _)), hdB, by lia, loB, fun x => ?_⟩, ⟨_, 0, .tail _ (.head _), ?_, Nat.zero_le _⟩, fun p hp => smb_noIt hnn hnoB rfl rfl p hp⟩
            · by_cases hx0 : (some 0 : Option Int) = some x
              · rw [if_pos hx0]
                cases hx0
                exact hv0
              · rw [if_neg hx0]
                refine ⟨fun hn => pos_nil.mp (hix'.non x hn), fun v hv => ?_⟩
                obtain ⟨a, us, d, e, ha, hu⟩ := hix'.val x v hv
                exact ⟨a, us, d, e, .tail _ (.tail _ (.tail _ ha)), hu⟩
            · rw [show (fun x : Int => decide ((some 0 : Option Int) = some x ∧ x ∈ ys)) = fun _ => false by
                funext x
                refine decide_eq_false ?_
                rintro ⟨e, hx⟩
                cases e
                exact h0y hx]
              exact set0_obj _
          refine loop_set0 ex rfl F14 N14 (.tail _ (.head _)) hno4 fun h tk F15 N15 => ?_
          try k_fold
          k_steps
          refine Stop.go ?_
          rename (Fr _ _ _ _) => F8
          rename (News _ _ _ _) => N8
          refine set_new_led F8 N8 fun Px h8 F9 N9 lP => ?_
          have hPD : @Ne Nat Px D := Nat.ne_of_gt (lP _ (.tail _ (.tail _ (.tail _ (List.mem_append_right _ (.head _))))))
          have hord := smb_ord (oP := set0 (bt w)) (oJ' := set0 (bt w)) (oB := oB) (oD' := dictOf es n) hbase hlt (lJ' oB) (fun q hq => lP q (.tail _ hq))
          k_steps
          all_goals first
            | (exfalso; rename (200 ≤ _) => h200; rw [List.size_toArray] at h200; lia)
            | (rename (Fr h₀ L _ m) => kF
               rename (News h₀ L _ _) => kN
               exact hret _ _ _ _ kF (News.sub kN (fun q hq => by
                 rcases List.mem_cons.mp hq with rfl | hq
                 · exact .head _
                 · exact .tail _ (.tail _ hq))) ⟨rfl, _, _, (Px, set0 (bt w)) :: (Jx, set0 (bt w)) :: (Bx, oB) :: nl, Bx, Jx, Px, rfl, hord, by assumption, hSM Px⟩)
        · have hv0 := hkey.mpr h0
          have h0y : (0 : Int) ∈ ys := by
            obtain ⟨v0, hq⟩ := Option.isSome_iff_exists.mp hv0
            exact hix'.mem 0 v0 hq
          refine loop_set1 ex (JChc w rest nl D Bx Jx Vx M p fn es2 n2 kvs t0) rfl F14 N14 (.tail _ (.head _)) hno4 ?pk ?pt ?pd
          case pk =>
            rintro m nx ⟨oB', rfl, _⟩
            exact .tail _ (.head _)
          case pt =>
            intro I it h tk F15 N15 hI
            try k_fold
            k_steps
            refine Stop.go ?_
            rename (Fr _ _ _ _) => F16
            rename (News _ _ _ _) => N16
            refine kob_del (knd := PySem.intKind _ _) F16 N16 (UpdF.tail (Ne.symm (hI _ (.tail _ (.tail _ (.head _))))) (UpdF.tail hVB (UpdF.tail hJB (UpdF.head hnB2)))) hdB (intKind_is _ _ _ _) hv0 (by rw [PySem.sizeLine_eq]; lia) ?_
            intro h17 o17 F17 N17 hd17
            try dsimp only at N17
            k_steps
            refine Stop.go ?_
            exact Turn.next F17 N17 (NoIt.cons rfl (NoIt.cons rfl (NoIt.cons (dict_noIt hd17) (NoIt.append hnn hno3)))) ⟨o17, rfl, hd17, rfl, rfl, rfl, rfl, rfl, trivial⟩
          case pd =>
            rintro m₃ nx h tk ⟨oB', rfl, hdB', hm3⟩ hno5 F15 N15
            replace F15 := Fr.has _ F15 hm3
            have hSM : ∀ Px, SMB w (some 0) ys ((Px, set0 (bt w)) :: (Jx, set1 (bt w) t0) :: (Bx, oB') :: nl) Bx Jx Px := fun Px => by
              refine ⟨⟨oB', _, .tail _ (.tail _ (.head _)), hdB', Nat.le_trans (length_without_le _ _) (by lia), loB, fun x => ?_⟩, ⟨_, 1, .tail _ (.head _), ?_, Nat.le_refl _⟩, fun p hp => smb_noIt hnn (dict_noIt hdB') rfl rfl p hp⟩
              · by_cases hx0 : (some 0 : Option Int) = some x
                · rw [if_pos hx0]
                  cases hx0
                  rw [valueAt_without, if_pos rfl]
                · rw [if_neg hx0]
                  rw [valueAt_without, if_neg (fun e => hx0 (by rw [e]))]
                  refine ⟨fun hn => pos_nil.mp (hix'.non x hn), fun v hv => ?_⟩
                  obtain ⟨a, us, d, e, ha, hu⟩ := hix'.val x v hv
                  exact ⟨a, us, d, e, .tail _ (.tail _ (.tail _ ha)), hu⟩
              · rw [show (fun x : Int => decide ((some 0 : Option Int) = some x ∧ x ∈ ys)) = fun k => decide (k = 0) by
                  funext x
                  by_cases hx0 : x = 0
                  · subst hx0; simp [h0y]
                  · rw [decide_eq_false hx0]
                    refine decide_eq_false ?_
                    rintro ⟨e, _⟩
                    cases e
                    exact hx0 rfl]
                exact set1_obj _ _
            try k_fold
            k_steps
            refine Stop.go ?_
            rename (Fr _ _ _ _) => F8
            rename (News _ _ _ _) => N8
            refine set_new_led F8 N8 fun Px h8 F9 N9 lP => ?_
            have hPD : @Ne Nat Px D := Nat.ne_of_gt (lP _ (.tail _ (.tail _ (.tail _ (List.mem_append_right _ (.head _))))))
            have hord := smb_ord (oP := set0 (bt w)) (oJ' := set1 (bt w) t0) (oB := oB') (oD' := dictOf es n) hbase hlt (lJ' oB') (fun q hq => lP q (.tail _ hq))
            k_steps
            all_goals first
              | (exfalso; rename (200 ≤ _) => h200; rw [List.size_toArray] at h200; lia)
              | (rename (Fr h₀ L _ m) => kF
                 rename (News h₀ L _ _) => kN
                 exact hret _ _ _ _ kF (News.sub kN (fun q hq => by
                   rcases List.mem_cons.mp hq with rfl | hq
                   · exact .head _
                   · exact .tail _ (.tail _ hq))) ⟨rfl, _, _, (Px, set0 (bt w)) :: (Jx, set1 (bt w) t0) :: (Bx, oB') :: nl, Bx, Jx, Px, rfl, hord, by assumption, hSM Px⟩)
  case turn =>
    rintro i v T t m₁ nx I I' it it' h tk hv hT ⟨kvs, oB, nl, rfl, hdB, hix, hnoB, hnn, hlt, hm⟩ hno2 F5 N5 hI hI' hII
    obtain ⟨x, tx, rfl, hx1⟩ := IntsAre.at hy i v hv
    replace F5 := Fr.has _ F5 hm
    try k_fold
    k_steps
    refine Stop.go ?_
    rename (Fr _ _ _ _) => F6
    rename (News _ _ _ _) => N6
    rename (I < _ ∧ I' < _ ∧ Bx < _ ∧ AllLt _ _) => l6
    rename_i l0 h0
    have hnb : ∀ p ∈ nl ++ (D, dictOf es1 n1) :: rest, p.1 ≠ Bx := fun p hp => by
      rcases List.mem_append.mp hp with hp | hp
      · exact Nat.ne_of_gt (hlt p hp)
      · exact Nat.ne_of_lt (hbase p hp)
    have hil : i < ys.length := (List.getElem?_eq_some_iff.mp hx1).1
    have hkl := hix.len
    cases hq : valueAt kvs x with
    | some v =>
      obtain ⟨a, us, d, rfl, ha, hu⟩ := hix.val x v hq
      have hul := hu.length
      have hpl := pos_len ys x i
      have hba : Bx < a := hlt _ ha
      have ha2 : (a, listOf us.toArray d) ∈ nl ++ (D, dictOf es1 n1) :: rest := List.mem_append_left _ ha
      refine kob_setdef_there (knd := PySem.intKind _ _) N6 (.tail _ (.tail _ (.tail _ (.head _)))) hdB loB (intKind_is _ _ _ _) (PySem.F.args_dict_setdefault_3 _ _ _) hq (by rw [PySem.sizeLine_eq]; lia) ?_
      k_steps
      refine Stop.go ?_
      rename (Fr _ _ _ _) => F7
      rename (News _ _ _ _) => N7
      have hmem := List.mem_cons_of_mem (l0, listOf #[] 0) (List.mem_cons_of_mem (I, it) (List.mem_cons_of_mem (I', it') (List.mem_cons_of_mem (Bx, oB) ha2)))
      refine append_at (N7 _ hmem).1 (fun h9 hs9 ho9 => ?_) (by rw [PySem.sizeLine_eq, List.size_toArray]; lia)
      have N9 := News.update N7 hmem hs9 ho9
      have F9 := Fr.update F7 N7 hmem hs9
      rw [List.push_toArray] at N9
      have N10 := led_upd (pre := [(l0, listOf #[] 0), (I, it), (I', it'), (Bx, oB)]) N9 (fun p hp => by
        rcases List.mem_cons.mp hp with rfl | hp
        · exact Nat.ne_of_gt (allLt_mem l6.2.2.2 _ ha2)
        · rcases List.mem_cons.mp hp with rfl | hp
          · exact Ne.symm (hI _ (.tail _ ha2))
          · rcases List.mem_cons.mp hp with rfl | hp
            · exact Ne.symm (hI' _ (.tail _ ha2))
            · rw [List.mem_singleton.mp hp]
              exact Nat.ne_of_lt hba) (fun p hp => Nat.ne_of_lt (Nat.lt_trans (hbase p hp) hba))
      clear N9
      k_steps
      refine Stop.go ?_
      refine Turn.next F9 (News.drop1 N10) (NoIt.cons hnoB (@NoIt.append ex (updL a _ nl) _ (fun p hp => ?_) hno1)) ⟨kvs, oB, updL a _ nl, rfl, hdB, hix.there hx1 hq ha hu, hnoB, fun p hp => ?_, fun p hp => ?_, ⟨rfl, rfl, rfl, trivial⟩⟩
      · rcases updL_mem hp with rfl | hp
        · rfl
        · exact hnn p hp
      · rcases updL_mem hp with rfl | hp
        · rfl
        · exact hnn p hp
      · rcases updL_mem hp with rfl | hp
        · exact hba
        · exact hlt p hp
    | none =>
      refine kob_setdef_new (knd := PySem.intKind _ _) F6 N6 (UpdF.tail (Nat.ne_of_gt l6.2.2.1) (UpdF.tail (Ne.symm (hI _ (.head _))) (UpdF.tail (Ne.symm (hI' _ (.head _))) (UpdF.head hnb)))) hdB loB (intKind_is _ _ _ _) (PySem.F.args_dict_setdefault_3 _ _ _) hq (by rw [PySem.sizeLine_eq]; lia) ?_
      intro h8 o8 F8 N8 hd8
      try dsimp only at N8
      have hnoB8 := dict_noIt hd8

      k_steps
      refine Stop.go ?_
      rename (Fr _ _ _ _) => F7
      rename (News _ _ _ _) => N7
      have hlall := allLt_mem l6.2.2.2
      refine append_K F7 N7 (Upd.head (List.forall_mem_cons.mpr ⟨Nat.ne_of_lt l6.1, List.forall_mem_cons.mpr ⟨Nat.ne_of_lt l6.2.1, List.forall_mem_cons.mpr ⟨Nat.ne_of_lt l6.2.2.1, fun q hq => Nat.ne_of_lt (hlall q hq)⟩⟩⟩)) (fun h9 F9 N9 => ?_) (Nat.zero_le _)

      k_steps
      refine Stop.go ?_
      refine Turn.next F9 (News.sub N9 (fun q hq => ?_)) (NoIt.cons hnoB8 (@NoIt.append ex ((l0, listOf [Value.int (i : Int) t].toArray (0 + 1)) :: nl) _ (fun p hp => ?_) hno1)) ⟨_, o8, (l0, listOf [Value.int (i : Int) t].toArray (0 + 1)) :: nl, rfl, hd8, hix.fresh hx1 hq (fun p hp => Nat.ne_of_lt (hlall p (List.mem_append_left _ hp))), hnoB8, fun p hp => ?_, fun p hp => ?_, ⟨rfl, rfl, rfl, trivial⟩⟩
      · simp only [List.mem_cons, List.mem_append, List.singleton_append, List.cons_append, List.nil_append] at hq ⊢
        rcases hq with h | h | h | h | h <;> simp [h]
      · rcases List.mem_cons.mp hp with rfl | hp
        · rfl
        · exact hnn p hp
      · rcases List.mem_cons.mp hp with rfl | hp
        · rfl
        · exact hnn p hp
      · rcases List.mem_cons.mp hp with rfl | hp
        · exact l6.2.2.1
        · exact hlt p hp
end
section
variable {w : World} {mean : ExcName → Option Value} {mg mb : Str → Option Value}
theorem noIt_dict {ex : List Addr} {D : Addr} {es es' : List DictEntry} {n n' : Nat} {rest : Led} (h : NoIt ex ((D, dictOf es n) :: rest)) : NoIt ex ((D, dictOf es' n') :: rest) := ⟨fun q hq => by
    rcases List.mem_cons.mp hq with rfl | hq
    · exact .inl rfl
    · exact h.1 q (.tail _ hq), fun a ha => by
    obtain ⟨o, ho⟩ := h.2 a ha
    rcases List.mem_cons.mp ho with e | ho
    · cases e; exact ⟨_, .head _⟩
    · exact ⟨o, .tail _ ho⟩⟩
theorem ord_dict {nl rest : Led} {D : Addr} {o o' : Obj} (h : ∀ p ∈ nl, ∀ q ∈ (D, o) :: rest, q.1 < p.1) : ∀ p ∈ nl, ∀ q ∈ (D, o') :: rest, q.1 < p.1 := fun p hp q hq => by
  rcases List.mem_cons.mp hq with rfl | hq
  · exact h p hp (D, o) (.head _)
  · exact h p hp q (.tail _ hq)
inductive RSet2 (w : World) (rest : Led) (D p : Addr) (es : List DictEntry) (n k : Nat) (f : Str → Option Value) (jk : Option Int) (ys : List Int) (v : Value) (news' : Led) : Prop
  | mk (h1 : v = .none) (es' : List DictEntry) (n' : Nat) (nl : Led) (Bx : Addr) (Jx : Addr) (Px : Addr) (h2 : news' = nl ++ (D, dictOf es' n') :: rest) (h3 : (∀ p ∈ nl, ∀ q ∈ (D, dictOf es n) :: rest, q.1 < p.1)) (h4 : Flds (k + 7) es' (fun y => if y = "bpopular" then some (.ref Px) else if y = "bjunk" then some (.ref Jx) else if y = "b2j" then some (.ref Bx) else if y = "fullbcount" then some .none else if y = "opcodes" then some .none else if y = "matching_blocks" then some .none else if y = "b" then some (.ref p) else f y)) (h5 : SMB w jk ys nl Bx Jx Px) : RSet2 w rest D p es n k f jk ys v news'
theorem c_set2 {rest : Led} {M D p : Addr} {es : List DictEntry} {n k c : Nat} {f : Str → Option Value} {vb jkv : Value} {au : Bool} {jk : Option Int} {vs : List Value} {ys : List Int} (hM : (M, instObj 242 D) ∈ rest) (hD : ∀ q ∈ rest, q.1 ≠ D) (fl : Flds k es f) (hk : k ≤ 400)
    (hb : f "b" = some vb) (hvb : vb = .none ∨ ∃ q o, vb = .ref q ∧ q ≠ p ∧ (q, o) ∈ rest) (hhb : handedIn vb = true) (hp : (p, listOf vs.toArray c) ∈ rest) (hy : IntsAre vs ys) (hl : ys.length ≤ 100) (hj : f "isjunk" = some jkv) (hau : f "autojunk" = some (.bool au)) (hch : f "_SequenceMatcher__chain_b" = none)
    (hjk : (jkv = .none ∧ jk = none) ∨ ∃ fn, jkv = .ref fn ∧ jk = some 0 ∧ JkFn w mean mg mb fn rest) (hh : handedIn jkv = true) {ex : List Addr} (hno : NoIt ex ((D, dictOf es n) :: rest)) :
    Calls w mean mg mb 181 [.ref M, .ref p] 16 ((D, dictOf es n) :: rest) (RSet2 w rest D p es n k f jk ys) := by
  w_on
  unfold Calls
  k_fill
  intro dp un gd cn csc aa ccd cl outer A₀ base h₀ L m s Q E B F X N T hk hd hu hret
  refine wpAny_call ?_
  k_dflt (refine' code_def (scope := Scope.mk _ _ _ _ _) (params := Arguments.mk _ _ _ _ _ _ _) (body := _ :: _) (binds := [(Str.ofString "self", Value.ref M), (Str.ofString "b", Value.ref p)]) ?k1 ?k2 ?k3 ?k4 ?k5 ?kA ?kF ?kK ?k6 ?k7 ?k8 ?k9 ?kB ?_ ?c2 ?c3 ?c4 ?c5; (case kA => exact rfl); (case kF => exact rfl); (case kK => assumption); (case k1 => k_asm); (case k2 => k_asm); (case k3 => k_asm); (case k4 => k_asm); (case k5 => k_asm); (case k6 => exact rfl); (case k7 => k_is); (case k8 => first | exact room0 hd | ktr_room); (case k9 => first | exact BindsTo.of_eq rfl | exact binds_K (by k_in) rfl (by k_is) rfl rfl rfl); (case c5 => decide); (case kB => exact locs rfl); (case c2 => exact rfl); (case c3 => exact rfl); (case c4 => exact rfl); k_whole; intro g' L' h' FG' F' N' B' X' T'; (try dsimp only); (try k_fold); refine fold_A ?_; intro AA; have hAu : AA.units = un + 3 := rfl; have hAd : AA.depth = dp + 1 := rfl; refine fold_env ?_; intro ee)
  k_steps
  refine is_not N' (.tail _ hp) (show Value.type "list" ≠ .type "tuple" by decide) (hvb.imp id fun ⟨q, o, a, b, c⟩ => ⟨q, o, a, b, .tail _ c⟩) ?_
  k_steps
  refine Stop.go ?_
  rename (Flds (k + 1 + 1 + 1 + 1) _ _) => fl4
  k_dflt (refine' Calls.use (c_chain (jk := jk) (jkv := jkv) (au := au) hM hD fl4 (by lia) (by (try dsimp only); (repeat rw [if_neg (by decide)]); rfl) hp hy hl (by (try dsimp only); (repeat rw [if_neg (by decide)]); exact hj) (by (try dsimp only); (repeat rw [if_neg (by decide)]); exact hau) hjk hh (noIt_dict hno)) ?B ?F ?X ?N ?T ?hk ?hd ?hu ?_; (case B => k_asm); (case F => k_asm); (case X => k_asm); (case N => k_asm); (case T => k_asm); (case hk => exact rfl); (case hd => first | exact room1 hd (by decide) | ktr_room); (case hu => first | exact units1 hu (by decide) | ktr_units))
  rintro v nx h10 tk10 F10 N10 ⟨rfl, es5, n5, nl, Bx, Jx, Px, rfl, ho, fl5, hS⟩
  k_steps
  rename (Fr h₀ L _ m) => kF
  rename (News h₀ L _ _) => kN
  exact hret _ _ _ _ kF kN ⟨rfl, es5, n5, nl, Bx, Jx, Px, rfl, ord_dict ho, fl5, hS⟩
inductive RSeqs (w : World) (rest : Led) (D p : Addr) (es : List DictEntry) (n k : Nat) (f : Str → Option Value) (jk : Option Int) (ys : List Int) (q : Addr) (v : Value) (news' : Led) : Prop
  | mk (h1 : v = .none) (es' : List DictEntry) (n' : Nat) (nl : Led) (Bx : Addr) (Jx : Addr) (Px : Addr) (h2 : news' = nl ++ (D, dictOf es' n') :: rest) (h3 : (∀ p ∈ nl, ∀ q ∈ (D, dictOf es n) :: rest, q.1 < p.1)) (h4 : Flds (k + 10) es' (fun y => if y = "bpopular" then some (.ref Px) else if y = "bjunk" then some (.ref Jx) else if y = "b2j" then some (.ref Bx) else if y = "fullbcount" then some .none else if y = "opcodes" then some .none else if y = "matching_blocks" then some .none else if y = "b" then some (.ref p) else if y = "opcodes" then some .none else if y = "matching_blocks" then some .none else if y = "a" then some (.ref q) else f y)) (h5 : SMB w jk ys nl Bx Jx Px) : RSeqs w rest D p es n k f jk ys q v news'
theorem c_seqs {rest : Led} {M D p q : Addr} {es : List DictEntry} {n k c d : Nat} {f : Str → Option Value} {jkv : Value} {au : Bool} {jk : Option Int} {us vs : List Value} {ys : List Int} (hM : (M, instObj 242 D) ∈ rest) (hD : ∀ q ∈ rest, q.1 ≠ D) (fl : Flds k es f) (hk : k ≤ 300)
    (ha : f "a" = some .none) (hb : f "b" = some .none) (hq : (q, listOf us.toArray d) ∈ rest) (hp : (p, listOf vs.toArray c) ∈ rest) (hy : IntsAre vs ys) (hl : ys.length ≤ 100) (hj : f "isjunk" = some jkv) (hau : f "autojunk" = some (.bool au)) (hch : f "_SequenceMatcher__chain_b" = none) (hs1 : f "set_seq1" = none) (hs2 : f "set_seq2" = none)
    (hjk : (jkv = .none ∧ jk = none) ∨ ∃ fn, jkv = .ref fn ∧ jk = some 0 ∧ JkFn w mean mg mb fn rest) (hh : handedIn jkv = true) {ex : List Addr} (hno : NoIt ex ((D, dictOf es n) :: rest)) :
    Calls w mean mg mb 167 [.ref M, .ref q, .ref p] 20 ((D, dictOf es n) :: rest) (RSeqs w rest D p es n k f jk ys q) := by
  w_on
  unfold Calls
  k_fill
  intro dp un gd cn csc aa ccd cl outer A₀ base h₀ L m s Q E B F X N T hk hd hu hret
  refine wpAny_call ?_
  k_dflt (refine' code_def (scope := Scope.mk _ _ _ _ _) (params := Arguments.mk _ _ _ _ _ _ _) (body := _ :: _) (binds := [(Str.ofString "self", Value.ref M), (Str.ofString "a", Value.ref q), (Str.ofString "b", Value.ref p)]) ?k1 ?k2 ?k3 ?k4 ?k5 ?kA ?kF ?kK ?k6 ?k7 ?k8 ?k9 ?kB ?_ ?c2 ?c3 ?c4 ?c5; (case kA => exact rfl); (case kF => exact rfl); (case kK => assumption); (case k1 => k_asm); (case k2 => k_asm); (case k3 => k_asm); (case k4 => k_asm); (case k5 => k_asm); (case k6 => exact rfl); (case k7 => k_is); (case k8 => first | exact room0 hd | ktr_room); (case k9 => first | exact BindsTo.of_eq rfl | exact binds_K (by k_in) rfl (by k_is) rfl rfl rfl); (case c5 => decide); (case kB => exact locs rfl); (case c2 => exact rfl); (case c3 => exact rfl); (case c4 => exact rfl); k_whole; intro g' L' h' FG' F' N' B' X' T'; (try dsimp only); (try k_fold); refine fold_A ?_; intro AA; have hAu : AA.units = un + 3 := rfl; have hAd : AA.depth = dp + 1 := rfl; refine fold_env ?_; intro ee)
  k_steps
  refine Stop.go ?_
  k_dflt (refine' Calls.use (c_set1 hM hD fl (by lia) ha (.inl rfl) hq (show Value.type "list" ≠ .type "tuple" by decide) rfl) ?B ?F ?X ?N ?T ?hk ?hd ?hu ?_; (case B => k_asm); (case F => k_asm); (case X => k_asm); (case N => k_asm); (case T => k_asm); (case hk => exact rfl); (case hd => first | exact room1 hd (by decide) | ktr_room); (case hu => first | exact units1 hu (by decide) | ktr_units))
  rintro v nx h10 tk10 F10 N10 ⟨rfl, es1, n1, rfl, fl1⟩
  k_steps
  refine Stop.go ?_
  k_dflt (refine' Calls.use (c_set2 (jk := jk) (jkv := jkv) (au := au) (vb := .none) hM hD fl1 (by lia) (by (try dsimp only); (repeat rw [if_neg (by decide)]); exact hb) (.inl rfl) rfl hp hy hl (by (try dsimp only); (repeat rw [if_neg (by decide)]); exact hj) (by (try dsimp only); (repeat rw [if_neg (by decide)]); exact hau) (by (try dsimp only); (repeat rw [if_neg (by decide)]); exact hch) hjk hh (noIt_dict hno)) ?B ?F ?X ?N ?T ?hk ?hd ?hu ?_; (case B => k_asm); (case F => k_asm); (case X => k_asm); (case N => k_asm); (case T => k_asm); (case hk => exact rfl); (case hd => first | exact room1 hd (by decide) | ktr_room); (case hu => first | exact units1 hu (by decide) | ktr_units))
  rintro v nx h11 tk11 F11 N11 ⟨rfl, es5, n5, nl, Bx, Jx, Px, rfl, ho, fl5, hS⟩
  k_steps
  rename (Fr h₀ L _ m) => kF
  rename (News h₀ L _ _) => kN
  exact hret _ _ _ _ kF kN ⟨rfl, es5, n5, nl, Bx, Jx, Px, rfl, ord_dict ho, fl5, hS⟩
/-- the contract of a text's function, at the code itself -/
abbrev CallsC (w : World) (mean : ExcName → Option Value) (mg mb : Str → Option Value) (f : Addr) (vs : List Value) (need : Nat) (news : Led) (Ret : Value → Led → Prop) : Prop :=
  ∀ (dp un : Nat) (gd : Option (List Code)) (cn : Str) (cs : Scope) (a : Addr) (ccd : Value) (cl : List (Str × Addr)) (outer : List Env) (A₀ : Around) (base h₀ : Heap) (L : Addr) (m : Str → Option Value) (s : Shared) (R : Result → Shared → Prop),
    Below A₀ base outer h₀ → Fr h₀ L s.heap m → (KF w.params).In h₀ → News h₀ L s.heap news → Top topProg lQ mean mg mb h₀ → cs.kind = .function → dp + need < recursionLimit → un + 8 * need < cLine →
    (∀ v news' h' tk', Fr h₀ L h' m → News h₀ L h' news' → Ret v news' → R (.ok (.ret v)) { s with heap := h', toks := tk' }) →
    codeAny (model (OpenLaw.prog PySem.Challenge.rw_pg0326_01) w) (ktrTop dp un gd cn cs L a ccd cl outer) (.call (.ref f) ⟨vs, []⟩) R s
inductive RInit (w : World) (rest : Led) (D p q : Addr) (jkv : Value) (jk : Option Int) (ys : List Int) (v : Value) (news' : Led) : Prop
  | mk (h1 : v = .none) (es' : List DictEntry) (n' : Nat) (nl : Led) (Bx : Addr) (Jx : Addr) (Px : Addr) (h2 : news' = nl ++ (D, dictOf es' n') :: rest) (h3 : (∀ p ∈ nl, ∀ q ∈ (D, dictOf [] 0) :: rest, q.1 < p.1)) (h4 : Flds 20 es' (fun y => if y = "bpopular" then some (.ref Px) else if y = "bjunk" then some (.ref Jx) else if y = "b2j" then some (.ref Bx) else if y = "fullbcount" then some .none else if y = "opcodes" then some .none else if y = "matching_blocks" then some .none else if y = "b" then some (.ref p) else if y = "opcodes" then some .none else if y = "matching_blocks" then some .none else if y = "a" then some (.ref q) else if y = "autojunk" then some (.bool true) else if y = "b" then some .none else if y = "a" then some .none else if y = "isjunk" then some jkv else none)) (h5 : SMB w jk ys nl Bx Jx Px) : RInit w rest D p q jkv jk ys v news'
theorem c_init {rest : Led} {M D p q : Addr} {c d : Nat} {jkv : Value} {jk : Option Int} {us vs : List Value} {ys : List Int} (hM : (M, instObj 242 D) ∈ rest) (hD : ∀ q ∈ rest, q.1 ≠ D)
    (hq : (q, listOf us.toArray d) ∈ rest) (hp : (p, listOf vs.toArray c) ∈ rest) (hy : IntsAre vs ys) (hl : ys.length ≤ 100)
    (hjk : (jkv = .none ∧ jk = none) ∨ ∃ fn, jkv = .ref fn ∧ jk = some 0 ∧ JkFn w mean mg mb fn rest) (hh : handedIn jkv = true) {ex : List Addr} (hno : NoIt ex ((D, dictOf [] 0) :: rest)) :
    CallsC w mean mg mb 160 [.ref M, jkv, .ref q, .ref p] 24 ((D, dictOf [] 0) :: rest) (RInit w rest D p q jkv jk ys) := by
  w_on
  unfold CallsC
  k_fill
  intro dp un gd cn csc aa ccd cl outer A₀ base h₀ L m s R B F X N T hk hd hu hret
  k_dflt (refine' code_def (scope := Scope.mk _ _ _ _ _) (params := Arguments.mk _ _ _ _ _ _ _) (body := _ :: _) (binds := [(Str.ofString "self", Value.ref M), (Str.ofString "isjunk", jkv), (Str.ofString "a", Value.ref q), (Str.ofString "b", Value.ref p), (Str.ofString "autojunk", Value.bool true)]) ?k1 ?k2 ?k3 ?k4 ?k5 ?kA ?kF ?kK ?k6 ?k7 ?k8 ?k9 ?kB ?_ ?c2 ?c3 ?c4 ?c5; (case kA => exact rfl); (case kF => exact rfl); (case kK => assumption); (case k1 => k_asm); (case k2 => k_asm); (case k3 => k_asm); (case k4 => k_asm); (case k5 => k_asm); (case k6 => exact rfl); (case k7 => k_is); (case k8 => first | exact room0 hd | ktr_room); (case k9 => first | exact BindsTo.of_eq rfl | exact binds_K (by k_in) rfl (by k_is) rfl rfl rfl); (case c5 => decide); (case kB => exact locs rfl); (case c2 => exact rfl); (case c3 => exact rfl); (case c4 => exact rfl); k_whole; intro g' L' h' FG' F' N' B' X' T'; (try dsimp only); (try k_fold); refine fold_A ?_; intro AA; have hAu : AA.units = un + 3 := rfl; have hAd : AA.depth = dp + 1 := rfl; refine fold_env ?_; intro ee)
  have fl0 := Flds.nil
  k_steps
  refine Stop.go ?_
  rename (Flds (0 + 1 + 1 + 1 + 1) _ _) => fl4
  k_dflt (refine' Calls.use (c_seqs (jk := jk) (jkv := jkv) (au := true) hM hD fl4 (by lia) (by exact rfl) (by exact rfl) hq hp hy hl (by exact rfl) (by exact rfl) (by exact rfl) (by exact rfl) (by exact rfl) hjk hh (noIt_dict hno)) ?B ?F ?X ?N ?T ?hk ?hd ?hu ?_; (case B => k_asm); (case F => k_asm); (case X => k_asm); (case N => k_asm); (case T => k_asm); (case hk => exact rfl); (case hd => first | exact room1 hd (by decide) | ktr_room); (case hu => first | exact units1 hu (by decide) | ktr_units))
  rintro v nx h11 tk11 F11 N11 ⟨rfl, es5, n5, nl, Bx, Jx, Px, rfl, ho, fl5, hS⟩
  k_steps
  rename (Fr h₀ L _ m) => kF
  rename (News h₀ L _ _) => kN
  exact hret _ _ _ _ kF kN ⟨rfl, es5, n5, nl, Bx, Jx, Px, rfl, ord_dict ho, ⟨Nat.le_trans fl5.len (by lia), fl5.noref, fl5.get⟩, hS⟩
inductive RMake (w : World) (news : Led) (p q : Addr) (jkv : Value) (jk : Option Int) (ys : List Int) (v : Value) (news' : Led) : Prop
  | mk (M : Addr) (D : Addr) (es' : List DictEntry) (n' : Nat) (nl : Led) (Bx : Addr) (Jx : Addr) (Px : Addr) (h1 : v = .ref M) (h2 : news' = nl ++ (D, dictOf es' n') :: (M, instObj 242 D) :: news) (h3 : (∀ p ∈ nl, ∀ q ∈ (D, dictOf es' n') :: (M, instObj 242 D) :: news, q.1 < p.1)) (h4 : (∀ p ∈ news, p.1 < D)) (h5 : @LT.lt Nat _ D M) (h6 : Flds 20 es' (fun y => if y = "bpopular" then some (.ref Px) else if y = "bjunk" then some (.ref Jx) else if y = "b2j" then some (.ref Bx) else if y = "fullbcount" then some .none else if y = "opcodes" then some .none else if y = "matching_blocks" then some .none else if y = "b" then some (.ref p) else if y = "opcodes" then some .none else if y = "matching_blocks" then some .none else if y = "a" then some (.ref q) else if y = "autojunk" then some (.bool true) else if y = "b" then some .none else if y = "a" then some .none else if y = "isjunk" then some jkv else none)) (h7 : SMB w jk ys nl Bx Jx Px) : RMake w news p q jkv jk ys v news'
theorem c_make {news : Led} {p q : Addr} {c d : Nat} {jkv : Value} {jk : Option Int} {us vs : List Value} {ys : List Int}
    (hq : (q, listOf us.toArray d) ∈ news) (hp : (p, listOf vs.toArray c) ∈ news) (hy : IntsAre vs ys) (hl : ys.length ≤ 100)
    (hjk : (jkv = .none ∧ jk = none) ∨ ∃ fn, jkv = .ref fn ∧ jk = some 0 ∧ JkFn w mean mg mb fn news) (hh : handedIn jkv = true) {ex : List Addr} (hno : NoIt ex news) :
    Calls w mean mg mb 242 [jkv, .ref q, .ref p] 32 news (RMake w news p q jkv jk ys) := by
  w_on
  unfold Calls
  k_fill
  intro dp un gd cn csc aa ccd cl outer A₀ base h₀ L m s Q E B F X N T hk hd hu hret
  k_dflt (refine' call_cls F X N ?k4 ?k5 ?k6 ?_; (case k4 => k_is); (case k5 => k_is); (case k6 => k_is))
  intro M D h1 F1 N1 l1 l2
  have hjk' : (jkv = .none ∧ jk = none) ∨ ∃ fn, jkv = .ref fn ∧ jk = some 0 ∧ JkFn w mean mg mb fn ((M, instObj 242 D) :: news) := hjk.imp id fun ⟨fn, e1, e2, ⟨fd, hfd⟩, hc⟩ => ⟨fn, e1, e2, ⟨fd, .tail _ hfd⟩, fun nx x t hsub => hc nx x t fun p hp => hsub p (.tail _ hp)⟩
  have N2 : News h₀ L h1 ((D, dictOf [] 0) :: (M, instObj 242 D) :: news) := News.sub N1 fun p hp => by
    rcases List.mem_cons.mp hp with rfl | hp
    · exact .tail _ (.head _)
    · rcases List.mem_cons.mp hp with rfl | hp
      · exact .head _
      · exact .tail _ (.tail _ hp)
  have hD : ∀ q ∈ (M, instObj 242 D) :: news, q.1 ≠ D := fun q hq => by
    rcases List.mem_cons.mp hq with rfl | hq
    · exact Nat.ne_of_gt l2
    · exact Nat.ne_of_lt (l1 q hq)
  refine (c_init (w := w) (mean := mean) (mg := mg) (mb := mb) (jk := jk) (.head _) hD (.tail _ hq) (.tail _ hp) hy hl hjk' hh (ex := ex) (NoIt.cons rfl (NoIt.cons rfl hno))) _ _ _ _ _ _ _ _ _ _ _ _ _ _ _ _ B F1 X N2 T hk ?hd ?hu ?_
  case hd =>
    have e : (Code.builtin "type.__call__" { pos := [Value.ref 242, jkv, Value.ref q, Value.ref p] }).weight ≤ 3 := Nat.le_of_ble_eq_true (by kernel_rfl)
    have e2 : (ktrTop dp un gd cn csc L aa ccd cl outer).depth = dp := rfl
    lia
  case hu =>
    have e : (Code.builtin "type.__call__" { pos := [Value.ref 242, jkv, Value.ref q, Value.ref p] }).cUnits ≤ 30 := Nat.le_of_ble_eq_true (by kernel_rfl)
    have e2 : (ktrTop dp un gd cn csc L aa ccd cl outer).units = un := rfl
    lia
  rintro v nx h2 tk2 F2 N3 ⟨rfl, es5, n5, nl, Bx, Jx, Px, rfl, ho, fl5, hS⟩
  exact ⟨rfl, hret _ _ _ _ F2 N3 ⟨M, D, es5, n5, nl, Bx, Jx, Px, rfl, rfl, ord_dict ho, l1, l2, fl5, hS⟩⟩
end
noncomputable def IfJ (h₀ : Heap) (L : Addr) (s : Shared) (Jd : (Str → Option Value) → Led → Prop) (f : Flow) (s₂ : Shared) : Prop := f = .next ∧ WExit h₀ L s Jd s₂
theorem if_join {prog : Program} {w : World} {A : Around} {E : Value → Shared → Prop} {s : Shared} {h₀ : Heap} {L : Addr} {st : Sem Flow} {Q : Flow → Shared → Prop} (Jd : (Str → Option Value) → Led → Prop) (h : wpAny (model prog w) A st (IfJ h₀ L s Jd) E s)
    (k : ∀ m' news' h' tk, Fr h₀ L h' m' → News h₀ L h' news' → Jd m' news' → Q .next { s with heap := h', toks := tk }) : wpAny (model prog w) A st Q E s :=
  wpAny_mono h (fun f s₂ ⟨e, h', tk, m', news', e2, F, N, j⟩ => by subst e e2; exact k m' news' h' tk F N j) fun _ _ e => e
theorem kreg15 : True := by
  k_with "getAttr ref" => (k_here; (with_reducible show wpAny _ _ (getAttr (Value.ref _) (PySem.Str.ofString "get") _) _ _ _); k_dflt (refine' get_dget_led (by k_asm) (by k_asm) (by k_mem) (by assumption) ?_); intro _ _ _ _ _)
  k_with "getAttr ref" => (k_here; (with_reducible show wpAny _ _ (getAttr (Value.ref _) (PySem.Str.ofString "__contains__") _) _ _ _); k_dflt (refine' get_shas_led (by k_asm) (by k_asm) (by k_mem) (by assumption) ?_); intro _ _ _ _ _)
  k_with "callWith ref" => (k_here; k_dflt (refine' callWith_bm (by k_asm) (by k_mem) ?_; k_whole))
  k_with "And" => ((with_reducible show BmAt _ _ _ _ ∧ _); refine ⟨BmAt.of (by k_asm) (by k_mem), ?_⟩; try dsimp only [List.nil_append, List.cons_append])
  k_with "eval Dict" => (refine Stop.of ?_)
  k_with "call builtin:dict.get" => (refine Stop.of ?_)
  k_with "exec If" => ((fail_if_success (with_reducible show wpAny _ _ _ (IfJ _ _ _ _) _ _)); (with_reducible show wpAny _ _ (exec (Stmt.If (Expr.Compare _ [CmpOp.Is] _ _) _ _ _) _) _ _ _); refine Stop.of ?_)
  trivial
section
variable {w : World} {mean : ExcName → Option Value} {mg mb : Str → Option Value}
inductive RFlm (rest : Led) (jk : Option Int) (xs ys : List Int) (alo ahi blo bhi : Nat) (v : Value) (news' : Led) : Prop
  | mk (x : Addr) (dx : Addr) (i : Nat) (j : Nat) (s : Nat) (u1 : Tok) (u2 : Tok) (u3 : Tok) (h1 : v = .ref x) (h2 : news' = (x, matchO dx #[.int (i : Nat) u1, .int (j : Nat) u2, .int (s : Nat) u3]) :: (dx, emptyDict) :: rest) (h3 : (∀ p ∈ rest, p.1 < dx)) (h4 : dx < x) (h5 : LongW jk xs ys alo ahi blo bhi i j s) : RFlm rest jk xs ys alo ahi blo bhi v news'
inductive JFa (w : World) (rest : Led) (jk : Option Int) (xs ys : List Int) (alo ahi blo bhi : Nat) (No G Jx Bx p q M : Addr) (t1 t2 t3 t4 : Tok) (i : Nat) (m : Str → Option Value) (nx : Led) : Prop
  | mk (Jd : Addr) (oD : Obj) (kvs2 : List (Int × Value)) (bi bj bs : Nat) (t5 t6 t7 : Tok) (h1 : nx = (Jd, oD) :: (No, listOf #[] 0) :: (G, boundHas Jx) :: rest) (h2 : oD.IsDictOf (PySem.intKind (OpenLaw.prog PySem.Challenge.rw_pg0326_01) w) kvs2) (h3 : (Jd == sysModules) = false) (h4 : Has m [(Str.ofString "nothing", .ref No), (Str.ofString "j2len", .ref Jd), (Str.ofString "besti", .int bi t5), (Str.ofString "bestj", .int bj t6), (Str.ofString "bestsize", .int bs t7), (Str.ofString "bhi", .int bhi t4), (Str.ofString "ahi", .int ahi t3), (Str.ofString "isbjunk", .ref G), (Str.ofString "b2j", .ref Bx), (Str.ofString "b", .ref q), (Str.ofString "a", .ref p), (Str.ofString "self", .ref M), (Str.ofString "alo", .int alo t1), (Str.ofString "blo", .int blo t2)]) (h5 : DI jk xs ys alo ahi blo bhi kvs2 (alo + i)) (h6 : BI (Blk jk xs ys alo ahi blo bhi) (fun k j s => k + s ≤ alo + i) alo blo bi bj bs) : JFa w rest jk xs ys alo ahi blo bhi No G Jx Bx p q M t1 t2 t3 t4 i m nx
inductive JFb (w : World) (rest : Led) (jk : Option Int) (xs ys : List Int) (alo ahi blo bhi : Nat) (No G Jx Bx p q M : Addr) (t1 t2 t3 t4 : Tok) (Nd G2 Jd I : Addr) (it oD : Obj) (i : Nat) (t : Tok) (PS : List Int) (z : Nat) (m : Str → Option Value) (nx : Led) : Prop
  | mk (oN : Obj) (kvs3 : List (Int × Value)) (bi bj bs e : Nat) (t5 t6 t7 : Tok) (h1 : nx = (Nd, oN) :: (G2, boundGet Jd) :: (I, it) :: (Jd, oD) :: (No, listOf #[] 0) :: (G, boundHas Jx) :: rest) (h2 : oN.IsDictOf (PySem.intKind (OpenLaw.prog PySem.Challenge.rw_pg0326_01) w) kvs3) (h3 : kvs3.length ≤ z) (h4 : Has m [(Str.ofString "newj2len", .ref Nd), (Str.ofString "j2lenget", .ref G2), (Str.ofString "i", .int ((alo : Int) + (i : Int)) t), (Str.ofString "nothing", .ref No), (Str.ofString "besti", .int bi t5), (Str.ofString "bestj", .int bj t6), (Str.ofString "bestsize", .int bs t7), (Str.ofString "bhi", .int bhi t4), (Str.ofString "ahi", .int ahi t3), (Str.ofString "isbjunk", .ref G), (Str.ofString "b2j", .ref Bx), (Str.ofString "b", .ref q), (Str.ofString "a", .ref p), (Str.ofString "self", .ref M), (Str.ofString "alo", .int alo t1), (Str.ofString "blo", .int blo t2)]) (h5 : NI jk xs ys alo ahi blo bhi kvs3 PS z (alo + i)) (h6 : BI (Blk jk xs ys alo ahi blo bhi) (PrF (alo + i) e) alo blo bi bj bs) (h7 : (∀ v ∈ PS.take z, v < (e : Int))) (h8 : (∀ v ∈ PS.drop z, (e : Int) ≤ v)) : JFb w rest jk xs ys alo ahi blo bhi No G Jx Bx p q M t1 t2 t3 t4 Nd G2 Jd I it oD i t PS z m nx
inductive JFd (rest : Led) (jk : Option Int) (xs ys : List Int) (alo ahi blo bhi : Nat) (G Jx p q : Addr) (t1 t2 t3 t4 : Tok) (bi bj bs : Nat) (m : Str → Option Value) (nx : Led) : Prop
  | mk (h1 : nx = (G, boundHas Jx) :: rest) (i3 j3 d3 : Nat) (t5 t6 t7 : Tok) (h2 : Has m [(Str.ofString "besti", .int ((i3 : Nat)) t5), (Str.ofString "bestj", .int ((j3 : Nat)) t6), (Str.ofString "bestsize", .int (((d3 + bs : Nat) : Int)) t7), (Str.ofString "bhi", .int bhi t4), (Str.ofString "ahi", .int ahi t3), (Str.ofString "isbjunk", .ref G), (Str.ofString "b", .ref q), (Str.ofString "a", .ref p), (Str.ofString "alo", .int alo t1), (Str.ofString "blo", .int blo t2)]) (h3 : bi = i3 + d3) (h4 : bj = j3 + d3) (h5 : alo ≤ i3) (h6 : blo ≤ j3) (h7 : (∀ t, t < d3 → Jk jk xs ys (i3 + t) (j3 + t))) (h8 : (i3 = alo ∨ j3 = blo ∨ ¬ Jk jk xs ys (i3 - 1) (j3 - 1))) : JFd rest jk xs ys alo ahi blo bhi G Jx p q t1 t2 t3 t4 bi bj bs m nx
inductive JFf (rest : Led) (jk : Option Int) (xs ys : List Int) (alo ahi blo bhi : Nat) (G Jx p q : Addr) (t1 t2 t3 t4 : Tok) (bi bj bs : Nat) (i3 j3 d3 : Nat) (t5 t6 : Tok) (m : Str → Option Value) (nx : Led) : Prop
  | mk (h1 : nx = (G, boundHas Jx) :: rest) (e4 : Nat) (t7 : Tok) (h2 : Has m [(Str.ofString "besti", .int ((i3 : Nat)) t5), (Str.ofString "bestj", .int ((j3 : Nat)) t6), (Str.ofString "bestsize", .int (((d3 + bs + e4 : Nat) : Int)) t7), (Str.ofString "bhi", .int bhi t4), (Str.ofString "ahi", .int ahi t3), (Str.ofString "isbjunk", .ref G), (Str.ofString "b", .ref q), (Str.ofString "a", .ref p), (Str.ofString "alo", .int alo t1), (Str.ofString "blo", .int blo t2)]) (h3 : bi + bs + e4 ≤ ahi) (h4 : bj + bs + e4 ≤ bhi) (h5 : (∀ t, t < e4 → Jk jk xs ys (bi + bs + t) (bj + bs + t))) (h6 : (bi + bs + e4 = ahi ∨ bj + bs + e4 = bhi ∨ ¬ Jk jk xs ys (bi + bs + e4) (bj + bs + e4))) : JFf rest jk xs ys alo ahi blo bhi G Jx p q t1 t2 t3 t4 bi bj bs i3 j3 d3 t5 t6 m nx
theorem c_flm {rest nl : Led} {M D p q Bx Jx Px : Addr} {es : List DictEntry} {n k c d : Nat} {f : Str → Option Value} {jk : Option Int} {us vs : List Value} {xs ys : List Int} {alo ahi blo bhi : Nat} {t1 t2 : Tok} {v1 v2 : Value} {va : List Value} (hva : va = [.ref M, .int alo t1, v1, .int blo t2, v2] ∨ (va = [.ref M, .int alo t1, v1, .int blo t2] ∧ v2 = .none) ∨ (va = [.ref M] ∧ alo = 0 ∧ t1 = 464 ∧ v1 = .none ∧ blo = 0 ∧ t2 = 465 ∧ v2 = .none))
    (hM : (M, instObj 242 D) ∈ rest) (hDm : (D, dictOf es n) ∈ rest) (fl : Flds k es f) (hnl : ∀ p ∈ nl, p ∈ rest)
    (ha : f "a" = some (.ref p)) (hb : f "b" = some (.ref q)) (hb2 : f "b2j" = some (.ref Bx)) (hbj : f "bjunk" = some (.ref Jx)) (hp : (p, listOf us.toArray c) ∈ rest) (hq : (q, listOf vs.toArray d) ∈ rest) (hx : IntsAre us xs) (hy : IntsAre vs ys) (hl1 : xs.length ≤ 100) (hl2 : ys.length ≤ 100)
    (hS : SMB w jk ys nl Bx Jx Px) (hw1 : alo ≤ ahi) (hw2 : ahi ≤ xs.length) (hw3 : blo ≤ bhi) (hw4 : bhi ≤ ys.length) (hv1 : (∃ t, v1 = .int ahi t) ∨ (v1 = .none ∧ ahi = xs.length)) (hv2 : (∃ t, v2 = .int bhi t) ∨ (v2 = .none ∧ bhi = ys.length)) {ex : List Addr} (hno : NoIt ex rest) :
    Calls w mean mg mb 196 va 20 rest (RFlm rest jk xs ys alo ahi blo bhi) := by
  w_on
  unfold Calls
  k_fill
  intro dp un gd cn csc aa ccd cl outer A₀ base h₀ L m s Q E B F X N T hk hd hu hret
  refine wpAny_call ?_
  k_dflt (refine' code_def (scope := Scope.mk _ _ _ _ _) (params := Arguments.mk _ _ _ _ _ _ _) (body := _ :: _) (binds := [(Str.ofString "self", Value.ref M), (Str.ofString "alo", Value.int alo t1), (Str.ofString "ahi", v1), (Str.ofString "blo", Value.int blo t2), (Str.ofString "bhi", v2)]) ?k1 ?k2 ?k3 ?k4 ?k5 ?kA ?kF ?kK ?k6 ?k7 ?k8 ?k9 ?kB ?_ ?c2 ?c3 ?c4 ?c5; (case kA => exact rfl); (case kF => exact rfl); (case kK => assumption); (case k1 => k_asm); (case k2 => k_asm); (case k3 => k_asm); (case k4 => k_asm); (case k5 => k_asm); (case k6 => exact rfl); (case k7 => k_is); (case k8 => first | exact room0 hd | ktr_room); (case k9 => rcases hva with rfl | ⟨rfl, rfl⟩ | ⟨rfl, rfl, rfl, rfl, rfl, rfl, rfl⟩ <;> first | exact BindsTo.of_eq rfl | exact binds_K (by k_in) rfl (by k_is) rfl rfl rfl); (case c5 => decide); (case kB => exact locs rfl); (case c2 => exact rfl); (case c3 => exact rfl); (case c4 => exact rfl); k_whole; intro g' L' h' FG' F' N' B' X' T'; (try dsimp only); (try k_fold); refine fold_A ?_; intro AA; have hAu : AA.units = un + 3 := rfl; have hAd : AA.depth = dp + 1 := rfl; refine fold_env ?_; intro ee)
  have hul := hx.length
  have hvl := hy.length
  obtain ⟨oB, kvs, hBm, hdB, hkl, loB, hidx⟩ := hS.idx
  obtain ⟨oJ, nJ, hJm, hdJ, hnJ⟩ := hS.junk
  have hBm' := hnl _ hBm
  have hJm' := hnl _ hJm
  k_steps
  refine Stop.go ?_
  rename (Fr _ _ _ _) => F1
  rename (News _ _ _ _) => N1
  rename_i G hG lG D0 h1 lD h2 h3 h4 h5 h6
  replace N1 := News.drop1 N1
  refine if_join (L := L') (h₀ := g') (fun m nx => nx = (G, boundHas Jx) :: rest ∧ ∃ t3, Has m [(Str.ofString "ahi", .int ahi t3), (Str.ofString "isbjunk", .ref G), (Str.ofString "b2j", .ref Bx), (Str.ofString "b", .ref q), (Str.ofString "a", .ref p), (Str.ofString "self", .ref M), (Str.ofString "alo", .int alo t1), (Str.ofString "blo", .int blo t2), (Str.ofString "bhi", v2)]) ?j1 ?j2
  case j1 =>
    rcases hv1 with ⟨t3, rfl⟩ | ⟨rfl, rfl⟩
    · k_steps
      exact ⟨rfl, WExit.mk F1 N1 ⟨rfl, t3, rfl, rfl, rfl, rfl, rfl, rfl, rfl, rfl, rfl, trivial⟩⟩
    · k_steps
      rename (Fr _ _ _ _) => F3
      rename (News _ _ _ _) => N3
      exact ⟨rfl, WExit.mk F3 N3 ⟨rfl, _, congrArg some (congrArg (Value.int · _) (by rw [List.size_toArray, hul])), rfl, rfl, rfl, rfl, rfl, rfl, rfl, rfl, trivial⟩⟩
  rintro m1 nx h7 tk7 F3 N3 ⟨rfl, t3, hm1⟩
  replace F3 := Fr.has _ F3 hm1
  k_steps
  refine Stop.go ?_
  refine if_join (L := L') (h₀ := g') (fun m nx => nx = (G, boundHas Jx) :: rest ∧ ∃ t4, Has m [(Str.ofString "bhi", .int bhi t4), (Str.ofString "ahi", .int ahi t3), (Str.ofString "isbjunk", .ref G), (Str.ofString "b2j", .ref Bx), (Str.ofString "b", .ref q), (Str.ofString "a", .ref p), (Str.ofString "self", .ref M), (Str.ofString "alo", .int alo t1), (Str.ofString "blo", .int blo t2)]) ?j3 ?j4
  case j3 =>
    rcases hv2 with ⟨t4, rfl⟩ | ⟨rfl, rfl⟩
    · k_steps
      exact ⟨rfl, WExit.mk F3 N3 ⟨rfl, t4, rfl, rfl, rfl, rfl, rfl, rfl, rfl, rfl, rfl, trivial⟩⟩
    · k_steps
      rename (Fr _ _ _ _) => F4
      rename (News _ _ _ _) => N4
      exact ⟨rfl, WExit.mk F4 N4 ⟨rfl, _, congrArg some (congrArg (Value.int · _) (by rw [List.size_toArray, hvl])), rfl, rfl, rfl, rfl, rfl, rfl, rfl, rfl, trivial⟩⟩
  rintro m2 nx h8 tk8 F4 N4 ⟨rfl, t4, hm2⟩
  replace F4 := Fr.has _ F4 hm2
  k_steps
  refine Stop.go ?_
  rename (Fr _ _ _ _) => F5
  rename (News _ _ _ _) => N5
  rename_i Jd hA o0 loD hsA fsA hdD fiA lA hB2 tkB No hC lC hD2
  replace N5 := News.sub (b := (Jd, o0) :: (No, listOf #[] 0) :: (G, boundHas Jx) :: rest) N5 (fun q hq => by
    rcases List.mem_cons.mp hq with rfl | hq
    · exact .tail _ (.head _)
    · rcases List.mem_cons.mp hq with rfl | hq
      · exact .head _
      · exact .tail _ (.tail _ (.tail _ hq)))
  clear lA lC lD hsA fsA fiA
  k_dflt (refine' For_invVF F5 ?k1 ?k2 ?_; (case k1 => exact rfl); (case k2 => exact rfl))
  k_steps
  refine Stop.go ?_
  rename (IsRange _ _ _ _ _ _ _ _) => R6
  rename (Fr _ _ _ _) => F6
  rename (News _ _ _ _) => N6
  replace N6 := News.sub (b := (Jd, o0) :: (No, listOf #[] 0) :: (G, boundHas Jx) :: rest) N6 (fun q hq => by first | exact hq | exact .tail _ hq)
  have hnoR : NoIt ex ((No, listOf #[] 0) :: (G, boundHas Jx) :: rest) := NoIt.cons rfl (NoIt.cons rfl hno)
  refine loop_range ex (JFa w rest jk xs ys alo ahi blo bhi No G Jx Bx p q M t1 t2 t3 t4) rfl R6 ?hb F6 N6 (NoIt.cons (dict_noIt hdD) hnoR) ?hj ?turn ?done
  case hb => lia
  case hj => exact ⟨Jd, o0, [], alo, blo, 0, _, _, _, rfl, hdD, loD, ⟨rfl, rfl, rfl, rfl, rfl, rfl, rfl, rfl, rfl, rfl, rfl, rfl, rfl, rfl, trivial⟩, DI.start, (BI.start (Pr := fun _ _ _ => False) (fun _ _ _ _ h => h)).congr fun k j s z hB => ⟨fun h => by have h1 : k + s ≤ alo + 0 := h; have h2 := hB.1; lia, fun h => h.elim⟩⟩
  case done =>
    rintro m₁ nx h tk ⟨Jd, oD, kvs2, bi, bj, bs, t5, t6, t7, rfl, hdD, loD, hm, hDI, hBI⟩ hno7 F7 N7
    have hB : Best jk xs ys alo ahi blo bhi bi bj bs := hBI.best hw1 hw3 (fun i j s z hb => by have := hb.2.1; lia)
    replace N7 : News g' _ _ ((G, boundHas Jx) :: rest) := News.drop1 (News.drop1 N7)
    replace F7 := Fr.has _ F7 hm
    clear hm hBI hDI hdD hno7
    have hbl := hB.1
    have bl1 : alo ≤ bi := hbl.1
    have bl2 : bi + bs ≤ ahi := hbl.2.1
    have bl3 : blo ≤ bj := hbl.2.2.1
    have bl4 : bj + bs ≤ bhi := hbl.2.2.2.1
    have hdec : ∀ y : Nat, y < ys.length → decide (jk = some (ys.getD y 0) ∧ ys.getD y 0 ∈ ys) = decide (jk = some (ys.getD y 0)) := fun y hy => by
      have : ys.getD y 0 ∈ ys := List.mem_of_getElem? (getD_some hy)
      simp only [this, and_true]
    clear hbl hS hidx hdB hBm'
    try k_fold
    k_steps
    refine Stop.go ?_
    refine while_done (fun _ m nx => nx = (G, boundHas Jx) :: rest ∧ Has m [(Str.ofString "besti", .int ((bi : Nat)) t5), (Str.ofString "bestj", .int ((bj : Nat)) t6), (Str.ofString "bestsize", .int ((bs : Nat)) t7), (Str.ofString "bhi", .int bhi t4), (Str.ofString "ahi", .int ahi t3), (Str.ofString "isbjunk", .ref G), (Str.ofString "b", .ref q), (Str.ofString "a", .ref p), (Str.ofString "alo", .int alo t1), (Str.ofString "blo", .int blo t2)]) (fun m nx => nx = (G, boundHas Jx) :: rest ∧ Has m [(Str.ofString "besti", .int ((bi : Nat)) t5), (Str.ofString "bestj", .int ((bj : Nat)) t6), (Str.ofString "bestsize", .int ((bs : Nat)) t7), (Str.ofString "bhi", .int bhi t4), (Str.ofString "ahi", .int ahi t3), (Str.ofString "isbjunk", .ref G), (Str.ofString "b", .ref q), (Str.ofString "a", .ref p), (Str.ofString "alo", .int alo t1), (Str.ofString "blo", .int blo t2)]) (n₀ := 0) F7 N7 ?w1j ?w1t ?w1d
    case w1j => exact ⟨rfl, ⟨rfl, rfl, rfl, rfl, rfl, rfl, rfl, rfl, rfl, rfl, trivial⟩⟩
    case w1t =>
      rintro n₁ m₁ nx h8 tk8 F8 N8 ⟨rfl, hm⟩
      replace F8 := Fr.has _ F8 hm
      try k_fold
      k_steps
      · exact BmAt.of (by k_asm) (by k_mem)
      · refine Stop.go ?_
        rename ((alo : Int) < bi) => c1
        rename ((blo : Int) < bj) => c2
        refine shas_bm N8 (.head _) (.tail _ hJm') hdJ (by unfold scanBound; lia) ?_
        rw [show ((bj : Int) - 1).toNat = bj - 1 by lia, hdec _ (by lia)]
        by_cases hjn : jk = some (ys.getD (bj - 1) 0)
        · rw [decide_eq_true hjn]
          k_steps
          refine Stop.go ?_
          exact WExit.mk F8 N8 ⟨rfl, ⟨rfl, rfl, rfl, rfl, rfl, rfl, rfl, rfl, rfl, rfl, trivial⟩⟩
        · rw [decide_eq_false hjn]
          k_steps
          · exfalso
            rename (List.getD xs _ _ = List.getD ys _ _) => he
            rw [show ((bi : Int) - 1).toNat = bi - 1 by lia, show ((bj : Int) - 1).toNat = bj - 1 by lia] at he
            exact hB.no_left (by lia) (by lia) (getD_some (by lia)) (by rw [he]; exact getD_some (by lia)) (by rw [he]; exact hjn)
          · refine Stop.go ?_
            exact WExit.mk F8 N8 ⟨rfl, ⟨rfl, rfl, rfl, rfl, rfl, rfl, rfl, rfl, rfl, rfl, trivial⟩⟩
      · refine Stop.go ?_
        exact WExit.mk F8 N8 ⟨rfl, ⟨rfl, rfl, rfl, rfl, rfl, rfl, rfl, rfl, rfl, rfl, trivial⟩⟩
      · refine Stop.go ?_
        exact WExit.mk F8 N8 ⟨rfl, ⟨rfl, rfl, rfl, rfl, rfl, rfl, rfl, rfl, rfl, rfl, trivial⟩⟩
    case w1d =>
      rintro m₁ nx h8 tk8 F8 N8 ⟨rfl, hm⟩
      replace F8 := Fr.has _ F8 hm
      try k_fold
      k_steps
      refine Stop.go ?_
      refine while_done (fun _ m nx => nx = (G, boundHas Jx) :: rest ∧ Has m [(Str.ofString "besti", .int ((bi : Nat)) t5), (Str.ofString "bestj", .int ((bj : Nat)) t6), (Str.ofString "bestsize", .int ((bs : Nat)) t7), (Str.ofString "bhi", .int bhi t4), (Str.ofString "ahi", .int ahi t3), (Str.ofString "isbjunk", .ref G), (Str.ofString "b", .ref q), (Str.ofString "a", .ref p), (Str.ofString "alo", .int alo t1), (Str.ofString "blo", .int blo t2)]) (fun m nx => nx = (G, boundHas Jx) :: rest ∧ Has m [(Str.ofString "besti", .int ((bi : Nat)) t5), (Str.ofString "bestj", .int ((bj : Nat)) t6), (Str.ofString "bestsize", .int ((bs : Nat)) t7), (Str.ofString "bhi", .int bhi t4), (Str.ofString "ahi", .int ahi t3), (Str.ofString "isbjunk", .ref G), (Str.ofString "b", .ref q), (Str.ofString "a", .ref p), (Str.ofString "alo", .int alo t1), (Str.ofString "blo", .int blo t2)]) (n₀ := 0) F8 N8 ?w2j ?w2t ?w2d
      case w2j => exact ⟨rfl, ⟨rfl, rfl, rfl, rfl, rfl, rfl, rfl, rfl, rfl, rfl, trivial⟩⟩
      case w2t =>
        rintro n₁ m₁ nx h8 tk8 F8 N8 ⟨rfl, hm⟩
        replace F8 := Fr.has _ F8 hm
        try k_fold
        k_steps
        · exact BmAt.of (by k_asm) (by k_mem)
        · refine Stop.go ?_
          rename ((bi : Int) + bs < ahi) => c1
          rename ((bj : Int) + bs < bhi) => c2
          refine shas_bm N8 (.head _) (.tail _ hJm') hdJ (by unfold scanBound; lia) ?_
          rw [show ((bj : Int) + bs).toNat = bj + bs by lia, hdec _ (by lia)]
          by_cases hjn : jk = some (ys.getD (bj + bs) 0)
          · rw [decide_eq_true hjn]
            k_steps
            refine Stop.go ?_
            exact WExit.mk F8 N8 ⟨rfl, ⟨rfl, rfl, rfl, rfl, rfl, rfl, rfl, rfl, rfl, rfl, trivial⟩⟩
          · rw [decide_eq_false hjn]
            k_steps
            · exfalso
              rename (List.getD xs _ _ = List.getD ys _ _) => he
              rw [show ((bi : Int) + bs).toNat = bi + bs by lia, show ((bj : Int) + bs).toNat = bj + bs by lia] at he
              exact hB.no_right (by lia) (by lia) (getD_some (by lia)) (by rw [he]; exact getD_some (by lia)) (by rw [he]; exact hjn)
            · refine Stop.go ?_
              exact WExit.mk F8 N8 ⟨rfl, ⟨rfl, rfl, rfl, rfl, rfl, rfl, rfl, rfl, rfl, rfl, trivial⟩⟩
        · refine Stop.go ?_
          exact WExit.mk F8 N8 ⟨rfl, ⟨rfl, rfl, rfl, rfl, rfl, rfl, rfl, rfl, rfl, rfl, trivial⟩⟩
        · refine Stop.go ?_
          exact WExit.mk F8 N8 ⟨rfl, ⟨rfl, rfl, rfl, rfl, rfl, rfl, rfl, rfl, rfl, rfl, trivial⟩⟩
      case w2d =>
        rintro m₁ nx h8 tk8 F8 N8 ⟨rfl, hm⟩
        replace F8 := Fr.has _ F8 hm
        try k_fold
        k_steps
        refine Stop.go ?_
        refine while_done (fun n m nx => nx = (G, boundHas Jx) :: rest ∧ ∃ (i3 j3 d3 : Nat) (t5 t6 t7 : Tok), Has m [(Str.ofString "besti", .int ((i3 : Nat)) t5), (Str.ofString "bestj", .int ((j3 : Nat)) t6), (Str.ofString "bestsize", .int (((d3 + bs : Nat) : Int)) t7), (Str.ofString "bhi", .int bhi t4), (Str.ofString "ahi", .int ahi t3), (Str.ofString "isbjunk", .ref G), (Str.ofString "b", .ref q), (Str.ofString "a", .ref p), (Str.ofString "alo", .int alo t1), (Str.ofString "blo", .int blo t2)] ∧ n = i3 ∧ bi = i3 + d3 ∧ bj = j3 + d3 ∧ alo ≤ i3 ∧ blo ≤ j3 ∧ ∀ t, t < d3 → Jk jk xs ys (i3 + t) (j3 + t))
          (JFd rest jk xs ys alo ahi blo bhi G Jx p q t1 t2 t3 t4 bi bj bs) (n₀ := bi) F8 N8 ?w3j ?w3t ?w3d
        case w3j => exact ⟨rfl, bi, bj, 0, t5, t6, t7, ⟨rfl, rfl, congrArg some (congrArg (Value.int · _) (by lia)), rfl, rfl, rfl, rfl, rfl, rfl, rfl, trivial⟩, rfl, rfl, rfl, bl1, bl3, fun _ h => absurd h (Nat.not_lt_zero _)⟩
        case w3t =>
          rintro n₁ m₁ nx h8 tk8 F8 N8 ⟨rfl, i3, j3, d3, t5, t6, t7, hm, e0, e1, e2, e3, e4, hd3⟩
          replace F8 := Fr.has _ F8 hm
          try k_fold
          k_steps
          · exact BmAt.of (by k_asm) (by k_mem)
          · refine Stop.go ?_
            rename ((alo : Int) < i3) => c1
            rename ((blo : Int) < j3) => c2
            refine shas_bm N8 (.head _) (.tail _ hJm') hdJ (by unfold scanBound; lia) ?_
            rw [show ((j3 : Int) - 1).toNat = j3 - 1 by lia, hdec _ (by lia)]
            have hjk := jk_getD (jk := jk) (a := xs) (b := ys) (i := i3 - 1) (j := j3 - 1) (by lia) (by lia)
            by_cases hjn : jk = some (ys.getD (j3 - 1) 0)
            · rw [decide_eq_true hjn]
              k_steps
              · refine Stop.go ?_
                rename (List.getD xs _ _ = List.getD ys _ _) => he
                rw [show ((i3 : Int) - 1).toNat = i3 - 1 by lia, show ((j3 : Int) - 1).toNat = j3 - 1 by lia] at he
                rename (Fr _ _ _ _) => F9
                rename (News _ _ _ _) => N9
                refine wstep_next (i3 - 1) F9 (News.sub N9 (fun q hq => by first | exact hq | exact .tail _ hq)) (by lia) ⟨rfl, i3 - 1, j3 - 1, d3 + 1, _, _, _, ⟨congrArg some (congrArg (Value.int · _) ?_), congrArg some (congrArg (Value.int · _) ?_), congrArg some (congrArg (Value.int · _) ?_), rfl, rfl, rfl, rfl, rfl, rfl, rfl, trivial⟩, rfl, by lia, by lia, by lia, by lia, fun t ht => ?_⟩
                · lia
                · lia
                · lia
                · cases t with
                  | zero => exact hjk.mpr ⟨hjn, he⟩
                  | succ t =>
                    rw [show i3 - 1 + (t + 1) = i3 + t by lia, show j3 - 1 + (t + 1) = j3 + t by lia]
                    exact hd3 t (by lia)
              · refine Stop.go ?_
                rename (¬ List.getD xs _ _ = List.getD ys _ _) => he
                rw [show ((i3 : Int) - 1).toNat = i3 - 1 by lia, show ((j3 : Int) - 1).toNat = j3 - 1 by lia] at he
                exact WExit.mk F8 N8 ⟨rfl, i3, j3, d3, t5, t6, t7, ⟨rfl, rfl, rfl, rfl, rfl, rfl, rfl, rfl, rfl, rfl, trivial⟩, e1, e2, e3, e4, hd3, .inr (.inr fun h => he (hjk.mp h).2)⟩
            · rw [decide_eq_false hjn]
              k_steps
              refine Stop.go ?_
              exact WExit.mk F8 N8 ⟨rfl, i3, j3, d3, t5, t6, t7, ⟨rfl, rfl, rfl, rfl, rfl, rfl, rfl, rfl, rfl, rfl, trivial⟩, e1, e2, e3, e4, hd3, .inr (.inr fun h => hjn (hjk.mp h).1)⟩
          · refine Stop.go ?_
            rename (¬ (blo : Int) < j3) => c2
            exact WExit.mk F8 N8 ⟨rfl, i3, j3, d3, t5, t6, t7, ⟨rfl, rfl, rfl, rfl, rfl, rfl, rfl, rfl, rfl, rfl, trivial⟩, e1, e2, e3, e4, hd3, .inr (.inl (by lia))⟩
          · refine Stop.go ?_
            rename (¬ (alo : Int) < i3) => c2
            exact WExit.mk F8 N8 ⟨rfl, i3, j3, d3, t5, t6, t7, ⟨rfl, rfl, rfl, rfl, rfl, rfl, rfl, rfl, rfl, rfl, trivial⟩, e1, e2, e3, e4, hd3, .inl (by lia)⟩
        case w3d =>
          rintro m₁ nx h8 tk8 F8 N8 ⟨rfl, i3, j3, d3, t5, t6, t7, hm, e1, e2, e3, e4x, hd3, hend⟩
          replace F8 := Fr.has _ F8 hm
          try k_fold
          k_steps
          refine Stop.go ?_
          refine while_done (fun n m nx => nx = (G, boundHas Jx) :: rest ∧ ∃ (e4 : Nat) (t7 : Tok), Has m [(Str.ofString "besti", .int ((i3 : Nat)) t5), (Str.ofString "bestj", .int ((j3 : Nat)) t6), (Str.ofString "bestsize", .int (((d3 + bs + e4 : Nat) : Int)) t7), (Str.ofString "bhi", .int bhi t4), (Str.ofString "ahi", .int ahi t3), (Str.ofString "isbjunk", .ref G), (Str.ofString "b", .ref q), (Str.ofString "a", .ref p), (Str.ofString "alo", .int alo t1), (Str.ofString "blo", .int blo t2)] ∧ n + (bi + bs + e4) = ahi ∧ bj + bs + e4 ≤ bhi ∧ ∀ t, t < e4 → Jk jk xs ys (bi + bs + t) (bj + bs + t))
            (JFf rest jk xs ys alo ahi blo bhi G Jx p q t1 t2 t3 t4 bi bj bs i3 j3 d3 t5 t6) (n₀ := ahi - (bi + bs)) F8 N8 ?w4j ?w4t ?w4d
          case w4j => exact ⟨rfl, 0, t7, ⟨rfl, rfl, rfl, rfl, rfl, rfl, rfl, rfl, rfl, rfl, trivial⟩, by lia, by lia, fun _ h => absurd h (Nat.not_lt_zero _)⟩
          case w4t =>
            rintro n₁ m₁ nx h8 tk8 F8 N8 ⟨rfl, e4, t7, hm, f1, f2, hd4⟩
            replace F8 := Fr.has _ F8 hm
            try k_fold
            k_steps
            · exact BmAt.of (by k_asm) (by k_mem)
            · refine Stop.go ?_
              rename ((i3 : Int) + _ < ahi) => c1
              rename ((j3 : Int) + _ < bhi) => c2
              refine shas_bm N8 (.head _) (.tail _ hJm') hdJ (by unfold scanBound; lia) ?_
              rw [show ((j3 : Int) + ((d3 + bs + e4 : Nat) : Int)).toNat = bj + bs + e4 by lia, hdec _ (by lia)]
              have hjk := jk_getD (jk := jk) (a := xs) (b := ys) (i := bi + bs + e4) (j := bj + bs + e4) (by lia) (by lia)
              by_cases hjn : jk = some (ys.getD (bj + bs + e4) 0)
              · rw [decide_eq_true hjn]
                k_steps
                · refine Stop.go ?_
                  rename (List.getD xs _ _ = List.getD ys _ _) => he
                  rw [show ((i3 : Int) + ((d3 + bs + e4 : Nat) : Int)).toNat = bi + bs + e4 by lia, show ((j3 : Int) + ((d3 + bs + e4 : Nat) : Int)).toNat = bj + bs + e4 by lia] at he
                  rename (Fr _ _ _ _) => F9
                  rename (News _ _ _ _) => N9
                  refine wstep_next (n₁ - 1) F9 (News.sub N9 (fun q hq => by first | exact hq | exact .tail _ hq)) (by lia) ⟨rfl, e4 + 1, _, ⟨rfl, rfl, congrArg some (congrArg (Value.int · _) ?_), rfl, rfl, rfl, rfl, rfl, rfl, rfl, trivial⟩, by lia, by lia, fun t ht => ?_⟩
                  · lia
                  · rcases Nat.lt_or_ge t e4 with c | c
                    · exact hd4 t c
                    · obtain rfl : t = e4 := by lia
                      exact hjk.mpr ⟨hjn, he⟩
                · refine Stop.go ?_
                  rename (¬ List.getD xs _ _ = List.getD ys _ _) => he
                  rw [show ((i3 : Int) + ((d3 + bs + e4 : Nat) : Int)).toNat = bi + bs + e4 by lia, show ((j3 : Int) + ((d3 + bs + e4 : Nat) : Int)).toNat = bj + bs + e4 by lia] at he
                  exact WExit.mk F8 N8 ⟨rfl, e4, t7, ⟨rfl, rfl, rfl, rfl, rfl, rfl, rfl, rfl, rfl, rfl, trivial⟩, by lia, f2, hd4, .inr (.inr fun h => he (hjk.mp h).2)⟩
              · rw [decide_eq_false hjn]
                k_steps
                refine Stop.go ?_
                exact WExit.mk F8 N8 ⟨rfl, e4, t7, ⟨rfl, rfl, rfl, rfl, rfl, rfl, rfl, rfl, rfl, rfl, trivial⟩, by lia, f2, hd4, .inr (.inr fun h => hjn (hjk.mp h).1)⟩
            · refine Stop.go ?_
              rename (¬ (j3 : Int) + _ < bhi) => c2
              exact WExit.mk F8 N8 ⟨rfl, e4, t7, ⟨rfl, rfl, rfl, rfl, rfl, rfl, rfl, rfl, rfl, rfl, trivial⟩, by lia, f2, hd4, .inr (.inl (by lia))⟩
            · refine Stop.go ?_
              rename (¬ (i3 : Int) + _ < ahi) => c2
              exact WExit.mk F8 N8 ⟨rfl, e4, t7, ⟨rfl, rfl, rfl, rfl, rfl, rfl, rfl, rfl, rfl, rfl, trivial⟩, by lia, f2, hd4, .inl (by lia)⟩
          case w4d =>
            rintro m₁ nx h8 tk8 F8 N8 ⟨rfl, e4, t7, hm, f1, f2, hd4, hend4⟩
            replace F8 := Fr.has _ F8 hm
            try k_fold
            k_steps
            refine Stop.go ?_
            k_dflt (refine' Calls.use (c_match (a := (i3 : Nat)) (b := (j3 : Nat)) (c := ((d3 + bs + e4 : Nat) : Int)) (t1 := t5) (t2 := t6) (t3 := t7)) ?B ?F ?X ?N ?T ?hk ?hd ?hu ?_; (case B => k_asm); (case F => k_asm); (case X => k_asm); (case N => k_asm); (case T => k_asm); (case hk => exact rfl); (case hd => first | exact room1 hd (by decide) | ktr_room); (case hu => first | exact units1 hu (by decide) | ktr_units))
            rintro v nx' h9 tk9 F9 N9 ⟨x, dx, rfl, rfl, lx1, lx2⟩
            k_steps
            rename (Fr h₀ L _ m) => kF
            rename (News h₀ L _ _) => kN
            exact hret _ _ _ _ kF (News.sub kN (fun q hq => by
              rcases List.mem_cons.mp hq with rfl | hq
              · exact .head _
              · rcases List.mem_cons.mp hq with rfl | hq
                · exact .tail _ (.head _)
                · exact .tail _ (.tail _ (.tail _ hq)))) ⟨x, dx, i3, j3, d3 + bs + e4, _, _, _, rfl, rfl, fun p hp => lx1 p (.tail _ hp), lx2, bi, bj, bs, d3, e4, hB, e1, e2, rfl, e3, e4x, by lia, by lia, hd3, hend, hd4, by
                rcases hend4 with c | c | c
                · exact .inl (by lia)
                · exact .inr (.inl (by lia))
                · refine .inr (.inr ?_)
                  rw [show i3 + (d3 + bs + e4) = bi + bs + e4 by lia, show j3 + (d3 + bs + e4) = bj + bs + e4 by lia]
                  exact c⟩
  case turn =>
    rintro i t m₁ nx I it h tk hi ⟨Jd, oD, kvs2, bi, bj, bs, t5, t6, t7, rfl, hdD, loD, hm, hDI, hBI⟩ hno7 F7 N7 hI
    replace F7 := Fr.hasX _ F7 hm
    try k_fold
    k_steps
    refine Stop.go ?_
    rename (Fr _ _ _ _) => F8
    rename (News _ _ _ _) => N8
    rename_i G2 hxa Fxa Nxa lG2 hxb tkb2 Nd hxc oN0 loN hsN fsN hdN fiN lN hxd
    clear hsN fsN fiN Fxa Nxa
    have hNd : ∀ q ∈ (G2, boundGet Jd) :: (I, it) :: (Jd, oD) :: (No, listOf #[] 0) :: (G, boundHas Jx) :: rest, q.1 ≠ Nd := by
      refine List.forall_mem_cons.mpr ⟨Nat.ne_of_lt lN.1, List.forall_mem_cons.mpr ⟨Nat.ne_of_lt lN.2.1, List.forall_mem_cons.mpr ⟨Nat.ne_of_lt lN.2.2.1, List.forall_mem_cons.mpr ⟨Nat.ne_of_lt lN.2.2.2.1, List.forall_mem_cons.mpr ⟨Nat.ne_of_lt lN.2.2.2.2.1, fun q hq => Nat.ne_of_lt (allLt_mem lN.2.2.2.2.2 q hq)⟩⟩⟩⟩⟩
    have hxi : xs[alo + i]? = some (xs.getD (alo + i) 0) := by
      have : alo + i < xs.length := by lia
      simp [List.getD, this]
    obtain ⟨la, ps, cP, PS, hla, hlm, hps, hP, hpl⟩ : ∃ la ps cP PS, (valueAt kvs (xs.getD (alo + i) 0)).getD (.ref No) = .ref la ∧ (la, listOf ps.toArray cP) ∈ (No, listOf #[] 0) :: (G, boundHas Jx) :: rest ∧ IntsAre ps PS ∧ PosOf jk ys (xs.getD (alo + i) 0) PS ∧ PS.length ≤ 100 := by
      have h0 := hidx (xs.getD (alo + i) 0)
      by_cases hj : jk = some (xs.getD (alo + i) 0)
      · rw [if_pos hj] at h0
        exact ⟨No, [], 0, [], by rw [h0]; rfl, .head _, .nil, PosOf.nil (.inl hj), Nat.zero_le _⟩
      · rw [if_neg hj] at h0
        cases hq0 : valueAt kvs (xs.getD (alo + i) 0) with
        | none => exact ⟨No, [], 0, [], rfl, .head _, .nil, PosOf.nil (.inr (h0.1 hq0)), Nat.zero_le _⟩
        | some v0 =>
          obtain ⟨a0, vs0, c0, rfl, hm0, hi0⟩ := h0.2 v0 hq0
          exact ⟨a0, vs0, c0, _, rfl, .tail _ (.tail _ (hnl _ hm0)), hi0, PosOf.pos hj, Nat.le_trans (pos_len _ _ _) hl2⟩
    have hpsl := hps.length
    have hrow : ∀ (kvs3 : List (Int × Value)) (bi bj bs e z0 : Nat), NI jk xs ys alo ahi blo bhi kvs3 PS z0 (alo + i) → BI (Blk jk xs ys alo ahi blo bhi) (PrF (alo + i) e) alo blo bi bj bs → (∀ v ∈ PS.take z0, v < (e : Int)) → (∀ v ∈ PS.drop z0, (bhi : Int) ≤ v) →
        DI jk xs ys alo ahi blo bhi kvs3 (alo + (i + 1)) ∧ BI (Blk jk xs ys alo ahi blo bhi) (fun k j s => k + s ≤ alo + (i + 1)) alo blo bi bj bs := fun kvs3 bi bj bs e z0 h1 h2 h3 h4 =>
      ⟨h1.done hP hxi fun z y hz hy => by
        have : (y : Int) ∈ PS.drop z0 := by
          rw [List.mem_iff_getElem?]
          exact ⟨z - z0, by rw [List.getElem?_drop, show z0 + (z - z0) = z by lia]; exact hy⟩
        have := h4 _ this
        lia, row_done hP hxi h2 h3 h4⟩
    k_dflt (refine' For_turns F8 ?_)
    k_steps
    refine Stop.go ?_
    refine kdg_get2 (knd := PySem.intKind _ _) N8 (.tail _ (.tail _ (.tail _ (.tail _ (.tail _ (.tail _ hBm')))))) hdB loB (intKind_is _ _ _ _) _ rfl ?_
    rw [show ((alo : Int) + (i : Int)).toNat = alo + i by lia, hla]
    k_steps
    refine Stop.go ?_
    rename (Fr _ _ _ _) => F9
    rename (News _ _ _ _) => N9
    have hno8 : NoIt (I :: ex) ((I, it) :: (Jd, oD) :: (No, listOf #[] 0) :: (G, boundHas Jx) :: rest) := NoIt.own hno7
    refine turns_list (vs := ps) (k := cP) (I :: ex) (JFb w rest jk xs ys alo ahi blo bhi No G Jx Bx p q M t1 t2 t3 t4 Nd G2 Jd I it oD i t PS) rfl F9 N9 ?lm ?lk ?lc ?lj ?lt ?ld
    case lm => exact .tail _ (.tail _ (.tail _ (.tail _ hlm)))
    case lk =>
      rintro z m nx ⟨oN, kvs3, bi, bj, bs, e, t5, t6, t7, rfl, _⟩
      exact .tail _ (.tail _ (.tail _ (.tail _ hlm)))
    case lc => exact NoIt.cons (dict_noIt hdN) (NoIt.cons rfl hno8)
    case lj => exact ⟨oN0, [], bi, bj, bs, 0, t5, t6, t7, rfl, hdN, Nat.le_refl _, ⟨rfl, rfl, rfl, rfl, rfl, rfl, rfl, rfl, rfl, rfl, rfl, rfl, rfl, rfl, rfl, rfl, trivial⟩, NI.start, prF_row (e := 0) hBI, fun _ h => (nomatch h), fun v hv => by
      obtain ⟨y, rfl⟩ := hP.nat v (by simpa using hv)
      lia⟩
    case ld =>
      rintro m₂ nx h tk ⟨oN, kvs3, bi, bj, bs, e, t5, t6, t7, rfl, hdN3, hk3, hm3, hNI, hBI3, htk, hdr⟩ hno9 F10 N10
      replace F10 := Fr.has _ F10 hm3
      rw [hps.length] at hNI htk
      obtain ⟨d1, d2⟩ := hrow kvs3 bi bj bs e _ hNI hBI3 htk (by rw [List.drop_length]; exact fun _ h => (nomatch h))
      try k_fold
      k_steps
      refine Stop.go ?_
      rename (Fr _ _ _ _) => F11
      rename (News _ _ _ _) => N11
      exact Turn.next F11 (news' := (Nd, oN) :: (No, listOf #[] 0) :: (G, boundHas Jx) :: rest) (News.sub N11 (fun q hq => by
        rcases List.mem_cons.mp hq with rfl | hq
        · exact .tail _ (.tail _ (.head _))
        · rcases List.mem_cons.mp hq with rfl | hq
          · exact .head _
          · exact .tail _ (.tail _ (.tail _ (.tail _ hq))))) (NoIt.cons (dict_noIt hdN3) hnoR) ⟨Nd, oN, kvs3, bi, bj, bs, t5, t6, t7, rfl, hdN3, loN, ⟨rfl, rfl, rfl, rfl, rfl, rfl, rfl, rfl, rfl, rfl, rfl, rfl, rfl, rfl, trivial⟩, d1, d2⟩
    case lt =>
      rintro z v m₂ nx I2 it2 h tk hv ⟨oN, kvs3, bi, bj, bs, e, t5, t6, t7, rfl, hdN3, hk3, hm3, hNI, hBI3, htk, hdr⟩ hno9 F10 N10 hI2
      obtain ⟨y1, ty, rfl, hy1⟩ := IntsAre.at hps z v hv
      obtain ⟨y, rfl⟩ := hP.nat y1 (List.mem_of_getElem? hy1)
      obtain ⟨r1, r2, r3⟩ := row_next hP hxi hBI3 htk hdr hy1
      replace F10 := Fr.has _ F10 hm3
      try k_fold
      have hzl : z < PS.length := (List.getElem?_eq_some_iff.mp hy1).1
      k_steps
      · refine Stop.go ?_
        rename ((y : Int) < blo) => hlt
        rename (Fr _ _ _ _) => F11
        rename (News _ _ _ _) => N11
        exact Turn.cont F11 N11 hno9 ⟨oN, kvs3, bi, bj, bs, y + 1, t5, t6, t7, rfl, hdN3, by lia, ⟨rfl, rfl, rfl, rfl, rfl, rfl, rfl, rfl, rfl, rfl, rfl, rfl, rfl, rfl, rfl, rfl, trivial⟩, hNI.skip hy1 (by lia), prF_skip r1 (Nat.le_succ _) (fun y' x' a1 a2 _ _ _ a3 _ => by lia), r2, r3⟩
      · refine Stop.go ?_
        rename ((bhi : Int) ≤ y) => hge
        rename (Fr _ _ _ _) => F11
        rename (News _ _ _ _) => N11
        obtain ⟨d1, d2⟩ := hrow kvs3 bi bj bs e z hNI hBI3 htk (fun v hv => by
          have hd0 : PS.drop z = (y : Int) :: PS.drop (z + 1) := by rw [List.drop_eq_getElem_cons hzl]; congr 1; rw [List.getElem?_eq_getElem hzl] at hy1; exact Option.some.inj hy1
          rw [hd0] at hv
          rcases List.mem_cons.mp hv with rfl | hv
          · exact hge
          · have := r3 v hv; lia)
        replace N11 := News.sub (b := (Nd, oN) :: (G2, boundGet Jd) :: (I, it) :: (Jd, oD) :: (No, listOf #[] 0) :: (G, boundHas Jx) :: rest) N11 (fun q hq => by first | exact hq | exact .tail _ hq)
        exact Turn.next F11 (news' := (Nd, oN) :: (No, listOf #[] 0) :: (G, boundHas Jx) :: rest) (News.sub N11 (fun q hq => by
          rcases List.mem_cons.mp hq with rfl | hq
          · exact .tail _ (.tail _ (.head _))
          · rcases List.mem_cons.mp hq with rfl | hq
            · exact .head _
            · exact .tail _ (.tail _ (.tail _ (.tail _ hq))))) (NoIt.cons (dict_noIt hdN3) hnoR) ⟨Nd, oN, kvs3, bi, bj, bs, t5, t6, t7, rfl, hdN3, loN, ⟨rfl, rfl, rfl, rfl, rfl, rfl, rfl, rfl, rfl, rfl, rfl, rfl, rfl, rfl, trivial⟩, d1, d2⟩
      · exact BmAt.of (by k_asm) (by k_mem)
      · refine Stop.go ?_
        rename (Fr _ _ _ _) => F11
        rename (News _ _ _ _) => N11
        rename (¬ (y : Int) < blo) => hge
        rename (¬ (bhi : Int) ≤ y) => hlt
        refine dget_bm N11 (.tail _ (.tail _ (.head _))) (.tail _ (.tail _ (.tail _ (.tail _ (.head _))))) hdD loD ?_
        obtain ⟨r, hE, hget⟩ : ∃ r, IsEnd jk xs ys alo ahi blo bhi (alo + i) y r ∧ ∀ t0, ∃ t, (valueAt kvs2 ((y : Int) - 1)).getD (.int 0 t0) = .int (r : Nat) t := by
          rcases hDI y with ⟨e1, p1⟩ | ⟨r, t, _, e1, p1⟩
          · exact ⟨0, p1, fun t0 => ⟨t0, by rw [e1]; rfl⟩⟩
          · exact ⟨r, p1, fun t0 => ⟨t, by rw [e1]; rfl⟩⟩
        generalize hg : Option.getD (valueAt kvs2 ((y : Int) - 1)) _ = gv
        obtain ⟨tr, rfl⟩ : ∃ tr, gv = .int (r : Nat) tr := by obtain ⟨tr, h⟩ := hget _; exact ⟨tr, hg.symm.trans h⟩
        clear hg hget
        have hym := (hP.mem y).mp (List.mem_of_getElem? hy1)
        have hE1 : IsEnd jk xs ys alo ahi blo bhi (alo + i + 1) (y + 1) (r + 1) := hE.step (by lia) (by lia) (by lia) (by lia) hxi hym.1 hym.2
        k_steps
        refine Stop.go ?_
        rename (Fr _ _ _ _) => F12
        rename (News _ _ _ _) => N12
        rw [show ((r : Int) + 1) = ((r + 1 : Nat) : Int) by lia] at F12 ⊢
        generalize hbig : Value.int ((r + 1 : Nat) : Int) _ = kv at F12 ⊢
        obtain ⟨tk9, rfl⟩ : ∃ tk9, kv = Value.int ((r + 1 : Nat) : Int) tk9 := ⟨_, hbig.symm⟩
        clear hbig
        refine kda_set (knd := PySem.intKind _ _) F12 N12 (UpdF.tail (Ne.symm (hI2 _ (.head _))) (UpdF.head hNd)) hdN3 (intKind_is _ _ _ _) (by rw [PySem.sizeLine_eq]; lia) ?_
        intro h13 o13 F13 N13 hd13
        try dsimp only at N13
        have hno13 : NoIt (I :: ex) ((Nd, o13) :: (G2, boundGet Jd) :: (I, it) :: (Jd, oD) :: (No, listOf #[] 0) :: (G, boundHas Jx) :: rest) := NoIt.cons (dict_noIt hd13) (NoIt.cons rfl hno8)
        have hlen := Nat.le_trans (PySem.stored_length_le kvs3 (y : Int) (Value.int ((r + 1 : Nat) : Int) tk9)) (Nat.succ_le_succ hk3)
        have hNI2 := hNI.put (t := tk9) hy1 hE1 (Nat.succ_pos r)
        clear hdN3 hNd N12 F12 hE hNI hrow hidx
        k_steps
        · refine Stop.go ?_
          rename ((bs : Int) < _) => hlt2
          rename (Fr _ _ _ _) => F14
          rename (News _ _ _ _) => N14
          obtain ⟨q1, q2, q3⟩ := flm_hit r1 hE1 (by lia)
          refine Turn.next F14 (News.sub N14 (fun q hq => by first | exact hq | exact .tail _ hq)) hno13 ⟨o13, _, alo + i + 1 - (r + 1), y + 1 - (r + 1), r + 1, y + 1, _, _, _, rfl, hd13, hlen, ⟨rfl, rfl, rfl, rfl, congrArg some (congrArg (Value.int · _) ?_), congrArg some (congrArg (Value.int · _) ?_), rfl, rfl, rfl, rfl, rfl, rfl, rfl, rfl, rfl, rfl, trivial⟩, hNI2, q1, r2, r3⟩
          · lia
          · lia
        · refine Stop.go ?_
          rename (¬ (bs : Int) < _) => hlt2
          rename (Fr _ _ _ _) => F14
          rename (News _ _ _ _) => N14
          exact Turn.next F14 (News.sub N14 (fun q hq => by first | exact hq | exact .tail _ hq)) hno13 ⟨o13, _, bi, bj, bs, y + 1, t5, t6, t7, rfl, hd13, hlen, ⟨rfl, rfl, rfl, rfl, rfl, rfl, rfl, rfl, rfl, rfl, rfl, rfl, rfl, rfl, rfl, rfl, trivial⟩, hNI2, flm_miss r1 hE1 (by lia), r2, r3⟩
end
section
theorem kreg16 : True := by
  k_with "call builtin:tuple.__new__" => (refine Stop.of ?_)
  k_with "getMethod type:tuple" => (k_here; refine' method_type (by k_asm) (by k_asm) (by exact meta_tuple) (by decide +kernel) ?e ?h ?_)
  trivial
variable {w : World} {mean : ExcName → Option Value} {mg mb : Str → Option Value}
theorem c_mk89 {news : Led} {t : Addr} {n : Nat} {a b c : Int} {t1 t2 t3 : Tok} (ht : (t, ({ cls := .type "tuple", data := .seq #[.int a t1, .int b t2, .int c t3] n } : Obj)) ∈ news) :
    CallsC w mean mg mb 89 [.ref 135, .ref t] 4 news (fun v news' => ∃ x d, v = .ref x ∧ news' = (x, matchO d #[.int a t1, .int b t2, .int c t3]) :: (d, emptyDict) :: news ∧ (∀ q ∈ news, q.1 < d) ∧ d < x) := by
  w_on
  unfold CallsC
  k_fill
  intro dp un gd cn csc aa ccd cl outer A₀ base h₀ L m s R B F X N T hk hd hu hret
  k_dflt (refine' code_def (scope := Scope.mk _ _ _ _ _) (params := Arguments.mk _ _ _ _ _ _ _) (body := _ :: _) (binds := [(Str.ofString "cls", Value.ref 135), (Str.ofString "iterable", Value.ref t)]) ?k1 ?k2 ?k3 ?k4 ?k5 ?kA ?kF ?kK ?k6 ?k7 ?k8 ?k9 ?kB ?_ ?c2 ?c3 ?c4 ?c5; (case kA => exact rfl); (case kF => exact rfl); (case kK => assumption); (case k1 => k_asm); (case k2 => k_asm); (case k3 => k_asm); (case k4 => k_asm); (case k5 => k_asm); (case k6 => exact rfl); (case k7 => k_is); (case k8 => first | exact room0 hd | ktr_room); (case k9 => first | exact BindsTo.of_eq rfl | exact binds_K (by k_in) rfl (by k_is) rfl rfl rfl); (case c5 => decide); (case kB => exact locs rfl); (case c2 => exact rfl); (case c3 => exact rfl); (case c4 => exact rfl); k_whole; intro g' L' h' FG' F' N' B' X' T'; (try dsimp only); (try k_fold); refine fold_A ?_; intro AA; have hAu : AA.units = un + 3 := rfl; have hAd : AA.depth = dp + 1 := rfl; refine fold_env ?_; intro ee)
  k_steps
  refine Stop.go ?_
  rename (Fr _ _ _ _) => F7
  rename (News _ _ _ _) => N7
  refine tup_led F7 N7 X' ht (by rw [PySem.sizeLine_eq]; exact Nat.le_of_ble_eq_true rfl) ?_
  intro x d h9 F9 N9 l9 l10
  k_steps
  rename (News g' L' _ ((x, _) :: _)) => N8
  refine len_match (X'.keeps (Fr.keep (by assumption))) (N8 _ (.head _)).1 (by simp) ?_
  try dsimp only
  k_steps
  · exact absurd rfl (by assumption)
  rename (Fr h₀ L _ m) => kF
  rename (News h₀ L _ _) => kN
  exact hret _ _ _ _ kF kN ⟨x, d, rfl, rfl, l9, l10⟩
/-- tuples of three numbers on the ledger -/
noncomputable def TusAre (nw : Led) (vs : List Value) (ts : List Tri) : Prop :=
  vs.length = ts.length ∧ ∀ (i : Nat) (t : Tri), ts[i]? = some t → ∃ x n t1 t2 t3, vs[i]? = some (.ref x) ∧ (x, ({ cls := .type "tuple", data := .seq #[.int t.1 t1, .int t.2.1 t2, .int t.2.2 t3] n } : Obj)) ∈ nw
noncomputable abbrev lit0 (l : Addr) : Obj := { cls := .type "list_iterator", data := .fields #[.ref l, .int 0 0] }
noncomputable abbrev tup1 (I : Addr) : Obj := { cls := .type "tuple", data := .seq #[.ref I] }
theorem map_led {A : Around} {s : Shared} {E Q : Value → Shared → Prop} {h₀ : Heap} {L l : Addr} {m : Str → Option Value} {news : Led} {vs : List Value} {c : Nat} {fn : Value} (F : Fr h₀ L s.heap m) (N : News h₀ L s.heap news) (hl : (l, listOf vs.toArray c) ∈ news)
    (hQ : ∀ z T I h', Fr h₀ L h' m → News h₀ L h' ((z, mapO T fn) :: (T, tup1 I) :: (I, lit0 l) :: news) → (∀ q ∈ news, q.1 < I) → @LT.lt Nat _ I T → @LT.lt Nat _ T z → Q (.ref z) { s with heap := h' }) :
    wpAny (M0 w) A (call (.type "map") [fn, .ref l]) Q E s := by
  have N1 := N.push F (lit0 l)
  have F1 := F.push (lit0 l)
  have N2 := N1.push F1 (tup1 s.heap.objs.size)
  have F2 := F1.push (tup1 s.heap.objs.size)
  have N3 := N2.push F2 (mapO (mapH1 s.heap l).objs.size fn)
  have F3 := F2.push (mapO (mapH1 s.heap l).objs.size fn)
  refine call_map (xs := vs.toArray) ⟨_, (N _ hl).1, rfl, _, rfl⟩ (hQ _ _ _ _ F3 N3 (fun q hq => Heap.lt_size (N q hq).1) ?_ ?_)
  · rw [Heap.size_push]; exact Nat.lt_succ_self _
  · rw [show (mapH2 s.heap l).objs.size = (mapH1 s.heap l).objs.size + 1 from Heap.size_push ..]; exact Nat.lt_succ_self _
theorem list_make {dp un : Nat} {gd : Option (List Code)} {cn : Str} {cs : Scope} {a : Addr} {ccd : Value} {cl : List (Str × Addr)} {outer : List Env} {A₀ : Around} {base h₀ : Heap} {L : Addr} {m : Str → Option Value} {s : Shared} {Q E : Value → Shared → Prop}
    {news : Led} {z T I l bm : Addr} {vs : List Value} {ts : List Tri} {c : Nat} (B : Below A₀ base outer h₀) (F : Fr h₀ L s.heap m) (X : (KF w.params).In h₀) (Tp : Top topProg lQ mean mg mb h₀) (hk : cs.kind = .function)
    (N : News h₀ L s.heap ((z, mapO T (.ref bm)) :: (T, tup1 I) :: (I, lit0 l) :: news)) (lI : ∀ q ∈ news, q.1 < I) (lT : @LT.lt Nat _ I T) (lz : @LT.lt Nat _ T z) (hl : (l, listOf vs.toArray c) ∈ news) (hbm : (bm, methodObj (.ref 89) (.ref 135)) ∈ news) (hv : TusAre news vs ts) (hn : vs.length ≤ 1000)
    (hd : dp + 4 < recursionLimit) (hu : un + 40 < cLine)
    (hQ : ∀ D ms mk c' h' tk, Fr h₀ L h' m → News h₀ L h' ((D, listOf ms.toArray c') :: (mk ++ news)) → MsAre mk ms ts → (∀ p ∈ mk, noIt p.2 = true) → (∀ q ∈ news, q.1 < D ∧ ∀ p ∈ mk, q.1 < p.1) → Q (.ref D) { s with heap := h', toks := tk }) :
    wpAny (M0 w) (ktrTop dp un gd cn cs L a ccd cl outer) (call (.type "list") [.ref z]) Q E s := by
  have hb : ∀ q ∈ (z, mapO T (.ref bm)) :: (T, tup1 I) :: news, q.1 ≠ I := fun q hq => by
    rcases List.mem_cons.mp hq with rfl | hq
    · exact Nat.ne_of_gt (Nat.lt_trans lT lz)
    · rcases List.mem_cons.mp hq with rfl | hq
      · exact Nat.ne_of_gt lT
      · exact Nat.ne_of_lt (lI q hq)
  refine list_src (T := .type "map") (n := vs.length) (fun z' acc nx => z' = z ∧ ∃ o mk, nx = (I, o) :: (mk ++ ((z, mapO T (.ref bm)) :: (T, tup1 I) :: news)) ∧ o.cls = .type "list_iterator" ∧ o.data = .fields #[.ref l, .int (acc.length : Nat) 0] ∧ MsAre mk acc (ts.take acc.length) ∧ (∀ p ∈ mk, noIt p.2 = true) ∧ (∀ p ∈ mk, z < p.1))
    (fun acc nx => ∃ mk, nx = mk ++ ((z, mapO T (.ref bm)) :: (T, tup1 I) :: news) ∧ MsAre mk acc ts ∧ (∀ p ∈ mk, noIt p.2 = true) ∧ (∀ p ∈ mk, z < p.1)) F N (Heap.lt_size (N _ (.head _)).1)
    (fun h' hk => (Looks.ld (hk _ _ (N _ (.head _)).1)).andThen .now) (by decide) (by decide) ?_ ?_ ?_ ?_ (by lia) ?_
  · intro S c h₁ E Q F1 N1 lt q
    refine iter_map (N1 _ (.tail _ (.head _))).1 (q z ((I, lit0 l) :: ([] ++ ((z, mapO T (.ref bm)) :: (T, tup1 I) :: news))) h₁ F1 (News.sub N1 fun p hp => ?_) (fun p hp => ?_) ⟨rfl, lit0 l, [], rfl, rfl, rfl, by simpa using MsAre.nil, (fun _ h => nomatch h), (fun _ h => nomatch h)⟩)
    · rcases List.mem_cons.mp hp with rfl | hp
      · exact .head _
      · rcases List.mem_cons.mp hp with rfl | hp
        · exact .tail _ (.tail _ (.tail _ (.head _)))
        · rcases List.mem_cons.mp hp with rfl | hp
          · exact .tail _ (.head _)
          · rcases List.mem_cons.mp hp with rfl | hp
            · exact .tail _ (.tail _ (.head _))
            · exact .tail _ (.tail _ (.tail _ (.tail _ hp)))
    · rcases List.mem_cons.mp hp with rfl | hp
      · exact Nat.ne_of_lt (lt _ (.tail _ (.tail _ (.head _))))
      · rcases List.mem_cons.mp hp with rfl | hp
        · exact Nat.ne_of_lt (lt _ (.head _))
        · rcases List.mem_cons.mp hp with rfl | hp
          · exact Nat.ne_of_lt (lt _ (.tail _ (.head _)))
          · exact Nat.ne_of_lt (lt _ (.tail _ (.tail _ (.tail _ hp))))
  · rintro S c I' nx h₁ E Q F1 N1 ⟨rfl, o, mk, rfl, _⟩ q
    exact hint_map (N1 _ (.tail _ (.tail _ (List.mem_append_right _ (.head _))))).1 (q _ _)
  · rintro S z' acc nx c s E Q hl' ⟨rfl, o, mk, rfl, hoc, hod, hM, hno, hlt⟩ F1 N1 ne q
    have hmz : (z', mapO T (.ref bm)) ∈ mk ++ ((z', mapO T (.ref bm)) :: (T, tup1 I) :: news) := List.mem_append_right _ (.head _)
    have hmT : (T, tup1 I) ∈ mk ++ ((z', mapO T (.ref bm)) :: (T, tup1 I) :: news) := List.mem_append_right _ (.tail _ (.head _))
    have hml : (l, listOf vs.toArray _) ∈ mk ++ ((z', mapO T (.ref bm)) :: (T, tup1 I) :: news) := List.mem_append_right _ (.tail _ (.tail _ hl))
    have lt1 : acc.length < ts.length := by rw [← hv.1]; exact hl'
    obtain ⟨x, n, t1, t2, t3, hx1, hx2⟩ := hv.2 acc.length ts[acc.length] (List.getElem?_eq_getElem lt1)
    refine next_map (N1 _ (.tail _ (.tail _ hmz))).1 (N1 _ (.tail _ (.tail _ hmT))).1 ⟨o, (N1 _ (.tail _ (.head _))).1, hoc, hod⟩ ⟨_, (N1 _ (.tail _ (.tail _ hml))).1, rfl, _, rfl⟩ (by rw [List.getElem?_toArray]; exact hx1) (Nat.ne_of_gt (Nat.lt_trans lT lz)) fun h' E' hit hs => ?_
    obtain ⟨o', ho', hoc', hod'⟩ := hit
    have hne : ∀ p ∈ mk ++ ((z', mapO T (.ref bm)) :: (T, tup1 I) :: news), p.1 ≠ I := fun p hp => by
      rcases List.mem_append.mp hp with hp | hp
      · exact Nat.ne_of_gt (Nat.lt_trans (Nat.lt_trans lT lz) (hlt p hp))
      · exact hb p hp
    have hI := N1 _ (.tail _ (.head _))
    have N2 := news_set (pre := [(S, listOf acc.toArray c)]) (post := mk ++ ((z', mapO T (.ref bm)) :: (T, tup1 I) :: news)) N1 (fun p hp => by rw [List.mem_singleton.mp hp]; exact Ne.symm (ne _ (.head _))) hne hs ho'
    have F2 := F1.change hs hI.2.1 hI.2.2
    have hbm2 : (bm, methodObj (.ref 89) (.ref 135)) ∈ (S, listOf acc.toArray c) :: (I, o') :: (mk ++ ((z', mapO T (.ref bm)) :: (T, tup1 I) :: news)) := .tail _ (.tail _ (List.mem_append_right _ (.tail _ (.tail _ hbm))))
    have hx3 : _ ∈ (S, listOf acc.toArray c) :: (I, o') :: (mk ++ ((z', mapO T (.ref bm)) :: (T, tup1 I) :: news)) := .tail _ (.tail _ (List.mem_append_right _ (.tail _ (.tail _ hx2))))
    refine call_meth N2 hbm2 ((c_mk89 (w := w) (mean := mean) (mg := mg) (mb := mb) hx3) dp (un + 1 + 1 + 1) gd cn cs a ccd cl outer A₀ base h₀ L m _ _ B F2 X N2 Tp hk hd (by lia) ?_)
    rintro v news' h2 tk2 F3 N3 ⟨y, d, rfl, rfl, l1, l2⟩
    refine q _ ((I, o') :: (((y, matchO d #[.int ts[acc.length].1 t1, .int ts[acc.length].2.1 t2, .int ts[acc.length].2.2 t3]) :: (d, emptyDict) :: mk) ++ ((z', mapO T (.ref bm)) :: (T, tup1 I) :: news))) _ _ ⟨rfl, o', (y, matchO d #[.int ts[acc.length].1 t1, .int ts[acc.length].2.1 t2, .int ts[acc.length].2.2 t3]) :: (d, emptyDict) :: mk, rfl, hoc', by rw [hod', List.length_append, List.length_singleton], ?_, ?_, ?_⟩ F3 (News.sub N3 fun p hp => ?_) fun p hp => ?_
    · have h5 := (hM.mono (nw' := (y, matchO d #[.int ts[acc.length].1 t1, .int ts[acc.length].2.1 t2, .int ts[acc.length].2.2 t3]) :: (d, emptyDict) :: mk) fun p hp => .tail _ (.tail _ hp)).snoc (.head _) (.tail _ (.head _))
      rw [List.length_append, List.length_singleton, List.take_succ_eq_append_getElem lt1]
      exact h5
    · intro p hp
      rcases List.mem_cons.mp hp with rfl | hp
      · rfl
      · rcases List.mem_cons.mp hp with rfl | hp
        · rfl
        · exact hno p hp
    · have h6 := l1 _ (.tail _ (.tail _ hmz))
      intro p hp
      rcases List.mem_cons.mp hp with rfl | hp
      · exact Nat.lt_trans h6 l2
      · rcases List.mem_cons.mp hp with rfl | hp
        · exact h6
        · exact hlt p hp
    · rcases List.mem_cons.mp hp with rfl | hp
      · exact .tail _ (.tail _ (.head _))
      · rcases List.mem_cons.mp hp with rfl | hp
        · exact .tail _ (.tail _ (.tail _ (.head _)))
        · rcases List.mem_cons.mp hp with rfl | hp
          · exact .head _
          · rcases List.mem_cons.mp hp with rfl | hp
            · exact .tail _ (.head _)
            · exact .tail _ (.tail _ (.tail _ (.tail _ hp)))
    · have h6 := l1 _ (.head _)
      rcases List.mem_cons.mp hp with rfl | hp
      · exact ne (I, o) (.head _)
      · rcases List.mem_cons.mp hp with rfl | hp
        · exact Nat.ne_of_gt (Nat.lt_trans h6 l2)
        · rcases List.mem_cons.mp hp with rfl | hp
          · exact Nat.ne_of_gt h6
          · exact ne p (.tail _ hp)
  · rintro S z' acc nx c s E Q hl' ⟨rfl, o, mk, rfl, hoc, hod, hM, hno, hlt⟩ F1 N1 ne q
    have hmz : (z', mapO T (.ref bm)) ∈ mk ++ ((z', mapO T (.ref bm)) :: (T, tup1 I) :: news) := List.mem_append_right _ (.head _)
    have hmT : (T, tup1 I) ∈ mk ++ ((z', mapO T (.ref bm)) :: (T, tup1 I) :: news) := List.mem_append_right _ (.tail _ (.head _))
    have hml : (l, listOf vs.toArray _) ∈ mk ++ ((z', mapO T (.ref bm)) :: (T, tup1 I) :: news) := List.mem_append_right _ (.tail _ (.tail _ hl))
    have hI := N1 _ (.tail _ (.head _))
    refine next_map_end rfl (N1 _ (.tail _ (.tail _ hmz))).1 (N1 _ (.tail _ (.tail _ hmT))).1 ⟨o, hI.1, hoc, hod⟩ ⟨_, (N1 _ (.tail _ (.tail _ hml))).1, rfl, _, rfl⟩ (by rw [List.getElem?_toArray, hl']; exact List.getElem?_eq_none (Nat.le_refl _)) fun h' hs => ?_
    have hne : ∀ p ∈ mk ++ ((z', mapO T (.ref bm)) :: (T, tup1 I) :: news), p.1 ≠ I := fun p hp => by
      rcases List.mem_append.mp hp with hp | hp
      · exact Nat.ne_of_gt (Nat.lt_trans (Nat.lt_trans lT lz) (hlt p hp))
      · exact hb p hp
    refine q _ _ _ ⟨mk, rfl, by rw [hl', hv.1, List.take_length] at hM; exact hM, hno, hlt⟩ (Fr.extOther F1 hs hI.2.1 hI.2.2) (News.extOther (News.drop2 N1) hs fun p hp => ?_)
    rcases List.mem_cons.mp hp with rfl | hp
    · exact Ne.symm (ne _ (.head _))
    · exact hne p hp
  · rintro D us nx c h' tk hlen ⟨mk, rfl, hM, hno, hlt⟩ lt F1 N1
    refine hQ D us mk c h' tk F1 (News.sub N1 fun p hp => ?_) hM hno fun q hq => ⟨lt q (.tail _ (.tail _ (.tail _ hq))), fun p hp => Nat.lt_trans (Nat.lt_trans (Nat.lt_trans (lI q hq) lT) lz) (hlt p hp)⟩
    rcases List.mem_cons.mp hp with rfl | hp
    · exact .head _
    · rcases List.mem_append.mp hp with hp | hp
      · exact .tail _ (List.mem_append_left _ hp)
      · exact .tail _ (List.mem_append_right _ (.tail _ (.tail _ hp)))
end
theorem kreg17 : True := by
  k_with_none
  k_with "eval BinOp" => ((try clear qF0b); (fail_if_success (have hq9 := @qF0b)); refine fold_Q ?_; intro qF0b; walk_at "eval BinOp")
  k_with "eval BinOp" => ((try clear qF0); (fail_if_success (have hq9 := @qF0)); refine fold_Q ?_; intro qF0; walk_at "eval BinOp")
  k_with "isTrue Compare" => ((try clear qF1); (fail_if_success (have hq9 := @qF1)); refine fold_Q ?_; intro qF1; walk_at "isTrue Compare")
  k_with "eval Subscript" => ((try clear qF2b); (fail_if_success (have hq9 := @qF2b)); refine fold_Q ?_; intro qF2b; walk_at "eval Subscript")
  k_with "eval Subscript" => ((try clear qF2); (fail_if_success (have hq9 := @qF2)); refine fold_Q ?_; intro qF2; walk_at "eval Subscript")
  k_with "eval Call" => ((try clear qF3b); (fail_if_success (have hq9 := @qF3b)); refine fold_Q ?_; intro qF3b; walk_at "eval Call")
  k_with "eval Call" => ((try clear qF3); (fail_if_success (have hq9 := @qF3)); refine fold_Q ?_; intro qF3; walk_at "eval Call")
  k_with "eval Tuple" => ((try clear qF4); (fail_if_success (have hq9 := @qF4)); refine fold_Q ?_; intro qF4; walk_at "eval Tuple")
  k_with "exec Assign" => ((try clear qF5); (fail_if_success (have hq9 := @qF5)); refine fold_Q ?_; intro qF5; walk_at "exec Assign")
  k_with "exec AugAssign" => ((try clear qF6); (fail_if_success (have hq9 := @qF6)); refine fold_Q ?_; intro qF6; walk_at "exec AugAssign")
  k_with "eval Attribute Name" => ((try clear qF7); (fail_if_success (have hq9 := @qF7)); refine fold_Q ?_; intro qF7; walk_at "eval Attribute Name")
  k_with "isTrue BoolOp" => ((try clear qF8); (fail_if_success (have hq9 := @qF8)); refine fold_Q ?_; intro qF8; walk_at "isTrue BoolOp")
  k_with "exec If" => ((try clear qF9); (fail_if_success (have hq9 := @qF9)); refine fold_Q ?_; intro qF9; walk_at "exec If")
  k_with "eval Compare" => ((try clear qF10); (fail_if_success (have hq9 := @qF10)); refine fold_Q ?_; intro qF10; walk_at "eval Compare")
  k_with "eval Call Attribute" => ((try clear qF11); (fail_if_success (have hq9 := @qF11)); refine fold_Q ?_; intro qF11; walk_at "eval Call Attribute")
  k_with "eval List" => ((try clear qF12); (fail_if_success (have hq9 := @qF12)); refine fold_Q ?_; intro qF12; walk_at "eval List")
  k_with "exec Expr" => ((try clear qF13); (fail_if_success (have hq9 := @qF13)); refine fold_Q ?_; intro qF13; walk_at "exec Expr")
  k_with "exec Return some" => ((try clear qF14); (fail_if_success (have hq9 := @qF14)); refine fold_Q ?_; intro qF14; walk_at "exec Return some")
  k_with "pyIter ref" => (refine Stop.of ?_)
  k_with "exec While" => (refine Stop.of ?_)
  k_with "Turn" => (first | refine turn_brk ?_ | refine turn_ret ?_ | refine Stop.of ?_)
  k_with "WStep" => (first | refine wstep_brk ?_ | refine wstep_ret ?_ | refine Stop.of ?_)
  k_with "call builtin:len" => (k_here; (with_reducible show wpAny _ _ (call (Value.builtin "len") [Value.ref _]) _ _ _); k_dflt (refine' len_led (by k_asm) (by k_mem) (by (simp only [List.size_toArray] <;> lia)) ?_; k_whole))
  k_with "subscriptTail" => (k_here; (with_reducible show wpAny _ _ (subscriptTail _ _ (Value.ref _) (Value.int _ _)) _ _ _); k_dflt (refine' item_cs (by k_asm) (by k_mem) (by assumption) (by lia) (by lia) (by lia) ?_); intro _)
  k_with "WExit" => (refine Stop.of ?_)
  k_with "CompSrc" => (refine Stop.of ?_)
  k_with "CompEnd" => (refine Stop.of ?_)
  k_with "binaryOp Add ref ref" => (k_here; (with_reducible show wpAny _ _ (binaryOp _ (Value.ref _) (Value.ref _)) _ _ _); k_dflt (refine' cat_led (by k_asm) (by k_asm) (by k_mem) (by k_mem) ?_ (by (simp only [List.length_append, List.length_drop, List.length_take, List.length_cons, List.length_nil]; lia))); intro _ _ _ _ xl9; (try k_lt xl9); (try (revert xl9; intro _)))
  k_with "subscriptTail Name Slice ref ref" => (k_here; (with_reducible show wpAny _ _ (subscriptTail _ (PySem.Expr.Slice _ _ none _) (Value.ref _) (Value.ref _)) _ _ _); k_dflt (first | refine' slice_from (by k_asm) (by k_asm) (by k_dflt k_mem) (by lia) (by lia) ?_ (by with_unfolding_all rfl) (by kmk_pure) | refine' slice_upto (by k_asm) (by k_asm) (by k_dflt k_mem) (by lia) (by lia) ?_ (by with_unfolding_all rfl) (by kmk_pure)); intro _ _ _ _ xl9; (try k_lt xl9); (try (revert xl9; intro _)))
  k_with "call ref" => (refine Stop.of ?_)
  k_with "subscriptTail" => (k_here; (with_reducible show wpAny _ _ (subscriptTail _ _ (Value.ref _) (Value.int _ _)) _ _ _); k_dflt (refine' item_ints (by k_asm) (by k_mem) (by assumption) (by lia) (by lia) (by lia) ?_); intro _)
  k_with "assign Tuple cons ref" => (k_here; (with_reducible show wpAny _ _ (assign (Expr.Tuple _ _ _) _ (Value.ref _)) _ _ _); k_dflt (refine' unpackN_list (by k_asm) (by k_asm) (by k_mem) (by exact rfl) (by exact rfl) (by exact rfl) ?_); intro _ _ _)
  k_with "compareOp NotEq ref ref" => (refine Stop.of ?_)
  k_with "subscriptTail" => (k_here; (with_reducible show wpAny _ _ (subscriptTail _ _ (Value.ref _) (Value.int _ _)) _ _ _); k_dflt (refine' item_led (by k_asm) (by k_mem) (by decide) (by decide) (by exact rfl) ?_))
  k_with "subscriptTail" => (k_here; (with_reducible show wpAny _ _ (subscriptTail _ _ (Value.ref _) (Value.int (-1) _)) _ _ _); k_dflt (refine' item_last (by k_asm) (by k_mem) (by lia) ?_))
  k_with "getItem ref int" => (k_here; k_dflt (refine' getItem_led (by k_asm) (by k_mem) (by decide) (by decide) (by exact rfl) ?_))
  k_with "setItem ref int" => (refine Stop.of ?_)
  k_with "call builtin:list.append" => (refine Stop.of ?_)
  k_with "ite" => (first | with_reducible refine ite_tt ?_ | with_reducible refine ite_ff ?_ | (with_reducible refine split_ine ?_ ?_ <;> intro _) | (with_reducible refine split_ieq ?_ ?_ <;> intro _) | (refine split_dec ?_ ?_ <;> intro _))
  k_with "execs cons" => (dsimp only; walk_at "execs cons")
  k_with "execs nil" => (dsimp only; walk_at "execs nil")
  k_with "getAttr ref" => (k_here; k_dflt (refine' get_fld (by k_asm) (by k_asm) (by k_asm) (by k_mem) (by k_mem) (by assumption) (by k_is) (by first | exact rfl | assumption | (dsimp only; (repeat (rw [if_neg (by decide)])); first | exact rfl | assumption)) (by first | exact rfl | assumption) ?_))
  k_with "getMethod ref" => (k_here; k_dflt (refine' meth_fld (by k_asm) (by k_asm) (by k_asm) (by k_mem) (by k_mem) (by assumption) (by k_is) (by k_is) (by first | exact rfl | assumption | (dsimp only; (repeat (rw [if_neg (by decide)])); first | exact rfl | assumption)) ?_))
  k_with "setAttr ref" => (k_here; k_dflt (refine' set_fld (by k_asm) (by k_asm) (by k_asm) (by k_mem) (by k_mem) (by assumption) (by lia) (by k_is) (by first | k_updF | fail) ?_); intro _ _ _ _ _ xN9; (try dsimp only at xN9); (try (revert xN9; intro _)))
  k_with "call type:enumerate" => (refine Stop.of ?_)
  k_with "call type:set" => (refine Stop.of ?_)
  k_with "call type:set nil nil" => (refine Stop.of ?_)
  k_with "call builtin:dict.setdefault" => (refine Stop.of ?_)
  k_with "call builtin:set.add" => (refine Stop.of ?_)
  k_with "truthy ref" => (refine Stop.of ?_)
  k_with "delItem" => (refine Stop.of ?_)
  k_with "exec For" => (refine Stop.of ?_)
  k_with "getMethod ref" => (k_here; k_dflt (first | ((with_reducible show wpAny _ _ (getMethod (Value.ref _) (Str.ofString "setdefault") _) _ _ _); refine kob_method (knd := PySem.intKind _ _) PySem.F.slot_dict_setdefault PySem.F.type_dict_setdefault (by k_asm) (by k_mem) (by assumption) ?_) | ((with_reducible show wpAny _ _ (getMethod (Value.ref _) (Str.ofString "keys") _) _ _ _); refine kdl_method (knd := PySem.intKind _ _) PySem.F.slot_dict_keys PySem.F.type_dict_keys (by k_asm) (by k_mem) (by assumption) ?_) | ((with_reducible show wpAny _ _ (getMethod (Value.ref _) (Str.ofString "get") _) _ _ _); refine kdg_method (knd := PySem.intKind _ _) (by k_asm) (by k_mem) (by assumption) ?_)))
  k_with "exec For Tuple Call cons nil" => (refine Stop.of ?_)
  k_with "exec For Name Call cons nil" => (refine Stop.of ?_)
  k_with "exec For Name Name cons nil" => (refine Stop.of ?_)
  k_with "exec For Tuple Name cons nil" => (refine Stop.of ?_)
  k_with "exec For Name Attribute cons nil" => (refine Stop.of ?_)
  k_with "exec For Tuple Call" => (refine Stop.of ?_)
  k_with "call builtin:dict.keys" => (refine Stop.of ?_)
  k_with "callWith ref" => (k_here; k_dflt (refine' callWith_F (by exact FnAt.of (by k_asm) (by k_mem)) ?_; k_whole))
  k_with "And" => ((with_reducible show FnAt _ _ ∧ _); refine ⟨FnAt.of (by k_asm) (by k_mem), ?_⟩; try dsimp only [List.nil_append, List.cons_append])
  k_with "getAttr ref" => (k_here; (with_reducible show wpAny _ _ (getAttr (Value.ref _) (PySem.Str.ofString "get") _) _ _ _); k_dflt (refine' get_dget_led (by k_asm) (by k_asm) (by k_mem) (by assumption) ?_); intro _ _ _ _ _)
  k_with "getAttr ref" => (k_here; (with_reducible show wpAny _ _ (getAttr (Value.ref _) (PySem.Str.ofString "__contains__") _) _ _ _); k_dflt (refine' get_shas_led (by k_asm) (by k_asm) (by k_mem) (by assumption) ?_); intro _ _ _ _ _)
  k_with "callWith ref" => (k_here; k_dflt (refine' callWith_bm (by k_asm) (by k_mem) ?_; k_whole))
  k_with "And" => ((with_reducible show BmAt _ _ _ _ ∧ _); refine ⟨BmAt.of (by k_asm) (by k_mem), ?_⟩; try dsimp only [List.nil_append, List.cons_append])
  k_with "eval Dict" => (refine Stop.of ?_)
  k_with "call builtin:dict.get" => (refine Stop.of ?_)
  k_with "exec If" => ((fail_if_success (with_reducible show wpAny _ _ _ (IfJ _ _ _ _) _ _)); (with_reducible show wpAny _ _ (exec (Stmt.If (Expr.Compare _ [CmpOp.Is] _ _) _ _ _) _) _ _ _); refine Stop.of ?_)
  trivial
theorem kreg18 : True := by
  k_with "call builtin:list.pop" => (refine Stop.of ?_)
  k_with "call builtin:list.sort" => (refine Stop.of ?_)
  k_with "call type:map" => (refine Stop.of ?_)
  k_with "call type:list" => (refine Stop.of ?_)
  k_with "exec If" => ((fail_if_success (with_reducible show wpAny _ _ _ (IfJ _ _ _ _) _ _)); (with_reducible show wpAny _ _ (exec (Stmt.If (Expr.BoolOp BoolOp.And [Expr.Compare _ [CmpOp.Lt] _ _, _] _) _ _ _) _) _ _ _); refine Stop.of ?_)
  k_with "exec If" => ((fail_if_success (with_reducible show wpAny _ _ _ (IfJ _ _ _ _) _ _)); (with_reducible show wpAny _ _ (exec (Stmt.If (Expr.Name (PySem.Str.ofString "k1") _) _ _ _) _) _ _ _); refine Stop.of ?_)
  trivial
section
variable {w : World} {mean : ExcName → Option Value} {mg mb : Str → Option Value}
theorem c_gmb_old {rest : Led} {M D r : Addr} {es : List DictEntry} {n k : Nat} {f : Str → Option Value} (hM : (M, instObj 242 D) ∈ rest) (hDm : (D, dictOf es n) ∈ rest) (fl : Flds k es f) (hmb : f "matching_blocks" = some (.ref r)) :
    Calls w mean mg mb 203 [.ref M] 4 rest (fun v news' => v = .ref r ∧ news' = rest) := by
  w_on
  unfold Calls
  k_fill
  intro dp un gd cn csc aa ccd cl outer A₀ base h₀ L m s Q E B F X N T hk hd hu hret
  refine wpAny_call ?_
  k_dflt (refine' code_def (scope := Scope.mk _ _ _ _ _) (params := Arguments.mk _ _ _ _ _ _ _) (body := _ :: _) (binds := [(Str.ofString "self", Value.ref M)]) ?k1 ?k2 ?k3 ?k4 ?k5 ?kA ?kF ?kK ?k6 ?k7 ?k8 ?k9 ?kB ?_ ?c2 ?c3 ?c4 ?c5; (case kA => exact rfl); (case kF => exact rfl); (case kK => assumption); (case k1 => k_asm); (case k2 => k_asm); (case k3 => k_asm); (case k4 => k_asm); (case k5 => k_asm); (case k6 => exact rfl); (case k7 => k_is); (case k8 => first | exact room0 hd | ktr_room); (case k9 => first | exact BindsTo.of_eq rfl | exact binds_K (by k_in) rfl (by k_is) rfl rfl rfl); (case c5 => decide); (case kB => exact locs rfl); (case c2 => exact rfl); (case c3 => exact rfl); (case c4 => exact rfl); k_whole; intro g' L' h' FG' F' N' B' X' T'; (try dsimp only); (try k_fold); refine fold_A ?_; intro AA; have hAu : AA.units = un + 3 := rfl; have hAd : AA.depth = dp + 1 := rfl; refine fold_env ?_; intro ee)
  k_steps
  rename (Fr h₀ L _ m) => kF
  rename (News h₀ L _ _) => kN
  exact hret _ _ _ _ kF kN ⟨rfl, rfl⟩
/-- windows of the queue: tuples of four numbers on the ledger -/
inductive QTup (nw : Led) : List Value → List Win → Prop
  | nil : QTup nw [] []
  | snoc {qv : List Value} {qs : List Win} {x : Addr} {n a b c d : Nat} {t1 t2 t3 t4 : Tok} : QTup nw qv qs → (x, ({ cls := .type "tuple", data := .seq #[.int a t1, .int b t2, .int c t3, .int d t4] n } : Obj)) ∈ nw → QTup nw (qv ++ [.ref x]) (qs ++ [(a, b, c, d)])
theorem QTup.mono {nw nw' : Led} {qv : List Value} {qs : List Win} (h : QTup nw qv qs) (e : ∀ p ∈ nw, p ∈ nw') : QTup nw' qv qs := by
  induction h with
  | nil => exact .nil
  | snoc _ hx ih => exact .snoc ih (e _ hx)
theorem QTup.len {nw : Led} {qv : List Value} {qs : List Win} (h : QTup nw qv qs) : qv.length = qs.length := by
  induction h with
  | nil => rfl
  | snoc _ _ ih => simp [ih]
/-- what the turn of the queue's loop keeps -/
inductive GJ (B0 Q0 S0 : Addr) (R : Led) (mv : List Value) (cm : Nat) (qs : List Win) (nw0 nx : Led) : Prop
  | mk (qv : List Value) (cq : Nat) (nw : Led) (h1 : nx = (B0, listOf mv.toArray cm) :: (Q0, listOf qv.toArray cq) :: (nw ++ R)) (h2 : QTup nw qv qs) (h3 : ∀ p ∈ nw0, p ∈ nw) (h4 : ∀ p ∈ nw, noIt p.2 = true) (h5 : ∀ p ∈ nw, S0 ≤ p.1 ∧ p.1 ≠ B0 ∧ p.1 ≠ Q0) : GJ B0 Q0 S0 R mv cm qs nw0 nx
theorem kl_last_snoc : ∀ (l : List Value) (y : Value), kl_last (l ++ [y]) = some (l, y)
  | [], _ => rfl
  | x :: r, y => by show (match kl_last (r ++ [y]) with | some (p, y) => some (x :: p, y) | none => some ([], x)) = _; rw [kl_last_snoc r y]
theorem winL_no {lo i lo' j : Nat} (h : ¬ (lo < i ∧ lo' < j)) : winL lo i lo' j = [] := if_neg h
theorem winL_yes {lo i lo' j : Nat} (h : lo < i ∧ lo' < j) : winL lo i lo' j = [(lo, i, lo', j)] := if_pos h
theorem winR_no {i hi j hi' : Nat} (h : ¬ (i < hi ∧ j < hi')) : winR i hi j hi' = [] := if_neg h
theorem winR_yes {i hi j hi' : Nat} (h : i < hi ∧ j < hi') : winR i hi j hi' = [(i, hi, j, hi')] := if_pos h
theorem gmb_perm {y d B0 Q0 : Addr} {oy od oB oB' oQ : Obj} {nw R : Led} (e : oB = oB') {r : Addr × Obj} (h : r ∈ (B0, oB) :: (Q0, oQ) :: (((y, oy) :: (d, od) :: nw) ++ R)) : r ∈ (y, oy) :: (d, od) :: (B0, oB') :: (Q0, oQ) :: (nw ++ R) := by
  subst e
  rcases List.mem_cons.mp h with rfl | h
  · exact .tail _ (.tail _ (.head _))
  · rcases List.mem_cons.mp h with rfl | h
    · exact .tail _ (.tail _ (.tail _ (.head _)))
    · rcases List.mem_cons.mp h with rfl | h
      · exact .head _
      · rcases List.mem_cons.mp h with rfl | h
        · exact .tail _ (.head _)
        · exact .tail _ (.tail _ (.tail _ (.tail _ h)))
theorem gmb_perm1 {t B0 Q0 : Addr} {ot oB oQ oQ' : Obj} {nw R : Led} (e : oQ = oQ') {r : Addr × Obj} (h : r ∈ (B0, oB) :: (Q0, oQ) :: (((t, ot) :: nw) ++ R)) : r ∈ (t, ot) :: (B0, oB) :: (Q0, oQ') :: (nw ++ R) := by
  subst e
  rcases List.mem_cons.mp h with rfl | h
  · exact .tail _ (.head _)
  · rcases List.mem_cons.mp h with rfl | h
    · exact .tail _ (.tail _ (.head _))
    · rcases List.mem_cons.mp h with rfl | h
      · exact .head _
      · exact .tail _ (.tail _ (.tail _ h))
theorem gj_push {B0 Q0 S0 t : Addr} {R nw nw0 : Led} {mv qv : List Value} {qs : List Win} {cm cq n a b c d : Nat} {t1 t2 t3 t4 : Tok} (hQ : QTup nw qv qs) (hs : ∀ p ∈ nw0, p ∈ nw) (hn : ∀ p ∈ nw, noIt p.2 = true) (ho : ∀ p ∈ nw, S0 ≤ p.1 ∧ p.1 ≠ B0 ∧ p.1 ≠ Q0) (l1 : @LT.lt Nat _ B0 t) (l2 : @LT.lt Nat _ Q0 t) (l3 : @LT.lt Nat _ S0 B0) :
    GJ B0 Q0 S0 R mv cm (qs ++ [(a, b, c, d)]) nw0 ((B0, listOf mv.toArray cm) :: (Q0, listOf (qv ++ [Value.ref t]).toArray cq) :: (((t, ({ cls := .type "tuple", data := .seq #[.int a t1, .int b t2, .int c t3, .int d t4] n } : Obj)) :: nw) ++ R)) :=
  ⟨_, cq, _, rfl, .snoc (hQ.mono fun p hp => .tail _ hp) (.head _), fun p hp => .tail _ (hs p hp), List.forall_mem_cons.mpr ⟨rfl, hn⟩, List.forall_mem_cons.mpr ⟨⟨Nat.le_of_lt (Nat.lt_trans l3 l1), Nat.ne_of_gt l1, Nat.ne_of_gt l2⟩, ho⟩⟩
theorem TusAre.nil {tw : Led} : TusAre tw [] [] := ⟨rfl, fun _ _ h => by simp at h⟩
theorem TusAre.mono {tw tw' : Led} {nv : List Value} {na : List Tri} (h : TusAre tw nv na) (e : ∀ p ∈ tw, p ∈ tw') : TusAre tw' nv na := ⟨h.1, fun i t ht => by
  obtain ⟨x, n, t1, t2, t3, h1, h2⟩ := h.2 i t ht
  exact ⟨x, n, t1, t2, t3, h1, e _ h2⟩⟩
theorem TusAre.snoc {tw : Led} {nv : List Value} {na : List Tri} (h : TusAre tw nv na) {x : Addr} {n : Nat} {a b c : Int} {t : Tri} {t1 t2 t3 : Tok} (ha : a = t.1) (hb : b = t.2.1) (hc : c = t.2.2) :
    TusAre ((x, ({ cls := .type "tuple", data := .seq #[.int a t1, .int b t2, .int c t3] n } : Obj)) :: tw) (nv ++ [.ref x]) (na ++ [t]) := by
  subst ha hb hc
  refine ⟨by simp [h.1], fun q u hu => ?_⟩
  by_cases c : q < na.length
  · rw [List.getElem?_append_left c] at hu
    obtain ⟨y, n', u1, u2, u3, e1, e2⟩ := h.2 q u hu
    exact ⟨y, n', u1, u2, u3, by rw [List.getElem?_append_left (by rw [h.1]; exact c)]; exact e1, .tail _ e2⟩
  · rw [List.getElem?_append_right (by lia)] at hu
    have h0 : q - na.length = 0 := by
      have := (List.getElem?_eq_some_iff.mp hu).1
      simp at this; lia
    rw [h0] at hu
    simp at hu
    subst hu
    exact ⟨x, n, t1, t2, t3, by rw [List.getElem?_append_right (by rw [h.1]; lia), h.1, h0]; rfl, .head _⟩
/-- the joined blocks so far: the list and its tuples -/
inductive NAJ (L1 : Addr) (R : Led) (na : List Tri) (nx : Led) : Prop
  | mk (nv : List Value) (cn : Nat) (tw : Led) (h1 : nx = (L1, listOf nv.toArray cn) :: (tw ++ R)) (h2 : TusAre tw nv na) (h3 : ∀ p ∈ tw, noIt p.2 = true) (h4 : ∀ p ∈ tw, @LT.lt Nat _ L1 p.1) : NAJ L1 R na nx
theorem NAJ.push {L1 t : Addr} {R tw : Led} {nv : List Value} {na : List Tri} {cn n : Nat} {a b c : Int} {u : Tri} {t1 t2 t3 : Tok} (h : TusAre tw nv na) (hn : ∀ p ∈ tw, noIt p.2 = true) (hl : ∀ p ∈ tw, @LT.lt Nat _ L1 p.1) (l : @LT.lt Nat _ L1 t) (ha : a = u.1) (hb : b = u.2.1) (hc : c = u.2.2) :
    NAJ L1 R (na ++ [u]) ((L1, listOf (nv ++ [Value.ref t]).toArray cn) :: (((t, ({ cls := .type "tuple", data := .seq #[.int a t1, .int b t2, .int c t3] n } : Obj)) :: tw) ++ R)) :=
  ⟨_, cn, _, rfl, h.snoc ha hb hc, List.forall_mem_cons.mpr ⟨rfl, hn⟩, List.forall_mem_cons.mpr ⟨l, hl⟩⟩
theorem na_perm {t L1 : Addr} {ot oL oL' : Obj} {tw R : Led} (e : oL = oL') {r : Addr × Obj} (h : r ∈ (L1, oL) :: (((t, ot) :: tw) ++ R)) : r ∈ (t, ot) :: (L1, oL') :: (tw ++ R) := by
  subst e
  rcases List.mem_cons.mp h with rfl | h
  · exact .tail _ (.head _)
  · rcases List.mem_cons.mp h with rfl | h
    · exact .head _
    · exact .tail _ (.tail _ h)
theorem na_permI {t L1 I : Addr} {ot oL oL' oI : Obj} {tw R : Led} (e : oL = oL') {r : Addr × Obj} (h : r ∈ (I, oI) :: (L1, oL) :: (((t, ot) :: tw) ++ R)) : r ∈ (t, ot) :: (I, oI) :: (L1, oL') :: (tw ++ R) := by
  rcases List.mem_cons.mp h with rfl | h
  · exact .tail _ (.head _)
  · rcases List.mem_cons.mp (na_perm e h) with rfl | h
    · exact .head _
    · exact .tail _ (.tail _ h)
theorem pend_yes {na : List Tri} {u : Tri} (h : u.2.2 ≠ 0) : pend na u = na ++ [u] := if_neg h
theorem pend_no {na : List Tri} {u : Tri} (h : u.2.2 = 0) : pend na u = na := if_pos h
theorem step2_take {out : List Tri} {i : Nat} {t : Tri} (h : out[i]? = some t) (p : List Tri × Tri) : (out.take (i + 1)).foldl step2 p = step2 ((out.take i).foldl step2 p) t := by
  rw [List.take_add_one, h]; simp
theorem pend_len (na : List Tri) (u : Tri) : (pend na u).length ≤ na.length + 1 := by unfold pend; split <;> simp
inductive RGmb (rest : Led) (D : Addr) (es : List DictEntry) (n k : Nat) (f : Str → Option Value) (jk : Option Int) (xs ys : List Int) (v : Value) (news' : Led) : Prop
  | mk (r : Addr) (ms : List Value) (out : List Tri) (c' : Nat) (es' : List DictEntry) (n' : Nat) (nw : Led) (h1 : v = .ref r) (h2 : news' = nw ++ (D, dictOf es' n') :: rest) (h3 : (∀ p ∈ nw, ∀ q ∈ (D, dictOf es n) :: rest, q.1 < p.1)) (h4 : (∀ p ∈ nw, noIt p.2 = true)) (h5 : (r, listOf ms.toArray c') ∈ nw) (h6 : RB jk xs ys out) (h7 : MsAre nw ms (due out ++ [(xs.length, ys.length, 0)])) (h8 : Flds (k + 1) es' (fun y => if y = "matching_blocks" then some (.ref r) else f y)) : RGmb rest D es n k f jk xs ys v news'
inductive JGa (rest : Led) (D B0 Q0 S0 M : Addr) (es : List DictEntry) (n : Nat) (jk : Option Int) (xs ys : List Int) (i : Nat) (m : Str → Option Value) (nx : Led) : Prop
  | mk (qv : List Value) (qs : List Win) (mv : List Value) (F : List Tri) (cq : Nat) (cm : Nat) (nw : Led) (ta : Tok) (tb : Tok) (h1 : nx = (B0, listOf mv.toArray cm) :: (Q0, listOf qv.toArray cq) :: (nw ++ (D, dictOf es n) :: rest)) (h2 : QTup nw qv qs) (h3 : MsAre nw mv F) (h4 : (∀ p ∈ nw, noIt p.2 = true)) (h5 : (∀ p ∈ nw, S0 ≤ p.1 ∧ p.1 ≠ B0 ∧ p.1 ≠ Q0)) (h6 : Hide (QInv jk xs ys qs F ∧ (∀ w ∈ qs, WOk xs ys w))) (h7 : i = qm qs) (h8 : F.length + qm qs ≤ 121) (h9 : Has m [(Str.ofString "self", .ref M), (Str.ofString "la", .int (xs.length : Nat) ta), (Str.ofString "lb", .int (ys.length : Nat) tb), (Str.ofString "queue", .ref Q0), (Str.ofString "matching_blocks", .ref B0)]) : JGa rest D B0 Q0 S0 M es n jk xs ys i m nx
inductive JGb (rest : Led) (D B0 Q0 S0 M : Addr) (es : List DictEntry) (n : Nat) (jk : Option Int) (xs ys : List Int) (m : Str → Option Value) (nx : Led) : Prop
  | mk (mv : List Value) (F : List Tri) (cq : Nat) (cm : Nat) (nw : Led) (ta : Tok) (tb : Tok) (h1 : nx = (B0, listOf mv.toArray cm) :: (Q0, listOf #[] cq) :: (nw ++ (D, dictOf es n) :: rest)) (h2 : MsAre nw mv F) (h3 : (∀ p ∈ nw, noIt p.2 = true)) (h4 : (∀ p ∈ nw, S0 ≤ p.1 ∧ p.1 ≠ B0 ∧ p.1 ≠ Q0)) (h5 : (∃ Full, RB jk xs ys Full ∧ F.Perm Full)) (h6 : Has m [(Str.ofString "self", .ref M), (Str.ofString "la", .int (xs.length : Nat) ta), (Str.ofString "lb", .int (ys.length : Nat) tb), (Str.ofString "matching_blocks", .ref B0)]) : JGb rest D B0 Q0 S0 M es n jk xs ys m nx
inductive JGc (R : Led) (L1 M : Addr) (ts : List Tri) (xs ys : List Int) (ta tb : Tok) (i : Nat) (m : Str → Option Value) (nx : Led) : Prop
  | mk (na : List Tri) (u : Tri) (a : Int) (b : Int) (c : Int) (t1 : Tok) (t2 : Tok) (t3 : Tok) (h1 : NAJ L1 R na nx) (h2 : na.length ≤ i) (h3 : (ts.take i).foldl step2 ([], (0, 0, 0)) = (na, u)) (h4 : a = (u.1 : Int)) (h5 : b = (u.2.1 : Int)) (h6 : c = (u.2.2 : Int)) (h7 : Has m [(Str.ofString "self", .ref M), (Str.ofString "la", .int (xs.length : Nat) ta), (Str.ofString "lb", .int (ys.length : Nat) tb), (Str.ofString "non_adjacent", .ref L1), (Str.ofString "i1", .int a t1), (Str.ofString "j1", .int b t2), (Str.ofString "k1", .int c t3)]) : JGc R L1 M ts xs ys ta tb i m nx
theorem c_gmb {rest nl : Led} {M D p q Bx Jx Px : Addr} {es : List DictEntry} {n k c d : Nat} {f : Str → Option Value} {jk : Option Int} {us vs : List Value} {xs ys : List Int}
    (hM0 : (M, instObj 242 D) ∈ rest) (hD : ∀ q ∈ rest, q.1 ≠ D) (fl : Flds k es f) (hk400 : k ≤ 400) (hnl : ∀ p ∈ nl, p ∈ (D, dictOf es n) :: rest) (hmb : f "matching_blocks" = some .none) (hfm : f "find_longest_match" = none)
    (ha : f "a" = some (.ref p)) (hb : f "b" = some (.ref q)) (hb2 : f "b2j" = some (.ref Bx)) (hbj : f "bjunk" = some (.ref Jx)) (hp : (p, listOf us.toArray c) ∈ rest) (hq : (q, listOf vs.toArray d) ∈ rest) (hx0 : IntsAre us xs) (hy : IntsAre vs ys) (hl1 : xs.length ≤ 60) (hl2 : ys.length ≤ 60)
    (hS : SMB w jk ys nl Bx Jx Px) {ex : List Addr} (hno : NoIt ex ((D, dictOf es n) :: rest)) :
    Calls w mean mg mb 203 [.ref M] 40 ((D, dictOf es n) :: rest) (RGmb rest D es n k f jk xs ys) := by
  w_on
  unfold Calls
  k_fill
  intro dp un gd cn csc aa ccd cl outer A₀ base h₀ L m s Q E B F X N T hk hd hu hret
  refine wpAny_call ?_
  k_dflt (refine' code_def (scope := Scope.mk _ _ _ _ _) (params := Arguments.mk _ _ _ _ _ _ _) (body := _ :: _) (binds := [(Str.ofString "self", Value.ref M)]) ?k1 ?k2 ?k3 ?k4 ?k5 ?kA ?kF ?kK ?k6 ?k7 ?k8 ?k9 ?kB ?_ ?c2 ?c3 ?c4 ?c5; (case kA => exact rfl); (case kF => exact rfl); (case kK => assumption); (case k1 => k_asm); (case k2 => k_asm); (case k3 => k_asm); (case k4 => k_asm); (case k5 => k_asm); (case k6 => exact rfl); (case k7 => k_is); (case k8 => first | exact room0 hd | ktr_room); (case k9 => first | exact BindsTo.of_eq rfl | exact binds_K (by k_in) rfl (by k_is) rfl rfl rfl); (case c5 => decide); (case kB => exact locs rfl); (case c2 => exact rfl); (case c3 => exact rfl); (case c4 => exact rfl); k_whole; intro g' L' h' FG' F' N' B' X' T'; (try dsimp only); (try k_fold); refine fold_A ?_; intro AA; have hAu : AA.units = un + 3 := rfl; have hAd : AA.depth = dp + 1 := rfl; refine fold_env ?_; intro ee)
  have hul := hx0.length
  have hvl := hy.length
  k_steps
  refine Stop.go ?_
  rename (Fr g' L' _ _) => F7
  rename (News g' L' _ _) => N7
  rename (_ < _ ∧ _ < _ ∧ _ < _ ∧ D < _ ∧ AllLt _ rest) => lB
  rename (_ < _ ∧ _ < _ ∧ D < _ ∧ AllLt _ rest) => lQ
  rename (_ < _ ∧ D < _ ∧ AllLt _ rest) => lT
  rename (D < _ ∧ AllLt _ rest) => lS
  rename_i S0 _ _ _ _ _ T0 _ Q0 _ _ _ B0 _ _
  simp only [List.size_toArray, hul, hvl] at F7 N7
  have hord : ∀ p ∈ (D, dictOf es n) :: rest, p.1 < S0 := List.forall_mem_cons.mpr ⟨lS.1, allLt_mem lS.2⟩
  refine while_done (n₀ := qm [(0, xs.length, 0, ys.length)]) (JGa rest D B0 Q0 S0 M es n jk xs ys)
    (JGb rest D B0 Q0 S0 M es n jk xs ys) F7 N7 ?j ?turn ?done
  case j =>
    refine ⟨[.ref T0], [(0, xs.length, 0, ys.length)], [], [], 0, 0, [(T0, _), (S0, _)], _, _, rfl, QTup.snoc (qv := []) (qs := []) .nil (.head _), MsAre.nil, fun p hp => ?_, fun p hp => ?_, ⟨QInv.start, fun w hw => ?_⟩, rfl, ?_, ⟨rfl, rfl, rfl, rfl, rfl, trivial⟩⟩
    · rcases List.mem_cons.mp hp with rfl | hp
      · rfl
      · rw [List.mem_singleton.mp hp]; rfl
    · rcases List.mem_cons.mp hp with rfl | hp
      · exact ⟨Nat.le_of_lt lT.1, Nat.ne_of_lt lB.2.1, Nat.ne_of_lt lQ.1⟩
      · rw [List.mem_singleton.mp hp]; exact ⟨Nat.le_refl _, Nat.ne_of_lt lB.2.2.1, Nat.ne_of_lt lQ.2.1⟩
    · rw [List.mem_singleton.mp hw]; exact ⟨Nat.zero_le _, Nat.le_refl _, Nat.zero_le _, Nat.le_refl _⟩
    · show 0 + (2 * (xs.length - 0) + 1 + 0) ≤ 121
      lia
  case done =>
    rintro m₁ nx h tk F1 N1 ⟨mv, F, cq, cm, nw, ta, tb, rfl, hM, hnw, hno1, ⟨Full, hR, hP⟩, hm⟩
    replace F1 := Fr.has _ F1 hm
    have hfacts := hR.facts
    have hFl : F.length ≤ 60 := by rw [hP.length_eq]; exact Nat.le_trans hfacts.2.2 hl1
    have hb0 : ∀ r ∈ (Q0, listOf #[] cq) :: (nw ++ (D, dictOf es n) :: rest), r.1 ≠ B0 := List.forall_mem_cons.mpr ⟨Nat.ne_of_lt lB.1, fun r hr => by
      rcases List.mem_append.mp hr with hr | hr
      · exact (hno1 r hr).2.1
      · exact Nat.ne_of_lt (Nat.lt_trans (hord r hr) lB.2.2.1)⟩
    k_steps
    refine Stop.go ?_
    rename (Fr g' L' _ _) => F2
    rename (News g' L' _ _) => N2
    refine sort_led F2 X' N2 (UpdF.head hb0) (fun o => hM.mono fun r hr => .tail _ (.tail _ (List.mem_append_left _ hr))) ?hu (by lia) (perm_inj hP hfacts.2.1) ?_
    case hu => first | exact units2 hu (by decide) | ktr_units
    intro h3 sv ts c3 F3 N3 hM3 hP3 hS3
    obtain rfl : ts = Full := sorted_eq (hP3.trans hP) hS3 hfacts.2.1
    have hM4 := hM3 (listOf sv.toArray c3)
    have hsl := hM4.1
    k_steps
    refine Stop.go ?_
    rename (Fr g' L' _ _) => F4
    k_dflt (refine' For_turns F4 ?_)
    k_steps
    refine Stop.go ?_
    rename (News g' L' _ _) => N4
    rename (B0 < _ ∧ Q0 < _ ∧ AllLt _ _) => lN
    rename_i h31 h32 h33 L1 h34 h35
    have hR1 : ∀ r ∈ (B0, listOf sv.toArray c3) :: (Q0, listOf #[] cq) :: (nw ++ (D, dictOf es n) :: rest), r.1 ≠ L1 := fun r hr => by
      rcases List.mem_cons.mp hr with rfl | hr
      · exact Nat.ne_of_lt lN.1
      · rcases List.mem_cons.mp hr with rfl | hr
        · exact Nat.ne_of_lt lN.2.1
        · exact Nat.ne_of_lt (allLt_mem lN.2.2 r hr)
    have hnoR : NoIt ex ((B0, listOf sv.toArray c3) :: (Q0, listOf #[] cq) :: (nw ++ (D, dictOf es n) :: rest)) := NoIt.cons rfl (NoIt.cons rfl (NoIt.append hnw hno))
    have hsl60 : ts.length ≤ 60 := Nat.le_trans hfacts.2.2 hl1
    clear hm hb0 hM hP hP3 hM3 hFl
    generalize hRR : (B0, listOf sv.toArray c3) :: (Q0, listOf #[] cq) :: (nw ++ (D, dictOf es n) :: rest) = R at N4 hR1 hnoR hM4
    have hB0R : (B0, listOf sv.toArray c3) ∈ R := hRR ▸ .head _
    have hMR : (M, instObj 242 D) ∈ R := hRR ▸ .tail _ (.tail _ (List.mem_append_right _ (.tail _ hM0)))
    have hDR : (D, dictOf es n) ∈ R := hRR ▸ .tail _ (.tail _ (List.mem_append_right _ (.head _)))
    refine turns_list ex (JGc R L1 M ts xs ys ta tb)
      rfl F4 N4 (.tail _ hB0R) ?hk (NoIt.cons rfl hnoR) ?hj ?turn2 ?done2
    case hk =>
      rintro i m nx ⟨na, u, a, b, c, t1, t2, t3, ⟨nv, cn, tw, rfl, _⟩, _⟩
      exact .tail _ (List.mem_append_right _ hB0R)
    case hj => exact ⟨[], (0, 0, 0), 0, 0, 0, _, _, _, ⟨[], 0, [], rfl, TusAre.nil, (fun _ h => nomatch h), (fun _ h => nomatch h)⟩, Nat.le_refl _, rfl, rfl, rfl, rfl, rfl, rfl, rfl, rfl, rfl, rfl, rfl, trivial⟩
    case turn2 =>
      rintro i v m₁ nx I it h tk hv ⟨na, u, a, b, c, t1, t2, t3, ⟨nv, cn, tw, rfl, hT, hTn, hTl⟩, hnl, hfold, ea, eb, ec, hm⟩ hno1 F5 N5 hI
      have hil : i < ts.length := by rw [← hsl]; exact (List.getElem?_eq_some_iff.mp hv).1
      obtain ⟨⟨x, y, z⟩, ht⟩ : ∃ t, ts[i]? = some t := ⟨_, List.getElem?_eq_getElem hil⟩
      obtain ⟨xm, dm, u1, u2, u3, hv1, ha1, _⟩ := hM4.2 i (x, y, z) ht
      rw [hv1] at hv
      cases hv
      have hnext := step2_take ht ([], (0, 0, 0))
      rw [hfold] at hnext
      replace F5 := Fr.has _ F5 hm
      have hr1 : ∀ r ∈ tw ++ R, r.1 ≠ L1 := fun r hr => by
        rcases List.mem_append.mp hr with hr | hr
        · exact Nat.ne_of_gt (hTl r hr)
        · exact hR1 r hr
      have hLI : @Ne Nat L1 I := hI _ (.head _)
      have hnvl := hT.1
      refine unpackN_match X' F5 N5 (.tail _ (.tail _ (List.mem_append_right _ ha1))) rfl rfl rfl fun h6 F6 N6 => ?_
      clear hfold hm F5 N5 hv1 ht ha1
      k_steps
      · refine Stop.go ?_
        rename (Fr g' L' _ _) => F7
        rename (News g' L' _ _) => N7
        rename (a + c = _) => e1
        rename (b + c = _) => e2
        have hcond : u.1 + u.2.2 = x ∧ u.2.1 + u.2.2 = y := by (try dsimp only at e1 e2); lia
        refine Turn.next F7 N7 (NoIt.cons rfl (NoIt.append hTn hnoR)) ⟨na, (u.1, u.2.1, u.2.2 + z), a, b, _, _, _, _, ⟨nv, cn, tw, rfl, hT, hTn, hTl⟩, by lia, ?_, ea, eb, ?_, rfl, rfl, rfl, rfl, rfl, rfl, rfl, trivial⟩
        · rw [hnext]; unfold step2; rw [if_pos hcond]
        · dsimp only; lia
      · refine Stop.go ?_
        rename (Fr g' L' _ _) => F7
        rename (News g' L' _ _) => N7
        have hcond : ¬ (u.1 + u.2.2 = x ∧ u.2.1 + u.2.2 = y) := by
          rename (b + c ≠ _) => e1
          (try dsimp only at e1); lia
        refine if_join (L := L') (h₀ := g') (fun m nx => ∃ nx', nx = (I, it) :: nx' ∧ NAJ L1 R (pend na u) nx' ∧ Has m [(Str.ofString "self", .ref M), (Str.ofString "la", .int (xs.length : Nat) ta), (Str.ofString "lb", .int (ys.length : Nat) tb), (Str.ofString "non_adjacent", .ref L1), (Str.ofString "i2", .int x u1), (Str.ofString "j2", .int y u2), (Str.ofString "k2", .int z u3)]) ?p1 ?p2
        case p1 =>
          k_steps
          · refine Stop.go ?_
            rename (Fr g' L' _ _) => F10
            rename (News g' L' _ _) => N10
            rename (I < _ ∧ L1 < _ ∧ AllLt _ _) => lt1
            refine append_K F10 N10 (Upd.tail (Nat.ne_of_gt lt1.2.1) (Upd.tail (Ne.symm hLI) (Upd.head hr1))) (fun h11 F11 N11 => ?_) (by rw [PySem.sizeLine_eq, List.size_toArray]; lia)
            k_steps
            exact ⟨rfl, WExit.mk F11 (News.sub N11 fun r hr => na_permI (oL := listOf (nv ++ [Value.ref _]).toArray (cn + 1)) (congrArg (fun z => listOf z (cn + 1)) (List.push_toArray ..).symm) hr) ⟨_, rfl, by rw [pend_yes (by lia)]; exact NAJ.push hT hTn hTl lt1.2.1 ea eb ec, rfl, rfl, rfl, rfl, rfl, rfl, rfl, trivial⟩⟩
          · exact ⟨rfl, WExit.mk F7 N7 ⟨_, rfl, by rw [pend_no (by lia)]; exact ⟨nv, cn, tw, rfl, hT, hTn, hTl⟩, rfl, rfl, rfl, rfl, rfl, rfl, rfl, trivial⟩⟩
        rintro m2 nx2 h12 tk12 F12 N12 ⟨nx', rfl, ⟨nv2, cn2, tw2, rfl, hT2, hTn2, hTl2⟩, hm2⟩
        replace F12 := Fr.has _ F12 hm2
        k_steps
        refine Stop.go ?_
        rename (Fr g' L' _ _) => F13
        rename (News g' L' _ _) => N13
        refine Turn.next F13 (News.drop1 N13) (NoIt.cons rfl (NoIt.append hTn2 hnoR)) ⟨pend na u, (x, y, z), _, _, _, _, _, _, ⟨nv2, cn2, tw2, rfl, hT2, hTn2, hTl2⟩, Nat.le_trans (pend_len na u) (by lia), ?_, ?_, ?_, ?_, rfl, rfl, rfl, rfl, rfl, rfl, rfl, trivial⟩
        · rw [hnext]; unfold step2; rw [if_neg hcond]
        · exact rfl
        · exact rfl
        · exact rfl
      · refine Stop.go ?_
        rename (Fr g' L' _ _) => F7
        rename (News g' L' _ _) => N7
        have hcond : ¬ (u.1 + u.2.2 = x ∧ u.2.1 + u.2.2 = y) := by
          rename (a + c ≠ _) => e1
          (try dsimp only at e1); lia
        refine if_join (L := L') (h₀ := g') (fun m nx => ∃ nx', nx = (I, it) :: nx' ∧ NAJ L1 R (pend na u) nx' ∧ Has m [(Str.ofString "self", .ref M), (Str.ofString "la", .int (xs.length : Nat) ta), (Str.ofString "lb", .int (ys.length : Nat) tb), (Str.ofString "non_adjacent", .ref L1), (Str.ofString "i2", .int x u1), (Str.ofString "j2", .int y u2), (Str.ofString "k2", .int z u3)]) ?q1 ?q2
        case q1 =>
          k_steps
          · refine Stop.go ?_
            rename (Fr g' L' _ _) => F10
            rename (News g' L' _ _) => N10
            rename (I < _ ∧ L1 < _ ∧ AllLt _ _) => lt1
            refine append_K F10 N10 (Upd.tail (Nat.ne_of_gt lt1.2.1) (Upd.tail (Ne.symm hLI) (Upd.head hr1))) (fun h11 F11 N11 => ?_) (by rw [PySem.sizeLine_eq, List.size_toArray]; lia)
            k_steps
            exact ⟨rfl, WExit.mk F11 (News.sub N11 fun r hr => na_permI (oL := listOf (nv ++ [Value.ref _]).toArray (cn + 1)) (congrArg (fun z => listOf z (cn + 1)) (List.push_toArray ..).symm) hr) ⟨_, rfl, by rw [pend_yes (by lia)]; exact NAJ.push hT hTn hTl lt1.2.1 ea eb ec, rfl, rfl, rfl, rfl, rfl, rfl, rfl, trivial⟩⟩
          · exact ⟨rfl, WExit.mk F7 N7 ⟨_, rfl, by rw [pend_no (by lia)]; exact ⟨nv, cn, tw, rfl, hT, hTn, hTl⟩, rfl, rfl, rfl, rfl, rfl, rfl, rfl, trivial⟩⟩
        rintro m2 nx2 h12 tk12 F12 N12 ⟨nx', rfl, ⟨nv2, cn2, tw2, rfl, hT2, hTn2, hTl2⟩, hm2⟩
        replace F12 := Fr.has _ F12 hm2
        k_steps
        refine Stop.go ?_
        rename (Fr g' L' _ _) => F13
        rename (News g' L' _ _) => N13
        refine Turn.next F13 (News.drop1 N13) (NoIt.cons rfl (NoIt.append hTn2 hnoR)) ⟨pend na u, (x, y, z), _, _, _, _, _, _, ⟨nv2, cn2, tw2, rfl, hT2, hTn2, hTl2⟩, Nat.le_trans (pend_len na u) (by lia), ?_, ?_, ?_, ?_, rfl, rfl, rfl, rfl, rfl, rfl, rfl, trivial⟩
        · rw [hnext]; unfold step2; rw [if_neg hcond]
        · exact rfl
        · exact rfl
        · exact rfl
    case done2 =>
      rintro m₁ nx h tk ⟨na, u, a, b, c, t1, t2, t3, ⟨nv, cn, tw, rfl, hT, hTn, hTl⟩, hnl, hfold, ea, eb, ec, hm⟩ hnoT F5 N5
      rw [hsl, List.take_length] at hfold
      have hdue := fold2_due ts (fun t ht => (hfacts.1 t ht).1)
      rw [hfold] at hdue
      dsimp only at hdue
      replace F5 := Fr.has _ F5 hm
      have hr1 : ∀ r ∈ tw ++ R, r.1 ≠ L1 := fun r hr => by
        rcases List.mem_append.mp hr with hr | hr
        · exact Nat.ne_of_gt (hTl r hr)
        · exact hR1 r hr
      have hnvl := hT.1
      clear hfold hm
      k_steps
      refine Stop.go ?_
      rename (Fr g' L' _ _) => F7
      rename (News g' L' _ _) => N7
      refine if_join (L := L') (h₀ := g') (fun m nx => NAJ L1 R (pend na u) nx ∧ Has m [(Str.ofString "self", .ref M), (Str.ofString "la", .int (xs.length : Nat) ta), (Str.ofString "lb", .int (ys.length : Nat) tb), (Str.ofString "non_adjacent", .ref L1)]) ?r1 ?r2
      case r1 =>
        k_steps
        · refine Stop.go ?_
          rename (Fr g' L' _ _) => F10
          rename (News g' L' _ _) => N10
          rename (L1 < _ ∧ AllLt _ _) => lt1
          refine append_K F10 N10 (Upd.tail (Nat.ne_of_gt lt1.1) (Upd.head hr1)) (fun h11 F11 N11 => ?_) (by rw [PySem.sizeLine_eq, List.size_toArray]; lia)
          k_steps
          exact ⟨rfl, WExit.mk F11 (News.sub N11 fun r hr => na_perm (oL := listOf (nv ++ [Value.ref _]).toArray (cn + 1)) (congrArg (fun z => listOf z (cn + 1)) (List.push_toArray ..).symm) hr) ⟨by rw [pend_yes (by lia)]; exact NAJ.push hT hTn hTl lt1.1 ea eb ec, rfl, rfl, rfl, rfl, trivial⟩⟩
        · exact ⟨rfl, WExit.mk F7 N7 ⟨by rw [pend_no (by lia)]; exact ⟨nv, cn, tw, rfl, hT, hTn, hTl⟩, rfl, rfl, rfl, rfl, trivial⟩⟩
      rintro m2 nx2 h12 tk12 F12 N12 ⟨⟨nv2, cn2, tw2, rfl, hT2, hTn2, hTl2⟩, hm2⟩
      replace F12 := Fr.has _ F12 hm2
      have hnv2 := hT2.1
      have hpl := pend_len na u
      rw [hdue] at hT2
      have hr2 : ∀ r ∈ tw2 ++ R, r.1 ≠ L1 := fun r hr => by
        rcases List.mem_append.mp hr with hr | hr
        · exact Nat.ne_of_gt (hTl2 r hr)
        · exact hR1 r hr
      clear hT hTn hTl hr1 hm2
      k_steps
      refine Stop.go ?_
      rename (Fr g' L' _ _) => F13
      rename (News g' L' _ _) => N13
      rename (L1 < _ ∧ AllLt _ _) => lt2
      refine append_K F13 N13 (Upd.tail (Nat.ne_of_gt lt2.1) (Upd.head hr2)) (fun h14 F14 N14 => ?_) (by rw [PySem.sizeLine_eq, List.size_toArray]; lia)
      replace N14 := News.sub N14 fun r hr => na_perm (oL := listOf (nv2 ++ [Value.ref _]).toArray (cn2 + 1)) (congrArg (fun z => listOf z (cn2 + 1)) (List.push_toArray ..).symm) hr
      rename_i D2 h13
      have hT3 := hT2.snoc (x := D2) (n := 0) (a := (xs.length : Int)) (b := (ys.length : Int)) (c := 0) (t := (xs.length, ys.length, 0)) (t1 := ta) (t2 := tb) (t3 := tk12) rfl rfl rfl
      have hbR : ∀ r ∈ (D, dictOf es n) :: rest, r ∈ R := fun r hr => hRR ▸ List.Mem.tail _ (List.Mem.tail _ (List.mem_append_right _ hr))
      k_steps
      refine Stop.go ?_
      rename (Fr g' L' _ _) => F15
      rename (News g' L' _ _) => N15
      rename (L1 < _ ∧ AllLt _ ((D2, _) :: tw2 ++ R)) => l15
      rename_i q15 h15
      refine map_led F15 N15 (.tail _ (.head _)) (fun z T I h16 F16 N16 lI lT lz => ?_)
      k_steps
      refine Stop.go ?_
      rename (Fr g' L' _ _) => F16
      rename (News g' L' _ _) => N16
      k_dflt (refine' list_make (mean := mean) (mg := mg) (mb := mb) ?B ?F ?X ?Tp ?hk N16 lI lT lz (.tail _ (.head _)) (.head _) (hT3.mono ?e) ?hn ?hd ?hu ?_; (case B => k_asm); (case F => k_asm); (case X => k_asm); (case Tp => k_asm); (case hk => exact rfl); (case hd => first | exact room1 hd (by decide) | ktr_room); (case hu => first | exact units1 hu (by decide) | ktr_units))
      case e => exact fun r hr => .tail _ (.tail _ (List.mem_append_left _ hr))
      case hn => rw [List.length_append, List.length_singleton]; lia
      intro Dl ms mk c5 h17 tk17 F17 N17 hMs hmk hlt17
      have hlR : ∀ r ∈ (D, dictOf es n) :: rest, @LT.lt Nat _ r.1 L1 ∧ @LT.lt Nat _ r.1 D2 ∧ @LT.lt Nat _ r.1 q15 := fun r hr => by
        have h1 : @LT.lt Nat _ r.1 L1 := by
          have h3 := hRR ▸ hbR r hr
          have h4 := hord r hr
          exact Nat.lt_trans h4 (Nat.lt_trans lB.2.2.1 lN.1)
        exact ⟨h1, Nat.lt_trans h1 lt2.1, Nat.lt_trans h1 l15.1⟩
      have hX : ∀ r ∈ (Dl, listOf ms.toArray c5) :: (mk ++ ((q15, methodObj (.ref 89) (.ref 135)) :: (L1, listOf (nv2 ++ [Value.ref D2]).toArray (cn2 + 1)) :: (((D2, ({ cls := .type "tuple", data := .seq #[.int (xs.length : Nat) ta, .int (ys.length : Nat) tb, .int 0 tk12] } : Obj)) :: tw2) ++ ((B0, listOf sv.toArray c3) :: (Q0, listOf #[] cq) :: nw)))), noIt r.2 = true ∧ ∀ b ∈ (D, dictOf es n) :: rest, b.1 < r.1 := by
        have hb : ∀ b ∈ (D, dictOf es n) :: rest, b.1 < Dl ∧ ∀ p ∈ mk, b.1 < p.1 := fun b hb => hlt17 b (.tail _ (.tail _ (List.mem_append_right _ (hbR b hb))))
        intro r hr
        rcases List.mem_cons.mp hr with rfl | hr
        · exact ⟨rfl, fun b h => (hb b h).1⟩
        · rcases List.mem_append.mp hr with hr | hr
          · exact ⟨hmk r hr, fun b h => (hb b h).2 r hr⟩
          · rcases List.mem_cons.mp hr with rfl | hr
            · exact ⟨rfl, fun b h => (hlR b h).2.2⟩
            · rcases List.mem_cons.mp hr with rfl | hr
              · exact ⟨rfl, fun b h => (hlR b h).1⟩
              · rcases List.mem_append.mp hr with hr | hr
                · rcases List.mem_cons.mp hr with rfl | hr
                  · exact ⟨rfl, fun b h => (hlR b h).2.1⟩
                  · exact ⟨hTn2 r hr, fun b h => Nat.lt_trans (hlR b h).1 (hTl2 r hr)⟩
                · rcases List.mem_cons.mp hr with rfl | hr
                  · exact ⟨rfl, fun b h => Nat.lt_trans (hord b h) lB.2.2.1⟩
                  · rcases List.mem_cons.mp hr with rfl | hr
                    · exact ⟨rfl, fun b h => Nat.lt_trans (hord b h) lQ.2.1⟩
                    · exact ⟨hnw r hr, fun b h => Nat.lt_of_lt_of_le (hord b h) (hno1 r hr).1⟩
      subst hRR
      replace N17 := News.sub (b := ((Dl, listOf ms.toArray c5) :: (mk ++ ((q15, methodObj (.ref 89) (.ref 135)) :: (L1, listOf (nv2 ++ [Value.ref D2]).toArray (cn2 + 1)) :: (((D2, ({ cls := .type "tuple", data := .seq #[.int (xs.length : Nat) ta, .int (ys.length : Nat) tb, .int 0 tk12] } : Obj)) :: tw2) ++ ((B0, listOf sv.toArray c3) :: (Q0, listOf #[] cq) :: nw))))) ++ (D, dictOf es n) :: rest) N17 fun r hr => by
        simp only [List.mem_append, List.mem_cons] at hr ⊢
        grind
      have hDl : (Dl, listOf ms.toArray c5) ∈ (Dl, listOf ms.toArray c5) :: (mk ++ ((q15, methodObj (.ref 89) (.ref 135)) :: (L1, listOf (nv2 ++ [Value.ref D2]).toArray (cn2 + 1)) :: (((D2, ({ cls := .type "tuple", data := .seq #[.int (xs.length : Nat) ta, .int (ys.length : Nat) tb, .int 0 tk12] } : Obj)) :: tw2) ++ ((B0, listOf sv.toArray c3) :: (Q0, listOf #[] cq) :: nw)))) := .head _
      have hMs2 := hMs.mono (nw' := (Dl, listOf ms.toArray c5) :: (mk ++ ((q15, methodObj (.ref 89) (.ref 135)) :: (L1, listOf (nv2 ++ [Value.ref D2]).toArray (cn2 + 1)) :: (((D2, ({ cls := .type "tuple", data := .seq #[.int (xs.length : Nat) ta, .int (ys.length : Nat) tb, .int 0 tk12] } : Obj)) :: tw2) ++ ((B0, listOf sv.toArray c3) :: (Q0, listOf #[] cq) :: nw))))) (fun p hp => .tail _ (List.mem_append_left _ hp))
      generalize (Dl, listOf ms.toArray c5) :: (mk ++ ((q15, methodObj (.ref 89) (.ref 135)) :: (L1, listOf (nv2 ++ [Value.ref D2]).toArray (cn2 + 1)) :: (((D2, ({ cls := .type "tuple", data := .seq #[.int (xs.length : Nat) ta, .int (ys.length : Nat) tb, .int 0 tk12] } : Obj)) :: tw2) ++ ((B0, listOf sv.toArray c3) :: (Q0, listOf #[] cq) :: nw)))) = XX at N17 hX hDl hMs2
      have hXD : ∀ p ∈ XX, p.1 ≠ D := fun p hp => Nat.ne_of_gt ((hX p hp).2 _ (.head _))
      k_steps
      rename (Fr h₀ L _ m) => kF
      rename (News h₀ L _ _) => kN
      rename (Flds (k + 1) _ _) => fl5
      exact hret _ _ _ _ kF kN ⟨Dl, ms, ts, c5, _, _, XX, rfl, rfl, fun p hp q hq => (hX p hp).2 q hq, fun p hp => (hX p hp).1, hDl, hR, hMs2, fl5⟩
  case turn =>
    rintro i m₁ nx h tk F1 N1 ⟨qv, qs, mv, F, cq, cm, nw, ta, tb, rfl, hQ, hM, hnw, hno1, hI, rfl, hle, hm⟩
    replace F1 := Fr.has _ F1 hm
    cases hQ with
    | nil =>
      k_steps
      refine Stop.go ?_
      rename (News g' L' _ _) => N2
      refine kgr_truthy N2 (.tail _ (.head _)) rfl rfl (by decide) ?_
      show WExit _ _ _ _ _
      rename (Fr g' L' _ _) => F2
      exact WExit.mk F2 N2 ⟨mv, F, cq, cm, nw, ta, tb, rfl, hM, hnw, hno1, hI.1.done, ⟨rfl, rfl, rfl, rfl, trivial⟩⟩
    | snoc hQ' hx =>
      rename_i qv qs x nn alo ahi blo bhi u1 u2 u3 u4
      have hxm : (x, ({ cls := .type "tuple", data := .seq #[.int alo u1, .int ahi u2, .int blo u3, .int bhi u4] nn } : Obj)) ∈ nw ++ (D, dictOf es n) :: rest := List.mem_append_left _ hx
      have hq0 : ∀ r ∈ nw ++ (D, dictOf es n) :: rest, r.1 ≠ Q0 := fun r hr => by
        rcases List.mem_append.mp hr with hr | hr
        · exact (hno1 r hr).2.2
        · exact Nat.ne_of_lt (Nat.lt_trans (hord r hr) lQ.2.1)
      have hb0 : ∀ r ∈ nw ++ (D, dictOf es n) :: rest, r.1 ≠ B0 := fun r hr => by
        rcases List.mem_append.mp hr with hr | hr
        · exact (hno1 r hr).2.1
        · exact Nat.ne_of_lt (Nat.lt_trans (hord r hr) lB.2.2.1)
      have hql : (qs ++ [(alo, ahi, blo, bhi)]).length ≤ 121 := Nat.le_trans (qm_len _) (by lia)
      have hqvl := hQ'.len
      have hWO := hI.2 _ (List.mem_append_right _ (.head _))
      obtain ⟨w1, w2, w3, w4⟩ := hWO
      k_steps
      refine Stop.go ?_
      rename (News g' L' _ _) => N2
      refine kgr_truthy N2 (.tail _ (.head _)) rfl rfl (by rw [List.length_append] at hql ⊢; simp at hql ⊢; lia) ?_
      rw [show (!(qv ++ [Value.ref x]).isEmpty) = true by simp]
      k_steps
      refine Stop.go ?_
      rename (Fr g' L' _ _) => F3
      rename (News g' L' _ _) => N3
      refine kl_pop (p := qv) (y := .ref x) F3 N3 (kl_last_snoc _ _) (Upd.tail (Nat.ne_of_gt lB.1) (Upd.head hq0)) (by rw [PySem.sizeLine_eq]; simp at hql ⊢; lia) fun h4 F4 N4 => ?_
      k_steps
      refine Stop.go ?_
      dsimp only at w1 w2 w3 w4
      have hno2 : NoIt ex ((B0, listOf mv.toArray cm) :: (Q0, listOf qv.toArray (cq + 1)) :: (nw ++ (D, dictOf es n) :: rest)) := NoIt.cons rfl (NoIt.cons rfl (NoIt.append hnw hno))
      k_dflt (refine' Calls.use (c_flm (v1 := .int ahi u2) (v2 := .int bhi u4) (.inl rfl) (.tail _ (.tail _ (List.mem_append_right _ (.tail _ hM0)))) (.tail _ (.tail _ (List.mem_append_right _ (.head _)))) fl (fun p hp => .tail _ (.tail _ (List.mem_append_right _ (hnl p hp)))) ha hb hb2 hbj (.tail _ (.tail _ (List.mem_append_right _ (.tail _ hp)))) (.tail _ (.tail _ (List.mem_append_right _ (.tail _ hq)))) hx0 hy (by lia) (by lia) hS w1 w2 w3 w4 (.inl ⟨u2, rfl⟩) (.inl ⟨u4, rfl⟩) hno2) ?B ?F ?X ?N ?T ?hk ?hd ?hu ?_; (case B => k_asm); (case F => k_asm); (case X => k_asm); (case N => k_asm); (case T => k_asm); (case hk => exact rfl); (case hd => first | exact room1 hd (by decide) | ktr_room); (case hu => first | exact units1 hu (by decide) | ktr_units))
      rintro v nx h5 tk5 F5 N5 ⟨y, dy, bi, bj, bs, v1, v2, v3, rfl, rfl, l5, l6, hLW⟩
      have hS0y : @LT.lt Nat _ S0 dy := Nat.lt_trans lQ.2.1 (l5 _ (.tail _ (.head _)))
      have hnw1 : ∀ r ∈ (y, matchO dy #[.int bi v1, .int bj v2, .int bs v3]) :: (dy, emptyDict) :: nw, noIt r.2 = true := List.forall_mem_cons.mpr ⟨rfl, List.forall_mem_cons.mpr ⟨rfl, hnw⟩⟩
      have hord1 : ∀ r ∈ (y, matchO dy #[.int bi v1, .int bj v2, .int bs v3]) :: (dy, emptyDict) :: nw, S0 ≤ r.1 ∧ r.1 ≠ B0 ∧ r.1 ≠ Q0 := List.forall_mem_cons.mpr ⟨⟨Nat.le_of_lt (Nat.lt_trans hS0y l6), Nat.ne_of_gt (Nat.lt_trans (l5 _ (.head _)) l6), Nat.ne_of_gt (Nat.lt_trans (l5 _ (.tail _ (.head _))) l6)⟩, List.forall_mem_cons.mpr ⟨⟨Nat.le_of_lt hS0y, Nat.ne_of_gt (l5 _ (.head _)), Nat.ne_of_gt (l5 _ (.tail _ (.head _)))⟩, hno1⟩⟩
      have hb1 : ∀ r ∈ (Q0, listOf qv.toArray (cq + 1)) :: (nw ++ (D, dictOf es n) :: rest), r.1 ≠ B0 := List.forall_mem_cons.mpr ⟨Nat.ne_of_lt lB.1, hb0⟩
      have hq1 : ∀ r ∈ ((y, matchO dy #[.int bi v1, .int bj v2, .int bs v3]) :: (dy, emptyDict) :: nw) ++ (D, dictOf es n) :: rest, r.1 ≠ Q0 := fun r hr => by
        rcases List.mem_append.mp hr with hr | hr
        · exact (hord1 r hr).2.2
        · exact Nat.ne_of_lt (Nat.lt_trans (hord r hr) lQ.2.1)
      have hqv1000 : qv.length ≤ 1000 := by rw [List.length_append] at hql; lia
      have hmsz : mv.toArray.size ≤ sizeLine := by have := hM.1; rw [PySem.sizeLine_eq, List.size_toArray]; lia
      k_steps
      refine unpackN_match X' F5 N5 (.head _) rfl rfl rfl fun h6 F6 N6 => ?_
      k_steps
      · refine Stop.go ?_
        rename (Fr g' L' _ _) => F7
        rename (News g' L' _ _) => N7
        refine append_K F7 N7 (Upd.tail (Nat.ne_of_gt (Nat.lt_trans (l5 _ (.head _)) l6)) (Upd.tail (Nat.ne_of_gt (l5 _ (.head _))) (Upd.head hb1))) (fun h8 F8 N8 => ?_) hmsz
        replace N8 := News.sub (b := (B0, listOf (mv ++ [Value.ref y]).toArray (cm + 1)) :: (Q0, listOf qv.toArray (cq + 1)) :: (((y, matchO dy #[.int bi v1, .int bj v2, .int bs v3]) :: (dy, emptyDict) :: nw) ++ (D, dictOf es n) :: rest)) N8 (fun r hr => gmb_perm (oB := listOf (mv ++ [Value.ref y]).toArray (cm + 1)) (congrArg (fun z => listOf z (cm + 1)) (List.push_toArray ..).symm) hr)
        have hbs : 0 < bs := by lia
        k_steps
        refine Stop.go ?_
        rename (Fr g' L' _ _) => F9
        rename (News g' L' _ _) => N9
        refine if_join (L := L') (h₀ := g') (fun m nx => GJ B0 Q0 S0 ((D, dictOf es n) :: rest) (mv ++ [.ref y]) (cm + 1) (qs ++ winL alo bi blo bj) ((y, matchO dy #[.int bi v1, .int bj v2, .int bs v3]) :: (dy, emptyDict) :: nw) nx ∧ Has m [(Str.ofString "self", .ref M), (Str.ofString "la", .int (xs.length : Nat) ta), (Str.ofString "lb", .int (ys.length : Nat) tb), (Str.ofString "queue", .ref Q0), (Str.ofString "matching_blocks", .ref B0), (Str.ofString "ahi", .int ahi u2), (Str.ofString "bhi", .int bhi u4), (Str.ofString "i", .int bi v1), (Str.ofString "j", .int bj v2), (Str.ofString "k", .int bs v3)]) ?j1 ?j2
        case j1 =>
          k_steps
          · refine Stop.go ?_
            rename (Fr g' L' _ _) => F10
            rename (News g' L' _ _) => N10
            rename (B0 < _ ∧ Q0 < _ ∧ AllLt _ _) => lt1
            refine append_K F10 N10 (Upd.tail (Nat.ne_of_gt lt1.2.1) (Upd.tail (Nat.ne_of_gt lB.1) (Upd.head hq1))) (fun h11 F11 N11 => ?_) (by rw [PySem.sizeLine_eq, List.size_toArray]; lia)
            k_steps
            exact ⟨rfl, WExit.mk F11 (News.sub N11 fun r hr => gmb_perm1 (oQ := listOf (qv ++ [Value.ref _]).toArray (cq + 1 + 1)) (congrArg (fun z => listOf z (cq + 1 + 1)) (List.push_toArray ..).symm) hr) ⟨by rw [winL_yes (by lia)]; exact gj_push (hQ'.mono (fun r hr => .tail _ (.tail _ hr))) (fun _ h => h) hnw1 hord1 lt1.1 lt1.2.1 lB.2.2.1, rfl, rfl, rfl, rfl, rfl, rfl, rfl, rfl, rfl, rfl, trivial⟩⟩
          · exact ⟨rfl, WExit.mk F9 N9 ⟨⟨qv, cq + 1, _, rfl, by rw [winL_no (by lia), List.append_nil]; exact hQ'.mono (fun r hr => .tail _ (.tail _ hr)), fun _ h => h, hnw1, hord1⟩, rfl, rfl, rfl, rfl, rfl, rfl, rfl, rfl, rfl, rfl, trivial⟩⟩
          · exact ⟨rfl, WExit.mk F9 N9 ⟨⟨qv, cq + 1, _, rfl, by rw [winL_no (by lia), List.append_nil]; exact hQ'.mono (fun r hr => .tail _ (.tail _ hr)), fun _ h => h, hnw1, hord1⟩, rfl, rfl, rfl, rfl, rfl, rfl, rfl, rfl, rfl, rfl, trivial⟩⟩
        rintro m2 nx2 h12 tk12 F12 N12 ⟨⟨qv2, cq2, nw2, rfl, hQ2, hsub2, hnw2, hord2⟩, hm2⟩
        replace F12 := Fr.has _ F12 hm2
        have hq2 : ∀ r ∈ nw2 ++ (D, dictOf es n) :: rest, r.1 ≠ Q0 := fun r hr => by
          rcases List.mem_append.mp hr with hr | hr
          · exact (hord2 r hr).2.2
          · exact Nat.ne_of_lt (Nat.lt_trans (hord r hr) lQ.2.1)
        have hqv2 := hQ2.len
        have hwl : (winL alo bi blo bj).length ≤ 1 := by unfold winL; split <;> simp
        rw [List.length_append] at hqv2 hql
        clear hQ' hxm hq0 hb0 hq1 hb1
        k_steps
        refine Stop.go ?_
        refine if_join (L := L') (h₀ := g') (fun m nx => GJ B0 Q0 S0 ((D, dictOf es n) :: rest) (mv ++ [.ref y]) (cm + 1) (qs ++ winL alo bi blo bj ++ winR (bi + bs) ahi (bj + bs) bhi) nw2 nx ∧ Has m [(Str.ofString "self", .ref M), (Str.ofString "la", .int (xs.length : Nat) ta), (Str.ofString "lb", .int (ys.length : Nat) tb), (Str.ofString "queue", .ref Q0), (Str.ofString "matching_blocks", .ref B0)]) ?j3 ?j4
        case j3 =>
          k_steps
          · refine Stop.go ?_
            rename (Fr g' L' _ _) => F10
            rename (News g' L' _ _) => N10
            rename (B0 < _ ∧ Q0 < _ ∧ AllLt _ _) => lt1
            refine append_K F10 N10 (Upd.tail (Nat.ne_of_gt lt1.2.1) (Upd.tail (Nat.ne_of_gt lB.1) (Upd.head hq2))) (fun h11 F11 N11 => ?_) (by rw [PySem.sizeLine_eq, List.size_toArray]; lia)
            k_steps
            exact ⟨rfl, WExit.mk F11 (News.sub N11 fun r hr => gmb_perm1 (oQ := listOf (qv2 ++ [Value.ref _]).toArray (cq2 + 1)) (congrArg (fun z => listOf z (cq2 + 1)) (List.push_toArray ..).symm) hr) ⟨by rw [winR_yes (by lia)]; exact gj_push hQ2 (fun _ h => h) hnw2 hord2 lt1.1 lt1.2.1 lB.2.2.1, rfl, rfl, rfl, rfl, rfl, trivial⟩⟩
          · exact ⟨rfl, WExit.mk F12 N12 ⟨⟨qv2, cq2, nw2, rfl, by rw [winR_no (by lia), List.append_nil]; exact hQ2, fun _ h => h, hnw2, hord2⟩, rfl, rfl, rfl, rfl, rfl, trivial⟩⟩
          · exact ⟨rfl, WExit.mk F12 N12 ⟨⟨qv2, cq2, nw2, rfl, by rw [winR_no (by lia), List.append_nil]; exact hQ2, fun _ h => h, hnw2, hord2⟩, rfl, rfl, rfl, rfl, rfl, trivial⟩⟩
        rintro m3 nx3 h13 tk13 F13 N13 ⟨⟨qv3, cq3, nw3, rfl, hQ3, hsub3, hnw3, hord3⟩, hm3⟩
        k_steps
        refine Stop.go ?_
        refine wstep_next (qm (qs ++ winL alo bi blo bj ++ winR (bi + bs) ahi (bj + bs) bhi)) F13 N13 (qm_hit hLW hbs) ⟨qv3, _, mv ++ [.ref y], F ++ [(bi, bj, bs)], cq3, cm + 1, nw3, ta, tb, rfl, hQ3, ?_, hnw3, hord3, ⟨hI.1.hit hLW hbs, WOk.hit hI.2 hLW⟩, rfl, ?_, hm3⟩
        · exact (hM.mono fun r hr => hsub3 _ (hsub2 _ (.tail _ (.tail _ hr)))).snoc (hsub3 _ (hsub2 _ (.head _))) (hsub3 _ (hsub2 _ (.tail _ (.head _))))
        · have := qm_hit (qs := qs) hLW hbs
          rw [List.length_append, List.length_singleton]
          lia
      · refine Stop.go ?_
        have hbs : bs = 0 := by lia
        subst hbs
        rename (Fr g' L' _ _) => F7
        rename (News g' L' _ _) => N7
        refine wstep_next (qm qs) F7 (News.sub N7 fun r hr => gmb_perm rfl hr) (by rw [qm_app]; exact Nat.lt_add_of_pos_right (Nat.succ_pos _)) ⟨qv, qs, mv, F, cq + 1, cm, (y, matchO dy #[.int bi v1, .int bj v2, .int (0 : Nat) v3]) :: (dy, emptyDict) :: nw, ta, tb, rfl, hQ'.mono (fun r hr => .tail _ (.tail _ hr)), hM.mono (fun r hr => .tail _ (.tail _ hr)), hnw1, hord1, ⟨hI.1.miss hLW, fun w hw => hI.2 w (List.mem_append_left _ hw)⟩, rfl, ?_, ⟨rfl, rfl, rfl, rfl, rfl, trivial⟩⟩
        rw [qm_app] at hle
        lia
end
section
variable {w : World} {mean : ExcName → Option Value} {mg mb : Str → Option Value}
inductive RGm (ts : List Tri) (Nx : Led → Prop) (v : Value) (news' : Led) : Prop
  | mk (r : Addr) (ms : List Value) (c : Nat) (h1 : v = .ref r) (h2 : (r, listOf ms.toArray c) ∈ news') (h3 : MsAre news' ms ts) (h4 : (∃ ex, NoIt ex news')) (h5 : Nx news') : RGm ts Nx v news'
/-- what the call of get_matching_blocks hands back -/
abbrev GmbC (w : World) (mean : ExcName → Option Value) (mg mb : Str → Option Value) (M : Addr) (news : Led) (ts : List Tri) (Nx : Led → Prop) : Prop :=
  Calls w mean mg mb 203 [.ref M] 40 news (RGm ts Nx)
inductive RTold (ts : List Tri) (Nx : Led → Prop) (v : Value) (news' : Led) : Prop
  | mk (r : Addr) (bs : List Value) (c : Nat) (nl : Led) (nx : Led) (h1 : v = .ref r) (h2 : news' = (r, listOf bs.toArray c) :: (nl ++ nx)) (h3 : Nx nx) (h4 : BsAre nl bs ts) (h5 : (∀ p ∈ nl, noIt p.2 = true)) : RTold ts Nx v news'
theorem c_told {news : Led} {M D : Addr} {es : List DictEntry} {n k : Nat} {f : Str → Option Value} {ts : List Tri} {Nx : Led → Prop} (hM : (M, instObj 242 D) ∈ news) (hDm : (D, dictOf es n) ∈ news) (fl : Flds k es f) (hfm : f "get_matching_blocks" = none) (hl : ts.length ≤ 100)
    (hg : GmbC w mean mg mb M news ts Nx) :
    Calls w mean mg mb 287 [.ref M] 60 news (RTold ts Nx) := by
  w_on
  unfold Calls
  k_fill
  intro dp un gd cn csc aa ccd cl outer A₀ base h₀ L m s Q E B F X N T hk hd hu hret
  refine wpAny_call ?_
  k_dflt (refine' code_def (scope := Scope.mk _ _ _ _ _) (params := Arguments.mk _ _ _ _ _ _ _) (body := _ :: _) (binds := [(Str.ofString "matcher", Value.ref M)]) ?k1 ?k2 ?k3 ?k4 ?k5 ?kA ?kF ?kK ?k6 ?k7 ?k8 ?k9 ?kB ?_ ?c2 ?c3 ?c4 ?c5; (case kA => exact rfl); (case kF => exact rfl); (case kK => assumption); (case k1 => k_asm); (case k2 => k_asm); (case k3 => k_asm); (case k4 => k_asm); (case k5 => k_asm); (case k6 => exact rfl); (case k7 => k_is); (case k8 => first | exact room0 hd | ktr_room); (case k9 => first | exact BindsTo.of_eq rfl | exact binds_K (by k_in) rfl (by k_is) rfl rfl rfl); (case c5 => decide); (case kB => exact locs rfl); (case c2 => exact rfl); (case c3 => exact rfl); (case c4 => exact rfl); k_whole; intro g' L' h' FG' F' N' B' X' T'; (try dsimp only); (try k_fold); refine fold_A ?_; intro AA; have hAu : AA.units = un + 3 := rfl; have hAd : AA.depth = dp + 1 := rfl; refine fold_env ?_; intro ee)
  k_steps
  refine Stop.go ?_
  k_dflt (refine' Calls.use (hg) ?B ?F ?X ?N ?T ?hk ?hd ?hu ?_; (case B => k_asm); (case F => k_asm); (case X => k_asm); (case N => k_asm); (case T => k_asm); (case hk => exact rfl); (case hd => first | exact room1 hd (by decide) | ktr_room); (case hu => first | exact units1 hu (by decide) | ktr_units))
  rintro v nx h1 tk1 F1 N1 ⟨r, ms, c, rfl, hr, hms, ⟨ex, hno⟩, hnx⟩
  have hml := hms.1
  k_steps
  refine Stop.go ?_
  rename (Fr g' L' _ _) => F2
  rename (News g' L' _ nx) => N2
  refine LCg.CompSrc.ledger rfl F2 N2 hr ?_ fun g => ?_
  · rw [PySem.sizeLine_eq, List.size_toArray]; lia
  refine comp_gen (fun zs n2 => ∃ nl, n2 = nl ++ nx ∧ BsAre nl zs (ts.take zs.length) ∧ (∀ p ∈ nl, noIt p.2 = true)) ⟨[], rfl, by simpa using BsAre.nil, fun _ h => nomatch h⟩ ?turn ?fin
  case turn =>
    rintro v I oI C oC D m₂ zs n2 h tk E' hl hv ⟨nl, rfl, hzs, hnl⟩ hC hX F1 N1 off ne
    have hv' : ms[zs.length]? = some v := by simpa using hv
    obtain ⟨t, ht⟩ : ∃ t, ts[zs.length]? = some t := ⟨_, List.getElem?_eq_getElem (by rw [← hml]; exact (List.getElem?_eq_some_iff.mp hv').1)⟩
    obtain ⟨xm, dm, t1, t2, t3, e, hxm, hdm⟩ := hms.2 zs.length t ht
    rw [e] at hv'; cases hv'
    have key : ∀ {nl2 : Led} {r2 : Addr} {a b c : Tok}, BsAre ((r2, listOf [Value.int t.1 a, .int t.2.1 b, .int t.2.2 c].toArray 0) :: nl) (zs ++ [Value.ref r2]) (ts.take (zs ++ [Value.ref r2]).length) := fun {_ r2 a b c} => by
      rw [List.length_append, List.length_singleton, List.take_add_one, ht]
      exact (hzs.mono fun p hp => .tail _ hp).append (BsAre.one (.head _) rfl rfl rfl)
    k_steps
    refine Stop.go ?_
    k_dflt (refine' Calls.use (c_names (.tail _ (.tail _ (.tail _ (List.mem_append_right _ hxm)))) (.tail _ (.tail _ (.tail _ (List.mem_append_right _ hdm))))) ?B ?F ?X ?N ?T ?hk ?hd ?hu ?_; (case B => k_asm); (case F => k_asm); (case X => k_asm); (case N => k_asm); (case T => k_asm); (case hk => exact rfl); (case hd => first | exact room1 hd (by decide) | ktr_room); (case hu => first | exact units1 hu (by decide) | ktr_units))
    rintro v2 nx2 h3 tk3 F3 N3 ⟨r2, u1, u2, u3, rfl, rfl, l3⟩
    have hoff3 : LCg.Off3 I C D ((r2, listOf [Value.int t.1 u1, .int t.2.1 u2, .int t.2.2 u3].toArray 0) :: (nl ++ nx)) := ⟨⟨Nat.ne_of_gt (l3 _ (.head _)), Nat.ne_of_gt (l3 _ (.tail _ (.head _))), Nat.ne_of_gt (l3 _ (.tail _ (.tail _ (.head _))))⟩, off⟩
    k_steps
    refine Stop.go ?_
    rename (Fr g' L' _ _) => F4
    rename (News g' L' _ _) => N4
    refine LCg.CompEnd.intro F4 N4 ((r2, listOf [Value.int t.1 u1, .int t.2.1 u2, .int t.2.2 u3].toArray 0) :: (nl ++ nx)) (fun p hp => ?_) hoff3 (.inr ⟨_, .tail _ (List.mem_append_right _ hr), rfl, _, rfl⟩) ⟨(r2, listOf [Value.int t.1 u1, .int t.2.1 u2, .int t.2.2 u3].toArray 0) :: nl, rfl, key (nl2 := []), List.forall_mem_cons.mpr ⟨rfl, hnl⟩⟩
    simp only [List.mem_cons] at hp ⊢
    rcases hp with h | h | h | h | h <;> simp [h]
  case fin =>
    rintro zs n2 hzl ⟨nl, rfl, hzs, hnl⟩
    rw [hzl, List.size_toArray, hml, List.take_length] at hzs
    unfold LCg.FinE
    intro D1 h1 tk1 F2 N2 off2
    try dsimp only
    k_steps
    rename (Fr h₀ L _ m) => kF
    rename (News h₀ L _ _) => kN
    exact hret _ _ _ _ kF kN ⟨D1, zs, _, nl, nx, rfl, rfl, hnx, hzs, hnl⟩
end
theorem kreg19 : True := by
  k_with "subscriptTail Name Slice ref ref" => (refine Stop.of ?_)
  k_with "compareOp Eq ref ref" => (refine Stop.of ?_)
  trivial
section
variable {w : World} {mean : ExcName → Option Value} {mg mb : Str → Option Value}
theorem pick_cut {l : List Value} {lo hi : Option Int} {a b : Nat} (ha : kms_lo lo l.length = a) (hb : kms_hi hi l.length = b) : kms_pick l lo hi = (l.take b).drop a := by
  unfold kms_pick; rw [ha, hb, List.drop_take]
theorem slice_cut {A : Around} {E : Value → Shared → Prop} {s : Shared} {h₀ : Heap} {L : Addr} {m : Str → Option Value} {news : Led} {Q : Value → Shared → Prop} {value slice : PySem.Expr} {l : Addr} {vs : List Value} {n : Nat} {vl vu : Value} {lo hi : Option Int} (a b : Nat)
    (F : Fr h₀ L s.heap m) (N : News h₀ L s.heap news) (hm : (l, ({ cls := .type "list", data := .seq vs.toArray n } : Obj)) ∈ news) (pl : IsPart vl lo) (pu : IsPart vu hi) (ha : kms_lo lo vs.length = a) (hb : kms_hi hi vs.length = b) (hz : vs.length ≤ 10000)
    (h : ∀ D h', Fr h₀ L h' m → News h₀ L h' ((D, listOf ((vs.take b).drop a).toArray 0) :: news) → (∀ p ∈ news, p.1 < D) → Q (.ref D) { s with heap := h' })
    (hs : subscripted slice false (.ref l) (.ref s.heap.objs.size) = operate [.ref s.heap.objs.size, .ref l] (getItem (.ref l) (.ref s.heap.objs.size))) (ht : ∀ r, letTemporaryGo value (.ref l) r = pure ()) :
    wpAny (M0 w) A (subscriptTail value slice (.ref l) (.ref s.heap.objs.size)) Q E { s with heap := s.heap.push { cls := .type "slice", data := .fields #[vl, vu, .none] } } := by
  refine kmk_slice F N (News.isList N hm) pl pu (fun D h' F' N' l1 => h D h' F' ?_ l1) hs ht (by rw [PySem.sizeLine_eq, List.size_toArray]; lia)
  rw [kms_pick_eq] at N'
  rw [← pick_cut ha hb]
  exact N'
theorem ne_same {A : Around} {E : Value → Shared → Prop} {s : Shared} {h₀ : Heap} {L : Addr} {news : Led} {a b : Addr} {x y z x' y' z' : Int} {t1 t2 t3 u1 u2 u3 : Tok} {n k : Nat} {Q : Value → Shared → Prop} (N : News h₀ L s.heap news)
    (ha : (a, listOf [Value.int x t1, .int y t2, .int z t3].toArray n) ∈ news) (hb : (b, listOf [Value.int x' u1, .int y' u2, .int z' u3].toArray k) ∈ news) (hu : A.units + 64 < cLine) (e1 : x = x') (e2 : y = y') (e3 : z = z') (h : Q (.bool false) s) :
    wpAny (M0 w) A (compareOp .NotEq (.ref a) (.ref b)) Q E s := by
  subst e1 e2 e3
  refine ne_three N ha hb hu ?_
  rw [show (!decide (x = x ∧ y = y ∧ z = z)) = false by simp]
  exact h
theorem eq_same {A : Around} {E : Value → Shared → Prop} {s : Shared} {h₀ : Heap} {L : Addr} {news : Led} {a b : Addr} {bs cs : List Value} {ts : List Tri} {n k : Nat} {Q : Value → Shared → Prop} (N : News h₀ L s.heap news) (ha : (a, listOf bs.toArray n) ∈ news) (hb : (b, listOf cs.toArray k) ∈ news) (ht : BsAre news bs ts) (hv : BsAre news cs ts) (hu : A.units + 64 < cLine) (h : Q (.bool true) s) :
    wpAny (M0 w) A (compareOp .Eq (.ref a) (.ref b)) Q E s := eq_tris N ha hb ht hv hu (by rw [decide_eq_true rfl]; exact h)
theorem join_len (d : List Tri) (t : Tri) : (join d t).length ≤ d.length + 1 := by
  rcases List.eq_nil_or_concat d with rfl | ⟨d', v, rfl⟩
  · rw [join_nil]; simp
  · rw [List.concat_eq_append, join_snoc]
    split <;> simp
theorem fold_len : ∀ (out d : List Tri), (out.foldl join d).length ≤ d.length + out.length
  | [], d => by simp
  | t :: r, d => by
    have := fold_len r (join d t)
    have := join_len d t
    simp only [List.foldl_cons, List.length_cons]
    lia
theorem due_len (out : List Tri) : (due out).length ≤ out.length := by
  have := fold_len out []
  rw [List.length_nil, Nat.zero_add] at this
  exact this
theorem Calls.mono {f : Addr} {vs : List Value} {need need' : Nat} {news : Led} {Ret Ret' : Value → Led → Prop} (C : Calls w mean mg mb f vs need news Ret) (hn : need ≤ need') (hr : ∀ v nx, Ret v nx → Ret' v nx) : Calls w mean mg mb f vs need' news Ret' := by
  intro dp un gd cn csc aa ccd cl outer A₀ base h₀ L m s Q E B F X N T hk hd hu hret
  exact C _ _ _ _ _ _ _ _ _ _ _ _ _ _ _ _ _ B F X N T hk (by lia) (by lia) fun v nx h' tk F' N' r => hret v nx h' tk F' N' (hr v nx r)
theorem win_eq {jk : Option Int} {xs ys : List Int} {lo hi lo' hi' i j s i0 j0 s0 : Nat} (h1 : hi ≤ xs.length) (h2 : hi' ≤ ys.length) (h : LongW jk xs ys lo hi lo' hi' i j s) (h0 : Long jk (cut xs lo hi) (cut ys lo' hi') i0 j0 s0) : i = lo + i0 ∧ j = lo' + j0 ∧ s = s0 := by
  obtain ⟨l, a, b, _, _⟩ := h.long h1 h2
  obtain ⟨c, d, e⟩ := l.unique h0
  lia
theorem win_all {jk : Option Int} {xs ys : List Int} {i j s i0 j0 s0 : Nat} (h : LongW jk xs ys 0 xs.length 0 ys.length i j s) (h0 : Long jk xs ys i0 j0 s0) : i = i0 ∧ j = j0 ∧ s = s0 := by
  have := win_eq (Nat.le_refl _) (Nat.le_refl _) h (i0 := i0) (j0 := j0) (s0 := s0) (by rw [cut_all, cut_all]; exact h0)
  lia
theorem cut_ints {vs : List Value} {xs : List Int} (h : IntsAre vs xs) (a b : Nat) : IntsAre ((vs.take b).drop a) (cut xs a b) := (h.take b).drop a
inductive RLike (rest : Led) (D : Addr) (k : Nat) (f : Str → Option Value) (v : Value) (news' : Led) : Prop
  | mk (h1 : v = .bool true) (es' : List DictEntry) (n' : Nat) (r : Addr) (h2 : news' = (D, dictOf es' n') :: rest) (h3 : Flds (k + 1) es' (fun y => if y = "matching_blocks" then some (.ref r) else f y)) : RLike rest D k f v news'
inductive NLike (rest nlD : Led) (D rD : Addr) (bsD : List Value) (k : Nat) (f : Str → Option Value) (ts : List Tri) (ex : List Addr) (nx : Led) : Prop
  | mk (r : Addr) (ms : List Value) (c' : Nat) (es' : List DictEntry) (n' : Nat) (nw : Led) (h1 : nx = nw ++ (D, dictOf es' n') :: (rD, listOf bsD.toArray 0) :: (nlD ++ rest)) (h2 : (r, listOf ms.toArray c') ∈ nw) (h3 : MsAre nw ms ts) (h4 : NoIt ex nx) (h5 : Flds (k + 1) es' (fun y => if y = "matching_blocks" then some (.ref r) else f y)) : NLike rest nlD D rD bsD k f ts ex nx
theorem c_like {rest nl : Led} {M D p q Bx Jx Px : Addr} {es : List DictEntry} {n k c d : Nat} {f : Str → Option Value} {jk : Option Int} {us vs : List Value} {xs ys : List Int} {tj : Tok}
    (hM0 : (M, instObj 242 D) ∈ rest) (hD : ∀ q ∈ rest, q.1 ≠ D) (fl : Flds k es f) (hk400 : k ≤ 400) (hnl : ∀ p ∈ nl, p ∈ (D, dictOf es n) :: rest) (hmb : f "matching_blocks" = some .none) (hfm : f "find_longest_match" = none) (hfg : f "get_matching_blocks" = none)
    (ha : f "a" = some (.ref p)) (hb : f "b" = some (.ref q)) (hb2 : f "b2j" = some (.ref Bx)) (hbj : f "bjunk" = some (.ref Jx)) (hp : (p, listOf us.toArray c) ∈ rest) (hq : (q, listOf vs.toArray d) ∈ rest) (hx0 : IntsAre us xs) (hy : IntsAre vs ys) (hx5 : 5 ≤ xs.length) (hy5 : 5 ≤ ys.length) (hl1 : xs.length ≤ 60) (hl2 : ys.length ≤ 60)
    (hS : SMB w jk ys nl Bx Jx Px) {ex : List Addr} (hno : NoIt ex ((D, dictOf es n) :: rest)) :
    Calls w mean mg mb 294 [.ref M, .ref p, .ref q, jv jk tj] 130 ((D, dictOf es n) :: rest) (RLike rest D k f) := by
  w_on
  unfold Calls
  k_fill
  intro dp un gd cn csc aa ccd cl outer A₀ base h₀ L m s Q E B F X N T hk hd hu hret
  refine wpAny_call ?_
  k_dflt (refine' code_def (scope := Scope.mk _ _ _ _ _) (params := Arguments.mk _ _ _ _ _ _ _) (body := _ :: _) (binds := [(Str.ofString "matcher", Value.ref M), (Str.ofString "one", Value.ref p), (Str.ofString "two", Value.ref q), (Str.ofString "junk", jv jk tj)]) ?k1 ?k2 ?k3 ?k4 ?k5 ?kA ?kF ?kK ?k6 ?k7 ?k8 ?k9 ?kB ?_ ?c2 ?c3 ?c4 ?c5; (case kA => exact rfl); (case kF => exact rfl); (case kK => assumption); (case k1 => k_asm); (case k2 => k_asm); (case k3 => k_asm); (case k4 => k_asm); (case k5 => k_asm); (case k6 => exact rfl); (case k7 => k_is); (case k8 => first | exact room0 hd | ktr_room); (case k9 => first | exact BindsTo.of_eq rfl | exact binds_K (by k_in) rfl (by k_is) rfl rfl rfl); (case c5 => decide); (case kB => exact locs rfl); (case c2 => exact rfl); (case c3 => exact rfl); (case c4 => exact rfl); k_whole; intro g' L' h' FG' F' N' B' X' T'; (try dsimp only); (try k_fold); refine fold_A ?_; intro AA; have hAu : AA.units = un + 3 := rfl; have hAd : AA.depth = dp + 1 := rfl; refine fold_env ?_; intro ee)
  have hul := hx0.length
  have hvl := hy.length
  have hM1 : (M, instObj 242 D) ∈ (D, dictOf es n) :: rest := .tail _ hM0
  have hD1 : (D, dictOf es n) ∈ (D, dictOf es n) :: rest := .head _
  have hp1 : (p, listOf us.toArray c) ∈ (D, dictOf es n) :: rest := .tail _ hp
  have hq1 : (q, listOf vs.toArray d) ∈ (D, dictOf es n) :: rest := .tail _ hq
  k_steps
  refine Stop.go ?_
  rename (Fr g' L' _ _) => F0
  simp only [List.size_toArray, hul] at F0
  k_dflt (refine' Calls.use (c_flm (v1 := .none) (v2 := .none) (alo := 0) (blo := 0) (.inr (.inr ⟨rfl, rfl, rfl, rfl, rfl, rfl, rfl⟩)) hM1 hD1 fl hnl ha hb hb2 hbj hp1 hq1 hx0 hy (by lia) (by lia) hS (Nat.zero_le _) (Nat.le_refl _) (Nat.zero_le _) (Nat.le_refl _) (.inr ⟨rfl, rfl⟩) (.inr ⟨rfl, rfl⟩) hno) ?B ?F ?X ?N ?T ?hk ?hd ?hu ?_; (case B => k_asm); (case F => k_asm); (case X => k_asm); (case N => k_asm); (case T => k_asm); (case hk => exact rfl); (case hd => first | exact room1 hd (by decide) | ktr_room); (case hu => first | exact units1 hu (by decide) | ktr_units))
  rintro v nx h1 tk1 F1 N1 ⟨y1, d1, bi1, bj1, bs1, v11, v12, v13, rfl, rfl, l1, l2, hW1⟩
  k_steps
  refine Stop.go ?_
  k_dflt (refine' Calls.use (c_names (.head _) (.tail _ (.head _))) ?B ?F ?X ?N ?T ?hk ?hd ?hu ?_; (case B => k_asm); (case F => k_asm); (case X => k_asm); (case N => k_asm); (case T => k_asm); (case hk => exact rfl); (case hd => first | exact room1 hd (by decide) | ktr_room); (case hu => first | exact units1 hu (by decide) | ktr_units))
  rintro v nx h2 tk2 F2 N2 ⟨r2, u21, u22, u23, rfl, rfl, l3⟩
  k_steps
  refine Stop.go ?_
  k_dflt (refine' Calls.use (c_longest (.tail _ (.tail _ (.tail _ hp1))) (.tail _ (.tail _ (.tail _ hq1))) hx0 hy (by lia) (by lia) ?hno) ?B ?F ?X ?N ?T ?hk ?hd ?hu ?_; (case B => k_asm); (case F => k_asm); (case X => k_asm); (case N => k_asm); (case T => k_asm); (case hk => exact rfl); (case hd => first | exact room1 hd (by decide) | ktr_room); (case hu => first | exact units1 hu (by decide) | ktr_units); (case hno => exact NoIt.cons rfl (NoIt.cons rfl (NoIt.cons rfl hno))))
  rintro v nx h3 tk3 F3 N3 ⟨r3, i1, j1, s1, w1, w2, w3, rfl, rfl, l4, hL1⟩
  obtain ⟨rfl, rfl, rfl⟩ := win_all hW1 hL1
  k_steps
  refine Stop.go ?_
  rename (News g' L' _ _) => N4
  refine ne_same N4 (.tail _ (.head _)) (.head _) ?hu1 rfl rfl rfl ?_
  case hu1 => first | exact units2 hu (by decide) | ktr_units
  replace N4 := News.sub (b := (D, dictOf es n) :: rest) N4 (fun q hq => .tail _ (.tail _ (.tail _ (.tail _ hq))))
  clear N1 N2 F1 F2 l1 l2 l3 l4 hW1 hL1
  k_steps
  refine Stop.go ?_
  k_dflt (refine' slice_cut 1 (xs.length - 2) ?F ?N ?m ?pl ?pu ?ha ?hb ?z ?_ ?s ?t; (case F => k_asm); (case N => k_asm); (case m => k_mem); (case pl => exact .int _ _); (case pu => exact .int _ _); (case z => lia); (case s => with_unfolding_all rfl); (case t => kmk_pure); (case ha => simp only [kms_lo, kms_hi]; first | lia | (split <;> lia)); (case hb => simp only [kms_lo, kms_hi]; first | lia | (split <;> lia))); intro D50 h50 F50 N50 l50; (try k_lt l50)
  k_steps
  refine Stop.go ?_
  k_dflt (refine' slice_cut 2 ys.length ?F ?N ?m ?pl ?pu ?ha ?hb ?z ?_ ?s ?t; (case F => k_asm); (case N => k_asm); (case m => k_mem); (case pl => exact .int _ _); (case pu => exact .none); (case z => lia); (case s => with_unfolding_all rfl); (case t => kmk_pure); (case ha => simp only [kms_lo, kms_hi]; first | lia | (split <;> lia)); (case hb => simp only [kms_lo, kms_hi]; first | lia | (split <;> lia))); intro D51 h51 F51 N51 l51; (try k_lt l51)
  k_steps
  refine Stop.go ?_
  have hc1 : IntsAre ((us.take (xs.length - 2)).drop 1) (cut xs 1 (xs.length - 2)) := cut_ints hx0 _ _
  have hc2 : IntsAre ((vs.take ys.length).drop 2) (cut ys 2 ys.length) := cut_ints hy _ _
  k_dflt (refine' Calls.use (c_longest (.tail _ (.head _)) (.head _) hc1 hc2 ?le1 ?le2 ?hno) ?B ?F ?X ?N ?T ?hk ?hd ?hu ?_; (case B => k_asm); (case F => k_asm); (case X => k_asm); (case N => k_asm); (case T => k_asm); (case hk => exact rfl); (case hd => first | exact room1 hd (by decide) | ktr_room); (case hu => first | exact units1 hu (by decide) | ktr_units); (case le1 => rw [cut_len (by lia)]; lia); (case le2 => rw [cut_len (by lia)]; lia); (case hno => exact NoIt.cons rfl (NoIt.cons rfl hno)))
  rintro v nx h6 tk6 F6 N6 ⟨r6, i6, j6, s6, w61, w62, w63, rfl, rfl, l6, hL6⟩
  k_steps
  refine Stop.go ?_
  rename (Fr g' L' _ _) => F6
  rename (News g' L' _ _) => N6
  replace N6 := News.sub (b := (r6, listOf [.int i6 w61, .int j6 w62, .int s6 w63].toArray 0) :: (D, dictOf es n) :: rest) N6 (fun q hq => by
    simp only [List.mem_cons] at hq ⊢
    rcases hq with h | h | h <;> simp [h])
  k_dflt (refine' Calls.use (c_flm (alo := 1) (blo := 2) (ahi := xs.length - 2) (bhi := ys.length) (v2 := .none) (.inr (.inl ⟨rfl, rfl⟩)) (.tail _ hM1) (.tail _ hD1) fl (fun p hp => .tail _ (hnl p hp)) ha hb hb2 hbj (.tail _ hp1) (.tail _ hq1) hx0 hy (by lia) (by lia) hS (by lia) (by lia) (by lia) (Nat.le_refl _) ?hv1 (.inr ⟨rfl, rfl⟩) ?hno) ?B ?F ?X ?N ?T ?hk ?hd ?hu ?_; (case B => k_asm); (case F => k_asm); (case X => k_asm); (case N => k_asm); (case T => k_asm); (case hk => exact rfl); (case hd => first | exact room1 hd (by decide) | ktr_room); (case hu => first | exact units1 hu (by decide) | ktr_units); (case hv1 => exact .inl ⟨_, congrArg (fun z => Value.int z _) (by lia)⟩); (case hno => exact NoIt.cons rfl hno))
  rintro v nx h7 tk7 F7 N7 ⟨y7, d7, bi7, bj7, bs7, v71, v72, v73, rfl, rfl, l71, l72, hW7⟩
  obtain ⟨e71, e72, e73⟩ := win_eq (by lia) (Nat.le_refl _) hW7 hL6
  k_steps
  refine Stop.go ?_
  k_dflt (refine' Calls.use (c_names (.head _) (.tail _ (.head _))) ?B ?F ?X ?N ?T ?hk ?hd ?hu ?_; (case B => k_asm); (case F => k_asm); (case X => k_asm); (case N => k_asm); (case T => k_asm); (case hk => exact rfl); (case hd => first | exact room1 hd (by decide) | ktr_room); (case hu => first | exact units1 hu (by decide) | ktr_units))
  rintro v nx h8 tk8 F8 N8 ⟨r8, u81, u82, u83, rfl, rfl, l8⟩
  k_steps
  refine Stop.go ?_
  rename (News g' L' _ _) => N9
  refine ne_same N9 (.tail _ (.head _)) (.head _) ?hu2 (by lia) (by lia) (by lia) ?_
  case hu2 => first | exact units2 hu (by decide) | ktr_units
  replace N9 := News.sub (b := (D, dictOf es n) :: rest) N9 (fun q hq => .tail _ (.tail _ (.tail _ (.tail _ (.tail _ hq)))))
  clear l8 l71 l72 l6 hc1 hc2 hL6 hW7
  k_steps
  refine Stop.go ?_
  k_dflt (refine' slice_cut (xs.length - 1) xs.length ?F ?N ?m ?pl ?pu ?ha ?hb ?z ?_ ?s ?t; (case F => k_asm); (case N => k_asm); (case m => k_mem); (case pl => exact .int _ _); (case pu => exact .none); (case z => lia); (case s => with_unfolding_all rfl); (case t => kmk_pure); (case ha => simp only [kms_lo, kms_hi]; first | lia | (split <;> lia)); (case hb => simp only [kms_lo, kms_hi]; first | lia | (split <;> lia))); intro D52 h52 F52 N52 l52; (try k_lt l52)
  k_steps
  refine Stop.go ?_
  k_dflt (refine' slice_cut 2 (ys.length - 1) ?F ?N ?m ?pl ?pu ?ha ?hb ?z ?_ ?s ?t; (case F => k_asm); (case N => k_asm); (case m => k_mem); (case pl => exact .int _ _); (case pu => exact .int _ _); (case z => lia); (case s => with_unfolding_all rfl); (case t => kmk_pure); (case ha => simp only [kms_lo, kms_hi]; first | lia | (split <;> lia)); (case hb => simp only [kms_lo, kms_hi]; first | lia | (split <;> lia))); intro D53 h53 F53 N53 l53; (try k_lt l53)
  k_steps
  refine Stop.go ?_
  have hc3 : IntsAre ((us.take xs.length).drop (xs.length - 1)) (cut xs (xs.length - 1) xs.length) := cut_ints hx0 _ _
  have hc4 : IntsAre ((vs.take (ys.length - 1)).drop 2) (cut ys 2 (ys.length - 1)) := cut_ints hy _ _
  k_dflt (refine' Calls.use (c_longest (.tail _ (.head _)) (.head _) hc3 hc4 ?le1 ?le2 ?hno) ?B ?F ?X ?N ?T ?hk ?hd ?hu ?_; (case B => k_asm); (case F => k_asm); (case X => k_asm); (case N => k_asm); (case T => k_asm); (case hk => exact rfl); (case hd => first | exact room1 hd (by decide) | ktr_room); (case hu => first | exact units1 hu (by decide) | ktr_units); (case le1 => rw [cut_len (by lia)]; lia); (case le2 => rw [cut_len (by lia)]; lia); (case hno => exact NoIt.cons rfl (NoIt.cons rfl hno)))
  rintro v nx h10 tk10 F10 N10 ⟨r10, i10, j10, s10, w101, w102, w103, rfl, rfl, l10, hL10⟩
  k_steps
  refine Stop.go ?_
  rename (Fr g' L' _ _) => F10
  rename (News g' L' _ _) => N10
  replace N10 := News.sub (b := (r10, listOf [.int i10 w101, .int j10 w102, .int s10 w103].toArray 0) :: (D, dictOf es n) :: rest) N10 (fun q hq => by
    simp only [List.mem_cons] at hq ⊢
    rcases hq with h | h | h <;> simp [h])
  rw [show ((xs.length : Int) - 1) = ((xs.length - 1 : Nat) : Int) by lia]
  k_dflt (refine' Calls.use (c_flm (alo := xs.length - 1) (blo := 2) (ahi := xs.length) (bhi := ys.length - 1) (.inl rfl) (.tail _ hM1) (.tail _ hD1) fl (fun p hp => .tail _ (hnl p hp)) ha hb hb2 hbj (.tail _ hp1) (.tail _ hq1) hx0 hy (by lia) (by lia) hS (by lia) (by lia) (by lia) (by lia) (.inl ⟨_, rfl⟩) ?hv2 ?hno) ?B ?F ?X ?N ?T ?hk ?hd ?hu ?_; (case B => k_asm); (case F => k_asm); (case X => k_asm); (case N => k_asm); (case T => k_asm); (case hk => exact rfl); (case hd => first | exact room1 hd (by decide) | ktr_room); (case hu => first | exact units1 hu (by decide) | ktr_units); (case hv2 => exact .inl ⟨_, congrArg (fun z => Value.int z _) (by rw [List.size_toArray]; lia)⟩); (case hno => exact NoIt.cons rfl hno))
  rintro v nx h11 tk11 F11 N11 ⟨y11, d11, bi11, bj11, bs11, v111, v112, v113, rfl, rfl, l111, l112, hW11⟩
  obtain ⟨e111, e112, e113⟩ := win_eq (Nat.le_refl _) (by lia) hW11 hL10
  k_steps
  refine Stop.go ?_
  k_dflt (refine' Calls.use (c_names (.head _) (.tail _ (.head _))) ?B ?F ?X ?N ?T ?hk ?hd ?hu ?_; (case B => k_asm); (case F => k_asm); (case X => k_asm); (case N => k_asm); (case T => k_asm); (case hk => exact rfl); (case hd => first | exact room1 hd (by decide) | ktr_room); (case hu => first | exact units1 hu (by decide) | ktr_units))
  rintro v nx h12 tk12 F12 N12 ⟨r12, u121, u122, u123, rfl, rfl, l12⟩
  k_steps
  refine Stop.go ?_
  rename (News g' L' _ _) => N13
  refine ne_same N13 (.tail _ (.head _)) (.head _) ?hu3 (by lia) (by lia) (by lia) ?_
  case hu3 => first | exact units2 hu (by decide) | ktr_units
  replace N13 := News.sub (b := (D, dictOf es n) :: rest) N13 (fun q hq => .tail _ (.tail _ (.tail _ (.tail _ (.tail _ hq)))))
  clear l10 l111 l112 l12 hc3 hc4 hL10 hW11
  k_steps
  refine Stop.go ?_
  k_dflt (refine' Calls.use (c_due hp1 hq1 hx0 hy (by lia) (by lia) hno) ?B ?F ?X ?N ?T ?hk ?hd ?hu ?_; (case B => k_asm); (case F => k_asm); (case X => k_asm); (case N => k_asm); (case T => k_asm); (case hk => exact rfl); (case hd => first | exact room1 hd (by decide) | ktr_room); (case hu => first | exact units1 hu (by decide) | ktr_units))
  rintro v nx h14 tk14 F14 N14 ⟨rD, bsD, outD, nlD, rfl, rfl, grD, hrbD, hbsD⟩
  k_steps
  refine Stop.go ?_
  rename (Fr g' L' _ _) => F15
  rename (News g' L' _ _) => N15
  replace N15 := News.sub (b := (D, dictOf es n) :: (rD, listOf bsD.toArray 0) :: (nlD ++ rest)) N15 (fun q hq => by
    simp only [List.mem_cons, List.mem_append] at hq ⊢
    rcases hq with h | h | h | h <;> simp [h])
  have hsub : ∀ q ∈ rest, q ∈ (rD, listOf bsD.toArray 0) :: (nlD ++ rest) := fun q hq => .tail _ (List.mem_append_right _ hq)
  have hD2 : ∀ q ∈ (rD, listOf bsD.toArray 0) :: (nlD ++ rest), q.1 ≠ D := fun q hq => by
    rcases List.mem_cons.mp hq with rfl | hq
    · exact Nat.ne_of_gt (grD.2 _ (.head _) _ (.head _))
    · rcases List.mem_append.mp hq with hq | hq
      · exact Nat.ne_of_gt (grD.2 _ (.head _) _ (.tail _ hq))
      · exact hD q hq
  have hno2 : NoIt ex ((D, dictOf es n) :: (rD, listOf bsD.toArray 0) :: (nlD ++ rest)) := by
    refine ⟨fun q hq => ?_, fun a ha => (hno.2 a ha).imp fun o ho => ?_⟩
    · rcases List.mem_cons.mp hq with rfl | hq
      · exact hno.1 _ (.head _)
      · rcases List.mem_cons.mp hq with rfl | hq
        · exact .inl rfl
        · rcases List.mem_append.mp hq with hq | hq
          · exact .inl (grD.1 _ (.tail _ hq))
          · exact hno.1 _ (.tail _ hq)
    · rcases List.mem_cons.mp ho with h | h
      · rw [h]; exact .head _
      · exact .tail _ (hsub _ h)
  generalize hts : due outD ++ [(xs.length, ys.length, 0)] = ts at hbsD
  have hG : GmbC w mean mg mb M ((D, dictOf es n) :: (rD, listOf bsD.toArray 0) :: (nlD ++ rest)) ts (NLike rest nlD D rD bsD k f ts ex) :=
    (c_gmb (rest := (rD, listOf bsD.toArray 0) :: (nlD ++ rest)) (hsub _ hM0) hD2 fl hk400 (fun q hq => (List.mem_cons.mp (hnl q hq)).elim (fun h => h ▸ .head _) (fun h => .tail _ (hsub _ h))) hmb hfm ha hb hb2 hbj (hsub _ hp) (hsub _ hq) hx0 hy hl1 hl2 hS hno2).mono (Nat.le_refl _) (by
      rintro v nx ⟨r, ms, out, c', es', n', nw, rfl, rfl, ho, hn, hr, hrb, hms, fl'⟩
      obtain rfl := hrb.unique hrbD
      subst hts
      exact ⟨r, ms, c', rfl, List.mem_append_left _ hr, hms.mono (fun p hp => List.mem_append_left _ hp), ⟨ex, NoIt.append hn (noIt_dict hno2)⟩, r, ms, c', es', n', nw, rfl, hr, hms, NoIt.append hn (noIt_dict hno2), fl'⟩)
  have htl : ts.length ≤ 100 := by
    have h1 := due_len outD
    have h2 := hrbD.facts.2.2
    rw [← hts, List.length_append, List.length_singleton]
    lia
  k_dflt (refine' Calls.use (c_told (.tail _ (hsub _ hM0)) (.head _) fl hfg htl hG) ?B ?F ?X ?N ?T ?hk ?hd ?hu ?_; (case B => k_asm); (case F => k_asm); (case X => k_asm); (case N => k_asm); (case T => k_asm); (case hk => exact rfl); (case hd => first | exact room1 hd (by decide) | ktr_room); (case hu => first | exact units1 hu (by decide) | ktr_units))
  rintro v nx h16 tk16 F16 N16 ⟨r16, bs16, c16, nl16, nx16, rfl, rfl, ⟨rM, msM, cM, es2, n2, nwM, rfl, hrM, hmsM, hno3, fl2⟩, hbs16, hnn16⟩
  k_steps
  refine Stop.go ?_
  rename (News g' L' _ _) => N17
  refine eq_same N17 (.head _) (.tail _ (List.mem_append_right _ (List.mem_append_right _ (.tail _ (.head _))))) (hbs16.mono fun q hq => .tail _ (List.mem_append_left _ hq)) (hbsD.mono fun q hq => .tail _ (List.mem_append_right _ (List.mem_append_right _ (.tail _ (.tail _ (List.mem_append_left _ hq)))))) ?hu4 ?_
  case hu4 => first | exact units2 hu (by decide) | ktr_units
  replace N17 := News.sub (b := nwM ++ (D, dictOf es2 n2) :: (rD, listOf bsD.toArray 0) :: (nlD ++ rest)) N17 (fun q hq => .tail _ (List.mem_append_right _ hq))
  k_steps
  refine Stop.go ?_
  have hsub2 : ∀ q ∈ rest, q ∈ nwM ++ (D, dictOf es2 n2) :: (rD, listOf bsD.toArray 0) :: (nlD ++ rest) := fun q hq => List.mem_append_right _ (.tail _ (hsub q hq))
  have hG2 : GmbC w mean mg mb M (nwM ++ (D, dictOf es2 n2) :: (rD, listOf bsD.toArray 0) :: (nlD ++ rest)) ts (fun nx => nx = nwM ++ (D, dictOf es2 n2) :: (rD, listOf bsD.toArray 0) :: (nlD ++ rest)) :=
    (c_gmb_old (hsub2 _ hM0) (List.mem_append_right _ (.head _)) fl2 (if_pos rfl)).mono (by decide) (by
      rintro v nx ⟨rfl, rfl⟩
      exact ⟨rM, msM, cM, rfl, List.mem_append_left _ hrM, hmsM.mono (fun q hq => List.mem_append_left _ hq), ⟨ex, hno3⟩, rfl⟩)
  k_dflt (refine' Calls.use (c_told (hsub2 _ hM0) (List.mem_append_right _ (.head _)) fl2 ((if_neg (by decide)).trans hfg) htl hG2) ?B ?F ?X ?N ?T ?hk ?hd ?hu ?_; (case B => k_asm); (case F => k_asm); (case X => k_asm); (case N => k_asm); (case T => k_asm); (case hk => exact rfl); (case hd => first | exact room1 hd (by decide) | ktr_room); (case hu => first | exact units1 hu (by decide) | ktr_units))
  rintro v nx h18 tk18 F18 N18 ⟨r18, bs18, c18, nl18, nx18, rfl, rfl, rfl, hbs18, hnn18⟩
  k_steps
  refine Stop.go ?_
  rename (News g' L' _ _) => N19
  refine eq_same N19 (.head _) (.tail _ (List.mem_append_right _ (List.mem_append_right _ (.tail _ (.head _))))) (hbs18.mono fun q hq => .tail _ (List.mem_append_left _ hq)) (hbsD.mono fun q hq => .tail _ (List.mem_append_right _ (List.mem_append_right _ (.tail _ (.tail _ (List.mem_append_left _ hq)))))) ?hu5 ?_
  case hu5 => first | exact units2 hu (by decide) | ktr_units
  replace N19 := News.sub (b := (D, dictOf es2 n2) :: rest) N19 (fun q hq => .tail _ (List.mem_append_right _ (List.mem_append_right _ ((List.mem_cons.mp hq).elim (fun h => h ▸ .head _) (fun h => .tail _ (hsub q h))))))
  k_steps
  rename (Fr h₀ L _ m) => kF
  rename (News h₀ L _ _) => kN
  exact hret _ _ _ _ kF kN ⟨rfl, es2, n2, rM, rfl, fl2⟩
end
section
variable {w : World} {mean : ExcName → Option Value} {mg mb : Str → Option Value}
theorem fill17 (w : World) : OpenLaw.prog PySem.Challenge.rw_pg0326_01 = OpenLaw.prog PySem.Challenge.rw_pg0326_01 ∧ KF w.params = KF w.params := by
  w_on
  k_fill
  exact ⟨rfl, rfl⟩
/-- the matcher's fields -/
structure MF (f : Str → Option Value) (p q Bx Jx : Addr) (jkv : Value) : Prop where
  mb : f "matching_blocks" = some .none
  fm : f "find_longest_match" = none
  fg : f "get_matching_blocks" = none
  a : f "a" = some (.ref p)
  b : f "b" = some (.ref q)
  b2 : f "b2j" = some (.ref Bx)
  bj : f "bjunk" = some (.ref Jx)
  ij : f "isjunk" = some jkv
  au : f "autojunk" = some (.bool true)
  ch : f "_SequenceMatcher__chain_b" = none
  s1 : f "set_seq1" = none
  s2 : f "set_seq2" = none
theorem mf_make {p q Bx Jx Px : Addr} {jkv : Value} : MF (fun y => if y = "bpopular" then some (.ref Px) else if y = "bjunk" then some (.ref Jx) else if y = "b2j" then some (.ref Bx) else if y = "fullbcount" then some .none else if y = "opcodes" then some .none else if y = "matching_blocks" then some .none else if y = "b" then some (.ref p) else if y = "opcodes" then some .none else if y = "matching_blocks" then some .none else if y = "a" then some (.ref q) else if y = "autojunk" then some (.bool true) else if y = "b" then some .none else if y = "a" then some .none else if y = "isjunk" then some jkv else none) q p Bx Jx jkv := by
  constructor <;> ((try dsimp only); (repeat (rw [if_neg (by decide)])); (try first | rfl | (rw [if_pos rfl])))
theorem mf_set2 {f : Str → Option Value} {p q q' Bx Jx Bx' Jx' Px r : Addr} {jkv : Value} (h : MF f p q Bx Jx jkv) : MF (fun y => if y = "bpopular" then some (.ref Px) else if y = "bjunk" then some (.ref Jx') else if y = "b2j" then some (.ref Bx') else if y = "fullbcount" then some .none else if y = "opcodes" then some .none else if y = "matching_blocks" then some .none else if y = "b" then some (.ref q') else if y = "matching_blocks" then some (.ref r) else f y) p q' Bx' Jx' jkv := by
  obtain ⟨m1, m2, m3, m4, m5, m6, m7, m8, m9, m10, m11, m12⟩ := h
  constructor <;> ((try dsimp only); (repeat (rw [if_neg (by decide)])); (try first | assumption | (rw [if_pos rfl])))
theorem mf_set1 {f : Str → Option Value} {p p' q Bx Jx r : Addr} {jkv : Value} (h : MF f p q Bx Jx jkv) : MF (fun y => if y = "opcodes" then some .none else if y = "matching_blocks" then some .none else if y = "a" then some (.ref p') else if y = "matching_blocks" then some (.ref r) else f y) p' q Bx Jx jkv := by
  obtain ⟨m1, m2, m3, m4, m5, m6, m7, m8, m9, m10, m11, m12⟩ := h
  constructor <;> ((try dsimp only); (repeat (rw [if_neg (by decide)])); (try first | assumption | (rw [if_pos rfl])))
theorem c_lam {news : Led} {fn c' : Addr} {oc : Obj} {vs' : Array Value} {t' t : Tok} {qual : Str} {pm ctv : Value} {x : Int}
    (hf : (fn, kla_obj (Str.ofString "<lambda>") qual { posonlyargs := [], args := [{ arg := Str.ofString "sign", annotation := none, pos := { line := 515, col := 44, endLine := 515, endCol := 48 } }], vararg := none, kwonlyargs := [], kw_defaults := [], kwarg := none, defaults := [] }
      ((Expr.Name (Str.ofString "sign") { line := 515, col := 50, endLine := 515, endCol := 54 }).Compare [CmpOp.Eq] [Expr.Constant (Const.int 0) 0 { line := 515, col := 58, endLine := 515, endCol := 59 }] { line := 515, col := 50, endLine := 515, endCol := 59 })
      { kind := ScopeKind.function, names := [(Str.ofString "sign", NameKind.local)], isGenerator := false, isCoroutine := false } [] pm c' ctv) ∈ news) (hoc : (c', oc) ∈ news) (d1 : oc.data = .fields vs') (d2 : vs'[1]? = some (.str qual t')) :
    Calls w mean mg mb fn [.int x t] 6 news (fun v news' => v = .bool (decide (x = 0)) ∧ news' = news) := by
  w_on
  unfold Calls
  k_fill
  intro dp un gd cn csc aa ccd cl outer A₀ base h₀ L m s Q E B F X N T hk hd hu hret
  refine wpAny_call ?_
  k_dflt (refine' kla_code ?k1 ?k2 ?k3 ?k4 ?k5 ?kA ?kF ?kK ?k6 ?k7 ?k8 ?k9 ?kB ?_ ?c2 ?c3 ?c4 ?c5; (case kA => exact rfl); (case kF => exact rfl); (case kK => assumption); (case k1 => k_asm); (case k2 => k_asm); (case k3 => k_asm); (case k4 => k_asm); (case k5 => k_asm); (case k6 => assumption); (case k7 => exact codeRec_news (by k_asm) (by assumption) (by assumption) (by assumption)); (case k8 => ktr_room); (case k9 => exact rfl); (case c5 => decide); (case kB => exact locs rfl); (case c2 => exact rfl); (case c3 => exact rfl); (case c4 => exact rfl); k_whole; intro g' L' h' FG' F' N' B' X' T'; (try dsimp only); (try k_lift B'); (try k_fold))
  k_steps
  rename (Fr h₀ L _ m) => kF
  rename (News h₀ L _ _) => kN
  exact hret _ _ _ _ kF kN ⟨rfl, rfl⟩
inductive RTold0 (rest : Led) (ys : List Int) (v : Value) (nx : Led) : Prop
  | mk (r : Addr) (bs : List Value) (c : Nat) (nl : Led) (h1 : v = .ref r) (h2 : nx = (r, listOf bs.toArray c) :: (nl ++ rest)) (h3 : BsAre nl bs [(0, ys.length, 0)]) : RTold0 rest ys v nx
theorem c_told0 {rest nl : Led} {M D p q Bx Jx Px : Addr} {es : List DictEntry} {n k c d : Nat} {f : Str → Option Value} {vs : List Value} {ys : List Int}
    (hM0 : (M, instObj 242 D) ∈ rest) (hD : ∀ q ∈ rest, q.1 ≠ D) (fl : Flds k es f) (hk400 : k ≤ 400) (hnl : ∀ p ∈ nl, p ∈ (D, dictOf es n) :: rest) (mf : MF f p q Bx Jx .none) (hp : (p, listOf #[] c) ∈ rest) (hq : (q, listOf vs.toArray d) ∈ rest) (hy : IntsAre vs ys) (hl2 : ys.length ≤ 60)
    (hS : SMB w none ys nl Bx Jx Px) {ex : List Addr} (hno : NoIt ex ((D, dictOf es n) :: rest)) :
    Calls w mean mg mb 287 [.ref M] 60 ((D, dictOf es n) :: rest) (RTold0 rest ys) := by
  have hG : GmbC w mean mg mb M ((D, dictOf es n) :: rest) [(0, ys.length, 0)] (fun nx => ∃ pre, nx = pre ++ rest) :=
    (c_gmb (us := []) (xs := []) hM0 hD fl hk400 hnl mf.mb mf.fm mf.a mf.b mf.b2 mf.bj hp hq .nil hy (Nat.zero_le _) hl2 hS hno).mono (Nat.le_refl _) (by
      rintro v nx ⟨r, ms, out, c', es', n', nw, rfl, rfl, ho, hn, hr, hrb, hms, fl'⟩
      have h0 : out = [] := List.eq_nil_of_length_eq_zero (Nat.le_zero.mp hrb.facts.2.2)
      subst h0
      exact ⟨r, ms, c', rfl, List.mem_append_left _ hr, hms.mono (fun p hp => List.mem_append_left _ hp), ⟨ex, NoIt.append hn (noIt_dict hno)⟩, nw ++ [(D, dictOf es' n')], by simp⟩)
  refine (c_told (.tail _ hM0) (.head _) fl mf.fg (by simp) hG).mono (Nat.le_refl _) ?_
  rintro v nx ⟨r, bs, c, nl, nx', rfl, rfl, ⟨pre, rfl⟩, hbs, hn⟩
  exact ⟨r, bs, c, nl ++ pre, rfl, by simp, hbs.mono fun p hp => List.mem_append_left _ hp⟩
theorem lawT : PySem.Challenge.rw_pg0326_01.Holds := by
  w_on
  refine holds_law ws_ok fun said => ?_
  refine holds_open (q := viewQ) (loose := looseQ) (Xt := XtQ) (XP := XL viewQ []) (Yf := Hook.obs HK) (Ya := Hook.val HK) (YP := Hook.says HK) (N := 4894) left_all (Hook.of HK) (Hook.keeps HK) (fun s e => xl_of s (Bool.and_eq_true_iff.mp e).1) XL.keeps (by rfl) (by rfl) (by rfl) (fun s e => recFacts_of (Bool.and_eq_true_iff.mp e).2) (by rfl) (by first | assumption | decide +kernel) (by decide +kernel) ⟨rfl, rfl, rfl, rfl, rfl, by decide +kernel⟩ ?hw ?hc
  (case hw => w_witness2)
  w_on
  w_strict (k_go0; (all_goals try k_fold))
  refine fold_Q ?_
  intro qQ
  refine fold_E ?_
  intro eE
  refine fold_A ?_
  intro AA
  refine fold_env ?_
  intro ee
  k_steps
  refine Stop.go ?_
  rename (IntsAre _ _) => hI
  rename (¬ _ < _) => hcond
  k_dflt (refine' (c_rows hI ?hlen (ex := []) ?hno) _ _ _ _ _ _ _ _ _ _ _ _ _ _ _ _ _ ?B ?F ?X ?N ?T ?hk ?hd ?hu lifted ?_; (case B => k_asm); (case F => k_asm); (case X => k_asm); (case N => k_asm); (case T => k_asm); (case hk => exact rfl); (case hd => ktr_room); (case hu => ktr_units))
  case hlen => lia
  case hno => exact NoIt.cons rfl NoIt.nil
  rintro v nx h1 tk1 F1 N1 ⟨x1, p, q, us, ws, xs, ys, cx, cp, cq, rfl, rfl, hxs, hys, lx5, lx8, ly5, ly8, hne, nxp, nxq, npq⟩
  have hne0 := hne _ (.head _)
  have hul := hxs.length
  have hvl := hys.length
  k_steps
  refine Stop.go ?_
  rename (Fr _ _ _ _) => F2
  rename (News _ _ _ _) => N2
  replace N2 := News.sub (b := (p, listOf us.toArray cp) :: (q, listOf ws.toArray cq) :: [(296, tabObj #[])]) N2 (fun r hr => .tail _ hr)
  have hno0 : NoIt [] ((p, listOf us.toArray cp) :: (q, listOf ws.toArray cq) :: [(296, tabObj #[])]) := NoIt.cons rfl (NoIt.cons rfl (NoIt.cons rfl NoIt.nil))
  k_dflt (refine' Calls.use (c_make (jkv := .none) (.head _) (.tail _ (.head _)) hys (by lia) (.inl ⟨rfl, rfl⟩) rfl hno0) ?B ?F ?X ?N ?T ?hk ?hd ?hu ?_; (case B => k_asm); (case F => k_asm); (case X => k_asm); (case N => k_asm); (case T => k_asm); (case hk => exact rfl); (case hd => ktr_room); (case hu => ktr_units))
  rintro v nx h3 tk3 F3 N3 ⟨M, D, es3, n3, nl3, Bx3, Jx3, Px3, rfl, rfl, lnl3, lD3, lM3, fl3, hS3⟩
  obtain ⟨f3, m3, fl3⟩ : ∃ f, MF f p q Bx3 Jx3 .none ∧ Flds 20 es3 f := ⟨_, mf_make, fl3⟩
  have hD3 : ∀ r ∈ nl3 ++ (M, instObj 242 D) :: (p, listOf us.toArray cp) :: (q, listOf ws.toArray cq) :: [(296, tabObj #[])], r.1 ≠ D := fun r hr => by
    rcases List.mem_append.mp hr with hr | hr
    · exact Nat.ne_of_gt (lnl3 r hr _ (.head _))
    · rcases List.mem_cons.mp hr with rfl | hr
      · exact Nat.ne_of_gt lM3
      · exact Nat.ne_of_lt (lD3 r hr)
  have hno3 : NoIt [] (nl3 ++ (M, instObj 242 D) :: (p, listOf us.toArray cp) :: (q, listOf ws.toArray cq) :: [(296, tabObj #[])]) := NoIt.append hS3.it (NoIt.cons rfl hno0)
  generalize hR3 : nl3 ++ (M, instObj 242 D) :: (p, listOf us.toArray cp) :: (q, listOf ws.toArray cq) :: [(296, tabObj #[])] = R3 at hD3 hno3
  have hM3 : (M, instObj 242 D) ∈ R3 := hR3 ▸ List.mem_append_right _ (.head _)
  have hp3 : (p, listOf us.toArray cp) ∈ R3 := hR3 ▸ List.mem_append_right _ (.tail _ (.head _))
  have hq3 : (q, listOf ws.toArray cq) ∈ R3 := hR3 ▸ List.mem_append_right _ (.tail _ (.tail _ (.head _)))
  have ht3 : (296, tabObj #[]) ∈ R3 := hR3 ▸ List.mem_append_right _ (.tail _ (.tail _ (.tail _ (.head _))))
  have hn3 : ∀ r ∈ nl3, r ∈ (D, dictOf es3 n3) :: R3 := fun r hr => .tail _ (hR3 ▸ List.mem_append_left _ hr)
  replace N3 := News.sub (b := (D, dictOf es3 n3) :: R3) N3 (fun r hr => by
    subst hR3
    simp only [List.mem_cons, List.mem_append, List.not_mem_nil, or_false] at hr ⊢
    rcases hr with h | h | h | h | h | h <;> simp [h])
  clear hR3
  clear lnl3 lD3 lM3
  k_steps
  refine Stop.go ?_
  k_dflt (refine' Calls.use (c_like (jk := none) (tj := 0) hM3 hD3 fl3 (by decide) hn3 m3.mb m3.fm m3.fg m3.a m3.b m3.b2 m3.bj hp3 hq3 hxs hys lx5 ly5 (by lia) (by lia) hS3 (NoIt.cons rfl hno3)) ?B ?F ?X ?N ?T ?hk ?hd ?hu ?_; (case B => k_asm); (case F => k_asm); (case X => k_asm); (case N => k_asm); (case T => k_asm); (case hk => exact rfl); (case hd => ktr_room); (case hu => ktr_units))
  rintro v nx h4 tk4 F4 N4 ⟨rfl, es4, n4, r4, rfl, fl4⟩
  k_steps
  refine Stop.go ?_
  rename (Fr _ _ _ _) => F5
  rename (News _ _ _ _) => N5
  refine list_copyK F5 N5 (News.isList N5 (.tail _ hp3)) (fun O cO h6 F6 N6 l6 => ?_) (by rw [PySem.sizeLine_eq, List.size_toArray]; lia)
  replace N6 := News.sub (b := (D, dictOf es4 n4) :: (O, listOf us.toArray cO) :: R3) N6 (fun r hr => by
    simp only [List.mem_cons] at hr ⊢
    rcases hr with h | h | h <;> simp [h])
  have hs2 := m3.s2
  have hqO : @Ne Nat q O := Nat.ne_of_lt (l6 _ (.tail _ hq3))
  have hD6 : ∀ r ∈ (O, listOf us.toArray cO) :: R3, r.1 ≠ D := List.forall_mem_cons.mpr ⟨Nat.ne_of_gt (l6 _ (.head _)), hD3⟩
  have hM6 : (M, instObj 242 D) ∈ (O, listOf us.toArray cO) :: R3 := .tail _ hM3
  k_steps
  refine Stop.go ?_
  k_dflt (refine' Calls.use (c_set2 (jk := none) hM6 hD6 fl4 (by decide) ((if_neg (by decide)).trans m3.b) (.inr ⟨q, _, rfl, hqO, .tail _ hq3⟩) rfl (.head _) hxs (by lia) ((if_neg (by decide)).trans m3.ij) ((if_neg (by decide)).trans m3.au) ((if_neg (by decide)).trans m3.ch) (.inl ⟨rfl, rfl⟩) rfl (NoIt.cons rfl (NoIt.cons rfl hno3))) ?B ?F ?X ?N ?T ?hk ?hd ?hu ?_; (case B => k_asm); (case F => k_asm); (case X => k_asm); (case N => k_asm); (case T => k_asm); (case hk => exact rfl); (case hd => ktr_room); (case hu => ktr_units))
  rintro v nx h7 tk7 F7 N7 ⟨rfl, es7, n7, nl7, Bx7, Jx7, Px7, rfl, lnl7, fl7, hS7⟩
  obtain ⟨f7, m7, fl7⟩ : ∃ f, MF f p O Bx7 Jx7 .none ∧ Flds (20 + 1 + 7) es7 f := ⟨_, mf_set2 m3, fl7⟩
  have hD7 : ∀ r ∈ nl7 ++ (O, listOf us.toArray cO) :: R3, r.1 ≠ D := fun r hr => by
    rcases List.mem_append.mp hr with hr | hr
    · exact Nat.ne_of_gt (lnl7 r hr _ (.head _))
    · exact hD6 r hr
  have hno7 : NoIt [] (nl7 ++ (O, listOf us.toArray cO) :: R3) := NoIt.append hS7.it (NoIt.cons rfl hno3)
  generalize hR7 : nl7 ++ (O, listOf us.toArray cO) :: R3 = R7 at hD7 hno7
  have hO7 : (O, listOf us.toArray cO) ∈ R7 := hR7 ▸ List.mem_append_right _ (.head _)
  have hM7 : (M, instObj 242 D) ∈ R7 := hR7 ▸ List.mem_append_right _ (.tail _ hM3)
  have hp7 : (p, listOf us.toArray cp) ∈ R7 := hR7 ▸ List.mem_append_right _ (.tail _ hp3)
  have hq7 : (q, listOf ws.toArray cq) ∈ R7 := hR7 ▸ List.mem_append_right _ (.tail _ hq3)
  have ht7 : (296, tabObj #[]) ∈ R7 := hR7 ▸ List.mem_append_right _ (.tail _ ht3)
  have hnR7 : ∀ r ∈ nl7, r ∈ R7 := fun r hr => hR7 ▸ List.mem_append_left _ hr
  have hn7 : ∀ r ∈ nl7, r ∈ (D, dictOf es7 n7) :: R7 := fun r hr => .tail _ (hnR7 r hr)
  replace N7 := News.sub (b := (D, dictOf es7 n7) :: R7) N7 (fun r hr => by
    subst hR7
    simp only [List.mem_cons, List.mem_append] at hr ⊢
    rcases hr with h | h | h | h <;> simp [h])
  clear hR7 lnl7 hD6 hM6 fl4 l6 fl3 m3 hs2 hn3 hS3 hno3 hD3 hM3 hp3 hq3 ht3
  k_steps
  refine Stop.go ?_
  k_dflt (refine' Calls.use (c_like (jk := none) (tj := 0) hM7 hD7 fl7 (by decide) hn7 m7.mb m7.fm m7.fg m7.a m7.b m7.b2 m7.bj hp7 hO7 hxs hxs lx5 lx5 (by lia) (by lia) hS7 (NoIt.cons rfl hno7)) ?B ?F ?X ?N ?T ?hk ?hd ?hu ?_; (case B => k_asm); (case F => k_asm); (case X => k_asm); (case N => k_asm); (case T => k_asm); (case hk => exact rfl); (case hd => ktr_room); (case hu => ktr_units))
  rintro v nx h8 tk8 F8 N8 ⟨rfl, es8, n8, r8, rfl, fl8⟩
  have hs1 := m7.s1
  k_steps
  refine Stop.go ?_
  k_dflt (refine' Calls.use (c_set1 (p := q) hM7 hD7 fl8 (by decide) ((if_neg (by decide)).trans m7.a) (.inr ⟨p, _, rfl, npq, hp7⟩) hq7 (by intro h; injection h with h; exact absurd h (by decide)) rfl) ?B ?F ?X ?N ?T ?hk ?hd ?hu ?_; (case B => k_asm); (case F => k_asm); (case X => k_asm); (case N => k_asm); (case T => k_asm); (case hk => exact rfl); (case hd => ktr_room); (case hu => ktr_units))
  rintro v nx h9 tk9 F9 N9 ⟨rfl, es9, n9, rfl, fl9⟩
  obtain ⟨f9, m9, fl9⟩ : ∃ f, MF f q O Bx7 Jx7 .none ∧ Flds (20 + 1 + 7 + 1 + 3) es9 f := ⟨_, mf_set1 m7, fl9⟩
  have hn9 : ∀ r ∈ nl7, r ∈ (D, dictOf es9 n9) :: R7 := fun r hr => .tail _ (hnR7 r hr)
  k_steps
  refine Stop.go ?_
  k_dflt (refine' Calls.use (c_like (jk := none) (tj := 0) hM7 hD7 fl9 (by decide) hn9 m9.mb m9.fm m9.fg m9.a m9.b m9.b2 m9.bj hq7 hO7 hys hxs ly5 lx5 (by lia) (by lia) hS7 (NoIt.cons rfl hno7)) ?B ?F ?X ?N ?T ?hk ?hd ?hu ?_; (case B => k_asm); (case F => k_asm); (case X => k_asm); (case N => k_asm); (case T => k_asm); (case hk => exact rfl); (case hd => ktr_room); (case hu => ktr_units))
  rintro v nx h10 tk10 F10 N10 ⟨rfl, es10, n10, r10, rfl, fl10⟩
  replace N10 := News.sub (b := (p, listOf us.toArray cp) :: (q, listOf ws.toArray cq) :: [(296, tabObj #[])]) N10 (fun r hr => by
    simp only [List.mem_cons, List.not_mem_nil, or_false] at hr
    rcases hr with h | h | h
    · rw [h]; exact .tail _ hp7
    · rw [h]; exact .tail _ hq7
    · rw [h]; exact .tail _ ht7)
  have hp296 : @Ne Nat p 296 := Ne.symm hne0.2.1
  have hq296 : @Ne Nat q 296 := Ne.symm hne0.2.2
  clear fl7 m7 fl8 hs1 m9 fl9 hn7 hn9 hS7 hno7 hD7 hM7 hp7 hq7 ht7 hO7 fl10
  k_steps
  refine Stop.go ?_
  rename (Fr _ _ _ _) => F11
  rename (News _ _ _ _) => N11
  rename (_ < _) => lfc
  rename_i fn c' oc vs' t' ct' h11 tk11 d11 d21 l11
  k_dflt (refine' Calls.use (c_make (jkv := .ref fn) (jk := some 0) (.tail _ (.tail _ (.head _))) (.tail _ (.tail _ (.tail _ (.head _)))) hys (by lia) ?hjk rfl (ex := [c']) ?hno) ?B ?F ?X ?N ?T ?hk ?hd ?hu ?_; (case B => k_asm); (case F => k_asm); (case X => k_asm); (case N => k_asm); (case T => k_asm); (case hk => exact rfl); (case hd => ktr_room); (case hu => ktr_units); (case hjk => exact .inr ⟨_, rfl, rfl, ⟨_, .head _⟩, fun nx x t hs => c_lam (hs _ (.head _)) (hs _ (.tail _ (.head _))) d11 d21⟩); (case hno => exact NoIt.cons rfl (NoIt.own (NoIt.cons rfl (NoIt.cons rfl (NoIt.cons rfl NoIt.nil))))))
  rintro v nx h12 tk12 F12 N12 ⟨M2, D2, es12, n12, nl12, Bx12, Jx12, Px12, rfl, rfl, lnl12, lD12, lM12, fl12, hS12⟩
  obtain ⟨B0, hp12, hq12, ⟨its, ht12⟩, hno12, lnl12, lD12, N12⟩ : ∃ B0 : Led, (p, listOf us.toArray cp) ∈ B0 ∧ (q, listOf ws.toArray cq) ∈ B0 ∧ (∃ its, (296, tabObj its) ∈ B0) ∧ NoIt [c'] B0 ∧ (∀ p ∈ nl12, ∀ q ∈ (D2, dictOf es12 n12) :: (M2, instObj 242 D2) :: B0, q.1 < p.1) ∧ (∀ p ∈ B0, p.1 < D2) ∧ News (ghostOf _ _) _ _ (nl12 ++ (D2, dictOf es12 n12) :: (M2, instObj 242 D2) :: B0) :=
    ⟨_, .tail _ (.tail _ (.head _)), .tail _ (.tail _ (.tail _ (.head _))), ⟨_, .tail _ (.tail _ (.tail _ (.tail _ (.head _))))⟩, NoIt.cons rfl (NoIt.own (NoIt.cons rfl (NoIt.cons rfl (NoIt.cons rfl NoIt.nil)))), lnl12, lD12, N12⟩
  obtain ⟨f12, m12, fl12⟩ : ∃ f, MF f p q Bx12 Jx12 (.ref fn) ∧ Flds 20 es12 f := ⟨_, mf_make, fl12⟩
  have hD12 : ∀ r ∈ nl12 ++ (M2, instObj 242 D2) :: B0, r.1 ≠ D2 := fun r hr => by
    rcases List.mem_append.mp hr with hr | hr
    · exact Nat.ne_of_gt (lnl12 r hr _ (.head _))
    · rcases List.mem_cons.mp hr with rfl | hr
      · exact Nat.ne_of_gt lM12
      · exact Nat.ne_of_lt (lD12 r hr)
  have hn12 : ∀ r ∈ nl12, r ∈ (D2, dictOf es12 n12) :: (nl12 ++ (M2, instObj 242 D2) :: B0) := fun r hr => .tail _ (List.mem_append_left _ hr)
  replace N12 := News.sub (b := (D2, dictOf es12 n12) :: (nl12 ++ (M2, instObj 242 D2) :: B0)) N12 (fun r hr => by
    simp only [List.mem_cons, List.mem_append] at hr ⊢
    rcases hr with h | h | h | h <;> simp [h])
  k_steps
  refine Stop.go ?_
  k_dflt (refine' Calls.use (c_like (jk := some 0) (tj := _) (List.mem_append_right _ (.head _)) hD12 fl12 (by decide) hn12 m12.mb m12.fm m12.fg m12.a m12.b m12.b2 m12.bj (List.mem_append_right _ (.tail _ hp12)) (List.mem_append_right _ (.tail _ hq12)) hxs hys lx5 ly5 (by lia) (by lia) hS12 (NoIt.cons rfl (NoIt.append hS12.it (NoIt.cons rfl hno12)))) ?B ?F ?X ?N ?T ?hk ?hd ?hu ?_; (case B => k_asm); (case F => k_asm); (case X => k_asm); (case N => k_asm); (case T => k_asm); (case hk => exact rfl); (case hd => ktr_room); (case hu => ktr_units))
  rintro v nx h13 tk13 F13 N13 ⟨rfl, es13, n13, r13, rfl, fl13⟩
  replace N13 := News.sub (b := (p, listOf us.toArray cp) :: [(296, tabObj its)]) N13 (fun r hr => by
    simp only [List.mem_cons, List.not_mem_nil, or_false] at hr
    rcases hr with h | h
    · rw [h]; exact .tail _ (List.mem_append_right _ (.tail _ hp12))
    · rw [h]; exact .tail _ (List.mem_append_right _ (.tail _ ht12)))
  clear hp12 hq12 ht12 hno12 lnl12 lD12 m12 fl12 hD12 hn12 hS12 fl13
  k_steps
  refine Stop.go ?_
  rename (News _ _ _ _) => N14
  rename (p < _ ∧ _) => lE1
  rename (Fr _ _ _ _) => F14
  rename_i E1 h14
  obtain ⟨BA, hEA, hpA, htA, hnoA, NA⟩ : ∃ B : Led, (E1, listOf #[] 0) ∈ B ∧ (p, listOf us.toArray cp) ∈ B ∧ (296, tabObj its) ∈ B ∧ NoIt [] B ∧ News (ghostOf _ _) _ _ B := ⟨_, .head _, .tail _ (.head _), .tail _ (.tail _ (.head _)), NoIt.cons rfl (NoIt.cons rfl (NoIt.cons rfl NoIt.nil)), N14⟩
  k_dflt (refine' Calls.use (c_make (jkv := .none) (us := []) (vs := us) hEA hpA hxs (by first | lia | decide) (.inl ⟨rfl, rfl⟩) rfl hnoA) ?B ?F ?X ?N ?T ?hk ?hd ?hu ?_; (case B => k_asm); (case F => k_asm); (case X => k_asm); (case N => k_asm); (case T => k_asm); (case hk => exact rfl); (case hd => ktr_room); (case hu => ktr_units))
  rintro v nx hAa tkAa FAa NAa ⟨MA, DA, esA, nA, nlA, BxA, JxA, PxA, rfl, rfl, lnlA, lDA, lMA, flA, hSA⟩
  obtain ⟨fA, mA, flA⟩ : ∃ f, MF f E1 p BxA JxA .none ∧ Flds 20 esA f := ⟨_, mf_make, flA⟩
  have hDA : ∀ r ∈ nlA ++ (MA, instObj 242 DA) :: BA, r.1 ≠ DA := fun r hr => by
    rcases List.mem_append.mp hr with hr | hr
    · exact Nat.ne_of_gt (lnlA r hr _ (.head _))
    · rcases List.mem_cons.mp hr with rfl | hr
      · exact Nat.ne_of_gt lMA
      · exact Nat.ne_of_lt (lDA r hr)
  have hnA : ∀ r ∈ nlA, r ∈ (DA, dictOf esA nA) :: (nlA ++ (MA, instObj 242 DA) :: BA) := fun r hr => .tail _ (List.mem_append_left _ hr)
  replace NAa := News.sub (b := (DA, dictOf esA nA) :: (nlA ++ (MA, instObj 242 DA) :: BA)) NAa (fun r hr => by
    simp only [List.mem_cons, List.mem_append] at hr ⊢
    rcases hr with h | h | h | h <;> simp [h])
  k_steps
  refine Stop.go ?_
  k_dflt (refine' Calls.use (c_told0 (List.mem_append_right _ (.head _)) hDA flA (by decide) hnA mA (List.mem_append_right _ (.tail _ hEA)) (List.mem_append_right _ (.tail _ hpA)) hxs (by first | lia | decide) hSA (NoIt.cons rfl (NoIt.append hSA.it (NoIt.cons rfl hnoA)))) ?B ?F ?X ?N ?T ?hk ?hd ?hu ?_; (case B => k_asm); (case F => k_asm); (case X => k_asm); (case N => k_asm); (case T => k_asm); (case hk => exact rfl); (case hd => ktr_room); (case hu => ktr_units))
  rintro v nx hAb tkAb FAb NAb ⟨rA, bsA, cA, nmA, rfl, rfl, hbA⟩
  replace NAb := News.sub (b := (rA, listOf bsA.toArray cA) :: (nmA ++ BA)) NAb (fun r hr => by
    simp only [List.mem_cons, List.mem_append] at hr ⊢
    rcases hr with h | h | h <;> simp [h])
  k_steps
  refine Stop.go ?_
  rename (News _ _ _ _) => NAc
  refine eq_same NAc (.tail _ (.tail _ (.head _))) (.head _) (hbA.mono fun r hr => .tail _ (.tail _ (.tail _ (List.mem_append_left _ hr)))) (BsAre.one (.tail _ (.head _)) rfl ?hzA rfl) ?huA ?_
  case hzA => exact congrArg Int.ofNat (by rw [List.size_toArray, hul])
  case huA => exact (show callerA.units + 3 + 64 < cLine by decide)
  replace NAc := News.sub (b := [(296, tabObj its)]) NAc (fun r hr => by
    rw [List.mem_singleton.mp hr]
    exact .tail _ (.tail _ (.tail _ (List.mem_append_right _ htA))))
  clear hEA hpA htA hnoA lnlA lDA mA flA hDA hnA hSA hbA
  k_steps
  refine Stop.go ?_
  rename (News _ _ _ _) => N15
  rename (Fr _ _ _ _) => F15
  rename (_ < _ ∧ 296 < _) => lE3
  rename (296 < _) => lE2
  rename_i E2 h15a E3 h15b
  obtain ⟨BB, hEB, hpB, htB, hnoB, NB⟩ : ∃ B : Led, (E2, listOf #[] 0) ∈ B ∧ (E3, listOf (List.toArray []) 0) ∈ B ∧ (296, tabObj its) ∈ B ∧ NoIt [] B ∧ News (ghostOf _ _) _ _ B := ⟨_, .tail _ (.head _), .head _, .tail _ (.tail _ (.head _)), NoIt.cons rfl (NoIt.cons rfl (NoIt.cons rfl NoIt.nil)), N15⟩
  k_dflt (refine' Calls.use (c_make (jkv := .none) (us := []) (vs := []) (ys := []) hEB hpB .nil (by first | lia | decide) (.inl ⟨rfl, rfl⟩) rfl hnoB) ?B ?F ?X ?N ?T ?hk ?hd ?hu ?_; (case B => k_asm); (case F => k_asm); (case X => k_asm); (case N => k_asm); (case T => k_asm); (case hk => exact rfl); (case hd => ktr_room); (case hu => ktr_units))
  rintro v nx hBa tkBa FBa NBa ⟨MB, DB, esB, nB, nlB, BxB, JxB, PxB, rfl, rfl, lnlB, lDB, lMB, flB, hSB⟩
  obtain ⟨fB, mB, flB⟩ : ∃ f, MF f E2 E3 BxB JxB .none ∧ Flds 20 esB f := ⟨_, mf_make, flB⟩
  have hDB : ∀ r ∈ nlB ++ (MB, instObj 242 DB) :: BB, r.1 ≠ DB := fun r hr => by
    rcases List.mem_append.mp hr with hr | hr
    · exact Nat.ne_of_gt (lnlB r hr _ (.head _))
    · rcases List.mem_cons.mp hr with rfl | hr
      · exact Nat.ne_of_gt lMB
      · exact Nat.ne_of_lt (lDB r hr)
  have hnB : ∀ r ∈ nlB, r ∈ (DB, dictOf esB nB) :: (nlB ++ (MB, instObj 242 DB) :: BB) := fun r hr => .tail _ (List.mem_append_left _ hr)
  replace NBa := News.sub (b := (DB, dictOf esB nB) :: (nlB ++ (MB, instObj 242 DB) :: BB)) NBa (fun r hr => by
    simp only [List.mem_cons, List.mem_append] at hr ⊢
    rcases hr with h | h | h | h <;> simp [h])
  k_steps
  refine Stop.go ?_
  k_dflt (refine' Calls.use (c_told0 (vs := []) (ys := []) (List.mem_append_right _ (.head _)) hDB flB (by decide) hnB mB (List.mem_append_right _ (.tail _ hEB)) (List.mem_append_right _ (.tail _ hpB)) .nil (by first | lia | decide) hSB (NoIt.cons rfl (NoIt.append hSB.it (NoIt.cons rfl hnoB)))) ?B ?F ?X ?N ?T ?hk ?hd ?hu ?_; (case B => k_asm); (case F => k_asm); (case X => k_asm); (case N => k_asm); (case T => k_asm); (case hk => exact rfl); (case hd => ktr_room); (case hu => ktr_units))
  rintro v nx hBb tkBb FBb NBb ⟨rB, bsB, cB, nmB, rfl, rfl, hbB⟩
  replace NBb := News.sub (b := (rB, listOf bsB.toArray cB) :: (nmB ++ BB)) NBb (fun r hr => by
    simp only [List.mem_cons, List.mem_append] at hr ⊢
    rcases hr with h | h | h <;> simp [h])
  k_steps
  refine Stop.go ?_
  rename (News _ _ _ _) => NBc
  refine eq_same NBc (.tail _ (.tail _ (.head _))) (.head _) (hbB.mono fun r hr => .tail _ (.tail _ (.tail _ (List.mem_append_left _ hr)))) (BsAre.one (.tail _ (.head _)) rfl ?hzB rfl) ?huB ?_
  case hzB => exact rfl
  case huB => exact (show callerA.units + 3 + 64 < cLine by decide)
  replace NBc := News.sub (b := [(296, tabObj its)]) NBc (fun r hr => by
    rw [List.mem_singleton.mp hr]
    exact .tail _ (.tail _ (.tail _ (List.mem_append_right _ htB))))
  clear hEB hpB htB hnoB lnlB lDB mB flB hDB hnB hSB hbB
  k_steps
end
end Mine
theorem PySem.Challenge.cw_pg0326_01_holds : PySem.Challenge.rw_pg0326_01.Holds :=
  Mine.lawT
