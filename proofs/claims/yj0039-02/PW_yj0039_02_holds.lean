import PyProof.Rows.All
import Wide.All
import OpenK.AllK
import Wide.FinOn
import PySem.Challenge.RW_yj0039_02
open PySem PySem.W PySem.Spec PySem.Calls PyProof.Rows PySem.Flt
set_option Elab.async false
set_option maxRecDepth 100000
set_option maxHeartbeats 0
namespace Mine
def nth (n : Nat) : Stmt := PySem.Challenge.pw_yj0039_02.main.body.getD n (.Pass ⟨0, 0, 0, 0⟩)
def inBody (n : Str) : List Stmt → Stmt
  | [] => .Pass ⟨0, 0, 0, 0⟩
  | .FunctionDef m a b c d e f g h i :: r => if m == n then .FunctionDef m a b c d e f g h i else inBody n r
  | _ :: r => inBody n r
def clsBody : Stmt → List Stmt
  | .ClassDef _ _ _ b _ _ _ _ _ _ _ => b
  | _ => []
def inCls (k : Nat) (n : Str) : Stmt := inBody n (clsBody (nth k))
def firstDoc : List Stmt → Str
  | .Expr (.Constant (.str s) _ _) _ :: _ => s
  | _ => Str.empty
def docOf : Stmt → Str
  | .FunctionDef _ _ b _ _ _ _ _ _ _ => firstDoc b
  | _ => Str.empty
def clsDoc (s : Stmt) : Str := firstDoc (clsBody s)
def docIn (n : Str) : List Stmt → Str
  | [] => Str.empty
  | .Assign [.Name m _] (.Call _ [_, .Constant (.str s) _ _] _ _) _ :: r => if m == n then s else docIn n r
  | _ :: r => docIn n r
def getDoc (n : Str) : Str := docIn n (clsBody (nth 5))
def fdOf (st : Stmt) (qual : Str) (dV kV doc pm cdv ct : Value) : Data := match st with
  | .FunctionDef name params body _ _ _ scope _ _ _ => .func (fnOf name qual params body scope dV kV doc pm none cdv ct)
  | _ => .plain
abbrev en (P : Params) (s : String) (t : Nat) (v : Value) : DictEntry := ⟨PyData.keyHash P (Str.ofString s), .str (Str.ofString s) t, v⟩
def K : Params → Frag := fun P =>
  (nat_lit 2, ⟨.none, none, .dict #[en P "\x69mport.loaded.math" 186 (.bool true), en P "class._frozen_\x69mportlib_external._LoaderBasics" 191 (.ref 16), en P "watched.\x69mport" 207 (.ref 20), en P "class._frozen_\x69mportlib_external.FileLoader" 208 (.ref 22), en P "class._frozen_\x69mportlib_external.ExtensionFileLoader" 229 (.ref 27), en P "class._frozen_\x69mportlib.ModuleSpec" 257 (.ref 33), en P "sys.modules.booked-epoch" 286 (.int 3 0), en P "\x69mport.later-laid.math" 362 (.bool true), en P "watched.library" 364 (.ref 38), en P "watched.library-objects" 0 (.str ("\x0d" : Str) 0)] 10, #[]⟩) ::
  (nat_lit 3, ⟨.type "dict", none, .dict #[en P "__name__" 165 (.str ("law_yj0039_02" : Str) 587), en P "__doc__" 166 (.none), en P "__package__" 167 (.none), en P "__loader__" 168 (.builtin "__main__.__loader__#opaque"), en P "__spec__" 169 (.none), en P "__annotations__" 170 (.ref 6), en P "__builtins__" 171 (.ref 4), en P "__file__" 173 (.str ("/claim/cut.py" : Str) 172), en P "__cached__" 174 (.none), en P "fsum" 370 (.builtin "math.fsum"), en P "sumprod" 373 (.builtin "math.sumprod"), en P "_wall" 386 (.ref 49), en P "_tuplegetter" 445 (.ref 88), en P "StatisticsError" 463 (.ref 102), en P "LinearRegression" 578 (.ref 173), en P "linear_regression" 586 (.ref 182), en P "_law_cell" 598 (.ref 189), en P "_law_places" 604 (.ref 194), en P "_law_across" 610 (.ref 199), en P "_law_on" 616 (.ref 204), en P "_law_found_right" 622 (.ref 209), en P "_law_line" 628 (.ref 214), en P "_law_parted_right" 634 (.ref 219), en P "_law_made_right" 640 (.ref 224), en P "_law_through_right" 655 (.ref 231), en P "law" 661 (.ref 236)] 26, #[]⟩) ::
  (nat_lit 64, ⟨.type "tuple", none, .seq #[.none] 0, #[]⟩) ::
  (nat_lit 70, ⟨.type "code", none, .fields #[.str ("__get__" : Str) 410, .str ("_tuplegetter.__get__" : Str) 411, .str ("/claim/cut.py" : Str) 412, .int 12 0, .int 3 0, .int 0 0, .int 0 0, .int 3 0, .ref 65, .bool true, .int 374 0, .ref 66, .none, .ref 67, .ref 68, .ref 69, .int 416 0, .int 12 0, .str ("/claim/cut.py" : Str) 417], #[]⟩) ::
  (nat_lit 71, ⟨.type "function", none, fdOf (inCls 3 "__get__") ("_tuplegetter.__get__" : Str)  (.ref 64) (.none) (.none) (.str ("cpy313.statistics" : Str) 387) (.ref 70) (.none), #[]⟩) ::
  (nat_lit 87, ⟨.type "dict", none, .dict #[en P "__module__" 396 (.str ("cpy313.statistics" : Str) 387), en P "__firstlineno__" 400 (.int 6 399), en P "__init__" 409 (.ref 63), en P "__get__" 418 (.ref 71), en P "__set__" 427 (.ref 78), en P "__delete__" 435 (.ref 85), en P "__static_attributes__" 438 (.ref 86), en P "__dict__" 440 (.ref 89), en P "__weakref__" 442 (.ref 90), en P "__doc__" 443 (.none)] 4, #[]⟩) ::
  (nat_lit 88, ⟨.type "type", none, .cls { name := ("_tuplegetter" : Str), bases := [.type "object"], mro := [.ref 88, .type "object"], ns := 87, qualname := ("_tuplegetter" : Str), hasDict := true, slotNames := [], subclasses := [], abstract := false, collection := none, hasDel := false }, #[none, none, some (.str ("_tuplegetter" : Str) 389), some (.str ("_tuplegetter" : Str) 397), some (.builtin "object.__new__"), some (.bool true)]⟩) ::
  (nat_lit 122, ⟨.type "code", none, .fields #[.str ("__new__" : Str) 484, .str ("LinearRegression.__new__" : Str) 485, .str ("/claim/cut.py" : Str) 486, .int 32 0, .int 3 0, .int 0 0, .int 0 0, .int 3 0, .ref 117, .bool true, .int 374 0, .ref 118, .none, .ref 119, .ref 120, .ref 121, .int 490 0, .int 32 0, .str ("/claim/cut.py" : Str) 491], #[]⟩) ::
  (nat_lit 123, ⟨.type "function", none, fdOf (inCls 5 "__new__") ("LinearRegression.__new__" : Str)  (.none) (.none) (.str (docOf (inCls 5 "__new__")) 492) (.str ("cpy313.statistics" : Str) 387) (.ref 122) (.none), #[]⟩) ::
  (nat_lit 164, ⟨.type "dict", none, .dict #[en P "index" 560 (.int 0 554), en P "__doc__" 562 (.str (getDoc "slope") 555)] 2, #[]⟩) ::
  (nat_lit 165, ⟨.ref 88, some 164, .plain, #[]⟩) ::
  (nat_lit 167, ⟨.type "dict", none, .dict #[en P "index" 570 (.int 1 564), en P "__doc__" 572 (.str (getDoc "intercept") 565)] 2, #[]⟩) ::
  (nat_lit 168, ⟨.ref 88, some 167, .plain, #[]⟩) ::
  (nat_lit 172, ⟨.type "dict", none, .dict #[en P "__module__" 471 (.str ("cpy313.statistics" : Str) 387), en P "__firstlineno__" 475 (.int 26 474), en P "__doc__" 477 (.str (clsDoc (nth 5)) 476), en P "__slots__" 479 (.ref 114), en P "_fields" 482 (.ref 115), en P "_field_defaults" 483 (.ref 116), en P "__new__" 493 (.ref 174), en P "_make" 515 (.ref 132), en P "_replace" 526 (.ref 141), en P "__replace__" 527 (.ref 141), en P "__repr__" 535 (.ref 148), en P "_asdict" 542 (.ref 155), en P "__getnewargs__" 550 (.ref 162), en P "__match_args__" 553 (.ref 163), en P "slope" 563 (.ref 165), en P "intercept" 573 (.ref 168), en P "__static_attributes__" 574 (.ref 170)] 2, #[]⟩) ::
  (nat_lit 173, ⟨.type "type", none, .cls { name := ("LinearRegression" : Str), bases := [.type "tuple"], mro := [.ref 173, .type "tuple", .type "object"], ns := 172, qualname := ("LinearRegression" : Str), hasDict := false, slotNames := [], subclasses := [], abstract := false, collection := none, hasDel := false }, #[some (.ref 106), none, some (.str ("LinearRegression" : Str) 464), some (.str ("LinearRegression" : Str) 472), some (.none), some (.bool false)]⟩) ::
  (nat_lit 174, ⟨.type "staticmethod", none, .fields #[.ref 123], #[]⟩) ::
  (nat_lit 177, ⟨.type "dict", none, .dict #[en P "proportional" 579 (.bool false)] 1, #[]⟩) ::
  (nat_lit 181, ⟨.type "code", none, .fields #[.str ("linear_regression" : Str) 580, .str ("linear_regression" : Str) 581, .str ("/claim/cut.py" : Str) 582, .int 68 0, .int 2 0, .int 2 0, .int 1 0, .int 3 0, .ref 178, .bool true, .int 374 0, .ref 179, .none, .none, .none, .ref 180, .int 583 0, .int 68 0, .str ("/claim/cut.py" : Str) 584], #[]⟩) ::
  (nat_lit 182, ⟨.type "function", none, fdOf (nth 6) ("linear_regression" : Str)  (.none) (.ref 177) (.str (docOf (nth 6)) 585) (.str ("cpy313.statistics" : Str) 387) (.ref 181) (.none), #[]⟩) ::
  (nat_lit 188, ⟨.type "code", none, .fields #[.str ("_law_cell" : Str) 589, .str ("_law_cell" : Str) 590, .str ("/claim/cut.py" : Str) 591, .int 125 0, .int 3 0, .int 0 0, .int 0 0, .int 3 0, .ref 183, .bool true, .int 374 0, .ref 184, .none, .ref 185, .ref 186, .ref 187, .int 596 0, .int 125 0, .str ("/claim/cut.py" : Str) 597], #[]⟩) ::
  (nat_lit 189, ⟨.type "function", none, fdOf (nth 8) ("_law_cell" : Str)  (.none) (.none) (.none) (.str ("law_yj0039_02" : Str) 587) (.ref 188) (.none), #[]⟩) ::
  (nat_lit 193, ⟨.type "code", none, .fields #[.str ("_law_places" : Str) 599, .str ("_law_places" : Str) 600, .str ("/claim/cut.py" : Str) 601, .int 130 0, .int 1 0, .int 0 0, .int 0 0, .int 3 0, .ref 190, .bool true, .int 374 0, .ref 191, .none, .none, .none, .ref 192, .int 602 0, .int 130 0, .str ("/claim/cut.py" : Str) 603], #[]⟩) ::
  (nat_lit 194, ⟨.type "function", none, fdOf (nth 9) ("_law_places" : Str)  (.none) (.none) (.none) (.str ("law_yj0039_02" : Str) 587) (.ref 193) (.none), #[]⟩) ::
  (nat_lit 198, ⟨.type "code", none, .fields #[.str ("_law_across" : Str) 605, .str ("_law_across" : Str) 606, .str ("/claim/cut.py" : Str) 607, .int 136 0, .int 3 0, .int 0 0, .int 0 0, .int 3 0, .ref 195, .bool true, .int 374 0, .ref 196, .none, .none, .none, .ref 197, .int 608 0, .int 136 0, .str ("/claim/cut.py" : Str) 609], #[]⟩) ::
  (nat_lit 199, ⟨.type "function", none, fdOf (nth 10) ("_law_across" : Str)  (.none) (.none) (.none) (.str ("law_yj0039_02" : Str) 587) (.ref 198) (.none), #[]⟩) ::
  (nat_lit 203, ⟨.type "code", none, .fields #[.str ("_law_on" : Str) 611, .str ("_law_on" : Str) 612, .str ("/claim/cut.py" : Str) 613, .int 147 0, .int 4 0, .int 0 0, .int 0 0, .int 3 0, .ref 200, .bool true, .int 374 0, .ref 201, .none, .none, .none, .ref 202, .int 614 0, .int 147 0, .str ("/claim/cut.py" : Str) 615], #[]⟩) ::
  (nat_lit 204, ⟨.type "function", none, fdOf (nth 11) ("_law_on" : Str)  (.none) (.none) (.none) (.str ("law_yj0039_02" : Str) 587) (.ref 203) (.none), #[]⟩) ::
  (nat_lit 208, ⟨.type "code", none, .fields #[.str ("_law_found_right" : Str) 617, .str ("_law_found_right" : Str) 618, .str ("/claim/cut.py" : Str) 619, .int 149 0, .int 2 0, .int 0 0, .int 0 0, .int 3 0, .ref 205, .bool true, .int 374 0, .ref 206, .none, .none, .none, .ref 207, .int 620 0, .int 149 0, .str ("/claim/cut.py" : Str) 621], #[]⟩) ::
  (nat_lit 209, ⟨.type "function", none, fdOf (nth 12) ("_law_found_right" : Str)  (.none) (.none) (.none) (.str ("law_yj0039_02" : Str) 587) (.ref 208) (.none), #[]⟩) ::
  (nat_lit 213, ⟨.type "code", none, .fields #[.str ("_law_line" : Str) 623, .str ("_law_line" : Str) 624, .str ("/claim/cut.py" : Str) 625, .int 164 0, .int 2 0, .int 0 0, .int 0 0, .int 3 0, .ref 210, .bool true, .int 374 0, .ref 211, .none, .none, .none, .ref 212, .int 626 0, .int 164 0, .str ("/claim/cut.py" : Str) 627], #[]⟩) ::
  (nat_lit 214, ⟨.type "function", none, fdOf (nth 13) ("_law_line" : Str)  (.none) (.none) (.none) (.str ("law_yj0039_02" : Str) 587) (.ref 213) (.none), #[]⟩) ::
  (nat_lit 218, ⟨.type "code", none, .fields #[.str ("_law_parted_right" : Str) 629, .str ("_law_parted_right" : Str) 630, .str ("/claim/cut.py" : Str) 631, .int 168 0, .int 3 0, .int 0 0, .int 0 0, .int 3 0, .ref 215, .bool true, .int 374 0, .ref 216, .none, .none, .none, .ref 217, .int 632 0, .int 168 0, .str ("/claim/cut.py" : Str) 633], #[]⟩) ::
  (nat_lit 219, ⟨.type "function", none, fdOf (nth 14) ("_law_parted_right" : Str)  (.none) (.none) (.none) (.str ("law_yj0039_02" : Str) 587) (.ref 218) (.none), #[]⟩) ::
  (nat_lit 223, ⟨.type "code", none, .fields #[.str ("_law_made_right" : Str) 635, .str ("_law_made_right" : Str) 636, .str ("/claim/cut.py" : Str) 637, .int 179 0, .int 3 0, .int 0 0, .int 0 0, .int 3 0, .ref 220, .bool true, .int 374 0, .ref 221, .none, .none, .none, .ref 222, .int 638 0, .int 179 0, .str ("/claim/cut.py" : Str) 639], #[]⟩) ::
  (nat_lit 224, ⟨.type "function", none, fdOf (nth 15) ("_law_made_right" : Str)  (.none) (.none) (.none) (.str ("law_yj0039_02" : Str) 587) (.ref 223) (.none), #[]⟩) ::
  (nat_lit 230, ⟨.type "code", none, .fields #[.str ("_law_through_right" : Str) 641, .str ("_law_through_right" : Str) 642, .str ("/claim/cut.py" : Str) 643, .int 193 0, .int 2 0, .int 0 0, .int 0 0, .int 3 0, .ref 225, .bool true, .int 374 0, .ref 226, .none, .ref 227, .ref 228, .ref 229, .int 653 0, .int 193 0, .str ("/claim/cut.py" : Str) 654], #[]⟩) ::
  (nat_lit 231, ⟨.type "function", none, fdOf (nth 16) ("_law_through_right" : Str)  (.none) (.none) (.none) (.str ("law_yj0039_02" : Str) 587) (.ref 230) (.none), #[]⟩) ::
  (nat_lit 235, ⟨.type "code", none, .fields #[.str ("law" : Str) 656, .str ("law" : Str) 657, .str ("/claim/cut.py" : Str) 658, .int 202 0, .int 1 0, .int 0 0, .int 0 0, .int 3 0, .ref 232, .bool true, .int 374 0, .ref 233, .none, .none, .none, .ref 234, .int 659 0, .int 202 0, .str ("/claim/cut.py" : Str) 660], #[]⟩) ::
  (nat_lit 236, ⟨.type "function", none, fdOf (nth 17) ("law" : Str)  (.none) (.none) (.none) (.str ("law_yj0039_02" : Str) 587) (.ref 235) (.none), #[]⟩) ::
  []
def view : Program := { PySem.Challenge.pw_yj0039_02 with main := { PySem.Challenge.pw_yj0039_02.main with body := PySem.Challenge.pw_yj0039_02.main.body.take 3 ++ [nth 4] ++ PySem.Challenge.pw_yj0039_02.main.body.drop 7 } }
abbrev lse : List Str := [Str.ofString "_tuplegetter", Str.ofString "LinearRegression", Str.ofString "linear_regression"]
abbrev kas : List Addr := [2, 3, 64, 70, 71, 87, 88, 122, 123, 164, 165, 167, 168, 172, 173, 174, 177, 181, 182, 188, 189, 193, 194, 198, 199, 203, 204, 208, 209, 213, 214, 218, 219, 223, 224, 230, 231, 235, 236]
theorem K_as (P : Params) : kas = (K P).map (·.1) := rfl
set_option Elab.async false
set_option maxRecDepth 100000
set_option maxHeartbeats 0
/-- K and linear_regression's empty code table -/
def KT : Params → Frag := fun P => (nat_lit 179, ⟨.none, none, .fields #[], #[]⟩) :: K P
abbrev kasT : List Addr := 179 :: kas
theorem KT_as (P : Params) : kasT = (KT P).map (·.1) := rfl
abbrev hookT : Hook := kHook KT kasT KT_as
theorem leftT : LeftO PySem.Challenge.rw_yj0039_02.row.prog view lse
    (fun s => xlAt view [] s && recOk PySem.Challenge.rw_yj0039_02.row.records s) hookT.obs hookT.val 3654 := by
  intro w
  kernel_rfl!
set_option Elab.async false
set_option maxRecDepth 100000
abbrev PT : Addr := 179
abbrev LR : Addr := 182
/-- the heap with linear_regression's own code table out of sight -/
abbrev hid (h : Heap) : Heap := h.hide PT
section
variable {prog : Program} {w : World} {A : Around} {s : Shared} {R : Result → Shared → Prop} {name qual : Str} {params : Arguments} {body : List Stmt} {scope : Scope} {dV kV doc pm cdv ct oc : Value} {an od : Option Addr} {osl : Array (Option Value)} {f : Addr} {args : Args} {binds : List (Str × Value)} {K : Frag} {p : Program} {loose : List Str} {mg mb : Str → Option Value} {h₀ : Heap}
theorem enter (hsub : ∀ b o, h₀.get? b = some o → s.heap.get? b = some o) (hsz : h₀.objs.size ≤ s.heap.objs.size) (X : K.In h₀) (T : TopRead p loose mg mb h₀)
    (ho : K.lookup f = some ⟨oc, od, .func (fnOf name qual params body scope dV kV doc pm an cdv ct), osl⟩) (hcd : codeIn K cdv qual = true) (hroom : A.depth < recursionLimit)
    (hbind : BindsTo s (fnOf name qual params body scope dV kV doc pm an cdv ct) args binds) (hloc : ∀ y ∈ binds, scope.names.lookup y.1 = some .local)
    (hcell : ∀ x ∈ scope.names, x.2 ≠ .cell) (hco : scope.isCoroutine = false) (hgen : scope.isGenerator = false) (hk : scope.kind = .function)
    (h : ∀ L h₁, s.heap.objs.size = L → Fr h₀ L h₁ (fun y => binds.reverse.lookup y) → (∀ b o, s.heap.get? b = some o → h₁.get? b = some o) → News h₀ L h₁ [] →
      wpAny (model prog w) (A.deeper (envOf qual scope L f cdv)) (execs body (envOf qual scope L f cdv))
        (fun fl s' => R (.ok (.ret (match fl with | .ret v => v | _ => .none))) s')
        (fun e s' => wpAny (model prog w) (A.deeper (envOf qual scope L f cdv)) (leaving (envOf qual scope L f cdv) e) (fun _ s'' => R (.error e) s'') (fun e' s'' => R (.error e') s'') s')
        { s with heap := h₁, toks := s.toks + binds.length }) :
    codeAny (model prog w) A (.call (.ref f) args) R s := by
  refine codeAny_call_def (fd := fnOf name qual params body scope dV kV doc pm an cdv ct) (body := body) (binds := binds) hroom (hsub _ _ (X _ _ ho)) rfl (T.nolimit.keeps hsub) (codeRec_of (X.keeps hsub) hcd) rfl hbind hcell hloc (fun h₁ hns hk₁ => ?_) hco hgen hk
  exact h _ h₁ rfl ⟨hns, fun b o e => hk₁ _ _ (hsub b o e), hsz⟩ hk₁ (fun _ hp => nomatch hp)
theorem enterC (hsub : ∀ b o, h₀.get? b = some o → s.heap.get? b = some o) (hsz : h₀.objs.size ≤ s.heap.objs.size) (X : K.In h₀) (T : TopRead p loose mg mb h₀)
    (ho : K.lookup f = some ⟨oc, od, .func (fnOf name qual params body scope dV kV doc pm an cdv ct), osl⟩) (hcd : codeIn K cdv qual = true) (hroom : A.depth < recursionLimit)
    (hbind : BindsTo s (fnOf name qual params body scope dV kV doc pm an cdv ct) args binds) (hkind : (binds.all fun y => scope.names.lookup y.1 == some .local || scope.names.lookup y.1 == some .cell) = true)
    (hnd : ((cellsFrom 0 scope.names []).map (·.1)).Nodup) (hco : scope.isCoroutine = false) (hgen : scope.isGenerator = false) (hk : scope.kind = .function)
    (h : ∀ L h₁ tk cells, s.heap.objs.size = L → Fr h₀ L h₁ (bindL (envOfC qual scope L f cdv).kindOf binds fun _ => none) → (∀ b o, s.heap.get? b = some o → h₁.get? b = some o) → News h₀ L h₁ cells →
      CellsAre (bindC (envOfC qual scope L f cdv).kindOf binds fun _ => none) (cellsFrom (L + 1) scope.names []) cells →
      wpAny (model prog w) (A.deeper (envOfC qual scope L f cdv)) (execs body (envOfC qual scope L f cdv))
        (fun fl s' => R (.ok (.ret (match fl with | .ret v => v | _ => .none))) s')
        (fun e s' => wpAny (model prog w) (A.deeper (envOfC qual scope L f cdv)) (leaving (envOfC qual scope L f cdv) e) (fun _ s'' => R (.error e) s'') (fun e' s'' => R (.error e') s'') s')
        { s with heap := h₁, toks := tk }) :
    codeAny (model prog w) A (.call (.ref f) args) R s := by
  refine codeAny_call_function hroom (hsub _ _ (X _ _ ho)) rfl hco hgen rfl (codeRec_of (X.keeps hsub) hcd) (hbind _ _ _ _ ?_)
  refine wpAny_newFunctionEnv_cells hk (kindsX hkind _) fun env' he s' x => ?_
  subst he
  refine ⟨(T.nolimit.keeps hsub).keeps x.toInCall.keep, codeAny_func ?_⟩
  obtain ⟨h₁, tk, rfl, _⟩ := x.done
  have hk₁ := x.toInCall.keep
  obtain ⟨cells, NC, Y⟩ := Cl.news (h₀ := s.heap) (Nat.le_refl _) fun n c hm => ⟨x.cell n c (lookup_of_mem_nodup (cellsFrom_names scope.names 0 (s.heap.objs.size + 1) [] [] rfl ▸ hnd) hm), x.above n c hm⟩
  refine h _ h₁ tk cells rfl ⟨x.toInCall.ns, fun b o e => hk₁ b o (hsub _ _ e), hsz⟩ hk₁ (fun p hp => ⟨(NC p hp).1, (NC p hp).2.1, ?_⟩) Y
  cases q : h₀.get? p.1 with
  | none => rfl
  | some o => have := hsub _ _ q; rw [(NC p hp).2.2] at this; cases this
end
abbrev Ext (h h' : Heap) : Prop := ∀ b o, h.get? b = some o → h'.get? b = some o
abbrev AR (dp : Nat) (fr : Option (List Env)) (gd : Option (List Code)) (un : Nat) : Around := { handled := none, depth := dp, frames := fr, guards := gd, units := un }
abbrev PG : Program := Challenge.rw_yj0039_02.row.prog
abbrev TR (mg mb : Str → Option Value) (h : Heap) : Prop := TopRead view (looseW view lse) mg mb h
theorem fr_ext {h₀ h h' : Heap} {L : Addr} {m : Str → Option Value} (F : Fr h₀ L h m) (k : Ext h h') : Fr h₀ L h' m := F.keeps k
theorem news_ext {h₀ h h' : Heap} {L : Addr} {news : List (Addr × Obj)} (N : News h₀ L h news) (k : Ext h h') : News h₀ L h' news := fun p hp => ⟨k _ _ (N p hp).1, (N p hp).2⟩
theorem fillK : ∀ (P : Params) (r : OpenLaw), (K P).In default → Challenge.rw_yj0039_02 = r → True := by
  k_fill
  exact fun _ _ _ _ => trivial
theorem forget3 {m' m₀ : Str → Option Value} {a b c : Str} (h : ∀ z, z ≠ a → z ≠ b → z ≠ c → m' z = m₀ z) : ∃ u : Str → Option Value, m' = fun z => if z = a then u z else if z = b then u z else if z = c then u z else m₀ z :=
  ⟨m', funext fun z => by
    by_cases h1 : z = a
    · rw [if_pos h1]
    · rw [if_neg h1]
      by_cases h2 : z = b
      · rw [if_pos h2]
      · rw [if_neg h2]
        by_cases h3 : z = c
        · rw [if_pos h3]
        · rw [if_neg h3]; exact h z h1 h2 h3⟩
def Halt (P : Prop) : Prop := P
theorem Halt.out {P : Prop} (h : Halt P) : P := h
theorem Halt.of {P : Prop} (h : P) : Halt P := h
section
variable {prog : Program} {w : World} {A : Around} {E : Value → Shared → Prop} {s : Shared} {env : Env} {h₀ : Heap} {x : Str} {body : List Stmt} {Q : Flow → Shared → Prop}
theorem rr_inv {I : Addr} {a : Int} {n : Nat} (J : Nat → (Str → Option Value) → List (Addr × Obj) → Prop)
    (turn : ∀ i m news t h tk, i < n → J i m news → Fr h₀ env.locals h (fun y => if y = x then some (.int (a + (i : Int)) t) else m y) → News h₀ env.locals h ((I, itR (a + ((i + 1 : Nat) : Int)) ((n : Int) - ((i + 1 : Nat) : Int))) :: news) →
      wpAny (model prog w) A (execs body env) (UnrPost h₀ env.locals { s with heap := h, toks := tk } I (itR (a + ((i + 1 : Nat) : Int)) ((n : Int) - ((i + 1 : Nat) : Int))) (J (i + 1)) Q) E { s with heap := h, toks := tk })
    (done : ∀ m news h tk, J n m news → Fr h₀ env.locals h m → News h₀ env.locals h news → Q .next { s with heap := h, toks := tk }) :
    ∀ k i m news, i + k = n → J i m news → RangeRest prog w A E h₀ env x body Q s I a n k i m news := by
  intro k
  induction k with
  | zero =>
    intro i m news hi hj
    have e : i = n := by omega
    subst e
    exact RangeRest.zero fun h tk F N => done m news h tk hj F N
  | succ k ih =>
    intro i m news hi hj
    refine RangeRest.succ fun t h tk F N => wpAny_mono (turn i m news t h tk (by omega) hj F N) (fun f s' hq => ?_) fun _ _ e => e
    cases f with
    | ret v => exact hq
    | brk => exact hq
    | next => obtain ⟨h', tk', m', news', e, F', N', off, r⟩ := hq; exact ⟨h', tk', m', news', e, F', N', off, ih (i + 1) m' news' (by omega) r⟩
    | cont => obtain ⟨h', tk', m', news', e, F', N', off, r⟩ := hq; exact ⟨h', tk', m', news', e, F', N', off, ih (i + 1) m' news' (by omega) r⟩
end
local macro_rules | `(tactic| walk_at "halt") => `(tactic| (refine Halt.out ?_))
set_option Elab.async false
theorem dlt {a b c R : Nat} (h : a + c < R) (hb : b ≤ c) : a + b < R := Nat.lt_of_le_of_lt (Nat.add_le_add_left hb a) h
theorem lt63 {k : Int} {n : Nat} (h : k < (n : Int)) (h8 : n ≤ 8) : k < 2 ^ 63 := by omega
theorem lt_len {k : Int} {a b : Nat} (h : k < (b : Int)) (e : a = b) : k < (a : Int) := by omega
theorem nat_lt {k : Int} {n : Nat} (h0 : 0 ≤ k) (h : k < (n : Int)) : k.toNat < n := by omega
theorem nat_ne {a b : Int} (h0 : 0 ≤ a) (h1 : 0 ≤ b) (h : a ≠ b) : a.toNat ≠ b.toNat := by omega
theorem size8 {n : Nat} (h : n ≤ 8) : n ≤ sizeLine := by rw [PySem.sizeLine_eq]; omega
theorem sub0 {n : Nat} : ((n : Int) - 0).toNat = n := by omega
theorem pos3 {n : Nat} (h : 3 ≤ n) : 0 < n := by omega
theorem sub1_pos {n : Nat} (h : 3 ≤ n) : 0 < n - 1 := by omega
theorem sub2_pos {n : Nat} (h : 3 ≤ n) : 0 < n - 2 := by omega
theorem cast1 {n : Nat} (h : 3 ≤ n) : ((n - 1 : Nat) : Int) = (n : Int) - 1 := by omega
theorem cast2 {n : Nat} (h : 3 ≤ n) : ((n - 2 : Nat) : Int) = (n : Int) - 2 := by omega
theorem lt_m1 {a n : Int} (h : a < n - 2) : a < n - 1 := by omega
theorem nat_lt2 {k : Int} {n : Nat} (h0 : 0 ≤ k) (h : k < (n : Int) - 2) : k.toNat < n - 2 := by omega
theorem lt_len2 {k : Int} {a n : Nat} (h : k < (n : Int) - 2) (h3 : 3 ≤ n) (e : a = n - 2) : k < (a : Int) := by omega
theorem lt632 {k : Int} {n : Nat} (h : k < (n : Int) - 2) (h8 : n ≤ 8) : k < 2 ^ 63 := by omega
theorem lt3 {i : Nat} (h : i < 3) : i = 0 ∨ i = 1 ∨ i = 2 := by omega
theorem cat_sz {a b r : Nat} (h : r ≤ 8) : min a r + (0 + 1) + (r - b) ≤ 16777216 := by omega
theorem cat_sz1 {a r : Nat} (h : r ≤ 8) : min a r + 1 ≤ 16777216 := by omega
theorem mo_bd {n : Nat} {mo j : Int} (h8 : n ≤ 8) (hj : j = 1 ∨ j = -1) (hm : mo = j * (n : Int)) : -8 ≤ mo ∧ mo ≤ 8 := by
  rcases hj with rfl | rfl <;> omega
theorem jw_bd {w j B : Int} (h : -B ≤ w ∧ w ≤ B) (hj : j = 1 ∨ j = -1) : -B ≤ j * w ∧ j * w ≤ B := by
  rcases hj with rfl | rfl <;> omega
theorem natAbs_53 {a B : Int} (h : -B ≤ a ∧ a ≤ B) (hB : B < 2 ^ 53) : a.natAbs < 2 ^ 53 := by omega
set_option Elab.async false
set_option maxRecDepth 100000
set_option maxHeartbeats 4000000
def cellNum (ns : List Int) (at_ : Int) : Int :=
  if 0 < ns.length then 11 * at_ * at_ + 5 * at_ + 3 + ns.getD (Int.fmod at_ ns.length).toNat 0 * (1 + 5 * Int.fdiv at_ ns.length) else 11 * at_ * at_ + 5 * at_ + 3
def cellv (ns : List Int) (at_ by_ : Int) : Int := Int.fmod (cellNum ns at_) by_ - Int.fdiv by_ 2
theorem cell_pos {ns : List Int} {a b : Int} (h : 0 < (ns.length : Int)) : (11 * a * a + 5 * a + 3 + ns.getD (Int.fmod a ns.length).toNat 0 * (1 + 5 * Int.fdiv a ns.length)).fmod b - b.fdiv 2 = cellv ns a b := by
  unfold cellv cellNum; rw [if_pos (by omega)]
theorem cell_neg {ns : List Int} {a b : Int} (h : ¬ 0 < (ns.length : Int)) : (11 * a * a + 5 * a + 3).fmod b - b.fdiv 2 = cellv ns a b := by
  unfold cellv cellNum; rw [if_neg (by omega)]
theorem cell_end {Q : Value → Shared → Prop} {s : Shared} {x y : Int} {t : Tok} {h' : Heap} {tk : Nat} {L : Addr} {m : Str → Option Value}
    (hret : ∀ t h' tk, Ext s.heap h' → Q (.int y t) { s with heap := h', toks := tk }) (e : x = y) (F : Fr s.heap L h' m) : Q (.int x t) { s with heap := h', toks := tk } := by
  subst e; exact hret _ _ _ F.keep
set_option rowWalk.seconds 0 in
theorem cell_ok {w : World} {mg mb : Str → Option Value} {dp un : Nat} {fr : Option (List Env)} {gd : Option (List Code)} {E Q : Value → Shared → Prop} {s : Shared} {l : Addr} {vs : List Value} {ns : List Int} {at_ by_ : Int} {t1 t2 : Tok}
    (X : (K w.params).In s.heap) (T : TR mg mb s.heap) (hl : s.heap.IsList l vs.toArray) (hi : IntsAre vs ns)
    (hlay : (PyData.list (ns.map PyData.int)).layable0 = true) (ha0 : 0 ≤ at_) (ha1 : at_ ≤ 100) (hb0 : 1 ≤ by_) (hb1 : by_ ≤ 500) (hd : dp + 8 < recursionLimit) (hu : un + 100 < cLine)
    (hret : ∀ t h' tk, Ext s.heap h' → Q (.int (cellv ns at_ by_) t) { s with heap := h', toks := tk }) :
    wpAny (model PG w) (AR dp fr gd un) (call (.ref 189) [.ref l, .int at_ t1, .int by_ t2]) Q E s := by
  have hLK := len_ints_list hlay
  refine wpAny_call ?_
  refine enter (h₀ := s.heap) (fun b o e => e) (Nat.le_refl _) X T (K := K w.params) (f := 189) (binds := [(Str.ofString "script", .ref l), (Str.ofString "at", .int at_ t1), (Str.ofString "by", .int by_ t2)]) (by k_is) (by k_is) (by dsimp only; omega) (BindsTo.of_eq rfl) (locs rfl) (by decide) rfl rfl rfl ?_
  intro L h₁ hL F hk₁ N
  dsimp only
  k_fold
  w_on
  k_steps
  · show Q _ _
    exact cell_end (s := s) hret (cell_pos (by assumption)) (by assumption)
  · show Q _ _
    exact cell_end (s := s) hret (cell_neg (by assumption)) (by assumption)
theorem cell_use {w : World} {mg mb m : Str → Option Value} {dp un : Nat} {fr : Option (List Env)} {gd : Option (List Code)} {E Q : Value → Shared → Prop} {s : Shared} {h₀ : Heap} {L l : Addr} {news : List (Addr × Obj)} {vs : List Value} {ns : List Int} {at_ by_ : Int} {t1 t2 : Tok}
    (F : Fr h₀ L s.heap m) (N : News h₀ L s.heap news) (X : (K w.params).In h₀) (T : TR mg mb h₀) (hl : h₀.IsList l vs.toArray) (hi : IntsAre vs ns)
    (hlay : (PyData.list (ns.map PyData.int)).layable0 = true) (ha0 : 0 ≤ at_) (ha1 : at_ ≤ 100) (hb0 : 1 ≤ by_) (hb1 : by_ ≤ 500) (hd : dp + 8 < recursionLimit) (hu : un + 100 < cLine)
    (hret : ∀ t h' tk, Fr h₀ L h' m → News h₀ L h' news → Q (.int (cellv ns at_ by_) t) { s with heap := h', toks := tk }) :
    wpAny (model PG w) (AR dp fr gd un) (call (.ref 189) [.ref l, .int at_ t1, .int by_ t2]) Q E s :=
  cell_ok (X.keeps F.keep) (T.keeps F.keep) (let ⟨o, e, r⟩ := hl; ⟨o, F.keep _ _ e, r⟩) hi hlay ha0 ha1 hb0 hb1 hd hu fun t h' tk k => hret t h' tk (fr_ext F k) (news_ext N k)
set_option Elab.async false
theorem cellv_lo {ns : List Int} {a b : Int} (h : 1 ≤ b) : -(b / 2) ≤ cellv ns a b := by
  unfold cellv
  rw [Int.fdiv_eq_ediv_of_nonneg _ (by omega), Int.fmod_eq_emod_of_nonneg _ (by omega)]
  have := Int.emod_nonneg (cellNum ns a) (b := b) (by omega)
  omega
theorem cellv_hi {ns : List Int} {a b : Int} (h : 1 ≤ b) : cellv ns a b < b - b / 2 := by
  unfold cellv
  rw [Int.fdiv_eq_ediv_of_nonneg _ (by omega), Int.fmod_eq_emod_of_nonneg _ (by omega)]
  have := Int.emod_lt_of_pos (cellNum ns a) (b := b) (by omega)
  omega
theorem cell_fits {ns : List Int} {a b c : Int} (h : 1 ≤ b) (h2 : b ≤ 500) : IntMulOk (cellv ns a b) c :=
  IntMulOk.of_left (PySem.intBits_le_64 (by have := cellv_lo (ns := ns) (a := a) h; omega) (by have := cellv_hi (ns := ns) (a := a) h; omega))
structure PX (xs : List Int) : Prop where
  lo : 3 ≤ xs.length
  hi : xs.length ≤ 8
  dvd : ∀ v ∈ xs, (xs.length : Int) ∣ v
  bd : ∀ v ∈ xs, -168 ≤ v ∧ v ≤ 168
  ne : ∃ u ∈ xs, ∃ v ∈ xs, u ≠ v
theorem flat_rep (n : Nat) (v : Int) : (List.replicate n [v]).flatten = List.replicate n v := by
  induction n with
  | zero => rfl
  | succ n ih => rw [List.replicate_succ, List.flatten_cons, ih]; rfl
theorem mul_bd {a b A B : Int} (ha : -A ≤ a ∧ a ≤ A) (hb : -B ≤ b ∧ b ≤ B) : -(A * B) ≤ a * b ∧ a * b ≤ A * B := by
  have hA : 0 ≤ A := by omega
  have hB : 0 ≤ B := by omega
  have h1 : a.natAbs * b.natAbs ≤ A.natAbs * B.natAbs := Nat.mul_le_mul (by omega) (by omega)
  rw [← Int.natAbs_mul, ← Int.natAbs_mul] at h1
  have h2 : 0 ≤ A * B := Int.mul_nonneg hA hB
  omega
theorem mulbd {n c : Int} (h1 : 0 ≤ n) (h2 : n ≤ 8) (h3 : -20 ≤ c) (h4 : c ≤ 20) : -160 ≤ n * c ∧ n * c ≤ 160 := by
  have := mul_bd (a := n) (A := 8) (b := c) (B := 20) ⟨by omega, h2⟩ ⟨h3, h4⟩
  exact this
theorem px_ne {n : Int} {g : Int → Int} (h1 : 3 ≤ n) (h2 : n ≤ 8) (hg : ∀ k, -20 ≤ g k ∧ g k ≤ 20)
    (hne : ¬ List.map (fun k => n * g k) (rangeKs 0 (n - 0).toNat) = (List.replicate n.toNat [n * g (0 + 0)]).flatten) : PX (List.map (fun k => n * g k) (rangeKs 0 (n - 0).toNat)) := by
  rw [flat_rep] at hne
  have hl : (List.map (fun k => n * g k) (rangeKs 0 (n - 0).toNat)).length = n.toNat := by rw [List.length_map, rangeKs_length]; omega
  refine ⟨by omega, by omega, fun v hv => ?_, fun v hv => ?_, ?_⟩
  · obtain ⟨k, _, rfl⟩ := List.mem_map.mp hv
    rw [hl, Int.toNat_of_nonneg (by omega)]
    exact ⟨g k, rfl⟩
  · obtain ⟨k, _, rfl⟩ := List.mem_map.mp hv
    have := mulbd (n := n) (c := g k) (by omega) h2 (hg k).1 (hg k).2
    omega
  · refine Classical.byContradiction fun hc => hne ?_
    refine List.eq_replicate_iff.mpr ⟨hl, fun b hb => ?_⟩
    refine Classical.byContradiction fun hb' => hc ⟨b, hb, n * g (0 + 0), ?_, hb'⟩
    refine List.mem_map.mpr ⟨0 + 0, ?_, rfl⟩
    unfold rangeKs
    refine List.mem_map.mpr ⟨0, List.mem_range.mpr (by omega), by omega⟩
theorem px_eq {n : Int} {g : Int → Int} (h1 : 3 ≤ n) (h2 : n ≤ 8) (hg : ∀ k, -20 ≤ g k ∧ g k ≤ 20)
    (he : List.map (fun k => n * g k) (rangeKs 0 (n - 0).toNat) = (List.replicate n.toNat [n * g (0 + 0)]).flatten) : PX ((List.map (fun k => n * g k) (rangeKs 0 (n - 0).toNat)).set 0 (n * g (0 + 0) + n)) := by
  rw [flat_rep] at he
  rw [he]
  obtain ⟨j, hj⟩ : ∃ j, n.toNat = j + 2 := ⟨n.toNat - 2, by omega⟩
  have hb := mulbd (n := n) (c := g (0 + 0)) (by omega) h2 (hg _).1 (hg _).2
  have e : (List.replicate n.toNat (n * g (0 + 0))).set 0 (n * g (0 + 0) + n) = (n * g (0 + 0) + n) :: n * g (0 + 0) :: List.replicate j (n * g (0 + 0)) := by
    rw [hj]; rfl
  have hl : ((n * g (0 + 0) + n) :: n * g (0 + 0) :: List.replicate j (n * g (0 + 0))).length = n.toNat := by simp only [List.length_cons, List.length_replicate]; omega
  rw [e]
  have hm : ∀ v ∈ ((n * g (0 + 0) + n) :: n * g (0 + 0) :: List.replicate j (n * g (0 + 0))), v = n * g (0 + 0) + n ∨ v = n * g (0 + 0) := fun v hv => by
    rcases List.mem_cons.mp hv with h | hv
    · exact .inl h
    · rcases List.mem_cons.mp hv with h | hv
      · exact .inr h
      · exact .inr (List.mem_replicate.mp hv).2
  refine ⟨by omega, by omega, fun v hv => ?_, fun v hv => ?_, ⟨_, List.mem_cons_self, _, List.mem_cons_of_mem _ List.mem_cons_self, by omega⟩⟩
  · rw [hl, Int.toNat_of_nonneg (by omega)]
    rcases hm v hv with rfl | rfl
    · exact ⟨g (0 + 0) + 1, by rw [Int.mul_add, Int.mul_one]⟩
    · exact ⟨g (0 + 0), rfl⟩
  · rcases hm v hv with rfl | rfl <;> omega
set_option Elab.async false
def dot : List Int → List Int → Int
  | a :: r, b :: q => a * b + dot r q
  | _, _ => 0
theorem dot_set {v : Int} : ∀ {fs xs : List Int} {j : Nat}, j < fs.length → fs.length = xs.length → dot (fs.set j v) xs = dot fs xs - fs.getD j 0 * xs.getD j 0 + v * xs.getD j 0
  | [], _, _, h, _ => absurd h (Nat.not_lt_zero _)
  | a :: r, [], _, _, h => by simp at h
  | a :: r, b :: q, 0, _, _ => by
    show v * b + dot r q = a * b + dot r q - a * b + v * b
    omega
  | a :: r, b :: q, j + 1, h, hl => by
    have e := dot_set (v := v) (fs := r) (xs := q) (j := j) (Nat.lt_of_succ_lt_succ h) (Nat.succ.inj hl)
    show a * b + dot (r.set j v) q = a * b + dot r q - r.getD j 0 * q.getD j 0 + v * q.getD j 0
    rw [e]; omega
theorem getD_set_ne {v : Int} {fs : List Int} {i j : Nat} (h : i ≠ j) : (fs.set i v).getD j 0 = fs.getD j 0 := by
  rw [List.getD_eq_getElem?_getD, List.getD_eq_getElem?_getD, List.getElem?_set_ne h]
theorem getD_mem {fs : List Int} {j : Nat} (h : j < fs.length) : fs.getD j 0 ∈ fs := by
  rw [List.getD_eq_getElem?_getD, List.getElem?_eq_getElem h]; exact List.getElem_mem h
structure FX (xs fs : List Int) (B : Int) : Prop where
  len : fs.length = xs.length
  sum0 : fs.sum = 0
  dot0 : dot fs xs = 0
  bd : ∀ v ∈ fs, -B ≤ v ∧ v ≤ B
theorem fx_start (xs : List Int) : FX xs (List.replicate xs.length 0) 0 := by
  refine ⟨by simp, ?_, ?_, fun v hv => by have := (List.mem_replicate.mp hv).2; omega⟩
  · generalize xs.length = n
    induction n with
    | zero => rfl
    | succ n ih => rw [List.replicate_succ, List.sum_cons, ih]; rfl
  · induction xs with
    | nil => rfl
    | cons a r ih => rw [List.length_cons, List.replicate_succ]; show 0 * a + dot _ _ = 0; rw [ih]; omega
theorem mul3bd {o d M : Int} (h1 : -3 ≤ o) (h2 : o ≤ 3) (h3 : -M ≤ d) (h4 : d ≤ M) : -(3 * M) ≤ o * d ∧ o * d ≤ 3 * M := mul_bd ⟨h1, h2⟩ ⟨h3, h4⟩
theorem bd_set {fs : List Int} {B v : Int} {j : Nat} (h : ∀ v ∈ fs, -B ≤ v ∧ v ≤ B) (hv : -B ≤ v ∧ v ≤ B) : ∀ u ∈ fs.set j v, -B ≤ u ∧ u ≤ B := fun u hu => by
  rcases List.mem_or_eq_of_mem_set hu with h' | rfl
  · exact h u h'
  · exact hv
theorem fx_turn {xs fs : List Int} {B o : Int} {a b c : Nat} (X : FX xs fs B) (ha : a < xs.length) (hb : b < xs.length) (hc : c < xs.length) (hab : a ≠ b) (hac : a ≠ c) (hbc : b ≠ c) (h1 : -3 ≤ o) (h2 : o ≤ 3)
    (hx : ∀ v ∈ xs, -168 ≤ v ∧ v ≤ 168) :
    FX xs (((fs.set a (fs.getD a 0 + o * (xs.getD c 0 - xs.getD b 0))).set b ((fs.set a (fs.getD a 0 + o * (xs.getD c 0 - xs.getD b 0))).getD b 0 + o * (xs.getD a 0 - xs.getD c 0))).set c
      (((fs.set a (fs.getD a 0 + o * (xs.getD c 0 - xs.getD b 0))).set b ((fs.set a (fs.getD a 0 + o * (xs.getD c 0 - xs.getD b 0))).getD b 0 + o * (xs.getD a 0 - xs.getD c 0))).getD c 0 + o * (xs.getD b 0 - xs.getD a 0))) (B + 1008) := by
  rw [getD_set_ne hab, getD_set_ne hbc, getD_set_ne hac]
  have la : a < fs.length := by rw [X.len]; exact ha
  have lb : b < fs.length := by rw [X.len]; exact hb
  have lc : c < fs.length := by rw [X.len]; exact hc
  have xa := hx _ (getD_mem ha)
  have xb := hx _ (getD_mem hb)
  have xc := hx _ (getD_mem hc)
  have fa := X.bd _ (getD_mem la)
  have fb := X.bd _ (getD_mem lb)
  have fc := X.bd _ (getD_mem lc)
  have s0 := X.sum0
  have d0 := X.dot0
  have m1 := mul3bd (d := xs.getD c 0 - xs.getD b 0) (M := 336) h1 h2 (by omega) (by omega)
  have m2 := mul3bd (d := xs.getD a 0 - xs.getD c 0) (M := 336) h1 h2 (by omega) (by omega)
  have m3 := mul3bd (d := xs.getD b 0 - xs.getD a 0) (M := 336) h1 h2 (by omega) (by omega)
  refine ⟨by simp only [List.length_set]; exact X.len, ?_, ?_, ?_⟩
  · rw [sum_set (by simp only [List.length_set]; exact lc), sum_set (by simp only [List.length_set]; exact lb), sum_set la, getD_set_ne hab, getD_set_ne hbc, getD_set_ne hac]
    rw [Int.mul_sub, Int.mul_sub, Int.mul_sub]
    omega
  · rw [dot_set (by simp only [List.length_set]; exact lc) (by simp only [List.length_set]; exact X.len), dot_set (by simp only [List.length_set]; exact lb) (by simp only [List.length_set]; exact X.len), dot_set la X.len, getD_set_ne hab, getD_set_ne hbc, getD_set_ne hac, d0]
    generalize xs.getD a 0 = p
    generalize xs.getD b 0 = q
    generalize xs.getD c 0 = r
    generalize fs.getD a 0 = f1
    generalize fs.getD b 0 = f2
    generalize fs.getD c 0 = f3
    grind
  · refine bd_set (bd_set (bd_set (fun v hv => ?_) ?_) ?_) ?_
    · have := X.bd v hv; omega
    · omega
    · omega
    · omega
theorem fmod_n {c : Int} {n : Nat} (h : 0 < n) : 0 ≤ Int.fmod c n ∧ Int.fmod c n < n := by
  rw [Int.fmod_eq_emod_of_nonneg _ (by omega)]
  exact ⟨Int.emod_nonneg _ (by omega), Int.emod_lt_of_pos _ (by omega)⟩
theorem two_n {one d n : Int} (h0 : 0 ≤ one) (h1 : one < n) (d0 : 0 ≤ d) (d1 : d < n - 1) : 0 ≤ Int.fmod (one + 1 + d) n ∧ Int.fmod (one + 1 + d) n < n ∧ Int.fmod (one + 1 + d) n ≠ one := by
  rw [Int.fmod_eq_emod_of_nonneg _ (by omega)]
  by_cases h : one + 1 + d < n
  · rw [Int.emod_eq_of_lt (by omega) h]; omega
  · have : (one + 1 + d) % n = one + 1 + d - n := by
      rw [← Int.sub_emod_right, Int.emod_eq_of_lt (by omega) (by omega)]
    omega
/-- the places other than two -/
def others (one two : Int) (l : List Int) (k : Int) : List Int := if k = one ∨ k = two then l else l ++ [k]
theorem others_no {one two k : Int} {l : List Int} (h : ([one, two].any fun x => x == k) = true) : others one two l k = l := by
  unfold others
  simp only [List.any_cons, List.any_nil, Bool.or_false, Bool.or_eq_true, beq_iff_eq] at h
  rw [if_pos (by omega)]
theorem others_el {one two k : Int} {l : List Int} (h : ([one, two].any fun x => x == k) = false) : others one two l k = l ++ [k] := by
  unfold others
  simp only [List.any_cons, List.any_nil, Bool.or_false, Bool.or_eq_false_iff, beq_eq_false_iff_ne] at h
  rw [if_neg (by omega)]
theorem others_grows (one two : Int) : KPfGrows (others one two) := by
  intro l k
  unfold others
  split <;> simp
theorem others_mem {one two : Int} : ∀ {ks l : List Int} {v : Int}, v ∈ ks.foldl (others one two) l → v ∈ l ∨ (v ∈ ks ∧ v ≠ one ∧ v ≠ two)
  | [], _, _, h => .inl h
  | k :: r, l, v, h => by
    rw [List.foldl_cons] at h
    rcases others_mem h with h | h
    · unfold others at h
      split at h
      · exact .inl h
      · rename_i hk
        rcases List.mem_append.mp h with h | h
        · exact .inl h
        · have := List.mem_singleton.mp h
          subst this
          exact .inr ⟨List.mem_cons_self, fun e => hk (.inl e), fun e => hk (.inr e)⟩
    · exact .inr ⟨List.mem_cons_of_mem _ h.1, h.2⟩
theorem others_len_all : ∀ n < 9, ∀ a < n, ∀ b < n, a ≠ b → 3 ≤ n → ((rangeKs 0 n).foldl (others (a : Int) (b : Int)) []).length = n - 2 := by decide +kernel
theorem others_len {n : Nat} {one two : Int} (h3 : 3 ≤ n) (h8 : n ≤ 8) (a0 : 0 ≤ one) (a1 : one < n) (b0 : 0 ≤ two) (b1 : two < n) (hne : two ≠ one) : ((rangeKs 0 n).foldl (others one two) []).length = n - 2 := by
  have := others_len_all n (by omega) one.toNat (by omega) two.toNat (by omega) (by omega) h3
  rwa [Int.toNat_of_nonneg a0, Int.toNat_of_nonneg b0] at this
theorem far_n {n : Nat} {one two : Int} {j : Nat} (h3 : 3 ≤ n) (h8 : n ≤ 8) (a0 : 0 ≤ one) (a1 : one < n) (b0 : 0 ≤ two) (b1 : two < n) (hne : two ≠ one) (hj : j < n - 2) :
    0 ≤ ((rangeKs 0 n).foldl (others one two) []).getD j 0 ∧ ((rangeKs 0 n).foldl (others one two) []).getD j 0 < n ∧ ((rangeKs 0 n).foldl (others one two) []).getD j 0 ≠ one ∧ ((rangeKs 0 n).foldl (others one two) []).getD j 0 ≠ two := by
  have hl := others_len h3 h8 a0 a1 b0 b1 hne
  rcases others_mem (getD_mem (fs := (rangeKs 0 n).foldl (others one two) []) (j := j) (by omega)) with h | ⟨h, h1, h2⟩
  · cases h
  · have := mem_rangeKs h
    exact ⟨this.1, by omega, h1, h2⟩
set_option Elab.async false
set_option maxRecDepth 100000
set_option maxHeartbeats 8000000
local macro_rules | `(tactic| walk_at "own 1") => `(tactic| ((with_reducible show wpAny _ _ (call (Value.ref 189) _) _ _ _); k_dflt (refine' cell_use ?F ?N ?X ?T ?hl ?hi ?hlay ?a0 ?a1 ?b0 ?b1 ?hd ?hu ?_; (case F => k_asm); (case N => k_asm); (case X => k_asm); (case T => k_asm); (case hl => assumption); (case hi => assumption); (case hlay => assumption); (case a0 => first | decide | omega); (case a1 => first | decide | omega); (case b0 => first | decide | omega); (case b1 => first | decide | omega); (case hd => first | exact dlt (b := 9) (by assumption) (by decide) | omega | (simp only [depth_under_make, depth_under_kw, depth_in1, depth_deeper, depth_caller]; omega)); (case hu => first | exact dlt (b := 103) (by assumption) (by decide) | exact dlt (b := 104) (by assumption) (by decide) | omega | (simp only [units_in1, units_deeper, Around.mark_units]; omega)); k_whole); intro t9 h9 tk9 F9 N9; (try k_sweep)))
local macro_rules | `(tactic| walk_at "part MC2") => `(tactic| skip)
section
local macro_rules | `(tactic| walk_at $k:str) => match [("call ref", "own 1")].lookup k.getString with
  | some n => `(tactic| walk_at $(Lean.Syntax.mkStrLit n))
  | none => Lean.Macro.throwUnsupported
set_option rowWalk.seconds 0 in
theorem places_end {Q : Value → Shared → Prop} {s : Shared} {L l' : Addr} {us : List Value} {xs : List Int} {c tk : Nat} {h' : Heap} {m : Str → Option Value} {news : List (Addr × Obj)}
    (hret : ∀ l' us xs c h' tk, Ext s.heap h' → h'.get? l' = some (listOf (List.toArray us) c) → s.heap.get? l' = none → IntsAre us xs → PX xs → Q (.ref l') { s with heap := h', toks := tk })
    (F : Fr s.heap L h' m) (N : News s.heap L h' news) (hm : (l', listOf (List.toArray us) c) ∈ news) (hi : IntsAre us xs) (px : PX xs) : Q (.ref l') { s with heap := h', toks := tk } :=
  hret _ _ _ _ _ _ F.keep (N _ hm).1 (N _ hm).2.2 hi px
set_option rowWalk.seconds 0 in
theorem places_ok {w : World} {mg mb : Str → Option Value} {dp un : Nat} {fr : Option (List Env)} {gd : Option (List Code)} {E Q : Value → Shared → Prop} {s : Shared} {l : Addr} {vs : List Value} {ns : List Int}
    (X : (K w.params).In s.heap) (T : TR mg mb s.heap) (hl : s.heap.IsList l vs.toArray) (hi : IntsAre vs ns)
    (hlay : (PyData.list (ns.map PyData.int)).layable0 = true) (hd : dp + 12 < recursionLimit) (hu : un + 130 < cLine)
    (hret : ∀ l' us xs c h' tk, Ext s.heap h' → h'.get? l' = some (listOf (List.toArray us) c) → s.heap.get? l' = none → IntsAre us xs → PX xs → Q (.ref l') { s with heap := h', toks := tk }) :
    wpAny (model PG w) (AR dp fr gd un) (call (.ref 194) [.ref l]) Q E s := by
  have hLK := len_ints_list hlay
  refine wpAny_call ?_
  refine enterC (h₀ := s.heap) (fun b o e => e) (Nat.le_refl _) X T (K := K w.params) (f := 194) (binds := [(Str.ofString "script", .ref l)]) (by k_is) (by k_is) (by dsimp only; omega) (BindsTo.of_eq rfl) rfl (by decide +kernel) rfl rfl rfl ?_
  intro L h₁ tk cells hL F hk₁ N Y
  k_cells Y
  dsimp only
  try k_fold
  w_on
  k_steps
  · have hp : 0 < (ys.length : Int) := by simp only [List.length_map, rangeKs_length] at *; omega
    k_dflt (refine' ksa_set ?k1 ?k2 ?k3 ?k4 ?k5 ?k6 ?k7 ?_)
    case k1 => k_asm
    case k2 => k_asm
    case k3 => k_upd
    case k4 => with_reducible assumption
    case k5 => omega
    case k6 => simp only [List.length_map, rangeKs_length] at *; omega
    case k7 => omega
    intro h' F' N' hi' hl' hs'
    k_steps
    show Q _ _
    exact places_end (s := s) hret F' N' (by k_mem) hi' (px_eq (g := fun k' => cellv ns (1 + k') 41) (by omega) (by omega) (fun k => ⟨cellv_lo (by decide), by have := cellv_hi (ns := ns) (a := 1 + k) (b := 41) (by decide); omega⟩) (by assumption))
  · show Q _ _
    exact places_end (s := s) hret (by k_asm) (by k_asm) (by k_mem) (by assumption) (px_ne (g := fun k' => cellv ns (1 + k') 41) (by omega) (by omega) (fun k => ⟨cellv_lo (by decide), by have := cellv_hi (ns := ns) (a := 1 + k) (b := 41) (by decide); omega⟩) (by assumption))
end
set_option Elab.async false
set_option maxRecDepth 100000
set_option maxHeartbeats 16000000
local macro_rules | `(tactic| walk_at "own 2") => `(tactic| first
  | (refine mul_int ?_ (cell_fits (by omega) (by omega)))
  | (refine mul_int ?_ (IntMulOk.of_left (PySem.intBits_le_64 (by omega) (by omega))))
  | (refine mul_int ?_ (IntMulOk.of_right (PySem.intBits_le_64 (by omega) (by omega)))))
local macro_rules | `(tactic| walk_at "own 3") => `(tactic| (k_here; (with_reducible show wpAny _ _ (subscriptTail _ _ (Value.ref _) (Value.int _ _)) _ _ _); k_dflt (first
  | (refine' ksa_sub ?k1 ?k2 ?k3 ?k4 ?k5 ?k6 ?_ ?k7; (case k1 => k_asm); (case k2 => k_mem); (case k3 => with_reducible assumption); (case k4 => first | assumption | omega); (case k5 => first | assumption | exact lt_len (by assumption) (by assumption) | ((try simp only [List.length_set]); omega)); (case k6 => first | exact lt63 (by assumption) (by assumption) | omega); (case k7 => with_unfolding_all rfl); k_whole)
  | (refine' item_anyK (stays_list (Fr.keep ?k1) ?k2) ?k3 ?k4 ?k5 ?k6 ?_ ?k7; (case k1 => k_asm); (case k2 => assumption); (case k3 => with_reducible assumption); (case k4 => first | assumption | omega); (case k5 => first | assumption | exact lt_len (by assumption) (by assumption) | ((try simp only [List.length_set]); omega)); (case k6 => first | exact lt63 (by assumption) (by assumption) | omega); (case k7 => with_unfolding_all rfl); k_whole)); intro _))
local macro_rules | `(tactic| walk_at "own 4") => `(tactic| (k_here; (with_reducible show wpAny _ _ (setItem (Value.ref _) (Value.int _ _) (Value.int _ _)) _ _ _); k_dflt (refine' ksa_set ?k1 ?k2 ?k3 ?k4 ?k5 ?k6 ?k7 ?_; (case k1 => k_asm); (case k2 => k_asm); (case k3 => k_upd); (case k4 => with_reducible assumption); (case k5 => first | assumption | omega); (case k6 => first | assumption | exact lt_len (by assumption) (by assumption) | ((try simp only [List.length_set]); omega)); (case k7 => first | exact lt63 (by assumption) (by assumption) | omega); k_whole); intro h9' F9' N9' hi9' hl9' hs9'; (try k_sweep)))
local macro_rules | `(tactic| walk_at "own 5") => `(tactic| ((with_reducible show wpAny _ _ (storeName _ _ (Value.int (Int.fmod _ _) _)) _ _ _); (refine Halt.out ?_)))
local macro_rules | `(tactic| walk_at "own 6") => `(tactic| (k_here; k_dflt (refine LCt.ListComp_T (F₀ := by k_asm) (by with_unfolding_all rfl) (by decide) (by rfl) (by decide) (by rfl) ?_)))
local macro_rules | `(tactic| walk_at "part MC3") => `(tactic| skip)
section
local macro_rules | `(tactic| walk_at $k:str) => match [("call ref", "own 1"), ("binaryOp Mult int int", "own 2"), ("subscriptTail Name Name ref int", "own 3"), ("setItem ref int", "own 4"), ("RangeRest", "halt"), ("UnrEnd", "halt"), ("storeName", "own 5"), ("eval ListComp", "own 6"), ("CompEnd", "halt"), ("subscriptTail ListComp", "halt"), ("CompSrcT", "halt")].lookup k.getString with
  | some n => `(tactic| walk_at $(Lean.Syntax.mkStrLit n))
  | none => Lean.Macro.throwUnsupported
def JAcr (D l0 lx l L : Addr) (first : Int) (t1 : Tok) (xs : List Int) (i : Nat) (m : Str → Option Value) (news : List (Addr × Obj)) : Prop :=
  (∃ u : Str → Option Value, m = (fun z => if z = Str.ofString "turn" then u z else if z = Str.ofString "far" then u z else if z = Str.ofString "often" then u z else
        (fun z => if z = Str.ofString "found" then some (.ref D) else if z = Str.ofString "x" then some (.ref lx) else if z = Str.ofString "first" then some (.int first t1) else if z = Str.ofString "script" then some (.ref l) else none) z)) ∧
      ∃ (fus : List Value) (fs : List Int) (cnt : Nat) (o0 o1 o2 : Obj) (v1 v2 : Option Value),
      news = [(D, W.listOf fus.toArray cnt), (l0, o0), (L + 1 + 1, o2), (L + 1, o1)] ∧ o1.data = .cell v1 ∧ o2.data = .cell v2 ∧ IntsAre fus fs ∧ FX xs fs (1008 * (i : Int))
set_option rowWalk.seconds 0 in
theorem across_ok {w : World} {mg mb : Str → Option Value} {dp un : Nat} {fr : Option (List Env)} {gd : Option (List Code)} {E Q : Value → Shared → Prop} {s : Shared} {l lx : Addr} {vs us : List Value} {ns xs : List Int} {first : Int} {t1 : Tok}
    (X : (K w.params).In s.heap) (T : TR mg mb s.heap) (hl : s.heap.IsList l vs.toArray) (hi : IntsAre vs ns)
    (hlay : (PyData.list (ns.map PyData.int)).layable0 = true) (hlx : s.heap.IsList lx us.toArray) (hix : IntsAre us xs) (px : PX xs) (hf0 : 0 ≤ first) (hf1 : first ≤ 50) (hd : dp + 12 < recursionLimit) (hu : un + 130 < cLine)
    (hret : ∀ l' us fs c h' tk, Ext s.heap h' → h'.get? l' = some (listOf (List.toArray us) c) → s.heap.get? l' = none → IntsAre us fs → FX xs fs (1008 * (3 : Nat)) → Q (.ref l') { s with heap := h', toks := tk }) :
    wpAny (model PG w) (AR dp fr gd un) (call (.ref 199) [.ref l, .int first t1, .ref lx]) Q E s := by
  have hLK := len_ints_list hlay
  have px1 := px.lo
  have px2 := px.hi
  have hXL : us.length = xs.length := hix.length
  refine wpAny_call ?_
  refine enterC (h₀ := s.heap) (fun b o e => e) (Nat.le_refl _) X T (K := K w.params) (f := 199) (binds := [(Str.ofString "script", .ref l), (Str.ofString "first", .int first t1), (Str.ofString "x", .ref lx)]) (by k_is) (by k_is) (by dsimp only; omega) (BindsTo.of_eq rfl) rfl (by decide +kernel) rfl rfl rfl ?_
  intro L h₁ tk cells hL F hk₁ N Y
  k_cells Y
  dsimp only
  try k_fold
  w_on
  k_steps
  rename_i o2 o1 d2 d1 l0 h5 l1 D h6 i1 n1 s1 e1 e2 e3 l2 h7 F7 N7 h8 tk8 t8 u8 v8 a8 b8 I l3
  refine Halt.of ?_
  refine rr_inv (JAcr D l0 lx l L first t1 xs) ?turn ?done _ _ _ _ rfl ?start
  case start =>
    refine ⟨forget3 fun z _ _ _ => rfl, _, _, _, _, _, _, _, _, rfl, d1, d2, i1, ?_⟩
    have hz : (List.replicate ((xs.length : Int)).toNat [(0 : Int)]).flatten = List.replicate xs.length 0 := by rw [flat_rep, Int.toNat_natCast]
    rw [hz]
    exact fx_start xs
  case done =>
    rintro m news h tk' ⟨⟨u, rfl⟩, fus, fs, cnt, oo0, oo1, oo2, v1, v2, rfl, hd1, hd2, hfi, fx⟩ F9 N9
    k_steps
    show Q _ _
    exact hret _ _ _ _ _ _ F9.keep (N9 _ (by k_mem)).1 (N9 _ (by k_mem)).2.2 hfi fx
  case turn =>
    rintro i m news t h tk' hi3 ⟨⟨u, rfl⟩, fus, fs, cnt, oo0, oo1, oo2, v1, v2, rfl, hd1, hd2, hfi, fx⟩ F9 N9
    have hi0 := lt3 hi3
    have hfl := fx.len
    k_steps
    refine Halt.of ?_
    have c1 := fmod_n (c := cellv ns (first + (0 + (i : Int))) 97) (n := xs.length) (pos3 px1)
    generalize Int.fmod (cellv ns (first + (0 + (i : Int))) 97) (xs.length : Int) = one at c1 ⊢
    obtain ⟨a0, a1⟩ := c1
    k_steps
    refine Halt.of ?_
    have c2 := fmod_n (c := cellv ns (first + 3 + (0 + (i : Int))) 89) (n := xs.length - 2) (sub2_pos px1)
    rw [cast2 px1] at c2
    have c3 := two_n a0 a1 c2.1 (lt_m1 c2.2)
    generalize Int.fmod (one + 1 + Int.fmod (cellv ns (first + 3 + (0 + (i : Int))) 89) ((xs.length : Int) - 2)) (xs.length : Int) = two at c3 ⊢
    clear c2
    obtain ⟨b0, b1, b2⟩ := c3
    k_steps
    refine Halt.of ?_
    k_dflt (refine LCt.CompSrcT.range (by rfl) (by k_asm) (by k_asm) (by assumption) (small_one (by omega) (by omega) (by omega) (by omega)) (rangeSize_nat _ _) (by rw [PySem.sizeLine_eq]; omega) ?_)
    intro g9
    refine kci_range (others one two) ?_ ?_ ?_
    · intro k' t' I' oI' C' oC' D' m' ys' l' h' tk' E' hlo' hhi' hI' hC' hx' F' N' off' ne' mk'
      k_steps
      · refine Halt.of ?_
        exact LCg.CompEnd.intro (by assumption) (by assumption) _ (by kcf_all) off' trivial (kci_no (others_no (by assumption)) rfl)
      · refine Halt.of ?_
        exact LCg.CompEnd.intro (by assumption) (by assumption) _ (by kcf_all) off' trivial (kci_el (others_el (by assumption)) rfl rfl)
    · unfold KPfDone
      intro ys hys hle
      rw [sub0] at hys
      have hol := others_len px1 px2 a0 a1 b0 b1 b2
      have fm := fmod_n (c := 0 + (i : Int)) (n := xs.length - 2) (sub2_pos px1)
      rw [cast2 px1] at fm
      have hfar := far_n (j := (Int.fmod (0 + (i : Int)) ((xs.length : Int) - 2)).toNat) px1 px2 a0 a1 b0 b1 b2 (nat_lt2 fm.1 fm.2)
      k_steps
      refine Halt.of ?_
      k_dflt (refine' ksa_sub ?k1 ?k2 ?k3 ?k4 ?k5 ?k6 ?_ ?k7)
      case k1 => k_asm
      case k2 => k_mem
      case k3 => exact hys
      case k4 => exact fm.1
      case k5 => exact lt_len2 fm.2 px1 hol
      case k6 => exact lt632 fm.2 px2
      case k7 => with_unfolding_all rfl
      intro tf
      generalize List.getD (List.foldl (others one two) [] (rangeKs 0 xs.length)) (Int.fmod (0 + (i : Int)) ((xs.length : Int) - 2)).toNat 0 = far at hfar ⊢
      obtain ⟨f0, f1, f2, f3⟩ := hfar
      clear hys hle hol fm
      k_steps
      refine Halt.of ?_
      refine UnrEnd.intro (by assumption) (by assumption) [(D, W.listOf _ _), (l0, _), (L + 1 + 1, _), (L + 1, _)] (by kcf_all) (by k_all) ⟨forget3 fun z h1 h2 h3 => ?_, _, _, _, _, _, _, _, _, rfl, by assumption, by assumption, by assumption, ?_⟩
      · simp only [if_neg h1, if_neg h2, if_neg h3]
      · rw [show (1008 * ((i + 1 : Nat) : Int)) = 1008 * (i : Int) + 1008 from by omega]
        exact fx_turn fx (nat_lt a0 a1) (nat_lt b0 b1) (nat_lt f0 f1) (nat_ne a0 b0 (Ne.symm b2)) (nat_ne a0 f0 (Ne.symm f2)) (nat_ne b0 f0 (Ne.symm f3)) (cellv_lo (by decide)) (by have := cellv_hi (ns := ns) (a := first + 6 + (0 + (i : Int))) (b := 7) (by decide); omega) px.bd
    · exact others_grows one two
end
set_option Elab.async false
set_option maxRecDepth 100000
section
variable {prog : Program} {w : World} {A : Around} {E : Value → Shared → Prop} {s : Shared} {env : Env}
theorem zip_block {elt iter : Expr} {a b : Str} {pa pb tp : Pos} {kk : Nat} {scope : Scope} {cl : List (Str × Addr)} {pos : Pos} {s₂ : Shared} {I : Addr} {fp wr : List Addr} {n : Nat} {Pt : Nat → Array Value → Prop} {St : Nat → Heap → Prop} {Mid : Nat → Addr → Heap → Prop}
    {P2 : Nat → Value → Value → Prop} {G : Nat → Value → Prop} {RR : Value → Addr → Result → Shared → Prop}
    (W : WalksT prog w A I fp wr n Pt St Mid) (hsz : n ≤ sizeLine) (h2 : ∀ i vals, Pt i vals → ∃ v₁ v₂, vals = #[v₁, v₂] ∧ P2 i v₁ v₂) (hh : A.handled = none)
    (hcell : ∀ y ∈ scope.names, y.2 ≠ .cell) (hkind : scope.kind = .function) (hxa : scope.names.lookup a = some .local) (hxb : scope.names.lookup b = some .local) (hab : a ≠ b)
    (hst : St 0 s₂.heap) (hfp : ∀ c ∈ fp, c < s₂.heap.objs.size)
    (helt : ∀ C i v₁ v₂ s₃ m₃ E', s₂.heap.objs.size ≤ C → i < n → P2 i v₁ v₂ → s₃.heap.Ns C m₃ → m₃ a = some v₁ → m₃ b = some v₂ → (∀ c o, c ∉ wr → s₂.heap.get? c = some o → s₃.heap.get? c = some o) → (∃ h tk, s₃ = { s₂ with heap := h, toks := tk }) →
      wpAny (model prog w) A (eval elt (compEnvC scope cl C env)) (fun y s₄ => G i y ∧ Keeps s₃ s₄) E' s₃)
    (hRR : ∀ D C h' tk m' ys, s₂.heap.objs.size ≤ D → s₂.heap.objs.size ≤ C → D ≠ C → h'.Ns C m' → h'.PlainList D ys → ys.size = n → (∀ i y, ys[i]? = some y → G i y) →
      (∀ c o, c ∉ wr → s₂.heap.get? c = some o → h'.get? c = some o) → RR (.ref D) C (.ok .next) { s₂ with heap := h', toks := tk }) :
    wpAny (model prog w) A (newList []) (fun acc s₃ => wpAny (model prog w) A (newFunctionEnv scope env.globals cl [] env.qual none .none (some env)) (fun cenv s₄ =>
      codeAny (model prog w) A (.compStart (.ListComp elt [⟨.Tuple [.Name a pa, .Name b pb] kk tp, iter, [], 0⟩] scope pos) 0 (.ref I) acc { cenv with scope := relabel scope env }) (RR acc cenv.locals) s₄) E s₃) E s₂ := by
  refine wpAny_newObj_type (wpAny_newFunctionEnv hcell (by intro y hy; simp at hy) (fun h₁ hns₁ hsb₁ => ?_) hkind)
  dsimp only at hns₁ hsb₁ ⊢
  generalize hH2 : s₂.heap.push { cls := .type "list", dict := none, data := .seq ([] : List Value).toArray } = H2 at hns₁ hsb₁ ⊢
  have hC : H2.objs.size = s₂.heap.objs.size + 1 := by rw [← hH2, Heap.size_push]
  have hDC : s₂.heap.objs.size ≠ H2.objs.size := by rw [hC]; exact Nat.ne_of_lt (Nat.lt_succ_self _)
  have below : ∀ c, c < s₂.heap.objs.size → c ≠ H2.objs.size ∧ c ≠ s₂.heap.objs.size := fun c hb => ⟨by rw [hC]; exact Nat.ne_of_lt (Nat.lt_succ_of_lt hb), Nat.ne_of_lt hb⟩
  have hDf : s₂.heap.objs.size ∉ fp := fun hm => Nat.lt_irrefl _ (hfp _ hm)
  have hCf : H2.objs.size ∉ fp := fun hm => by have := hfp _ hm; rw [hC] at this; exact Nat.lt_irrefl _ (Nat.lt_of_succ_lt this)
  have hDw : s₂.heap.objs.size ∉ wr := fun h => hDf (W.sub _ h)
  have hCw : H2.objs.size ∉ wr := fun h => hCf (W.sub _ h)
  have old : ∀ c o, s₂.heap.get? c = some o → h₁.get? c = some o := fun c o e => hsb₁.extBut c o (below c (Heap.lt_size e)).1 (Heap.get?_push_of_some _ (hH2 ▸ Heap.get?_push_of_some _ e))
  have hacc : h₁.PlainList s₂.heap.objs.size #[] := ⟨_, hsb₁.extBut _ _ hDC (Heap.get?_push_of_some _ (hH2 ▸ Heap.get?_push_size _ rfl))⟩
  have hst₁ : St 0 h₁ := W.frame _ _ _ hst fun c _ o e => old c o e
  have hka : (compEnvC scope cl H2.objs.size env).kindOf a = some .local := lookup_relabel_local hxa
  have hkb : (compEnvC scope cl H2.objs.size env).kindOf b = some .local := lookup_relabel_local hxb
  have loop : ∀ s₃ : Shared, s₃ = { s₂ with heap := h₁, toks := s₂.toks + ([] : List (Str × Value)).length } →
      codeAny (model prog w) A (.compLoop (.ListComp elt [⟨.Tuple [.Name a pa, .Name b pb] kk tp, iter, [], 0⟩] scope pos) 0 (.ref I) (.ref s₂.heap.objs.size) (compEnvC scope cl H2.objs.size env))
        (RR (.ref s₂.heap.objs.size) H2.objs.size) s₃ := by
    rintro s₃ rfl
    refine kcp_loop (fun k s' => ∃ h' tk m' ys i, s' = { s₂ with heap := h', toks := tk } ∧ i ≤ n ∧ k = n + 1 - i ∧ ys.size = i ∧ St i h' ∧ h'.Ns H2.objs.size m' ∧ h'.PlainList s₂.heap.objs.size ys ∧
      (∀ i y, ys[i]? = some y → G i y) ∧ (∀ c o, c ∉ wr → s₂.heap.get? c = some o → h'.get? c = some o)) ?_ (n + 1)
      ⟨h₁, _, _, #[], 0, rfl, Nat.zero_le _, rfl, rfl, hst₁, hns₁, hacc, (fun i y e => by simp at e), fun c o _ e => old c o e⟩
    rintro k s' ⟨H, tk, m', ys, i, rfl, hi, rfl, hys, hst', hn', hacc', hG, hk⟩
    by_cases hlt : i < n
    · refine W.item i _ _ _ hlt hst' fun T vals h₂ tk₂ hPv hT hTt hmid hk₂ => ?_
      obtain ⟨v₁, v₂, rfl, hP⟩ := h2 _ _ hPv
      dsimp only
      refine W.go _ _ _ i T _ _ _ hmid fun h₃ hst₃ hk₃ => ?_
      have hTw : T ∉ wr := W.apart _ _ _ hmid
      have hn₃ : h₃.Ns H2.objs.size m' := (hn'.at' fun o e => hk₂ _ o hCw e).at' fun o e => hk₃ _ o hCw e
      have hTt₃ : h₃.IsTuple T #[v₁, v₂] := let ⟨o, e, r⟩ := hTt; ⟨o, hk₃ _ _ hTw e, r⟩
      refine kcp_assign hh hTt₃ hka hkb (by simp [compEnvC, relabel, hkind]) hn₃ fun h₄ tk₄ hn₄ hk₄ => ?_
      have up₄ : ∀ c o, c ≠ H2.objs.size → c ∉ wr → H.get? c = some o → h₄.get? c = some o := fun c o hc hw e => hk₄ c o hc (hk₃ c o hw (hk₂ c o hw e))
      have hst₄ : St (i + 1) h₄ := W.frame _ _ _ hst₃ fun c hc o e => hk₄ c o (fun h => by subst h; exact hCf hc) e
      refine wpAny_mono (helt H2.objs.size i v₁ v₂ _ _ _ (by rw [hC]; exact Nat.le_succ _) hlt hP hn₄ (by simp [hab]) (by simp) (fun c o hc e => up₄ c o (below c (Heap.lt_size e)).1 hc (hk c o hc e)) ⟨_, _, rfl⟩) (fun y s₄ h₅ => ?_) fun _ _ e => e
      obtain ⟨hGy, h₅, tk₅, rfl, hk₅⟩ := h₅
      refine wpAny_list_append_plain (hsz := by rw [hys]; exact Nat.le_trans hi hsz) ((hacc'.at fun o e => up₄ _ o hDC hDw e).at fun o e => hk₅ _ o e) fun h₆ hl₆ hs₆ => ?_
      refine ⟨n + 1 - (i + 1), by omega, h₆, tk₅, _, ys.push y, i + 1, rfl, hlt, rfl, by rw [Array.size_push, hys], W.frame _ _ _ hst₄ fun c hc o e => hs₆.extBut c o (fun h => by subst h; exact hDf hc) (hk₅ c o e), (hn₄.keeps hk₅).sameBut hs₆ (Ne.symm hDC), hl₆, fun j y' e => ?_,
        fun c o hc e => hs₆.extBut c o (below c (Heap.lt_size e)).2 (hk₅ c o (up₄ c o (below c (Heap.lt_size e)).1 hc (hk c o hc e)))⟩
      rw [Array.getElem?_push] at e
      split at e
      · rename_i hj
        cases e
        rw [hj, hys]; exact hGy
      · exact hG _ _ e
    · obtain rfl : i = n := Nat.le_antisymm hi (Nat.not_lt.mp hlt)
      refine W.done _ _ _ hst' fun h₂ tk₂ hk₂ => ?_
      exact hRR _ _ h₂ tk₂ m' ys (Nat.le_refl _) (by rw [hC]; exact Nat.le_succ _) hDC (hn'.at' fun o e => hk₂ _ o hCw e) (hacc'.at fun o e => hk₂ _ o hDw e) hys hG fun c o hc e => hk₂ c o hc (hk c o hc e)
  exact codeAny_compStart_list (loop _ rfl) (W.self 0 _ _ _ hst₁ (loop _ rfl))
end
theorem plain_of {h : Heap} {D : Addr} {ys : Array Value} (x : h.PlainList D ys) : ∃ c, h.get? D = some (W.listOf (List.toArray ys.toList) c) := by
  obtain ⟨n, e⟩ := x
  exact ⟨n, by rw [e]⟩
def FinZ (h₀ : Heap) (L : Addr) (m : Str → Option Value) (s : Shared) (Q : Value → Shared → Prop) (ys : List Value) (news : List (Addr × Obj)) : Prop :=
  ∀ D c h tk, Fr h₀ L h m → News h₀ L h ((D, W.listOf ys.toArray c) :: news) → LCg.Off1 D news → Q (.ref D) { s with heap := h, toks := tk }
def FinZA (h₀ : Heap) (L : Addr) (m : Str → Option Value) (s : Shared) (y : Str) (Q : Flow → Shared → Prop) (ys : List Value) (news : List (Addr × Obj)) : Prop :=
  ∀ D c h tk, Fr h₀ L h (fun z => if z = y then some (.ref D) else m z) → News h₀ L h ((D, W.listOf ys.toArray c) :: news) → LCg.Off1 D news → Q .next { s with heap := h, toks := tk }
def EltEnd (p q : Prop) : Prop := p ∧ q
structure ZipAt (prog : Program) (w : World) (A : Around) (h₀ : Heap) (L : Addr) (m : Str → Option Value) (env : Env) (elt : Expr) (a b : Str) (scope : Scope) (cl : List (Str × Addr)) (Fin : Shared → List Value → List (Addr × Obj) → Prop) (s₁ : Shared)
    (news : List (Addr × Obj)) (xs zs : List Value) (z TI TO i1 i2 l1 l2 : Addr) (G : Nat → Value → Prop) : Prop where
  hh : A.handled = none
  F : Fr h₀ L s₁.heap m
  N : News h₀ L s₁.heap news
  off : ∀ p ∈ news, p.1 < i1
  low : L < i1
  lt : i1 < i2 ∧ i2 < TI ∧ TI < TO ∧ TO < z
  ap : ZipApart z TI TO i1 i2 l1 l2
  hz : IsZip s₁.heap z TI TO .none
  hTI : IsPair s₁.heap TI (.ref i1) (.ref i2)
  hTO : IsPair s₁.heap TO .none .none
  h1 : s₁.heap.IsListIter i1 l1 0
  h2 : s₁.heap.IsListIter i2 l2 0
  hl1 : s₁.heap.IsList l1 xs.toArray
  hl2 : s₁.heap.IsList l2 zs.toArray
  len : zs.length = xs.length
  sz : xs.length ≤ sizeLine
  elt : ∀ i v₁ v₂ C oC m₂ h tk (E' : Value → Shared → Prop), i < xs.length → xs[i]? = some v₁ → zs[i]? = some v₂ → LCg.NsObj oC m₂ → m₂ a = some v₁ → m₂ b = some v₂ → Fr h₀ L h m → News h₀ L h ((C, oC) :: news) →
    wpAny (model prog w) A (eval elt (compEnvC scope cl C env)) (fun y s' => EltEnd (G i y) (Keeps { s₁ with heap := h, toks := tk } s')) E' { s₁ with heap := h, toks := tk }
  fin : ∀ ys, ys.length = xs.length → (∀ i y, ys[i]? = some y → G i y) → Fin s₁ ys news
def ZipGo (prog : Program) (w : World) (A : Around) (h₀ : Heap) (L : Addr) (m : Str → Option Value) (env : Env) (elt : Expr) (a b : Str) (scope : Scope) (cl : List (Str × Addr)) (Fin : Shared → List Value → List (Addr × Obj) → Prop) (xv : Value) (s₁ : Shared) : Prop :=
  ∃ news xs zs z TI TO i1 i2 l1 l2 G, xv = .ref z ∧ ZipAt prog w A h₀ L m env elt a b scope cl Fin s₁ news xs zs z TI TO i1 i2 l1 l2 G
section
variable {prog : Program} {w : World} {A : Around} {E : Value → Shared → Prop} {s : Shared} {env : Env} {h₀ : Heap} {L : Addr} {m : Str → Option Value}
theorem zip_call {elt : Expr} {a b : Str} {scope : Scope} {cl : List (Str × Addr)} {Fin : Shared → List Value → List (Addr × Obj) → Prop} {news : List (Addr × Obj)} {xs zs : List Value} {l1 l2 : Addr} (G : Nat → Value → Prop)
    (hh : A.handled = none) (F : Fr h₀ L s.heap m) (N : News h₀ L s.heap news) (hl1 : s.heap.IsList l1 xs.toArray) (hl2 : s.heap.IsList l2 zs.toArray) (len : zs.length = xs.length) (sz : xs.length ≤ sizeLine)
    (elt_ : ∀ i v₁ v₂ C oC m₂ h tk (E' : Value → Shared → Prop), i < xs.length → xs[i]? = some v₁ → zs[i]? = some v₂ → LCg.NsObj oC m₂ → m₂ a = some v₁ → m₂ b = some v₂ → Fr h₀ L h m → News h₀ L h ((C, oC) :: news) →
      wpAny (model prog w) A (eval elt (compEnvC scope cl C env)) (fun y s' => EltEnd (G i y) (Keeps { s with heap := h, toks := tk } s')) E' { s with heap := h, toks := tk })
    (fin_ : ∀ g ys, ys.length = xs.length → (∀ i y, ys[i]? = some y → G i y) → Fin { s with heap := g } ys news) :
    wpAny (model prog w) A (call (.type "zip") [.ref l1, .ref l2]) (ZipGo prog w A h₀ L m env elt a b scope cl Fin) E s := by
  refine call_zip_2 hl1 hl2 fun h' hz hTI hTO h1 h2 hsz hk => ?_
  have k1 : l1 < s.heap.objs.size := by obtain ⟨_, e, _⟩ := hl1; exact Heap.lt_size e
  have k2 : l2 < s.heap.objs.size := by obtain ⟨_, e, _⟩ := hl2; exact Heap.lt_size e
  exact ⟨news, xs, zs, _, _, _, _, _, l1, l2, G, rfl, ⟨hh, F.keeps hk, news_ext N hk, fun p hp => Heap.lt_size (N p hp).1, F.ns.lt, ⟨Nat.lt_succ_self _, Nat.lt_succ_self _, Nat.lt_succ_self _, Nat.lt_succ_self _⟩, zipApart_new k1 k2,
    hz, hTI, hTO, h1, h2, stays_list hk hl1, stays_list hk hl2, len, sz, elt_, fin_ _⟩⟩
theorem ZipGo.run {elt iter : Expr} {a b : Str} {pa pb tp : Pos} {kk : Nat} {scope : Scope} {cl : List (Str × Addr)} {pos : Pos} {Fin : Shared → List Value → List (Addr × Obj) → Prop} {xv : Value} {s₁ : Shared} {RR : Value → Addr → Result → Shared → Prop}
    (Z : ZipGo prog w A h₀ L m env elt a b scope cl Fin xv s₁)
    (hcell : ∀ y ∈ scope.names, y.2 ≠ .cell) (hkind : scope.kind = .function) (hxa : scope.names.lookup a = some .local) (hxb : scope.names.lookup b = some .local) (hab : a ≠ b)
    (hRR : ∀ D C c h tk m' ys news, Fr h₀ L h m → News h₀ L h ((D, W.listOf ys.toArray c) :: news) → LCg.Off1 D news → h.Ns C m' → h₀.get? C = none → h₀.get? D = none → C ≠ L → D ≠ L → C ≠ D → (∀ p ∈ news, p.1 ≠ C) → Fin s₁ ys news → RR (.ref D) C (.ok .next) { s₁ with heap := h, toks := tk }) :
    wpAny (model prog w) A (pyIter xv) (fun it s₂ => wpAny (model prog w) A (newList []) (fun acc s₃ => wpAny (model prog w) A (newFunctionEnv scope env.globals cl [] env.qual none .none (some env)) (fun cenv s₄ =>
      codeAny (model prog w) A (.compStart (.ListComp elt [⟨.Tuple [.Name a pa, .Name b pb] kk tp, iter, [], 0⟩] scope pos) 0 it acc { cenv with scope := relabel scope env }) (RR acc cenv.locals) s₄) E s₃) E s₂) E s₁ := by
  obtain ⟨news, xs, zs, z, TI, TO, i1, i2, l1, l2, G, rfl, Z⟩ := Z
  refine wpAny_pyIter_zip Z.hz ?_
  have Wz := WalksT.zip2 (prog := prog) (w := w) Z.hh z TI TO i1 i2 l1 l2 Z.ap xs.toArray zs.toArray
  have hmin : min xs.toArray.size zs.toArray.size = xs.length := by simp [Z.len]
  rw [hmin] at Wz
  obtain ⟨e1, e2, e3, e4⟩ := Z.lt
  have e0 := Z.low
  have q1 : ∀ c ∈ [z, TI, TO, i1, i2, l1, l2], c < s₁.heap.objs.size := by
    intro c hc
    have z1 := Heap.lt_size Z.hz
    have z2 := Heap.lt_size Z.hTI
    have z3 := Heap.lt_size Z.hTO
    have z4 : i1 < s₁.heap.objs.size := by obtain ⟨_, e, _⟩ := Z.h1; exact Heap.lt_size e
    have z5 : i2 < s₁.heap.objs.size := by obtain ⟨_, e, _⟩ := Z.h2; exact Heap.lt_size e
    have z6 : l1 < s₁.heap.objs.size := by obtain ⟨_, e, _⟩ := Z.hl1; exact Heap.lt_size e
    have z7 : l2 < s₁.heap.objs.size := by obtain ⟨_, e, _⟩ := Z.hl2; exact Heap.lt_size e
    simp only [List.mem_cons, List.not_mem_nil, or_false] at hc
    rcases hc with rfl | rfl | rfl | rfl | rfl | rfl | rfl <;> assumption
  have above : h₀.objs.size ≤ L := Z.F.above
  have new₀ : ∀ c, L < c → h₀.get? c = none := fun c hc => Heap.get?_none_of_le (Nat.le_of_lt (Nat.lt_of_le_of_lt above hc))
  have wrgt : ∀ c ∈ [z, TO, i1, i2], L < c := by
    intro c hc
    have g2 := Nat.lt_trans e0 e1
    have g3 := Nat.lt_trans g2 e2
    have g4 := Nat.lt_trans g3 e3
    have g5 := Nat.lt_trans g4 e4
    simp only [List.mem_cons, List.not_mem_nil, or_false] at hc
    rcases hc with rfl | rfl | rfl | rfl <;> assumption
  have wrge : ∀ c ∈ [z, TO, i1, i2], i1 ≤ c := by
    intro c hc
    have g3 := Nat.lt_trans e1 e2
    have g4 := Nat.lt_trans g3 e3
    have g5 := Nat.lt_trans g4 e4
    simp only [List.mem_cons, List.not_mem_nil, or_false] at hc
    rcases hc with rfl | rfl | rfl | rfl <;> first | exact Nat.le_refl _ | exact Nat.le_of_lt (by assumption)
  have keepF : ∀ h, (∀ c o, c ∉ [z, TO, i1, i2] → s₁.heap.get? c = some o → h.get? c = some o) → Fr h₀ L h m := fun h hk =>
    ⟨Z.F.ns.at' fun o e => hk L o (fun hm => Nat.lt_irrefl _ (wrgt _ hm)) e, fun c o e => hk c o (fun hm => by rw [new₀ c (wrgt _ hm)] at e; cases e) (Z.F.keep c o e), above⟩
  have keepN : ∀ h, (∀ c o, c ∉ [z, TO, i1, i2] → s₁.heap.get? c = some o → h.get? c = some o) → News h₀ L h news := fun h hk p hp =>
    ⟨hk _ _ (fun hm => Nat.lt_irrefl _ (Nat.lt_of_lt_of_le (Z.off p hp) (wrge _ hm))) (Z.N p hp).1, (Z.N p hp).2⟩
  have Llt : L < s₁.heap.objs.size := Z.F.ns.lt
  refine zip_block (P2 := fun i v₁ v₂ => xs[i]? = some v₁ ∧ zs[i]? = some v₂) (G := G) Wz Z.sz (fun i vals hP => ?_) Z.hh hcell hkind hxa hxb hab ⟨Z.hz, Z.hTI, ⟨_, _, Z.hTO⟩, Z.h1, Z.h2, Z.hl1, Z.hl2⟩ q1
    (fun C i v₁ v₂ s₃ m₃ E' hC hi hP hn ha hb hk hs => ?_) fun D C h' tk m' ys hD hC hDC hn hpl hys hG hk => ?_
  · obtain ⟨x, y, h1, h2, h3⟩ := hP
    exact ⟨x, y, h3, by simpa using h1, by simpa using h2⟩
  · obtain ⟨h, tk, rfl⟩ := hs
    obtain ⟨oC, heC, hoC⟩ := LCg.ns_obj hn
    refine Z.elt i v₁ v₂ C oC m₃ h tk E' hi hP.1 hP.2 hoC ha hb (keepF h hk) fun p hp => ?_
    rcases List.mem_cons.mp hp with rfl | hp
    · exact ⟨heC, Nat.ne_of_gt (Nat.lt_of_lt_of_le Llt hC), new₀ _ (Nat.lt_of_lt_of_le Llt hC)⟩
    · exact keepN h hk p hp
  · obtain ⟨c, heD⟩ := plain_of hpl
    have gD : L < D := Nat.lt_of_lt_of_le Llt hD
    have gC : L < C := Nat.lt_of_lt_of_le Llt hC
    refine hRR D C c h' tk m' ys.toList news (keepF _ hk) (fun p hp => ?_) (LCg.Off3.one (I := D) (C := D) (LCg.Off3.of fun p hp => ?_)) hn (new₀ _ gC) (new₀ _ gD) (Nat.ne_of_gt gC) (Nat.ne_of_gt gD) (Ne.symm hDC) (fun p hp => ?_) (Z.fin _ (by simpa using hys) fun i y e => hG i y (by simpa using e))
    · rcases List.mem_cons.mp hp with rfl | hp
      · exact ⟨heD, Nat.ne_of_gt gD, new₀ _ gD⟩
      · exact keepN _ hk p hp
    · have := Nat.ne_of_lt (Nat.lt_of_lt_of_le (Heap.lt_size (Z.N p hp).1) hD)
      exact ⟨this, this, this⟩
    · exact Nat.ne_of_lt (Nat.lt_of_lt_of_le (Heap.lt_size (Z.N p hp).1) hC)
end
section
variable {prog : Program} {w : World} {A : Around} {E : Value → Shared → Prop} {s : Shared} {env : Env} {h₀ : Heap} {L : Addr} {m : Str → Option Value}
theorem zip_ListComp {elt iter : Expr} {a b : Str} {pa pb tp : Pos} {kk : Nat} {scope : Scope} {cl : List (Str × Addr)} {pos : Pos} {Q : Value → Shared → Prop} (_F₀ : Fr h₀ L s.heap m)
    (hclos : closureFor scope env = pure cl) (hcell : ∀ y ∈ scope.names, y.2 ≠ .cell) (hkind : scope.kind = .function)
    (hnames : ∀ y ∈ scope.names, y.2 = .local → scope.names.lookup y.1 = some .local) (hxa : scope.names.lookup a = some .local) (hxb : scope.names.lookup b = some .local) (hab : a ≠ b)
    (h : wpAny (model prog w) A (eval iter env) (ZipGo prog w A h₀ L m env elt a b scope cl (fun s₂ => FinZ h₀ L m s₂ Q)) E s)
    (hs : ∀ x, foldedSetIterable iter env x = pure x := by intro _; rfl) :
    wpAny (model prog w) A (eval (.ListComp elt [⟨.Tuple [.Name a pa, .Name b pb] kk tp, iter, [], 0⟩] scope pos) env) Q E s := by
  rw [eval_ListComp]
  refine wpAny_comprehension_free (use := none) rfl hs hclos hkind hnames (wpAny_mono h (fun xv s₁ Z => ?_) fun _ _ e => e)
  refine Z.run hcell hkind hxa hxb hab fun D C c h tk m' ys news F N o1 hn hC₀ hD₀ hCL hDL hCD offC fin => ?_
  refine ⟨m', hn, fun h'' hs'' => fin D c h'' tk (F.change hs'' hCL hC₀) (fun p hp => ?_) o1⟩
  refine ⟨hs''.extBut _ _ ?_ (N p hp).1, (N p hp).2⟩
  rcases List.mem_cons.mp hp with rfl | hp
  · exact Ne.symm hCD
  · exact offC p hp
theorem zip_Assign {elt iter : Expr} {a b y : Str} {pa pb tp py : Pos} {kk : Nat} {scope : Scope} {cl : List (Str × Addr)} {pos spos : Pos} {Q : Flow → Shared → Prop} (_F₀ : Fr h₀ L s.heap m) (hLe : env.locals = L)
    (hsw : swapsWith (.ListComp elt [⟨.Tuple [.Name a pa, .Name b pb] kk tp, iter, [], 0⟩] scope pos) (some (.Name y py)) spos.line env = pure true)
    (hclos : closureFor scope env = pure cl) (hcell : ∀ y ∈ scope.names, y.2 ≠ .cell) (hkind : scope.kind = .function)
    (hnames : ∀ y ∈ scope.names, y.2 = .local → scope.names.lookup y.1 = some .local) (hxa : scope.names.lookup a = some .local) (hxb : scope.names.lookup b = some .local) (hab : a ≠ b)
    (hy : env.kindOf y = some .local) (hp : (env.scope.kind == .class || (env.scope.kind == .module && env.locals != env.globals)) = false)
    (h : wpAny (model prog w) A (eval iter env) (ZipGo prog w A h₀ L m env elt a b scope cl (fun s₂ => FinZA h₀ L m s₂ y Q)) E s)
    (hs : ∀ x, foldedSetIterable iter env x = pure x := by intro _; rfl) :
    wpAny (model prog w) A (exec (.Assign [.Name y py] (.ListComp elt [⟨.Tuple [.Name a pa, .Name b pb] kk tp, iter, [], 0⟩] scope pos) spos) env) Q E s := by
  subst hLe
  rw [exec_Assign_Name_used _ _ _ _ hsw]
  refine wpAny_bind (wpAny_standAt (wpAny_bind ?_))
  show wpAny _ A (do let _ ← comprehension (.ListComp elt [⟨.Tuple [.Name a pa, .Name b pb] kk tp, iter, [], 0⟩] scope pos) scope env _ (newList []) false (eval iter env) (some (assign (.Name y py) env))) _ _ s
  refine wpAny_bind (wpAny_mono (wpAny_comprehension_free (use := some (assign (.Name y py) env)) (Q := fun _ s' => Q .next s') rfl hs hclos hkind hnames
    (wpAny_mono h (fun xv s₁ Z => ?_) fun _ _ e => e)) (fun _ s' hq => wpAny_pure (wpAny_pure hq)) fun _ _ e => e)
  refine Z.run hcell hkind hxa hxb hab fun D C c h tk m' ys news F' N' o1 hn hC₀ hD₀ hCL hDL hCD offC fin => ?_
  show wpAny _ A (assign (.Name y py) env (.ref D)) _ _ _
  refine wpAny_assign_Name (wpAny_storeName_local hy F'.ns (fun h₂ hn₂ hs₂ => ?_) hp)
  have hL₀ : h₀.get? env.locals = none := Heap.get?_none_of_le F'.above
  have F₂ : Fr h₀ env.locals h₂ (fun z => if z = y then some (.ref D) else m z) := ⟨hn₂, fun b o e => hs₂.extBut b o (fun q => by rw [q, hL₀] at e; cases e) (F'.keep b o e), F'.above⟩
  refine ⟨m', hn.sameBut hs₂ hCL, fun h'' hs'' => fin D c h'' _ (F₂.change hs'' hCL hC₀) (fun p hp => ?_) o1⟩
  have z : h₂.get? p.1 = some p.2 := hs₂.extBut _ _ (N' p hp).2.1 (N' p hp).1
  refine ⟨hs''.extBut _ _ ?_ z, (N' p hp).2⟩
  rcases List.mem_cons.mp hp with rfl | hp
  · exact Ne.symm hCD
  · exact offC p hp
/-- a block over one name, by a relation -/
theorem cr_rel {elt : Expr} {x : Str} {scope : Scope} {cl : List (Str × Addr)} {S : List (Addr × Obj) → Prop} {P : Nat → Value → Prop} {Fin : List Value → List (Addr × Obj) → Prop} {n : Nat} {news : List (Addr × Obj)} (G : Nat → Value → Prop)
    (turn : ∀ i v I oI C oC D m₂ ys h tk (E' : Value → Shared → Prop), i < n → P i v → LCg.NsObj oC m₂ → m₂ x = some v → Fr h₀ L h m → News h₀ L h ((I, oI) :: (C, oC) :: (D, LCg.lst ys) :: news) → LCg.Off3 I C D news → ((@Ne Nat I C) ∧ (@Ne Nat I D) ∧ (@Ne Nat C D)) →
      wpAny (model prog w) A (eval elt (compEnvC scope cl C env)) (LCg.CompEnd h₀ L m { s with heap := h, toks := tk } I oI C oC D (LCg.lst ys) S (fun y news' => news' = news ∧ G i y)) E' { s with heap := h, toks := tk })
    (fin : ∀ ys, ys.length = n → (∀ i y, ys[i]? = some y → G i y) → Fin ys news) : LCg.CompRest prog w A h₀ L m env elt x scope cl s S P Fin n 0 [] news := by
  have key : ∀ (j i : Nat) (ys : List Value), i + j = n → ys.length = i → (∀ i y, ys[i]? = some y → G i y) → LCg.CompRest prog w A h₀ L m env elt x scope cl s S P Fin j i ys news := by
    intro j
    induction j with
    | zero =>
      intro i ys hi hy hG
      exact LCg.CompRest.zero (fin ys (by omega) hG)
    | succ j ih =>
      intro i ys hi hy hG
      refine LCg.CompRest.succ ?_
      intro v I oI C oC D m₂ h tk E' hv hC hx F N off ne
      refine wpAny_mono (turn i v I oI C oC D m₂ ys h tk E' (by omega) hv hC hx F N off ne) (fun y s₂ hq => ?_) fun _ _ e => e
      obtain ⟨h', tk', nw, e, F', N', off', hS, rfl, hg⟩ := hq
      refine ⟨h', tk', nw, e, F', N', off', hS, ih (i + 1) _ (by omega) (by simp [hy]) fun k y' ey => ?_⟩
      rcases Nat.lt_trichotomy k ys.length with hk | hk | hk
      · rw [List.getElem?_append_left hk] at ey; exact hG _ _ ey
      · subst hk
        rw [List.getElem?_append_right (Nat.le_refl _), Nat.sub_self] at ey
        cases ey
        rw [hy]; exact hg
      · rw [List.getElem?_eq_none (by rw [List.length_append, List.length_singleton]; omega)] at ey; cases ey
  exact key n 0 [] (by omega) rfl (fun i y e => by simp at e)
end
theorem ints_of : ∀ {ys : List Value} {zs : List Int}, ys.length = zs.length → (∀ (i : Nat) (y : Value), ys[i]? = some y → ∃ z t, zs[i]? = some z ∧ y = Value.int z t) → IntsAre ys zs
  | [], [], _, _ => .nil
  | y :: r, z :: q, hl, h => by
    obtain ⟨z', t, e, rfl⟩ := h 0 y rfl
    cases e
    exact .cons _ t (ints_of (Nat.succ.inj hl) fun i y e => h (i + 1) y e)
theorem zipW_get {f : Int → Int → Int} {xs rs : List Int} {i : Nat} {a r : Int} (h1 : xs[i]? = some a) (h2 : rs[i]? = some r) : (List.zipWith f xs rs)[i]? = some (f a r) := by
  rw [List.getElem?_zipWith, h1, h2]
abbrev IsI (zs : List Int) (i : Nat) (y : Value) : Prop := ∃ z t, zs[i]? = some z ∧ y = Value.int z t
theorem isI_zip {f : Int → Int → Int} {xs rs : List Int} {i : Nat} {a r : Int} {t : Tok} {s : Shared} {tk : Nat} (h1 : xs[i]? = some a) (h2 : rs[i]? = some r) : EltEnd (IsI (List.zipWith f xs rs) i (Value.int (f a r) t)) (Keeps s { s with toks := tk }) :=
  ⟨⟨_, t, zipW_get h1 h2, rfl⟩, s.heap, tk, rfl, fun _ _ e => e⟩
set_option Elab.async false
set_option maxRecDepth 100000
set_option maxHeartbeats 16000000
local macro_rules | `(tactic| walk_at "own 7") => `(tactic| (k_here; k_dflt (refine zip_ListComp (by k_asm) (by with_unfolding_all rfl) (by decide) (by rfl) (by decide) (by rfl) (by rfl) (by decide) ?_)))
local macro_rules | `(tactic| walk_at "part MC4") => `(tactic| skip)
section
local macro_rules | `(tactic| walk_at $k:str) => match [("binaryOp Mult int int", "own 2"), ("subscriptTail Name Name ref int", "own 3"), ("setItem ref int", "own 4"), ("eval ListComp", "own 7"), ("call type:zip", "halt")].lookup k.getString with
  | some n => `(tactic| walk_at $(Lean.Syntax.mkStrLit n))
  | none => Lean.Macro.throwUnsupported
set_option rowWalk.seconds 0 in
theorem on_ok {w : World} {mg mb : Str → Option Value} {dp un : Nat} {fr : Option (List Env)} {gd : Option (List Code)} {E Q : Value → Shared → Prop} {s : Shared} {lx lr : Addr} {us ws : List Value} {xs rs : List Int} {slope start : Int} {t1 t2 : Tok}
    (X : (K w.params).In s.heap) (T : TR mg mb s.heap) (hlx : s.heap.IsList lx us.toArray) (hix : IntsAre us xs) (hlr : s.heap.IsList lr ws.toArray) (hir : IntsAre ws rs) (hn : rs.length = xs.length) (h8 : xs.length ≤ 8)
    (hs0 : -1000 ≤ slope) (hs1 : slope ≤ 1000) (hd : dp + 12 < recursionLimit) (hu : un + 130 < cLine)
    (hret : ∀ l' us fs c h' tk, Ext s.heap h' → h'.get? l' = some (listOf (List.toArray us) c) → s.heap.get? l' = none → IntsAre us fs → fs = List.zipWith (fun a r => slope * a + start + r) xs rs → Q (.ref l') { s with heap := h', toks := tk }) :
    wpAny (model PG w) (AR dp fr gd un) (call (.ref 204) [.ref lx, .int slope t1, .int start t2, .ref lr]) Q E s := by
  have hXL : us.length = xs.length := hix.length
  have hRL : ws.length = rs.length := hir.length
  refine wpAny_call ?_
  refine enterC (h₀ := s.heap) (fun b o e => e) (Nat.le_refl _) X T (K := K w.params) (f := 204) (binds := [(Str.ofString "x", .ref lx), (Str.ofString "slope", .int slope t1), (Str.ofString "start", .int start t2), (Str.ofString "rests", .ref lr)]) (by k_is) (by k_is) (by dsimp only; omega) (BindsTo.of_eq rfl) rfl (by decide +kernel) rfl rfl rfl ?_
  intro L h₁ tk cells hL F hk₁ N Y
  k_cells Y
  dsimp only
  try k_fold
  w_on
  k_steps
  refine Halt.of ?_
  refine zip_call (IsI (List.zipWith (fun a r => slope * a + start + r) xs rs)) (by rfl) (by k_asm) (by k_asm) (stays_list (Fr.keep (by k_asm)) hlx) (stays_list (Fr.keep (by k_asm)) hlr) (by omega) (by rw [PySem.sizeLine_eq]; omega) ?_ ?_
  · intro i v₁ v₂ C oC m₂ h tk E' hi' e1 e2 hC ha hb F' N'
    obtain ⟨k1, t3, rfl, hk1⟩ := IntsAre.at hix i v₁ e1
    obtain ⟨k2, t4, rfl, hk2⟩ := IntsAre.at hir i v₂ e2
    k_steps
    exact isI_zip (f := fun a r => slope * a + start + r) hk1 hk2
  · intro g ys hys hG
    unfold FinZ
    intro D c h tk F' N' o1
    k_steps
    show Q _ _
    exact hret _ _ _ _ _ _ F'.keep (N' _ (by k_mem)).1 (N' _ (by k_mem)).2.2 (ints_of (by rw [hys, List.length_zipWith]; omega) hG) rfl
end
section
open PySem.Float64
set_option Elab.async false
theorem hK : ((2 ^ 1074 : Nat) : Int) = 2 ^ 1074 := Int.natCast_pow 2 1074
/-- the float is finite and is exactly the int -/
def FI (x : UInt64) (i : Int) : Prop := (∃ a m e, decode x = .fin a m e) ∧ val x = i * 2 ^ 1074
theorem FI.fin {x : UInt64} {i : Int} (h : FI x i) : isFinite x = true := by
  obtain ⟨⟨a, m, e, h⟩, _⟩ := h
  unfold isFinite; rw [h]
theorem dist_zero {a b : Nat} (h : dist a b = 0) : a = b := by unfold dist at h; omega
theorem dist_self (a : Nat) : dist a a = 0 := by unfold dist; omega
theorem infMag_eq : infMag = 9218868437227405312 := by decide
/-- every int below 2^53, and every such int over a power of two, is a float -/
theorem V_has {n : Nat} (h0 : 0 < n) (h : n < 2 ^ 53) (c : Nat) (hc : 52 ≤ c) (hc2 : c ≤ 1074) : ∃ t, V t = n * 2 ^ c ∧ t < infMag := by
  have hl := Nat.log2_lt (n := n) (k := 53) (by omega) |>.mpr h
  have hlo : 2 ^ n.log2 ≤ n := Nat.log2_self_le (by omega)
  have hhi : n < 2 ^ (n.log2 + 1) := Nat.lt_log2_self
  generalize n.log2 = l at *
  refine ⟨(c - 52 + l) * 2 ^ 52 + n * 2 ^ (52 - l), ?_, ?_⟩
  · rw [V_at]
    · rw [Nat.mul_assoc, ← Nat.pow_add]
      congr 2; omega
    · have : n * 2 ^ (52 - l) ≤ 2 ^ (l + 1) * 2 ^ (52 - l) := Nat.mul_le_mul_right _ (by omega)
      rw [← Nat.pow_add] at this
      have e : l + 1 + (52 - l) = 53 := by omega
      rw [e] at this; exact this
    · left
      have : 2 ^ l * 2 ^ (52 - l) ≤ n * 2 ^ (52 - l) := Nat.mul_le_mul_right _ hlo
      rw [← Nat.pow_add] at this
      have e : l + (52 - l) = 52 := by omega
      rw [e] at this; exact this
  · have : n * 2 ^ (52 - l) ≤ 2 ^ (l + 1) * 2 ^ (52 - l) := Nat.mul_le_mul_right _ (by omega)
    rw [← Nat.pow_add] at this
    have e : l + 1 + (52 - l) = 53 := by omega
    rw [e] at this
    rw [infMag_eq]
    have : (c - 52 + l) * 2 ^ 52 ≤ 1075 * 2 ^ 52 := Nat.mul_le_mul_right _ (by omega)
    omega
theorem V_int {n : Nat} (h : n < 2 ^ 53) : ∃ t, V t = n * 2 ^ 1074 ∧ t < infMag := by
  by_cases h0 : n = 0
  · subst h0; exact ⟨0, by rw [V_zero, Nat.zero_mul], by rw [infMag_eq]; omega⟩
  · exact V_has (by omega) h 1074 (by omega) (by omega)
theorem V_inj {t t' : Nat} (h : V t = V t') : t = t' := by
  rcases Nat.lt_trichotomy t t' with hl | hl | hl
  · exact absurd h (Nat.ne_of_lt (V_lt hl))
  · exact hl
  · exact absurd h.symm (Nat.ne_of_lt (V_lt hl))
theorem over_not {n D W : Nat} (hn : n < 2 ^ 53) (hD : 0 < D) (hW : W = D * (n * 2 ^ 1074)) : ¬ D * ((2 ^ 54 - 1) * 2 ^ 2045) ≤ 2 * W := by
  intro h
  rw [hW, show 2 * (D * (n * 2 ^ 1074)) = D * (2 * n * 2 ^ 1074) from by generalize (2 : Nat) ^ 1074 = q; ac_rfl] at h
  have h1 := Nat.le_of_mul_le_mul_left h hD
  have h2 : 2 * n * 2 ^ 1074 < 2 ^ 54 * 2 ^ 1074 := Nat.mul_lt_mul_of_pos_right (by omega) (Nat.two_pow_pos _)
  have h3 : (2 : Nat) ^ 54 * 2 ^ 1074 = 2 ^ 1128 := by rw [← Nat.pow_add]
  have h4 : (2 : Nat) ^ 2045 ≤ (2 ^ 54 - 1) * 2 ^ 2045 := Nat.le_mul_of_pos_left _ (by decide)
  have h5 : (2 : Nat) ^ 1128 ≤ 2 ^ 2045 := Nat.pow_le_pow_right (by decide) (by decide)
  omega
/-- a rounding of an int below 2^53 is that int -/
theorem right_exact {r : UInt64} {neg : Bool} {W D n : Nat} (R : Right r neg W D) (hD : 0 < D) (hn : n < 2 ^ 53) (hW : W = D * (n * 2 ^ 1074)) : (∃ a m e, decode r = .fin a m e) ∧ val r = sgn neg n * 2 ^ 1074 := by
  obtain ⟨t, rfl, hle, hov, hnear⟩ := R
  have hlt : t < infMag := by
    refine Nat.lt_of_le_of_ne hle fun e => over_not hn hD hW (hov.mp e)
  obtain ⟨t0, h0, _⟩ := V_int hn
  have h1 := (hnear hlt t0).1
  rw [h0, ← hW, dist_self] at h1
  have h2 := dist_zero (Nat.le_zero.mp h1)
  rw [hW] at h2
  have h3 := Nat.eq_of_mul_eq_mul_left hD h2
  obtain ⟨m, e, hd, _⟩ := decode_pack neg hlt
  refine ⟨⟨_, _, _, hd⟩, ?_⟩
  rw [val_pack neg hlt, ← h3, sgn_mul, hK]
theorem K_pos : (0 : Int) < 2 ^ 1074 := by decide +kernel
theorem FI.ofInt {i : Int} (h : i.natAbs < 2 ^ 53) : FI (ofInt i) i := by
  have R := right_exact (ofInt_right i) (by decide) h (by rw [Nat.one_mul])
  refine ⟨R.1, R.2.trans ?_⟩
  congr 1
  unfold sgn
  by_cases hi : i < 0
  · rw [decide_eq_true hi]; simp only [if_true]; omega
  · rw [decide_eq_false hi]; simp only [Bool.false_eq_true, if_false]; omega
theorem natAbs_K (i : Int) : (i * 2 ^ 1074).natAbs = i.natAbs * 2 ^ 1074 := by
  rw [Int.natAbs_mul]; congr 1
theorem sgn_of {s : Int} : sgn (decide (s < 0)) s.natAbs = s := by
  unfold sgn
  by_cases hi : s < 0
  · rw [decide_eq_true hi]; simp only [if_true]; omega
  · rw [decide_eq_false hi]; simp only [Bool.false_eq_true, if_false]; omega
theorem lt_K {s : Int} : (s * 2 ^ 1074 < 0) ↔ s < 0 := by
  constructor
  · intro h
    refine Int.not_le.mp fun h' => Int.not_le.mpr h (Int.mul_nonneg h' (Int.le_of_lt K_pos))
  · exact fun h => Int.mul_neg_of_neg_of_pos h K_pos
theorem zero_val (b : Bool) : (∃ a m e, decode (zero b) = .fin a m e) ∧ val (zero b) = 0 := by
  cases b
  · exact ⟨⟨false, 0, -1074, by kernel_rfl!⟩, by kernel_rfl!⟩
  · exact ⟨⟨true, 0, -1074, by kernel_rfl!⟩, by kernel_rfl!⟩
theorem FI.zero (b : Bool) : FI (Float64.zero b) 0 := ⟨(zero_val b).1, by rw [(zero_val b).2, Int.zero_mul]⟩
theorem FI.add {x y : UInt64} {i j : Int} (hx : FI x i) (hy : FI y j) (h : (i + j).natAbs < 2 ^ 53) : FI (Float64.add x y) (i + j) := by
  obtain ⟨⟨a, m, e, dx⟩, vx⟩ := hx
  obtain ⟨⟨b, k, f, dy⟩, vy⟩ := hy
  have R := add_right dx dy
  have hs : val x + val y = (i + j) * 2 ^ 1074 := by rw [vx, vy, Int.add_mul]
  rw [hs] at R
  by_cases h0 : i + j = 0
  · have := R.1 (by rw [h0, Int.zero_mul])
    rw [this, h0]; exact FI.zero _
  · have hne : (i + j) * 2 ^ 1074 ≠ 0 := fun e => by
      rcases Int.mul_eq_zero.mp e with e | e
      · exact h0 e
      · exact absurd e (Int.ne_of_gt K_pos)
    have R' := R.2 hne
    rw [natAbs_K, show decide ((i + j) * 2 ^ 1074 < 0) = decide (i + j < 0) from decide_eq_decide.mpr lt_K] at R'
    have Z := right_exact R' (by decide) h (by rw [Nat.one_mul])
    exact ⟨Z.1, by rw [Z.2, sgn_of]⟩
theorem FI.neg {x : UInt64} {i : Int} (hx : FI x i) : FI (Float64.neg x) (-i) := by
  obtain ⟨⟨a, m, e, dx⟩, vx⟩ := hx
  exact ⟨⟨_, _, _, neg_decode dx⟩, by rw [neg_val dx, vx, Int.neg_mul]⟩
theorem FI.sub {x y : UInt64} {i j : Int} (hx : FI x i) (hy : FI y j) (h : (i - j).natAbs < 2 ^ 53) : FI (Float64.sub x y) (i - j) := by
  have := FI.add hx hy.neg (by rwa [← Int.sub_eq_add_neg])
  rw [← Int.sub_eq_add_neg] at this
  unfold Float64.sub
  exact this
theorem sgn_mul2 {a b : Bool} {m n : Nat} : sgn (a != b) (m * n) = sgn a m * sgn b n := by
  unfold sgn
  cases a <;> cases b <;> simp [Int.natCast_mul, Int.neg_mul, Int.mul_neg]
theorem sgn_val {x : UInt64} {a : Bool} {m : Nat} {e : Int} (h : decode x = .fin a m e) : val x = sgn a (val x).natAbs := by
  rw [val_eq h, sgn_natAbs]
theorem FI.mul {x y : UInt64} {i j : Int} (hx : FI x i) (hy : FI y j) (h : (i * j).natAbs < 2 ^ 53) : FI (Float64.mul x y) (i * j) := by
  obtain ⟨⟨a, m, e, dx⟩, vx⟩ := hx
  obtain ⟨⟨b, k, f, dy⟩, vy⟩ := hy
  have R := mul_right dx dy
  have sx := sgn_val dx
  have sy := sgn_val dy
  rw [vx, natAbs_K] at sx R
  rw [vy, natAbs_K] at sy R
  have Z := right_exact R (Nat.two_pow_pos _) (n := i.natAbs * j.natAbs) (by rwa [← Int.natAbs_mul]) (by generalize (2 : Nat) ^ 1074 = q; ac_rfl)
  refine ⟨Z.1, Z.2.trans ?_⟩
  congr 1
  rw [sgn_mul2]
  rw [sgn_mul] at sx sy
  rw [hK] at sx sy
  have e1 := Int.eq_of_mul_eq_mul_right (Int.ne_of_gt K_pos) sx
  have e2 := Int.eq_of_mul_eq_mul_right (Int.ne_of_gt K_pos) sy
  rw [← e1, ← e2]
theorem FI.nonzero {x : UInt64} {i : Int} {a : Bool} {m : Nat} {e : Int} (hx : FI x i) (hi : i ≠ 0) (d : decode x = .fin a m e) : m ≠ 0 := fun h => by
  have := val_eq d
  rw [hx.2, h, Nat.zero_mul] at this
  have z : sgn a 0 = 0 := by cases a <;> rfl
  rw [z] at this
  rcases Int.mul_eq_zero.mp this with e | e
  · exact hi e
  · exact absurd e (Int.ne_of_gt K_pos)
theorem FI.div {x y : UInt64} {k j : Int} (hx : FI x (k * j)) (hy : FI y j) (hj : j ≠ 0) (h : k.natAbs < 2 ^ 53) : FI (Float64.div x y) k := by
  have hy' := hy
  obtain ⟨⟨a, m, e, dx⟩, vx⟩ := hx
  obtain ⟨⟨b, q, f, dy⟩, vy⟩ := hy
  have hq := FI.nonzero hy' hj dy
  have R := div_right dx dy hq
  have sx := sgn_val dx
  have sy := sgn_val dy
  rw [vx, natAbs_K] at sx R
  rw [vy, natAbs_K] at sy R
  have hjp : 0 < j.natAbs := by omega
  have Z := right_exact R (Nat.mul_pos hjp (Nat.two_pow_pos _)) h (by rw [Int.natAbs_mul]; generalize (2 : Nat) ^ 1074 = q; ac_rfl)
  refine ⟨Z.1, Z.2.trans ?_⟩
  congr 1
  rw [sgn_mul] at sx sy
  rw [hK] at sx sy
  have e1 := Int.eq_of_mul_eq_mul_right (Int.ne_of_gt K_pos) sx
  have e2 := Int.eq_of_mul_eq_mul_right (Int.ne_of_gt K_pos) sy
  refine Int.eq_of_mul_eq_mul_right hj ?_
  have e3 : sgn ((a != b) != b) (k.natAbs * j.natAbs) = sgn (a != b) k.natAbs * sgn b j.natAbs := sgn_mul2
  rw [show ((a != b) != b) = a from by cases a <;> cases b <;> rfl, ← Int.natAbs_mul, ← e1, ← e2] at e3
  exact e3.symm
theorem FI.cmpInt {x : UInt64} {i : Int} (hx : FI x i) (j : Int) : Float64.cmpInt x j = some (compare i j) := by
  obtain ⟨⟨a, m, e, dx⟩, vx⟩ := hx
  rw [cmpInt_right dx, vx]
  congr 1
  simp only [compare, compareOfLessAndEq]
  have h1 : (i * 2 ^ 1074 < j * 2 ^ 1074) ↔ i < j := ⟨fun h => Int.lt_of_mul_lt_mul_right h (Int.le_of_lt K_pos), fun h => Int.mul_lt_mul_of_pos_right h K_pos⟩
  have h2 : (i * 2 ^ 1074 = j * 2 ^ 1074) ↔ i = j := ⟨fun h => Int.eq_of_mul_eq_mul_right (Int.ne_of_gt K_pos) h, fun h => by rw [h]⟩
  by_cases c1 : i < j
  · rw [if_pos c1, if_pos (h1.mpr c1)]
  · rw [if_neg c1, if_neg fun h => c1 (h1.mp h)]
    by_cases c2 : i = j
    · rw [if_pos c2, if_pos (h2.mpr c2)]
    · rw [if_neg c2, if_neg fun h => c2 (h2.mp h)]
end
section
open PySem.Float64 PySem.Builtin.Math
set_option Elab.async false
theorem FI.isZero {x : UInt64} {i : Int} (hx : FI x i) : Float64.isZero x = decide (i = 0) := by
  have hx' := hx
  obtain ⟨⟨a, m, e, d⟩, v⟩ := hx
  unfold Float64.isZero
  rw [d]
  by_cases h : i = 0
  · have hm : m = 0 := by
      have h1 := val_natAbs d
      rw [v, h, Int.zero_mul, Int.natAbs_zero] at h1
      rcases Nat.mul_eq_zero.mp h1.symm with h2 | h2
      · exact h2
      · exact absurd h2 (Nat.ne_of_gt (Nat.two_pow_pos _))
    subst hm
    rw [decide_eq_true h]
    rfl
  · have hm := FI.nonzero hx' h d
    rw [decide_eq_false h]
    cases m with
    | zero => exact absurd rfl hm
    | succ m => rfl
theorem FI.exact {x : UInt64} {i : Int} {a : Bool} {m : Nat} {e : Int} (hx : FI x i) (d : decode x = .fin a m e) : sgn a (m * 2 ^ (e + 1074).toNat) = i * 2 ^ 1074 := by
  rw [← val_eq d]; exact hx.2
theorem exps {p g : Int} {e f : Int} (hp : p = e + f) {m : Int} (h1 : m ≤ p) (h2 : m ≤ g) (he : -1074 ≤ e) (hf : -1074 ≤ f) (hm : -2148 ≤ m) : (p - m).toNat + (m + 2148).toNat = (e + 1074).toNat + (f + 1074).toNat := by omega
theorem exps2 {g m : Int} (h2 : m ≤ g) (hg : -1074 ≤ g) (hm : -2148 ≤ m) : (g - m).toNat + (m + 2148).toNat = (g + 1074).toNat + 1074 := by omega
theorem fma_zero {x y z : UInt64} {i j : Int} (hx : FI x i) (hy : FI y j) (hz : FI z (-(i * j))) : FI (Float64.fma x y z) 0 := by
  have hx' := hx
  have hy' := hy
  have hz' := hz
  obtain ⟨⟨a, m, e, dx⟩, _⟩ := hx
  obtain ⟨⟨b, k, f, dy⟩, _⟩ := hy
  obtain ⟨⟨c, n, g, dz⟩, _⟩ := hz
  have vx := hx'.exact dx
  have vy := hy'.exact dy
  have vz := hz'.exact dz
  have ge := decode_ge dx
  have gf := decode_ge dy
  have gg := decode_ge dz
  have hp : sgn (a != b) (m * k * 2 ^ (e + f - min (e + f) g).toNat) + sgn c (n * 2 ^ (g - min (e + f) g).toNat) = 0 := by
    have hpos : (0 : Int) < ((2 ^ (min (e + f) g + 2148).toNat : Nat) : Int) := Int.ofNat_lt.mpr (Nat.two_pow_pos _)
    refine Int.eq_of_mul_eq_mul_right (Int.ne_of_gt hpos) ?_
    rw [Int.zero_mul, Int.add_mul, ← sgn_mul, ← sgn_mul, Nat.mul_assoc (m * k), Nat.mul_assoc n, ← Nat.pow_add, ← Nat.pow_add]
    have hm : -2148 ≤ min (e + f) g := Int.le_min.mpr ⟨by omega, by omega⟩
    have e1 := exps rfl (Int.min_le_left (e + f) g) (Int.min_le_right (e + f) g) ge gf hm
    have e2 := exps2 (Int.min_le_right (e + f) g) gg hm
    rw [e1, e2, Nat.pow_add, Nat.pow_add]
    have h1 : sgn (a != b) (m * k * (2 ^ (e + 1074).toNat * 2 ^ (f + 1074).toNat)) = i * 2 ^ 1074 * (j * 2 ^ 1074) := by
      rw [← vx, ← vy, ← sgn_mul2]; congr 1; ac_rfl
    have h2 : sgn c (n * (2 ^ (g + 1074).toNat * 2 ^ 1074)) = -(i * j) * 2 ^ 1074 * 2 ^ 1074 := by
      rw [← Nat.mul_assoc, sgn_mul, vz, hK]
    rw [h1, h2]
    generalize (2 : Int) ^ 1074 = K
    rw [Int.neg_mul, Int.neg_mul]
    have : i * K * (j * K) = i * j * K * K := by ac_rfl
    omega
  unfold Float64.fma
  rw [dx, dy, dz]
  unfold align
  simp only [hp]
  exact FI.zero _
structure Two (p : UInt64 × UInt64) (i : Int) : Prop where
  a : FI p.1 i
  b : FI p.2 0
theorem dlMul_two {x y : UInt64} {i j : Int} (hx : FI x i) (hy : FI y j) (h : (i * j).natAbs < 2 ^ 53) : Two (dlMul x y) (i * j) := by
  have hm := FI.mul hx hy h
  exact ⟨hm, fma_zero hx hy hm.neg⟩
theorem dlSum_two {x y : UInt64} {i j : Int} (hx : FI x i) (hy : FI y j) (h1 : i.natAbs < 2 ^ 52) (h2 : j.natAbs < 2 ^ 52) : Two (dlSum x y) (i + j) := by
  have ha := FI.add hx hy (by omega)
  have hz := FI.sub ha hx (by omega)
  have h3 := FI.sub ha hz (by omega)
  have h4 := FI.sub hx h3 (by omega)
  have h5 := FI.sub hy hz (by omega)
  have h6 := FI.add h4 h5 (by omega)
  refine ⟨ha, ?_⟩
  rw [show (i - (i + j - (i + j - i)) + (j - (i + j - i))) = 0 from by omega] at h6
  exact h6
structure Three (t : UInt64 × UInt64 × UInt64) (i : Int) : Prop where
  a : FI t.1 i
  b : FI t.2.1 0
  c : FI t.2.2 0
theorem tlFma_three {x y : UInt64} {t : UInt64 × UInt64 × UInt64} {i j S : Int} (hx : FI x i) (hy : FI y j) (ht : Three t S) (h1 : (i * j).natAbs < 2 ^ 52) (h2 : S.natAbs < 2 ^ 52) : Three (tlFma x y t) (S + i * j) := by
  have pr := dlMul_two hx hy (by omega)
  have sm := dlSum_two ht.a pr.a h2 h1
  have r1 := dlSum_two ht.b pr.b (by decide) (by decide)
  have r2 := dlSum_two r1.a sm.b (by decide) (by decide)
  have c1 := FI.add ht.c r1.b (by decide)
  have c2 := FI.add c1 r2.b (by decide)
  exact ⟨sm.a, r2.a, c2⟩
theorem tlToFloat_three {t : UInt64 × UInt64 × UInt64} {S : Int} (ht : Three t S) (h2 : S.natAbs < 2 ^ 52) : FI (tlToFloat t) S := by
  have l := dlSum_two ht.b ht.a (by decide) h2
  have c1 := FI.add ht.c l.b (by decide)
  have c2 := FI.add c1 l.a (by omega)
  rw [show (0 + 0 + (0 + S)) = S from by omega] at c2
  exact c2
/-- what fsum keeps between turns -/
def Parts (ps : List UInt64) (S : Int) : Prop := (ps = [] ∧ S = 0) ∨ ∃ p, ps = [p] ∧ FI p S
theorem parts_add {ps : List UInt64} {S v : Int} {x : UInt64} (hp : Parts ps S) (hx : FI x v) (h1 : S.natAbs < 2 ^ 52) (h2 : v.natAbs < 2 ^ 52) : ∃ top, fsumAdd ps x = ([], top) ∧ FI top (S + v) := by
  rcases hp with ⟨rfl, rfl⟩ | ⟨p, rfl, hp⟩
  · exact ⟨x, rfl, by rw [Int.zero_add]; exact hx⟩
  · have key : ∀ a b : UInt64, ∀ i j : Int, FI a i → FI b j → i.natAbs < 2 ^ 52 → j.natAbs < 2 ^ 52 → Float64.isZero (Float64.sub b (Float64.sub (Float64.add a b) a)) = true := by
      intro a b i j ha hb h1 h2
      have h := FI.sub hb (FI.sub (FI.add ha hb (by omega)) ha (by omega)) (by omega)
      rw [FI.isZero h]
      exact decide_eq_true (by omega)
    unfold fsumAdd
    cases hl : Float64.lt (Float64.abs x) (Float64.abs p) with
    | true =>
      simp only [if_true]
      rw [key p x S v hp hx h1 h2]
      exact ⟨_, rfl, FI.add hp hx (by omega)⟩
    | false =>
      simp only [Bool.false_eq_true, if_false]
      rw [key x p v S hx hp h2 h1]
      exact ⟨_, rfl, by rw [Int.add_comm]; exact FI.add hx hp (by omega)⟩
theorem parts_next {top : UInt64} {S : Int} (h : FI top S) : Parts (if Float64.isZero top then [] else [] ++ [top]) S := by
  rw [FI.isZero h]
  by_cases h0 : S = 0
  · rw [decide_eq_true h0]; exact .inl ⟨rfl, h0⟩
  · rw [decide_eq_false h0]; exact .inr ⟨top, rfl, h⟩
theorem parts_end {ps : List UInt64} {S : Int} (hp : Parts ps S) : FI (fsumEnd ps) S := by
  rcases hp with ⟨rfl, rfl⟩ | ⟨p, rfl, hp⟩
  · exact FI.zero false
  · exact hp
end
set_option Elab.async false
set_option maxRecDepth 100000
def tupB (ps : List UInt64) : Obj := { cls := .type "tuple", data := .seq (ps.map fun x => rawInt x.toNat).toArray }
theorem bits_back (ps : List UInt64) : (((ps.map fun x => rawInt x.toNat).toArray.toList.map fun | Value.int i _ => i.toNat.toUInt64 | _ => 0) : List UInt64) = ps := by
  induction ps with
  | nil => rfl
  | cons a r ih =>
    simp only [List.map_cons, rawInt] at ih ⊢
    simp at ih ⊢
    exact ih
theorem not_over {n : Int} (h : n.natAbs < 2 ^ 52) : ¬ Over n := by
  intro o
  have : (2 : Nat) ^ 52 ≤ 2 ^ 1024 - 2 ^ 970 := by decide +kernel
  simp only [Over] at o
  generalize (2 : Nat) ^ 1024 - 2 ^ 970 = K at *
  omega
namespace N
theorem plain_fsum : plainId "math.fsum" = true := by decide +kernel
theorem plain_fsum_loop : plainId "math.fsum.loop" = true := by decide +kernel
theorem entry_fsum : entryFor table "math.fsum" = some Builtin.«math.fsum» := entryFor_of_fast (by kernel_rfl)
theorem entry_fsum_loop : entryFor table "math.fsum.loop" = some Builtin.«math.fsum.loop» := entryFor_of_fast (by kernel_rfl)
theorem kind_fsum : builtinKind "math.fsum" = none := by decide +kernel
theorem plain_sp : plainId "math.sumprod" = true := by decide +kernel
theorem plain_sp_loop : plainId "math.sumprod.loop" = true := by decide +kernel
theorem entry_sp : entryFor table "math.sumprod" = some Builtin.«math.sumprod» := entryFor_of_fast (by kernel_rfl)
theorem entry_sp_loop : entryFor table "math.sumprod.loop" = some Builtin.«math.sumprod.loop» := entryFor_of_fast (by kernel_rfl)
theorem kind_sp : builtinKind "math.sumprod" = none := by decide +kernel
theorem args_fsum (x : Value) : argsOk "math.fsum" ⟨[x], []⟩ := by first | exact rfl | trivial
theorem args_sp (x y : Value) : argsOk "math.sumprod" ⟨[x, y], []⟩ := by first | exact rfl | trivial
end N
set_option Elab.async false
set_option maxRecDepth 100000
theorem unpack {M : Model} {A : Around} {E : Value → Shared → Prop} {s : Shared} {a : Addr} {ps : List UInt64} {Q : List UInt64 → Shared → Prop} (h : s.heap.get? a = some (tupB ps)) (k : Q ps s) :
    wpAny M A (seqItems? (.ref a) >>= fun o => pure ((o.getD #[]).toList.map fun | Value.int i _ => i.toNat.toUInt64 | _ => 0)) Q E s := by
  refine wpAny_bind (wpAny_seqItems h rfl (wpAny_pure ?_))
  exact (congrArg (fun z => Q z s) (bits_back ps)).mpr k
section
variable {prog : Program} {w : World} {A : Around} {R : Result → Shared → Prop} {I : Addr} {fp wr : List Addr} {G : Array GenState → Array GenState → Prop} {P : Nat → Value → Prop} {St : Nat → Shared → Prop}
theorem take_succ_sum {xs : List Int} {i : Nat} {v : Int} (h : xs[i]? = some v) : (xs.take (i + 1)).sum = (xs.take i).sum + v := by
  rw [List.take_add_one, h, List.sum_append]
  show _ + (v + 0) = _
  omega
theorem fsum_loop {xs : List Int} (hh : A.handled = none) (W : WalksS prog w A.in1 I fp wr G xs.length P St) (hval : ∀ i v, P i v → ∃ n t, v = .int n t ∧ xs[i]? = some n)
    (hv : ∀ n ∈ xs, n.natAbs < 2 ^ 52) (hs : ∀ i, ((xs.take i).sum).natAbs < 2 ^ 52) :
    ∀ (k i : Nat) (s : Shared) (ps : List UInt64) (pa sa : Addr), Parts ps (xs.take i).sum → xs.length - i = k → i ≤ xs.length → St i s → s.heap.get? pa = some (tupB ps) → s.heap.get? sa = some (tupB [Float64.zero false, Float64.zero false]) →
      (∀ b ∈ fp, b < pa) → (∀ b ∈ fp, b < sa) →
    (∀ s' x t, FI x xs.sum → Moved wr G s s' → R (.ok (.ret (.float x t))) s') → codeAny (model prog w) A (.builtin "math.fsum.loop" ⟨[.ref I, .ref pa, .ref sa], []⟩) R s := by
  intro k
  induction k with
  | zero =>
    intro i s ps pa sa hp hk hi hst hpa hsa hb1 hb2 hR
    have hin : i = xs.length := by omega
    subst hin
    rw [List.take_length] at hp
    refine codeAny_builtin N.entry_fsum_loop ?_
    rw [Around.under_plainId N.plain_fsum_loop _]
    refine wpAny_bind (unpack hpa ?_)
    refine wpAny_bind (unpack hsa ?_)
    refine wpAny_bind (W.done s _ _ hst fun s' hm => ?_)
    dsimp only
    rw [if_neg (show ¬ (!Float64.isZero (Float64.zero false)) = true from by decide +kernel)]
    show wpAny _ A.in1 (mkFloat _ >>= _) _ _ s'
    refine wpAny_bind (wp_mkFloat ?_)
    exact wpAny_pure (hR _ _ _ (parts_end hp) (hm.then_heap (Nat.le_succ _) fun _ _ _ e => e))
  | succ k ih =>
    intro i s ps pa sa hp hk hi hst hpa hsa hb1 hb2 hR
    have hlt : i < xs.length := by omega
    refine codeAny_builtin N.entry_fsum_loop ?_
    rw [Around.under_plainId N.plain_fsum_loop _]
    refine wpAny_bind (unpack hpa ?_)
    refine wpAny_bind (unpack hsa ?_)
    refine wpAny_bind (W.item i s _ _ hlt hst fun v s' hP hst' hm => ?_)
    obtain ⟨n, t, rfl, hn⟩ := hval i v hP
    have hn52 := hv n (List.mem_of_getElem? hn)
    have hS1 := take_succ_sum hn
    refine wpAny_bind (wpAny_holding (realArg_int hh (fun o => absurd o (not_over hn52)) fun _ => ?_))
    obtain ⟨top, e1, ft⟩ := parts_add hp (FI.ofInt (i := n) (by omega)) (hs i) hn52
    rw [← hS1] at ft
    simp only [e1, ft.fin, if_true]
    refine wpAny_bind (wpAny_newTuple ?_ ?_)
    · refine wpAny_pure ⟨plainId_quiet N.plain_fsum_loop _, ih (i + 1) _ _ _ sa (parts_next ft) (by omega) hlt (W.frame _ s' _ _ hst' (Nat.le_succ _) fun b _ o e => Heap.get?_push_of_some _ e) (Heap.get?_push_size _ rfl) (Heap.get?_push_of_some _ (hm.heap _ _ (fun h => Nat.lt_irrefl _ (hb2 _ (W.sub _ h))) hsa)) (fun b hb => ?_) hb2 fun s'' x t hx hm'' => hR s'' x t hx (Moved.trans W.gtrans (hm.then_heap (Nat.le_succ _) fun b o _ e => Heap.get?_push_of_some _ e) hm'')⟩
      have := Heap.lt_size (hm.heap _ _ (fun h => Nat.lt_irrefl _ (hb1 _ (W.sub _ h))) hpa)
      exact Nat.lt_trans (hb1 b hb) this
    · rw [List.length_map]
      split
      · exact Nat.zero_le _
      · show 1 ≤ sizeLine
        decide
end
section
variable {prog : Program} {w : World} {A : Around} {E : Value → Shared → Prop} {s : Shared} {Q : Value → Shared → Prop} {h₀ : Heap} {L l : Addr} {m : Str → Option Value} {news : List (Addr × Obj)} {vs : List Value} {xs : List Int}
theorem fsum_call (hh : A.handled = none) (hl : s.heap.IsList l vs.toArray) (hf : IntsAre vs xs) (hv : ∀ n ∈ xs, n.natAbs < 2 ^ 52) (hs : ∀ i, ((xs.take i).sum).natAbs < 2 ^ 52)
    (h1 : ∀ h' tk x t, FI x xs.sum → (∀ b o, s.heap.get? b = some o → h'.get? b = some o) → Q (.float x t) { s with heap := h', toks := tk }) :
    wpAny (model prog w) A (call (.builtin "math.fsum") [.ref l]) Q E s := by
  have hlt : l < s.heap.objs.size := by obtain ⟨_, e, _⟩ := hl; exact Heap.lt_size e
  refine call_function_tree N.kind_fsum N.plain_fsum N.entry_fsum (N.args_fsum _) ?_
  show wpAny _ A.in1 ((Builtin.Math.mathOne "fsum" ⟨[.ref l], []⟩) >>= _) _ _ s
  refine wpAny_bind (wpAny_of_eq (show Builtin.Math.mathOne "fsum" ⟨[.ref l], []⟩ = pure (.ref l) from rfl) ?_)
  refine wpAny_bind (iter_list_ hl fun s₂ e st hfp hlI => ?_)
  show wpAny _ A.in1 (newTuple _ >>= _) _ _ _
  refine wpAny_bind (wpAny_newTuple ?_ (by decide))
  show wpAny _ A.in1 (newTuple _ >>= _) _ _ _
  refine wpAny_bind (wpAny_newTuple ?_ (by decide))
  have W := (Walks.list (prog := prog) (w := w) (A := A.in1) hh _ l hlI vs.toArray).toS
  have hlen : vs.toArray.size = xs.length := by simpa using hf.length
  rw [hlen] at W
  refine wpAny_pure ⟨plainId_quiet N.plain_fsum_loop _, fsum_loop hh W (fun i v hP => ?_) hv hs _ 0 _ [] _ _ (.inl ⟨rfl, by rw [List.take_zero]; rfl⟩) rfl (Nat.zero_le _) ?_ ?_ (Heap.get?_push_size _ rfl) ?_ ?_ fun s' x t hx hm => ?_⟩
  · obtain ⟨n, t, rfl, e⟩ := hf.at i v (by simpa using hP)
    exact ⟨n, t, rfl, e⟩
  · exact ⟨st.1.at fun o e => Heap.get?_push_of_some _ (Heap.get?_push_of_some _ e), st.2.at fun o e => Heap.get?_push_of_some _ (Heap.get?_push_of_some _ e)⟩
  · exact Heap.get?_push_of_some _ (Heap.get?_push_size _ rfl)
  · exact fun b hb => hfp b hb
  · exact fun b hb => Nat.lt_trans (hfp b hb) (by rw [Heap.size_push]; exact Nat.lt_succ_self _)
  · subst e
    obtain ⟨hp, g, d, tk, os⟩ := s'
    have kp : ∀ b o, s.heap.get? b = some o → hp.get? b = some o := fun b o e => hm.heap b o (fun h => by
      rcases List.mem_cons.mp h with rfl | h
      · exact Nat.lt_irrefl _ (Heap.lt_size e)
      · cases h) (Heap.get?_push_of_some _ (Heap.get?_push_of_some _ (Heap.get?_push_of_some _ e)))
    have := h1 hp tk x t hx kp
    have e1 : g = s.gens := hm.gens
    have e2 : d = s.drawn := hm.drawn
    have e3 : os = s.os := hm.os
    subst e1 e2 e3
    exact this
end
section
open PySem.Builtin.Math (tlFma tlToFloat)
set_option Elab.async false
set_option maxRecDepth 100000
def tup3 (t : UInt64 × UInt64 × UInt64) : Obj := { cls := .type "tuple", data := .seq [rawInt t.1.toNat, rawInt t.2.1.toNat, rawInt t.2.2.toNat].toArray }
theorem bit_back (x : UInt64) : ((x.toNat : Int)).toNat.toUInt64 = x := by simp
theorem dot_take {xs ys : List Int} : ∀ {i : Nat} {a b : Int}, xs[i]? = some a → ys[i]? = some b → dot (xs.take (i + 1)) (ys.take (i + 1)) = dot (xs.take i) (ys.take i) + a * b := by
  induction xs generalizing ys with
  | nil => intro i a b h _; simp at h
  | cons p r ih =>
    intro i a b h1 h2
    cases ys with
    | nil => simp at h2
    | cons q z =>
      cases i with
      | zero =>
        simp at h1 h2
        subst h1 h2
        show p * q + dot (r.take 0) (z.take 0) = dot [] [] + p * q
        rw [List.take_zero, List.take_zero]
        show p * q + 0 = 0 + p * q
        omega
      | succ i =>
        simp at h1 h2
        have := ih h1 h2
        show p * q + dot (r.take (i + 1)) (z.take (i + 1)) = p * q + dot (r.take i) (z.take i) + a * b
        omega
section
variable {prog : Program} {w : World} {A : Around} {R : Result → Shared → Prop} {I₁ I₂ : Addr} {fp₁ wr₁ fp₂ wr₂ : List Addr} {G₁ G : Array GenState → Array GenState → Prop} {P₁ P₂ : Nat → Value → Prop} {St₁ St₂ : Nat → Shared → Prop}
/-- two walks side by side -/
structure Pair (prog : Program) (w : World) (A : Around) (I₁ I₂ : Addr) (fp₁ wr₁ fp₂ wr₂ : List Addr) (G₁ G : Array GenState → Array GenState → Prop) (n : Nat) (P₁ P₂ : Nat → Value → Prop) (St₁ St₂ : Nat → Shared → Prop) : Prop where
  a : WalksS prog w A I₁ fp₁ wr₁ G₁ n P₁ St₁
  b : WalksS prog w A I₂ fp₂ wr₂ G n P₂ St₂
  g : ∀ a b, G₁ a b → G a b
  d₁ : ∀ x ∈ wr₁, x ∉ fp₂
  d₂ : ∀ x ∈ wr₂, x ∉ fp₁
  stay₁ : ∀ i (s s' : Shared), St₁ i s → (∀ b ∈ fp₁, ∀ o, s.heap.get? b = some o → s'.heap.get? b = some o) → St₁ i s'
  stay₂ : ∀ i (s s' : Shared), St₂ i s → s'.gens = s.gens → (∀ b ∈ fp₂, ∀ o, s.heap.get? b = some o → s'.heap.get? b = some o) → St₂ i s'
  same : ∀ a b, G₁ a b → b = a
abbrev spCode (I₁ I₂ : Addr) (tt : Tok) (io : Bool) (n : Int) (iu : Bool) (fa : Addr) (fu : Bool) : Code := .builtin "math.sumprod.loop" ⟨[.ref I₁, .ref I₂, .int 0 tt, .bool io, rawInt n, .bool iu, .bool true, .ref fa, .bool fu], []⟩
theorem sp_floats {xs ys : List Int} (hn : xs.length = ys.length) (hh : A.handled = none) (W : Pair prog w A.in1 I₁ I₂ fp₁ wr₁ fp₂ wr₂ G₁ G xs.length P₁ P₂ St₁ St₂)
    (hv₁ : ∀ i v, P₁ i v → ∃ x t n, v = .float x t ∧ FI x n ∧ xs[i]? = some n) (hv₂ : ∀ i v, P₂ i v → ∃ x t n, v = .float x t ∧ FI x n ∧ ys[i]? = some n)
    (hb : ∀ (i : Nat) (a b : Int), xs[i]? = some a → ys[i]? = some b → (a * b : Int).natAbs < 2 ^ 52) (hs : ∀ i, (dot (xs.take i) (ys.take i)).natAbs < 2 ^ 52) :
    ∀ (k i : Nat) (s : Shared) (io fu : Bool) (t3 : UInt64 × UInt64 × UInt64) (fa : Addr) (tt : Tok), (fu = true ∨ i < xs.length) → Three t3 (dot (xs.take i) (ys.take i)) → xs.length - i = k → i ≤ xs.length → St₁ i s → St₂ i s → s.heap.get? fa = some (tup3 t3) →
      (∀ b ∈ fp₁, b < fa) → (∀ b ∈ fp₂, b < fa) →
    (∀ s' x t, FI x (dot xs ys) → Moved (wr₁ ++ wr₂) G s s' → R (.ok (.ret (.float x t))) s') → codeAny (model prog w) A (spCode I₁ I₂ tt io 0 false fa fu) R s := by
  intro k
  induction k with
  | zero =>
    intro i s io fu t3 fa tt hf h3 hk hi hst₁ hst₂ hfa hb1 hb2 hR
    have hin : i = xs.length := by omega
    subst hin
    obtain rfl : fu = true := by rcases hf with h | h; exact h; omega
    have hs' := hs xs.length
    rw [List.take_length, hn, List.take_length] at h3 hs'
    refine codeAny_builtin N.entry_sp_loop ?_
    rw [Around.under_plainId N.plain_sp_loop _]
    refine wpAny_bind (wpAny_seqItems hfa rfl ?_)
    refine wpAny_bind (W.a.done s _ _ hst₁ fun s₁ hm₁ => ?_)
    have hst₂' := W.stay₂ _ s s₁ hst₂ (W.same _ _ hm₁.gens) fun b hb o e => hm₁.heap b o (fun h => W.d₁ b h hb) e
    refine wpAny_bind (wpAny_holding (W.b.done s₁ _ _ hst₂' fun s₂ hm₂ => ?_))
    have hm : Moved (wr₁ ++ wr₂) G s s₂ := Moved.trans W.b.gtrans ⟨fun b o hb e => hm₁.heap b o (fun h => hb (List.mem_append_left _ h)) e, W.g _ _ hm₁.gens, hm₁.drawn, hm₁.os, hm₁.toks⟩ (hm₂.mono fun b hb => List.mem_append_right _ hb)
    have fin : wpAny (model prog w) A.in1 (do
        let total ← binaryOp .Add (.int 0 tt) (← mkFloat (tlToFloat (((t3.1.toNat : Int)).toNat.toUInt64, ((t3.2.1.toNat : Int)).toNat.toUInt64, ((t3.2.2.toNat : Int)).toNat.toUInt64)))
        ret total) (fun fin s'' => match fin with | .done f => R (.ok f) s'' | .again c' => c'.quiet = true ∧ codeAny (model prog w) A c' R s'') (fun e s'' => R (.error e) s'') s₂ := by
      rw [bit_back, bit_back, bit_back]
      refine wpAny_bind (wp_mkFloat (wpAny_bind (AutoFloatOps.add_if_1 (by decide +kernel) ?_)))
      refine wpAny_pure (hR _ _ _ ?_ (hm.then_heap (Nat.le_succ_of_le (Nat.le_succ _)) fun _ _ _ e => e))
      have := FI.add (FI.ofInt (i := 0) (by decide)) (tlToFloat_three h3 hs') (by rw [Int.zero_add]; omega)
      rwa [Int.zero_add] at this
    cases io with
    | true => exact wpAny_bind (wpAny_rule (wpAny_bind (wpAny_rule fin)))
    | false => exact wpAny_bind (wpAny_rule fin)
  | succ k ih =>
    intro i s io fu t3 fa tt hf h3 hk hi hst₁ hst₂ hfa hb1 hb2 hR
    have hlt : i < xs.length := by omega
    refine codeAny_builtin N.entry_sp_loop ?_
    rw [Around.under_plainId N.plain_sp_loop _]
    refine wpAny_bind (wpAny_seqItems hfa rfl ?_)
    refine wpAny_bind (W.a.item i s _ _ hlt hst₁ fun v₁ s₁ hP₁ hst₁' hm₁ => ?_)
    have hst₂' := W.stay₂ _ s s₁ hst₂ (W.same _ _ hm₁.gens) fun b hb o e => hm₁.heap b o (fun h => W.d₁ b h hb) e
    refine wpAny_bind (wpAny_holding (W.b.item i s₁ _ _ hlt hst₂' fun v₂ s₂ hP₂ hst₂'' hm₂ => ?_))
    have hst₁'' := W.stay₁ _ s₁ s₂ hst₁' fun b hb o e => hm₂.heap b o (fun h => W.d₂ b h hb) e
    have hm : Moved (wr₁ ++ wr₂) G s s₂ := Moved.trans W.b.gtrans ⟨fun b o hb e => hm₁.heap b o (fun h => hb (List.mem_append_left _ h)) e, W.g _ _ hm₁.gens, hm₁.drawn, hm₁.os, hm₁.toks⟩ (hm₂.mono fun b hb => List.mem_append_right _ hb)
    have hfw : fa ∉ wr₁ ++ wr₂ := fun h => by
      rcases List.mem_append.mp h with h | h
      · exact Nat.lt_irrefl _ (hb1 _ (W.a.sub _ h))
      · exact Nat.lt_irrefl _ (hb2 _ (W.b.sub _ h))
    have hfa' := hm.heap _ _ hfw hfa
    obtain ⟨x, t, a, rfl, fx, ha⟩ := hv₁ i v₁ hP₁
    obtain ⟨y, u, b, rfl, fy, hb'⟩ := hv₂ i v₂ hP₂
    have h3' := tlFma_three fx fy h3 (hb i a b ha hb') (hs i)
    rw [← dot_take ha hb'] at h3'
    have turn : ∀ Z : Sem Fin, wpAny (model prog w) A.in1 (if Float64.isFinite (tlFma x y (((t3.1.toNat : Int)).toNat.toUInt64, ((t3.2.1.toNat : Int)).toNat.toUInt64, ((t3.2.2.toNat : Int)).toNat.toUInt64)).1 = true then (
        newTuple [rawInt (tlFma x y (((t3.1.toNat : Int)).toNat.toUInt64, ((t3.2.1.toNat : Int)).toNat.toUInt64, ((t3.2.2.toNat : Int)).toNat.toUInt64)).1.toNat, rawInt (tlFma x y (((t3.1.toNat : Int)).toNat.toUInt64, ((t3.2.1.toNat : Int)).toNat.toUInt64, ((t3.2.2.toNat : Int)).toNat.toUInt64)).2.1.toNat, rawInt (tlFma x y (((t3.1.toNat : Int)).toNat.toUInt64, ((t3.2.1.toNat : Int)).toNat.toUInt64, ((t3.2.2.toNat : Int)).toNat.toUInt64)).2.2.toNat] >>= fun t =>
        again (.builtin "math.sumprod.loop" ⟨[.ref I₁, .ref I₂, .int 0 tt, .bool false, rawInt 0, .bool false, .bool true, t, .bool true], []⟩)) else Z) (fun fin s'' => match fin with | .done f => R (.ok f) s'' | .again c' => c'.quiet = true ∧ codeAny (model prog w) A c' R s'') (fun e s'' => R (.error e) s'') s₂ := by
      intro Z
      rw [bit_back, bit_back, bit_back, if_pos h3'.a.fin]
      refine wpAny_bind (wpAny_newTuple ?_ (by show 3 ≤ sizeLine; decide))
      have hlt' := Heap.lt_size hfa'
      refine wpAny_pure ⟨plainId_quiet N.plain_sp_loop _, ih (i + 1) _ false true _ _ tt (.inl rfl) h3' (by omega) hlt ?_ ?_ (Heap.get?_push_size _ rfl) (fun b hb => Nat.lt_trans (hb1 b hb) hlt') (fun b hb => Nat.lt_trans (hb2 b hb) hlt') fun s'' x t hx hm'' => hR s'' x t hx (Moved.trans W.b.gtrans (hm.then_heap (Nat.le_refl _) fun b o _ e => Heap.get?_push_of_some _ e) hm'')⟩
      · exact W.stay₁ _ _ _ hst₁'' fun b _ o e => Heap.get?_push_of_some _ e
      · exact W.stay₂ _ _ _ hst₂'' rfl fun b _ o e => Heap.get?_push_of_some _ e
    cases io with
    | true => exact wpAny_bind (wpAny_rule (turn _))
    | false => exact turn _
end
end
section
open PySem.Builtin.Math (maxSsize)
set_option Elab.async false
set_option maxRecDepth 100000
section
variable {prog : Program} {w : World} {A : Around} {R : Result → Shared → Prop} {I₁ I₂ : Addr} {fp₁ wr₁ fp₂ wr₂ : List Addr} {G₁ G : Array GenState → Array GenState → Prop} {P₁ P₂ : Nat → Value → Prop} {St₁ St₂ : Nat → Shared → Prop}
theorem fits52 {n : Int} (h : n.natAbs < 2 ^ 52) : (decide (-(2 ^ 63) ≤ n) && decide (n ≤ maxSsize)) = true := by
  rw [Bool.and_eq_true, decide_eq_true_eq, decide_eq_true_eq]
  have : maxSsize = 9223372036854775807 := by decide
  omega
theorem sp_ints {xs ys : List Int} (hn : xs.length = ys.length) (W : Pair prog w A.in1 I₁ I₂ fp₁ wr₁ fp₂ wr₂ G₁ G xs.length P₁ P₂ St₁ St₂)
    (hv₁ : ∀ i v, P₁ i v → ∃ n t, v = .int n t ∧ xs[i]? = some n) (hv₂ : ∀ i v, P₂ i v → ∃ n t, v = .int n t ∧ ys[i]? = some n)
    (hb : ∀ (i : Nat) (a b : Int), xs[i]? = some a → ys[i]? = some b → (a * b : Int).natAbs < 2 ^ 52 ∧ a.natAbs < 2 ^ 52 ∧ b.natAbs < 2 ^ 52) (hs : ∀ i, (dot (xs.take i) (ys.take i)).natAbs < 2 ^ 52) :
    ∀ (k i : Nat) (s : Shared) (iu : Bool) (t3 : UInt64 × UInt64 × UInt64) (fa : Addr) (tt : Tok), (iu = true ∨ i < xs.length) → xs.length - i = k → i ≤ xs.length → St₁ i s → St₂ i s → s.heap.get? fa = some (tup3 t3) →
      (∀ b ∈ fp₁, b < fa) → (∀ b ∈ fp₂, b < fa) →
    (∀ s' t, Moved (wr₁ ++ wr₂) G s s' → R (.ok (.ret (.int (dot xs ys) t))) s') → codeAny (model prog w) A (spCode I₁ I₂ tt true (dot (xs.take i) (ys.take i)) iu fa false) R s := by
  intro k
  induction k with
  | zero =>
    intro i s iu t3 fa tt hf hk hi hst₁ hst₂ hfa hb1 hb2 hR
    have hin : i = xs.length := by omega
    subst hin
    obtain rfl : iu = true := by rcases hf with h | h; exact h; omega
    rw [List.take_length, hn, List.take_length]
    refine codeAny_builtin N.entry_sp_loop ?_
    rw [Around.under_plainId N.plain_sp_loop _]
    refine wpAny_bind (wpAny_seqItems hfa rfl ?_)
    refine wpAny_bind (W.a.done s _ _ hst₁ fun s₁ hm₁ => ?_)
    have hst₂' := W.stay₂ _ s s₁ hst₂ (W.same _ _ hm₁.gens) fun b hb o e => hm₁.heap b o (fun h => W.d₁ b h hb) e
    refine wpAny_bind (wpAny_holding (W.b.done s₁ _ _ hst₂' fun s₂ hm₂ => ?_))
    have hm : Moved (wr₁ ++ wr₂) G s s₂ := Moved.trans W.b.gtrans ⟨fun b o hb e => hm₁.heap b o (fun h => hb (List.mem_append_left _ h)) e, W.g _ _ hm₁.gens, hm₁.drawn, hm₁.os, hm₁.toks⟩ (hm₂.mono fun b hb => List.mem_append_right _ hb)
    refine wpAny_bind (wpAny_rule ?_)
    refine wpAny_bind (wpAny_mkInt (wpAny_bind (wpAny_holding (wpAny_add_int ?_))))
    refine wpAny_bind (wpAny_rule ?_)
    rw [Int.zero_add]
    exact wpAny_pure (hR _ _ (hm.then_heap (Nat.le_succ_of_le (Nat.le_succ _)) fun _ _ _ e => e))
  | succ k ih =>
    intro i s iu t3 fa tt hf hk hi hst₁ hst₂ hfa hb1 hb2 hR
    have hlt : i < xs.length := by omega
    refine codeAny_builtin N.entry_sp_loop ?_
    rw [Around.under_plainId N.plain_sp_loop _]
    refine wpAny_bind (wpAny_seqItems hfa rfl ?_)
    refine wpAny_bind (W.a.item i s _ _ hlt hst₁ fun v₁ s₁ hP₁ hst₁' hm₁ => ?_)
    have hst₂' := W.stay₂ _ s s₁ hst₂ (W.same _ _ hm₁.gens) fun b hb o e => hm₁.heap b o (fun h => W.d₁ b h hb) e
    refine wpAny_bind (wpAny_holding (W.b.item i s₁ _ _ hlt hst₂' fun v₂ s₂ hP₂ hst₂'' hm₂ => ?_))
    have hst₁'' := W.stay₁ _ s₁ s₂ hst₁' fun b hb o e => hm₂.heap b o (fun h => W.d₂ b h hb) e
    have hm : Moved (wr₁ ++ wr₂) G s s₂ := Moved.trans W.b.gtrans ⟨fun b o hb e => hm₁.heap b o (fun h => hb (List.mem_append_left _ h)) e, W.g _ _ hm₁.gens, hm₁.drawn, hm₁.os, hm₁.toks⟩ (hm₂.mono fun b hb => List.mem_append_right _ hb)
    have hfw : fa ∉ wr₁ ++ wr₂ := fun h => by
      rcases List.mem_append.mp h with h | h
      · exact Nat.lt_irrefl _ (hb1 _ (W.a.sub _ h))
      · exact Nat.lt_irrefl _ (hb2 _ (W.b.sub _ h))
    have hfa' := hm.heap _ _ hfw hfa
    obtain ⟨a, t, rfl, ha⟩ := hv₁ i v₁ hP₁
    obtain ⟨b, u, rfl, hb'⟩ := hv₂ i v₂ hP₂
    obtain ⟨b1, b2, b3⟩ := hb i a b ha hb'
    have hd := dot_take ha hb'
    have b4 := hs (i + 1)
    rw [hd] at b4
    have turn : ∀ Z : Sem Fin, wpAny (model prog w) A.in1 (if ((decide (-(2 ^ 63) ≤ a) && decide (a ≤ maxSsize)) && (decide (-(2 ^ 63) ≤ b) && decide (b ≤ maxSsize)) && (decide (-(2 ^ 63) ≤ a * b) && decide (a * b ≤ maxSsize)) && (decide (-(2 ^ 63) ≤ dot (xs.take i) (ys.take i) + a * b) && decide (dot (xs.take i) (ys.take i) + a * b ≤ maxSsize))) = true then
        again (spCode I₁ I₂ tt true (dot (xs.take i) (ys.take i) + a * b) true fa false) else Z) (fun fin s'' => match fin with | .done f => R (.ok f) s'' | .again c' => c'.quiet = true ∧ codeAny (model prog w) A c' R s'') (fun e s'' => R (.error e) s'') s₂ := by
      intro Z
      rw [fits52 b1, fits52 b2, fits52 b3, fits52 b4]
      refine wpAny_pure ⟨plainId_quiet N.plain_sp_loop _, ?_⟩
      rw [← hd]
      exact ih (i + 1) _ true t3 fa tt (.inl rfl) (by omega) hlt hst₁'' hst₂'' hfa' hb1 hb2 fun s'' t hm'' => hR s'' t (Moved.trans W.b.gtrans hm hm'')
    exact turn _
/-- math.sumprod of a list and whatever walks -/
theorem sp_call {E : Value → Shared → Prop} {s : Shared} {l : Addr} {its : Array Value} {v₂ : Value} {Q : Value → Shared → Prop} (hl : s.heap.IsList l its)
    (h : ∀ s₂ : Shared, s₂ = { s with heap := s.heap.push { cls := .type "list_iterator", data := .fields #[.ref l, .int 0 0] } } → s₂.heap.IsListIter s.heap.objs.size l 0 → s₂.heap.IsList l its →
      wpAny (model prog w) A.in1 (pyIter v₂) (fun it s₃ => ∃ I₂, it = .ref I₂ ∧ codeAny (model prog w) A (spCode s.heap.objs.size I₂ s₃.toks true 0 false s₃.heap.objs.size false)
        (fun r s' => match r with | .ok (.ret v) => Q v s' | .ok _ => False | .error e => E e s')
        { s₃ with heap := s₃.heap.push (tup3 (Float64.zero false, Float64.zero false, Float64.zero false)), toks := s₃.toks + 1 }) E s₂) :
    wpAny (model prog w) A (call (.builtin "math.sumprod") [.ref l, v₂]) Q E s := by
  refine call_function_tree N.kind_sp N.plain_sp N.entry_sp (N.args_sp _ _) ?_
  show wpAny _ A.in1 ((Builtin.Math.mathSome "sumprod" 2 2 ⟨[.ref l, v₂], []⟩) >>= _) _ _ s
  refine wpAny_bind (wpAny_of_eq (show Builtin.Math.mathSome "sumprod" 2 2 ⟨[.ref l, v₂], []⟩ = pure [.ref l, v₂] from rfl) ?_)
  refine wpAny_bind (iter_list_ hl fun s₂ e st hfp hlI => ?_)
  refine wpAny_bind (wpAny_holding (wpAny_mono (h s₂ e st.1 st.2) (fun it s₃ h₃ => ?_) fun _ _ e => e))
  obtain ⟨I₂, rfl, h₃⟩ := h₃
  refine wpAny_bind (wpAny_mkInt ?_)
  refine wpAny_bind (wpAny_newTuple ?_ (by show 3 ≤ sizeLine; decide))
  exact wpAny_pure ⟨plainId_quiet N.plain_sp_loop _, h₃⟩
end
end
set_option Elab.async false
set_option maxRecDepth 100000
/-- value i is a float that is exactly the i-th int -/
def IsF (xs : List Int) (i : Nat) (v : Value) : Prop := ∃ x t n, v = .float x t ∧ FI x n ∧ xs[i]? = some n
structure FlAre (vs : List Value) (xs : List Int) : Prop where
  len : vs.length = xs.length
  is : ∀ i v, vs[i]? = some v → IsF xs i v
/-- a generator that is ready to walk -/
def GV (prog : Program) (w : World) (A : Around) (a : Addr) (fp wr : List Addr) (g n : Nat) (P : Nat → Value → Prop) (s : Shared) : Prop :=
  ∃ St : Nat → Shared → Prop, WalksS prog w A.in1 a fp wr (GenOnlyQ g) n P St ∧ (∀ i (s s' : Shared), St i s → s'.gens = s.gens → (∀ b ∈ fp, ∀ o, s.heap.get? b = some o → s'.heap.get? b = some o) → St i s') ∧ St 0 s
theorem GV.at {prog : Program} {w : World} {A : Around} {a : Addr} {fp wr : List Addr} {g n : Nat} {P : Nat → Value → Prop} {s s' : Shared} (X : GV prog w A a fp wr g n P s) (hg : s'.gens = s.gens)
    (hk : ∀ b ∈ fp, ∀ o, s.heap.get? b = some o → s'.heap.get? b = some o) : GV prog w A a fp wr g n P s' :=
  let ⟨St, W, st, h⟩ := X; ⟨St, W, st, st _ _ _ h hg hk⟩
section
variable {prog : Program} {w : World} {A : Around} {E : Value → Shared → Prop} {s : Shared} {l l₂ : Addr} {vs us : List Value} {xs ys : List Int} {Q : Value → Shared → Prop}
theorem pair_lists {I₁ I₂ : Addr} (hh : A.handled = none) (h1 : l ≠ I₁) (h2 : l₂ ≠ I₂) (h3 : I₁ ≠ I₂) (h4 : I₁ ≠ l₂) (h5 : I₂ ≠ l) {n : Nat} (e1 : vs.toArray.size = n) (e2 : us.toArray.size = n) :
    Pair prog w A I₁ I₂ [I₁, l] [I₁] [I₂, l₂] [I₂] (fun a b => b = a) (fun a b => b = a) n (fun i v => vs.toArray[i]? = some v) (fun i v => us.toArray[i]? = some v)
      (fun i s => s.heap.IsListIter I₁ l i ∧ s.heap.IsList l vs.toArray) (fun i s => s.heap.IsListIter I₂ l₂ i ∧ s.heap.IsList l₂ us.toArray) where
  a := e1 ▸ (Walks.list hh I₁ l h1 vs.toArray).toS
  b := e2 ▸ (Walks.list hh I₂ l₂ h2 us.toArray).toS
  g := fun _ _ h => h
  d₁ := fun x hx => by simp at hx; subst hx; simp [h3, h4]
  d₂ := fun x hx => by simp at hx; subst hx; simp [Ne.symm h3, h5]
  stay₁ := fun _ _ _ st hk => ⟨st.1.at fun o e => hk _ (by simp) o e, st.2.at fun o e => hk _ (by simp) o e⟩
  stay₂ := fun _ _ _ st _ hk => ⟨st.1.at fun o e => hk _ (by simp) o e, st.2.at fun o e => hk _ (by simp) o e⟩
  same := fun _ _ h => h
theorem kept2 {o₁ o₂ o₃ : Obj} {s' : Shared} (hm : ∀ b o, b ∉ [s.heap.objs.size, (s.heap.push o₁).objs.size] → (((s.heap.push o₁).push o₂).push o₃).get? b = some o → s'.heap.get? b = some o) :
    ∀ b o, s.heap.get? b = some o → s'.heap.get? b = some o := fun b o e => by
  refine hm b o (fun h => ?_) (Heap.get?_push_of_some _ (Heap.get?_push_of_some _ (Heap.get?_push_of_some _ e)))
  have h3 := Heap.lt_size e
  rw [Heap.size_push] at h
  rcases List.mem_cons.mp h with h | h
  · rw [h] at h3; exact Nat.lt_irrefl _ h3
  · rw [List.mem_singleton.mp h] at h3; exact Nat.lt_irrefl _ (Nat.lt_of_succ_lt h3)
theorem sp_lists (hh : A.handled = none) (hl : s.heap.IsList l vs.toArray) (hl₂ : s.heap.IsList l₂ us.toArray) {n : Nat} (e1 : vs.toArray.size = n) (e2 : us.toArray.size = n)
    (h : ∀ (I₁ I₂ fa : Addr) (tt : Tok) (s' : Shared), Pair prog w A.in1 I₁ I₂ [I₁, l] [I₁] [I₂, l₂] [I₂] (fun a b => b = a) (fun a b => b = a) n (fun i v => vs.toArray[i]? = some v) (fun i v => us.toArray[i]? = some v)
      (fun i s => s.heap.IsListIter I₁ l i ∧ s.heap.IsList l vs.toArray) (fun i s => s.heap.IsListIter I₂ l₂ i ∧ s.heap.IsList l₂ us.toArray) →
      (s'.heap.IsListIter I₁ l 0 ∧ s'.heap.IsList l vs.toArray) → (s'.heap.IsListIter I₂ l₂ 0 ∧ s'.heap.IsList l₂ us.toArray) → s'.heap.get? fa = some (tup3 (Float64.zero false, Float64.zero false, Float64.zero false)) →
      (∀ b ∈ [I₁, l], b < fa) → (∀ b ∈ [I₂, l₂], b < fa) → (∀ s'', Moved ([I₁] ++ [I₂]) (fun a b => b = a) s' s'' → ∃ h' tk, s'' = { s with heap := h', toks := tk } ∧ ∀ b o, s.heap.get? b = some o → h'.get? b = some o) →
      codeAny (model prog w) A (spCode I₁ I₂ tt true 0 false fa false) (fun r s' => match r with | .ok (.ret v) => Q v s' | .ok _ => False | .error e => E e s') s') :
    wpAny (model prog w) A (call (.builtin "math.sumprod") [.ref l, .ref l₂]) Q E s := by
  have hlt : l < s.heap.objs.size := by obtain ⟨_, e, _⟩ := hl; exact Heap.lt_size e
  have hlt₂ : l₂ < s.heap.objs.size := by obtain ⟨_, e, _⟩ := hl₂; exact Heap.lt_size e
  refine sp_call hl fun s₂ e hi hl' => ?_
  have hl₂' : s₂.heap.IsList l₂ us.toArray := by subst e; exact hl₂.push _
  have hs2 : s₂.heap.objs.size = s.heap.objs.size + 1 := by subst e; exact Heap.size_push _ _
  refine iter_list_ hl₂' fun s₃ e₃ st hfp hne => ⟨_, rfl, ?_⟩
  have hs3 : s₃.heap.objs.size = s₂.heap.objs.size + 1 := by subst e₃; exact Heap.size_push _ _
  have a3 : s.heap.objs.size < s₂.heap.objs.size := by rw [hs2]; exact Nat.lt_succ_self _
  have a1 : l < s₂.heap.objs.size := Nat.lt_trans hlt a3
  have a2 : l₂ < s₂.heap.objs.size := Nat.lt_trans hlt₂ a3
  have a4 : s₂.heap.objs.size < s₃.heap.objs.size := by rw [hs3]; exact Nat.lt_succ_self _
  have k3 : ∀ b o, s₂.heap.get? b = some o → s₃.heap.get? b = some o := fun b o h => by subst e₃; exact Heap.get?_push_of_some _ h
  refine h _ _ _ _ _ (pair_lists (A := A.in1) hh (Nat.ne_of_lt hlt) (Nat.ne_of_lt a2) (Nat.ne_of_lt a3) (Nat.ne_of_gt hlt₂) (Nat.ne_of_gt a1) e1 e2) ⟨(hi.at fun o h => k3 _ _ h).at fun o h => Heap.get?_push_of_some _ h, (hl'.at fun o h => k3 _ _ h).at fun o h => Heap.get?_push_of_some _ h⟩
    ⟨st.1.at fun o h => Heap.get?_push_of_some _ h, st.2.at fun o h => Heap.get?_push_of_some _ h⟩ (Heap.get?_push_size _ rfl) (fun b hb => ?_) (fun b hb => ?_) fun s'' hm => ?_
  · rcases List.mem_cons.mp hb with rfl | hb
    · exact Nat.lt_trans a3 a4
    · rw [List.mem_singleton.mp hb]; exact Nat.lt_trans a1 a4
  · rcases List.mem_cons.mp hb with rfl | hb
    · exact a4
    · rw [List.mem_singleton.mp hb]; exact Nat.lt_trans a2 a4
  · subst e₃ e
    obtain ⟨hp, g, d, tk, os⟩ := s''
    refine ⟨hp, tk, ?_, fun b o e => kept2 (s' := ⟨hp, g, d, tk, os⟩) (fun b o hb e => hm.heap b o hb e) b o e⟩
    have e1 : g = s.gens := hm.gens
    have e2 : d = s.drawn := hm.drawn
    have e3 : os = s.os := hm.os
    subst e1 e2 e3
    rfl
theorem dot_bd0 : dot ([] : List Int) [] = 0 := rfl
theorem three0 : Three (Float64.zero false, Float64.zero false, Float64.zero false) 0 := ⟨FI.zero _, FI.zero _, FI.zero _⟩
theorem sp_ff (hh : A.handled = none) (hl : s.heap.IsList l vs.toArray) (hf : FlAre vs xs) (hl₂ : s.heap.IsList l₂ us.toArray) (hf₂ : FlAre us ys) (hn : xs.length = ys.length) (h0 : 0 < xs.length)
    (hb : ∀ (i : Nat) (a b : Int), xs[i]? = some a → ys[i]? = some b → (a * b : Int).natAbs < 2 ^ 52) (hs : ∀ i, (dot (xs.take i) (ys.take i)).natAbs < 2 ^ 52)
    (h1 : ∀ h' tk x t, FI x (dot xs ys) → (∀ b o, s.heap.get? b = some o → h'.get? b = some o) → Q (.float x t) { s with heap := h', toks := tk }) :
    wpAny (model prog w) A (call (.builtin "math.sumprod") [.ref l, .ref l₂]) Q E s := by
  refine sp_lists hh hl hl₂ (n := xs.length) (by simpa using hf.len) (by simpa using hf₂.len.trans hn.symm) fun I₁ I₂ fa tt s' W st₁ st₂ hfa hb1 hb2 hk => ?_
  refine sp_floats hn hh W (fun i v hP => hf.is i v (by simpa using hP)) (fun i v hP => hf₂.is i v (by simpa using hP)) hb hs _ 0 s' true false (Float64.zero false, Float64.zero false, Float64.zero false) fa tt (.inr h0) ?_ rfl (Nat.zero_le _) st₁ st₂ hfa hb1 hb2 fun s'' x t hx hm => ?_
  · rw [List.take_zero, List.take_zero]; exact three0
  · obtain ⟨h', tk, rfl, k⟩ := hk s'' hm
    exact h1 h' tk x t hx k
theorem sp_ii (hh : A.handled = none) (hl : s.heap.IsList l vs.toArray) (hf : IntsAre vs xs) (hl₂ : s.heap.IsList l₂ us.toArray) (hf₂ : IntsAre us ys) (hn : xs.length = ys.length) (h0 : 0 < xs.length)
    (hb : ∀ (i : Nat) (a b : Int), xs[i]? = some a → ys[i]? = some b → (a * b : Int).natAbs < 2 ^ 52 ∧ a.natAbs < 2 ^ 52 ∧ b.natAbs < 2 ^ 52) (hs : ∀ i, (dot (xs.take i) (ys.take i)).natAbs < 2 ^ 52)
    (h1 : ∀ h' tk t, (∀ b o, s.heap.get? b = some o → h'.get? b = some o) → Q (.int (dot xs ys) t) { s with heap := h', toks := tk }) :
    wpAny (model prog w) A (call (.builtin "math.sumprod") [.ref l, .ref l₂]) Q E s := by
  refine sp_lists hh hl hl₂ (n := xs.length) (by simpa using hf.length) (by simpa using hf₂.length.trans hn.symm) fun I₁ I₂ fa tt s' W st₁ st₂ hfa hb1 hb2 hk => ?_
  have e0 : dot (xs.take 0) (ys.take 0) = 0 := by rw [List.take_zero, List.take_zero]; rfl
  have := sp_ints (R := fun r s' => match r with | .ok (.ret v) => Q v s' | .ok _ => False | .error e => E e s') hn W (fun i v hP => hf.at i v (by simpa using hP)) (fun i v hP => hf₂.at i v (by simpa using hP)) hb hs _ 0 s' false (Float64.zero false, Float64.zero false, Float64.zero false) fa tt (.inr h0) rfl (Nat.zero_le _) st₁ st₂ hfa hb1 hb2 fun s'' t hm => by
    obtain ⟨h', tk, rfl, k⟩ := hk s'' hm
    exact h1 h' tk t k
  rw [e0] at this
  exact this
theorem sp_fg {a : Addr} {fp wr : List Addr} {g : Nat} (hh : A.handled = none) (hl : s.heap.IsList l vs.toArray) (hf : FlAre vs xs) (X : GV prog w A a fp wr g xs.length (IsF ys) s) (hn : xs.length = ys.length) (h0 : 0 < xs.length)
    (hlw : l ∉ wr) (hfp : ∀ b ∈ fp, b < s.heap.objs.size)
    (hb : ∀ (i : Nat) (a b : Int), xs[i]? = some a → ys[i]? = some b → (a * b : Int).natAbs < 2 ^ 52) (hs : ∀ i, (dot (xs.take i) (ys.take i)).natAbs < 2 ^ 52)
    (h1 : ∀ s' x t, FI x (dot xs ys) → (∀ b o, b ∉ wr → s.heap.get? b = some o → s'.heap.get? b = some o) → GenOnlyQ g s.gens s'.gens → s'.os = s.os → s'.drawn = s.drawn → Q (.float x t) s') :
    wpAny (model prog w) A (call (.builtin "math.sumprod") [.ref l, .ref a]) Q E s := by
  obtain ⟨St, W, stay, h⟩ := X
  have hlt : l < s.heap.objs.size := by obtain ⟨_, e, _⟩ := hl; exact Heap.lt_size e
  refine sp_call hl fun s₂ e hi hl' => ?_
  have k2 : ∀ b o, s.heap.get? b = some o → s₂.heap.get? b = some o := fun b o h => by subst e; exact Heap.get?_push_of_some _ h
  have hs2 : s₂.heap.objs.size = s.heap.objs.size + 1 := by subst e; exact Heap.size_push _ _
  have a3 : s.heap.objs.size < s₂.heap.objs.size := by rw [hs2]; exact Nat.lt_succ_self _
  have st2 : St 0 s₂ := stay _ _ _ h (by subst e; rfl) fun b _ o e => k2 b o e
  refine W.self 0 _ _ _ st2 ⟨a, rfl, ?_⟩
  have hIfp : s.heap.objs.size ∉ fp := fun hm => Nat.lt_irrefl _ (hfp _ hm)
  have P : Pair prog w A.in1 s.heap.objs.size a [s.heap.objs.size, l] [s.heap.objs.size] fp wr (fun a b => b = a) (GenOnlyQ g) xs.length (fun i v => vs.toArray[i]? = some v) (IsF ys)
      (fun i s' => s'.heap.IsListIter s.heap.objs.size l i ∧ s'.heap.IsList l vs.toArray) St := by
    have e1 : vs.toArray.size = xs.length := by simpa using hf.len
    exact { a := e1 ▸ (Walks.list (A := A.in1) hh _ l (Nat.ne_of_lt hlt) vs.toArray).toS, b := W, g := fun _ _ h => .inl h, d₁ := fun x hx => by simp at hx; subst hx; exact hIfp,
            d₂ := fun x hx hm => by
              simp at hm
              rcases hm with rfl | rfl
              · exact hIfp (W.sub _ hx)
              · exact hlw hx
            stay₁ := fun _ _ _ st hk => ⟨st.1.at fun o e => hk _ (by simp) o e, st.2.at fun o e => hk _ (by simp) o e⟩, stay₂ := stay, same := fun _ _ h => h }
  refine sp_floats hn hh P (fun i v hP => hf.is i v (by simpa using hP)) (fun i v hP => hP) hb hs _ 0 _ true false (Float64.zero false, Float64.zero false, Float64.zero false) _ _ (.inr h0) ?_ rfl (Nat.zero_le _)
    ⟨hi.at fun o e => Heap.get?_push_of_some _ e, hl'.at fun o e => Heap.get?_push_of_some _ e⟩ (stay _ s₂ _ st2 rfl fun b _ o e => Heap.get?_push_of_some _ e) (Heap.get?_push_size _ rfl) (fun b hb => ?_) (fun b hb => ?_) fun s'' x t hx hm => ?_
  · rw [List.take_zero, List.take_zero]; exact three0
  · rcases List.mem_cons.mp hb with rfl | hb
    · exact a3
    · rw [List.mem_singleton.mp hb]; exact Nat.lt_trans hlt a3
  · exact Nat.lt_trans (hfp b hb) a3
  · refine h1 s'' x t hx (fun b o hb e => hm.heap b o (fun hm' => ?_) (Heap.get?_push_of_some _ (k2 b o e))) ?_ ?_ ?_
    · rcases List.mem_append.mp hm' with hm' | hm'
      · rw [List.mem_singleton.mp hm'] at e; exact Nat.lt_irrefl _ (Heap.lt_size e)
      · exact hb hm'
    · have := hm.gens; subst e; exact this
    · have := hm.os; subst e; exact this
    · have := hm.drawn; subst e; exact this
end
set_option Elab.async false
set_option maxRecDepth 100000
def tabO (ps : Array Value) : Obj := { cls := .none, data := .fields ps }
def TabP (pos : Pos) (ps : Array Value) : Prop := ps = #[] ∨ ∃ v, ps = #[rawInt pos.line, rawInt pos.col, v]
section
variable {prog : Program} {w : World} {A : Around} {E : Value → Shared → Prop} {s : Shared}
theorem gen_code {env : Env} {c : Addr} {oc : Obj} {vs ps : Array Value} {pos : Pos} {q file : Str} {tf tg tt : Tok} {flags text : Int} {inF : Bool} {scope : Scope} {Q : Value → Shared → Prop}
    (hc : env.code = .ref c) (ho : s.heap.get? c = some oc) (hcls : oc.cls = .type "code") (hd : oc.data = .fields vs) (h11 : vs[11]? = some (.ref PT)) (h18 : vs.getD 18 .none = .str file tf) (h7 : vs.getD 7 .none = .int flags tg)
    (h9 : vs.getD 9 .none = .bool inF) (h10 : vs.getD 10 .none = .int text tt) (hp : s.heap.get? PT = some (tabO ps)) (hps : TabP pos ps) (hne : c ≠ PT)
    (hQ : ∀ v h' tk, (∀ b o, b ≠ PT → s.heap.get? b = some o → h'.get? b = some o) → h'.get? PT = some (tabO #[rawInt pos.line, rawInt pos.col, v]) → Q v { s with heap := h', toks := tk }) :
    wpAny (model prog w) A (genexprCode env pos q scope) Q E s := by
  have h11' : vs.getD 11 .none = .ref PT := by rw [Array.getD_eq_getD_getElem?, h11]; rfl
  rcases hps with rfl | ⟨v, rfl⟩
  · refine wpAny_genexprCodeX hc ⟨oc, vs, file, tf, flags, tg, inF, text, tt, _, ho, hd, h11', h18, h7, h9, h10, hp, rfl, trivial, hne⟩ ⟨⟨oc, vs, ho, hcls, hd, h11⟩, hp⟩ rfl fun c' h' tk hx _ _ _ _ htab _ => ?_
    exact hQ _ h' tk hx htab.2
  · unfold genexprCode codeAt
    rw [hc, if_neg (show ¬ ((Value.ref c == Value.none) = true) from Bool.false_ne_true)]
    refine wpAny_bind (wpAny_fieldsOf ho hd ?_)
    rw [h11']
    refine wpAny_bind (wpAny_fieldsOf hp rfl ?_)
    have e : codeAmong pos (#[rawInt pos.line, rawInt pos.col, v] : Array Value).toList = some v := by
      simp [codeAmong, rawInt]
    rw [e]
    obtain ⟨hp', g, d, tk, os⟩ := s
    exact wpAny_pure (hQ v hp' tk (fun _ _ _ e => e) hp)
/-- what a genexp over a list leaves -/
theorem gen_mk {env : Env} {elt iter : Expr} {x : Str} {px : Pos} {scope : Scope} {cl : List (Str × Addr)} {pos : Pos} {Q : Value → Shared → Prop} {h₀ : Heap} {L l c ca bm : Addr} {m mg : Str → Option Value} {ob oc occ : Obj} {news : List (Addr × Obj)}
    {vs ps : Array Value} {items : Array Value} {P : Nat → Value → Prop} {file : Str} {tf tg tt : Tok} {flags text : Int} {inF : Bool}
    (hh : A.handled = none) (hco : scope.isCoroutine = false) (hclos : closureFor scope env = pure cl) (hcell : ∀ y ∈ scope.names, y.2 ≠ .cell) (h0 : scope.names.lookup (".0" : Str) = some NameKind.local)
    (hx : scope.names.lookup x = some .local) (hkind : scope.kind = .function) (hroom : A.depth < recursionLimit) (hs : ∀ x, genFold iter env x = pure x)
    (hc : env.code = .ref c) (ho : h₀.get? c = some oc) (hcls : oc.cls = .type "code") (hd : oc.data = .fields vs) (h11 : vs[11]? = some (.ref PT)) (h18 : vs.getD 18 .none = .str file tf) (h7 : vs.getD 7 .none = .int flags tg)
    (h9 : vs.getD 9 .none = .bool inF) (h10 : vs.getD 10 .none = .int text tt) (hps : TabP pos ps) (hPT : h₀.get? PT = none)
    (M : BMod h₀ env.globals mg bm ob) (hlim : h₀.NoLimit)
    (_F : Fr h₀ L s.heap m) (_N : News h₀ L s.heap ((PT, tabO ps) :: news)) (_hc : s.heap.get? ca = some occ)
    (hit : wpAny (model prog w) A (eval iter env) (fun v s₁ => v = .ref l ∧ Fr h₀ L s₁.heap m ∧ News h₀ L s₁.heap ((PT, tabO ps) :: news) ∧ AllBare s₁.gens ∧ s₁.heap.IsList l items ∧ s₁.heap.get? ca = some occ ∧
      (∀ p ∈ news, p.1 ≠ PT) ∧ l ≠ PT ∧ l ≠ L ∧ ca ≠ PT ∧ ca ≠ L ∧ PT ≠ L ∧
      (∀ (C : Addr) (code : Value) (A' : Around) E' i v (u : Shared) m₂, A'.handled = none → items[i]? = some v → u.heap.Ns C m₂ → m₂ x = some v → u.heap.get? ca = some occ →
        wpAny (model prog w) A' (eval elt (genEnv scope cl C code builtinsNs env)) (fun y s₃ => P i y ∧ Keeps u s₃) E' u) ∧
      (∀ (a C I : Addr) (oA oC oI : Obj) (v : Value) (g : Nat) (s₅ : Shared), Fr h₀ L s₅.heap m → News h₀ L s₅.heap ((a, oA) :: (C, oC) :: (I, oI) :: (PT, tabO #[rawInt pos.line, rawInt pos.col, v]) :: news) → AllBare s₅.gens → s₅.os = s₁.os → s₅.drawn = s₁.drawn →
        l ≠ C → l ≠ I → L ≠ C → L ≠ I → (∀ p ∈ news, p.1 ≠ C ∧ p.1 ≠ I) → PT ≠ C → PT ≠ I → h₀.objs.size ≤ C → h₀.objs.size ≤ I →
        GV prog w A a [a, C, I, l, cStatics, ca] [C, I] g items.size P s₅ → s₅.heap.get? cStatics = s₁.heap.get? cStatics → Q (.ref a) s₅)) E s) :
    wpAny (model prog w) A (eval (.GeneratorExp elt [⟨.Name x px, iter, [], 0⟩] scope pos) env) Q E s := by
  refine wpAny_GeneratorExp_make hco hclos hcell h0 hkind hroom (wpAny_mono hit (fun xv s₁ h₁ => ?_) fun _ _ e => e) hs
  obtain ⟨rfl, F, N, G, hl, hca, hnews, hlP, hlL, hcP, hcL, hPL, helt, hQ⟩ := h₁
  have hPh := (N _ List.mem_cons_self).1
  have hlt : l < s₁.heap.objs.size := by obtain ⟨_, e, _⟩ := hl; exact Heap.lt_size e
  refine wpAny_pyIter_list hl ⟨(hlim.keeps F.keep).push _, ?_⟩
  have kI : ∀ b o, s₁.heap.get? b = some o → (s₁.heap.push { cls := .type "list_iterator", data := .fields #[.ref l, .int 0 0] }).get? b = some o := fun b o e => Heap.get?_push_of_some _ e
  have hI : (s₁.heap.push { cls := .type "list_iterator", data := .fields #[.ref l, .int 0 0] }).get? s₁.heap.objs.size = some { cls := .type "list_iterator", data := .fields #[.ref l, .int 0 0] } := Heap.get?_push_size _ rfl
  generalize (s₁.heap.push { cls := .type "list_iterator", data := .fields #[.ref l, .int 0 0] }) = h₂ at kI hI
  generalize hIe : s₁.heap.objs.size = I at hI
  have hzl : ∀ b o, s₁.heap.get? b = some o → b ≠ I := fun b o e => by rw [← hIe]; exact Nat.ne_of_lt (Heap.lt_size e)
  have hIP : I ≠ PT := fun e => hzl _ _ hPh e.symm
  have hIL : L ≠ I := let ⟨_, _, _, e, _⟩ := F.ns; hzl _ _ e
  refine gen_code (s := { s₁ with heap := h₂ }) hc (kI _ _ (F.keep _ _ ho)) hcls hd h11 h18 h7 h9 h10 (kI _ _ hPh) hps (fun e => by rw [e, hPT] at ho; cases ho) fun v h₃ tk₃ hx₃ hP₃ => ?_
  have M₁ : BMod s₁.heap env.globals mg bm ob := M.keeps F.keep
  have k13 : ∀ b o, b ≠ PT → s₁.heap.get? b = some o → h₃.get? b = some o := fun b o hb e => hx₃ b o hb (kI b o e)
  have k03 : ∀ b o, h₀.get? b = some o → h₃.get? b = some o := fun b o e => k13 b o (fun hb => by rw [hb, hPT] at e; cases e) (F.keep _ _ e)
  have M₃ : BMod h₃ env.globals mg bm ob := M.keeps k03
  have L₃ : h₃.NoLimit := hlim.keeps k03
  have hI₃ := hx₃ _ _ hIP hI
  refine wpAny_builtinsFor M₃.ns M₃.name M₃.ne M₃.obj M₃.cls M₃.dict M₃.data ?_
  intro h' hn' hs'
  have hsz : h'.objs.size = h₃.objs.size + 1 := by rw [hs'.1, Heap.size_push]
  have keep' : ∀ b o, h₃.get? b = some o → h'.get? b = some o := fun b o e => hs'.extBut b o (Nat.ne_of_lt (Heap.lt_size e)) (Heap.get?_push_of_some _ e)
  have keep₅ : ∀ b o, h₃.get? b = some o → (h'.push { cls := .type "generator", data := .fields #[.int s₁.gens.size 0, .str "<genexpr>" (tk₃ + 1), .str (env.qual ++ "<genexpr>") (tk₃ + 1 + 1)] }).get? b = some o :=
    fun b o e => Heap.get?_push_of_some _ (keep' b o e)
  have hlt3 : ∀ b o, h₃.get? b = some o → b ≠ h₃.objs.size := fun b o e => Nat.ne_of_lt (Heap.lt_size e)
  have hl₃ : h₃.IsList l items := hl.at fun o e => k13 _ _ hlP e
  have hlC : l ≠ h₃.objs.size := let ⟨_, e, _⟩ := hl₃; hlt3 _ _ e
  have hlI : l ≠ I := let ⟨_, e, _⟩ := hl; hzl _ _ e
  have hcC : ca ≠ h₃.objs.size := hlt3 _ _ (k13 _ _ hcP hca)
  have hcI : ca ≠ I := hzl _ _ hca
  have hIC : I ≠ h₃.objs.size := hlt3 _ _ hI₃
  have hclt : cStatics < h₃.objs.size := let ⟨_, hn, _⟩ := L₃; hn.lt
  have hcsI : cStatics ≠ I := by
    obtain ⟨_, ⟨o, es, ep, ho, _⟩, _⟩ := (hlim.keeps F.keep : s₁.heap.NoLimit)
    exact hzl _ _ ho
  have haC : h'.objs.size ≠ h₃.objs.size := by rw [hsz]; exact Nat.succ_ne_self _
  have ne_a : ∀ b o, h₃.get? b = some o → b ≠ h'.objs.size := fun b o e => by rw [hsz]; exact Nat.ne_of_lt (Nat.lt_succ_of_lt (Heap.lt_size e))
  have F₃ : Fr h₀ L h₃ m := ⟨F.ns.at fun o e => k13 _ _ (Ne.symm hPL) e, k03, F.above⟩
  obtain ⟨oCx, eCs, eCp, hoC, hCr⟩ := id hn'
  have hst₃ : h₃.IsListIter I l 0 ∧ h₃.IsList l items := ⟨⟨_, hI₃, rfl, rfl⟩, hl₃⟩
  have haf : h'.objs.size ∉ [I, l, cStatics, ca] := fun hm => by
    simp only [List.mem_cons, List.not_mem_nil, or_false] at hm
    rcases hm with e | e | e | e
    · exact ne_a _ _ hI₃ e.symm
    · obtain ⟨_, e', _⟩ := hl₃; exact ne_a _ _ e' e.symm
    · rw [hsz] at e; exact Nat.lt_irrefl _ (Nat.lt_trans hclt (by rw [← e]; exact Nat.lt_succ_self _))
    · exact ne_a _ _ (k13 _ _ hcP hca) e.symm
  have hCf : h₃.objs.size ∉ [I, l, cStatics, ca] := fun hm => by
    simp only [List.mem_cons, List.not_mem_nil, or_false] at hm
    rcases hm with e | e | e | e
    · exact hIC e.symm
    · exact hlC e.symm
    · exact Nat.ne_of_gt hclt e
    · exact hcC e.symm
  have hcw : cStatics ∉ [I] := fun hm => hcsI (List.mem_singleton.mp hm)
  have hlo : h₀.objs.size ≤ I := by rw [← hIe]; exact Nat.le_trans F.above (Nat.le_of_lt F.ns.lt)
  have hlo₃ : h₀.objs.size ≤ h₃.objs.size := Nat.le_trans hlo (Nat.le_of_lt (Heap.lt_size hI₃))
  have fresh : ∀ b, h₀.objs.size ≤ b → h₀.get? b = none := fun b hb => by
    cases q : h₀.get? b with
    | none => rfl
    | some o => exact absurd (Heap.lt_size q) (Nat.not_lt.mpr hb)
  refine hQ h'.objs.size h₃.objs.size I { cls := .type "generator", data := .fields #[.int s₁.gens.size 0, .str "<genexpr>" (tk₃ + 1), .str (env.qual ++ "<genexpr>") (tk₃ + 1 + 1)] } oCx { cls := .type "list_iterator", data := .fields #[.ref l, .int 0 0] } v s₁.gens.size _ (F₃.keeps keep₅) ?_ (G.push rfl) rfl rfl hlC hlI ?_ hIL ?_ ?_ hIP.symm hlo₃ hlo ?_ ?_
  · intro p hp
    rcases List.mem_cons.mp hp with rfl | hp
    · exact ⟨Heap.get?_push_size _ rfl, fun e => by
        have h1 : h'.objs.size = L := e
        have h2 := F₃.ns.lt
        rw [← h1, hsz] at h2
        exact Nat.lt_irrefl _ (Nat.lt_of_succ_lt h2), fresh _ (by rw [hsz]; exact Nat.le_succ_of_le hlo₃)⟩
    rcases List.mem_cons.mp hp with rfl | hp
    · exact ⟨Heap.get?_push_of_some _ hoC, fun e => by
        have h1 : h₃.objs.size = L := e
        have h2 := F₃.ns.lt
        rw [h1] at h2
        exact Nat.lt_irrefl _ h2, fresh _ hlo₃⟩
    rcases List.mem_cons.mp hp with rfl | hp
    · exact ⟨keep₅ _ _ hI₃, fun e => hIL e.symm, fresh _ hlo⟩
    rcases List.mem_cons.mp hp with rfl | hp
    · exact ⟨keep₅ _ _ hP₃, hPL, hPT⟩
    · have := N p (List.mem_cons_of_mem _ hp)
      exact ⟨keep₅ _ _ (k13 _ _ (hnews p hp) this.1), this.2⟩
  · exact Nat.ne_of_lt F₃.ns.lt
  · intro p hp
    have := N p (List.mem_cons_of_mem _ hp)
    exact ⟨hlt3 _ _ (k13 _ _ (hnews p hp) this.1), hzl _ _ this.1⟩
  · exact hlt3 _ _ hP₃
  · have hpass : passing (fun _ => true) items.size 0 = List.range items.size := by
      unfold passing
      simp
    have W := WalksS.genexpQ (prog := prog) (w := w) (A := A.in4) hh h'.objs.size s₁.gens.size h₃.objs.size [I, l, cStatics, ca] [I] (fun _ => true) items.size P haC haf (fun b hb => by rw [List.mem_singleton.mp hb]; simp) hroom (by simp) (Nat.ne_of_lt hclt) hcw
    rw [hpass, List.length_range] at W
    refine ⟨_, (WalksS.in4_1 W).imp fun i v hv => ?_, fun i t t' st hg hk => ?_, ?_⟩
    · obtain ⟨j, e, hv⟩ := hv
      have : j = i := by
        rcases Nat.lt_or_ge i items.size with hi | hi
        · rw [List.getElem?_eq_getElem (by simpa using hi)] at e; simpa using e.symm
        · rw [List.getElem?_eq_none (by simpa using hi)] at e; cases e
      exact this ▸ hv
    · exact ⟨let ⟨o, nm, qn, ho, r⟩ := st.1; ⟨o, nm, qn, hk _ (List.mem_cons_self ..) o ho, r⟩,
       (let ⟨mc, hns, hnn⟩ := st.2.1; ⟨mc, hns.at' fun o e => hk cStatics (by simp) o e, hnn⟩),
       let ⟨gs, hgs, hgo⟩ := st.2.2; ⟨gs, by rw [hg]; exact hgs, fun s'' hal => hgo s'' fun b hb o e => hal b hb o (hk b (List.mem_cons_of_mem _ hb) o e)⟩⟩
    · refine GenAt.freshD (A := A.in4) (cenv := genEnv scope cl h₃.objs.size v builtinsNs env) (m := fun y => if y = ".0" then some (.ref I) else none) (iter := iter) (px := px) (ifs := []) (elt := elt) (x := x) (scope := scope) (pos := pos) (n₀ := items.size) (P := fun i v => items[i]? = some v) (St₀ := fun i h => h.IsListIter I l i ∧ h.IsList l items) hh
        (fun A' hA => (Walks.list hA I l hlI items).mono_fp fun b hb => by
          simp only [List.mem_cons, List.not_mem_nil, or_false] at hb
          rcases hb with rfl | rfl <;> simp) (fun _ => true) P hx (by simp [genEnv, hkind]) hco hCf ⟨fun A' E' i v u m₂ hA _ _ _ _ _ _ => wpAny_pure ⟨rfl, u.heap, u.toks, rfl, fun _ _ e => e⟩, fun A' E' i v u m₂ hA _ _ hP _ hn hm hk => ?_⟩
        ⟨_, _, _, Heap.get?_push_size _ rfl, rfl, rfl, rfl⟩ (Array.getElem?_push_size ..) ⟨hst₃.1.at fun o e => keep₅ _ _ e, hst₃.2.at fun o e => keep₅ _ _ e⟩ (hn'.push _) (L₃.keeps keep₅)
      exact helt _ _ A' E' i v u m₂ hA hP hn hm (hk ca (by simp) (by simp [hcI]) _ (keep₅ _ _ (k13 _ _ hcP hca)))
  · obtain ⟨_, ⟨o, es, ep, ho, _⟩, _⟩ := (hlim.keeps F.keep : s₁.heap.NoLimit)
    obtain ⟨_, ⟨o', es', ep', ho', _⟩, _⟩ := hlim
    rw [ho] 
    refine (keep₅ _ _ (k13 _ _ (fun e => ?_) ho))
    rw [e, hPT] at ho'; cases ho'
end
set_option Elab.async false
set_option maxRecDepth 100000
theorem FI.notInf {x : UInt64} {i : Int} (h : FI x i) : ¬ Float64.isInf x = true := by
  obtain ⟨⟨a, m, e, d⟩, _⟩ := h
  unfold Float64.isInf; rw [d]; exact Bool.false_ne_true
theorem FI.notZero {x : UInt64} {i : Int} (h : FI x i) (hi : i ≠ 0) : ¬ Float64.isZero x = true := by
  rw [FI.isZero h, decide_eq_false hi]; exact Bool.false_ne_true
theorem fi0 : FI 0 0 := by
  have := FI.zero false
  rwa [show Float64.zero false = 0 from by decide] at this
section
variable {prog : Program} {w : World} {A : Around} {E Q : Value → Shared → Prop} {s : Shared} {x y : UInt64} {i j k : Int} {t u : Tok}
theorem fi_div_int (hx : FI x (k * j)) (hj : j ≠ 0) (h1 : j.natAbs < 2 ^ 53) (h2 : k.natAbs < 2 ^ 53) (h : ∀ r t, FI r k → Q (.float r t) { s with toks := s.toks + 1 }) : wpAny (model prog w) A (binaryOp .Div (.float x t) (.int j u)) Q E s :=
  AutoFloatOps.truediv_fi_2 (FI.ofInt h1).notInf ((FI.ofInt h1).notZero hj) (h _ _ (FI.div hx (FI.ofInt h1) hj h2))
theorem fi_rsub (hy : FI y j) (h1 : i.natAbs < 2 ^ 52) (h2 : j.natAbs < 2 ^ 52) (h : ∀ r t, FI r (i - j) → Q (.float r t) { s with toks := s.toks + 1 }) : wpAny (model prog w) A (binaryOp .Sub (.int i t) (.float y u)) Q E s :=
  AutoFloatOps.sub_if_1 (FI.ofInt (i := i) (by omega)).notInf (h _ _ (FI.sub (FI.ofInt (by omega)) hy (by omega)))
theorem fi_add_zero (hx : FI x i) (h1 : i.natAbs < 2 ^ 53) (h : ∀ r t, FI r i → Q (.float r t) { s with toks := s.toks + 1 }) : wpAny (model prog w) A (binaryOp .Add (.float x t) (.float 0 u)) Q E s := by
  refine add_float (h _ _ ?_)
  have := FI.add hx fi0 (by rwa [Int.add_zero])
  rwa [Int.add_zero] at this
theorem ii_add_zero (h1 : i.natAbs < 2 ^ 53) (h : ∀ r t, FI r i → Q (.float r t) { s with toks := s.toks + 1 }) : wpAny (model prog w) A (binaryOp .Add (.int i t) (.float 0 u)) Q E s := by
  refine AutoFloatOps.add_if_1 (FI.ofInt h1).notInf (h _ _ ?_)
  have := FI.add (FI.ofInt h1) fi0 (by rwa [Int.add_zero])
  rwa [Int.add_zero] at this
theorem ff_div (hy : FI y j) (hj : j ≠ 0) (h : ∀ t, Q (.float (Float64.div x y) t) { s with toks := s.toks + 1 }) : wpAny (model prog w) A (binaryOp .Div (.float x t) (.float y u)) Q E s :=
  AutoFloatOps.truediv_1 (hy.notZero hj) (h _)
theorem fi_div (hj : j ≠ 0) (h1 : j.natAbs < 2 ^ 53) (h : ∀ t, Q (.float (Float64.div x (Float64.ofInt j)) t) { s with toks := s.toks + 1 }) : wpAny (model prog w) A (binaryOp .Div (.float x t) (.int j u)) Q E s :=
  AutoFloatOps.truediv_fi_2 (FI.ofInt h1).notInf ((FI.ofInt h1).notZero hj) (h _)
end
set_option Elab.async false
theorem sum_bd {B : Int} : ∀ {xs : List Int}, (∀ v ∈ xs, -B ≤ v ∧ v ≤ B) → -((xs.length : Int) * B) ≤ xs.sum ∧ xs.sum ≤ (xs.length : Int) * B
  | [], _ => by simp
  | a :: r, h => by
    have h1 := h a List.mem_cons_self
    have h2 := sum_bd (xs := r) fun v hv => h v (List.mem_cons_of_mem _ hv)
    rw [List.sum_cons, List.length_cons, show ((r.length + 1 : Nat) : Int) * B = (r.length : Int) * B + B from by rw [Int.natCast_add, Int.add_mul]; omega]
    omega
theorem dot_bd {A B : Int} : ∀ {xs ys : List Int}, 0 ≤ A → 0 ≤ B → (∀ v ∈ xs, -A ≤ v ∧ v ≤ A) → (∀ v ∈ ys, -B ≤ v ∧ v ≤ B) → -((xs.length : Int) * (A * B)) ≤ dot xs ys ∧ dot xs ys ≤ (xs.length : Int) * (A * B)
  | [], _, hA, hB, _, _ => by simp [dot]
  | a :: r, [], hA, hB, _, _ => by
    have : 0 ≤ A * B := Int.mul_nonneg hA hB
    have : 0 ≤ ((a :: r).length : Int) * (A * B) := Int.mul_nonneg (by omega) this
    show -_ ≤ (0 : Int) ∧ (0 : Int) ≤ _
    omega
  | a :: r, b :: q, hA, hB, h1, h2 => by
    have h3 := mul_bd (h1 a List.mem_cons_self) (h2 b List.mem_cons_self)
    have h4 := dot_bd (xs := r) (ys := q) hA hB (fun v hv => h1 v (List.mem_cons_of_mem _ hv)) fun v hv => h2 v (List.mem_cons_of_mem _ hv)
    rw [List.length_cons, show ((r.length + 1 : Nat) : Int) * (A * B) = (r.length : Int) * (A * B) + A * B from by rw [Int.natCast_add, Int.add_mul]; omega]
    show -_ ≤ a * b + dot r q ∧ a * b + dot r q ≤ _
    omega
theorem mem_take {xs : List Int} {i : Nat} {v : Int} (h : v ∈ xs.take i) : v ∈ xs := List.mem_of_mem_take h
theorem len_mul {n C : Int} (h0 : 0 ≤ n) (h8 : n ≤ 8) (hC : 0 ≤ C) : 0 ≤ n * C ∧ n * C ≤ 8 * C := by
  exact ⟨Int.mul_nonneg h0 hC, Int.mul_le_mul_of_nonneg_right h8 hC⟩
theorem take_sum_bd {xs : List Int} {B : Int} (hB : 0 ≤ B) (h8 : xs.length ≤ 8) (h : ∀ v ∈ xs, -B ≤ v ∧ v ≤ B) (i : Nat) : -(8 * B) ≤ (xs.take i).sum ∧ (xs.take i).sum ≤ 8 * B := by
  have h1 := sum_bd (xs := xs.take i) fun v hv => h v (mem_take hv)
  have h2 := len_mul (n := (xs.take i).length) (C := B) (by omega) (by rw [List.length_take]; omega) hB
  omega
theorem take_dot_bd {xs ys : List Int} {A B : Int} (hA : 0 ≤ A) (hB : 0 ≤ B) (h8 : xs.length ≤ 8) (h1 : ∀ v ∈ xs, -A ≤ v ∧ v ≤ A) (h2 : ∀ v ∈ ys, -B ≤ v ∧ v ≤ B) (i : Nat) :
    -(8 * (A * B)) ≤ dot (xs.take i) (ys.take i) ∧ dot (xs.take i) (ys.take i) ≤ 8 * (A * B) := by
  have h3 := dot_bd (xs := xs.take i) (ys := ys.take i) hA hB (fun v hv => h1 v (mem_take hv)) fun v hv => h2 v (mem_take hv)
  have h4 := len_mul (n := (xs.take i).length) (C := A * B) (by omega) (by rw [List.length_take]; omega) (Int.mul_nonneg hA hB)
  omega
theorem mean_bd {xs : List Int} {B b : Int} (h0 : 0 < xs.length) (h : ∀ v ∈ xs, -B ≤ v ∧ v ≤ B) (e : xs.sum = b * (xs.length : Int)) : -B ≤ b ∧ b ≤ B := by
  have h1 := sum_bd h
  rw [e, Int.mul_comm b] at h1
  have hp : (0 : Int) < xs.length := by omega
  refine ⟨?_, Int.le_of_mul_le_mul_left h1.2 hp⟩
  refine Int.le_of_mul_le_mul_left (a := (xs.length : Int)) ?_ hp
  rw [Int.mul_neg]; exact h1.1
/-- the places' differences from their mean -/
def dev (xs : List Int) (b : Int) : List Int := xs.map (· - b)
theorem dev_len {xs : List Int} {b : Int} : (dev xs b).length = xs.length := List.length_map _
theorem dev_bd {xs : List Int} {b B : Int} (h : ∀ v ∈ xs, -B ≤ v ∧ v ≤ B) (hb : -B ≤ b ∧ b ≤ B) : ∀ v ∈ dev xs b, -(2 * B) ≤ v ∧ v ≤ 2 * B := fun v hv => by
  obtain ⟨u, hu, rfl⟩ := List.mem_map.mp hv
  have := h u hu
  omega
theorem dev_get {xs : List Int} {b v : Int} {i : Nat} (h : xs[i]? = some v) : (dev xs b)[i]? = some (v - b) := by
  unfold dev; rw [List.getElem?_map, h]; rfl
set_option Elab.async false
set_option maxRecDepth 100000
set_option maxHeartbeats 4000000
theorem pk {α : Type} {F : Frag} {M : Model} {A : Around} {E : Value → Shared → Prop} {s : Shared} {Q : α → Shared → Prop} {t : Sem α} {r : α} (x : F.In s.heap) (e : ∀ S : Setting, peek F S t = some r) (q : Q r s) : wpAny M A t Q E s := by
  intro Γ p hΓ
  exact wp_of_peek (K := F) x q _ (e _)
theorem pk1 (P : Params) (S : Setting) : peek (K P) S (Bind.madeBy (.ref 173)) = some none := by kernel_rfl!
theorem pk3 (P : Params) (S : Setting) : peek (K P) S (specialOf (.ref 173) "__call__") = some (some (.builtin "type.__call__")) := by kernel_rfl!
theorem pk4 (P : Params) (S : Setting) : peek (K P) S (mroOf (.ref 173)) = some [.ref 173, .type "tuple", .type "object"] := by kernel_rfl!
theorem pk5 (P : Params) (S : Setting) : peek (K P) S (isInstance (.ref 173) (.type "type")) = some true := by kernel_rfl!
theorem pk6 (P : Params) : readsIn (K P) 173 (.type "type") = true := by kernel_rfl!
theorem pk7 (P : Params) : findCls (K P) (.ref 173) (.type "type") "__new__" = some (.get (.builtin "staticmethod.__get__") (.ref 174) .none (.ref 173)) := by kernel_rfl!
theorem pk8 (P : Params) : recIn (K P) 174 "staticmethod" = some [.ref 123] := by kernel_rfl!
theorem skip_doc {prog : Program} {w : World} {A : Around} {E : Value → Shared → Prop} {s : Shared} {env : Env} {c : Str} {k : Nat} {p q : Pos} {rest : List Stmt} {Q : Flow → Shared → Prop}
    (hs : swapsWith (.Constant (.str c) k p) none q.line env = pure false) (hi : interactive env = false) (h : wpAny (model prog w) A (execs rest env) Q E { s with toks := s.toks + 1 }) : wpAny (model prog w) A (execs (.Expr (.Constant (.str c) k p) q :: rest) env) Q E s := by
  refine wpAny_execs_cons (wpAny_Expr_any ?_ hi hs)
  exact Calls.Constant_str h
namespace N
theorem plain_tn : plainId "tuple.__new__" = true := by decide +kernel
theorem entry_tn : entryFor table "tuple.__new__" = some Builtin.«tuple.__new__» := entryFor_of_fast (by kernel_rfl)
theorem plain_oi : plainId "object.__init__" = true := by decide +kernel
end N
theorem pk2 (P : Params) (S : Setting) (t : Addr) : peek (K P) S (checkBuiltinCall "tuple.__new__" ⟨[.ref 173, .ref t], []⟩) = some () := by kernel_rfl!
theorem pk10 (P : Params) (S : Setting) : peek (K P) S (isType (.ref 173)) = some true := by kernel_rfl!
theorem pk11 (P : Params) (S : Setting) : peek (K P) S (isSubtype (.ref 173) (.type "tuple")) = some true := by kernel_rfl!
theorem pk12 (P : Params) (S : Setting) : peek (K P) S (Bind.madeHere "tuple.__new__" (.ref 173)) = some () := by kernel_rfl!
theorem pk13 (P : Params) (S : Setting) : peek (K P) S (typeLookup (.ref 173) "__init__") = some (some (.builtin "object.__init__")) := by kernel_rfl!
theorem pk14 (P : Params) (S : Setting) : peek (K P) S (classHasDel 173) = some false := by kernel_rfl!
theorem tuple_new {w : World} {A : Around} {E Q : Value → Shared → Prop} {s : Shared} {D : Addr} {its : Array Value} {n : Nat} (X : (K w.params).In s.heap) (hD : s.heap.get? D = some { cls := .type "tuple", data := .seq its n }) (hz : its.size ≤ 8)
    (h : ∀ x dx h', Ext s.heap h' → s.heap.get? x = none → h'.get? x = some ⟨.ref 173, some dx, .seq its 0, #[]⟩ → s.heap.get? dx = none → h'.get? dx = some { cls := .type "dict", data := .dict #[] } → Q (.ref x) { s with heap := h' }) : wpAny (model PG w) A (call (.builtin "tuple.__new__") [.ref 173, .ref D]) Q E s := by
  refine wpAny_call (codeAny_call_builtin N.plain_tn N.entry_tn (pk X (pk2 _ · D) ?_))
  unfold Builtin.«tuple.__new__»
  dsimp only
  refine wpAny_bind (pk X (pk10 _) ?_)
  rw [if_neg (by decide)]
  refine wpAny_bind (pk X (pk11 _) ?_)
  rw [if_neg (by decide)]
  refine wpAny_bind (pk X (pk12 _) ?_)
  refine wpAny_bind (pk X (pk13 _) ?_)
  rw [if_pos (by decide)]
  refine wpAny_bind (wpAny_of_eq (show noKeywords "tuple" ⟨[.ref 173, .ref D], []⟩ = pure () from rfl) ?_)
  refine wpAny_bind (wpAny_of_eq (show checkCount "tuple" 0 1 1 = pure () from rfl) ?_)
  rw [if_neg (show ¬ ((Value.ref 173 == Value.type "tuple") = true) from by decide)]
  refine wpAny_bind (wpAny_collect_seq D (.inr rfl) hD rfl rfl (fun h' k => ?_) (Nat.le_trans hz (by decide)))
  refine wpAny_bind (wpAny_pure ?_)
  refine wpAny_bind (wpAny_alloc ?_)
  have h2 : Ext h' ((h'.push { cls := .type "dict", data := .dict #[] }).push ⟨.ref 173, some h'.objs.size, .seq its 0, #[]⟩) := fun b o e => Heap.get?_push_of_some _ (Heap.get?_push_of_some _ e)
  refine wpAny_bind ?_
  unfold newObj
  dsimp only
  have h8 : (8 : Nat) ≤ sizeLine := by decide
  rw [if_neg (show ¬ its.toList.toArray.size > sizeLine from by rw [Array.toArray_toList]; omega)]
  unfold newObjAsIs
  refine wpAny_bind (wpAny_alloc ?_)
  refine wpAny_bind (pk (F := K w.params) ?_ (pk14 _) ?_)
  · intro a o e
    simp only [Array.toArray_toList]
    exact h2 _ _ (k _ _ (X _ _ e))
  rw [if_neg (by decide)]
  refine wpAny_pure (wpAny_pure ?_)
  simp only [Array.toArray_toList]
  refine h _ h'.objs.size _ (fun b o e => h2 _ _ (k _ _ e)) ?_ (Heap.get?_push_size _ rfl) ?_ (Heap.get?_push_of_some _ (Heap.get?_push_size _ rfl))
  · cases q : s.heap.get? (h'.push { cls := .type "dict", data := .dict #[] }).objs.size with
    | none => rfl
    | some o =>
      have h4 := Heap.lt_size (k _ _ q)
      rw [Heap.size_push] at h4
      exact absurd h4 (Nat.not_lt.mpr (Nat.le_succ _))
  · cases q : s.heap.get? h'.objs.size with
    | none => rfl
    | some o => exact absurd (Heap.lt_size (k _ _ q)) (Nat.lt_irrefl _)
theorem meta_tuple : typeOf (.type "tuple") = pure (.type "type") := by kernel_rfl
theorem q1 (P : Params) : findCls (K P) (.type "tuple") (.type "type") "__new__" = some (.val (.builtin "tuple.__new__")) := by kernel_rfl!
theorem q2 (P : Params) : findCls (K P) (.type "tuple") (.type "type") "__getitem__" = some (.val (.builtin "tuple.__getitem__")) := by kernel_rfl!
theorem stub_tuple : Manifest.isStub "tuple" = false := by decide +kernel
theorem hnd1 : handedIn (.builtin "tuple.__new__") = true := by decide +kernel
theorem hnd2 : handedIn (.builtin "tuple.__getitem__") = true := by decide +kernel
theorem gm_new {w : World} {A : Around} {E : Value → Shared → Prop} {s : Shared} {h₀ : Heap} {L : Addr} {m : Str → Option Value} {pl : Sem Bool} {Q : Value × List Value → Shared → Prop} (F : Fr h₀ L s.heap m) (X : (K w.params).In h₀)
    (h : Q (.builtin "tuple.__new__", []) { s with toks := s.toks + 1 }) : wpAny (model PG w) A (getMethod (.type "tuple") (Str.ofString "__new__") pl) Q E s :=
by
  with_reducible refine method_type (T := "tuple") (name := Str.ofString "__new__") (v := .builtin "tuple.__new__") F X ?_ ?_ ?_ ?_ ?_
  · exact meta_tuple
  · exact stub_tuple
  · exact q1 _
  · exact hnd1
  · exact h
theorem gm_item {w : World} {A : Around} {E : Value → Shared → Prop} {s : Shared} {h₀ : Heap} {L : Addr} {m : Str → Option Value} {pl : Sem Bool} {Q : Value × List Value → Shared → Prop} (F : Fr h₀ L s.heap m) (X : (K w.params).In h₀)
    (h : Q (.builtin "tuple.__getitem__", []) { s with toks := s.toks + 1 }) : wpAny (model PG w) A (getMethod (.type "tuple") (Str.ofString "__getitem__") pl) Q E s :=
by
  with_reducible refine method_type (T := "tuple") (name := Str.ofString "__getitem__") (v := .builtin "tuple.__getitem__") F X ?_ ?_ ?_ ?_ ?_
  · exact meta_tuple
  · exact stub_tuple
  · exact q2 _
  · exact hnd2
  · exact h
local macro_rules | `(tactic| walk_at "own 8") => `(tactic| first | (with_reducible refine gm_new (by k_asm) (by k_asm) ?_) | (with_reducible refine gm_item (by k_asm) (by k_asm) ?_))
local macro_rules | `(tactic| walk_at "part MN") => `(tactic| skip)
section
local macro_rules | `(tactic| walk_at $k:str) => match [("getMethod type:tuple", "own 8"), ("call builtin:tuple.__new__", "halt")].lookup k.getString with
  | some n => `(tactic| walk_at $(Lean.Syntax.mkStrLit n))
  | none => Lean.Macro.throwUnsupported
set_option rowWalk.seconds 0
end
set_option Elab.async false
set_option maxRecDepth 100000
set_option maxHeartbeats 4000000
local macro_rules | `(tactic| walk_at "part MN2") => `(tactic| skip)
section
local macro_rules | `(tactic| walk_at $k:str) => match [("getMethod type:tuple", "own 8"), ("call builtin:tuple.__new__", "halt")].lookup k.getString with
  | some n => `(tactic| walk_at $(Lean.Syntax.mkStrLit n))
  | none => Lean.Macro.throwUnsupported
set_option rowWalk.seconds 0
theorem oi_args_kw (a : Value) (kw : List (Str × Value)) : argsOk "object.__init__" ⟨[a], kw⟩ := by unfold argsOk; kernel_rfl
theorem pk15 (P : Params) (S : Setting) : peek (K P) S (isSubtype (.ref 173) (.ref 173)) = some true := by kernel_rfl!
theorem pk16 (P : Params) (S : Setting) : peek (K P) S (isSubtype (.ref 173) (.type "object")) = some true := by kernel_rfl!
section
variable {w : World} {A : Around} {R : Result → Shared → Prop} {s : Shared} {v1 v2 : Value}
theorem make173 {mg mb : Str → Option Value} (X : (K w.params).In s.heap) (T : TR mg mb s.heap) (hh0 : A.handled = none) (hd : A.depth + 6 < recursionLimit) (hu : A.units + 60 < cLine)
    (h : ∀ x dx h' tk, Ext s.heap h' → s.heap.get? x = none → h'.get? x = some ⟨.ref 173, some dx, .seq #[v1, v2] 0, #[]⟩ → s.heap.get? dx = none → h'.get? dx = some { cls := .type "dict", data := .dict #[] } → R (.ok (.ret (.ref x))) { s with heap := h', toks := tk }) : codeAny (model PG w) A (.call (.ref 173) ⟨[], [(Str.ofString "slope", v1), (Str.ofString "intercept", v2)]⟩) R s := by
  obtain ⟨hh, g, d, t, os⟩ := s
  refine codeAny_of_tree ?_
  show wpAny _ _ (callAny (.ref 173) _) _ _ _
  refine nd_load (X 173 _ rfl) ?_
  show wpAny _ _ (callAny.viaDunder (.ref 173) _) _ _ _
  unfold callAny.viaDunder
  refine wpAny_bind (pk X (pk3 _) ?_)
  dsimp only
  rw [tc_bind]
  refine wpAny_bind (wpAny_pure (wpAny_bind (wpAny_pure ?_)))
  refine wpAny_pure (a := Fin.again (.call (.builtin "type.__call__") ⟨.ref 173 :: [], [(Str.ofString "slope", v1), (Str.ofString "intercept", v2)]⟩)) (And.intro rfl ?_)
  refine codeAny_call_builtin_at (Code.quiet_builtin _ (by decide +kernel)) entry_typeCall (check_slot tc_kind tc_split (fun A Q E s k q => pk (X.keeps k) (pk5 _) q) (tc_args _ _ _) ?_)
  unfold Builtin.«type.__call__»
  generalize hA' : (A.under _) = A'
  dsimp only
  refine wpAny_bind (pk X (pk4 _) ?_)
  rw [if_neg (show ¬ ([Value.ref 173, Value.type "tuple", Value.type "object"].isEmpty = true) from Bool.false_ne_true)]
  refine wpAny_bind (pk X (pk1 _) ?_)
  refine wpAny_bind (cls_bind X (pk6 _) (pk7 _) ?_)
  refine wpAny_call (sm_get (p := 174) (C := 173) (s := { heap := hh, gens := g, drawn := d, toks := t + 1, os := os }) X (pk8 _) ?_)
  refine handed_on (by rfl) ?_
  refine wpAny_bind (wpAny_holding (wpAny_call ?_))
  refine enter (h₀ := hh) (fun b o e => e) (Nat.le_refl _) X T (K := K w.params) (f := 123) (binds := [(Str.ofString "_cls", .ref 173), (Str.ofString "slope", v1), (Str.ofString "intercept", v2)]) (by k_is) (by k_is) (by rw [← hA']; first | (simp only [depth_under_make, depth_under_kw, depth_in1, depth_deeper, depth_caller]; omega) | (rw [Around.under_plainId (by decide +kernel)]; simp only [depth_in1]; omega)) (BindsTo.of_eq rfl) (locs rfl) (by decide) rfl rfl rfl ?_
  intro L h₁ hL F hk₁ N
  dsimp only
  try k_fold
  w_on
  refine skip_doc rfl rfl ?_
  k_steps
  refine Halt.of ?_
  rename Fr _ _ _ _ => F1
  rename News _ _ _ _ => N1
  refine tuple_new (X.keeps F1.keep) (N1 _ (.head _)).1 (show 2 ≤ 8 from by decide) fun x dx h' k hx hxo hdx hdo => ?_
  have X' : (K w.params).In h' := (X.keeps F1.keep).keeps k
  have kk : Ext hh h' := fun b o e => k _ _ (F1.keep _ _ e)
  have hx0 : hh.get? x = none := by
    cases q : hh.get? x with
    | none => rfl
    | some o =>
      have := F1.keep _ _ q
      rw [show _ = none from hx] at this
      cases this
  have hd0 : hh.get? dx = none := by
    cases q : hh.get? dx with
    | none => rfl
    | some o =>
      have := F1.keep _ _ q
      rw [show _ = none from hdx] at this
      cases this
  clear F1 N1
  k_steps
  have t1 : Looks (model PG w) h' (typeOf (.ref x)) (.ref 173) := (Looks.ld hxo).andThen .now
  have i1 : Looks (model PG w) h' (isInstance (.ref x) (.ref 173)) true := t1.andThen (fun A Q E s k q => pk (X'.keeps k) (pk15 _) q)
  have i2 : Looks (model PG w) h' (isInstance (.ref x) (.type "object")) true := t1.andThen (fun A Q E s k q => pk (X'.keeps k) (pk16 _) q)
  have l1 : Looks (model PG w) h' (typeLookup (.ref 173) "__init__") (some (.builtin "object.__init__")) := fun A Q E s k q => pk (X'.keeps k) (pk13 _) q
  have m1 : Looks (model PG w) h' (Bind.madeBy (.ref 173)) none := fun A Q E s k q => pk (X'.keeps k) (pk1 _) q
  refine wpAny_bind (i1.at ?_)
  rw [if_neg (by decide)]
  unfold callSpecial? specialOf
  refine wpAny_bind (wpAny_holding (wpAny_bind (wpAny_bind (t1.at (l1.at ?_)))))
  dsimp only
  rw [oi_bind]
  refine wpAny_holding (wpAny_bind (wpAny_pure (wpAny_bind (wpAny_call ?_))))
  refine codeAny_call_builtin oi_plain entry_oi (@check_slot (model PG w) _ _ _ "object.__init__" "object" "__init__" (.ref x) [] [(Str.ofString "slope", v1), (Str.ofString "intercept", v2)] _ oi_kind oi_split i2 (oi_args_kw _ _) ?_)
  unfold Builtin.«object.__init__»
  rw [List.append_nil]
  refine wpAny_bind (t1.at (wpAny_bind (l1.at (wpAny_bind (m1.at ?_)))))
  rw [if_neg (by decide), if_neg (by decide)]
  refine wpAny_pure (wpAny_pure ?_)
  dsimp only
  rw [if_neg (by decide)]
  exact wpAny_pure (h x dx h' _ kk hx0 hxo hd0 hdo)
end
end
set_option Elab.async false
set_option maxRecDepth 100000
set_option maxHeartbeats 16000000
theorem hid_of {h₀ h : Heap} (hp : h₀.get? PT = none) (k : Ext h₀ h) : Ext h₀ (hid h) := fun b o e => by
  have hb : b ≠ PT := fun q => by rw [q, hp] at e; cases e
  rw [Heap.hide_ne _ hb]; exact k b o e
theorem hid_sub {h : Heap} : Ext (hid h) h := fun _ _ e => Heap.of_hide e
theorem hid_list {h : Heap} {l : Addr} {its : Array Value} (hl : h.IsList l its) (hn : l ≠ PT) : (hid h).IsList l its := by
  obtain ⟨o, e, r⟩ := hl
  exact ⟨o, by rw [Heap.hide_ne _ hn]; exact e, r⟩
theorem BindsTo.of_peek {K : Frag} {s : Shared} {fd : FuncData} {args : Args} {binds : List (Str × Value)} (x : K.In s.heap) (e : ∀ S : Setting, peek K S (bindArgs fd args) = some binds) : BindsTo s fd args binds := fun M A E Q hq => by
  intro Γ p hΓ
  exact wp_of_peek (K := K) x hq _ (e _)
theorem news_snoc {h₀ h : Heap} {L a : Addr} {o : Obj} {news : List (Addr × Obj)} (N : News h₀ L h news) (e : h.get? a = some o) (hL : a ≠ L) (h0 : h₀.get? a = none) : News h₀ L h ((a, o) :: news) := fun p hp => by
  rcases List.mem_cons.mp hp with rfl | hp
  · exact ⟨e, hL, h0⟩
  · exact N p hp
theorem news_swap {h₀ h : Heap} {L : Addr} {a b : Addr × Obj} {news : List (Addr × Obj)} (N : News h₀ L h (a :: b :: news)) : News h₀ L h (b :: a :: news) := fun p hp => by
  rcases List.mem_cons.mp hp with rfl | hp
  · exact N _ (.tail _ (.head _))
  rcases List.mem_cons.mp hp with rfl | hp
  · exact N _ (.head _)
  · exact N p (.tail _ (.tail _ hp))
theorem fr_wr {hb h h' : Heap} {L C I : Addr} {m : Str → Option Value} (F : Fr hb L h m) (hk : ∀ b o, b ∉ [C, I] → h.get? b = some o → h'.get? b = some o) (h1 : L ≠ C) (h2 : L ≠ I) (h3 : hb.objs.size ≤ C) (h4 : hb.objs.size ≤ I) : Fr hb L h' m :=
  ⟨F.ns.at fun o e => hk L o (by simp [h1, h2]) e, fun b o e => hk b o (fun hm => by
    have := Heap.lt_size e
    rcases List.mem_cons.mp hm with rfl | hm
    · exact Nat.lt_irrefl _ (Nat.lt_of_lt_of_le this h3)
    · rw [List.mem_singleton.mp hm] at this; exact Nat.lt_irrefl _ (Nat.lt_of_lt_of_le this h4)) (F.keep b o e), F.above⟩
theorem news_wr {hb h h' : Heap} {L C I : Addr} {news : List (Addr × Obj)} (N : News hb L h news) (hk : ∀ b o, b ∉ [C, I] → h.get? b = some o → h'.get? b = some o) (hn : ∀ p ∈ news, p.1 ≠ C ∧ p.1 ≠ I) : News hb L h' news := fun p hp =>
  ⟨hk _ _ (by have := hn p hp; simp [this.1, this.2]) (N p hp).1, (N p hp).2⟩
theorem gv_step {prog : Program} {w : World} {A : Around} {hb : Heap} {L a C I l ca : Addr} {oA oC oI oc : Obj} {m m' : Str → Option Value} {rest : List (Addr × Obj)} {g n : Nat} {P : Nat → Value → Prop} {s s' : Shared} {its : Array Value}
    (X : GV prog w A a [a, C, I, l, cStatics, ca] [C, I] g n P s) (F : Fr hb L s.heap m) (N : News hb L s.heap ((a, oA) :: (C, oC) :: (I, oI) :: rest)) (F' : Fr hb L s'.heap m') (N' : News hb L s'.heap ((a, oA) :: (C, oC) :: (I, oI) :: rest)) (hg : s'.gens = s.gens)
    (hl : hb.IsList l its) (hlim : hb.NoLimit) (hc : (ca, oc) ∈ rest) : GV prog w A a [a, C, I, l, cStatics, ca] [C, I] g n P s' := by
  have one : ∀ {b o}, (b, o) ∈ ((a, oA) :: (C, oC) :: (I, oI) :: rest) → ∀ o', s.heap.get? b = some o' → s'.heap.get? b = some o' := fun hm o' e => by
    rw [(N _ hm).1] at e; cases e; exact (N' _ hm).1
  have two : ∀ {b o}, hb.get? b = some o → ∀ o', s.heap.get? b = some o' → s'.heap.get? b = some o' := fun e o' e' => by
    rw [F.keep _ _ e] at e'; cases e'; exact F'.keep _ _ e
  refine X.at hg fun b hb' => ?_
  simp only [List.mem_cons, List.not_mem_nil, or_false] at hb'
  rcases hb' with rfl | rfl | rfl | rfl | rfl | rfl
  · exact one (.head _)
  · exact one (.tail _ (.head _))
  · exact one (.tail _ (.tail _ (.head _)))
  · obtain ⟨_, e, _⟩ := hl; exact two e
  · obtain ⟨_, ⟨_, _, _, e, _⟩, _⟩ := hlim; exact two e
  · exact one (.tail _ (.tail _ (.tail _ hc)))
theorem gv_lt {hb : Heap} {L a C I l ca : Addr} {oA oC oI oc : Obj} {m : Str → Option Value} {rest : List (Addr × Obj)} {h : Heap} {its : Array Value}
    (F : Fr hb L h m) (N : News hb L h ((a, oA) :: (C, oC) :: (I, oI) :: rest)) (hl : hb.IsList l its) (hlim : hb.NoLimit) (hc : (ca, oc) ∈ rest) : ∀ b ∈ [a, C, I, l, cStatics, ca], b < h.objs.size := fun b hb' => by
  simp only [List.mem_cons, List.not_mem_nil, or_false] at hb'
  rcases hb' with rfl | rfl | rfl | rfl | rfl | rfl
  · exact Heap.lt_size (N _ (.head _)).1
  · exact Heap.lt_size (N _ (.tail _ (.head _))).1
  · exact Heap.lt_size (N _ (.tail _ (.tail _ (.head _)))).1
  · obtain ⟨_, e, _⟩ := hl; exact Heap.lt_size (F.keep _ _ e)
  · obtain ⟨_, ⟨_, _, _, e, _⟩, _⟩ := hlim; exact Heap.lt_size (F.keep _ _ e)
  · exact Heap.lt_size (N _ (.tail _ (.tail _ (.tail _ hc)))).1
local macro_rules | `(tactic| walk_at "own 9") => `(tactic| (exfalso; omega))
local macro_rules | `(tactic| walk_at "own 10") => `(tactic| (refine wpAny_Try_except ?_))
local macro_rules | `(tactic| walk_at "part ML") => `(tactic| skip)
section
local macro_rules | `(tactic| walk_at $k:str) => match [("call builtin:math.fsum", "halt"), ("call builtin:math.sumprod", "halt"), ("eval GeneratorExp", "halt"), ("exec Assign cons ListComp", "halt"), ("exec Raise some none", "own 9"), ("callWith ref", "halt"), ("CompSrc", "halt"), ("exec Try", "own 10"), ("binaryOp Div float int", "halt"), ("binaryOp Div float float", "halt"), ("binaryOp Add float float", "halt"), ("binaryOp Sub int float", "halt")].lookup k.getString with
  | some n => `(tactic| walk_at $(Lean.Syntax.mkStrLit n))
  | none => Lean.Macro.throwUnsupported
set_option rowWalk.seconds 0 in
theorem lr_ok {w : World} {mg mb mm : Str → Option Value} {bm : Addr} {ob : Obj} {dp un : Nat} {fr : Option (List Env)} {gd : Option (List Code)} {E Q : Value → Shared → Prop} {s : Shared} {h₀ : Heap} {lx ly : Addr} {us ws : List Value} {xs ys : List Int} {ps : Array Value} {xb yb : Int}
    (hk : Ext h₀ s.heap) (hPT₀ : h₀.get? PT = none) (X₀ : (K w.params).In h₀) (T₀ : TR mg mb h₀) (M₀ : BMod h₀ mainGlobals mm bm ob) (hG : AllBare s.gens)
    (hP : s.heap.get? PT = some (tabO ps)) (hps : TabP ⟨115, 12, 115, 35⟩ ps)
    (hlx₀ : s.heap.IsList lx us.toArray) (hix : IntsAre us xs) (hly₀ : s.heap.IsList ly ws.toArray) (hiy : IntsAre ws ys) (hxP : lx ≠ PT) (hyP : ly ≠ PT)
    (hn : ys.length = xs.length) (h3 : 3 ≤ xs.length) (h8 : xs.length ≤ 8) (hbx : ∀ v ∈ xs, -168 ≤ v ∧ v ≤ 168) (hby : ∀ v ∈ ys, -4294967296 ≤ v ∧ v ≤ 4294967296)
    (hsx : xs.sum = xb * (xs.length : Int)) (hsy : ys.sum = yb * (xs.length : Int)) (hne : dot (dev xs xb) (dev xs xb) ≠ 0) (hd : dp + 12 < recursionLimit) (hu : un + 130 < cLine)
    (hret : ∀ (r dx : Addr) (s' : Shared) (v : Value) (fa fb fx fy : UInt64) (t1 t2 : Tok), (∀ b o, b ≠ PT → s.heap.get? b = some o → s'.heap.get? b = some o) → s.heap.get? r = none → s'.heap.get? r = some ⟨.ref 173, some dx, .seq #[.float (Float64.div fa fb) t1, .float (Float64.sub fy (Float64.mul (Float64.div fa fb) fx)) t2] 0, #[]⟩ → s.heap.get? dx = none → s'.heap.get? dx = some { cls := .type "dict", data := .dict #[] } →
      s'.heap.get? PT = some (tabO #[rawInt 115, rawInt 12, v]) → AllBare s'.gens → s'.os = s.os → s'.drawn = s.drawn → FI fa (dot (dev xs xb) (dev ys yb)) → FI fb (dot (dev xs xb) (dev xs xb)) → FI fx xb → FI fy yb → Q (.ref r) s') :
    wpAny (model PG w) (AR dp fr gd un) (call (.ref 182) [.ref lx, .ref ly]) Q E s := by
  have hXL : us.length = xs.length := hix.length
  have hYL : ws.length = ys.length := hiy.length
  have X : (K w.params).In (hid s.heap) := X₀.keeps (hid_of hPT₀ hk)
  have T : TR mg mb (hid s.heap) := T₀.keeps (hid_of hPT₀ hk)
  have M : BMod (hid s.heap) mainGlobals mm bm ob := M₀.keeps (hid_of hPT₀ hk)
  have hlx := hid_list hlx₀ hxP
  have hly := hid_list hly₀ hyP
  have hPT : (hid s.heap).get? PT = none := Heap.hide_self _ _
  have bxb := mean_bd (xs := xs) (by omega) hbx hsx
  have byb := mean_bd (xs := ys) (by omega) hby (by rw [hn]; exact hsy)
  clear M₀ X₀ T₀ hlx₀ hly₀ hk hPT₀
  refine wpAny_call ?_
  refine enterC (h₀ := hid s.heap) hid_sub (Nat.le_of_eq (Heap.hide_size _ _)) X T (K := K w.params) (f := 182) (binds := [(Str.ofString "x", .ref lx), (Str.ofString "y", .ref ly), (Str.ofString "proportional", .bool false)]) (by k_is) (by k_is) (by dsimp only; omega) (BindsTo.of_peek (X.keeps hid_sub) (fun S => by rfl)) rfl (by decide +kernel) rfl rfl rfl ?_
  intro L h₁ tk cells hL F hk₁ N Y
  have hPh := hk₁ _ _ hP
  k_cells Y
  rename News _ _ _ _ => N0
  have hPL : PT ≠ L := by
    have := Heap.lt_size hP
    rw [hL] at this
    exact Nat.ne_of_lt this
  have N := news_snoc N0 hPh hPL hPT
  clear N0 hPh
  dsimp only
  try k_fold
  w_on
  refine skip_doc rfl rfl ?_
  k_steps
  refine Halt.of ?_
  rename Fr _ _ _ _ => F1
  rename News _ _ _ _ => N1
  refine fsum_call rfl (stays_list F1.keep hlx) hix (fun v hv => by have := hbx v hv; omega) (fun i => by have := take_sum_bd (B := 168) (by omega) h8 hbx i; omega) fun h2 tk2 x2 t2 hx2 k2 => ?_
  have F2 := fr_ext F1 k2
  have N2 := news_ext N1 k2
  clear F1 N1
  k_steps
  refine Halt.of ?_
  refine fi_div_int (k := xb) (by rw [← hsx]; exact hx2) (by omega) (by omega) (by omega) fun fx tx hfx => ?_
  k_steps
  refine Halt.of ?_
  rename Fr _ _ _ _ => F1
  rename News _ _ _ _ => N1
  refine fsum_call rfl (stays_list F1.keep hly) hiy (fun v hv => by have := hby v hv; omega) (fun i => by have := take_sum_bd (xs := ys) (B := 4294967296) (by omega) (by omega) hby i; omega) fun h3' tk3 x3 t3 hx3 k3 => ?_
  have F3 := fr_ext F1 k3
  have N3 := news_ext N1 k3
  clear F1 N1
  k_steps
  refine Halt.of ?_
  refine fi_div_int (k := yb) (by rw [← hsy]; exact hx3) (by omega) (by omega) (by omega) fun fy ty hfy => ?_
  k_steps
  refine Halt.of ?_
  refine LCg.Assign_ListComp_U (F₀ := by k_asm) (by rfl) (by with_unfolding_all rfl) (by with_unfolding_all rfl) (by decide) (by rfl) (by decide) (by rfl) (by rfl) (by rfl) ?_
  k_steps
  refine Halt.of ?_
  refine LCg.CompSrc.base (by rfl) (by k_asm) (by k_asm) hlx (by rw [PySem.sizeLine_eq]; simp; omega) ?_
  intro g'
  refine cr_rel (IsF (dev xs xb)) ?_ ?_
  · intro i v I oI C oC D m₂ ys' h tk E' hi hv hC hx F N off ne
    obtain ⟨a, ta, rfl, ha⟩ := hix.at i v (by simpa using hv)
    k_steps
    refine Halt.of ?_
    refine fi_rsub hfx (by have := hbx a (List.mem_of_getElem? ha); omega) (by omega) fun r t hr => ?_
    exact ⟨h, _, _, rfl, F, N, off, .inl hlx, rfl, r, t, _, rfl, hr, dev_get ha⟩
  · intro ys' hl' hG'
    have fl : FlAre ys' (dev xs xb) := ⟨by rw [hl', dev_len]; simpa using hXL, hG'⟩
    unfold LCg.FinA
    intro D h tk F N o1
    k_steps
    refine Halt.of ?_
    rename _ = Data.cell (some (Value.float fy ty)) => hcy
    have N' := news_swap N
    clear N
    refine gen_mk (l := ly) (ca := L + 1 + 1) (items := ws.toArray) (P := IsF (dev ys yb)) rfl rfl (by with_unfolding_all rfl) (by decide) rfl rfl rfl (by show dp + 1 < _; omega) (fun _ => rfl) rfl (X 181 _ rfl) rfl rfl rfl rfl rfl rfl rfl hps hPT M T.nolimit F N' (N' _ (.tail _ (.tail _ (.head _)))).1 ?_
    have hPD : PT ≠ D := by simp only [List.cons_append, List.nil_append, LCg.Off1] at o1; exact o1.1
    have hlyL : ly ≠ L := by
      obtain ⟨_, e, _⟩ := hly
      have := Heap.lt_size e
      have := F.above
      exact Nat.ne_of_lt (Nat.lt_of_lt_of_le (Heap.lt_size e) F.above)
    have hPlt : PT < L := by
      have := Heap.lt_size hP
      rw [hL] at this
      exact this
    refine wpAny_Name (wpAny_loadName_local rfl rfl F.ns (v := .ref ly) rfl ?_)
    refine ⟨rfl, F, N', hG, stays_list F.keep hly, (N' _ (.tail _ (.tail _ (.head _)))).1, ?_, hyP, hlyL, ?_, ?_, hPL, ?_, ?_⟩
    · intro p hp
      rcases List.mem_cons.mp hp with rfl | hp
      · exact Ne.symm hPD
      rcases List.mem_cons.mp hp with rfl | hp
      · exact Nat.ne_of_gt (Nat.lt_succ_of_lt (Nat.lt_succ_of_lt hPlt))
      rcases List.mem_cons.mp hp with rfl | hp
      · exact Nat.ne_of_gt (Nat.lt_succ_of_lt hPlt)
      · cases hp
    · exact Nat.ne_of_gt (Nat.lt_succ_of_lt (Nat.lt_succ_of_lt hPlt))
    · exact Nat.ne_of_gt (Nat.lt_succ_of_lt (Nat.lt_succ_self _))
    · intro C code A' E' i v u m₂ hA hv hn' hm hca
      obtain ⟨a, ta, rfl, ha⟩ := hiy.at i v (by simpa using hv)
      refine wpAny_BinOp (wpAny_Name (wpAny_loadName_local rfl rfl hn' hm (wpAny_Name (wpAny_loadName_free rfl rfl rfl ⟨_, hca, hcy⟩ (fi_rsub hfy (by have := hby a (List.mem_of_getElem? ha); omega) (by omega) fun r t hr => ⟨⟨_, _, _, rfl, hr, dev_get ha⟩, _, _, rfl, fun _ _ e => e⟩)))))
    · intro a C I oA oC oI v g s₅ F5 N5 G5 hos hdr hlC hlI hLC hLI hnw hPC hPI hC0 hI0 gv hcs
      have hsz : ws.toArray.size = (dev xs xb).length := by rw [dev_len, ← hn, ← hYL]; simp
      rw [hsz] at gv
      have gvs := fun (h' : Heap) (tk : Nat) m' (F' : Fr (hid s.heap) L h' m') N' => gv_step (s' := { s₅ with heap := h', toks := tk }) (m' := m') gv F5 N5 F' N' rfl hly T.nolimit (.tail _ (.tail _ (.head _)))
      clear gv
      k_steps
      refine Halt.of ?_
      rename Fr _ _ _ _ => F6
      rename News _ _ _ _ => N6
      refine sp_fg (l := D) (a := a) rfl ⟨_, (N6 _ (.tail _ (.tail _ (.tail _ (.tail _ (.head _)))))).1, rfl, _, rfl⟩ fl (gvs _ _ _ F6 N6) (by rw [dev_len, dev_len, hn]) (by rw [dev_len]; omega) (by have := hnw _ (.head _); simp [this.1, this.2])
        (gv_lt F6 N6 hly T.nolimit (.tail _ (.tail _ (.head _)))) (fun i p q hp hq => ?_) (fun i => ?_) fun s7 x7 t7 hx7 hk7 hg7 hos7 hdr7 => ?_
      · have := mul_bd (dev_bd hbx bxb p (List.mem_of_getElem? hp)) (dev_bd hby byb q (List.mem_of_getElem? hq))
        omega
      · have := take_dot_bd (by omega) (by omega) (by rw [dev_len]; exact h8) (dev_bd hbx bxb) (dev_bd hby byb) i
        omega
      have F7 := fr_wr F6 hk7 hLC hLI hC0 hI0
      have N7 := news_wr (news := (PT, _) :: _) (fun p hp => N6 p (.tail _ (.tail _ (.tail _ hp)))) hk7 (fun p hp => by
        rcases List.mem_cons.mp hp with rfl | hp
        · exact ⟨hPC, hPI⟩
        · exact hnw p hp)
      have G7 : AllBare s7.gens := G5.moved hg7
      clear F6 N6 gvs hk7 hg7
      k_steps
      refine Halt.of ?_
      have bxy := take_dot_bd (xs := dev xs xb) (ys := dev ys yb) (by omega) (by omega) (by rw [dev_len]; exact h8) (dev_bd hbx bxb) (dev_bd hby byb) 8
      rw [List.take_of_length_le (by rw [dev_len]; omega), List.take_of_length_le (by rw [dev_len]; omega)] at bxy
      refine fi_add_zero hx7 (by omega) fun fa ta hfa => ?_
      k_steps
      refine Halt.of ?_
      rename Fr _ _ _ _ => F8
      rename News _ _ _ _ => N8
      refine sp_ff (l := D) (l₂ := D) rfl ⟨_, (N8 _ (.tail _ (.head _))).1, rfl, _, rfl⟩ fl ⟨_, (N8 _ (.tail _ (.head _))).1, rfl, _, rfl⟩ fl rfl (by rw [dev_len]; omega) (fun i p q hp hq => ?_) (fun i => ?_) fun h9 tk9 fb tb hfb k9 => ?_
      · have := mul_bd (dev_bd hbx bxb p (List.mem_of_getElem? hp)) (dev_bd hbx bxb q (List.mem_of_getElem? hq))
        omega
      · have := take_dot_bd (by omega) (by omega) (by rw [dev_len]; exact h8) (dev_bd hbx bxb) (dev_bd hbx bxb) i
        omega
      have F9 := fr_ext F8 k9
      have N9 := news_ext N8 k9
      clear F8 N8 k9
      k_steps
      refine Halt.of ?_
      refine ff_div hfb hne fun tsl => ?_
      k_steps
      refine Halt.of ?_
      refine callWith_KW0 X (by k_is) rfl ?_
      k_steps
      rename Fr _ _ _ _ => F10
      rename News _ _ _ _ => N10
      show wpAny _ _ (call (.ref 173) [] [(Str.ofString "slope", _), (Str.ofString "intercept", _)]) _ _ _
      refine wpAny_call (make173 (X.keeps F10.keep) (T.keeps F10.keep) rfl (by show dp + 1 + 6 < _; omega) (by first | omega | (simp only [units_in1, units_deeper, Around.mark_units]; omega)) fun x dx h' tk' k hx hxo hdx hdo => ?_)
      have keep : ∀ b o, b ≠ PT → s.heap.get? b = some o → h'.get? b = some o := fun b o hb e => k _ _ (F10.keep _ _ (by rw [Heap.hide_ne _ hb]; exact e))
      have tabE := k _ _ (N10 _ (.head _)).1
      have fresh : ∀ x, Heap.get? _ x = none → s.heap.get? x = none := fun x hx => by
        cases q : s.heap.get? x with
        | none => rfl
        | some o =>
          by_cases hxP' : x = PT
          · have z := (N10 _ (.head _)).1
            rw [← hxP'] at z
            rw [show _ = none from hx] at z
            cases z
          · have z := F10.keep x o (by rw [Heap.hide_ne _ hxP']; exact q)
            rw [show _ = none from hx] at z
            cases z
      exact hret x dx _ v fa fb fx fy _ _ keep (fresh x hx) hxo (fresh dx hdx) hdo tabE G7 (hos7.trans hos) (hdr7.trans hdr) hfa hfb hfx hfy
end
set_option Elab.async false
set_option maxRecDepth 100000
set_option maxHeartbeats 16000000
local macro_rules | `(tactic| walk_at "own 11") => `(tactic| (first | (exfalso; omega) | refine Halt.out ?_))
local macro_rules | `(tactic| walk_at "part MLP") => `(tactic| skip)
section
local macro_rules | `(tactic| walk_at $k:str) => match [("call builtin:math.sumprod", "halt"), ("exec Raise some none", "own 9"), ("callWith ref", "own 11"), ("exec Try", "own 10"), ("binaryOp Div float int", "halt"), ("binaryOp Add int float", "halt")].lookup k.getString with
  | some n => `(tactic| walk_at $(Lean.Syntax.mkStrLit n))
  | none => Lean.Macro.throwUnsupported
set_option rowWalk.seconds 0 in
theorem lrp_ok {w : World} {mg mb : Str → Option Value} {dp un : Nat} {fr : Option (List Env)} {gd : Option (List Code)} {E Q : Value → Shared → Prop} {s : Shared} {lx ly : Addr} {us ws : List Value} {xs ys : List Int}
    (X : (K w.params).In s.heap) (T : TR mg mb s.heap)
    (hlx : s.heap.IsList lx us.toArray) (hix : IntsAre us xs) (hly : s.heap.IsList ly ws.toArray) (hiy : IntsAre ws ys)
    (hn : ys.length = xs.length) (h3 : 3 ≤ xs.length) (h8 : xs.length ≤ 8) (hbx : ∀ v ∈ xs, -168 ≤ v ∧ v ≤ 168) (hby : ∀ v ∈ ys, -4294967296 ≤ v ∧ v ≤ 4294967296)
    (hne : dot xs xs ≠ 0) (hd : dp + 12 < recursionLimit) (hu : un + 130 < cLine)
    (hret : ∀ (r dx : Addr) (h' : Heap) (tk : Nat) (fa : UInt64) (t1 t2 : Tok), Ext s.heap h' → s.heap.get? r = none → h'.get? r = some ⟨.ref 173, some dx, .seq #[.float (Float64.div fa (Float64.ofInt (dot xs xs))) t1, .float 0 t2] 0, #[]⟩ →
      FI fa (dot xs ys) → Q (.ref r) { s with heap := h', toks := tk }) :
    wpAny (model PG w) (AR dp fr gd un) (call (.ref 182) [.ref lx, .ref ly] [(Str.ofString "proportional", .bool true)]) Q E s := by
  have hXL : us.length = xs.length := hix.length
  have hYL : ws.length = ys.length := hiy.length
  have bxx := take_dot_bd (xs := xs) (ys := xs) (A := 168) (B := 168) (by omega) (by omega) h8 hbx hbx
  have bxy := take_dot_bd (xs := xs) (ys := ys) (A := 168) (B := 4294967296) (by omega) (by omega) h8 hbx hby
  have bxx8 := bxx 8
  have bxy8 := bxy 8
  rw [List.take_of_length_le (by omega)] at bxx8
  rw [List.take_of_length_le (by omega), List.take_of_length_le (by omega)] at bxy8
  refine wpAny_call ?_
  refine enterC (h₀ := s.heap) (fun b o e => e) (Nat.le_refl _) X T (K := K w.params) (f := 182) (binds := [(Str.ofString "x", .ref lx), (Str.ofString "y", .ref ly), (Str.ofString "proportional", .bool true)]) (by k_is) (by k_is) (by dsimp only; omega) (BindsTo.of_eq rfl) rfl (by decide +kernel) rfl rfl rfl ?_
  intro L h₁ tk cells hL F hk₁ N Y
  k_cells Y
  dsimp only
  try k_fold
  w_on
  refine skip_doc rfl rfl ?_
  k_steps
  refine Halt.of ?_
  rename Fr _ _ _ _ => F1
  rename News _ _ _ _ => N1
  refine sp_ii rfl (stays_list F1.keep hlx) hix (stays_list F1.keep hly) hiy hn.symm (by omega) (fun i p q hp hq => ?_) (fun i => by have := bxy i; omega) fun h2 tk2 t2 k2 => ?_
  · have h1 := hbx p (List.mem_of_getElem? hp)
    have h2 := hby q (List.mem_of_getElem? hq)
    have := mul_bd h1 h2
    omega
  have F2 := fr_ext F1 k2
  have N2 := news_ext N1 k2
  clear F1 N1
  k_steps
  refine Halt.of ?_
  refine ii_add_zero (by omega) fun fa ta hfa => ?_
  k_steps
  refine Halt.of ?_
  rename Fr _ _ _ _ => F1
  rename News _ _ _ _ => N1
  refine sp_ii rfl (stays_list F1.keep hlx) hix (stays_list F1.keep hlx) hix rfl (by omega) (fun i p q hp hq => ?_) (fun i => by have := bxx i; omega) fun h3' tk3 t3 k3 => ?_
  · have h1 := hbx p (List.mem_of_getElem? hp)
    have h2 := hbx q (List.mem_of_getElem? hq)
    have := mul_bd h1 h2
    omega
  have F3 := fr_ext F1 k3
  have N3 := news_ext N1 k3
  clear F1 N1
  k_steps
  refine Halt.of ?_
  refine fi_div hne (by omega) fun tsl => ?_
  k_steps
  refine Halt.of ?_
  refine callWith_KW0 X (by k_is) rfl ?_
  k_steps
  rename Fr _ _ _ _ => F10
  rename News _ _ _ _ => N10
  show wpAny _ _ (call (.ref 173) [] [(Str.ofString "slope", _), (Str.ofString "intercept", _)]) _ _ _
  refine wpAny_call (make173 (X.keeps F10.keep) (T.keeps F10.keep) rfl (by show dp + 1 + 6 < _; omega) (by first | omega | (simp only [units_in1, units_deeper, Around.mark_units]; omega)) fun x dx h' tk' k hx hxo _ _ => ?_)
  refine hret x dx _ _ fa _ _ (fun b o e => k _ _ (F10.keep _ _ e)) ?_ hxo hfa
  cases q : s.heap.get? x with
  | none => rfl
  | some o =>
    have z := F10.keep x o q
    rw [show _ = none from hx] at z
    cases z
end
set_option Elab.async false
set_option maxRecDepth 100000
set_option maxHeartbeats 4000000
theorem pk20 (P : Params) (S : Setting) : peek (K P) S (typeLookup (.ref 173) "__ne__") = some (some (.builtin "tuple.__ne__")) := by kernel_rfl!
theorem pk21 (P : Params) (S : Setting) : peek (K P) S (typeLookup (.ref 173) "__eq__") = some (some (.builtin "tuple.__eq__")) := by kernel_rfl!
theorem pk22 (P : Params) (S : Setting) : peek (K P) S (isSubtype (.type "tuple") (.ref 173)) = some false := by kernel_rfl!
section
variable {w : World} {A : Around} {E : Value → Shared → Prop} {s : Shared} {a b : UInt64} {i j : Int} {t1 t2 u1 u2 : Tok} {r t : Addr} {dx : Addr} {n : Nat}
theorem eqb_fi {prog : Program} {Q : Bool → Shared → Prop} (fa : FI a i) (h : Q true s) : wpAny (model prog w) A (eqBool (.float a t1) (.int i u1)) Q E s := by
  unfold eqBool
  refine wpAny_holding ?_
  show wpAny _ _ (compareOp .Eq (.float a t1) (.int i u1) >>= truthOfDropped) _ _ _
  refine wpAny_bind (eq_fi ?_)
  rw [fa.cmpInt, show (compare i i) = Ordering.eq from by simp [compare, compareOfLessAndEq]]
  exact wpAny_pure h
theorem bind_any {self : Value} {f : Value} {name : Str} {args : List Value} {C : Value} {Q : Option Value → Shared → Prop} {prog : Program} (T1 : Looks (model prog w) s.heap (typeOf self) C) (L1 : Looks (model prog w) s.heap (typeLookup C name) (some f)) (hb : bindSpecial f self = pure (f, [self]))
    (hc : wpAny (model prog w) A (call f (self :: args)) (fun v => Q (some v)) E s) : wpAny (model prog w) A (callSpecialIfBound? self name args) Q E s := by
  simp only [callSpecialIfBound?, bindSpecialIfBound?, specialOf]
  refine wpAny_holding (wpAny_bind (wpAny_bind (wpAny_bind (T1.here (L1.here ?_)))))
  simp only [hb]
  refine wpAny_bind (wpAny_askSetting (wpAny_ite ?_))
  have fin : wpAny (model prog w) A (call f ([self] ++ args) >>= fun v => pure (some v)) Q E s :=
    wpAny_bind (wpAny_mono hc (fun v s' h' => wpAny_pure h') fun _ _ h' => h')
  split
  · exact wpAny_bind (wpAny_pure (wpAny_pure fin))
  · exact wpAny_tryCatch (wpAny_bind (wpAny_pure (wpAny_pure fin)))
theorem bind_ne (self : Value) : bindSpecial (.builtin "tuple.__ne__") self = pure (.builtin "tuple.__ne__", [self]) := by kernel_rfl
theorem bind_eq (self : Value) : bindSpecial (.builtin "tuple.__eq__") self = pure (.builtin "tuple.__eq__", [self]) := by kernel_rfl
namespace N
theorem plain_ne : plainId "tuple.__ne__" = true := by decide +kernel
theorem entry_ne : entryFor table "tuple.__ne__" = some Builtin.«tuple.__ne__» := entryFor_of_fast (by kernel_rfl)
theorem kind_ne : builtinKind "tuple.__ne__" = some .slot := by decide +kernel
theorem split_ne : splitId "tuple.__ne__" = some ("tuple", "__ne__") := by decide +kernel
theorem args_ne (a b : Value) : argsOk "tuple.__ne__" ⟨[a, b], []⟩ := by unfold argsOk; kernel_rfl
theorem plain_eq : plainId "tuple.__eq__" = true := by decide +kernel
theorem kind_eq : builtinKind "tuple.__eq__" = some .slot := by decide +kernel
theorem split_eq : splitId "tuple.__eq__" = some ("tuple", "__eq__") := by decide +kernel
end N
theorem told_cmp {op : CmpOp} {id : String} {bl : Builtin} {res : Bool} {Q : Value → Shared → Prop} (hop : (op = .NotEq ∧ id = "tuple.__ne__" ∧ res = false ∧ bl = Builtin.«tuple.__ne__») ∨ (op = .Eq ∧ id = "tuple.__eq__" ∧ res = true ∧ bl = Builtin.«tuple.__eq__»)) (hu : A.units + 20 < cLine)
    (X : (K w.params).In s.heap) (hr : s.heap.get? r = some ⟨.ref 173, some dx, .seq #[.float a t1, .float b t2] 0, #[]⟩) (ht : s.heap.get? t = some { cls := .type "tuple", data := .seq #[.int i u1, .int j u2] n })
    (fa : FI a i) (fb : FI b j) (h : Q (.bool res) s) : wpAny (model PG w) A (compareOp op (.ref r) (.ref t)) Q E s := by
  obtain ⟨hh, g, d, tk, os⟩ := s
  have T1 : Looks (model PG w) hh (typeOf (.ref r)) (.ref 173) := (Looks.ld hr).andThen .now
  have T2 : Looks (model PG w) hh (typeOf (.ref t)) (.type "tuple") := (Looks.ld ht).andThen .now
  have S1 : Looks (model PG w) hh (isSubtype (.type "tuple") (.ref 173)) false := fun A Q E s k q => pk (X.keeps k) (pk22 _) q
  have I1 : Looks (model PG w) hh (isInstance (.ref r) (.type "tuple")) true := T1.andThen (fun A Q E s k q => pk (X.keeps k) (pk11 _) q)
  have I2 : Looks (model PG w) hh (isInstance (.ref t) (.type "tuple")) true := T2.andThen (fun A Q E s k q => wpAny_of_eq AutoSeq1.sub_tuple_tuple q)
  rcases hop with ⟨rfl, rfl, rfl, rfl⟩ | ⟨rfl, rfl, rfl, rfl⟩
  · have L1 : Looks (model PG w) hh (typeLookup (.ref 173) "__ne__") (some (.builtin "tuple.__ne__")) := fun A Q E s k q => pk (X.keeps k) (pk20 _) q
    show wpAny _ _ (richCompare .NotEq (.ref r) (.ref t)) _ _ _
    unfold richCompare
    refine wpAny_holding (wpAny_bind (wpAny_cRoomFor (by omega) ?_))
    refine wpAny_bind (T1.at (wpAny_bind (T2.at ?_)))
    rw [if_pos (show (Value.ref 173 != Value.type "tuple") = true from by decide)]
    refine wpAny_bind (S1.at ?_)
    simp only [Bool.false_eq_true, if_false]
    refine wpAny_bind (wpAny_bind (bind_any (C := .ref 173) (s := ⟨hh, g, d, tk, os⟩) T1 L1 (bind_ne _) ?_))
    refine wpAny_call (codeAny_call_builtin N.plain_ne N.entry_ne (@check_slot (model PG w) _ _ _ "tuple.__ne__" "tuple" "__ne__" (.ref r) [.ref t] [] _ N.kind_ne N.split_ne I1 (N.args_ne _ _) ?_))
    show wpAny _ _ (isInstance (.ref t) (.type "tuple") >>= _) _ _ _
    refine wpAny_bind (I2.at ?_)
    simp only [Bool.not_true, Bool.false_eq_true, if_false]
    refine wpAny_bind (wpAny_tupleItemsOf hr rfl ?_)
    refine wpAny_bind (wpAny_tupleItemsOf ht rfl ?_)
    rw [show (#[Value.float a t1, Value.float b t2].toList.zip #[Value.int i u1, Value.int j u2].toList) = [(Value.float a t1, Value.int i u1), (Value.float b t2, Value.int j u2)] from rfl]
    simp only [List.forIn_cons, List.forIn_nil]
    refine wpAny_bind (wpAny_bind (wpAny_bind (eqb_fi fa ?_)))
    simp only [Bool.not_true, Bool.false_eq_true, if_false]
    refine wpAny_pure ?_
    dsimp only
    refine wpAny_bind (wpAny_bind (eqb_fi fb ?_))
    simp only [Bool.not_true, Bool.false_eq_true, if_false]
    refine wpAny_pure ?_
    dsimp only
    refine wpAny_pure ?_
    dsimp only
    refine wpAny_pure ?_
    exact wpAny_pure (wpAny_pure h)
  · have L1 : Looks (model PG w) hh (typeLookup (.ref 173) "__eq__") (some (.builtin "tuple.__eq__")) := fun A Q E s k q => pk (X.keeps k) (pk21 _) q
    show wpAny _ _ (richCompare .Eq (.ref r) (.ref t)) _ _ _
    unfold richCompare
    refine wpAny_holding (wpAny_bind (wpAny_cRoomFor (by omega) ?_))
    refine wpAny_bind (T1.at (wpAny_bind (T2.at ?_)))
    rw [if_pos (show (Value.ref 173 != Value.type "tuple") = true from by decide)]
    refine wpAny_bind (S1.at ?_)
    simp only [Bool.false_eq_true, if_false]
    refine wpAny_bind (wpAny_bind (bind_any (C := .ref 173) (s := ⟨hh, g, d, tk, os⟩) T1 L1 (bind_eq _) ?_))
    refine wpAny_call (codeAny_call_builtin N.plain_eq entry_tuple_eq (@check_slot (model PG w) _ _ _ "tuple.__eq__" "tuple" "__eq__" (.ref r) [.ref t] [] _ N.kind_eq N.split_eq I1 (args_tuple_eq _ _) ?_))
    show wpAny _ _ (isInstance (.ref t) (.type "tuple") >>= _) _ _ _
    refine wpAny_bind (I2.at ?_)
    simp only [Bool.not_true, Bool.false_eq_true, if_false]
    refine wpAny_bind (wpAny_tupleItemsOf hr rfl ?_)
    refine wpAny_bind (wpAny_tupleItemsOf ht rfl ?_)
    rw [show (#[Value.float a t1, Value.float b t2].toList.zip #[Value.int i u1, Value.int j u2].toList) = [(Value.float a t1, Value.int i u1), (Value.float b t2, Value.int j u2)] from rfl]
    simp only [List.forIn_cons, List.forIn_nil]
    refine wpAny_bind (wpAny_bind (wpAny_bind (eqb_fi fa ?_)))
    simp only [Bool.not_true, Bool.false_eq_true, if_false]
    refine wpAny_pure ?_
    dsimp only
    refine wpAny_bind (wpAny_bind (eqb_fi fb ?_))
    simp only [Bool.not_true, Bool.false_eq_true, if_false]
    refine wpAny_pure ?_
    dsimp only
    refine wpAny_pure ?_
    dsimp only
    refine wpAny_pure ?_
    exact wpAny_pure (wpAny_pure h)
theorem told_ne {Q : Value → Shared → Prop} (hu : A.units + 20 < cLine) (X : (K w.params).In s.heap) (hr : s.heap.get? r = some ⟨.ref 173, some dx, .seq #[.float a t1, .float b t2] 0, #[]⟩) (ht : s.heap.get? t = some { cls := .type "tuple", data := .seq #[.int i u1, .int j u2] n })
    (fa : FI a i) (fb : FI b j) (h : Q (.bool false) s) : wpAny (model PG w) A (compareOp .NotEq (.ref r) (.ref t)) Q E s := told_cmp (.inl ⟨rfl, rfl, rfl, rfl⟩) hu X hr ht fa fb h
theorem told_eq {Q : Value → Shared → Prop} (hu : A.units + 20 < cLine) (X : (K w.params).In s.heap) (hr : s.heap.get? r = some ⟨.ref 173, some dx, .seq #[.float a t1, .float b t2] 0, #[]⟩) (ht : s.heap.get? t = some { cls := .type "tuple", data := .seq #[.int i u1, .int j u2] n })
    (fa : FI a i) (fb : FI b j) (h : Q (.bool true) s) : wpAny (model PG w) A (compareOp .Eq (.ref r) (.ref t)) Q E s := told_cmp (.inr ⟨rfl, rfl, rfl, rfl⟩) hu X hr ht fa fb h
end
set_option Elab.async false
set_option maxRecDepth 100000
set_option maxHeartbeats 4000000
theorem ga1 (P : Params) : findIn (K P) (.ref 173) "__getattribute__" = some (some (.builtin "tuple.__getattribute__")) := by kernel_rfl!
theorem ga2 (P : Params) : findIn (K P) (.ref 173) "__getattr__" = some none := by kernel_rfl!
theorem ga3 (P : Params) (od : Option Obj) : findObj (K P) 173 od (Str.ofString "slope") = some (.bind (.ref 71) (.ref 165)) := by kernel_rfl!
theorem ga4 (P : Params) (od : Option Obj) : findObj (K P) 173 od (Str.ofString "intercept") = some (.bind (.ref 71) (.ref 168)) := by kernel_rfl!
local macro_rules | `(tactic| walk_at "part MA") => `(tactic| skip)
section
local macro_rules | `(tactic| walk_at $k:str) => match [("getMethod type:tuple", "own 8"), ("call builtin:tuple.__getitem__", "halt"), ("call type:type", "halt"), ("call builtin:issubclass", "halt")].lookup k.getString with
  | some n => `(tactic| walk_at $(Lean.Syntax.mkStrLit n))
  | none => Lean.Macro.throwUnsupported
set_option rowWalk.seconds 0
abbrev inst (dx : Addr) (v1 v2 : Value) : Obj := ⟨.ref 173, some dx, .seq #[v1, v2] 0, #[]⟩
abbrev emptyD : Obj := { cls := .type "dict", data := .dict #[] }
namespace N
theorem plain_tg : plainId "tuple.__getattribute__" = true := by decide +kernel
theorem entry_tg : entryFor table "tuple.__getattribute__" = some Builtin.«object.__getattribute__» := entryFor_alias (id' := "object.__getattribute__") (by kernel_rfl) (by decide +kernel) (by decide +kernel) (by kernel_rfl)
theorem kind_tg : builtinKind "tuple.__getattribute__" = some .slot := by decide +kernel
theorem split_tg : splitId "tuple.__getattribute__" = some ("tuple", "__getattribute__") := by decide +kernel
theorem args_tg (a b : Value) : argsOk "tuple.__getattribute__" ⟨[a, b], []⟩ := by unfold argsOk; kernel_rfl
end N
theorem bind_tg (self : Value) : bindSpecial (.builtin "tuple.__getattribute__") self = pure (.builtin "tuple.__getattribute__", [self]) := by kernel_rfl
theorem get_inst {w : World} {A : Around} {E Q : Value → Shared → Prop} {s : Shared} {r dx : Addr} {v1 v2 g a : Value} {expr : Bool} {name : Str} (X : (K w.params).In s.heap)
    (hr : s.heap.get? r = some (inst dx v1 v2)) (hdx : s.heap.get? dx = some emptyD) (hf : findObj (K w.params) 173 (some emptyD) name = some (.bind g a))
    (h : wpAny (model PG w) A.in1 (call g [a, .ref r, .ref 173]) (fun v s' => wpAny (model PG w) A (handedOut v) Q E s') (fun _ _ => False) { s with toks := s.toks + 1 }) : wpAny (model PG w) A (getAttr (.ref r) name expr) Q E s := by
  obtain ⟨hh, gg, d, t, os⟩ := s
  have I : InstAt hh r (inst dx v1 v2) 173 (some emptyD) := ⟨hr, rfl, rfl, hdx⟩
  have L0 := I.type (M := model PG w)
  have L1 := looks_findIn (M := model PG w) X (ga1 _)
  have L2 := looks_findIn (M := model PG w) X (ga2 _)
  have L3 := looks_find (M := model PG w) X I hf
  have I1 : Looks (model PG w) hh (isInstance (.ref r) (.type "tuple")) true := L0.andThen (fun A Q E s k q => pk (X.keeps k) (pk11 _) q)
  unfold getAttr getAttrBy
  refine wpAny_bind (wpAny_mkText (wpAny_holding (wpAny_bind (L0.at (wpAny_bind (L1.at ?_))))))
  show wpAny _ _ (getAttrByItsOwn (.ref r) (.str name t) (.ref 173) (.builtin "tuple.__getattribute__") true expr) _ _ _
  unfold getAttrByItsOwn
  refine wpAny_bind (L2.at ?_)
  refine wpAny_bind (wpAny_attempt (wpAny_holding ?_))
  unfold callGetattribute boundAndCalled
  rw [show (expr && onTheHeap (Value.builtin "tuple.__getattribute__")) = false from Bool.and_false _, if_neg (by decide), bind_tg]
  refine wpAny_bind (wpAny_pure ?_)
  show wpAny _ _ (call (.builtin "tuple.__getattribute__") [.ref r, .str name t]) _ _ _
  refine wpAny_call (codeAny_call_builtin N.plain_tg N.entry_tg (@check_slot (model PG w) _ _ _ "tuple.__getattribute__" "tuple" "__getattribute__" (.ref r) [.str name t] [] _ N.kind_tg N.split_tg I1 (N.args_tg _ _) ?_))
  refine wpAny_bind (wpAny_pure ?_)
  refine wpAny_bind (wpAny_pure ?_)
  refine wpAny_bind (L0.at ?_)
  refine wpAny_bind (L3.at ?_)
  show wpAny _ _ (Builtin.ObjectAttr.bindTo g a (.ref r) (.ref 173)) _ _ _
  unfold Builtin.ObjectAttr.bindTo
  refine wpAny_bind (wpAny_holding (wpAny_mono h (fun v s' z => wpAny_pure z) fun (_ : Value) (_ : Shared) (z : False) => z.elim))
theorem pk30 (P : Params) (S : Setting) : peek (K P) S (Builtin.«issubclass.nested» ⟨[.ref 173, .type "tuple", rawInt 0], []⟩) = some (.done (.ret (.bool true))) := by kernel_rfl!
theorem issub173 {w : World} {A : Around} {E Q : Value → Shared → Prop} {s : Shared} (X : (K w.params).In s.heap) (h : Q (.bool true) s) : wpAny (model PG w) A (call (.builtin "issubclass") [.ref 173, .type "tuple"]) Q E s :=
  call_function_tree F.kind_issubclass F.plain_issubclass F.entry_issubclass (F.args_issubclass_2 _ _) (issubclass_outer (pk X (pk30 _) h))
namespace N
theorem kind_ti : builtinKind "tuple.__getitem__" = some .slot := by decide +kernel
theorem split_ti : splitId "tuple.__getitem__" = some ("tuple", "__getitem__") := by decide +kernel
theorem plain_ti : plainId "tuple.__getitem__" = true := by decide +kernel
end N
theorem item173 {w : World} {A : Around} {E Q : Value → Shared → Prop} {s : Shared} {r dx : Addr} {v1 v2 v : Value} {i : Int} {t : Tok} (hi : (i = 0 ∧ v = v1) ∨ (i = 1 ∧ v = v2)) (X : (K w.params).In s.heap) (hr : s.heap.get? r = some (inst dx v1 v2)) (h : Q v s) :
    wpAny (model PG w) A (call (.builtin "tuple.__getitem__") [.ref r, .int i t]) Q E s := by
  obtain ⟨hh, gg, d, tk, os⟩ := s
  have L0 : Looks (model PG w) hh (typeOf (.ref r)) (.ref 173) := (Looks.ld hr).andThen .now
  have I1 : Looks (model PG w) hh (isInstance (.ref r) (.type "tuple")) true := L0.andThen (fun A Q E s k q => pk (X.keeps k) (pk11 _) q)
  refine wpAny_call (codeAny_call_builtin N.plain_ti entry_tuple_getitem (@check_slot (model PG w) _ _ _ "tuple.__getitem__" "tuple" "__getitem__" (.ref r) [.int i t] [] _ N.kind_ti N.split_ti I1 (args_tuple_getitem _ _) ?_))
  show wpAny _ _ (Builtin.Tuple.tupleItemsOf (.ref r) >>= _) _ _ _
  refine wpAny_bind (wpAny_tupleItemsOf hr rfl ?_)
  rcases hi with ⟨rfl, rfl⟩ | ⟨rfl, rfl⟩
  · refine pk (F := K w.params) X (r := .done (.ret v)) (fun S => ?_) h
    kernel_rfl!
  · refine pk (F := K w.params) X (r := .done (.ret v)) (fun S => ?_) h
    kernel_rfl!
theorem get_slope {w : World} {mg mb : Str → Option Value} {A : Around} {E Q : Value → Shared → Prop} {s : Shared} {r dx : Addr} {v1 v2 : Value} {expr : Bool} (X : (K w.params).In s.heap) (T : TR mg mb s.heap) (hd : A.depth + 12 < recursionLimit) (hu : A.units + 130 < cLine)
    (hr : s.heap.get? r = some (inst dx v1 v2)) (hdx : s.heap.get? dx = some emptyD) (hh : handedIn v1 = true)
    (h : ∀ h' tk, Ext s.heap h' → Q v1 { s with heap := h', toks := tk }) : wpAny (model PG w) A (getAttr (.ref r) (Str.ofString "slope") expr) Q E s := by
  obtain ⟨hh0, g, d, t, os⟩ := s
  refine get_inst X hr hdx (ga3 _ _) ?_
  refine wpAny_call ?_
  refine enter (h₀ := hh0) (fun b o e => e) (Nat.le_refl _) X T (K := K w.params) (f := 71) (binds := [(Str.ofString "self", .ref 165), (Str.ofString "obj", .ref r), (Str.ofString "objtype", .ref 173)]) (by k_is) (by k_is) (by show A.depth < _; omega) (BindsTo.of_peek X (fun S => by rfl)) (locs rfl) (by decide) rfl rfl rfl ?_
  intro L h₁ hL F hk₁ N
  dsimp only
  try k_fold
  w_on
  k_steps
  refine Halt.of ?_
  rename Fr _ _ _ _ => F1
  refine kto_own (C := 173) (ox := inst dx v1 v2) (od := some emptyD) ⟨F1.keep _ _ hr, rfl, rfl, F1.keep _ _ hdx⟩ ?_
  k_steps
  refine Halt.of ?_
  refine issub173 (X.keeps F1.keep) ?_
  k_steps
  refine Halt.of ?_
  refine item173 (.inl ⟨rfl, rfl⟩) (X.keeps F1.keep) (F1.keep _ _ hr) ?_
  k_steps
  refine handed_on hh ?_
  exact h _ _ F1.keep
theorem get_icept {w : World} {mg mb : Str → Option Value} {A : Around} {E Q : Value → Shared → Prop} {s : Shared} {r dx : Addr} {v1 v2 : Value} {expr : Bool} (X : (K w.params).In s.heap) (T : TR mg mb s.heap) (hd : A.depth + 12 < recursionLimit) (hu : A.units + 130 < cLine)
    (hr : s.heap.get? r = some (inst dx v1 v2)) (hdx : s.heap.get? dx = some emptyD) (hh : handedIn v2 = true)
    (h : ∀ h' tk, Ext s.heap h' → Q v2 { s with heap := h', toks := tk }) : wpAny (model PG w) A (getAttr (.ref r) (Str.ofString "intercept") expr) Q E s := by
  obtain ⟨hh0, g, d, t, os⟩ := s
  refine get_inst X hr hdx (ga4 _ _) ?_
  refine wpAny_call ?_
  refine enter (h₀ := hh0) (fun b o e => e) (Nat.le_refl _) X T (K := K w.params) (f := 71) (binds := [(Str.ofString "self", .ref 168), (Str.ofString "obj", .ref r), (Str.ofString "objtype", .ref 173)]) (by k_is) (by k_is) (by show A.depth < _; omega) (BindsTo.of_peek X (fun S => by rfl)) (locs rfl) (by decide) rfl rfl rfl ?_
  intro L h₁ hL F hk₁ N
  dsimp only
  try k_fold
  w_on
  k_steps
  refine Halt.of ?_
  rename Fr _ _ _ _ => F1
  refine kto_own (C := 173) (ox := inst dx v1 v2) (od := some emptyD) ⟨F1.keep _ _ hr, rfl, rfl, F1.keep _ _ hdx⟩ ?_
  k_steps
  refine Halt.of ?_
  refine issub173 (X.keeps F1.keep) ?_
  k_steps
  refine Halt.of ?_
  refine item173 (.inr ⟨rfl, rfl⟩) (X.keeps F1.keep) (F1.keep _ _ hr) ?_
  k_steps
  refine handed_on hh ?_
  exact h _ _ F1.keep
end
set_option Elab.async false
set_option maxRecDepth 100000
theorem off_new {h : Heap} {h₀ : Heap} {L x : Addr} {news : List (Addr × Obj)} (N : News h₀ L h news) (e : h.get? x = none) : LCg.Off1 x news := by
  have key : ∀ l : List (Addr × Obj), (∀ p ∈ l, p ∈ news) → LCg.Off1 x l := by
    intro l
    induction l with
    | nil => intro _; trivial
    | cons p r ih =>
      intro hs
      refine ⟨fun q => ?_, ih fun p' hp' => hs p' (List.mem_cons_of_mem _ hp')⟩
      have z := (N p (hs p List.mem_cons_self)).1
      rw [show p.1 = x from q, e] at z
      cases z
  exact key news fun _ h => h
theorem new_ne {h₀ h : Heap} {L x : Addr} {m : Str → Option Value} (F : Fr h₀ L h m) (e : h.get? x = none) : x ≠ L ∧ h₀.get? x = none := by
  refine ⟨fun q => ?_, ?_⟩
  · obtain ⟨o, _, _, z, _⟩ := F.ns
    rw [← q, e] at z; cases z
  · cases z : h₀.get? x with
    | none => rfl
    | some o => rw [F.keep _ _ z] at e; cases e
section
variable {w : World} {mg mb mm m : Str → Option Value} {bm : Addr} {ob : Obj} {dp un : Nat} {fr : Option (List Env)} {gd : Option (List Code)} {E Q : Value → Shared → Prop} {s : Shared} {h₀ : Heap} {L : Addr} {news : List (Addr × Obj)}
/-- a new list onto the ledger -/
theorem list_use {l' : Addr} {us : List Value} {c : Nat} {h' : Heap} (F : Fr h₀ L s.heap m) (N : News h₀ L s.heap news) (k : Ext s.heap h') (e : h'.get? l' = some (listOf us.toArray c)) (f : s.heap.get? l' = none) :
    Fr h₀ L h' m ∧ News h₀ L h' ((l', listOf us.toArray c) :: news) ∧ LCg.Off1 l' news :=
  ⟨F.keeps k, fun p hp => by
    rcases List.mem_cons.mp hp with rfl | hp
    · exact ⟨e, (new_ne F f).1, (new_ne F f).2⟩
    · exact news_ext N k p hp, off_new N f⟩
theorem lr_use {lx ly : Addr} {us ws : List Value} {xs ys : List Int} {ps : Array Value} {xb yb : Int}
    (F : Fr h₀ L s.heap m) (N : News h₀ L s.heap ((PT, tabO ps) :: news)) (hnP : LCg.Off1 PT news) (hPT₀ : h₀.get? PT = none) (X₀ : (K w.params).In h₀) (T₀ : TR mg mb h₀) (M₀ : BMod h₀ mainGlobals mm bm ob) (hG : AllBare s.gens)
    (hps : TabP ⟨115, 12, 115, 35⟩ ps)
    (hlx₀ : s.heap.IsList lx us.toArray) (hix : IntsAre us xs) (hly₀ : s.heap.IsList ly ws.toArray) (hiy : IntsAre ws ys) (hxP : lx ≠ PT) (hyP : ly ≠ PT)
    (hn : ys.length = xs.length) (h3 : 3 ≤ xs.length) (h8 : xs.length ≤ 8) (hbx : ∀ v ∈ xs, -168 ≤ v ∧ v ≤ 168) (hby : ∀ v ∈ ys, -4294967296 ≤ v ∧ v ≤ 4294967296)
    (hsx : xs.sum = xb * (xs.length : Int)) (hsy : ys.sum = yb * (xs.length : Int)) (hne : dot (dev xs xb) (dev xs xb) ≠ 0) (hd : dp + 12 < recursionLimit) (hu : un + 130 < cLine)
    (hret : ∀ (r dx : Addr) (s' : Shared) (v : Value) (fa fb fx fy : UInt64) (t1 t2 : Tok), Fr h₀ L s'.heap m →
      News h₀ L s'.heap ((PT, tabO #[rawInt 115, rawInt 12, v]) :: (r, inst dx (.float (Float64.div fa fb) t1) (.float (Float64.sub fy (Float64.mul (Float64.div fa fb) fx)) t2)) :: (dx, emptyD) :: news) →
      LCg.Off1 PT ((r, inst dx (.float (Float64.div fa fb) t1) (.float (Float64.sub fy (Float64.mul (Float64.div fa fb) fx)) t2)) :: (dx, emptyD) :: news) →
      LCg.Off1 r news → LCg.Off1 dx news →
      AllBare s'.gens → s'.os = s.os → s'.drawn = s.drawn → FI fa (dot (dev xs xb) (dev ys yb)) → FI fb (dot (dev xs xb) (dev xs xb)) → FI fx xb → FI fy yb → Q (.ref r) s') :
    wpAny (model PG w) (AR dp fr gd un) (call (.ref 182) [.ref lx, .ref ly]) Q E s := by
  have hPL : PT ≠ L := (N _ (.head _)).2.1
  have hPh := (N _ (.head _)).1
  refine lr_ok F.keep hPT₀ X₀ T₀ M₀ hG hPh hps hlx₀ hix hly₀ hiy hxP hyP hn h3 h8 hbx hby hsx hsy hne hd hu ?_
  intro r dx s' v fa fb fx fy t1 t2 keep f1 e1 f2 e2 tab G os dr a1 a2 a3 a4
  have offm : ∀ p ∈ news, p.1 ≠ PT := by
    have key : ∀ l : List (Addr × Obj), LCg.Off1 PT l → ∀ p ∈ l, p.1 ≠ PT := by
      intro l
      induction l with
      | nil => intro _ p hp; cases hp
      | cons q r ih =>
        intro h p hp
        rcases List.mem_cons.mp hp with rfl | hp
        · exact h.1
        · exact ih h.2 p hp
    exact key _ hnP
  have F' : Fr h₀ L s'.heap m := ⟨F.ns.at fun o e => keep _ _ (Ne.symm hPL) e, fun b o e => keep _ _ (fun q => by rw [q, hPT₀] at e; cases e) (F.keep _ _ e), F.above⟩
  have rP : r ≠ PT := fun q => by rw [q, hPh] at f1; cases f1
  have dP : dx ≠ PT := fun q => by rw [q, hPh] at f2; cases f2
  refine hret r dx s' v fa fb fx fy t1 t2 F' (fun p hp => ?_) ⟨rP, dP, hnP⟩ (off_new N f1).2 (off_new N f2).2 G os dr a1 a2 a3 a4
  rcases List.mem_cons.mp hp with rfl | hp
  · exact ⟨tab, hPL, hPT₀⟩
  rcases List.mem_cons.mp hp with rfl | hp
  · exact ⟨e1, new_ne F f1⟩
  rcases List.mem_cons.mp hp with rfl | hp
  · exact ⟨e2, new_ne F f2⟩
  · have z := N p (List.mem_cons_of_mem _ hp)
    exact ⟨keep _ _ (offm p hp) z.1, z.2⟩
end
set_option Elab.async false
set_option maxRecDepth 100000
set_option maxHeartbeats 16000000
local macro_rules | `(tactic| walk_at "own 12") => `(tactic| (refine mul_int ?_ (IntMulOk.of_left (PySem.intBits_le_64 (by omega) (by omega)))))
local macro_rules | `(tactic| walk_at "part ML2") => `(tactic| skip)
section
local macro_rules | `(tactic| walk_at $k:str) => match [("eval ListComp", "halt"), ("call type:zip", "halt"), ("CompSrc", "halt"), ("binaryOp Mult int int", "own 12")].lookup k.getString with
  | some n => `(tactic| walk_at $(Lean.Syntax.mkStrLit n))
  | none => Lean.Macro.throwUnsupported
theorem sum_zip : ∀ (xs ys : List Int), (List.zipWith (fun a r => a * r) xs ys).sum = dot xs ys
  | [], _ => by cases ‹List Int› <;> rfl
  | _ :: _, [] => rfl
  | a :: r, b :: q => by
    show (a * b :: List.zipWith _ r q).sum = a * b + dot r q
    rw [List.sum_cons, sum_zip r q]
theorem sum_sq : ∀ (xs : List Int), (xs.map fun a => a * a).sum = dot xs xs
  | [] => rfl
  | a :: r => by
    show (a * a :: r.map _).sum = a * a + dot r r
    rw [List.sum_cons, sum_sq r]
set_option rowWalk.seconds 0 in
theorem line_ok {w : World} {mg mb : Str → Option Value} {dp un : Nat} {fr : Option (List Env)} {gd : Option (List Code)} {E Q : Value → Shared → Prop} {s : Shared} {lx ly : Addr} {us ws : List Value} {xs ys : List Int}
    (X : (K w.params).In s.heap) (T : TR mg mb s.heap) (hlx : s.heap.IsList lx us.toArray) (hix : IntsAre us xs) (hly : s.heap.IsList ly ws.toArray) (hiy : IntsAre ws ys) (hn : ys.length = xs.length) (h8 : xs.length ≤ 8)
    (hbx : ∀ v ∈ xs, -168 ≤ v ∧ v ≤ 168) (hby : ∀ v ∈ ys, -168 ≤ v ∧ v ≤ 168) (hd : dp + 12 < recursionLimit) (hu : un + 130 < cLine)
    (hret : ∀ t h' tk (t1 t2 t3 : Tok), Ext s.heap h' → s.heap.get? t = none → h'.get? t = some { cls := .type "tuple", data := .seq #[.int ((xs.length : Int) * dot xs ys - xs.sum * ys.sum) t1, .int (dot xs xs * ys.sum - xs.sum * dot xs ys) t2, .int ((xs.length : Int) * dot xs xs - xs.sum * xs.sum) t3] } → Q (.ref t) { s with heap := h', toks := tk }) :
    wpAny (model PG w) (AR dp fr gd un) (call (.ref 214) [.ref lx, .ref ly]) Q E s := by
  have hXL : us.length = xs.length := hix.length
  have hYL : ws.length = ys.length := hiy.length
  have bw := take_sum_bd (B := 168) (by omega) h8 hbx 8
  rw [List.take_of_length_le (by omega)] at bw
  have bq := take_sum_bd (xs := xs.map fun a => a * a) (B := 28224) (by omega) (by rw [List.length_map]; exact h8) (fun v hv => by
    obtain ⟨a, ha, rfl⟩ := List.mem_map.mp hv
    have := mul_bd (hbx a ha) (hbx a ha)
    omega) 8
  rw [List.take_of_length_le (by rw [List.length_map]; omega)] at bq
  refine wpAny_call ?_
  refine enter (h₀ := s.heap) (fun b o e => e) (Nat.le_refl _) X T (K := K w.params) (f := 214) (binds := [(Str.ofString "x", .ref lx), (Str.ofString "y", .ref ly)]) (by k_is) (by k_is) (by dsimp only; omega) (BindsTo.of_eq rfl) (locs rfl) (by decide) rfl rfl rfl ?_
  intro L h₁ hL F hk₁ N
  dsimp only
  try k_fold
  w_on
  k_steps
  refine Halt.of ?_
  refine LCg.ListComp_U (F₀ := by k_asm) (by with_unfolding_all rfl) (by decide) (by rfl) (by decide) (by rfl) ?_
  k_steps
  refine Halt.of ?_
  refine LCg.CompSrc.base (by rfl) (by k_asm) (by k_asm) hlx (by rw [PySem.sizeLine_eq]; simp; omega) ?_
  intro g'
  refine cr_rel (IsI (xs.map fun a => a * a)) ?_ ?_
  · intro i v I oI C oC D m₂ ys' h tk E' hi hv hC hx F N off ne
    obtain ⟨a, ta, rfl, ha⟩ := hix.at i v (by simpa using hv)
    have ba := hbx a (List.mem_of_getElem? ha)
    k_steps
    exact ⟨h, _, _, rfl, F, N, off, .inl hlx, rfl, _, _, (by rw [List.getElem?_map, ha]; rfl), rfl⟩
  · intro ys' hl' hG'
    have hi1 : IntsAre ys' (xs.map fun a => a * a) := ints_of (by rw [hl', List.length_map]; simpa using hXL) hG'
    have hl1 : ys'.length = xs.length := by rw [hl']; simpa using hXL
    unfold LCg.FinE
    intro D h tk F N o1
    k_steps
    refine Halt.of ?_
    refine zip_ListComp (by k_asm) (by with_unfolding_all rfl) (by decide) (by rfl) (by decide) (by rfl) (by rfl) (by decide) ?_
    k_steps
    refine Halt.of ?_
    refine zip_call (IsI (List.zipWith (fun a r => a * r) xs ys)) (by rfl) (by k_asm) (by k_asm) (stays_list (Fr.keep (by k_asm)) hlx) (stays_list (Fr.keep (by k_asm)) hly) (by omega) (by rw [PySem.sizeLine_eq]; omega) ?_ ?_
    · intro i v₁ v₂ C oC m₂ h tk E' hi' e1 e2 hC ha hb F' N'
      obtain ⟨k1, t3, rfl, hk1⟩ := IntsAre.at hix i v₁ e1
      obtain ⟨k2, t4, rfl, hk2⟩ := IntsAre.at hiy i v₂ e2
      have ba := hbx k1 (List.mem_of_getElem? hk1)
      k_steps
      exact isI_zip (f := fun a r => a * r) hk1 hk2
    · intro g ys2 hys hG
      have hi2 : IntsAre ys2 (List.zipWith (fun a r => a * r) xs ys) := ints_of (by rw [hys, List.length_zipWith]; omega) hG
      unfold FinZ
      intro D c h tk F' N' o1
      k_steps
      rename Fr _ _ _ _ => F9
      rename News _ _ _ _ => N9
      rw [sum_zip, sum_sq] at N9
      show Q _ _
      exact hret _ _ _ _ _ _ F9.keep (N9 _ (.head _)).2.2 (N9 _ (.head _)).1
end
set_option Elab.async false
set_option maxRecDepth 100000
section
variable {w : World} {mg mb m : Str → Option Value} {dp un : Nat} {fr : Option (List Env)} {gd : Option (List Code)} {E Q : Value → Shared → Prop} {s : Shared} {h₀ : Heap} {L : Addr} {news : List (Addr × Obj)}
theorem list_up {h h' : Heap} {l : Addr} {its : Array Value} (k : Ext h h') (hl : h.IsList l its) : h'.IsList l its := let ⟨o, e, r⟩ := hl; ⟨o, k _ _ e, r⟩
theorem across_use {l lx : Addr} {vs us : List Value} {ns xs : List Int} {first : Int} {t1 : Tok} (F : Fr h₀ L s.heap m) (N : News h₀ L s.heap news) (X : (K w.params).In h₀) (T : TR mg mb h₀) (hl : h₀.IsList l vs.toArray) (hi : IntsAre vs ns)
    (hlay : (PyData.list (ns.map PyData.int)).layable0 = true) (hlx : s.heap.IsList lx us.toArray) (hix : IntsAre us xs) (px : PX xs) (hf0 : 0 ≤ first) (hf1 : first ≤ 50) (hd : dp + 12 < recursionLimit) (hu : un + 130 < cLine)
    (hret : ∀ l' us fs c h' tk, Fr h₀ L h' m → News h₀ L h' ((l', listOf (List.toArray us) c) :: news) → LCg.Off1 l' news → IntsAre us fs → FX xs fs (1008 * (3 : Nat)) → Q (.ref l') { s with heap := h', toks := tk }) :
    wpAny (model PG w) (AR dp fr gd un) (call (.ref 199) [.ref l, .int first t1, .ref lx]) Q E s :=
  across_ok (X.keeps F.keep) (T.keeps F.keep) (list_up F.keep hl) hi hlay hlx hix px hf0 hf1 hd hu fun l' us fs c h' tk k e f hi fx => by
    obtain ⟨a, b, c'⟩ := list_use F N k e f
    exact hret l' us fs c h' tk a b c' hi fx
theorem on_use {lx lr : Addr} {us ws : List Value} {xs rs : List Int} {slope start : Int} {t1 t2 : Tok} (F : Fr h₀ L s.heap m) (N : News h₀ L s.heap news) (X : (K w.params).In h₀) (T : TR mg mb h₀)
    (hlx : s.heap.IsList lx us.toArray) (hix : IntsAre us xs) (hlr : s.heap.IsList lr ws.toArray) (hir : IntsAre ws rs) (hn : rs.length = xs.length) (h8 : xs.length ≤ 8)
    (hs0 : -1000 ≤ slope) (hs1 : slope ≤ 1000) (hd : dp + 12 < recursionLimit) (hu : un + 130 < cLine)
    (hret : ∀ l' us fs c h' tk, Fr h₀ L h' m → News h₀ L h' ((l', listOf (List.toArray us) c) :: news) → LCg.Off1 l' news → IntsAre us fs → fs = List.zipWith (fun a r => slope * a + start + r) xs rs → Q (.ref l') { s with heap := h', toks := tk }) :
    wpAny (model PG w) (AR dp fr gd un) (call (.ref 204) [.ref lx, .int slope t1, .int start t2, .ref lr]) Q E s :=
  on_ok (X.keeps F.keep) (T.keeps F.keep) hlx hix hlr hir hn h8 hs0 hs1 hd hu fun l' us fs c h' tk k e f hi fx => by
    obtain ⟨a, b, c'⟩ := list_use F N k e f
    exact hret l' us fs c h' tk a b c' hi fx
theorem places_use {l : Addr} {vs : List Value} {ns : List Int} (F : Fr h₀ L s.heap m) (N : News h₀ L s.heap news) (X : (K w.params).In h₀) (T : TR mg mb h₀) (hl : h₀.IsList l vs.toArray) (hi : IntsAre vs ns)
    (hlay : (PyData.list (ns.map PyData.int)).layable0 = true) (hd : dp + 12 < recursionLimit) (hu : un + 130 < cLine)
    (hret : ∀ l' us xs c h' tk, Fr h₀ L h' m → News h₀ L h' ((l', listOf (List.toArray us) c) :: news) → LCg.Off1 l' news → IntsAre us xs → PX xs → Q (.ref l') { s with heap := h', toks := tk }) :
    wpAny (model PG w) (AR dp fr gd un) (call (.ref 194) [.ref l]) Q E s :=
  places_ok (X.keeps F.keep) (T.keeps F.keep) (list_up F.keep hl) hi hlay hd hu fun l' us xs c h' tk k e f hi px => by
    obtain ⟨a, b, c'⟩ := list_use F N k e f
    exact hret l' us xs c h' tk a b c' hi px
theorem line_use {lx ly : Addr} {us ws : List Value} {xs ys : List Int} (F : Fr h₀ L s.heap m) (N : News h₀ L s.heap news) (X : (K w.params).In h₀) (T : TR mg mb h₀)
    (hlx : s.heap.IsList lx us.toArray) (hix : IntsAre us xs) (hly : s.heap.IsList ly ws.toArray) (hiy : IntsAre ws ys) (hn : ys.length = xs.length) (h8 : xs.length ≤ 8)
    (hbx : ∀ v ∈ xs, -168 ≤ v ∧ v ≤ 168) (hby : ∀ v ∈ ys, -168 ≤ v ∧ v ≤ 168) (hd : dp + 12 < recursionLimit) (hu : un + 130 < cLine)
    (hret : ∀ t h' tk (t1 t2 t3 : Tok), Fr h₀ L h' m → News h₀ L h' ((t, { cls := .type "tuple", data := .seq #[.int ((xs.length : Int) * dot xs ys - xs.sum * ys.sum) t1, .int (dot xs xs * ys.sum - xs.sum * dot xs ys) t2, .int ((xs.length : Int) * dot xs xs - xs.sum * xs.sum) t3] }) :: news) → LCg.Off1 t news → Q (.ref t) { s with heap := h', toks := tk }) :
    wpAny (model PG w) (AR dp fr gd un) (call (.ref 214) [.ref lx, .ref ly]) Q E s :=
  line_ok (X.keeps F.keep) (T.keeps F.keep) hlx hix hly hiy hn h8 hbx hby hd hu fun t h' tk t1 t2 t3 k f e =>
    hret t h' tk t1 t2 t3 (F.keeps k) (fun p hp => by
      rcases List.mem_cons.mp hp with rfl | hp
      · exact ⟨e, (new_ne F f).1, (new_ne F f).2⟩
      · exact news_ext N k p hp) (off_new N f)
theorem lrp_use {lx ly : Addr} {us ws : List Value} {xs ys : List Int} (F : Fr h₀ L s.heap m) (N : News h₀ L s.heap news) (X : (K w.params).In h₀) (T : TR mg mb h₀)
    (hlx : s.heap.IsList lx us.toArray) (hix : IntsAre us xs) (hly : s.heap.IsList ly ws.toArray) (hiy : IntsAre ws ys)
    (hn : ys.length = xs.length) (h3 : 3 ≤ xs.length) (h8 : xs.length ≤ 8) (hbx : ∀ v ∈ xs, -168 ≤ v ∧ v ≤ 168) (hby : ∀ v ∈ ys, -4294967296 ≤ v ∧ v ≤ 4294967296)
    (hne : dot xs xs ≠ 0) (hd : dp + 12 < recursionLimit) (hu : un + 130 < cLine)
    (hret : ∀ (r dx : Addr) (h' : Heap) (tk : Nat) (fa : UInt64) (t1 t2 : Tok), Fr h₀ L h' m → News h₀ L h' ((r, inst dx (.float (Float64.div fa (Float64.ofInt (dot xs xs))) t1) (.float 0 t2)) :: news) → LCg.Off1 r news →
      FI fa (dot xs ys) → Q (.ref r) { s with heap := h', toks := tk }) :
    wpAny (model PG w) (AR dp fr gd un) (call (.ref 182) [.ref lx, .ref ly] [(Str.ofString "proportional", .bool true)]) Q E s :=
  lrp_ok (X.keeps F.keep) (T.keeps F.keep) hlx hix hly hiy hn h3 h8 hbx hby hne hd hu fun r dx h' tk fa t1 t2 k f e hfa =>
    hret r dx h' tk fa t1 t2 (F.keeps k) (fun p hp => by
      rcases List.mem_cons.mp hp with rfl | hp
      · exact ⟨e, (new_ne F f).1, (new_ne F f).2⟩
      · exact news_ext N k p hp) (off_new N f) hfa
end
set_option Elab.async false
/-- what _law_through_right's leftovers keep -/
structure TX (xs fs : List Int) (B : Int) : Prop where
  len : fs.length = xs.length
  dot0 : dot fs xs = 0
  bd : ∀ v ∈ fs, -B ≤ v ∧ v ≤ B
theorem tx_start (xs : List Int) : TX xs (List.replicate xs.length 0) 0 :=
  let X := fx_start xs; ⟨X.len, X.dot0, X.bd⟩
theorem tx_turn {xs fs : List Int} {B o : Int} {a b : Nat} (X : TX xs fs B) (ha : a < xs.length) (hb : b < xs.length) (hab : a ≠ b) (h1 : -5 ≤ o) (h2 : o ≤ 5) (hx : ∀ v ∈ xs, -168 ≤ v ∧ v ≤ 168) :
    TX xs ((fs.set a (fs.getD a 0 + o * xs.getD b 0)).set b (fs.getD b 0 - o * xs.getD a 0)) (B + 840) := by
  have la : a < fs.length := by rw [X.len]; exact ha
  have lb : b < fs.length := by rw [X.len]; exact hb
  have xa := hx _ (getD_mem ha)
  have xb := hx _ (getD_mem hb)
  have fa := X.bd _ (getD_mem la)
  have fb := X.bd _ (getD_mem lb)
  have d0 := X.dot0
  have m1 := mul_bd (a := o) (A := 5) (b := xs.getD b 0) (B := 168) (by omega) xb
  have m2 := mul_bd (a := o) (A := 5) (b := xs.getD a 0) (B := 168) (by omega) xa
  refine ⟨by simp only [List.length_set]; exact X.len, ?_, ?_⟩
  · rw [dot_set (by simp only [List.length_set]; exact lb) (by simp only [List.length_set]; exact X.len), dot_set la X.len, getD_set_ne hab, d0]
    generalize xs.getD a 0 = p
    generalize xs.getD b 0 = q
    generalize fs.getD a 0 = f1
    generalize fs.getD b 0 = f2
    grind
  · refine bd_set (bd_set (fun v hv => ?_) ?_) ?_
    · have := X.bd v hv; omega
    · omega
    · omega
theorem dot_comm : ∀ (xs ys : List Int), dot xs ys = dot ys xs
  | [], [] => rfl
  | [], _ :: _ => rfl
  | _ :: _, [] => rfl
  | a :: r, b :: q => by show a * b + dot r q = b * a + dot q r; rw [dot_comm r q, Int.mul_comm]
/-- a row on a line through the leftovers -/
theorem dot_row {k c : Int} : ∀ {xs rs zs : List Int}, rs.length = xs.length → zs.length = xs.length → dot zs (List.zipWith (fun a r => k * a + c + r) xs rs) = k * dot zs xs + c * zs.sum + dot zs rs
  | [], [], [], _, _ => by simp [dot]
  | a :: r, b :: q, z :: p, h1, h2 => by
    show z * (k * a + c + b) + dot p (List.zipWith _ r q) = k * (z * a + dot p r) + c * (z :: p).sum + (z * b + dot p q)
    rw [dot_row (Nat.succ.inj h1) (Nat.succ.inj h2), List.sum_cons]
    grind
  | [], _ :: _, _, h, _ => by simp at h
  | _ :: _, [], _, h, _ => by simp at h
  | [], [], _ :: _, _, h => by simp at h
  | _ :: _, _ :: _, [], _, h => by simp at h
theorem sum_row {k c : Int} : ∀ {xs rs : List Int}, rs.length = xs.length → (List.zipWith (fun a r => k * a + c + r) xs rs).sum = k * xs.sum + c * xs.length + rs.sum
  | [], [], _ => by simp
  | a :: r, b :: q, h => by
    show ((k * a + c + b) :: List.zipWith (fun a r => k * a + c + r) r q).sum = _
    rw [List.sum_cons, sum_row (Nat.succ.inj h), List.sum_cons, List.sum_cons, List.length_cons]
    have : ((r.length + 1 : Nat) : Int) = (r.length : Int) + 1 := by omega
    rw [this]
    grind
  | [], _ :: _, h => by simp at h
  | _ :: _, [], h => by simp at h
/-- dot over differences from means -/
theorem dot_dev {p q : Int} : ∀ {xs ys : List Int}, ys.length = xs.length → dot (dev xs p) (dev ys q) = dot xs ys - q * xs.sum - p * ys.sum + p * q * xs.length
  | [], [], _ => by simp [dot, dev]
  | a :: r, b :: z, h => by
    show (a - p) * (b - q) + dot (dev r p) (dev z q) = (a * b + dot r z) - q * (a :: r).sum - p * (b :: z).sum + p * q * ((a :: r).length : Nat)
    rw [dot_dev (Nat.succ.inj h), List.sum_cons, List.sum_cons, List.length_cons]
    have : ((r.length + 1 : Nat) : Int) = (r.length : Int) + 1 := by omega
    rw [this]
    grind
  | [], _ :: _, h => by simp at h
  | _ :: _, [], h => by simp at h
theorem sq_nn (a : Int) : 0 ≤ a * a := by
  rcases Int.lt_or_le a 0 with h | h
  · exact Int.le_of_lt (Int.mul_pos_of_neg_of_neg h h)
  · exact Int.mul_nonneg h h
theorem dot_self_pos : ∀ {xs : List Int} {v : Int}, v ∈ xs → v ≠ 0 → 0 < dot xs xs
  | a :: r, v, h, hv => by
    have nn : ∀ l : List Int, 0 ≤ dot l l := by
      intro l
      induction l with
      | nil => exact Int.le_refl 0
      | cons a r ih =>
        have := sq_nn a
        show 0 ≤ a * a + dot r r
        omega
    show 0 < a * a + dot r r
    rcases List.mem_cons.mp h with rfl | h
    · have h1 : 0 < v * v := by
        rcases Int.lt_or_gt_of_ne hv with h | h
        · exact Int.mul_pos_of_neg_of_neg h h
        · exact Int.mul_pos h h
      have := nn r
      omega
    · have := dot_self_pos h hv
      have := sq_nn a
      omega
set_option Elab.async false
theorem dvd_sum {d : Int} : ∀ {xs : List Int}, (∀ v ∈ xs, d ∣ v) → d ∣ xs.sum
  | [], _ => ⟨0, by simp⟩
  | a :: r, h => by
    rw [List.sum_cons]
    exact Int.dvd_add (h a List.mem_cons_self) (dvd_sum fun v hv => h v (List.mem_cons_of_mem _ hv))
theorem px_sum {xs : List Int} (px : PX xs) : ∃ xb, xs.sum = xb * (xs.length : Int) := by
  obtain ⟨k, hk⟩ := dvd_sum px.dvd
  exact ⟨k, by rw [hk, Int.mul_comm]⟩
theorem px_dev {xs : List Int} {xb : Int} (px : PX xs) : dot (dev xs xb) (dev xs xb) ≠ 0 := by
  obtain ⟨u, hu, v, hv, ne⟩ := px.ne
  have hm : ∀ {z}, z ∈ xs → z - xb ∈ dev xs xb := fun hz => List.mem_map.mpr ⟨_, hz, rfl⟩
  by_cases h : u = xb
  · have := dot_self_pos (hm hv) (by omega)
    omega
  · have := dot_self_pos (hm hu) (by omega)
    omega
/-- what the least squares of a row are -/
structure LS (xs ys : List Int) (k c : Int) : Prop where
  len : ys.length = xs.length
  sum : ys.sum = k * xs.sum + c * (xs.length : Int)
  dot : dot xs ys = k * dot xs xs + c * xs.sum
theorem ls_row {xs rs : List Int} {k c : Int} (hl : rs.length = xs.length) (hs : rs.sum = 0) (hd : dot rs xs = 0) : LS xs (List.zipWith (fun a r => k * a + c + r) xs rs) k c := by
  refine ⟨by rw [List.length_zipWith]; omega, ?_, ?_⟩
  · rw [sum_row hl, hs]; omega
  · rw [dot_row hl rfl, dot_comm xs rs, hd]; omega
theorem ls_zero {xs rs : List Int} (hl : rs.length = xs.length) (hs : rs.sum = 0) (hd : dot rs xs = 0) : LS xs rs 0 0 :=
  ⟨hl, by rw [hs]; omega, by rw [dot_comm, hd]; omega⟩
theorem sum_add : ∀ {a b : List Int}, a.length = b.length → (List.zipWith (fun x y => x + y) a b).sum = a.sum + b.sum
  | [], [], _ => rfl
  | x :: r, y :: q, h => by
    show ((x + y) :: List.zipWith (fun x y => x + y) r q).sum = _
    rw [List.sum_cons, sum_add (Nat.succ.inj h), List.sum_cons, List.sum_cons]
    omega
  | [], _ :: _, h => by simp at h
  | _ :: _, [], h => by simp at h
theorem dot_add : ∀ {z a b : List Int}, a.length = z.length → b.length = z.length → dot z (List.zipWith (fun x y => x + y) a b) = dot z a + dot z b
  | [], [], [], _, _ => rfl
  | p :: z, x :: r, y :: q, h1, h2 => by
    show p * (x + y) + dot z (List.zipWith (fun x y => x + y) r q) = (p * x + dot z r) + (p * y + dot z q)
    rw [dot_add (Nat.succ.inj h1) (Nat.succ.inj h2), Int.mul_add]
    omega
  | [], _ :: _, _, h, _ => by simp at h
  | [], [], _ :: _, _, h => by simp at h
  | _ :: _, [], _, h, _ => by simp at h
  | _ :: _, _ :: _, [], _, h => by simp at h
theorem ls_add {xs a b : List Int} {k c k' c' : Int} (A : LS xs a k c) (B : LS xs b k' c') : LS xs (List.zipWith (fun x y => x + y) a b) (k + k') (c + c') := by
  refine ⟨by rw [List.length_zipWith, A.len, B.len]; omega, ?_, ?_⟩
  · rw [sum_add (by rw [A.len, B.len]), A.sum, B.sum, Int.add_mul, Int.add_mul]; omega
  · rw [dot_add A.len B.len, A.dot, B.dot, Int.add_mul, Int.add_mul]; omega
theorem ls_lr {xs ys : List Int} {k c xb : Int} (A : LS xs ys k c) (hx : xs.sum = xb * (xs.length : Int)) :
    ys.sum = (k * xb + c) * (xs.length : Int) ∧ dot (dev xs xb) (dev ys (k * xb + c)) = k * dot (dev xs xb) (dev xs xb) := by
  have hs : ys.sum = (k * xb + c) * (xs.length : Int) := by
    rw [A.sum, hx, Int.add_mul, Int.mul_assoc]
  refine ⟨hs, ?_⟩
  rw [dot_dev A.len, dot_dev rfl, A.dot, hs, hx]
  generalize dot xs xs = q
  generalize (xs.length : Int) = n
  grind
theorem add_bd {A B : Int} {a b : List Int} (ha : ∀ v ∈ a, -A ≤ v ∧ v ≤ A) (hb : ∀ v ∈ b, -B ≤ v ∧ v ≤ B) : ∀ v ∈ List.zipWith (fun x y => x + y) a b, -(A + B) ≤ v ∧ v ≤ A + B := fun v hv => by
  obtain ⟨i, hi, rfl⟩ := List.getElem_of_mem hv
  rw [List.length_zipWith] at hi
  rw [List.getElem_zipWith]
  have h1 := ha _ (List.getElem_mem (l := a) (n := i) (by omega))
  have h2 := hb _ (List.getElem_mem (l := b) (n := i) (by omega))
  omega
theorem row_bd {k c B : Int} {xs rs : List Int} (hk0 : -1000 ≤ k) (hk1 : k ≤ 1000) (hc0 : -100000 ≤ c) (hc1 : c ≤ 100000) (hB : B ≤ 4000000000) (hx : ∀ v ∈ xs, -168 ≤ v ∧ v ≤ 168) (hr : ∀ v ∈ rs, -B ≤ v ∧ v ≤ B) : ∀ v ∈ List.zipWith (fun a r => k * a + c + r) xs rs, -4294967296 ≤ v ∧ v ≤ 4294967296 := fun v hv => by
  obtain ⟨i, hi, rfl⟩ := List.getElem_of_mem hv
  rw [List.length_zipWith] at hi
  rw [List.getElem_zipWith]
  have h1 := hx _ (List.getElem_mem (l := xs) (n := i) (by omega))
  have h2 := hr _ (List.getElem_mem (l := rs) (n := i) (by omega))
  have h3 := mul_bd (a := k) (A := 1000) (by omega) h1
  omega
theorem row_bd2 {k c B : Int} {xs rs : List Int} (hk0 : -1000 ≤ k) (hk1 : k ≤ 1000) (hc0 : -1000 ≤ c) (hc1 : c ≤ 1000) (hB : B ≤ 100000) (hx : ∀ v ∈ xs, -168 ≤ v ∧ v ≤ 168) (hr : ∀ v ∈ rs, -B ≤ v ∧ v ≤ B) : ∀ v ∈ List.zipWith (fun a r => k * a + c + r) xs rs, -1000000 ≤ v ∧ v ≤ 1000000 := fun v hv => by
  obtain ⟨i, hi, rfl⟩ := List.getElem_of_mem hv
  rw [List.length_zipWith] at hi
  rw [List.getElem_zipWith]
  have h1 := hx _ (List.getElem_mem (l := xs) (n := i) (by omega))
  have h2 := hr _ (List.getElem_mem (l := rs) (n := i) (by omega))
  have h3 := mul_bd (a := k) (A := 1000) (by omega) h1
  omega
theorem px_dot {xs : List Int} (px : PX xs) : dot xs xs ≠ 0 := by
  obtain ⟨u, hu, v, hv, ne⟩ := px.ne
  by_cases h : u = 0
  · have := dot_self_pos hv (fun e => ne (by rw [h, e]))
    omega
  · have := dot_self_pos hu h
    omega
set_option Elab.async false
set_option linter.unusedSimpArgs false
set_option linter.unusedVariables false
set_option maxRecDepth 100000
set_option maxHeartbeats 16000000
local macro_rules | `(tactic| walk_at "room d") => `(tactic| first
  | exact dlt (b := 13) (by assumption) (by decide)
  | exact dlt (b := 25) (by assumption) (by decide)
  | exact dlt (b := 31) (by assumption) (by decide)
  | omega
  | (simp only [depth_under_make, depth_under_kw, depth_in1, depth_deeper, depth_caller]; omega))
local macro_rules | `(tactic| walk_at "room u") => `(tactic| first
  | exact dlt (b := 133) (by assumption) (by decide)
  | exact dlt (b := 134) (by assumption) (by decide)
  | exact dlt (b := 23) (by assumption) (by decide)
  | exact dlt (b := 3) (by assumption) (by decide)
  | exact dlt (b := 263) (by assumption) (by decide)
  | exact dlt (b := 403) (by assumption) (by decide)
  | omega
  | (simp only [units_in1, units_deeper, Around.mark_units]; omega))
local macro_rules | `(tactic| walk_at "own 1 or halt") => `(tactic| first | walk_at "own 1" | refine Halt.out ?_)
local macro_rules | `(tactic| walk_at "part MT") => `(tactic| skip)
section
local macro_rules | `(tactic| walk_at $k:str) => match [("call ref", "own 1 or halt"), ("binaryOp Mult int int", "own 2"), ("subscriptTail Name Name ref int", "own 3"), ("setItem ref int", "own 4"), ("RangeRest", "halt"), ("UnrEnd", "halt"), ("storeName", "own 5")].lookup k.getString with
  | some n => `(tactic| walk_at $(Lean.Syntax.mkStrLit n))
  | none => Lean.Macro.throwUnsupported
theorem forget4 {m' m₀ : Str → Option Value} {a b c d : Str} (h : ∀ z, z ≠ a → z ≠ b → z ≠ c → z ≠ d → m' z = m₀ z) : ∃ u : Str → Option Value, m' = fun z => if z = a then u z else if z = b then u z else if z = c then u z else if z = d then u z else m₀ z :=
  ⟨m', funext fun z => by
    by_cases h1 : z = a
    · rw [if_pos h1]
    · rw [if_neg h1]
      by_cases h2 : z = b
      · rw [if_pos h2]
      · rw [if_neg h2]
        by_cases h3 : z = c
        · rw [if_pos h3]
        · rw [if_neg h3]
          by_cases h4 : z = d
          · rw [if_pos h4]
          · rw [if_neg h4]; exact h z h1 h2 h3 h4⟩
def JThr (D D0 l0 l lx : Addr) (ns xs : List Int) (t : Tok) (i : Nat) (m : Str → Option Value) (news : List (Addr × Obj)) : Prop :=
  (∃ u : Str → Option Value, m = (fun z => if z = Str.ofString "turn" then u z else if z = Str.ofString "one" then u z else if z = Str.ofString "two" then u z else if z = Str.ofString "often" then u z else
        (fun z => if z = Str.ofString "slope" then some (.int (cellv ns 37 31) t) else if z = Str.ofString "rests" then some (.ref D) else List.lookup z [(Str.ofString "script", Value.ref l), (Str.ofString "x", Value.ref lx)].reverse) z)) ∧
      ∃ (fus : List Value) (fs : List Int) (cnt : Nat) (o0 oD : Obj),
      news = [(D0, oD), (D, W.listOf fus.toArray cnt), (l0, o0)] ∧ IntsAre fus fs ∧ TX xs fs (840 * (i : Int))
set_option rowWalk.seconds 0 in
theorem through_ok {w : World} {mg mb : Str → Option Value} {dp un : Nat} {fr : Option (List Env)} {gd : Option (List Code)} {E Q : Value → Shared → Prop} {s : Shared} {l lx : Addr} {vs us : List Value} {ns xs : List Int}
    (X : (K w.params).In s.heap) (T : TR mg mb s.heap) (hl : s.heap.IsList l vs.toArray) (hi : IntsAre vs ns)
    (hlay : (PyData.list (ns.map PyData.int)).layable0 = true) (hlx : s.heap.IsList lx us.toArray) (hix : IntsAre us xs) (px : PX xs) (hd : dp + 24 < recursionLimit) (hu : un + 260 < cLine)
    (hret : ∀ h' tk, Ext s.heap h' → Q (.bool true) { s with heap := h', toks := tk }) :
    wpAny (model PG w) (AR dp fr gd un) (call (.ref 231) [.ref l, .ref lx]) Q E s := by
  have hLK := len_ints_list hlay
  have px1 := px.lo
  have px2 := px.hi
  have hXL : us.length = xs.length := hix.length
  refine wpAny_call ?_
  refine enter (h₀ := s.heap) (fun b o e => e) (Nat.le_refl _) X T (K := K w.params) (f := 231) (binds := [(Str.ofString "script", .ref l), (Str.ofString "x", .ref lx)]) (by k_is) (by k_is) (by dsimp only; omega) (BindsTo.of_eq rfl) (locs rfl) (by decide) rfl rfl rfl ?_
  intro L h₁ hL F hk₁ N
  dsimp only
  try k_fold
  w_on
  k_steps
  rename_i q1 q2 l0 h6 l13 D h5 i1 n1 s1 e1 e2 e3 l12 D0 h4 l11 h3 h2 h1' F7 N7 h8 tk8 t8 u8 v8 a8 b8 I l3
  refine Halt.of ?_
  refine rr_inv (JThr D D0 l0 l lx ns xs t) ?turn ?done _ _ _ _ rfl ?start
  case start =>
    refine ⟨forget4 fun z _ _ _ _ => rfl, _, _, _, _, _, rfl, i1, ?_⟩
    have hz : (List.replicate ((xs.length : Int)).toNat [(0 : Int)]).flatten = List.replicate xs.length 0 := by rw [flat_rep, Int.toNat_natCast]
    rw [hz]
    exact tx_start xs
  case done =>
    rintro m news h tk' ⟨⟨u, rfl⟩, fus, fs, cnt, oo0, ooD, rfl, hfi, fx⟩ F9 N9
    k_steps
    refine Halt.of ?_
    rename Fr _ _ _ _ => Fa
    rename News _ _ _ _ => Na
    have sl0 := cellv_lo (ns := ns) (a := 37) (b := 31) (by decide)
    have sl1 := cellv_hi (ns := ns) (a := 37) (b := 31) (by decide)
    refine on_use (rs := fs) Fa Na X T (stays_list Fa.keep hlx) hix ⟨_, (Na _ (.tail _ (.head _))).1, rfl, _, rfl⟩ hfi fx.len px2 (by omega) (by omega) (by walk_at "room d") (by walk_at "room u") fun lr1 us1 fs1 c1 h1 tk1 F1 N1 o1 hi1 hf1 => ?_
    clear Fa Na
    k_steps
    refine Halt.of ?_
    have hlf : fs1.length = xs.length := by rw [hf1, List.length_zipWith, fx.len]; omega
    have bf1 : ∀ v ∈ fs1, -4294967296 ≤ v ∧ v ≤ 4294967296 := by
      rw [hf1]
      exact row_bd (B := 2520) (k := cellv ns 37 31) (c := 0) (by omega) (by omega) (by omega) (by omega) (by omega) px.bd (fun v hv => by have := fx.bd v hv; omega)
    have hne : dot xs xs ≠ 0 := px_dot px
    have hd1 : dot xs fs1 = cellv ns 37 31 * dot xs xs := by
      rw [hf1, dot_row fx.len rfl, dot_comm xs fs, fx.dot0]; omega
    have hd2 : dot xs fs = 0 * dot xs xs := by rw [dot_comm xs fs, fx.dot0]; omega
    have bxx := take_dot_bd (xs := xs) (ys := xs) (A := 168) (B := 168) (by omega) (by omega) px2 px.bd px.bd 8
    rw [List.take_of_length_le (by omega)] at bxx
    rename Fr _ _ _ _ => Fa
    rename News _ _ _ _ => Na
    show wpAny _ _ (call (.ref 182) [.ref lx, .ref lr1] [(Str.ofString "proportional", .bool true)]) _ _ _
    refine lrp_use Fa Na X T (stays_list Fa.keep hlx) hix ⟨_, (Na _ (.head _)).1, rfl, _, rfl⟩ hi1 hlf px1 px2 px.bd bf1 hne (by walk_at "room d") (by walk_at "room u") fun r dx h2 tk2 fa ta tb F2 N2 o2 hfa => ?_
    rw [hd1] at hfa
    have q1 := FI.div hfa (FI.ofInt (by omega)) hne (by omega)
    clear Fa Na
    k_steps
    rename Fr _ _ _ _ => Fa
    rename News _ _ _ _ => Na
    refine told_eq (by walk_at "room u") (X.keeps Fa.keep) (Na _ (.tail _ (.head _))).1 (Na _ (.head _)).1 q1 fi0 ?_
    k_steps
    refine Halt.of ?_
    show wpAny _ _ (call (.ref 182) [.ref lx, .ref D] [(Str.ofString "proportional", .bool true)]) _ _ _
    refine lrp_use Fa Na X T (stays_list Fa.keep hlx) hix ⟨W.listOf fus.toArray cnt, (Na (D, W.listOf fus.toArray cnt) (by k_mem)).1, rfl, _, rfl⟩ hfi fx.len px1 px2 px.bd (fun v hv => by have := fx.bd v hv; omega) hne (by walk_at "room d") (by walk_at "room u") fun r2 dx2 h3 tk3 fa2 ta2 tb2 F3 N3 o3 hfa2 => ?_
    rw [hd2] at hfa2
    have q2 := FI.div hfa2 (FI.ofInt (by omega)) hne (by omega)
    clear Fa Na
    k_steps
    rename Fr _ _ _ _ => Fa
    rename News _ _ _ _ => Na
    refine told_eq (by walk_at "room u") (X.keeps Fa.keep) (Na _ (.tail _ (.head _))).1 (Na _ (.head _)).1 q2 fi0 ?_
    k_steps
    rename Fr _ _ _ _ => Fz
    exact hret _ _ Fz.keep
  case turn =>
    rintro i m news t h tk' hi3 ⟨⟨u, rfl⟩, fus, fs, cnt, oo0, ooD, rfl, hfi, fx⟩ F9 N9
    have hi0 := lt3 hi3
    have hfl := fx.len
    k_steps
    refine Halt.of ?_
    have c1 := fmod_n (c := cellv ns (38 + (0 + (i : Int))) 83) (n := xs.length) (pos3 px1)
    generalize Int.fmod (cellv ns (38 + (0 + (i : Int))) 83) (xs.length : Int) = one at c1 ⊢
    obtain ⟨a0, a1⟩ := c1
    k_steps
    refine Halt.of ?_
    have c2 := fmod_n (c := cellv ns (41 + (0 + (i : Int))) 79) (n := xs.length - 1) (sub1_pos px1)
    rw [cast1 px1] at c2
    have c3 := two_n a0 a1 c2.1 c2.2
    generalize Int.fmod (one + 1 + Int.fmod (cellv ns (41 + (0 + (i : Int))) 79) ((xs.length : Int) - 1)) (xs.length : Int) = two at c3 ⊢
    clear c2
    obtain ⟨b0, b1, b2⟩ := c3
    k_steps
    refine Halt.of ?_
    refine UnrEnd.intro (by assumption) (by assumption) [(D0, _), (D, W.listOf _ _), (l0, _)] (by kcf_all) (by k_all) ⟨forget4 fun z h1 h2 h3 h4 => ?_, _, _, _, _, _, rfl, by assumption, ?_⟩
    · simp only [if_neg h1, if_neg h2, if_neg h3, if_neg h4]
    · rw [show (840 * ((i + 1 : Nat) : Int)) = 840 * (i : Int) + 840 from by omega]
      exact tx_turn fx (nat_lt a0 a1) (nat_lt b0 b1) (nat_ne a0 b0 (Ne.symm b2)) (cellv_lo (by decide)) (by have := cellv_hi (ns := ns) (a := 44 + (0 + (i : Int))) (b := 11) (by decide); omega) px.bd
theorem through_use {w : World} {mg mb m : Str → Option Value} {dp un : Nat} {fr : Option (List Env)} {gd : Option (List Code)} {E Q : Value → Shared → Prop} {s : Shared} {h₀ : Heap} {L : Addr} {news : List (Addr × Obj)} {l lx : Addr} {vs us : List Value} {ns xs : List Int}
    (F : Fr h₀ L s.heap m) (N : News h₀ L s.heap news) (X : (K w.params).In h₀) (T : TR mg mb h₀) (hl : h₀.IsList l vs.toArray) (hi : IntsAre vs ns)
    (hlay : (PyData.list (ns.map PyData.int)).layable0 = true) (hlx : s.heap.IsList lx us.toArray) (hix : IntsAre us xs) (px : PX xs) (hd : dp + 24 < recursionLimit) (hu : un + 260 < cLine)
    (hret : ∀ h' tk, Fr h₀ L h' m → News h₀ L h' news → Q (.bool true) { s with heap := h', toks := tk }) :
    wpAny (model PG w) (AR dp fr gd un) (call (.ref 231) [.ref l, .ref lx]) Q E s :=
  through_ok (X.keeps F.keep) (T.keeps F.keep) (list_up F.keep hl) hi hlay hlx hix px hd hu fun h' tk k => hret h' tk (F.keeps k) (news_ext N k)
end
set_option Elab.async false
set_option maxRecDepth 100000
/-- what a loop whose turns make generators leaves of the state -/
def Calm (s₀ s : Shared) : Prop := AllBare s.gens ∧ s.os = s₀.os ∧ s.drawn = s₀.drawn
theorem Calm.tk {s₀ : Shared} {s : Shared} (h : Calm s₀ s) (g : Heap) (tk : Nat) : Calm s₀ { s with heap := g, toks := tk } := h
abbrev Jt := (Str → Option Value) → List (Addr × Obj) → Prop
def CEnd (h₀ : Heap) (L : Addr) (s₀ : Shared) (I : Addr) (it : Obj) (J : Jt) (s₂ : Shared) : Prop :=
  ∃ m news, Calm s₀ s₂ ∧ Fr h₀ L s₂.heap m ∧ News h₀ L s₂.heap ((I, it) :: news) ∧ (∀ p ∈ news, p.1 ≠ I) ∧ J m news
theorem CEnd.intro {h₀ : Heap} {L I : Addr} {s₀ s₂ : Shared} {it : Obj} {J : Jt} {m : Str → Option Value} {all : List (Addr × Obj)} (G : Calm s₀ s₂) (F : Fr h₀ L s₂.heap m) (N : News h₀ L s₂.heap all) (news : List (Addr × Obj))
    (sub : ∀ p ∈ (I, it) :: news, p ∈ all) (off : ∀ p ∈ news, p.1 ≠ I) (r : J m news) : CEnd h₀ L s₀ I it J s₂ := ⟨m, news, G, F, fun p hp => N p (sub p hp), off, r⟩
def CPost (h₀ : Heap) (L : Addr) (s₀ : Shared) (I : Addr) (it : Obj) (J : Jt) (Q : Flow → Shared → Prop) (f : Flow) (s₂ : Shared) : Prop :=
  match f with
  | .ret v => Q (.ret v) s₂
  | .brk => Q .next s₂
  | _ => CEnd h₀ L s₀ I it J s₂
section
variable {prog : Program} {w : World} {A : Around} {s s₀ : Shared} {env : Env} {h₀ : Heap}
theorem forC {R : Result → Shared → Prop} {x : Str} {px : Pos} {body : List Stmt} {I : Addr} {fp : List Addr} {n : Nat} {P : Nat → Value → Prop} {St : Nat → Heap → Prop} {m : Str → Option Value} {news fixed : List (Addr × Obj)}
    (W : Walks prog w A I fp [I] n P St) (hx : env.kindOf x = some .local) (hp : (env.scope.kind == .class || (env.scope.kind == .module && env.locals != env.globals)) = false)
    (hLf : env.locals ∉ fp) (hI : h₀.get? I = none) (hnw : ∀ p ∈ news, p.1 ≠ I) (hfp : ∀ b ∈ fp, b ≠ I → ∃ o, (b, o) ∈ fixed) (hlive : ∀ i h, St i h → ∃ o, h.get? I = some o)
    (hst : St 0 s.heap) (F : Fr h₀ env.locals s.heap m) (N : News h₀ env.locals s.heap news) (G : Calm s₀ s)
    (J : Nat → Jt) (h0 : J 0 m news) (hfix : ∀ i m news, J i m news → ∀ p ∈ fixed, p ∈ news)
    (step : ∀ i v m₁ news₁ s₁ it, i < n → P i v → J i m₁ news₁ → (∀ p ∈ news₁, p.1 ≠ I) → Calm s₀ s₁ → St (i + 1) s₁.heap → Fr h₀ env.locals s₁.heap (fun y => if y = x then some v else m₁ y) → News h₀ env.locals s₁.heap ((I, it) :: news₁) →
      wpAny (model prog w) A (execs body env) (CPost h₀ env.locals s₀ I it (J (i + 1)) (fun f s' => R (.ok f) s')) (notedBy (model prog w) A env fun e s' => R (.error e) s') s₁)
    (done : ∀ s' m' news', J n m' news' → Calm s₀ s' → Fr h₀ env.locals s'.heap m' → News h₀ env.locals s'.heap news' → R (.ok .next) s') :
    codeAny (model prog w) A (.forLoop (.Name x px) (.ref I) body [] env) R s := by
  have hIf : I ∈ fp := W.sub _ (List.mem_singleton.mpr rfl)
  have hLI : env.locals ≠ I := fun e => hLf (e ▸ hIf)
  refine codeAny_forLoop (fun k s' => ∃ m' news' i, Calm s₀ s' ∧ St i s'.heap ∧ Fr h₀ env.locals s'.heap m' ∧ News h₀ env.locals s'.heap news' ∧ (∀ p ∈ news', p.1 ≠ I) ∧ J i m' news' ∧ i ≤ n ∧ k = n + 1 - i) ?_ (n + 1)
    ⟨m, news, 0, G, hst, F, N, hnw, h0, Nat.zero_le _, rfl⟩
  rintro k s' ⟨m', news', i, G', hst', F', N', hnw', hJ, hi, rfl⟩
  have up : ∀ h₁ : Heap, (∀ b o, b ∉ [I] → s'.heap.get? b = some o → h₁.get? b = some o) → Fr h₀ env.locals h₁ m' ∧ News h₀ env.locals h₁ news' := fun h₁ hk =>
    ⟨⟨F'.ns.at' fun o e => hk _ o (fun q => hLI (List.mem_singleton.mp q)) e, fun b o e => hk b o (fun q => by rw [List.mem_singleton.mp q, hI] at e; cases e) (F'.keep b o e), F'.above⟩,
      fun p hp => ⟨hk _ _ (fun q => hnw' p hp (List.mem_singleton.mp q)) (N' p hp).1, (N' p hp).2⟩⟩
  by_cases hlt : i < n
  · refine W.item i _ _ _ hlt hst' fun v h₁ tk₁ hP hst₁ hk₁ => ?_
    obtain ⟨F₁, N₁⟩ := up h₁ hk₁
    refine wpAny_assign_Name (wpAny_storeName_local hx F₁.ns (fun h₂ hn₂ hs₂ => ?_) hp)
    have F₂ := F₁.set hn₂ hs₂
    have N₂ := N₁.set hs₂
    have hst₂ : St (i + 1) h₂ := W.frame _ _ _ hst₁ fun b hb o e => (hs₂.2 b fun q => hLf (q ▸ hb)).trans e
    obtain ⟨it, hit⟩ := hlive _ _ hst₂
    have N₃ : News h₀ env.locals h₂ ((I, it) :: news') := fun p hp => by
      rcases List.mem_cons.mp hp with rfl | hp
      · exact ⟨hit, Ne.symm hLI, hI⟩
      · exact N₂ p hp
    refine wpAny_mono (step i v m' news' _ it hlt hP hJ hnw' (G'.tk _ _) hst₂ F₂ N₃) (fun f s₃ h₃ => ?_) fun _ _ e => e
    have fin : CEnd h₀ env.locals s₀ I it (J (i + 1)) s₃ → ∃ m, m < n + 1 - i ∧ ∃ m' news' i, Calm s₀ s₃ ∧ St i s₃.heap ∧ Fr h₀ env.locals s₃.heap m' ∧ News h₀ env.locals s₃.heap news' ∧ (∀ p ∈ news', p.1 ≠ I) ∧ J i m' news' ∧ i ≤ n ∧ m = n + 1 - i := by
      rintro ⟨m₄, news₄, G₄, F₄, N₄, off₄, hJ₄⟩
      refine ⟨n + 1 - (i + 1), by omega, m₄, news₄, i + 1, G₄, ?_, F₄, fun p hp => N₄ p (List.mem_cons_of_mem _ hp), off₄, hJ₄, hlt, rfl⟩
      refine W.frame _ _ _ hst₂ fun b hb o e => ?_
      by_cases hb' : b = I
      · subst hb'
        rw [hit] at e; cases e
        exact (N₄ _ List.mem_cons_self).1
      · obtain ⟨o', ho'⟩ := hfp b hb hb'
        have e1 := (N₂ _ (hfix _ _ _ hJ _ ho')).1
        have e2 := (N₄ _ (List.mem_cons_of_mem _ (hfix _ _ _ hJ₄ _ ho'))).1
        rw [show h₂.get? b = some o' from e1] at e
        cases e
        exact e2
    cases f with
    | ret v => exact h₃
    | brk => exact h₃
    | cont => exact fin h₃
    | next => exact fin h₃
  · have hin : i = n := by omega
    subst hin
    refine W.done _ _ _ hst' fun h₁ tk₁ hk₁ => wpAny_execs_nil ?_
    obtain ⟨F₁, N₁⟩ := up h₁ hk₁
    exact done _ m' news' hJ (G'.tk _ _) F₁ N₁
abbrev LoopC (prog : Program) (w : World) (A : Around) (env : Env) (x : Str) (px : Pos) (body : List Stmt) (Q : Flow → Shared → Prop) (E : Value → Shared → Prop) (it : Value) (s₂ : Shared) : Prop :=
  codeAny (model prog w) A (.forLoop (.Name x px) it body [] env) (fun r s' => match r with | .ok f => Q f s' | .error e => cameBackBy (model prog w) A env E e s') s₂
theorem rangeC {r : Addr} {a₀ b₀ : Int} {t₀ u₀ v₀ : Tok} {n : Nat} {m₀ : Str → Option Value} {news : List (Addr × Obj)} {x : Str} {px : Pos} {body : List Stmt} {E : Value → Shared → Prop} {Q : Flow → Shared → Prop} (J : Nat → Jt)
    (hh : A.handled = none) (hr : IsRange s.heap r a₀ b₀ 1 t₀ u₀ v₀) (hsmall : Builtin.Range.small a₀ b₀ 1 = true) (hn : Builtin.Range.rangeSize a₀ b₀ 1 = (n : Int)) (F : Fr h₀ env.locals s.heap m₀) (N : News h₀ env.locals s.heap news)
    (hx : env.kindOf x = some .local) (hp : (env.scope.kind == .class || (env.scope.kind == .module && env.locals != env.globals)) = false) (G : Calm s₀ s) (h0 : J 0 m₀ news)
    (turn : ∀ i I it m news t s₁, i < n → J i m news → (∀ p ∈ news, p.1 ≠ I) → Calm s₀ s₁ → Fr h₀ env.locals s₁.heap (fun y => if y = x then some (.int (a₀ + (i : Int)) t) else m y) → News h₀ env.locals s₁.heap ((I, it) :: news) →
      wpAny (model prog w) A (execs body env) (CPost h₀ env.locals s₀ I it (J (i + 1)) Q) E s₁)
    (done : ∀ m news s', J n m news → Calm s₀ s' → Fr h₀ env.locals s'.heap m → News h₀ env.locals s'.heap news → Q .next s')
    (hE : PassesOwn (model prog w) A env E := by passes_own) : wpAny (model prog w) A (pyIter (.ref r)) (LoopC prog w A env x px body Q E) E s := by
  refine wpAny_pyIter_range hr hsmall ?_
  have W : Walks prog w A s.heap.objs.size [s.heap.objs.size] [s.heap.objs.size] n (fun i v => i < n ∧ ∃ t, v = .int (a₀ + i * 1) t)
      (fun i h => IsRangeIter h s.heap.objs.size (a₀ + (i : Nat) * 1) ((n : Int) - (i : Nat)) 1) := (Walks.range hh _ a₀ 1 n).bound
  refine forC (fixed := []) (R := fun r s' => match r with | .ok f => Q f s' | .error e => cameBackBy (model prog w) A env E e s') W hx hp ?_ (next_is_new F) (fun p hp => Nat.ne_of_lt (Heap.lt_size (N p hp).1)) ?_ ?_ (by show IsRangeIter _ _ _ _ _; rw [hn]; simpa using Heap.get?_push_size _ rfl)
    (F.push _) (fun p hp => ⟨Heap.get?_push_of_some _ (N p hp).1, (N p hp).2⟩) (G.tk _ _) J h0 (fun _ _ _ _ p hp => nomatch hp) ?_ ?_
  · intro hm
    exact absurd F.ns.lt ((List.mem_singleton.mp hm) ▸ Nat.lt_irrefl _)
  · intro b hb hne
    exact absurd (List.mem_singleton.mp hb) hne
  · intro i h hs
    exact ⟨_, hs⟩
  · rintro i v m₁ news₁ s₁ it hi ⟨_, t, rfl⟩ hJ off Gs hst F₁ N₁
    rw [Int.mul_one] at F₁
    exact wpAny_passesOwn hE (turn i _ it m₁ news₁ t s₁ hi hJ off Gs F₁ N₁)
  · intro s' m' news' hJ Gs F' N'
    exact done m' news' s' hJ Gs F' N'
theorem listC {ax : Addr} {lo : Obj} {vs : List Value} {c : Nat} {m₀ : Str → Option Value} {news : List (Addr × Obj)} {x : Str} {px : Pos} {body : List Stmt} {E : Value → Shared → Prop} {Q : Flow → Shared → Prop} (J : Nat → Jt)
    (hh : A.handled = none) (F : Fr h₀ env.locals s.heap m₀) (N : News h₀ env.locals s.heap news) (hm : (ax, lo) ∈ news) (hc : lo.cls = .type "list") (hd : lo.data = .seq vs.toArray c)
    (hx : env.kindOf x = some .local) (hp : (env.scope.kind == .class || (env.scope.kind == .module && env.locals != env.globals)) = false) (G : Calm s₀ s) (h0 : J 0 m₀ news) (hfix : ∀ i m news, J i m news → (ax, lo) ∈ news)
    (turn : ∀ i I it m news v s₁, i < vs.length → vs[i]? = some v → J i m news → (∀ p ∈ news, p.1 ≠ I) → Calm s₀ s₁ → Fr h₀ env.locals s₁.heap (fun y => if y = x then some v else m y) → News h₀ env.locals s₁.heap ((I, it) :: news) →
      wpAny (model prog w) A (execs body env) (CPost h₀ env.locals s₀ I it (J (i + 1)) Q) E s₁)
    (done : ∀ m news s', J vs.length m news → Calm s₀ s' → Fr h₀ env.locals s'.heap m → News h₀ env.locals s'.heap news → Q .next s')
    (hE : PassesOwn (model prog w) A env E := by passes_own) : wpAny (model prog w) A (pyIter (.ref ax)) (LoopC prog w A env x px body Q E) E s := by
  have hax := N _ hm
  have hl : s.heap.IsList ax vs.toArray := ⟨lo, hax.1, hc, c, hd⟩
  have hlt : ax < s.heap.objs.size := Heap.lt_size hax.1
  have hne : ax ≠ s.heap.objs.size := Nat.ne_of_lt hlt
  refine wpAny_pyIter_list hl ?_
  have W := Walks.list (prog := prog) (w := w) hh s.heap.objs.size ax hne vs.toArray
  have hlen : vs.toArray.size = vs.length := by simp
  rw [hlen] at W
  refine forC (fixed := [(ax, lo)]) (R := fun r s' => match r with | .ok f => Q f s' | .error e => cameBackBy (model prog w) A env E e s') W hx hp ?_ (next_is_new F) (fun p hp => Nat.ne_of_lt (Heap.lt_size (N p hp).1)) ?_ ?_ ⟨⟨_, Heap.get?_push_size _ rfl, rfl, rfl⟩, hl.at fun o e => Heap.get?_push_of_some _ e⟩
    (F.push _) (fun p hp => ⟨Heap.get?_push_of_some _ (N p hp).1, (N p hp).2⟩) (G.tk _ _) J h0 (fun i m news hJ p hp => by rw [List.mem_singleton.mp hp]; exact hfix _ _ _ hJ) ?_ ?_
  · intro hmm
    rcases List.mem_cons.mp hmm with e | hmm
    · exact absurd F.ns.lt (e ▸ Nat.lt_irrefl _)
    · exact hax.2.1 (List.mem_singleton.mp hmm).symm
  · intro b hb hne'
    rcases List.mem_cons.mp hb with e | hb
    · exact absurd e hne'
    · rw [List.mem_singleton.mp hb]; exact ⟨lo, List.mem_singleton.mpr rfl⟩
  · rintro i h ⟨⟨it, hit, _⟩, _⟩
    exact ⟨it, hit⟩
  · intro i v m₁ news₁ s₁ it hi hP hJ off Gs hst F₁ N₁
    exact wpAny_passesOwn hE (turn i _ it m₁ news₁ v s₁ hi (by simpa using hP) hJ off Gs F₁ N₁)
  · intro s' m' news' hJ Gs F' N'
    exact done m' news' s' hJ Gs F' N'
end
section
open PySem.SeqAt
set_option Elab.async false
set_option maxRecDepth 100000
section
variable {prog : Program} {w : World} {A : Around} {E : Value → Shared → Prop} {s : Shared}
theorem all_tt : ∀ n : Nat, (!(List.range n).all fun _ => true) = false := fun n => by
  rw [Bool.not_eq_false', List.all_eq_true]; exact fun _ _ => rfl
/-- a list of floats against a list of ints, the equal case -/
theorem list_ne {a b : Addr} {vs us : List Value} {zs : List Int} {Q : Value → Shared → Prop} (hl : s.heap.IsList a vs.toArray) (hb : s.heap.IsList b us.toArray) (fl : FlAre vs zs) (hi : IntsAre us zs) (hu : A.units < cLine)
    (h : Q (.bool false) s) : wpAny (model prog w) A (compareOp .NotEq (.ref a) (.ref b)) Q E s := by
  have l1 := fl.1
  have l2 := hi.length
  refine RcNeAt.lists (e := fun _ => true) hl hb (by simp; omega) hu (fun j h1 h2 => ?_) prog w E Q (by rw [all_tt]; exact h)
  simp only [List.getElem_toArray]
  obtain ⟨f, t, z, e1, e2, e3⟩ := fl.2 j vs[j] (by simp)
  obtain ⟨k, t', e4, e5⟩ := hi.at j us[j] (by simp)
  rw [e1, e4]
  rw [e3] at e5
  cases e5
  exact fun prog w E Q hq => eqb_fi e2 hq
end
theorem isF_zip {f : Int → Int → Int} {xs rs : List Int} {i : Nat} {a r z : Int} {u : UInt64} {t : Tok} {s s' : Shared} (h1 : xs[i]? = some a) (h2 : rs[i]? = some r) (hz : z = f a r) (hu : FI u z) (k : Keeps s s') : EltEnd (IsF (List.zipWith f xs rs) i (Value.float u t)) (Keeps s s') :=
  ⟨⟨u, t, _, rfl, hz ▸ hu, zipW_get h1 h2⟩, k⟩
end
set_option Elab.async false
set_option maxRecDepth 100000
theorem forget5 {m' m₀ : Str → Option Value} {a b c d e : Str} (h : ∀ z, z ≠ a → z ≠ b → z ≠ c → z ≠ d → z ≠ e → m' z = m₀ z) : ∃ u : Str → Option Value, m' = fun z => if z = a then u z else if z = b then u z else if z = c then u z else if z = d then u z else if z = e then u z else m₀ z :=
  ⟨m', funext fun z => by
    by_cases h1 : z = a
    · rw [if_pos h1]
    · rw [if_neg h1]
      by_cases h2 : z = b
      · rw [if_pos h2]
      · rw [if_neg h2]
        by_cases h3 : z = c
        · rw [if_pos h3]
        · rw [if_neg h3]
          by_cases h4 : z = d
          · rw [if_pos h4]
          · rw [if_neg h4]
            by_cases h5 : z = e
            · rw [if_pos h5]
            · rw [if_neg h5]; exact h z h1 h2 h3 h4 h5⟩
section
variable {h₀ h : Heap} {L : Addr} {a b c d e f g p : Addr × Obj} {r : List (Addr × Obj)}
theorem news_sub {l l' : List (Addr × Obj)} (N : News h₀ L h l) (s : ∀ p ∈ l', p ∈ l) : News h₀ L h l' := fun p hp => N p (s p hp)
theorem rot1 (N : News h₀ L h (a :: p :: r)) : News h₀ L h (p :: a :: r) := news_swap N
theorem news_cons {l : List (Addr × Obj)} : News h₀ L h (a :: l) ↔ (h.get? a.1 = some a.2 ∧ a.1 ≠ L ∧ h₀.get? a.1 = none) ∧ News h₀ L h l :=
  ⟨fun N => ⟨N _ (.head _), fun p hp => N p (.tail _ hp)⟩, fun ⟨x, N⟩ p hp => by
    rcases List.mem_cons.mp hp with rfl | hp
    · exact x
    · exact N p hp⟩
theorem rot2 (N : News h₀ L h (a :: b :: p :: r)) : News h₀ L h (p :: a :: b :: r) := by
  simp only [news_cons] at N ⊢; exact ⟨N.2.2.1, N.1, N.2.1, N.2.2.2⟩
theorem rot3 (N : News h₀ L h (a :: b :: c :: p :: r)) : News h₀ L h (p :: a :: b :: c :: r) := by
  simp only [news_cons] at N ⊢; exact ⟨N.2.2.2.1, N.1, N.2.1, N.2.2.1, N.2.2.2.2⟩
theorem rot4 (N : News h₀ L h (a :: b :: c :: d :: p :: r)) : News h₀ L h (p :: a :: b :: c :: d :: r) := by
  simp only [news_cons] at N ⊢; exact ⟨N.2.2.2.2.1, N.1, N.2.1, N.2.2.1, N.2.2.2.1, N.2.2.2.2.2⟩
theorem rot5 (N : News h₀ L h (a :: b :: c :: d :: e :: p :: r)) : News h₀ L h (p :: a :: b :: c :: d :: e :: r) := by
  simp only [news_cons] at N ⊢; exact ⟨N.2.2.2.2.2.1, N.1, N.2.1, N.2.2.1, N.2.2.2.1, N.2.2.2.2.1, N.2.2.2.2.2.2⟩
theorem rot6 (N : News h₀ L h (a :: b :: c :: d :: e :: f :: p :: r)) : News h₀ L h (p :: a :: b :: c :: d :: e :: f :: r) := by
  simp only [news_cons] at N ⊢; exact ⟨N.2.2.2.2.2.2.1, N.1, N.2.1, N.2.2.1, N.2.2.2.1, N.2.2.2.2.1, N.2.2.2.2.2.1, N.2.2.2.2.2.2.2⟩
end
theorem off1_of_all {x : Addr} : ∀ {news : List (Addr × Obj)}, (∀ p ∈ news, p.1 ≠ x) → LCg.Off1 x news
  | [], _ => trivial
  | p :: r, h => ⟨h p List.mem_cons_self, off1_of_all fun q hq => h q (List.mem_cons_of_mem _ hq)⟩
section
variable {prog : Program} {w : World} {A : Around} {E Q : Value → Shared → Prop} {s : Shared} {x y : UInt64} {i j : Int} {t u : Tok}
theorem fi_mul (hx : FI x i) (h1 : j.natAbs < 2 ^ 53) (h2 : (i * j).natAbs < 2 ^ 53) (h : ∀ r t, FI r (i * j) → Q (.float r t) { s with toks := s.toks + 1 }) : wpAny (model prog w) A (binaryOp .Mult (.float x t) (.int j u)) Q E s :=
  AutoFloatOps.mul_fi_1 (FI.ofInt h1).notInf (h _ _ (FI.mul hx (FI.ofInt h1) h2))
theorem ff_add (hx : FI x i) (hy : FI y j) (h2 : (i + j).natAbs < 2 ^ 53) (h : ∀ r t, FI r (i + j) → Q (.float r t) { s with toks := s.toks + 1 }) : wpAny (model prog w) A (binaryOp .Add (.float x t) (.float y u)) Q E s :=
  add_float (h _ _ (FI.add hx hy h2))
theorem fi_add (hx : FI x i) (h1 : j.natAbs < 2 ^ 53) (h2 : (i + j).natAbs < 2 ^ 53) (h : ∀ r t, FI r (i + j) → Q (.float r t) { s with toks := s.toks + 1 }) : wpAny (model prog w) A (binaryOp .Add (.float x t) (.int j u)) Q E s :=
  AutoFloatOps.add_fi_1 (FI.ofInt h1).notInf (h _ _ (FI.add hx (FI.ofInt h1) h2))
end
theorem item_at {prog : Program} {w : World} {A : Around} {E : Value → Shared → Prop} {s : Shared} {value slice : PySem.Expr} {l : Addr} {vs : List Value} {k : Int} {u : Tok} {v : Value} {Q : Value → Shared → Prop} (hl : s.heap.IsList l vs.toArray) (h0 : 0 ≤ k) (hfit : k < 2 ^ 63) (hx : vs[k.toNat]? = some v) (h : Q v s)
    (hs : subscripted slice false (.ref l) (.int k u) = operate [.ref l, .int k u] (getItem (.ref l) (.int k u)) := by with_unfolding_all rfl) : wpAny (model prog w) A (subscriptTail value slice (.ref l) (.int k u)) Q E s :=
  tail_any hl.typeIs slot_list_getitem.lookup (wpAny_getItem_list hl h0 hfit (by simpa using hx) h) hs
theorem tup_at {prog : Program} {w : World} {A : Around} {E : Value → Shared → Prop} {s : Shared} {value slice : PySem.Expr} {l : Addr} {its : Array Value} {k : Int} {u : Tok} {v : Value} {j : Nat} {Q : Value → Shared → Prop} (hl : IsTup s.heap l its) (h0 : -(2 ^ 63) ≤ k) (hfit : k < 2 ^ 63) (hj : seqIndex? k its.size = some j) (hx : its[j]? = some v) (h : Q v s)
    (hs : subscripted slice false (.ref l) (.int k u) = operate [.ref l, .int k u] (getItem (.ref l) (.int k u)) := by with_unfolding_all rfl) : wpAny (model prog w) A (subscriptTail value slice (.ref l) (.int k u)) Q E s :=
  tail_any hl.typeIs slot_tuple_getitem.lookup (getItem_tuple hl h0 hfit hj hx h) hs
theorem item_in {prog : Program} {w : World} {A : Around} {E : Value → Shared → Prop} {s : Shared} {value slice : PySem.Expr} {h₀ : Heap} {L l : Addr} {news : List (Addr × Obj)} {vs : List Value} {n : Nat} {k : Int} {u : Tok} {v : Value} {Q : Value → Shared → Prop} (N : News h₀ L s.heap news) (hm : (l, W.listOf vs.toArray n) ∈ news) (h0 : 0 ≤ k) (hfit : k < 2 ^ 63) (hx : vs[k.toNat]? = some v) (h : Q v s)
    (hs : subscripted slice false (.ref l) (.int k u) = operate [.ref l, .int k u] (getItem (.ref l) (.int k u)) := by with_unfolding_all rfl) : wpAny (model prog w) A (subscriptTail value slice (.ref l) (.int k u)) Q E s :=
  item_at ⟨_, (N _ hm).1, rfl, _, rfl⟩ h0 hfit hx h hs
theorem tup_in {prog : Program} {w : World} {A : Around} {E : Value → Shared → Prop} {s : Shared} {value slice : PySem.Expr} {h₀ : Heap} {L l : Addr} {news : List (Addr × Obj)} {its : Array Value} {k : Int} {u : Tok} {v : Value} {j : Nat} {Q : Value → Shared → Prop} (N : News h₀ L s.heap news) (hm : (l, ({ cls := .type "tuple", data := .seq its } : Obj)) ∈ news) (h0 : -(2 ^ 63) ≤ k) (hfit : k < 2 ^ 63) (hj : seqIndex? k its.size = some j) (hx : its[j]? = some v) (h : Q v s)
    (hs : subscripted slice false (.ref l) (.int k u) = operate [.ref l, .int k u] (getItem (.ref l) (.int k u)) := by with_unfolding_all rfl) : wpAny (model prog w) A (subscriptTail value slice (.ref l) (.int k u)) Q E s :=
  tup_at ⟨_, (N _ hm).1, rfl, _, rfl⟩ h0 hfit hj hx h hs
theorem all_of_off1 {x : Addr} : ∀ {news : List (Addr × Obj)}, LCg.Off1 x news → ∀ p ∈ news, p.1 ≠ x
  | [], _ => fun p hp => nomatch hp
  | p :: r, h => fun q hq => by
    rcases List.mem_cons.mp hq with rfl | hq
    · exact h.1
    · exact all_of_off1 h.2 q hq
theorem app_use {prog : Program} {w : World} {A : Around} {E Q : Value → Shared → Prop} {s : Shared} {h₀ : Heap} {L D : Addr} {m : Str → Option Value} {news : List (Addr × Obj)} {us : List Value} {n : Nat} {x : Value} (F : Fr h₀ L s.heap m) (N : News h₀ L s.heap ((D, W.listOf us.toArray n) :: news)) (off : LCg.Off1 D news) (h8 : us.length ≤ 100)
    (h : ∀ h', Fr h₀ L h' m → News h₀ L h' ((D, W.listOf (us ++ [x]).toArray (n + 1)) :: news) → Q .none { s with heap := h' }) : wpAny (model prog w) A (call (.builtin "list.append") [.ref D, x]) Q E s :=
  append_K (hsz := by rw [PySem.sizeLine_eq]; simp; omega) F N (.head (all_of_off1 off)) fun h' F' N' => h h' F' (by rw [List.push_toArray] at N'; exact N')
theorem ne_exact {prog : Program} {w : World} {A : Around} {E : Value → Shared → Prop} {s : Shared} {x : UInt64} {i : Int} {t u : Tok} {Q : Value → Shared → Prop} (hx : FI x i) (h : Q (.bool false) s) : wpAny (model prog w) A (compareOp .NotEq (.float x t) (.int i u)) Q E s := by
  refine ne_fi ?_
  rw [hx.cmpInt, show (compare i i) = Ordering.eq from by simp [compare, compareOfLessAndEq]]
  exact h
theorem eq_not {prog : Program} {w : World} {A : Around} {E : Value → Shared → Prop} {s : Shared} {x : UInt64} {i : Int} {t u : Tok} {Q : Value → Shared → Prop} (hx : Float64.cmpInt x i ≠ some .eq) (h : Q (.bool false) s) : wpAny (model prog w) A (compareOp .Eq (.float x t) (.int i u)) Q E s := by
  refine eq_fi ?_
  rw [beq_eq_false_iff_ne.mpr hx]
  exact h
theorem forget2 {m' m₀ : Str → Option Value} {a b : Str} (h : ∀ z, z ≠ a → z ≠ b → m' z = m₀ z) : ∃ u : Str → Option Value, m' = fun z => if z = a then u z else if z = b then u z else m₀ z :=
  ⟨m', funext fun z => by
    by_cases h1 : z = a
    · rw [if_pos h1]
    · rw [if_neg h1]
      by_cases h2 : z = b
      · rw [if_pos h2]
      · rw [if_neg h2]; exact h z h1 h2⟩
theorem keep3 {m' : Str → Option Value} {a b c : Str} {va vb vc : Option Value} (ha : m' a = va) (hb : m' b = vb) (hc : m' c = vc) : ∃ u : Str → Option Value, m' = fun z => if z = a then va else if z = b then vb else if z = c then vc else u z :=
  ⟨m', funext fun z => by
    by_cases h1 : z = a
    · rw [if_pos h1, h1, ha]
    · rw [if_neg h1]
      by_cases h2 : z = b
      · rw [if_pos h2, h2, hb]
      · rw [if_neg h2]
        by_cases h3 : z = c
        · rw [if_pos h3, h3, hc]
        · rw [if_neg h3]⟩
theorem told_line {fa fb fx fy : UInt64} {D k c xb : Int} (a1 : FI fa (k * D)) (a2 : FI fb D) (hD : D ≠ 0) (a3 : FI fx xb) (a4 : FI fy (k * xb + c)) (hk : -5000000 ≤ k ∧ k ≤ 5000000) (hx : -168 ≤ xb ∧ xb ≤ 168) (hc : -1000000000 ≤ c ∧ c ≤ 1000000000) :
    FI (Float64.div fa fb) k ∧ FI (Float64.sub fy (Float64.mul (Float64.div fa fb) fx)) c := by
  have hkx := mul_bd hk hx
  have q1 := FI.div a1 a2 hD (by omega)
  have q2 := FI.sub a4 (FI.mul q1 a3 (by omega)) (by omega)
  rw [show k * xb + c - k * xb = c from by omega] at q2
  exact ⟨q1, q2⟩
theorem off_at {x : Addr} {news : List (Addr × Obj)} (h : LCg.Off1 x news) {p : Addr × Obj} (hp : p ∈ news) : @Ne Nat p.1 x := by
  induction news with
  | nil => cases hp
  | cons q r ih =>
    rcases List.mem_cons.mp hp with rfl | hp
    · exact h.1
    · exact ih h.2 hp
section
variable {w : World} {mg mb mm m : Str → Option Value} {bm : Addr} {ob : Obj} {dp un : Nat} {fr : Option (List Env)} {gd : Option (List Code)} {E Q : Value → Shared → Prop} {s s₀ : Shared} {h₀ : Heap} {L : Addr} {news : List (Addr × Obj)}
/-- linear_regression of a row whose least squares are whole numbers -/
theorem lrl_use {lx ly : Addr} {us ws : List Value} {xs ys : List Int} {ps : Array Value} {k c : Int}
    (F : Fr h₀ L s.heap m) (N : News h₀ L s.heap ((PT, tabO ps) :: news)) (hnP : LCg.Off1 PT news) (hPT₀ : h₀.get? PT = none) (X₀ : (K w.params).In h₀) (T₀ : TR mg mb h₀) (M₀ : BMod h₀ mainGlobals mm bm ob) (G : Calm s₀ s)
    (hps : TabP ⟨115, 12, 115, 35⟩ ps)
    (hlx₀ : s.heap.IsList lx us.toArray) (hix : IntsAre us xs) (hly₀ : s.heap.IsList ly ws.toArray) (hiy : IntsAre ws ys) (hxP : lx ≠ PT) (hyP : ly ≠ PT) (px : PX xs) (hLS : LS xs ys k c)
    (hby : ∀ v ∈ ys, -4294967296 ≤ v ∧ v ≤ 4294967296) (hk : -5000000 ≤ k ∧ k ≤ 5000000) (hc : -1000000000 ≤ c ∧ c ≤ 1000000000) (hd : dp + 12 < recursionLimit) (hu : un + 130 < cLine)
    (hret : ∀ (r dx : Addr) (s' : Shared) (ps' : Array Value) (p q : UInt64) (t1 t2 : Tok), Fr h₀ L s'.heap m →
      News h₀ L s'.heap ((PT, tabO ps') :: (r, inst dx (.float p t1) (.float q t2)) :: (dx, emptyD) :: news) →
      LCg.Off1 PT ((r, inst dx (.float p t1) (.float q t2)) :: (dx, emptyD) :: news) → LCg.Off1 r news → LCg.Off1 dx news → TabP ⟨115, 12, 115, 35⟩ ps' → Calm s₀ s' → FI p k → FI q c → Q (.ref r) s') :
    wpAny (model PG w) (AR dp fr gd un) (call (.ref 182) [.ref lx, .ref ly]) Q E s := by
  obtain ⟨xb, hsx⟩ := px_sum px
  have px1 := px.lo
  have bxb := mean_bd (xs := xs) (by omega) px.bd hsx
  have hL := ls_lr hLS hsx
  have hne := px_dev (xb := xb) px
  refine lr_use F N hnP hPT₀ X₀ T₀ M₀ G.1 hps hlx₀ hix hly₀ hiy hxP hyP hLS.len px1 px.hi px.bd hby hsx hL.1 hne hd hu fun r dx s' v fa fb fx fy t1 t2 F3 N3 o3 o4 o5 G3 os3 dr3 a1 a2 a3 a4 => ?_
  rw [hL.2] at a1
  obtain ⟨q1, q2⟩ := told_line a1 a2 hne a3 a4 hk bxb hc
  exact hret r dx s' _ _ _ t1 t2 F3 N3 o3 o4 o5 (.inr ⟨v, rfl⟩) ⟨G3, os3.trans G.2.1, dr3.trans G.2.2⟩ q1 q2
end
set_option Elab.async false
set_option linter.unusedSimpArgs false
set_option linter.unusedVariables false
set_option maxRecDepth 100000
set_option maxHeartbeats 16000000
local macro_rules | `(tactic| walk_at "my_assign") => `(tactic| ((rename Fr _ _ _ _ => lF'); (with_reducible refine' zip_Assign lF' ?h1 ?h2 ?h3 ?h4 ?h5 ?h6 ?h7 ?h8 ?h9 ?h10 ?h11 ?h12 (hs := ?hs)); (case hs => intro _; rfl); (case h1 => rfl); (case h2 => with_unfolding_all rfl); (case h3 => with_unfolding_all rfl); (case h4 => decide); (case h5 => rfl); (case h6 => decide); (case h7 => rfl); (case h8 => rfl); (case h9 => decide); (case h10 => rfl); (case h11 => rfl)))
local macro_rules | `(tactic| walk_at "own 13") => `(tactic| ((with_reducible rename News _ _ _ _ => lN'); first
  | refine item_in lN' (by walk_at "off_mem") (by decide) (by decide) rfl ?_
  | refine tup_in lN' (by walk_at "off_mem") (by decide) (by decide) (by rfl) (by rfl) ?_))
local macro_rules | `(tactic| walk_at "off_mem") => `(tactic| first | with_reducible exact List.mem_cons_self | (with_reducible refine List.mem_cons_of_mem _ ?_; walk_at "off_mem"))
local macro_rules | `(tactic| walk_at "off_ne") => `(tactic| ((try dsimp only); first
  | exact off_at (p := (_, _)) (by with_reducible assumption) (by walk_at "off_mem")
  | exact Ne.symm (off_at (p := (_, _)) (by with_reducible assumption) (by walk_at "off_mem"))
  | k_ne))
local macro_rules | `(tactic| walk_at "off_all") => `(tactic| first | exact trivial | (refine And.intro ?_ ?_; (focus walk_at "off_ne"); walk_at "off_all"))
local macro_rules | `(tactic| walk_at "part MFd") => `(tactic| skip)
section
local macro_rules | `(tactic| walk_at $k:str) => match [("call ref", "own 1 or halt"), ("exec For Name Call cons nil", "halt"), ("pyIter ref", "halt"), ("compareOp Eq ref ref", "halt"), ("compareOp NotEq ref ref", "halt"), ("eval ListComp", "own 7"), ("call type:zip", "halt"), ("exec Assign cons ListComp", "halt"), ("subscriptTail", "own 13"), ("binaryOp Mult float int", "halt"), ("binaryOp Add float int", "halt"), ("binaryOp Add float float", "halt"), ("binaryOp Mult int int", "own 2"), ("call builtin:list.append", "halt")].lookup k.getString with
  | some n => `(tactic| walk_at $(Lean.Syntax.mkStrLit n))
  | none => Lean.Macro.throwUnsupported
def Run (ns xs : List Int) (j : Int) (ot orr : Obj) : Prop :=
  ∃ (ta tb : Tok) (ws : List Value) (zs : List Int) (c : Nat), ot = { cls := .type "tuple", data := .seq #[.int (cellv ns (30 + j) 43) ta, .int (cellv ns (32 + j) 401) tb] } ∧ orr = listOf ws.toArray c ∧ IntsAre ws zs ∧ LS xs zs (cellv ns (30 + j) 43) (cellv ns (32 + j) 401) ∧ ∀ v ∈ zs, -1000000 ≤ v ∧ v ≤ 1000000
def Runs (ns xs : List Int) (i : Nat) (us vs : List Value) (t0 r0 t1 r1 : Addr) (a b c d : Obj) : Prop :=
  (i = 0 ∧ us = [] ∧ vs = []) ∨ (i = 1 ∧ us = [.ref t0] ∧ vs = [.ref r0] ∧ Run ns xs (0 + ((0 : Nat) : Int)) a b) ∨ (i = 2 ∧ us = [.ref t0, .ref t1] ∧ vs = [.ref r0, .ref r1] ∧ Run ns xs (0 + ((0 : Nat) : Int)) a b ∧ Run ns xs (0 + ((1 : Nat) : Int)) c d)
theorem runs_len {ns xs : List Int} {i : Nat} {us vs : List Value} {t0 r0 t1 r1 : Addr} {a b c d : Obj} (h : Runs ns xs i us vs t0 r0 t1 r1 a b c d) : us.length = i ∧ vs.length = i := by
  rcases h with ⟨rfl, rfl, rfl⟩ | ⟨rfl, rfl, rfl, _⟩ | ⟨rfl, rfl, rfl, _⟩ <;> exact ⟨rfl, rfl⟩
def JFnd (Dl Dr l lx L : Addr) (ns xs : List Int) (i : Nat) (m : Str → Option Value) (news : List (Addr × Obj)) : Prop :=
  (∃ u : Str → Option Value, m = (fun z => if z = Str.ofString "turn" then u z else if z = Str.ofString "slope" then u z else if z = Str.ofString "start" then u z else if z = Str.ofString "rests" then u z else if z = Str.ofString "row" then u z else
        (fun z => if z = Str.ofString "lines" then some (.ref Dl) else if z = Str.ofString "rows" then some (.ref Dr) else if z = Str.ofString "x" then some (.ref lx) else if z = Str.ofString "script" then some (.ref l) else none) z)) ∧
      ∃ (us vs : List Value) (c1 c2 : Nat) (oc : Obj) (v1 : Option Value) (ps' : Array Value) (t0 r0 t1 r1 : Addr) (oa ob' oc' od : Obj),
      news = [(PT, tabO ps'), (Dl, W.listOf us.toArray c1), (Dr, W.listOf vs.toArray c2), (L + 1, oc), (t0, oa), (r0, ob'), (t1, oc'), (r1, od)] ∧ oc.data = .cell v1 ∧ TabP ⟨115, 12, 115, 35⟩ ps' ∧
      (@LT.lt Nat _ Dl t0 ∧ @LT.lt Nat _ Dr t0 ∧ @LT.lt Nat _ PT t0 ∧ @LT.lt Nat _ (L + 1) t0) ∧ LCg.Off1 r0 [(PT, emptyD), (Dl, emptyD), (Dr, emptyD), (L + 1, emptyD)] ∧ (@LT.lt Nat _ Dl t1 ∧ @LT.lt Nat _ Dr t1 ∧ @LT.lt Nat _ PT t1 ∧ @LT.lt Nat _ (L + 1) t1) ∧ LCg.Off1 r1 [(PT, emptyD), (Dl, emptyD), (Dr, emptyD), (L + 1, emptyD)] ∧ Runs ns xs i us vs t0 r0 t1 r1 oa ob' oc' od
set_option rowWalk.seconds 0 in
theorem found_ok {w : World} {mg mb mm : Str → Option Value} {bm : Addr} {ob : Obj} {dp un : Nat} {fr : Option (List Env)} {gd : Option (List Code)} {E Q : Value → Shared → Prop} {s : Shared} {h₀ : Heap} {l lx : Addr} {vs us : List Value} {ns xs : List Int} {ps : Array Value}
    (hk : Ext h₀ s.heap) (hPT₀ : h₀.get? PT = none) (X₀ : (K w.params).In h₀) (T₀ : TR mg mb h₀) (M₀ : BMod h₀ mainGlobals mm bm ob) (hG : AllBare s.gens) (hP : s.heap.get? PT = some (tabO ps)) (hps : TabP ⟨115, 12, 115, 35⟩ ps)
    (hl₀ : s.heap.IsList l vs.toArray) (hi : IntsAre vs ns) (hlay : (PyData.list (ns.map PyData.int)).layable0 = true) (hlP : l ≠ PT)
    (hlx₀ : s.heap.IsList lx us.toArray) (hix : IntsAre us xs) (hxP : lx ≠ PT) (px : PX xs) (hd : dp + 30 < recursionLimit) (hu : un + 400 < cLine)
    (hret : ∀ s' ps', (∀ b o, b ≠ PT → s.heap.get? b = some o → s'.heap.get? b = some o) → s'.heap.get? PT = some (tabO ps') → TabP ⟨115, 12, 115, 35⟩ ps' → AllBare s'.gens → s'.os = s.os → s'.drawn = s.drawn → Q (.bool true) s') :
    wpAny (model PG w) (AR dp fr gd un) (call (.ref 209) [.ref l, .ref lx]) Q E s := by
  have hLK := len_ints_list hlay
  have px1 := px.lo
  have px2 := px.hi
  have hXL : us.length = xs.length := hix.length
  have X : (K w.params).In (hid s.heap) := X₀.keeps (hid_of hPT₀ hk)
  have T : TR mg mb (hid s.heap) := T₀.keeps (hid_of hPT₀ hk)
  have M : BMod (hid s.heap) mainGlobals mm bm ob := M₀.keeps (hid_of hPT₀ hk)
  have hlx := hid_list hlx₀ hxP
  have hl := hid_list hl₀ hlP
  have hPT : (hid s.heap).get? PT = none := Heap.hide_self _ _
  obtain ⟨xb, hsx⟩ := px_sum px
  have bxb := mean_bd (xs := xs) (by omega) px.bd hsx
  have hne := px_dev (xb := xb) px
  clear X₀ T₀ M₀ hlx₀ hl₀ hk hPT₀
  refine wpAny_call ?_
  refine enterC (h₀ := hid s.heap) hid_sub (Nat.le_of_eq (Heap.hide_size _ _)) X T (K := K w.params) (f := 209) (binds := [(Str.ofString "script", .ref l), (Str.ofString "x", .ref lx)]) (by k_is) (by k_is) (by dsimp only; omega) (BindsTo.of_eq rfl) rfl (by decide +kernel) rfl rfl rfl ?_
  intro L h₁ tk cells hL F hk₁ N Y
  have hPh := hk₁ _ _ hP
  k_cells Y
  rename News _ _ _ _ => N0
  have hPL : PT ≠ L := by
    have := Heap.lt_size hP
    rw [hL] at this
    exact Nat.ne_of_lt this
  have hPlt : @LT.lt Nat _ PT L := by
    have := Heap.lt_size hP
    rw [hL] at this
    exact this
  have N := news_snoc N0 hPh hPL hPT
  clear N0 hPh
  dsimp only
  try k_fold
  w_on
  k_steps
  rename_i tk1 o1 d1 Dl h5 l1 Dr h4 l2 D0 h3 l3 h2 h1 h6 F7 N7
  refine Halt.of ?_
  refine wpAny_For ?_ (by intro _; rfl)
  k_steps
  refine Halt.of ?_
  rename Fr _ _ _ _ => Fa
  rename News _ _ _ _ => Na
  rename IsRange _ _ _ _ _ _ _ _ => hr
  have Nb := news_sub (l' := [(PT, tabO ps), (Dl, W.listOf ([] : List Value).toArray 0), (Dr, W.listOf ([] : List Value).toArray 0), (L + 1, o1), (D0, _), (D0, _), (D0, _), (D0, _)]) Na (by kcf_all)
  refine rangeC (s₀ := s) (n := 2) (JFnd Dl Dr l lx L ns xs) (by rfl) hr (by decide) (by decide) Fa Nb (by rfl) (by rfl) ⟨hG, rfl, rfl⟩ ?start ?turn ?done
  case start =>
    refine ⟨forget5 fun z _ _ _ _ _ => rfl, [], [], 0, 0, o1, _, ps, D0, D0, D0, D0, _, _, _, _, rfl, d1, hps, ?_, ?_, ?_, ?_, .inl ⟨rfl, rfl, rfl⟩⟩
    all_goals first | exact ⟨l3.2.1, l3.1, l3.2.2.1, l3.2.2.2⟩ | walk_at "off_all"
  case done =>
    rintro m news s' ⟨⟨u, rfl⟩, us', vs', c1, c2, oc, v1, ps', t0, r0, t1, r1, oa, ob', oc', od, rfl, hdc, hps', m1, m2, m3, m4, hR⟩ ⟨hG', hos, hdr⟩ F9 N9
    obtain ⟨H1, G1, D1, K1, O1⟩ := s'
    rcases hR with ⟨h, _⟩ | ⟨h, _⟩ | ⟨_, rfl, rfl, R0, R1⟩
    · exact absurd h (by decide)
    · exact absurd h (by decide)
    obtain ⟨ta0, tb0, w0, z0, n0, rfl, rfl, hi0, ls0, b0⟩ := R0
    obtain ⟨ta1, tb1, w1, z1, n1, rfl, rfl, hi1, ls1, b1⟩ := R1
    dsimp only at hG' hos hdr F9 N9 ⊢
    clear hr Fa Na Nb hG
    k_steps
    refine Halt.of ?_
    walk_at "my_assign"
    k_steps
    refine Halt.of ?_
    rename Fr _ _ _ _ => Fa
    rename News _ _ _ _ => Na
    refine zip_call (IsI (List.zipWith (fun x y => x + y) z0 z1)) (by rfl) Fa Na ⟨W.listOf w0.toArray n0, (Na (r0, W.listOf w0.toArray n0) (by walk_at "off_mem")).1, rfl, _, rfl⟩ ⟨W.listOf w1.toArray n1, (Na (r1, W.listOf w1.toArray n1) (by walk_at "off_mem")).1, rfl, _, rfl⟩ (by rw [hi0.length, hi1.length, ls0.len, ls1.len]) (by rw [PySem.sizeLine_eq, hi0.length, ls0.len]; omega) ?_ ?_
    · intro j v₁ v₂ C oC m₂ h tk E' hj e1 e2 hC hca hcb F' N'
      obtain ⟨x1, tx, rfl, hx1⟩ := IntsAre.at hi0 j v₁ e1
      obtain ⟨x2, ty, rfl, hx2⟩ := IntsAre.at hi1 j v₂ e2
      k_steps
      exact isI_zip (f := fun x y => x + y) hx1 hx2
    · intro g ys hys hG
      unfold FinZA
      intro D c h tk F' N' o9'
      clear Fa Na
      have hLS := ls_add ls0 ls1
      have bz := add_bd b0 b1
      have hib : IntsAre ys (List.zipWith (fun x y => x + y) z0 z1) := ints_of (by rw [hys, hi0.length, hLS.len, ls0.len]) hG
      have k0 := cellv_lo (ns := ns) (a := 30 + (0 + ((0 : Nat) : Int))) (b := 43) (by decide)
      have k1 := cellv_hi (ns := ns) (a := 30 + (0 + ((0 : Nat) : Int))) (b := 43) (by decide)
      have k2 := cellv_lo (ns := ns) (a := 30 + (0 + ((1 : Nat) : Int))) (b := 43) (by decide)
      have k3 := cellv_hi (ns := ns) (a := 30 + (0 + ((1 : Nat) : Int))) (b := 43) (by decide)
      have s0 := cellv_lo (ns := ns) (a := 32 + (0 + ((0 : Nat) : Int))) (b := 401) (by decide)
      have s1 := cellv_hi (ns := ns) (a := 32 + (0 + ((0 : Nat) : Int))) (b := 401) (by decide)
      have s2 := cellv_lo (ns := ns) (a := 32 + (0 + ((1 : Nat) : Int))) (b := 401) (by decide)
      have s3 := cellv_hi (ns := ns) (a := 32 + (0 + ((1 : Nat) : Int))) (b := 401) (by decide)
      clear hG
      k_steps
      refine Halt.of ?_
      rename Fr _ _ _ _ => Fa
      rename News _ _ _ _ => Na
      have Nb := news_sub (l' := [(PT, tabO ps'), (D, W.listOf ys.toArray c), (Dl, W.listOf [Value.ref t0, Value.ref t1].toArray c1), (t0, { cls := .type "tuple", data := .seq #[.int (cellv ns (30 + (0 + ((0 : Nat) : Int))) 43) ta0, .int (cellv ns (32 + (0 + ((0 : Nat) : Int))) 401) tb0] }), (t1, { cls := .type "tuple", data := .seq #[.int (cellv ns (30 + (0 + ((1 : Nat) : Int))) 43) ta1, .int (cellv ns (32 + (0 + ((1 : Nat) : Int))) 401) tb1] })]) Na (by kcf_all)
      refine lrl_use (s₀ := s) Fa Nb (by walk_at "off_all") hPT X T M ⟨hG', hos, hdr⟩ hps' (stays_list Fa.keep hlx) hix ⟨_, (Nb _ (.tail _ (.head _))).1, rfl, _, rfl⟩ hib hxP (by walk_at "off_ne") px hLS (fun v hv => by have := bz v hv; omega) (by omega) (by omega) (by walk_at "room d") (by walk_at "room u") fun r dx s' ps2 p q ta tb F3 N3 o3' o4' o5' hps2 G3 q1 q2 => ?_
      obtain ⟨H2, G2, D2, K2, O2⟩ := s'
      dsimp only at F3 N3
      clear Fa Na Nb hos hdr hG' hps'
      k_steps
      refine Halt.of ?_
      rename Fr _ _ _ _ => Fa
      rename News _ _ _ _ => Na
      refine told_eq (by walk_at "room u") (X.keeps Fa.keep) (Na (r, inst dx (.float p ta) (.float q tb)) (by walk_at "off_mem")).1 (Na _ List.mem_cons_self).1 q1 q2 ?_
      k_steps
      exact hret _ ps2 (fun b o hb e => Fa.keep b o (by rw [Heap.hide_ne _ hb]; exact e)) (Na (PT, tabO ps2) (by walk_at "off_mem")).1 hps2 G3.1 G3.2.1 G3.2.2
  case turn =>
    rintro i I it m news t s₁ hi3 ⟨⟨u, rfl⟩, us', vs', c1, c2, oc, v1, ps', t0, r0, t1, r1, oa, ob', oc', od, rfl, hdc, hps', m1, m2, m3, m4, hR⟩ hoff ⟨hG', hos, hdr⟩ F9 N9
    obtain ⟨g1, hg1⟩ : ∃ g, s₁.heap = g := ⟨_, rfl⟩
    obtain ⟨H1, G1, D1, K1, O1⟩ := s₁
    dsimp only at hG' hos hdr F9 N9
    have hoff' := off1_of_all hoff
    clear hoff
    clear hG hg1 g1
    have k0 := cellv_lo (ns := ns) (a := 30 + (0 + (i : Int))) (b := 43) (by decide)
    have k1 := cellv_hi (ns := ns) (a := 30 + (0 + (i : Int))) (b := 43) (by decide)
    have s0 := cellv_lo (ns := ns) (a := 32 + (0 + (i : Int))) (b := 401) (by decide)
    have s1 := cellv_hi (ns := ns) (a := 32 + (0 + (i : Int))) (b := 401) (by decide)
    k_steps
    refine Halt.of ?_
    rename Fr _ _ _ _ => Fa
    rename News _ _ _ _ => Na
    refine across_use Fa Na X T hl hi hlay (stays_list Fa.keep hlx) hix px (by omega) (by omega) (by walk_at "room d") (by walk_at "room u") fun la ua fs ca ha tka F1 N1 o1' hia fx => ?_
    clear Fa Na
    k_steps
    refine Halt.of ?_
    rename Fr _ _ _ _ => Fa
    rename News _ _ _ _ => Na
    have hfl := fx.len
    refine on_use (rs := fs) Fa Na X T (stays_list Fa.keep hlx) hix ⟨_, (Na _ (.head _)).1, rfl, _, rfl⟩ hia fx.len px2 (by omega) (by omega) (by walk_at "room d") (by walk_at "room u") fun lb ub zs cb hb tkb F2 N2 o2' hib hzs => ?_
    clear Fa Na
    k_steps
    refine Halt.of ?_
    rename Fr _ _ _ _ => Fa
    rename News _ _ _ _ => Na
    have hLS : LS xs zs (cellv ns (30 + (0 + (i : Int))) 43) (cellv ns (32 + (0 + (i : Int))) 401) := hzs ▸ ls_row fx.len fx.sum0 fx.dot0
    have bz : ∀ v ∈ zs, -1000000 ≤ v ∧ v ≤ 1000000 := by
      rw [hzs]
      exact row_bd2 (B := 3024) (by omega) (by omega) (by omega) (by omega) (by omega) px.bd fun v hv => by have := fx.bd v hv; omega
    have Nb := news_sub (l' := [(PT, tabO ps'), (lb, W.listOf ub.toArray cb), (la, W.listOf ua.toArray ca), (I, it), (Dl, W.listOf us'.toArray c1), (Dr, W.listOf vs'.toArray c2), (L + 1, oc), (t0, oa), (r0, ob'), (t1, oc'), (r1, od)]) Na (by kcf_all)
    refine lrl_use (s₀ := s) Fa Nb (by walk_at "off_all") hPT X T M ⟨hG', hos, hdr⟩ hps' (stays_list Fa.keep hlx) hix ⟨_, (Nb _ (.tail _ (.head _))).1, rfl, _, rfl⟩ hib hxP (by walk_at "off_ne") px hLS (fun v hv => by have := bz v hv; omega) (by omega) (by omega) (by walk_at "room d") (by walk_at "room u") fun r dx s' ps2 p q ta tb F3 N3 o3' o4' o5' hps2 G3 q1 q2 => ?_
    obtain ⟨H2, G2, D2, K2, O2⟩ := s'
    dsimp only at F3 N3
    clear Fa Na Nb hos hdr hG' hps'
    have f1 : @Ne Nat I (L + 1) := by walk_at "off_ne"
    have f2 : @Ne Nat la (L + 1) := by walk_at "off_ne"
    have f3 : @Ne Nat lb (L + 1) := by walk_at "off_ne"
    have f4 : @Ne Nat r (L + 1) := by walk_at "off_ne"
    have f5 : @Ne Nat dx (L + 1) := by walk_at "off_ne"
    have f6 : @Ne Nat r0 (L + 1) := by walk_at "off_ne"
    have f7 : @Ne Nat r1 (L + 1) := by walk_at "off_ne"
    k_steps
    refine Halt.of ?_
    rename Fr _ _ _ _ => Fa
    rename News _ _ _ _ => Na
    refine told_ne (by walk_at "room u") (X.keeps Fa.keep) (Na (r, inst dx (.float p ta) (.float q tb)) (by walk_at "off_mem")).1 (Na _ List.mem_cons_self).1 q1 q2 ?_
    k_steps
    refine Halt.of ?_
    have Nb := news_sub (l' := [(PT, tabO ps2), (r, inst dx (.float p ta) (.float q tb)), (dx, emptyD), (lb, W.listOf ub.toArray cb), (la, W.listOf ua.toArray ca), (I, it), (Dl, W.listOf us'.toArray c1), (Dr, W.listOf vs'.toArray c2), (L + 1, _), (t0, oa), (r0, ob'), (t1, oc'), (r1, od)]) Na (by kcf_all)
    refine lrl_use (s₀ := s) Fa Nb (by walk_at "off_all") hPT X T M ⟨G3.1, G3.2⟩ hps2 (stays_list Fa.keep hlx) hix ⟨W.listOf ua.toArray ca, (Nb (la, W.listOf ua.toArray ca) (by walk_at "off_mem")).1, rfl, _, rfl⟩ hia hxP (by walk_at "off_ne") px (ls_zero fx.len fx.sum0 fx.dot0) (fun v hv => by have := fx.bd v hv; omega) (by omega) (by omega) (by walk_at "room d") (by walk_at "room u") fun rr dd s'' ps3 pp qq ta' tb' F4 N4 o6' o7' o8' hps3 G4 q3 q4 => ?_
    obtain ⟨H3, G5, D3, K3, O3⟩ := s''
    dsimp only at F4 N4
    clear Fa Na Nb G3 hps2
    k_steps
    refine Halt.of ?_
    rename Fr _ _ _ _ => Fa
    rename News _ _ _ _ => Na
    refine told_ne (by walk_at "room u") (X.keeps Fa.keep) (Na (rr, inst dd (.float pp ta') (.float qq tb')) (by walk_at "off_mem")).1 (Na _ List.mem_cons_self).1 q3 q4 ?_
    k_steps
    refine Halt.of ?_
    have Nb := news_sub (l' := [(PT, tabO ps3), (r, inst dx (.float p ta) (.float q tb)), (dx, emptyD), (lb, W.listOf ub.toArray cb), (la, W.listOf ua.toArray ca), (I, it), (Dl, W.listOf us'.toArray c1), (Dr, W.listOf vs'.toArray c2), (L + 1, _), (t0, oa), (r0, ob'), (t1, oc'), (r1, od)]) Na (by kcf_all)
    clear Na
    refine zip_call (IsF zs) (by rfl) Fa Nb (stays_list Fa.keep hlx) ⟨W.listOf ua.toArray ca, (Nb (la, W.listOf ua.toArray ca) (by walk_at "off_mem")).1, rfl, _, rfl⟩ (by rw [hia.length, hix.length]; omega) (by rw [PySem.sizeLine_eq]; omega) ?_ ?_
    · intro j v₁ v₂ C oC m₂ h tk E' hj e1 e2 hC hca hcb F' N'
      obtain ⟨x1, tx, rfl, hx1⟩ := IntsAre.at hix j v₁ e1
      obtain ⟨x2, ty, rfl, hx2⟩ := IntsAre.at hia j v₂ e2
      clear Fa Nb
      k_steps
      rename Fr _ _ _ _ => Fa
      rename News _ _ _ _ => Na
      refine get_slope (X.keeps Fa.keep) (T.keeps Fa.keep) (by walk_at "room d") (by walk_at "room u") (Na (r, inst dx (.float p ta) (.float q tb)) (by walk_at "off_mem")).1 (Na (dx, emptyD) (by walk_at "off_mem")).1 (by rfl) fun hg tkg kg => ?_
      have F1 := fr_ext Fa kg
      have N1 := news_ext Na kg
      clear Fa Na
      have bx1 := px.bd x1 (List.mem_of_getElem? hx1)
      have bx2 := fx.bd x2 (List.mem_of_getElem? hx2)
      have bkx := mul_bd (a := cellv ns (30 + (0 + (i : Int))) 43) (A := 22) (by omega) bx1
      k_steps
      refine Halt.of ?_
      refine fi_mul q1 (by omega) (by omega) fun w1 v1' z1 => ?_
      k_steps
      rename Fr _ _ _ _ => Fa
      rename News _ _ _ _ => Na
      refine get_icept (X.keeps Fa.keep) (T.keeps Fa.keep) (by walk_at "room d") (by walk_at "room u") (Na (r, inst dx (.float p ta) (.float q tb)) (by walk_at "off_mem")).1 (Na (dx, emptyD) (by walk_at "off_mem")).1 (by rfl) fun hg2 tkg2 kg2 => ?_
      have F1 := fr_ext Fa kg2
      have N1 := news_ext Na kg2
      clear Fa Na
      k_steps
      refine Halt.of ?_
      refine ff_add z1 q2 (by omega) fun w2 v2' z2 => ?_
      k_steps
      refine Halt.of ?_
      refine fi_add z2 (by omega) (by omega) fun w3 v3' z3 => ?_
      rw [hzs]
      exact isF_zip hx1 hx2 rfl z3 ⟨hg2, _, rfl, fun b o e => kg2 b o (kg b o e)⟩
    · intro g ys hys hG
      unfold FinZ
      intro D c h tk F' N' o9'
      clear Fa Nb
      k_steps
      refine Halt.of ?_
      rename Fr _ _ _ _ => Fa
      rename News _ _ _ _ => Na
      refine list_ne ⟨_, (Na _ List.mem_cons_self).1, rfl, _, rfl⟩ ⟨W.listOf ub.toArray cb, (Na (lb, W.listOf ub.toArray cb) (by walk_at "off_mem")).1, rfl, _, rfl⟩ ⟨by rw [hys, hXL, hLS.len], hG⟩ hib (by walk_at "room u") ?_
      k_steps
      rename_i DT hT Fa Na lT
      refine Halt.of ?_
      obtain ⟨hul, hvl⟩ := runs_len hR
      have Nb := news_sub (l' := [(Dl, W.listOf us'.toArray c1), (DT, _), (lb, W.listOf ub.toArray cb), (I, it), (PT, tabO ps3), (Dr, W.listOf vs'.toArray c2), (L + 1, _), (t0, oa), (r0, ob'), (t1, oc'), (r1, od)]) Na (by kcf_all)
      refine app_use Fa Nb (by walk_at "off_all") (by omega) fun h' F1 N1 => ?_
      clear Fa Na Nb
      k_steps
      refine Halt.of ?_
      rename Fr _ _ _ _ => Fa
      rename News _ _ _ _ => Na
      have Nb := news_sub (l' := [(Dr, W.listOf vs'.toArray c2), (Dl, W.listOf (us' ++ [Value.ref DT]).toArray (c1 + 1)), (DT, _), (lb, W.listOf ub.toArray cb), (I, it), (PT, tabO ps3), (L + 1, _), (t0, oa), (r0, ob'), (t1, oc'), (r1, od)]) Na (by kcf_all)
      refine app_use Fa Nb (by walk_at "off_all") (by omega) fun h'' F1 N1 => ?_
      clear Fa Na Nb
      k_steps
      have ad : @LT.lt Nat _ Dl DT ∧ @LT.lt Nat _ Dr DT ∧ @LT.lt Nat _ PT DT ∧ @LT.lt Nat _ (L + 1) DT := by omega
      have run : ∀ x y : Tok, Run ns xs (0 + (i : Int)) { cls := .type "tuple", data := .seq #[.int (cellv ns (30 + (0 + (i : Int))) 43) x, .int (cellv ns (32 + (0 + (i : Int))) 401) y] } (W.listOf ub.toArray cb) := fun x y => ⟨x, y, ub, zs, cb, rfl, rfl, hib, hLS, bz⟩
      rcases hR with ⟨rfl, rfl, rfl⟩ | ⟨rfl, rfl, rfl, R0⟩ | ⟨rfl, _⟩
      · refine CEnd.intro ⟨G4.1, G4.2⟩ F1 N1 [(PT, tabO ps3), (Dl, W.listOf [Value.ref DT].toArray (c1 + 1)), (Dr, W.listOf [Value.ref lb].toArray (c2 + 1)), (L + 1, _), (DT, _), (lb, _), (t1, oc'), (r1, od)] (by kcf_all) (all_of_off1 (by walk_at "off_all")) ⟨forget5 fun z h1 h2 h3 h4 h5 => ?_, [Value.ref DT], [Value.ref lb], _, _, _, _, ps3, DT, lb, t1, r1, _, _, _, _, rfl, by assumption, hps3, ad, by walk_at "off_all", m3, m4, .inr (.inl ⟨rfl, rfl, rfl, run _ _⟩)⟩
        simp only [if_neg h1, if_neg h2, if_neg h3, if_neg h4, if_neg h5]
      · refine CEnd.intro ⟨G4.1, G4.2⟩ F1 N1 [(PT, tabO ps3), (Dl, W.listOf [Value.ref t0, Value.ref DT].toArray (c1 + 1)), (Dr, W.listOf [Value.ref r0, Value.ref lb].toArray (c2 + 1)), (L + 1, _), (t0, oa), (r0, ob'), (DT, _), (lb, _)] (by kcf_all) (all_of_off1 (by walk_at "off_all")) ⟨forget5 fun z h1 h2 h3 h4 h5 => ?_, [Value.ref t0, Value.ref DT], [Value.ref r0, Value.ref lb], _, _, _, _, ps3, t0, r0, DT, lb, _, _, _, _, rfl, by assumption, hps3, m1, m2, ad, by walk_at "off_all", .inr (.inr ⟨rfl, rfl, rfl, R0, run _ _⟩)⟩
        simp only [if_neg h1, if_neg h2, if_neg h3, if_neg h4, if_neg h5]
      · exact absurd hi3 (by omega)
end
set_option Elab.async false
theorem sum_scale {k : Int} : ∀ {ys : List Int}, (ys.map fun a => k * a).sum = k * ys.sum
  | [] => by simp
  | a :: r => by rw [List.map_cons, List.sum_cons, List.sum_cons, sum_scale, Int.mul_add]
theorem dot_scale {k : Int} : ∀ {xs ys : List Int}, dot xs (ys.map fun a => k * a) = k * dot xs ys
  | [], [] => by simp [dot]
  | [], _ :: _ => by simp [dot]
  | _ :: _, [] => by simp [dot]
  | a :: r, b :: q => by
    show a * (k * b) + dot r (q.map fun a => k * a) = k * (a * b + dot r q)
    rw [dot_scale, Int.mul_add, ← Int.mul_assoc, ← Int.mul_assoc, Int.mul_comm a k]
abbrev ov (xs ys : List Int) : Int := (xs.length : Int) * dot xs ys - xs.sum * ys.sum
abbrev re (xs ys : List Int) : Int := dot xs xs * ys.sum - xs.sum * dot xs ys
abbrev und (xs : List Int) : Int := (xs.length : Int) * dot xs xs - xs.sum * xs.sum
theorem ls_whole {xs ys : List Int} (hl : ys.length = xs.length) : LS xs (ys.map fun a => und xs * a) (ov xs ys) (re xs ys) := by
  refine ⟨by rw [List.length_map]; exact hl, ?_, ?_⟩
  · rw [sum_scale]
    show ((xs.length : Int) * dot xs xs - xs.sum * xs.sum) * ys.sum = ((xs.length : Int) * dot xs ys - xs.sum * ys.sum) * xs.sum + (dot xs xs * ys.sum - xs.sum * dot xs ys) * (xs.length : Int)
    generalize dot xs xs = a
    generalize dot xs ys = b
    generalize xs.sum = p
    generalize ys.sum = q
    generalize (xs.length : Int) = n
    grind
  · rw [dot_scale]
    show ((xs.length : Int) * dot xs xs - xs.sum * xs.sum) * dot xs ys = ((xs.length : Int) * dot xs ys - xs.sum * ys.sum) * dot xs xs + (dot xs xs * ys.sum - xs.sum * dot xs ys) * xs.sum
    generalize dot xs xs = a
    generalize dot xs ys = b
    generalize xs.sum = p
    generalize ys.sum = q
    generalize (xs.length : Int) = n
    grind
theorem sum_off {k c : Int} : ∀ {W xs : List Int}, W.length = xs.length → (List.zipWith (fun a p => a - k * p - c) W xs).sum = W.sum - k * xs.sum - c * (xs.length : Int)
  | [], [], _ => by simp
  | a :: r, b :: q, h => by
    show ((a - k * b - c) :: List.zipWith (fun a p => a - k * p - c) r q).sum = _
    rw [List.sum_cons, sum_off (Nat.succ.inj h), List.sum_cons, List.sum_cons, List.length_cons]
    have : ((q.length + 1 : Nat) : Int) = (q.length : Int) + 1 := by omega
    rw [this]
    grind
  | [], _ :: _, h => by simp at h
  | _ :: _, [], h => by simp at h
theorem dot_off {k c : Int} : ∀ {W xs z : List Int}, W.length = xs.length → z.length = xs.length → dot z (List.zipWith (fun a p => a - k * p - c) W xs) = dot z W - k * dot z xs - c * z.sum
  | [], [], [], _, _ => by simp [dot]
  | a :: r, b :: q, z :: p, h1, h2 => by
    show z * (a - k * b - c) + dot p (List.zipWith (fun a p => a - k * p - c) r q) = (z * a + dot p r) - k * (z * b + dot p q) - c * (z :: p).sum
    rw [dot_off (Nat.succ.inj h1) (Nat.succ.inj h2), List.sum_cons]
    grind
  | [], _ :: _, _, h, _ => by simp at h
  | _ :: _, [], _, h, _ => by simp at h
  | [], [], _ :: _, _, h => by simp at h
  | _ :: _, _ :: _, [], _, h => by simp at h
theorem off_zero {xs W : List Int} {k c : Int} (A : LS xs W k c) : (List.zipWith (fun a p => a - k * p - c) W xs).length = xs.length ∧ (List.zipWith (fun a p => a - k * p - c) W xs).sum = 0 ∧ dot (List.zipWith (fun a p => a - k * p - c) W xs) xs = 0 := by
  refine ⟨by rw [List.length_zipWith, A.len]; omega, ?_, ?_⟩
  · rw [sum_off A.len, A.sum]; omega
  · rw [dot_comm, dot_off A.len rfl, A.dot]; omega
theorem sums_bd {xs ys : List Int} (h8 : xs.length ≤ 8) (hy : ys.length = xs.length) (hx : ∀ v ∈ xs, -168 ≤ v ∧ v ≤ 168) (hb : ∀ v ∈ ys, -168 ≤ v ∧ v ≤ 168) :
    (-1344 ≤ ys.sum ∧ ys.sum ≤ 1344) ∧ (-225792 ≤ dot xs ys ∧ dot xs ys ≤ 225792) := by
  have h1 := take_sum_bd (xs := ys) (B := 168) (by omega) (by omega) hb 8
  rw [List.take_of_length_le (by omega)] at h1
  have h2 := take_dot_bd (xs := xs) (ys := ys) (A := 168) (B := 168) (by omega) (by omega) h8 hx hb 8
  rw [List.take_of_length_le (by omega), List.take_of_length_le (by omega)] at h2
  exact ⟨by omega, by omega⟩
theorem line_bd {xs ys : List Int} (h8 : xs.length ≤ 8) (hy : ys.length = xs.length) (hx : ∀ v ∈ xs, -168 ≤ v ∧ v ≤ 168) (hb : ∀ v ∈ ys, -168 ≤ v ∧ v ≤ 168) :
    (-3612672 ≤ ov xs ys ∧ ov xs ys ≤ 3612672) ∧ (-606928896 ≤ re xs ys ∧ re xs ys ≤ 606928896) ∧ (-3612672 ≤ und xs ∧ und xs ≤ 3612672) := by
  obtain ⟨a1, a2⟩ := sums_bd h8 hy hx hb
  obtain ⟨a3, a4⟩ := sums_bd h8 rfl hx hx
  have b1 := mul_bd (a := (xs.length : Int)) (A := 8) (by omega) a2
  have b2 := mul_bd (a := (xs.length : Int)) (A := 8) (by omega) a4
  have b3 := mul_bd a3 a1
  have b4 := mul_bd a3 a3
  have b5 := mul_bd a4 a1
  have b6 := mul_bd a3 a2
  unfold ov re und
  exact ⟨by omega, by omega, by omega⟩
theorem scale_bd {k A B : Int} {ys : List Int} (hk : -A ≤ k ∧ k ≤ A) (hb : ∀ v ∈ ys, -B ≤ v ∧ v ≤ B) : ∀ v ∈ ys.map fun a => k * a, -(A * B) ≤ v ∧ v ≤ A * B := fun v hv => by
  obtain ⟨u, hu, rfl⟩ := List.mem_map.mp hv
  exact mul_bd hk (hb u hu)
theorem off_bd {W xs : List Int} {k c : Int} (hW : ∀ v ∈ W, -606928896 ≤ v ∧ v ≤ 606928896) (hx : ∀ v ∈ xs, -168 ≤ v ∧ v ≤ 168) (hk : -3612672 ≤ k ∧ k ≤ 3612672) (hc : -606928896 ≤ c ∧ c ≤ 606928896) :
    ∀ v ∈ List.zipWith (fun a p => a - k * p - c) W xs, -1820786688 ≤ v ∧ v ≤ 1820786688 := fun v hv => by
  obtain ⟨i, hi, rfl⟩ := List.getElem_of_mem hv
  rw [List.length_zipWith] at hi
  rw [List.getElem_zipWith]
  have h1 := hW _ (List.getElem_mem (l := W) (n := i) (by omega))
  have h2 := hx _ (List.getElem_mem (l := xs) (n := i) (by omega))
  have h3 := mul_bd hk h2
  omega
set_option Elab.async false
set_option linter.unusedSimpArgs false
set_option linter.unusedVariables false
set_option maxRecDepth 100000
set_option maxHeartbeats 16000000
local macro_rules | `(tactic| walk_at "part MPd") => `(tactic| skip)
section
local macro_rules | `(tactic| walk_at $k:str) => match [("call ref", "own 1 or halt"), ("compareOp Eq ref ref", "halt"), ("compareOp NotEq ref ref", "halt"), ("eval ListComp", "own 7"), ("CompSrc", "halt"), ("call type:zip", "halt"), ("exec Assign cons ListComp", "halt"), ("subscriptTail", "own 13"), ("binaryOp Mult float int", "halt"), ("binaryOp Add float int", "halt"), ("binaryOp Add float float", "halt"), ("binaryOp Mult int int", "own 2"), ("call builtin:list.append", "halt")].lookup k.getString with
  | some n => `(tactic| walk_at $(Lean.Syntax.mkStrLit n))
  | none => Lean.Macro.throwUnsupported
theorem sum_prod : ∀ (xs ys : List Int), (List.zipWith (fun a r => a * r) xs ys).sum = dot xs ys := sum_zip
set_option rowWalk.seconds 0 in
theorem parted_ok {w : World} {mg mb mm : Str → Option Value} {bm : Addr} {ob : Obj} {dp un : Nat} {fr : Option (List Env)} {gd : Option (List Code)} {E Q : Value → Shared → Prop} {s : Shared} {h₀ : Heap} {l lx ly : Addr} {vs us ws : List Value} {ns xs ys : List Int} {ps : Array Value}
    (hk : Ext h₀ s.heap) (hPT₀ : h₀.get? PT = none) (X₀ : (K w.params).In h₀) (T₀ : TR mg mb h₀) (M₀ : BMod h₀ mainGlobals mm bm ob) (hG : AllBare s.gens) (hP : s.heap.get? PT = some (tabO ps)) (hps : TabP ⟨115, 12, 115, 35⟩ ps)
    (hl₀ : s.heap.IsList l vs.toArray) (hi : IntsAre vs ns) (hlay : (PyData.list (ns.map PyData.int)).layable0 = true) (hlP : l ≠ PT)
    (hlx₀ : s.heap.IsList lx us.toArray) (hix : IntsAre us xs) (hxP : lx ≠ PT) (px : PX xs) (hly₀ : s.heap.IsList ly ws.toArray) (hiy : IntsAre ws ys) (hyP : ly ≠ PT) (hyl : ys.length = xs.length) (hyb : ∀ v ∈ ys, -168 ≤ v ∧ v ≤ 168) (hd : dp + 30 < recursionLimit) (hu : un + 400 < cLine)
    (hret : ∀ s' ps', (∀ b o, b ≠ PT → s.heap.get? b = some o → s'.heap.get? b = some o) → s'.heap.get? PT = some (tabO ps') → TabP ⟨115, 12, 115, 35⟩ ps' → AllBare s'.gens → s'.os = s.os → s'.drawn = s.drawn → Q (.bool true) s') :
    wpAny (model PG w) (AR dp fr gd un) (call (.ref 219) [.ref l, .ref lx, .ref ly]) Q E s := by
  have hLK := len_ints_list hlay
  have px1 := px.lo
  have px2 := px.hi
  have hXL : us.length = xs.length := hix.length
  have hYL : ws.length = ys.length := hiy.length
  have X : (K w.params).In (hid s.heap) := X₀.keeps (hid_of hPT₀ hk)
  have T : TR mg mb (hid s.heap) := T₀.keeps (hid_of hPT₀ hk)
  have M : BMod (hid s.heap) mainGlobals mm bm ob := M₀.keeps (hid_of hPT₀ hk)
  have hlx := hid_list hlx₀ hxP
  have hly := hid_list hly₀ hyP
  have hl := hid_list hl₀ hlP
  have hPT : (hid s.heap).get? PT = none := Heap.hide_self _ _
  have hLW := ls_whole hyl
  obtain ⟨bo, br, bu⟩ := line_bd px2 hyl px.bd hyb
  obtain ⟨over, hov⟩ : ∃ o, (xs.length : Int) * dot xs ys - xs.sum * ys.sum = o := ⟨_, rfl⟩
  obtain ⟨rest, hre⟩ : ∃ o, dot xs xs * ys.sum - xs.sum * dot xs ys = o := ⟨_, rfl⟩
  obtain ⟨under, hun⟩ : ∃ o, (xs.length : Int) * dot xs xs - xs.sum * xs.sum = o := ⟨_, rfl⟩
  unfold ov re und at *
  rw [hov, hre, hun] at hLW
  rw [hov] at bo
  rw [hre] at br
  rw [hun] at bu
  have bW := scale_bd (B := 168) bu hyb
  obtain ⟨cl, cs, cd⟩ := off_zero hLW
  have bA := off_bd (xs := xs) (fun v hv => by have := bW v hv; omega) px.bd bo br
  obtain ⟨acr, hacr⟩ : ∃ a, List.zipWith (fun a p => a - over * p - rest) (ys.map fun a => under * a) xs = a := ⟨_, rfl⟩
  rw [hacr] at cl cs cd bA
  clear X₀ T₀ M₀ hlx₀ hly₀ hl₀ hk hPT₀
  refine wpAny_call ?_
  refine enterC (h₀ := hid s.heap) hid_sub (Nat.le_of_eq (Heap.hide_size _ _)) X T (K := K w.params) (f := 219) (binds := [(Str.ofString "script", .ref l), (Str.ofString "x", .ref lx), (Str.ofString "y", .ref ly)]) (by k_is) (by k_is) (by dsimp only; omega) (BindsTo.of_eq rfl) rfl (by decide +kernel) rfl rfl rfl ?_
  intro L h₁ tk cells hL F hk₁ N Y
  have hPh := hk₁ _ _ hP
  k_cells Y
  rename News _ _ _ _ => N0
  have hPL : PT ≠ L := by
    have := Heap.lt_size hP
    rw [hL] at this
    exact Nat.ne_of_lt this
  have hPlt : @LT.lt Nat _ PT L := by
    have := Heap.lt_size hP
    rw [hL] at this
    exact this
  have N := news_snoc N0 hPh hPL hPT
  clear N0 hPh
  dsimp only
  try k_fold
  w_on
  k_steps
  refine Halt.of ?_
  rename Fr _ _ _ _ => Fa
  rename News _ _ _ _ => Na
  refine line_use Fa Na X T (stays_list Fa.keep hlx) hix (stays_list Fa.keep hly) hiy hyl px2 px.bd hyb (by walk_at "room d") (by walk_at "room u") fun ta ha tka t1 t2 t3 F1 N1 o1' => ?_
  rw [hov, hre, hun] at N1
  clear Fa Na
  have f1 : @Ne Nat ta (L + 1) := by walk_at "off_ne"
  have f2 : @Ne Nat ta (L + 1 + 1) := by walk_at "off_ne"
  have f3 : @Ne Nat ta (L + 1 + 1 + 1) := by walk_at "off_ne"
  k_steps
  refine Halt.of ?_
  refine LCg.Assign_ListComp_U (F₀ := by k_asm) (by rfl) (by with_unfolding_all rfl) (by with_unfolding_all rfl) (by decide) (by rfl) (by decide) (by rfl) (by rfl) (by rfl) ?_
  k_steps
  refine Halt.of ?_
  rename Fr _ _ _ _ => Fa
  rename News _ _ _ _ => Na
  have Nb := news_sub (l' := [(PT, tabO ps), (L + 1 + 1 + 1, _), (L + 1 + 1, _), (L + 1, _)]) Na (by kcf_all)
  clear Na
  refine LCg.CompSrc.base (by rfl) Fa Nb hly (by rw [PySem.sizeLine_eq]; simp; omega) ?_
  intro g'
  refine cr_rel (IsI (ys.map fun a => under * a)) ?_ ?_
  · intro i v I oI C oC D m₂ ys' h tk E' hi' hv hC hx F N off ne
    obtain ⟨a, ta', rfl, ha⟩ := hiy.at i v (by simpa using hv)
    have ba := hyb a (List.mem_of_getElem? ha)
    clear Fa Nb
    k_steps
    exact ⟨h, _, _, rfl, F, N, off, .inl hly, rfl, _, _, (by rw [List.getElem?_map, ha]; rfl), rfl⟩
  · intro ww hl' hG'
    have hiw : IntsAre ww (ys.map fun a => under * a) := ints_of (by rw [hl', List.length_map]; simpa using hYL) hG'
    unfold LCg.FinA
    intro D h tk F' N' o2'
    clear Fa Nb hG'
    k_steps
    refine Halt.of ?_
    rename Fr _ _ _ _ => Fa
    rename News _ _ _ _ => Na
    have Nb := news_sub (l' := [(PT, tabO ps), (D, LCg.lst ww), (L + 1 + 1, _), (L + 1, _)]) Na (by kcf_all)
    refine lrl_use (s₀ := s) Fa Nb (by walk_at "off_all") hPT X T M ⟨hG, rfl, rfl⟩ hps (stays_list Fa.keep hlx) hix ⟨_, (Nb _ (.tail _ (.head _))).1, rfl, _, rfl⟩ hiw hxP (by walk_at "off_ne") px hLW (fun v hv => by have := bW v hv; omega) (by omega) (by omega) (by walk_at "room d") (by walk_at "room u") fun r dx s' ps2 p q tp tq F3 N3 o3' o4' o5' hps2 G3 q1 q2 => ?_
    obtain ⟨H2, G2, D2, K2, O2⟩ := s'
    dsimp only at F3 N3
    clear Fa Na Nb hps
    k_steps
    refine Halt.of ?_
    rename Fr _ _ _ _ => Fa
    rename News _ _ _ _ => Na
    refine told_ne (by walk_at "room u") (X.keeps Fa.keep) (Na (r, inst dx (.float p tp) (.float q tq)) (by walk_at "off_mem")).1 (Na _ List.mem_cons_self).1 q1 q2 ?_
    k_steps
    refine Halt.of ?_
    walk_at "my_assign"
    k_steps
    refine Halt.of ?_
    rename Fr _ _ _ _ => Fa
    rename News _ _ _ _ => Na
    have Nb := news_sub (l' := [(PT, tabO ps2), (D, LCg.lst ww), (L + 1 + 1, _), (L + 1, _)]) Na (by kcf_all)
    clear Na
    refine zip_call (IsI (List.zipWith (fun a p => a - over * p - rest) (ys.map fun a => under * a) xs)) (by rfl) Fa Nb ⟨_, (Nb _ (.tail _ (.head _))).1, rfl, _, rfl⟩ (stays_list Fa.keep hlx) (by rw [hiw.length, hXL, hLW.len]) (by rw [PySem.sizeLine_eq, hiw.length, hLW.len]; omega) ?_ ?_
    · intro i v₁ v₂ C oC m₂ h tk E' hi' e1 e2 hC hca hcb F' N'
      obtain ⟨k1, t4, rfl, hk1⟩ := IntsAre.at hiw i v₁ e1
      obtain ⟨k2, t5, rfl, hk2⟩ := IntsAre.at hix i v₂ e2
      have ba := px.bd k2 (List.mem_of_getElem? hk2)
      clear Fa Nb
      k_steps
      exact isI_zip (f := fun a p => a - over * p - rest) hk1 hk2
    · intro g ww2 hys hG'
      have hia : IntsAre ww2 acr := hacr ▸ ints_of (by rw [hys, hiw.length, hacr, cl, hLW.len]) hG'
      unfold FinZA
      intro D3 c3 h tk F' N' o6'
      clear Fa Nb hG'
      k_steps
      · exact absurd cs (by assumption)
      refine Halt.of ?_
      rename Fr _ _ _ _ => Fa
      rename News _ _ _ _ => Na
      have Nb := news_sub (l' := [(PT, tabO ps2), (D3, W.listOf ww2.toArray c3)]) Na (by kcf_all)
      clear Na
      refine zip_call (IsI (List.zipWith (fun a r => a * r) acr xs)) (by rfl) Fa Nb ⟨_, (Nb _ (.tail _ (.head _))).1, rfl, _, rfl⟩ (stays_list Fa.keep hlx) (by rw [hia.length, hXL, cl]) (by rw [PySem.sizeLine_eq, hia.length, cl]; omega) ?_ ?_
      · intro i v₁ v₂ C oC m₂ h tk E' hi' e1 e2 hC hca hcb F' N'
        obtain ⟨k1, t4, rfl, hk1⟩ := IntsAre.at hia i v₁ e1
        obtain ⟨k2, t5, rfl, hk2⟩ := IntsAre.at hix i v₂ e2
        have ba := bA k1 (List.mem_of_getElem? hk1)
        clear Fa Nb
        k_steps
        exact isI_zip (f := fun a r => a * r) hk1 hk2
      · intro g ww3 hys3 hG3
        have hi3 : IntsAre ww3 (List.zipWith (fun a r => a * r) acr xs) := ints_of (by rw [hys3, hia.length, List.length_zipWith, cl]; omega) hG3
        unfold FinZ
        intro D4 c4 h tk F' N' o7'
        clear Fa Nb hG3
        have cd' : (List.zipWith (fun a r => a * r) acr xs).sum = 0 := (sum_zip acr xs).trans cd
        have k0 := cellv_lo (ns := ns) (a := 34) (b := 23) (by decide)
        have k1 := cellv_hi (ns := ns) (a := 34) (b := 23) (by decide)
        have s0 := cellv_lo (ns := ns) (a := 35) (b := 101) (by decide)
        have s1 := cellv_hi (ns := ns) (a := 35) (b := 101) (by decide)
        k_steps
        · exact absurd cd' (by assumption)
        refine Halt.of ?_
        rename Fr _ _ _ _ => Fa
        rename News _ _ _ _ => Na
        have Nb := news_sub (l' := [(PT, tabO ps2), (D3, W.listOf ww2.toArray c3)]) Na (by kcf_all)
        clear Na
        refine on_use (rs := acr) Fa Nb X T (stays_list Fa.keep hlx) hix ⟨_, (Nb _ (.tail _ (.head _))).1, rfl, _, rfl⟩ hia cl px2 (by omega) (by omega) (by walk_at "room d") (by walk_at "room u") fun lb ub zs cb hb tkb F2 N2 o8' hib hzs => ?_
        clear Fa Nb
        k_steps
        refine Halt.of ?_
        rename Fr _ _ _ _ => Fa
        rename News _ _ _ _ => Na
        have hLS : LS xs zs (cellv ns 34 23) (cellv ns 35 101) := hzs ▸ ls_row cl cs cd
        have bz : ∀ v ∈ zs, -4294967296 ≤ v ∧ v ≤ 4294967296 := by
          rw [hzs]
          exact row_bd (B := 1820786688) (by omega) (by omega) (by omega) (by omega) (by omega) px.bd bA
        have Nb := news_sub (l' := [(PT, tabO ps2), (lb, W.listOf ub.toArray cb)]) Na (by kcf_all)
        refine lrl_use (s₀ := s) Fa Nb (by walk_at "off_all") hPT X T M ⟨G3.1, G3.2⟩ hps2 (stays_list Fa.keep hlx) hix ⟨_, (Nb _ (.tail _ (.head _))).1, rfl, _, rfl⟩ hib hxP (by walk_at "off_ne") px hLS bz (by omega) (by omega) (by walk_at "room d") (by walk_at "room u") fun r2 dx2 s2' ps3 pp qq tp2 tq2 F4 N4 oa' ob' oc' hps3 G4 q3 q4 => ?_
        obtain ⟨H3, G5, D5, K3, O3⟩ := s2'
        dsimp only at F4 N4
        clear Fa Na Nb G3 hps2
        k_steps
        refine Halt.of ?_
        rename Fr _ _ _ _ => Fa
        rename News _ _ _ _ => Na
        refine told_eq (by walk_at "room u") (X.keeps Fa.keep) (Na (r2, inst dx2 (.float pp tp2) (.float qq tq2)) (by walk_at "off_mem")).1 (Na _ List.mem_cons_self).1 q3 q4 ?_
        k_steps
        exact hret _ ps3 (fun b o hb e => Fa.keep b o (by rw [Heap.hide_ne _ hb]; exact e)) (Na (PT, tabO ps3) (by walk_at "off_mem")).1 hps3 G4.1 G4.2.1 G4.2.2
end
set_option Elab.async false
theorem dot_set2 {v : Int} {xs fs : List Int} {j : Nat} (h : j < fs.length) (hl : fs.length = xs.length) : dot xs (fs.set j v) = dot xs fs + xs.getD j 0 * (v - fs.getD j 0) := by
  rw [dot_comm xs (fs.set j v), dot_set h hl, dot_comm fs xs, Int.mul_sub, Int.mul_comm v, Int.mul_comm (fs.getD j 0)]
  omega
theorem cov_eq {xs R : List Int} {xb yb : Int} (hl : R.length = xs.length) (hx : xs.sum = xb * (xs.length : Int)) (hy : R.sum = yb * (xs.length : Int)) : dot (dev xs xb) (dev R yb) = dot xs R - xb * R.sum := by
  rw [dot_dev hl, hx, hy]
  generalize (xs.length : Int) = n
  grind
theorem made_row {xs ys : List Int} {xb wanted : Int} {a : Nat} (hl : ys.length = xs.length) (hx : xs.sum = xb * (xs.length : Int)) (ha : a < xs.length) {weight : Int} (hw : weight = (xs.length : Int) * xs.getD a 0 - xs.sum) {R : List Int}
    (hR : R = (ys.map fun v => weight * v).set a ((ys.map fun v => weight * v).getD a 0 + wanted * und xs - ov xs ys)) :
    R.length = xs.length ∧ ∃ yb, R.sum = yb * (xs.length : Int) ∧ dot (dev xs xb) (dev R yb) = weight * wanted * dot (dev xs xb) (dev xs xb) := by
  have l1 : (ys.map fun v => weight * v).length = xs.length := by rw [List.length_map]; exact hl
  have hlen : R.length = xs.length := by rw [hR, List.length_set]; exact l1
  have hs : R.sum = weight * ys.sum + (wanted * und xs - ov xs ys) := by
    rw [hR, sum_set (by rw [l1]; exact ha), sum_scale]; omega
  have hd : dot xs R = weight * dot xs ys + xs.getD a 0 * (wanted * und xs - ov xs ys) := by
    rw [hR, dot_set2 (by rw [l1]; exact ha) l1, dot_scale]
    congr 2
    omega
  refine ⟨hlen, (xs.getD a 0 - xb) * ys.sum + wanted * (dot xs xs - xb * xs.sum) - (dot xs ys - xb * ys.sum), ?_, ?_⟩
  · rw [hs, hw]
    unfold und ov
    rw [hx]
    generalize dot xs xs = q
    generalize dot xs ys = b
    generalize ys.sum = S
    generalize xs.getD a 0 = xa
    generalize (xs.length : Int) = n
    grind
  · rw [cov_eq hlen hx (by
      rw [hs, hw]
      unfold und ov
      rw [hx]
      generalize dot xs xs = q
      generalize dot xs ys = b
      generalize ys.sum = S
      generalize xs.getD a 0 = xa
      generalize (xs.length : Int) = n
      grind), cov_eq rfl hx hx, hs, hd, hw]
    unfold und ov
    rw [hx]
    generalize dot xs xs = q
    generalize dot xs ys = b
    generalize ys.sum = S
    generalize xs.getD a 0 = xa
    generalize (xs.length : Int) = n
    grind
theorem made_other {xs R : List Int} {xb yb m j c : Int} {a : Nat} (hl : R.length = xs.length) (hx : xs.sum = xb * (xs.length : Int)) (hy : R.sum = yb * (xs.length : Int)) (ha : a < xs.length) (hm : m = j * (xs.length : Int)) (hc : dot (dev xs xb) (dev R yb) = c) :
    (R.set a (R.getD a 0 + m)).length = xs.length ∧ (R.set a (R.getD a 0 + m)).sum = (yb + j) * (xs.length : Int) ∧ dot (dev xs xb) (dev (R.set a (R.getD a 0 + m)) (yb + j)) = c + j * ((xs.length : Int) * xs.getD a 0 - xs.sum) := by
  have hlen : (R.set a (R.getD a 0 + m)).length = xs.length := by rw [List.length_set]; exact hl
  have hs : (R.set a (R.getD a 0 + m)).sum = R.sum + m := by rw [sum_set (by rw [hl]; exact ha)]; omega
  have hs2 : (R.set a (R.getD a 0 + m)).sum = (yb + j) * (xs.length : Int) := by rw [hs, hy, hm, Int.add_mul]
  refine ⟨hlen, hs2, ?_⟩
  rw [cov_eq hlen hx hs2, ← hc, cov_eq hl hx hy, hs, dot_set2 (by rw [hl]; exact ha) hl, hm, hx, show R.getD a 0 + j * (xs.length : Int) - R.getD a 0 = j * (xs.length : Int) from by omega]
  generalize dot xs R = b
  generalize R.sum = S
  generalize xs.getD a 0 = xa
  generalize (xs.length : Int) = n
  grind
theorem set_bd {R : List Int} {B v : Int} {a : Nat} (h : ∀ u ∈ R, -B ≤ u ∧ u ≤ B) (hv : -B ≤ v ∧ v ≤ B) : ∀ u ∈ R.set a v, -B ≤ u ∧ u ≤ B := bd_set h hv
theorem set_split {R : List Int} {a : Nat} {v : Int} (h : a < R.length) : R.set a v = R.take a ++ [v] ++ R.drop (a + 1) := by
  rw [List.set_eq_take_append_cons_drop, if_pos h, List.append_assoc, List.singleton_append]
theorem off_ne_k {k D w j : Int} (hw : w ≠ 0) (hj : j = 1 ∨ j = -1) : k * D + j * w ≠ k * D := fun h => by
  rcases hj with rfl | rfl <;> omega
/-- the places that part from the mean -/
def sel (xs : List Int) (l : List Int) (k : Int) : List Int := if (xs.length : Int) * xs.getD k.toNat 0 = xs.sum then l else l ++ [k]
theorem sel_no {xs l : List Int} {k : Int} (h : (xs.length : Int) * xs.getD k.toNat 0 = xs.sum) : sel xs l k = l := if_pos h
theorem sel_el {xs l : List Int} {k : Int} (h : ¬ (xs.length : Int) * xs.getD k.toNat 0 = xs.sum) : sel xs l k = l ++ [k] := if_neg h
theorem sel_grows (xs : List Int) : KPfGrows (sel xs) := by
  intro l k
  unfold sel
  split <;> simp
theorem sel_mem {xs : List Int} : ∀ {ks l : List Int} {v : Int}, v ∈ ks.foldl (sel xs) l → v ∈ l ∨ (v ∈ ks ∧ (xs.length : Int) * xs.getD v.toNat 0 ≠ xs.sum)
  | [], _, _, h => .inl h
  | k :: r, l, v, h => by
    rw [List.foldl_cons] at h
    rcases sel_mem h with h | h
    · unfold sel at h
      split at h
      · exact .inl h
      · rename_i hk
        rcases List.mem_append.mp h with h | h
        · exact .inl h
        · have := List.mem_singleton.mp h
          subst this
          exact .inr ⟨List.mem_cons_self, hk⟩
    · exact .inr ⟨List.mem_cons_of_mem _ h.1, h.2⟩
theorem sel_keeps {xs : List Int} : ∀ {ks l : List Int} {v : Int}, v ∈ l → v ∈ ks.foldl (sel xs) l
  | [], _, _, h => h
  | k :: r, l, v, h => by
    rw [List.foldl_cons]
    refine sel_keeps ?_
    unfold sel
    split
    · exact h
    · exact List.mem_append_left _ h
theorem sel_has {xs : List Int} : ∀ {ks l : List Int} {v : Int}, v ∈ ks → (xs.length : Int) * xs.getD v.toNat 0 ≠ xs.sum → v ∈ ks.foldl (sel xs) l
  | k :: r, l, v, h, hv => by
    rw [List.foldl_cons]
    rcases List.mem_cons.mp h with rfl | h
    · refine sel_keeps ?_
      rw [sel_el hv]
      exact List.mem_append_right _ (List.mem_singleton.mpr rfl)
    · exact sel_has h hv
theorem sel_first {xs : List Int} (px : PX xs) : 0 < ((rangeKs 0 xs.length).foldl (sel xs) []).length ∧
    (0 ≤ ((rangeKs 0 xs.length).foldl (sel xs) []).getD 0 0 ∧ ((rangeKs 0 xs.length).foldl (sel xs) []).getD 0 0 < xs.length ∧ (xs.length : Int) * xs.getD (((rangeKs 0 xs.length).foldl (sel xs) []).getD 0 0).toNat 0 ≠ xs.sum) := by
  have hex : ∃ k : Nat, k < xs.length ∧ (xs.length : Int) * xs.getD k 0 ≠ xs.sum := by
    refine Classical.byContradiction fun hc => ?_
    have all : ∀ u ∈ xs, (xs.length : Int) * u = xs.sum := fun u hu => by
      obtain ⟨k, hk, rfl⟩ := List.getElem_of_mem hu
      refine Classical.byContradiction fun h => hc ⟨k, hk, ?_⟩
      rw [List.getD_eq_getElem?_getD, List.getElem?_eq_getElem hk]
      exact h
    obtain ⟨u, hu, v, hv, ne⟩ := px.ne
    have h3 := px.lo
    exact ne (Int.eq_of_mul_eq_mul_left (a := (xs.length : Int)) (by omega) ((all u hu).trans (all v hv).symm))
  obtain ⟨k, hk, hne⟩ := hex
  have hm : (k : Int) ∈ rangeKs 0 xs.length := by
    unfold rangeKs
    exact List.mem_map.mpr ⟨k, List.mem_range.mpr hk, by omega⟩
  have hin := sel_has (xs := xs) (l := []) hm (by rw [Int.toNat_natCast]; exact hne)
  have hpos : 0 < ((rangeKs 0 xs.length).foldl (sel xs) []).length := List.length_pos_of_mem hin
  refine ⟨hpos, ?_⟩
  rcases sel_mem (getD_mem hpos) with h | ⟨h, h1⟩
  · cases h
  · have := mem_rangeKs h
    exact ⟨this.1, by omega, h1⟩
theorem dev_sq {xs : List Int} {xb : Int} (px : PX xs) (hb : -168 ≤ xb ∧ xb ≤ 168) : 0 < dot (dev xs xb) (dev xs xb) ∧ dot (dev xs xb) (dev xs xb) < 1000000 := by
  have h1 := px_dev (xb := xb) px
  have h2 : 0 ≤ dot (dev xs xb) (dev xs xb) := by
    have nn : ∀ l : List Int, 0 ≤ dot l l := by
      intro l
      induction l with
      | nil => exact Int.le_refl 0
      | cons a r ih =>
        have := sq_nn a
        show 0 ≤ a * a + dot r r
        omega
    exact nn _
  have h3 := take_dot_bd (xs := dev xs xb) (ys := dev xs xb) (A := 336) (B := 336) (by omega) (by omega) (by rw [dev_len]; exact px.hi) (dev_bd px.bd hb) (dev_bd px.bd hb) 8
  rw [List.take_of_length_le (by rw [dev_len]; exact px.hi)] at h3
  omega
section
open PySem.Float64
set_option Elab.async false
set_option exponentiation.threshold 3000
theorem dist_mul (T a b : Nat) : dist (T * a) (T * b) = T * dist a b := by
  unfold dist
  rw [← Nat.mul_sub, ← Nat.mul_sub, Nat.mul_add]
theorem dist_sym (a b : Nat) : dist a b = dist b a := by unfold dist; omega
/-- the float nearest to a quotient that is no whole number is no whole number -/
theorem near_not {S d N t P Z : Nat} (hP : P = 2 ^ 30 * Z) (hPp : 0 < P) (hZ : 0 < Z) (hZe : Z = 2 ^ 1044) (hd0 : 0 < d) (hd : d < 2 ^ 30) (hN : N < 2 ^ 22) (hV : V t = N * P) (hS : S ≠ d * N)
    (near : ∀ t', dist (S * P * P) (d * P * V t) ≤ dist (S * P * P) (d * P * V t')) : False := by
  have key : ∀ m, 0 < m → m < 2 ^ 53 → 2 ^ 30 * dist (d * N) S ≤ dist (d * m) (S * 2 ^ 30) := by
    intro m m0 m1
    obtain ⟨t', h', _⟩ := V_has m0 m1 1044 (by omega) (by omega)
    have h := near t'
    rw [dist_sym (S * P * P), dist_sym (S * P * P)] at h
    rw [hV, h', ← hZe] at h
    have e1 : d * P * (N * P) = P * Z * (2 ^ 30 * (d * N)) := by
      conv => lhs; rw [show d * P * (N * P) = d * N * P * P from by ac_rfl]
      conv => lhs; arg 2; rw [hP]
      ac_rfl
    have e2 : S * P * P = P * Z * (2 ^ 30 * S) := by
      conv => lhs; arg 2; rw [hP]
      ac_rfl
    have e3 : d * P * (m * Z) = P * Z * (d * m) := by ac_rfl
    rw [e1, e2, e3, dist_mul, dist_mul, dist_mul] at h
    have := Nat.le_of_mul_le_mul_left h (Nat.mul_pos hPp hZ)
    rw [Nat.mul_comm S]
    exact this
  have hlt : N * 2 ^ 30 + 1 < 2 ^ 53 := by omega
  rcases Nat.lt_or_gt_of_ne hS with h | h
  · have hN1 : 1 ≤ N := by
      rcases Nat.eq_zero_or_pos N with h0 | h0
      · rw [h0, Nat.mul_zero] at h; omega
      · exact h0
    have k := key (N * 2 ^ 30 - 1) (by omega) (by omega)
    rw [Nat.mul_sub, ← Nat.mul_assoc, Nat.mul_one] at k
    have hde : d ≤ d * N := Nat.le_mul_of_pos_right d hN1
    generalize d * N = e at *
    unfold dist at k
    omega
  · have k := key (N * 2 ^ 30 + 1) (by omega) hlt
    rw [Nat.mul_add, ← Nat.mul_assoc, Nat.mul_one] at k
    generalize d * N = e at *
    unfold dist at k
    omega
theorem FI.div_ne {x y : UInt64} {s d k : Int} (hx : FI x s) (hy : FI y d) (hd0 : 0 < d) (hd : d < 2 ^ 30) (hk : k.natAbs < 2 ^ 22) (hs : s.natAbs < 2 ^ 53) (hne : s ≠ k * d) : Float64.cmpInt (Float64.div x y) k ≠ some .eq := by
  have hd2 : d.natAbs < 2 ^ 30 := by omega
  have hdn : 0 < d.natAbs := by omega
  have hy' := hy
  obtain ⟨⟨a, m, e, dx⟩, vx⟩ := hx
  obtain ⟨⟨b, q, f, dy⟩, vy⟩ := hy
  have hq := FI.nonzero hy' (Int.ne_of_gt hd0) dy
  have R := div_right dx dy hq
  have sx := sgn_val dx
  have sy := sgn_val dy
  rw [vx, natAbs_K] at sx R
  rw [vy, natAbs_K] at sy R
  rw [sgn_mul] at sx sy
  rw [hK] at sx sy
  have e1 := Int.eq_of_mul_eq_mul_right (Int.ne_of_gt K_pos) sx
  have e2 := Int.eq_of_mul_eq_mul_right (Int.ne_of_gt K_pos) sy
  obtain ⟨t, hr, hle, hov, hnear⟩ := R
  have hlt : t < infMag := by
    refine Nat.lt_of_le_of_ne hle fun e => ?_
    have h1 := hov.mp e
    have h2 : d.natAbs * 2 ^ 1074 * ((2 ^ 54 - 1) * 2 ^ 2045) ≤ d.natAbs * 2 ^ 1074 * (2 * s.natAbs * 2 ^ 1074) := by
      refine Nat.le_trans h1 ?_
      rw [show 2 * (s.natAbs * 2 ^ 1074 * 2 ^ 1074) = 1 * 2 ^ 1074 * (2 * s.natAbs * 2 ^ 1074) from by generalize (2 : Nat) ^ 1074 = P; rw [Nat.one_mul]; ac_rfl]
      exact Nat.mul_le_mul_right _ (Nat.mul_le_mul_right _ hdn)
    have h3 := Nat.le_of_mul_le_mul_left h2 (Nat.mul_pos hdn (Nat.two_pow_pos _))
    have h4 : 2 * s.natAbs * 2 ^ 1074 < 2 ^ 54 * 2 ^ 1074 := Nat.mul_lt_mul_of_pos_right (by omega) (Nat.two_pow_pos _)
    have h5 : (2 : Nat) ^ 54 * 2 ^ 1074 = 2 ^ 1128 := by rw [← Nat.pow_add]
    have h6 : (2 : Nat) ^ 2045 ≤ (2 ^ 54 - 1) * 2 ^ 2045 := Nat.le_mul_of_pos_left _ (by decide)
    have h7 : (2 : Nat) ^ 1128 ≤ 2 ^ 2045 := Nat.pow_le_pow_right (by decide) (by decide)
    exact Nat.lt_irrefl _ (Nat.lt_of_le_of_lt (Nat.le_trans h7 (Nat.le_trans h6 h3)) (h5 ▸ h4))
  obtain ⟨m', e', hdc, _⟩ := decode_pack (a != b) hlt
  rw [hr, cmpInt_right hdc, val_pack _ hlt]
  intro hc
  have hv : sgn (a != b) (V t) = k * 2 ^ 1074 := by
    have hc' := Option.some.inj hc
    simp only [compare, compareOfLessAndEq] at hc'
    split at hc'
    · cases hc'
    · split at hc'
      · assumption
      · cases hc'
  have hVt : V t = k.natAbs * 2 ^ 1074 := by
    have := congrArg Int.natAbs hv
    rw [natAbs_K] at this
    rw [← this]
    unfold sgn
    cases (a != b) <;> simp
  have hS : s.natAbs ≠ d.natAbs * k.natAbs := by
    intro h
    have hsg : sgn (a != b) k.natAbs = k := by
      rw [hVt, sgn_mul, hK] at hv
      exact Int.eq_of_mul_eq_mul_right (Int.ne_of_gt K_pos) hv
    have e3 : sgn ((a != b) != b) (k.natAbs * d.natAbs) = sgn (a != b) k.natAbs * sgn b d.natAbs := sgn_mul2
    rw [show ((a != b) != b) = a from by cases a <;> cases b <;> rfl, Nat.mul_comm, ← h, ← e1, ← e2, hsg] at e3
    exact hne e3
  refine near_not (P := 2 ^ 1074) (Z := 2 ^ 1044) (by rw [← Nat.pow_add]) (Nat.two_pow_pos _) (Nat.two_pow_pos _) rfl hdn hd2 hk hVt hS fun t' => (hnear hlt t').1
end
set_option Elab.async false
set_option linter.unusedSimpArgs false
set_option linter.unusedVariables false
set_option maxRecDepth 100000
set_option maxHeartbeats 16000000
local macro_rules | `(tactic| walk_at "part MDd") => `(tactic| skip)
section
local macro_rules | `(tactic| walk_at $k:str) => match [("call ref", "own 1 or halt"), ("compareOp Eq ref ref", "halt"), ("compareOp NotEq ref ref", "halt"), ("CompSrc", "halt"), ("exec Assign cons ListComp", "halt"), ("binaryOp Mult int int", "own 2"), ("subscriptTail Name Name ref int", "own 3"), ("setItem ref int", "own 4"), ("eval ListComp", "own 6"), ("CompEnd", "halt"), ("subscriptTail ListComp", "halt"), ("CompSrcT", "halt"), ("exec For Name List cons nil", "halt"), ("pyIter ref", "halt"), ("subscriptTail Name Slice ref ref", "halt"), ("binaryOp Add ref ref", "halt"), ("compareOp Eq float int", "halt"), ("compareOp NotEq float int", "halt")].lookup k.getString with
  | some n => `(tactic| walk_at $(Lean.Syntax.mkStrLit n))
  | none => Lean.Macro.throwUnsupported
def JMade (D LL L : Addr) (w1 : List Value) (nw : Nat) (lo c4 c1 : Obj) (wanted at0 : Int) (t tf : Tok) (_ : Nat) (m : Str → Option Value) (news : List (Addr × Obj)) : Prop :=
  (∃ u : Str → Option Value, m = fun z => if z = Str.ofString "row" then some (.ref D) else if z = Str.ofString "wanted" then some (.int wanted t) else if z = Str.ofString "at" then some (.int at0 tf) else u z) ∧
    ∃ ps', news = [(PT, tabO ps'), (D, W.listOf w1.toArray nw), (LL, lo), (L + 1 + 1 + 1 + 1, c4), (L + 1, c1)] ∧ TabP ⟨115, 12, 115, 35⟩ ps'
set_option rowWalk.seconds 0 in
theorem made_ok {w : World} {mg mb mm : Str → Option Value} {bm : Addr} {ob : Obj} {dp un : Nat} {fr : Option (List Env)} {gd : Option (List Code)} {E Q : Value → Shared → Prop} {s : Shared} {h₀ : Heap} {l lx ly : Addr} {vs us ws : List Value} {ns xs ys : List Int} {ps : Array Value}
    (hk : Ext h₀ s.heap) (hPT₀ : h₀.get? PT = none) (X₀ : (K w.params).In h₀) (T₀ : TR mg mb h₀) (M₀ : BMod h₀ mainGlobals mm bm ob) (hG : AllBare s.gens) (hP : s.heap.get? PT = some (tabO ps)) (hps : TabP ⟨115, 12, 115, 35⟩ ps)
    (hl₀ : s.heap.IsList l vs.toArray) (hi : IntsAre vs ns) (hlay : (PyData.list (ns.map PyData.int)).layable0 = true) (hlP : l ≠ PT)
    (hlx₀ : s.heap.IsList lx us.toArray) (hix : IntsAre us xs) (hxP : lx ≠ PT) (px : PX xs) (hly₀ : s.heap.IsList ly ws.toArray) (hiy : IntsAre ws ys) (hyP : ly ≠ PT) (hyl : ys.length = xs.length) (hyb : ∀ v ∈ ys, -168 ≤ v ∧ v ≤ 168) (hd : dp + 30 < recursionLimit) (hu : un + 400 < cLine)
    (hret : ∀ s' ps', (∀ b o, b ≠ PT → s.heap.get? b = some o → s'.heap.get? b = some o) → s'.heap.get? PT = some (tabO ps') → TabP ⟨115, 12, 115, 35⟩ ps' → AllBare s'.gens → s'.os = s.os → s'.drawn = s.drawn → Q (.bool true) s') :
    wpAny (model PG w) (AR dp fr gd un) (call (.ref 224) [.ref l, .ref lx, .ref ly]) Q E s := by
  have hLK := len_ints_list hlay
  have px1 := px.lo
  have px2 := px.hi
  have hXL : us.length = xs.length := hix.length
  have hYL : ws.length = ys.length := hiy.length
  have X : (K w.params).In (hid s.heap) := X₀.keeps (hid_of hPT₀ hk)
  have T : TR mg mb (hid s.heap) := T₀.keeps (hid_of hPT₀ hk)
  have M : BMod (hid s.heap) mainGlobals mm bm ob := M₀.keeps (hid_of hPT₀ hk)
  have hlx := hid_list hlx₀ hxP
  have hly := hid_list hly₀ hyP
  have hl := hid_list hl₀ hlP
  have hPT : (hid s.heap).get? PT = none := Heap.hide_self _ _
  obtain ⟨bo, br, bu⟩ := line_bd px2 hyl px.bd hyb
  obtain ⟨xb, hsx⟩ := px_sum px
  have bxb := mean_bd (xs := xs) (by omega) px.bd hsx
  have hne := px_dev (xb := xb) px
  have bsx := (sums_bd px2 rfl px.bd px.bd).1
  clear X₀ T₀ M₀ hlx₀ hly₀ hl₀ hk hPT₀
  refine wpAny_call ?_
  refine enterC (h₀ := hid s.heap) hid_sub (Nat.le_of_eq (Heap.hide_size _ _)) X T (K := K w.params) (f := 224) (binds := [(Str.ofString "script", .ref l), (Str.ofString "x", .ref lx), (Str.ofString "y", .ref ly)]) (by k_is) (by k_is) (by dsimp only; omega) (BindsTo.of_eq rfl) rfl (by decide +kernel) rfl rfl rfl ?_
  intro L h₁ tk cells hL F hk₁ N Y
  have hPh := hk₁ _ _ hP
  k_cells Y
  rename News _ _ _ _ => N0
  have hPL : PT ≠ L := by
    have := Heap.lt_size hP
    rw [hL] at this
    exact Nat.ne_of_lt this
  have hPlt : @LT.lt Nat _ PT L := by
    have := Heap.lt_size hP
    rw [hL] at this
    exact this
  have N := news_snoc N0 hPh hPL hPT
  clear N0 hPh
  dsimp only
  try k_fold
  w_on
  k_steps
  refine Halt.of ?_
  rename Fr _ _ _ _ => Fa
  rename News _ _ _ _ => Na
  have Nb := news_sub (l' := [(PT, tabO ps), (L + 1 + 1 + 1 + 1, _), (L + 1 + 1 + 1, _), (L + 1 + 1, _), (L + 1, _)]) Na (by kcf_all)
  clear Na
  k_dflt (refine LCt.CompSrcT.range (by rfl) Fa Nb (by assumption) (small_one (by omega) (by omega) (by omega) (by omega)) (rangeSize_nat _ _) (by rw [PySem.sizeLine_eq]; omega) ?_)
  intro g9
  refine kci_range (sel xs) ?_ ?_ ?_
  · intro k' t' I' oI' C' oC' D' m' ys' l' h' tk' E' hlo' hhi' hI' hC' hx' F' N' off' ne' mk'
    clear Fa Nb
    k_steps
    · refine Halt.of ?_
      exact LCg.CompEnd.intro (by assumption) (by assumption) _ (by kcf_all) off' trivial (kci_el (sel_el (by assumption)) rfl rfl)
    · refine Halt.of ?_
      exact LCg.CompEnd.intro (by assumption) (by assumption) _ (by kcf_all) off' trivial (kci_no (sel_no (by assumption)) rfl)
  · unfold KPfDone
    intro ya hys hle
    rw [sub0] at hys
    obtain ⟨hp0, hat⟩ := sel_first px
    clear Fa Nb
    k_steps
    refine Halt.of ?_
    k_dflt (refine' ksa_sub ?k1 ?k2 ?k3 ?k4 ?k5 ?k6 ?_ ?k7)
    case k1 => k_asm
    case k2 => k_mem
    case k3 => exact hys
    case k4 => decide
    case k5 => exact Int.ofNat_lt.mpr hp0
    case k6 => decide
    case k7 => with_unfolding_all rfl
    intro tf
    rw [show ((0 : Int).toNat) = 0 from rfl]
    generalize List.getD (List.foldl (sel xs) [] (rangeKs 0 xs.length)) 0 0 = at0 at hat ⊢
    obtain ⟨h0, h1, h2⟩ := hat
    have hlt := nat_lt h0 h1
    clear hys hle hp0
    have bxa := px.bd _ (getD_mem (fs := xs) (j := at0.toNat) hlt)
    have bnx := mul_bd (a := (xs.length : Int)) (A := 8) (by omega) bxa
    k_steps
    refine Halt.of ?_
    rename Fr _ _ _ _ => Fa
    rename News _ _ _ _ => Na
    generalize hw : (xs.length : Int) * xs.getD at0.toNat 0 - xs.sum = weight at *
    have bw : -2688 ≤ weight ∧ weight ≤ 2688 := by omega
    have Nb := news_sub (l' := [(PT, tabO ps), (L + 1 + 1 + 1 + 1, _), (L + 1 + 1 + 1, _), (L + 1 + 1, _), (L + 1, _)]) Na (by kcf_all)
    clear Na
    refine line_use Fa Nb X T (stays_list Fa.keep hlx) hix (stays_list Fa.keep hly) hiy hyl px2 px.bd hyb (by walk_at "room d") (by walk_at "room u") fun ta ha tka t1 t2 t3 F1 N1 o1' => ?_
    obtain ⟨over, hov⟩ : ∃ o, (xs.length : Int) * dot xs ys - xs.sum * ys.sum = o := ⟨_, rfl⟩
    obtain ⟨rest, hre⟩ : ∃ o, dot xs xs * ys.sum - xs.sum * dot xs ys = o := ⟨_, rfl⟩
    obtain ⟨under, hun⟩ : ∃ o, (xs.length : Int) * dot xs xs - xs.sum * xs.sum = o := ⟨_, rfl⟩
    unfold ov re und at *
    rw [hov, hre, hun] at N1
    rw [hov] at bo
    rw [hre] at br
    rw [hun] at bu
    clear Fa Nb
    k_steps
    refine Halt.of ?_
    refine LCg.Assign_ListComp_U (F₀ := by k_asm) (by rfl) (by with_unfolding_all rfl) (by with_unfolding_all rfl) (by decide) (by rfl) (by decide) (by rfl) (by rfl) (by rfl) ?_
    k_steps
    refine Halt.of ?_
    rename Fr _ _ _ _ => Fa
    rename News _ _ _ _ => Na
    have Nb := news_sub (l' := [(PT, tabO ps), (L + 1 + 1 + 1 + 1, _), (L + 1 + 1 + 1, _), (L + 1 + 1, _), (L + 1, _)]) Na (by kcf_all)
    clear Na
    refine LCg.CompSrc.base (by rfl) Fa Nb hly (by rw [PySem.sizeLine_eq]; simp; omega) ?_
    intro g'
    refine cr_rel (IsI (ys.map fun v => weight * v)) ?_ ?_
    · intro i v I oI C oC D m₂ ys' h tk E' hi' hv hC hx F N off ne
      obtain ⟨a, ta', rfl, ha⟩ := hiy.at i v (by simpa using hv)
      have ba := hyb a (List.mem_of_getElem? ha)
      clear Fa Nb
      k_steps
      exact ⟨h, _, _, rfl, F, N, off, .inl hly, rfl, _, _, (by rw [List.getElem?_map, ha]; rfl), rfl⟩
    · intro ww hl' hG'
      have hiw : IntsAre ww (ys.map fun v => weight * v) := ints_of (by rw [hl', List.length_map]; simpa using hYL) hG'
      have hwl : (ys.map fun v => weight * v).length = xs.length := by rw [List.length_map]; exact hyl
      unfold LCg.FinA
      intro D h tk F' N' o2'
      clear Fa Nb hG'
      have f1 : @Ne Nat PT D := by walk_at "off_ne"
      have f2 : @Ne Nat (L + 1) D := by walk_at "off_ne"
      have f3 : @Ne Nat (L + 1 + 1) D := by walk_at "off_ne"
      have f4 : @Ne Nat (L + 1 + 1 + 1) D := by walk_at "off_ne"
      have f5 : @Ne Nat (L + 1 + 1 + 1 + 1) D := by walk_at "off_ne"
      have wt0 := cellv_lo (ns := ns) (a := 36) (b := 9) (by decide)
      have wt1 := cellv_hi (ns := ns) (a := 36) (b := 9) (by decide)
      k_steps
      refine Halt.of ?_
      rename Fr _ _ _ _ => Fa
      rename News _ _ _ _ => Na
      rename IntsAre _ _ => hi9
      generalize cellv ns 36 9 = wanted at *
      obtain ⟨R, hR⟩ : ∃ R, R = (ys.map fun v => weight * v).set at0.toNat ((ys.map fun v => weight * v).getD at0.toNat 0 + wanted * under - over) := ⟨_, rfl⟩
      rw [← hR] at hi9
      obtain ⟨hRl, yb, hRs, hRc⟩ := made_row (a := at0.toNat) (weight := weight) (wanted := wanted) (R := R) hyl hsx hlt hw.symm (by rw [hR]; unfold und ov; rw [hun, hov])
      have bR : ∀ v ∈ R, -20000000 ≤ v ∧ v ≤ 20000000 := by
        rw [hR]
        have b1 := scale_bd (k := weight) (A := 2688) (B := 168) bw hyb
        have b2 := b1 _ (getD_mem (fs := ys.map fun v => weight * v) (j := at0.toNat) (hwl ▸ hlt))
        have b3 := mul_bd (a := wanted) (A := 4) (by omega) bu
        exact set_bd (fun v hv => by have := b1 v hv; omega) (by omega)
      have bD : 0 < dot (dev xs xb) (dev xs xb) ∧ dot (dev xs xb) (dev xs xb) < 1000000 := dev_sq px bxb
      generalize hDD : dot (dev xs xb) (dev xs xb) = DD at *
      have bk := mul_bd (a := weight) (A := 2688) (b := wanted) (B := 4) bw (by omega)
      obtain ⟨w1, nw, c4, tc4, c2, tc2, c1, hi1, dc4, dc2, dc1, Nb⟩ : ∃ (w1 : List Value) (nw : Nat) (c4 : Obj) (tc4 : Tok) (c2 : Obj) (tc2 : Tok) (c1 : Obj), IntsAre w1 R ∧ c4.data = .cell (some (.int weight tc4)) ∧ c2.data = .cell (some (.int (xs.length : Int) tc2)) ∧ c1.data = .cell (some (.ref lx)) ∧ News (hid s.heap) L _ [(PT, tabO ps), (D, W.listOf w1.toArray nw), (L + 1 + 1 + 1 + 1, c4), (L + 1 + 1, c2), (L + 1, c1)] := ⟨_, ww.length, _, _, _, _, _, hi9, by assumption, by assumption, by assumption, news_sub Na (by kcf_all)⟩
      clear hi9 Na hiw hwl hR f1 f2 f3 f4 f5
      refine lr_use Fa Nb (by walk_at "off_all") hPT X T M hG hps (stays_list Fa.keep hlx) hix ⟨_, (Nb _ (.tail _ (.head _))).1, rfl, _, rfl⟩ hi1 hxP (by walk_at "off_ne") hRl px1 px2 px.bd (fun v hv => by have := bR v hv; omega) hsx hRs (by rw [hDD]; exact hne) (by walk_at "room d") (by walk_at "room u") fun r dx s' vx fa fb fx fy tp tq F3 N3 o3' o4' o5' G3 os3 dr3 q1 q2 q3 q4 => ?_
      rw [hRc] at q1
      rw [hDD] at q2
      have p1 := FI.div q1 q2 hne (natAbs_53 bk (by decide))
      have G4 : Calm s s' := ⟨G3, os3, dr3⟩
      obtain ⟨H2, G2, D2, K2, O2⟩ := s'
      dsimp only at F3 N3
      clear Fa Nb q1 q2 q3 q4 G3 os3 dr3 hps
      have hps2 : TabP ⟨115, 12, 115, 35⟩ #[rawInt 115, rawInt 12, vx] := .inr ⟨vx, rfl⟩
      k_steps
      rename Fr _ _ _ _ => Fa
      rename News _ _ _ _ => Na
      refine get_slope (X.keeps Fa.keep) (T.keeps Fa.keep) (by walk_at "room d") (by walk_at "room u") (Na (r, inst dx (.float (Float64.div fa fb) tp) _) (by walk_at "off_mem")).1 (Na (dx, emptyD) (by walk_at "off_mem")).1 (by rfl) fun hg tkg kg => ?_
      have F1 := fr_ext Fa kg
      have N1 := news_ext Na kg
      clear Fa Na
      k_steps
      refine Halt.of ?_
      refine ne_exact p1 ?_
      k_steps
      refine Halt.of ?_
      refine wpAny_For ?_ (by intro _; rfl)
      k_steps
      rename_i LL hLL Fa Na lLL
      refine Halt.of ?_
      have Nb := news_sub (l' := [(PT, tabO #[rawInt 115, rawInt 12, vx]), (D, W.listOf w1.toArray nw), (LL, _), (L + 1 + 1 + 1 + 1, c4), (L + 1, c1)]) Na (by kcf_all)
      refine listC (s₀ := s) (vs := [.int (xs.length : Int) tc2, .int (-(xs.length : Int)) tk]) (JMade D LL L w1 nw (W.listOf [.int (xs.length : Int) tc2, .int (-(xs.length : Int)) tk].toArray 0) c4 c1 wanted at0 t tf) (by rfl) Fa Nb (.tail _ (.tail _ (.head _))) rfl rfl (by rfl) (by rfl) ⟨G4.1, G4.2⟩ ?start ?fix ?turn ?done
      case start => exact ⟨keep3 rfl rfl rfl, _, rfl, hps2⟩
      case fix =>
        rintro i m news ⟨_, ps', rfl, _⟩
        exact .tail _ (.tail _ (.head _))
      case turn =>
        clear Fa Na Nb G4 hps2 p1
        rintro i I it m news v s₁ hi2 hv ⟨⟨u, rfl⟩, ps', rfl, hps'⟩ hoff ⟨hG', hos, hdr⟩ F9 N9
        obtain ⟨mo, tv, j, hj, hm, rfl⟩ : ∃ mo tv j, (j = 1 ∨ j = -1) ∧ mo = j * (xs.length : Int) ∧ v = .int mo tv := by
          match i, hv with
          | 0, hv => cases hv; exact ⟨_, _, 1, .inl rfl, (Int.one_mul _).symm, rfl⟩
          | 1, hv => cases hv; exact ⟨_, _, -1, .inr rfl, (Int.neg_one_mul _).symm ▸ rfl, rfl⟩
        have hoff' := off1_of_all hoff
        obtain ⟨H1, G1, D1, K1, O1⟩ := s₁
        dsimp only at hG' hos hdr F9 N9
        clear hoff hG hv
        have hwl := hi1.length
        k_steps
        refine Halt.of ?_
        rename Fr _ _ _ _ => Fa
        rename News _ _ _ _ => Na
        refine kmk_slice_ints Fa Na ⟨W.listOf w1.toArray nw, (Na (D, W.listOf w1.toArray nw) (by walk_at "off_mem")).1, rfl, _, rfl⟩ (by kmk_part) (by kmk_part) hi1 (kmk_upto hi1 h0) rfl ?_ (by with_unfolding_all rfl) (by kmk_pure) (by rw [PySem.sizeLine_eq]; simp; omega)
        intro Da wa ha F1 N1 la hIa _ _
        clear Fa Na
        k_steps
        rename_i lb hB Fb Nb lB
        refine Halt.of ?_
        refine kmk_add_ints Fb Nb ⟨W.listOf wa.toArray 0, (Nb (Da, W.listOf wa.toArray 0) (by walk_at "off_mem")).1, rfl, _, rfl⟩ ⟨_, (Nb _ (.head _)).1, rfl, _, rfl⟩ hIa (.cons (R.getD at0.toNat 0 + mo) _ .nil) ?_ (by rw [PySem.sizeLine_eq, List.length_take]; simp; omega)
        intro Dc wc hc F2 N2 lc hIc
        have N2' := news_sub (l' := [(Dc, W.listOf wc.toArray 0), (I, it), (PT, tabO ps'), (D, W.listOf w1.toArray nw), (LL, W.listOf [.int (xs.length : Int) tc2, .int (-(xs.length : Int)) tk].toArray 0), (L + 1 + 1 + 1 + 1, c4), (L + 1, c1)]) N2 (by kcf_all)
        clear Fb Nb lB N2 la lc hIa
        k_steps
        refine Halt.of ?_
        rename Fr _ _ _ _ => Fa
        rename News _ _ _ _ => Na
        refine kmk_slice_ints Fa Na ⟨W.listOf w1.toArray nw, (Na (D, W.listOf w1.toArray nw) (by walk_at "off_mem")).1, rfl, _, rfl⟩ (by kmk_part) (by kmk_part) hi1 (kmk_from hi1 (by omega)) rfl ?_ (by with_unfolding_all rfl) (by kmk_pure) (by rw [PySem.sizeLine_eq]; simp; omega)
        intro Dd wd hd' F1 N1 ld hId _ _
        clear Fa Na ld
        k_steps
        refine Halt.of ?_
        rename Fr _ _ _ _ => Fb
        rename News _ _ _ _ => Nb
        refine kmk_add_ints Fb Nb ⟨W.listOf wc.toArray 0, (Nb (Dc, W.listOf wc.toArray 0) (by walk_at "off_mem")).1, rfl, _, rfl⟩ ⟨_, (Nb _ (.head _)).1, rfl, _, rfl⟩ hIc hId ?_ (by rw [PySem.sizeLine_eq]; simp only [List.length_append, List.length_take, List.length_drop, List.length_cons, List.length_nil]; exact cat_sz (hRl ▸ px2))
        intro De we he F2 N2 le hIe
        have N2' := news_sub (l' := [(PT, tabO ps'), (De, W.listOf we.toArray 0), (I, it), (D, W.listOf w1.toArray nw), (LL, W.listOf [.int (xs.length : Int) tc2, .int (-(xs.length : Int)) tk].toArray 0), (L + 1 + 1 + 1 + 1, c4), (L + 1, c1)]) N2 (by kcf_all)
        have lPT : @LT.lt Nat _ PT De := le (PT, tabO ps') (by walk_at "off_mem")
        rw [Int.toNat_add h0 (by decide), show (1 : Int).toNat = 1 from rfl, ← set_split (hRl ▸ hlt)] at hIe
        clear Fb Nb N2 le hIc hId
        obtain ⟨oL, oS, oC⟩ := made_other (xb := xb) (yb := yb) (m := mo) (j := j) (a := at0.toNat) hRl hsx hRs hlt hm hRc
        rw [hw] at oC
        k_steps
        refine Halt.of ?_
        rename Fr _ _ _ _ => Fa
        rename News _ _ _ _ => Na
        have bR' : ∀ v ∈ R.set at0.toNat (R.getD at0.toNat 0 + mo), -20000100 ≤ v ∧ v ≤ 20000100 := by
          have b2 := bR _ (getD_mem (fs := R) (j := at0.toNat) (hRl ▸ hlt))
          have b3 := mo_bd px2 hj hm
          exact set_bd (fun v hv => by have := bR v hv; omega) (by omega)
        refine lr_use Fa Na (by walk_at "off_all") hPT X T M hG' hps' (stays_list Fa.keep hlx) hix ⟨_, (Na _ (.tail _ (.head _))).1, rfl, _, rfl⟩ hIe hxP (by walk_at "off_ne") oL px1 px2 px.bd (fun v hv => by have := bR' v hv; omega) hsx oS (by rw [hDD]; exact hne) (by walk_at "room d") (by walk_at "room u") fun r dx s' vx fa fb fx fy tp tq F3 N3 o3' o4' o5' G3 os3 dr3 q1 q2 q3 q4 => ?_
        rw [oC] at q1
        rw [hDD] at q2
        have hjw := jw_bd bw hj
        have hkD := mul_bd (a := weight * wanted) (A := 10752) (b := DD) (B := 1000000) (by omega) (by omega)
        have p1 := FI.div_ne (k := weight * wanted) q1 q2 bD.1 (by omega) (by omega) (by omega) (off_ne_k (by omega) hj)
        have G4 : Calm s s' := ⟨G3, os3.trans hos, dr3.trans hdr⟩
        obtain ⟨H2, G2, D2, K2, O2⟩ := s'
        dsimp only at F3 N3
        clear Fa Na q1 q2 q3 q4 G3 os3 dr3 hps' oS oC oL
        have hps2 : TabP ⟨115, 12, 115, 35⟩ #[rawInt 115, rawInt 12, vx] := .inr ⟨vx, rfl⟩
        k_steps
        rename Fr _ _ _ _ => Fa
        rename News _ _ _ _ => Na
        refine get_slope (X.keeps Fa.keep) (T.keeps Fa.keep) (by walk_at "room d") (by walk_at "room u") (Na (r, inst dx (.float (Float64.div fa fb) tp) _) (by walk_at "off_mem")).1 (Na (dx, emptyD) (by walk_at "off_mem")).1 (by rfl) fun hg tkg kg => ?_
        have F1 := fr_ext Fa kg
        have N1 := news_ext Na kg
        clear Fa Na
        k_steps
        refine Halt.of ?_
        refine eq_not p1 ?_
        k_steps
        rename Fr _ _ _ _ => Fa
        rename News _ _ _ _ => Na
        exact CEnd.intro ⟨G4.1, G4.2⟩ Fa Na [(PT, tabO #[rawInt 115, rawInt 12, vx]), (D, W.listOf w1.toArray nw), (LL, W.listOf [.int (xs.length : Int) tc2, .int (-(xs.length : Int)) _].toArray 0), (L + 1 + 1 + 1 + 1, c4), (L + 1, c1)] (by kcf_all) (all_of_off1 (by walk_at "off_all")) ⟨keep3 rfl rfl rfl, _, rfl, hps2⟩
      case done =>
        rintro m news s' ⟨⟨u, rfl⟩, ps', rfl, hps'⟩ ⟨hG', hos, hdr⟩ F9 N9
        clear Fa Na Nb
        dsimp only
        k_steps
        show Q _ _
        exact hret _ ps' (fun b o hb e => F9.keep b o (by rw [Heap.hide_ne _ hb]; exact e)) (N9 (PT, tabO ps') (by walk_at "off_mem")).1 hps' hG' hos hdr
  · exact sel_grows xs
end
set_option Elab.async false
set_option linter.unusedSimpArgs false
set_option linter.unusedVariables false
set_option maxRecDepth 100000
set_option maxHeartbeats 16000000
local macro_rules | `(tactic| walk_at "part MLw") => `(tactic| skip)
section
local macro_rules | `(tactic| walk_at $k:str) => match [("call ref", "own 1 or halt"), ("binaryOp Mult int int", "own 2"), ("call builtin:list.append", "halt"), ("exec Assign cons ListComp", "halt"), ("CompSrc", "halt")].lookup k.getString with
  | some n => `(tactic| walk_at $(Lean.Syntax.mkStrLit n))
  | none => Lean.Macro.throwUnsupported
theorem kx_hid {P : Params} {h : Heap} (X : (K P).In h) : (K P).In (hid h) := fun a o e => by
  have ha : a ≠ PT := fun q => by rw [q] at e; cases e
  rw [Heap.hide_ne _ ha]; exact X a o e
theorem ns_hid {h : Heap} {a : Addr} {m : Str → Option Value} (N : h.Ns a m) (ha : a ≠ PT) : (hid h).Ns a m := N.at fun o e => by rw [Heap.hide_ne _ ha]; exact e
theorem lim_hid {h : Heap} (N : h.NoLimit) : (hid h).NoLimit := let ⟨mc, p, q⟩ := N; ⟨mc, ns_hid p (by decide), q⟩
theorem tr_hid {h : Heap} {mg mb : Str → Option Value} (T : TR mg mb h) : TR mg mb (hid h) :=
  ⟨ns_hid T.g (by decide), ns_hid T.b (by decide), lim_hid T.nolimit, T.builtins, T.free⟩
theorem bm_hid {h : Heap} {mm : Str → Option Value} {bm : Addr} {ob : Obj} (M : BMod h mainGlobals mm bm ob) (hP : h.get? PT = some (tabO #[])) : BMod (hid h) mainGlobals mm bm ob := by
  refine ⟨ns_hid M.ns (by decide), M.name, M.ne, ?_, M.cls, M.dict, M.data⟩
  have hb : bm ≠ PT := fun q => by
    have z := M.obj
    rw [q, hP] at z
    cases z
    have := M.cls
    cases this
  rw [Heap.hide_ne _ hb]; exact M.obj
theorem h_up {h₀ h h' : Heap} {L : Addr} {m : Str → Option Value} {news : List (Addr × Obj)} {ps ps' : Array Value} (F : Fr h₀ L h m) (N : News h₀ L h ((PT, tabO ps) :: news)) (off : LCg.Off1 PT news) (hPT₀ : h₀.get? PT = none)
    (keep : ∀ b o, b ≠ PT → h.get? b = some o → h'.get? b = some o) (tab : h'.get? PT = some (tabO ps')) : Fr h₀ L h' m ∧ News h₀ L h' ((PT, tabO ps') :: news) := by
  have hPL : PT ≠ L := (N _ (.head _)).2.1
  refine ⟨⟨F.ns.at fun o e => keep _ _ (Ne.symm hPL) e, fun b o e => keep _ _ (fun q => by rw [q, hPT₀] at e; cases e) (F.keep _ _ e), F.above⟩, fun p hp => ?_⟩
  rcases List.mem_cons.mp hp with rfl | hp
  · exact ⟨tab, hPL, hPT₀⟩
  · have z := N p (List.mem_cons_of_mem _ hp)
    exact ⟨keep _ _ (all_of_off1 off p hp) z.1, z.2⟩
theorem law_y {ns : List Int} {n : Nat} (h8 : n ≤ 8) : (List.map (fun k => (n : Int) * cellv ns (50 + k) 41) (rangeKs 0 n)).length = n ∧ ∀ v ∈ List.map (fun k => (n : Int) * cellv ns (50 + k) 41) (rangeKs 0 n), -168 ≤ v ∧ v ≤ 168 := by
  refine ⟨by rw [List.length_map, rangeKs_length], fun v hv => ?_⟩
  obtain ⟨k, _, rfl⟩ := List.mem_map.mp hv
  have h1 := cellv_lo (ns := ns) (a := 50 + k) (b := 41) (by decide)
  have h2 := cellv_hi (ns := ns) (a := 50 + k) (b := 41) (by decide)
  have := mulbd (n := (n : Int)) (c := cellv ns (50 + k) 41) (by omega) (by omega) (by omega) (by omega)
  omega
theorem ld_bi {M : Model} {A : Around} {E : Value → Shared → Prop} {s : Shared} {h₀ : Heap} {L C : Addr} {m mg mb : Str → Option Value} {Kf : Frag} {scope : Scope} {cl : List (Str × Addr)} {env : Env} {x : Str} {pos : Pos} {v : Value} {Q : Value → Shared → Prop} (F : Fr h₀ L s.heap m) (X : Kf.In h₀) (T : TR mg mb h₀) (e : nsIn Kf mainGlobals x = some none) (hv : bootBuiltins x = some v) (hn : x ≠ "__name__") (h : Q v s)
    (hg : env.globals = mainGlobals := by rfl) (hb : env.builtins = builtinsNs := by rfl) (hk : (compEnvC scope cl C env).scope.kind = .function := by rfl) (hx : (compEnvC scope cl C env).kindOf x = some .globalImplicit := by rfl) (hd : (x == ("__debug__" : Str)) = false := by decide) :
    wpAny M A (eval (.Name x pos) (compEnvC scope cl C env)) Q E s :=
  Name_function_global hk hx (loadGlobal_builtin (env := compEnvC scope cl C env) (show s.heap.Ns env.globals mg from hg ▸ T.g.keeps F.keep) (mg_none_of X T.g e) (show s.heap.Ns env.builtins mb from hb ▸ T.b.keeps F.keep) ((T.builtins x hn).trans hv) h) hd
theorem law_get {ns : List Int} {n i : Nat} (h : i < n) : (List.map (fun k => (n : Int) * cellv ns (50 + k) 41) (rangeKs 0 n))[i]? = some ((n : Int) * cellv ns (50 + (0 + (i : Int))) 41) := by
  unfold rangeKs
  rw [List.getElem?_map, List.getElem?_map, List.getElem?_range h]
  rfl
set_option rowWalk.seconds 0 in
theorem law_ok {w : World} {mg mb mm : Str → Option Value} {bm : Addr} {ob : Obj} {dp un : Nat} {fr : Option (List Env)} {gd : Option (List Code)} {R : Result → Shared → Prop} {s : Shared} {l : Addr} {vs : List Value} {ns : List Int}
    (X₀ : (K w.params).In s.heap) (T₀ : TR mg mb s.heap) (M₀ : BMod s.heap mainGlobals mm bm ob) (hG : AllBare s.gens) (hP : s.heap.get? PT = some (tabO #[]))
    (hl₀ : s.heap.IsList l vs.toArray) (hi : IntsAre vs ns) (hlay : (PyData.list (ns.map PyData.int)).layable0 = true) (hd : dp + 40 < recursionLimit) (hu : un + 500 < cLine)
    (hret : ∀ s' ps', (∀ b o, b ≠ PT → s.heap.get? b = some o → s'.heap.get? b = some o) → s'.heap.get? PT = some (tabO ps') → AllBare s'.gens → s'.os = s.os → R (.ok (.ret (.bool true))) s') :
    codeAny (model PG w) (AR dp fr gd un) (.call (.ref 236) ⟨[.ref l], []⟩) R s := by
  have hLK := len_ints_list hlay
  have hPT : (hid s.heap).get? PT = none := Heap.hide_self _ _
  have hlP : l ≠ PT := fun e => by
    obtain ⟨o, ho, hc, _⟩ := hl₀
    rw [e, hP] at ho
    cases ho
    cases hc
  have hide : ∀ {b : Addr} {o : Obj}, b ≠ PT → s.heap.get? b = some o → (hid s.heap).get? b = some o := fun hb e => by rw [Heap.hide_ne _ hb]; exact e
  have X : (K w.params).In (hid s.heap) := kx_hid X₀
  have T : TR mg mb (hid s.heap) := tr_hid T₀
  have M : BMod (hid s.heap) mainGlobals mm bm ob := bm_hid M₀ hP
  have hl := hid_list hl₀ hlP
  clear X₀ T₀ M₀ hl₀
  refine enterC (h₀ := hid s.heap) hid_sub (Nat.le_of_eq (Heap.hide_size _ _)) X T (K := K w.params) (f := 236) (binds := [(Str.ofString "script", .ref l)]) (by k_is) (by k_is) (by dsimp only; omega) (BindsTo.of_eq rfl) rfl (by decide +kernel) rfl rfl rfl ?_
  intro L h₁ tk cells hL F hk₁ N Y
  have hPh := hk₁ _ _ hP
  k_cells Y
  rename News _ _ _ _ => N0
  have hPL : PT ≠ L := by
    have := Heap.lt_size hP
    rw [hL] at this
    exact Nat.ne_of_lt this
  have hPlt : @LT.lt Nat _ PT L := by
    have := Heap.lt_size hP
    rw [hL] at this
    exact this
  have N := news_snoc N0 hPh hPL hPT
  clear N0 hPh
  try dsimp only
  try k_fold
  w_on
  k_steps
  refine Halt.of ?_
  rename Fr _ _ _ _ => Fa
  rename News _ _ _ _ => Na
  refine places_use Fa Na X T hl hi hlay (by walk_at "room d") (by walk_at "room u") fun lx us xs cx hx tkx F1 N1 o1' hix px => ?_
  have px1 := px.lo
  have px2 := px.hi
  clear Fa Na
  k_steps
  refine Halt.of ?_
  refine LCg.Assign_ListComp_U (F₀ := by k_asm) (by rfl) (by with_unfolding_all rfl) (by with_unfolding_all rfl) (by decide) (by rfl) (by decide) (by rfl) (by rfl) (by rfl) ?_
  k_steps
  refine Halt.of ?_
  rename Fr _ _ _ _ => Fa
  rename News _ _ _ _ => Na
  have Nb := news_sub (l' := [(PT, tabO #[]), (lx, W.listOf us.toArray cx), (L + 1 + 1, _), (L + 1, _)]) Na (by kcf_all)
  clear Na
  refine LCg.CompSrc.range (n := xs.length) (by rfl) Fa Nb (by assumption) (small_one (by omega) (by omega) (by omega) (by omega)) (rangeSize_nat _ _) (by rw [PySem.sizeLine_eq]; omega) ?_
  intro g'
  refine cr_rel (IsI (List.map (fun k => (xs.length : Int) * cellv ns (50 + k) 41) (rangeKs 0 xs.length))) ?_ ?_
  · intro i v I oI C oC D m₂ ys' h tk' E' hi' hv hC hx F N off ne
    clear Fa Nb
    obtain ⟨tv, rfl⟩ := hv
    k_steps
    refine ld_bi F X T (by k_is) (by boot_by_name) (by decide) ?_
    k_steps
    exact ⟨_, _, _, rfl, by assumption, by assumption, off, trivial, rfl, _, _, law_get hi', rfl⟩
  · intro wy hl' hG'
    obtain ⟨yl, yb⟩ := law_y (ns := ns) (n := xs.length) px2
    generalize List.map (fun k => (xs.length : Int) * cellv ns (50 + k) 41) (rangeKs 0 xs.length) = ys at *
    have hiy : IntsAre wy ys := ints_of (by rw [hl', yl]) hG'
    unfold LCg.FinA
    intro D h tk' F' N' o2'
    clear Fa Nb hG'
    k_steps
    refine Halt.of ?_
    rename Fr _ _ _ _ => Fa
    rename News _ _ _ _ => Na
    have lxP : lx ≠ PT := Ne.symm (off_at (p := (PT, tabO #[])) o1' (by walk_at "off_mem"))
    have DP : D ≠ PT := Ne.symm (off_at (p := (PT, tabO #[])) o2' (by walk_at "off_mem"))
    have Nb := news_sub (l' := [(PT, tabO #[]), (lx, W.listOf us.toArray cx), (D, LCg.lst wy), (L + 1 + 1, _), (L + 1, _)]) Na (by kcf_all)
    refine found_ok (h₀ := hid s.heap) Fa.keep hPT X T M hG (Nb _ List.mem_cons_self).1 (.inl rfl) (stays_list Fa.keep hl) hi hlay hlP ⟨W.listOf us.toArray cx, (Nb (lx, W.listOf us.toArray cx) (by walk_at "off_mem")).1, rfl, _, rfl⟩ hix lxP px (by walk_at "room d") (by walk_at "room u") fun s1 ps1 k1 e1 tp1 G1 os1 dr1 => ?_
    obtain ⟨F1, N1⟩ := h_up Fa Nb (by walk_at "off_all") hPT k1 e1
    obtain ⟨H1, g1, D1, T1, O1⟩ := s1
    dsimp only at F1 N1 G1 os1 dr1
    clear Fa Na Nb k1 e1
    k_steps
    refine Halt.of ?_
    rename Fr _ _ _ _ => Fa
    rename News _ _ _ _ => Na
    refine parted_ok (h₀ := hid s.heap) Fa.keep hPT X T M G1 (Na _ List.mem_cons_self).1 tp1 (stays_list Fa.keep hl) hi hlay hlP ⟨W.listOf us.toArray cx, (Na (lx, W.listOf us.toArray cx) (by walk_at "off_mem")).1, rfl, _, rfl⟩ hix lxP px ⟨LCg.lst wy, (Na (D, LCg.lst wy) (by walk_at "off_mem")).1, rfl, _, rfl⟩ hiy DP yl yb (by walk_at "room d") (by walk_at "room u") fun s1 ps2 k1 e1 tp2 G2 os2 dr2 => ?_
    obtain ⟨F1, N1⟩ := h_up Fa Na (by walk_at "off_all") hPT k1 e1
    obtain ⟨H2, g2, D2, T2, O2⟩ := s1
    dsimp only at F1 N1 G2 os2 dr2
    have os3 := os2.trans os1
    clear Fa Na k1 e1 tp1 G1 os1 dr1 dr2 os2
    k_steps
    refine Halt.of ?_
    rename Fr _ _ _ _ => Fa
    rename News _ _ _ _ => Na
    refine made_ok (h₀ := hid s.heap) Fa.keep hPT X T M G2 (Na _ List.mem_cons_self).1 tp2 (stays_list Fa.keep hl) hi hlay hlP ⟨W.listOf us.toArray cx, (Na (lx, W.listOf us.toArray cx) (by walk_at "off_mem")).1, rfl, _, rfl⟩ hix lxP px ⟨LCg.lst wy, (Na (D, LCg.lst wy) (by walk_at "off_mem")).1, rfl, _, rfl⟩ hiy DP yl yb (by walk_at "room d") (by walk_at "room u") fun s1 ps3 k1 e1 tp3 G3 os4 dr4 => ?_
    obtain ⟨F1, N1⟩ := h_up Fa Na (by walk_at "off_all") hPT k1 e1
    obtain ⟨H3, g3, D3, T3, O3⟩ := s1
    dsimp only at F1 N1 G3 os4 dr4
    have os5 := os4.trans os3
    clear Fa Na k1 e1 tp2 G2 os3 os4 dr4
    k_steps
    refine Halt.of ?_
    rename Fr _ _ _ _ => Fa
    rename News _ _ _ _ => Na
    refine through_use Fa Na X T hl hi hlay ⟨W.listOf us.toArray cx, (Na (lx, W.listOf us.toArray cx) (by walk_at "off_mem")).1, rfl, _, rfl⟩ hix px (by walk_at "room d") (by walk_at "room u") fun h4 tk4 F4 N4 => ?_
    clear Fa Na
    k_steps
    exact hret _ ps3 (fun b o hb e => F4.keep b o (hide hb e)) (N4 _ List.mem_cons_self).1 G3 os5
end
set_option Elab.async false
set_option linter.unusedSimpArgs false
set_option linter.unusedVariables false
set_option maxRecDepth 100000
set_option maxHeartbeats 16000000
theorem kt_k {P : Params} {h : Heap} (X : (KT P).In h) : (K P).In h := fun a o e => by
  refine X a o ?_
  have ha : a ≠ 179 := fun q => by rw [q] at e; cases e
  show List.lookup a ((179, _) :: K P) = some o
  rw [List.lookup_cons, beq_false_of_ne ha]
  exact e
theorem law_fa {P : Params} {h : Heap} {mg : Str → Option Value} {fa : Addr} (X : (K P).In h) (G : h.Ns mainGlobals mg) (hm : mg (Str.ofString "law") = some (.ref fa)) : fa = 236 := by
  have e := mg_of (n := Str.ofString "law") (v := .ref 236) X G (by kernel_rfl!)
  rw [hm] at e
  cases e
  rfl
end Mine
set_option rowWalk.seconds 0 in
theorem PySem.Challenge.cw_yj0039_02_holds : PySem.Challenge.rw_yj0039_02.Holds := by
  refine holds_law (by kernel_rfl!) fun said => ?_
  refine holds_open (q := Mine.view) (loose := Mine.lse) (Xt := fun s => xlAt Mine.view [] s && recOk (RowW.records PySem.Challenge.rw_yj0039_02.row.toRowW) s) (XP := XL Mine.view []) (Yf := Hook.obs Mine.hookT) (Ya := Hook.val Mine.hookT) (YP := Hook.says Mine.hookT) (N := 3654) Mine.leftT (Hook.of Mine.hookT) (Hook.keeps Mine.hookT) (fun s e => xl_of s (Bool.and_eq_true_iff.mp e).1) XL.keeps (by rfl) (by rfl) (by rfl) (fun s e => recFacts_of (Bool.and_eq_true_iff.mp e).2) (by rfl) (by first | assumption | decide +kernel) (by decide +kernel) ⟨rfl, rfl, rfl, rfl, rfl, by decide +kernel⟩ ?hw ?hc
  case hw => w_witness2
  case hc =>
    intro w s₀ s₁ mg mb G Y fa o pm cd doc dV kV ho hd hcd hD hmg hg args vals as hpre hlay hrd hwl hlo
    have KT := kIn_of Y
    have KX := Mine.kt_k KT
    have hP : s₁.heap.get? Mine.PT = some (Mine.tabO #[]) := KT 179 _ rfl
    have X := (Ground.X G).1
    have V := (Ground.X G).2
    refine Ground.open G ?_
    intro T B D TE TW
    obtain ⟨_, _, M⟩ := bmod_of_top T
    have hfa : fa = 236 := Mine.law_fa KX T.g hmg
    subst hfa
    clear hmg ho hd hcd hD
    wrow_args hpre hlay hrd hwl hlo
    all_goals (first | refine callC_kw (enter_call ?_) | refine enter_call ?_)
    refine Mine.law_ok (dp := 1 + claimMargin) (fr := some []) (gd := some []) (un := 4) KX (topRead_of T) M (AllBare.of_eq hg) hP (by assumption) (by assumption) (by assumption) (by decide) (by decide) fun s' ps' k1 e1 G1 os1 => ?_
    have t0 : s₁.heap.TableAt 181 179 #[] := ⟨⟨_, _, KX 181 _ rfl, rfl, rfl, rfl⟩, hP⟩
    have t1 : s'.heap.TableAt 181 179 (#[] ++ ps') := ⟨⟨_, _, k1 181 _ (by decide) (KX 181 _ rfl), rfl, rfl, rfl⟩, by rw [Array.empty_append]; exact e1⟩
    exact ⟨.inl ⟨.bool true, .bool true, [], rfl, fun _ => rfl, .bool true, postW_of (by wrow_shape) (by wtm_val) (by first | rfl | w_fin), fun _ => ⟨.nil, fun _ h => nomatch h⟩⟩, (OldK.refl _).step_table t0 t0 t1 k1 (by decide), os1, G1⟩
