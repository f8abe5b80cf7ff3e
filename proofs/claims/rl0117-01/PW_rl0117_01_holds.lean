import PyProof.Rows.All
import Wide.All
import OpenK.AllK
import Wide.FinOn
import Lean
import PySem.Challenge.RW_rl0117_01
open PySem PySem.W PyProof.Rows PySem.Calls
set_option Elab.async false
set_option compiler.extract_closed false
set_option maxRecDepth 100000
set_option maxHeartbeats 8000000
set_option linter.all false
namespace Mine
local macro_rules | `(tactic| k_ne) => `(tactic| (refine neN ?_; (try dsimp only); with_reducible first | assumption | (refine Ne.symm ?_; assumption) | (refine Nat.ne_of_gt ?_; assumption) | (refine Nat.ne_of_lt ?_; assumption)))

abbrev P0 : Program := PySem.Challenge.rw_rl0117_01.row.prog
noncomputable def stm (i : Nat) : Stmt := (P0.main.body[i]?).getD (.Pass ⟨0, 0, 0, 0⟩)
noncomputable def met (i : Nat) : Stmt := match stm 5 with
  | .ClassDef _ _ _ b .. => (b[i]?).getD (.Pass ⟨0, 0, 0, 0⟩)
  | _ => .Pass ⟨0, 0, 0, 0⟩
abbrev fnO (n q : Str) (a : Arguments) (b : List Stmt) (sc : Scope) (pm : Value) (cd : Addr) : Obj := ⟨.type "function", none, .func (fnOf n q a b sc .none .none .none pm none (.ref cd) .none), #[]⟩
abbrev pm1 : Value := .str (Str.ofString "cpy313.colorsys") 194
abbrev pm2 : Value := .str (Str.ofString "cpy313.tabnanny") 233
abbrev pm3 : Value := .str (Str.ofString "cpy313.token") 335
abbrev pm4 : Value := .str (Str.ofString "law_rl0117_01") 539
noncomputable def o28 : Obj := by
  refine (fun (_ : stm 2 = .FunctionDef ?n ?a ?b ?d1 ?d2 ?d3 ?sc ?d4 ?d5 ?d6) => fnO ?n ?n ?a ?b ?sc pm1 27) ?h
  case h => exact rfl
noncomputable def o35 : Obj := by
  refine (fun (_ : stm 3 = .FunctionDef ?n ?a ?b ?d1 ?d2 ?d3 ?sc ?d4 ?d5 ?d6) => fnO ?n ?n ?a ?b ?sc pm1 34) ?h
  case h => exact rfl
noncomputable def o52 : Obj := by
  refine (fun (_ : met 1 = .FunctionDef ?n ?a ?b ?d1 ?d2 ?d3 ?sc ?d4 ?d5 ?d6) => fnO ?n (Str.ofString "Whitespace.__init__") ?a ?b ?sc pm2 51) ?h
  case h => exact rfl
noncomputable def o59 : Obj := by
  refine (fun (_ : met 2 = .FunctionDef ?n ?a ?b ?d1 ?d2 ?d3 ?sc ?d4 ?d5 ?d6) => fnO ?n (Str.ofString "Whitespace.longest_run_of_spaces") ?a ?b ?sc pm2 58) ?h
  case h => exact rfl
noncomputable def o66 : Obj := by
  refine (fun (_ : met 3 = .FunctionDef ?n ?a ?b ?d1 ?d2 ?d3 ?sc ?d4 ?d5 ?d6) => fnO ?n (Str.ofString "Whitespace.indent_level") ?a ?b ?sc pm2 65) ?h
  case h => exact rfl
noncomputable def o87 : Obj := by
  refine (fun (_ : met 6 = .FunctionDef ?n ?a ?b ?d1 ?d2 ?d3 ?sc ?d4 ?d5 ?d6) => fnO ?n (Str.ofString "Whitespace.less") ?a ?b ?sc pm2 86) ?h
  case h => exact rfl
noncomputable def o111 : Obj := by
  refine (fun (_ : stm 57 = .FunctionDef ?n ?a ?b ?d1 ?d2 ?d3 ?sc ?d4 ?d5 ?d6) => fnO ?n ?n ?a ?b ?sc pm3 110) ?h
  case h => exact rfl
noncomputable def o116 : Obj := by
  refine (fun (_ : stm 59 = .FunctionDef ?n ?a ?b ?d1 ?d2 ?d3 ?sc ?d4 ?d5 ?d6) => fnO ?n ?n ?a ?b ?sc pm4 115) ?h
  case h => exact rfl
noncomputable def o123 : Obj := by
  refine (fun (_ : stm 60 = .FunctionDef ?n ?a ?b ?d1 ?d2 ?d3 ?sc ?d4 ?d5 ?d6) => fnO ?n ?n ?a ?b ?sc pm4 122) ?h
  case h => exact rfl
noncomputable def o130 : Obj := by
  refine (fun (_ : stm 61 = .FunctionDef ?n ?a ?b ?d1 ?d2 ?d3 ?sc ?d4 ?d5 ?d6) => fnO ?n ?n ?a ?b ?sc pm4 129) ?h
  case h => exact rfl
noncomputable def o135 : Obj := by
  refine (fun (_ : stm 62 = .FunctionDef ?n ?a ?b ?d1 ?d2 ?d3 ?sc ?d4 ?d5 ?d6) => fnO ?n ?n ?a ?b ?sc pm4 134) ?h
  case h => exact rfl
noncomputable def o140 : Obj := by
  refine (fun (_ : stm 63 = .FunctionDef ?n ?a ?b ?d1 ?d2 ?d3 ?sc ?d4 ?d5 ?d6) => fnO ?n ?n ?a ?b ?sc pm4 139) ?h
  case h => exact rfl
noncomputable def o145 : Obj := by
  refine (fun (_ : stm 64 = .FunctionDef ?n ?a ?b ?d1 ?d2 ?d3 ?sc ?d4 ?d5 ?d6) => fnO ?n ?n ?a ?b ?sc pm4 144) ?h
  case h => exact rfl
/-- a code object: its names, its line, how many arguments, its tokens -/
noncomputable def cdO (n q : String) (t : Tok) (line k : Int) (r : Addr) (t2 : Tok) (vn : Bool) : Obj :=
  ⟨.type "code", none, .fields #[.str (Str.ofString n) t, .str (Str.ofString q) (t + 1), .str (Str.ofString "/claim/cut.py") (t + 2), .int line 0, .int k 0, .int 0 0, .int 0 0, .int 3 0, .ref r, .bool true, .int 181 0, .ref (r + 1), .none,
    if vn then .ref (r + 2) else .none, if vn then .ref (r + 3) else .none, .ref (r + (if vn then 4 else 2)), .int t2 0, .int line 0, .str (Str.ofString "/claim/cut.py") (t2 + 1)], #[]⟩
noncomputable def kE (P : Params) (k : Str) (t : Tok) (v : Value) : DictEntry := ⟨PyData.keyHash P k, .str k t, v⟩
noncomputable def kS (P : Params) (k : String) (t : Tok) (v : Value) : DictEntry := kE P (Str.ofString k) t v
noncomputable def asgName : Stmt → Str
  | .Assign [.Name n _] _ _ => n
  | _ => Str.empty
noncomputable def asgInt : Stmt → Int
  | .Assign _ (.Constant (.int n) _ _) _ => n
  | _ => 0
noncomputable def dctKey : Stmt → Nat → Str
  | .Assign _ (.Dict ks _ _) _, j => (match ks[j]? with
    | some (some (.Constant (.str s) _ _)) => s
    | _ => Str.empty)
  | _, _ => Str.empty

noncomputable def tokE (P : Params) (i : Nat) : DictEntry := kE P (asgName (stm (7 + i))) (338 + 2 * i) (.int (asgInt (stm (7 + i))) (337 + 2 * i))
noncomputable def o3 (P : Params) : Obj := ⟨.type "dict", none, .dict (List.toArray (
  [kS P "__name__" 165 pm4, kS P "__doc__" 166 .none, kS P "__package__" 167 .none, kS P "__loader__" 168 (.builtin "__main__.__loader__#opaque"), kS P "__spec__" 169 .none, kS P "__annotations__" 170 (.ref 6), kS P "__builtins__" 171 (.ref 4),
   kS P "__file__" 173 (.str (Str.ofString "/claim/cut.py") 172), kS P "__cached__" 174 .none, kS P "_wall" 193 (.ref 21), kS P "rgb_to_hls" 214 (.ref 28), kS P "rgb_to_hsv" 232 (.ref 35), kS P "Whitespace" 334 (.ref 97)] ++
  (List.range 49).map (tokE P) ++
  [kS P "EXACT_TOKEN_TYPES" 531 (.ref 102), kS P "ISNONTERMINAL" 538 (.ref 111), kS P "_law_tree" 546 (.ref 116), kS P "_law_page" 557 (.ref 123), kS P "_law_read" 570 (.ref 130), kS P "_law_light" 576 (.ref 135), kS P "_law_own" 582 (.ref 140), kS P "law" 588 (.ref 145)])) 70, #[]⟩
noncomputable def o96 (P : Params) : Obj := ⟨.type "dict", none, .dict (List.toArray
  [kS P "__module__" 242 pm2, kS P "__firstlineno__" 246 (.int 48 245), kS P "S" 250 (.str (Str.ofString " ") 248), kS P "T" 251 (.str (Str.ofString "\t") 249), kS P "__init__" 266 (.ref 52), kS P "longest_run_of_spaces" 275 (.ref 59), kS P "indent_level" 287 (.ref 66),
   kS P "equal" 295 (.ref 73), kS P "not_equal_witness" 303 (.ref 80), kS P "less" 313 (.ref 87), kS P "not_less_witness" 321 (.ref 94), kS P "__static_attributes__" 327 (.ref 95), kS P "__dict__" 329 (.ref 98), kS P "__weakref__" 331 (.ref 99), kS P "__doc__" 332 .none]) 4, #[]⟩
noncomputable def exI : List Nat := [54,28,24,40,19,41,7,8,16,35,46,38,14,36,12,15,37,51,23,52,17,47,48,39,11,53,13,20,33,44,29,22,27,21,30,34,45,49,50,9,10,32,43,25,18,42,26,31]
noncomputable def exE (P : Params) (j : Nat) : DictEntry := kE P (dctKey (stm 56) j) (if j ≤ 34 then 435 + 2 * j else 469 + j) (.int (asgInt (stm (exI.getD j 0))) (323 + 2 * exI.getD j 0))
noncomputable def o102 (P : Params) : Obj := ⟨.type "dict", none, .dict (List.toArray ((List.range 48).map (exE P))) 48, #[]⟩
noncomputable def o97 : Obj := ⟨.type "type", none, .cls { name := Str.ofString "Whitespace", bases := [.type "object"], mro := [.ref 97, .type "object"], ns := 96, qualname := Str.ofString "Whitespace" },
  #[none, none, some (.str (Str.ofString "Whitespace") 235), some (.str (Str.ofString "Whitespace") 243), some (.builtin "object.__new__"), some (.bool true)]⟩
noncomputable def o98 : Obj := ⟨.type "getset_descriptor", none, .fields #[.str (Str.ofString "__dict__") 328, .ref 97, .builtin "function.__dict__", .builtin "function.__dict__#set"], #[]⟩
noncomputable def o99 : Obj := ⟨.type "getset_descriptor", none, .fields #[.str (Str.ofString "__weakref__") 330, .ref 97, .builtin "ExceptionGroup.__weakref__", .none], #[]⟩
noncomputable def KK (P : Params) : Frag :=
  (nat_lit 2, ⟨.none, none, .dict #[] 0, #[]⟩) :: (nat_lit 3, o3 P) :: (nat_lit 27, cdO "rgb_to_hls" "rgb_to_hls" 196 5 3 22 212 true) :: (nat_lit 28, o28) :: (nat_lit 34, cdO "rgb_to_hsv" "rgb_to_hsv" 215 28 3 29 230 true) :: (nat_lit 35, o35) ::
   (nat_lit 51, cdO "__init__" "Whitespace.__init__" 252 51 2 46 264 true) :: (nat_lit 52, o52) :: (nat_lit 58, cdO "longest_run_of_spaces" "Whitespace.longest_run_of_spaces" 267 74 1 53 273 true) :: (nat_lit 59, o59) ::
   (nat_lit 65, cdO "indent_level" "Whitespace.indent_level" 276 78 2 60 285 true) :: (nat_lit 66, o66) :: (nat_lit 86, cdO "less" "Whitespace.less" 304 91 2 81 311 true) :: (nat_lit 87, o87) :: (nat_lit 96, o96 P) :: (nat_lit 97, o97) :: (nat_lit 98, o98) :: (nat_lit 99, o99) :: (nat_lit 102, o102 P) ::
   (nat_lit 110, cdO "ISNONTERMINAL" "ISNONTERMINAL" 532 155 1 105 536 true) :: (nat_lit 111, o111) :: (nat_lit 115, cdO "_law_tree" "_law_tree" 541 158 1 112 544 false) :: (nat_lit 116, o116) :: (nat_lit 122, cdO "_law_page" "_law_page" 547 163 3 117 555 true) :: (nat_lit 123, o123) ::
   (nat_lit 129, cdO "_law_read" "_law_read" 558 168 1 124 568 true) :: (nat_lit 130, o130) :: (nat_lit 134, cdO "_law_light" "_law_light" 571 181 2 131 574 false) :: (nat_lit 135, o135) :: (nat_lit 139, cdO "_law_own" "_law_own" 577 198 2 136 580 false) :: (nat_lit 140, o140) ::
   (nat_lit 144, cdO "law" "law" 583 206 1 141 586 false) :: (nat_lit 145, o145) :: []
noncomputable def vw : Program := { P0 with main := { P0.main with body := P0.main.body.drop 64 } }
noncomputable def lo : List Str := (P0.main.scope.names.map (·.1)).filter fun n => n != ("law" : Str)
noncomputable def ads : List Addr := [2, 3, 27, 28, 34, 35, 51, 52, 58, 59, 65, 66, 86, 87, 96, 97, 98, 99, 102, 110, 111, 115, 116, 122, 123, 129, 130, 134, 135, 139, 140, 144, 145]
theorem ads_is : ∀ P, ads = (KK P).map (·.1) := fun _ => rfl
example : (fun (_ : Params → Frag) (_ : OpenLaw) => True) KK PySem.Challenge.rw_rl0117_01 := by k_fill; trivial
theorem of_boot {p q : Program} {loose : List Str} {Xt : Shared → Bool} {α : Type} {Yf : Shared → α} {Ya : World → α} {N : Nat} {g0 : Bool}
    (e : opening p = plainProg p.main.scope.names) (hN : Nat.ble 600 N = true) (f : ∀ s, fenceModules? p s = some s) (row : String)
    (run : ∀ (b : Bool) (w : World) (os : OsState), (topFrom treeTable p (w.withFollow row b) N ⟨boot_heap (w.withFollow row b).params, Array.mk [], boot_drawn, boot_toks, os⟩).map (fun s => (openSeen q loose (importedModules p.main.body) Xt g0 s, Yf s)) = some (openGood q loose, Ya (w.withFollow row b))) :
    LeftO p q loose Xt Yf Ya N g0 := fun w => by
  obtain ⟨⟨h, gs, d, k, os⟩, e1, e2⟩ := Option.map_eq_some_iff.mp (boot_open e hN f w)
  obtain ⟨rfl, rfl, rfl, rfl⟩ : h = boot_heap w.params ∧ gs = Array.mk [] ∧ d = boot_drawn ∧ k = boot_toks := by simpa using e2
  unfold openEnds
  rw [e1]
  have := run (w.params.followText row) w os
  rw [World.withFollow_self] at this
  exact this
theorem opens : opening P0 = plainProg P0.main.scope.names := by kernel_rfl
theorem fences : ∀ s, fenceModules? P0 s = some s := by intro s; kernel_rfl
theorem said : PySem.Challenge.rw_rl0117_01.wellSaid = true := by
  rw [Fast.te9446332074065402090]
  kernel_rfl
noncomputable def xt (s : Shared) : Bool := xlAt vw [] s && recOk (RowW.records PySem.Challenge.rw_rl0117_01.row.toRowW) s
noncomputable def obs (s : Shared) : List (Option Obj) := ads.map s.heap.get?
noncomputable def val (w : World) : List (Option Obj) := (KK w.params).map fun p => some p.2
theorem runF (w : World) (os : OsState) : (topFrom treeTable P0 (w.withFollow "special-get-raises" false) 4642 ⟨boot_heap (w.withFollow "special-get-raises" false).params, Array.mk [], boot_drawn, boot_toks, os⟩).map (fun s => (openSeen vw lo (importedModules P0.main.body) xt true s, obs s)) = some (openGood vw lo, val (w.withFollow "special-get-raises" false)) := by
  unfold topFrom
  rw [Fast.te14082659384304107361, Fast.te14364793385576792824, Fast.te4187177175401517315]
  kernel_rfl
theorem runT (w : World) (os : OsState) : (topFrom treeTable P0 (w.withFollow "special-get-raises" true) 4642 ⟨boot_heap (w.withFollow "special-get-raises" true).params, Array.mk [], boot_drawn, boot_toks, os⟩).map (fun s => (openSeen vw lo (importedModules P0.main.body) xt true s, obs s)) = some (openGood vw lo, val (w.withFollow "special-get-raises" true)) := by
  unfold topFrom
  rw [Fast.te14082659384304107361, Fast.te14364793385576792824, Fast.te4187177175401517315]
  kernel_rfl
theorem left : LeftO P0 vw lo xt obs val 4642 :=
  of_boot opens rfl fences "special-get-raises" fun b w os => by
    cases b
    · exact runF w os
    · exact runT w os
abbrev TR (mg mb : Str → Option Value) (h : Heap) : Prop := TopRead vw lo mg mb h

section
variable {prog : Program} {w : World} {A : Around} {E : Value → Shared → Prop} {s : Shared} {mg mb : Str → Option Value} {K : Frag} {p : Program} {loose : List Str}
  {Q : Value → Shared → Prop} {name qual : Str} {params : Arguments} {body : List Stmt} {scope : Scope} {dV kV doc pm cdv ct oc : Value} {an od : Option Addr} {osl : Array (Option Value)} {f : Addr} {args : List Value} {binds : List (Str × Value)}

theorem callP (X : K.In s.heap) (T : TopRead p loose mg mb s.heap) (hroom : A.depth < recursionLimit)
    (ho : K.lookup f = some ⟨oc, od, .func (fnOf name qual params body scope dV kV doc pm an cdv ct), osl⟩) (hcd : codeIn K cdv qual = true)
    (hbind : BindsTo s (fnOf name qual params body scope dV kV doc pm an cdv ct) ⟨args, []⟩ binds) (hloc : ∀ y ∈ binds, scope.names.lookup y.1 = some .local)
    (h : ∀ L h₁, Fr s.heap L h₁ (fun y => binds.reverse.lookup y) → News s.heap L h₁ [] →
      wpAny (model prog w) (A.deeper (envOf qual scope L f cdv)) (execs body (envOf qual scope L f cdv))
        (fun fl s' => Q (match fl with | .ret v => v | _ => .none) s') (fun _ _ => False)
        { s with heap := h₁, toks := s.toks + binds.length })
    (hcell : ∀ x ∈ scope.names, x.2 ≠ .cell) (hco : scope.isCoroutine = false) (hgen : scope.isGenerator = false) (hk : scope.kind = .function) :
    wpAny (model prog w) A (call (.ref f) args) Q E s := by
  refine wpAny_call (codeAny_call_def (fd := fnOf name qual params body scope dV kV doc pm an cdv ct) (body := body) (binds := binds) hroom (X _ _ ho) rfl T.nolimit (codeRec_of X hcd) rfl hbind hcell hloc (fun h₁ hns hk₁ => ?_) hco hgen hk)
  exact wpAny_mono (h s.heap.objs.size h₁ ⟨hns, hk₁, Nat.le_refl _⟩ News.nil) (fun fl s' x => x) (fun _ _ x => x.elim)
end
inductive Nm where
  | i (n : Int)
  | f (b : UInt64)
  deriving DecidableEq
def Nm.val : Nm → Tok → Value
  | .i n, t => .int n t
  | .f b, t => .float b t
def ofI (n : Int) : Option UInt64 := if Float64.isInf (Float64.ofInt n) then none else some (Float64.ofInt n)
theorem ofI_some {n : Int} {x : UInt64} (h : ofI n = some x) : ¬ Float64.isInf (Float64.ofInt n) = true ∧ Float64.ofInt n = x := by
  unfold ofI at h
  split at h
  · cases h
  · rename_i q; exact ⟨q, Option.some.inj h⟩
def Nm.fl : Nm → Option UInt64
  | .i n => ofI n
  | .f b => some b
def Nm.sub : Nm → Nm → Option Nm
  | .i a, .i b => some (.i (a - b))
  | .f a, .f b => some (.f (Float64.sub a b))
  | .f a, .i b => (ofI b).map fun y => .f (Float64.sub a y)
  | .i a, .f b => (ofI a).map fun x => .f (Float64.sub x b)
def Nm.add : Nm → Nm → Option Nm
  | .i a, .i b => some (.i (a + b))
  | .f a, .f b => some (.f (Float64.add a b))
  | .f a, .i b => (ofI b).map fun y => .f (Float64.add a y)
  | .i a, .f b => (ofI a).map fun x => .f (Float64.add x b)
def Nm.mul : Nm → Nm → Option Nm
  | .i a, .i b => if a.natAbs < 1000 ∧ b.natAbs < 1000 then some (.i (a * b)) else none
  | .f a, .f b => some (.f (Float64.mul a b))
  | .f a, .i b => (ofI b).map fun y => .f (Float64.mul a y)
  | .i a, .f b => (ofI a).map fun x => .f (Float64.mul x b)
def Nm.div : Nm → Nm → Option Nm
  | .i a, .i b => if (b == 0) = true then none else
      let q := Float64.ofFrac (decide (a < 0) != decide (b < 0)) a.natAbs b.natAbs
      if Float64.isInf q then none else some (.f q)
  | .f a, .f b => if Float64.isZero b then none else some (.f (Float64.div a b))
  | .f a, .i b => (ofI b).bind fun y => if Float64.isZero y then none else some (.f (Float64.div a y))
  | .i a, .f b => (ofI a).bind fun x => if Float64.isZero b then none else some (.f (Float64.div x b))
def Nm.mod : Nm → Nm → Option Nm
  | .f a, .f b => if Float64.isZero b then none else some (.f (Float64.divmod a b).snd)
  | _, _ => none
def Nm.eq : Nm → Nm → Bool
  | .i a, .i b => a == b
  | .f a, .f b => Float64.cmp a b == some Ordering.eq
  | .f a, .i b => Float64.cmpInt a b == some Ordering.eq
  | .i a, .f b => Float64.cmpInt b a == some Ordering.eq
def Nm.gt : Nm → Nm → Bool
  | .i a, .i b => decide (a > b)
  | .f a, .f b => Float64.cmp a b == some Ordering.gt
  | .f a, .i b => Float64.cmpInt a b == some Ordering.gt
  | .i a, .f b => Float64.cmpInt b a == some Ordering.lt
def Nm.lt : Nm → Nm → Bool
  | .i a, .i b => decide (a < b)
  | .f a, .f b => Float64.cmp a b == some Ordering.lt
  | .f a, .i b => Float64.cmpInt a b == some Ordering.lt
  | .i a, .f b => Float64.cmpInt b a == some Ordering.gt
def Nm.le : Nm → Nm → Bool
  | .i a, .i b => decide (a ≤ b)
  | .f a, .f b => Float64.cmp a b == some Ordering.lt || Float64.cmp a b == some Ordering.eq
  | .f a, .i b => Float64.cmpInt a b == some Ordering.lt || Float64.cmpInt a b == some Ordering.eq
  | .i a, .f b => Float64.cmpInt b a == some Ordering.gt || Float64.cmpInt b a == some Ordering.eq
def Nm.max2 (a b : Nm) : Nm := if Nm.gt b a then b else a
def Nm.min2 (a b : Nm) : Nm := if Nm.lt b a then b else a

section
variable {prog : Program} {w : World} {A : Around} {E : Value → Shared → Prop} {s : Shared} {Q : Value → Shared → Prop} {a b c : Nm} {t u : Tok}
theorem nm_sub (e : Nm.sub a b = some c) (h : ∀ t', Q (c.val t') { s with toks := s.toks + 1 }) : wpAny (model prog w) A (binaryOp .Sub (a.val t) (b.val u)) Q E s := by
  cases a <;> cases b <;> simp only [Nm.sub, Option.map_eq_some_iff, Option.some.injEq] at e
  · subst e; exact AutoIntOps.sub_0 (h _)
  · obtain ⟨y, hy, rfl⟩ := e; obtain ⟨q, rfl⟩ := ofI_some hy; exact AutoFloatOps.sub_if_1 q (h _)
  · obtain ⟨y, hy, rfl⟩ := e; obtain ⟨q, rfl⟩ := ofI_some hy; exact AutoFloatOps.sub_fi_1 q (h _)
  · subst e; exact AutoFloatOps.sub_0 (h _)
theorem nm_add (e : Nm.add a b = some c) (h : ∀ t', Q (c.val t') { s with toks := s.toks + 1 }) : wpAny (model prog w) A (binaryOp .Add (a.val t) (b.val u)) Q E s := by
  cases a <;> cases b <;> simp only [Nm.add, Option.map_eq_some_iff, Option.some.injEq] at e
  · subst e; exact AutoIntOps.add_0 (h _)
  · obtain ⟨y, hy, rfl⟩ := e; obtain ⟨q, rfl⟩ := ofI_some hy; exact AutoFloatOps.add_if_1 q (h _)
  · obtain ⟨y, hy, rfl⟩ := e; obtain ⟨q, rfl⟩ := ofI_some hy; exact AutoFloatOps.add_fi_1 q (h _)
  · subst e; exact AutoFloatOps.add_0 (h _)
theorem nm_mul (e : Nm.mul a b = some c) (h : ∀ t', Q (c.val t') { s with toks := s.toks + 1 }) : wpAny (model prog w) A (binaryOp .Mult (a.val t) (b.val u)) Q E s := by
  cases a <;> cases b <;> simp only [Nm.mul, Option.map_eq_some_iff, Option.some.injEq, Option.ite_none_right_eq_some] at e
  · obtain ⟨q, rfl⟩ := e; exact AutoIntOps.mul_0 (h _) (.of_left (intBits_le_64 (by omega) (by omega)))
  · obtain ⟨y, hy, rfl⟩ := e; obtain ⟨q, rfl⟩ := ofI_some hy; exact AutoFloatOps.mul_if_1 q (h _)
  · obtain ⟨y, hy, rfl⟩ := e; obtain ⟨q, rfl⟩ := ofI_some hy; exact AutoFloatOps.mul_fi_1 q (h _)
  · subst e; exact AutoFloatOps.mul_0 (h _)
theorem nm_div (e : Nm.div a b = some c) (h : ∀ t', Q (c.val t') { s with toks := s.toks + 1 }) : wpAny (model prog w) A (binaryOp .Div (a.val t) (b.val u)) Q E s := by
  cases a <;> cases b <;> simp only [Nm.div, Option.bind_eq_some_iff, Option.some.injEq, Option.ite_none_left_eq_some] at e
  · obtain ⟨q1, q2, rfl⟩ := e; exact AutoIntOps.truediv_2 q1 q2 (h _)
  · obtain ⟨y, hy, q1, rfl⟩ := e; obtain ⟨q, rfl⟩ := ofI_some hy; exact AutoFloatOps.truediv_if_2 q q1 (h _)
  · obtain ⟨y, hy, q1, rfl⟩ := e; obtain ⟨q, rfl⟩ := ofI_some hy; exact AutoFloatOps.truediv_fi_2 q q1 (h _)
  · obtain ⟨q1, rfl⟩ := e; exact AutoFloatOps.truediv_1 q1 (h _)
theorem nm_mod (e : Nm.mod a b = some c) (h : ∀ t', Q (c.val t') { s with toks := s.toks + 1 }) : wpAny (model prog w) A (binaryOp .Mod (a.val t) (b.val u)) Q E s := by
  cases a <;> cases b <;> simp only [Nm.mod, Option.some.injEq, Option.ite_none_left_eq_some, reduceCtorEq] at e
  · obtain ⟨q1, rfl⟩ := e; exact AutoFloatOps.mod_1 q1 (h _)
theorem nm_eq (h : Q (.bool (Nm.eq a b)) s) : wpAny (model prog w) A (compareOp .Eq (a.val t) (b.val u)) Q E s := by
  cases a <;> cases b
  · exact PyProof.Rows.eq_int h
  · exact eq_if h
  · exact eq_fi h
  · exact AutoFloatOps.eq_0 h
theorem nm_le (h : Q (.bool (Nm.le a b)) s) : wpAny (model prog w) A (compareOp .LtE (a.val t) (b.val u)) Q E s := by
  cases a <;> cases b
  · exact PyProof.Rows.le_int h
  · exact le_if h
  · exact le_fi h
  · exact AutoFloatOps.le_0 h
theorem nm_gt (h : Q (.bool (Nm.gt a b)) s) : wpAny (model prog w) A (compareOp .Gt (a.val t) (b.val u)) Q E s := by
  cases a <;> cases b
  · exact PyProof.Rows.gt_int h
  · exact gt_if h
  · exact gt_fi h
  · exact AutoFloatOps.gt_0 h
theorem nm_lt (h : Q (.bool (Nm.lt a b)) s) : wpAny (model prog w) A (compareOp .Lt (a.val t) (b.val u)) Q E s := by
  cases a <;> cases b
  · exact PyProof.Rows.lt_int h
  · exact lt_if h
  · exact lt_fi h
  · exact AutoFloatOps.lt_0 h
end

section
variable {prog : Program} {w : World} {A : Around} {E : Value → Shared → Prop} {s : Shared} {Q : Value → Shared → Prop}
theorem args_max3 (a b c : Value) : argsOk "max" ⟨[a, b, c], []⟩ := by unfold argsOk; kernel_rfl
theorem args_min3 (a b c : Value) : argsOk "min" ⟨[a, b, c], []⟩ := by unfold argsOk; kernel_rfl
theorem call_max_three {a b c : Value}
    (h : wpAny (model prog w) A.in1 (pyIter (.ref s.heap.objs.size)) (fun it s₂ => ∃ I fp wr n P St bt, it = .ref I ∧ Walks prog w A.in1 I fp wr n P St ∧ St 0 s₂.heap ∧ (∀ b ∈ fp, b < s₂.heap.objs.size) ∧ 0 < n ∧ CmpOf prog w A.in1 .Gt P bt ∧
      ∀ v h' tk, P (argBest bt (n - 1)) v → (∀ b o, b ∉ wr → s₂.heap.get? b = some o → h'.get? b = some o) → Q v { s₂ with heap := h', toks := tk }) E
      { s with heap := s.heap.push { cls := .type "tuple", data := .seq #[a, b, c] } }) :
    wpAny (model prog w) A (call (.builtin "max") [a, b, c]) Q E s := by
  have hname : (toString "max" ++ toString ".loop" : String) = "max.loop" := by decide
  refine call_function_tree F.kind_max F.plain_max F.entry_max (args_max3 _ _ _) ?_
  show wpAny _ A.in1 (Builtin.Builtins.bindParams "max" ["key", "default"] 0 ⟨[], []⟩ >>= _) _ _ s
  refine wpAny_bind (wpAny_of_eq (show Builtin.Builtins.bindParams "max" ["key", "default"] 0 ⟨[], []⟩ = pure [none, none] from rfl) ?_)
  show wpAny _ A.in1 (newTuple [a, b, c] >>= _) _ _ s
  refine wpAny_bind (wpAny_newObj_type ?_)
  refine wpAny_bind (wpAny_mono h (fun it s₂ h₂ => ?_) fun _ _ e => e)
  obtain ⟨I, fp, wr, n, P, St, bt, rfl, W, hst, hfp, hn, hcmp, hQ⟩ := h₂
  refine wpAny_bind (wpAny_newObj_type ?_)
  have hSf : s₂.heap.objs.size ∉ fp := fun hm => Nat.lt_irrefl _ (hfp _ hm)
  rw [hname]
  refine wpAny_pure ⟨plainId_quiet F.plain_max_loop _, codeAny_max_loop_first W bt hcmp s₂.heap.objs.size hSf hn (W.frame _ _ _ hst fun b _ o e => Heap.get?_push_of_some _ e) (Heap.get?_push_size _ rfl) fun v h' tk hP hk => ?_⟩
  exact hQ v h' tk hP fun b o hbw e => hk b o hbw (Nat.ne_of_lt (Heap.lt_size e)) (Heap.get?_push_of_some _ e)
theorem call_min_three {a b c : Value}
    (h : wpAny (model prog w) A.in1 (pyIter (.ref s.heap.objs.size)) (fun it s₂ => ∃ I fp wr n P St bt, it = .ref I ∧ Walks prog w A.in1 I fp wr n P St ∧ St 0 s₂.heap ∧ (∀ b ∈ fp, b < s₂.heap.objs.size) ∧ 0 < n ∧ CmpOf prog w A.in1 .Lt P bt ∧
      ∀ v h' tk, P (argBest bt (n - 1)) v → (∀ b o, b ∉ wr → s₂.heap.get? b = some o → h'.get? b = some o) → Q v { s₂ with heap := h', toks := tk }) E
      { s with heap := s.heap.push { cls := .type "tuple", data := .seq #[a, b, c] } }) :
    wpAny (model prog w) A (call (.builtin "min") [a, b, c]) Q E s := by
  have hname : (toString "min" ++ toString ".loop" : String) = "min.loop" := by decide
  refine call_function_tree F.kind_min F.plain_min F.entry_min (args_min3 _ _ _) ?_
  show wpAny _ A.in1 (Builtin.Builtins.bindParams "min" ["key", "default"] 0 ⟨[], []⟩ >>= _) _ _ s
  refine wpAny_bind (wpAny_of_eq (show Builtin.Builtins.bindParams "min" ["key", "default"] 0 ⟨[], []⟩ = pure [none, none] from rfl) ?_)
  show wpAny _ A.in1 (newTuple [a, b, c] >>= _) _ _ s
  refine wpAny_bind (wpAny_newObj_type ?_)
  refine wpAny_bind (wpAny_mono h (fun it s₂ h₂ => ?_) fun _ _ e => e)
  obtain ⟨I, fp, wr, n, P, St, bt, rfl, W, hst, hfp, hn, hcmp, hQ⟩ := h₂
  refine wpAny_bind (wpAny_newObj_type ?_)
  have hSf : s₂.heap.objs.size ∉ fp := fun hm => Nat.lt_irrefl _ (hfp _ hm)
  rw [hname]
  refine wpAny_pure ⟨plainId_quiet F.plain_min_loop _, codeAny_min_loop_first W bt hcmp s₂.heap.objs.size hSf hn (W.frame _ _ _ hst fun b _ o e => Heap.get?_push_of_some _ e) (Heap.get?_push_size _ rfl) fun v h' tk hP hk => ?_⟩
  exact hQ v h' tk hP fun b o hbw e => hk b o hbw (Nat.ne_of_lt (Heap.lt_size e)) (Heap.get?_push_of_some _ e)

theorem cmp_gt {P : Nat → Value → Prop} (val : Nat → Nm) (hval : ∀ i v, P i v → ∃ t, v = (val i).val t) : CmpOf prog w A .Gt P (fun i j => Nm.gt (val i) (val j)) := fun i j vi vj s Q E hi hj h => by
  obtain ⟨t, rfl⟩ := hval i vi hi
  obtain ⟨u, rfl⟩ := hval j vj hj
  exact nm_gt h
theorem cmp_lt {P : Nat → Value → Prop} (val : Nat → Nm) (hval : ∀ i v, P i v → ∃ t, v = (val i).val t) : CmpOf prog w A .Lt P (fun i j => Nm.lt (val i) (val j)) := fun i j vi vj s Q E hi hj h => by
  obtain ⟨t, rfl⟩ := hval i vi hi
  obtain ⟨u, rfl⟩ := hval j vj hj
  exact nm_lt h
def at3 (a b c : Nm) : Nat → Nm
  | 0 => a
  | 1 => b
  | _ => c
theorem at3_val {a b c : Nm} {t u v : Tok} (i : Nat) (x : Value) (h : #[a.val t, b.val u, c.val v][i]? = some x) : ∃ t', x = (at3 a b c i).val t' := by
  match i, h with
  | 0, h => exact ⟨t, (Option.some.inj h).symm⟩
  | 1, h => exact ⟨u, (Option.some.inj h).symm⟩
  | 2, h => exact ⟨v, (Option.some.inj h).symm⟩
  | n + 3, h => simp at h
theorem old3 {h' : Heap} {o₁ o₂ : Obj}
    (hk : ∀ b o, b ∉ [(s.heap.push o₁).objs.size] → ((s.heap.push o₁).push o₂).get? b = some o → h'.get? b = some o) : s.heap.StaysIn h' := fun c o e => by
  refine hk c o (fun hm => ?_) (Heap.get?_push_of_some _ (Heap.get?_push_of_some _ e))
  have h1 := List.mem_singleton.mp hm
  have := Heap.lt_size e
  rw [h1, Heap.size_push] at this
  exact absurd this (Nat.not_lt.mpr (Nat.le_succ _))
theorem nm_max3 {a b c : Nm} {t u v : Tok} (hh : A.handled = none) (h : ∀ h' tk t', s.heap.StaysIn h' → Q ((Nm.max2 (Nm.max2 a b) c).val t') { s with heap := h', toks := tk }) :
    wpAny (model prog w) A (call (.builtin "max") [a.val t, b.val u, c.val v]) Q E s := by
  have hT : (s.heap.push { cls := .type "tuple", data := .seq #[a.val t, b.val u, c.val v] }).IsTuple s.heap.objs.size #[a.val t, b.val u, c.val v] := ⟨_, Heap.get?_push_size _ rfl, rfl, 0, rfl⟩
  refine call_max_three (wpAny_pyIter_tuple hT ?_)
  have hsz : (s.heap.push { cls := .type "tuple", data := .seq #[a.val t, b.val u, c.val v] }).objs.size = s.heap.objs.size + 1 := Heap.size_push ..
  refine ⟨_, [_, s.heap.objs.size], [_], _, _, _, _, rfl, Walks.tuple (A := A.in1) hh _ s.heap.objs.size (by rw [hsz]; exact Nat.ne_of_lt (Nat.lt_succ_self _)) #[a.val t, b.val u, c.val v],
    ⟨⟨_, Heap.get?_push_size _ rfl, rfl, rfl⟩, hT.push _⟩, fun c hc => ?_, by simp, cmp_gt (at3 a b c) at3_val, fun x h' tk hP hk => ?_⟩
  · show c < ((s.heap.push _).push _).objs.size
    rw [Heap.size_push, hsz]
    simp only [List.mem_cons, List.not_mem_nil, or_false] at hc
    rcases hc with rfl | rfl
    · rw [hsz]; exact Nat.lt_succ_self _
    · exact Nat.lt_succ_of_lt (Nat.lt_succ_self _)
  · obtain ⟨t', rfl⟩ := at3_val _ _ hP
    have e : at3 a b c (argBest (fun i j => Nm.gt (at3 a b c i) (at3 a b c j)) (#[a.val t, b.val u, c.val v].size - 1)) = Nm.max2 (Nm.max2 a b) c := by
      show at3 a b c (argBest (fun i j => Nm.gt (at3 a b c i) (at3 a b c j)) 2) = _
      simp only [argBest, Nm.max2, at3]
      by_cases q : Nm.gt b a = true
      · simp only [q, if_true, at3]
        by_cases q2 : Nm.gt c b = true <;> simp [q2]
      · simp only [q, if_false, at3]
        by_cases q2 : Nm.gt c a = true <;> simp [q2]
    rw [e]
    exact h h' tk t' (old3 hk)
theorem nm_min3 {a b c : Nm} {t u v : Tok} (hh : A.handled = none) (h : ∀ h' tk t', s.heap.StaysIn h' → Q ((Nm.min2 (Nm.min2 a b) c).val t') { s with heap := h', toks := tk }) :
    wpAny (model prog w) A (call (.builtin "min") [a.val t, b.val u, c.val v]) Q E s := by
  have hT : (s.heap.push { cls := .type "tuple", data := .seq #[a.val t, b.val u, c.val v] }).IsTuple s.heap.objs.size #[a.val t, b.val u, c.val v] := ⟨_, Heap.get?_push_size _ rfl, rfl, 0, rfl⟩
  refine call_min_three (wpAny_pyIter_tuple hT ?_)
  have hsz : (s.heap.push { cls := .type "tuple", data := .seq #[a.val t, b.val u, c.val v] }).objs.size = s.heap.objs.size + 1 := Heap.size_push ..
  refine ⟨_, [_, s.heap.objs.size], [_], _, _, _, _, rfl, Walks.tuple (A := A.in1) hh _ s.heap.objs.size (by rw [hsz]; exact Nat.ne_of_lt (Nat.lt_succ_self _)) #[a.val t, b.val u, c.val v],
    ⟨⟨_, Heap.get?_push_size _ rfl, rfl, rfl⟩, hT.push _⟩, fun c hc => ?_, by simp, cmp_lt (at3 a b c) at3_val, fun x h' tk hP hk => ?_⟩
  · show c < ((s.heap.push _).push _).objs.size
    rw [Heap.size_push, hsz]
    simp only [List.mem_cons, List.not_mem_nil, or_false] at hc
    rcases hc with rfl | rfl
    · rw [hsz]; exact Nat.lt_succ_self _
    · exact Nat.lt_succ_of_lt (Nat.lt_succ_self _)
  · obtain ⟨t', rfl⟩ := at3_val _ _ hP
    have e : at3 a b c (argBest (fun i j => Nm.lt (at3 a b c i) (at3 a b c j)) (#[a.val t, b.val u, c.val v].size - 1)) = Nm.min2 (Nm.min2 a b) c := by
      show at3 a b c (argBest (fun i j => Nm.lt (at3 a b c i) (at3 a b c j)) 2) = _
      simp only [argBest, Nm.min2, at3]
      by_cases q : Nm.lt b a = true
      · simp only [q, if_true, at3]
        by_cases q2 : Nm.lt c b = true <;> simp [q2, at3]
      · simp only [q, if_false, at3]
        by_cases q2 : Nm.lt c a = true <;> simp [q2, at3]
    rw [e]
    exact h h' tk t' (old3 hk)
end
theorem isnt_spec {w : World} {A : Around} {E : Value → Shared → Prop} {s : Shared} {mg mb : Str → Option Value} {Q : Value → Shared → Prop} (X : (KK w.params).In s.heap) (T : TR mg mb s.heap) (hA : A.depth < recursionLimit) (n : Int) (t : Tok)
    (h : ∀ h' tk, s.heap.StaysIn h' → Q (.bool (decide (n ≥ 256))) { s with heap := h', toks := tk }) : wpAny (model P0 w) A (call (.ref 111) [.int n t]) Q E s := by
  (refine' callP ?k1 ?k2 ?k3 ?k4 ?k5 ?k6 ?k7 ?_ ?c1 ?c2 ?c3 ?c4; (case k1 => k_asm); (case k2 => k_asm); (case k4 => k_is); (case k5 => k_is); (case k6 => exact BindsTo.of_eq rfl); (case k7 => exact locs rfl); (case c1 => decide); (case c2 => exact rfl); (case c3 => exact rfl); (case c4 => exact rfl); (case k3 => first | assumption | omega))
  intro L' h' F' N'
  k_fold
  k_steps
  rename Fr _ _ _ _ => FF
  exact h _ _ FF.keep
example : True := by first | walk1 | trivial
section
section
variable {prog : Program} {w : World} {A : Around} {E : Value → Shared → Prop} {s : Shared} {Q : Value → Shared → Prop} {a b c : Nm} {t u v : Tok} {h₀ : Heap} {L : Addr} {m : Str → Option Value} {news : List (Addr × Obj)}
theorem nm_max3N (hh : A.handled = none) (F : Fr h₀ L s.heap m) (N : News h₀ L s.heap news) (h : ∀ h' tk t', Fr h₀ L h' m → News h₀ L h' news → Q ((Nm.max2 (Nm.max2 a b) c).val t') { s with heap := h', toks := tk }) :
    wpAny (model prog w) A (call (.builtin "max") [a.val t, b.val u, c.val v]) Q E s := nm_max3 hh fun h' tk t' k => h h' tk t' (F.grownK k) (N.grown k)
theorem nm_min3N (hh : A.handled = none) (F : Fr h₀ L s.heap m) (N : News h₀ L s.heap news) (h : ∀ h' tk t', Fr h₀ L h' m → News h₀ L h' news → Q ((Nm.min2 (Nm.min2 a b) c).val t') { s with heap := h', toks := tk }) :
    wpAny (model prog w) A (call (.builtin "min") [a.val t, b.val u, c.val v]) Q E s := nm_min3 hh fun h' tk t' k => h h' tk t' (F.grownK k) (N.grown k)
end
def f0 : UInt64 := 0
def f1 : UInt64 := 0x3FF0000000000000
def f2 : UInt64 := 0x4000000000000000
def f4 : UInt64 := 0x4010000000000000
def f6 : UInt64 := 0x4018000000000000
def fh : UInt64 := 0x3FE0000000000000
def hue0 (r g mx rc gc bc : Nm) : Option Nm :=
  if Nm.eq r mx then Nm.sub bc gc else if Nm.eq g mx then (Nm.add (.f f2) rc).bind fun q => Nm.sub q bc else (Nm.add (.f f4) gc).bind fun q => Nm.sub q rc
def hsvF (r g b : Nm) : Option (Nm × Nm × Nm) :=
  let mx := Nm.max2 (Nm.max2 r g) b
  let mn := Nm.min2 (Nm.min2 r g) b
  (Nm.sub mx mn).bind fun rg =>
  if Nm.eq mn mx then some (.f f0, .f f0, mx) else
  (Nm.div rg mx).bind fun s =>
  (Nm.sub mx r).bind fun r1 => (Nm.div r1 rg).bind fun rc =>
  (Nm.sub mx g).bind fun g1 => (Nm.div g1 rg).bind fun gc =>
  (Nm.sub mx b).bind fun b1 => (Nm.div b1 rg).bind fun bc =>
  (hue0 r g mx rc gc bc).bind fun h => (Nm.div h (.f f6)).bind fun h6 => (Nm.mod h6 (.f f1)).bind fun hh => some (hh, s, mx)
local macro_rules | `(tactic| walk_at "call builtin:max") => `(tactic| (k_dflt (refine' nm_max3N ?k1 ?k2 ?k3 ?_; (case k1 => assumption); (case k2 => k_asm); (case k3 => k_asm); k_whole); intro h' tk' t' F' N'; (try k_sweep)))
local macro_rules | `(tactic| walk_at "call builtin:min") => `(tactic| (k_dflt (refine' nm_min3N ?k1 ?k2 ?k3 ?_; (case k1 => assumption); (case k2 => k_asm); (case k3 => k_asm); k_whole); intro h' tk' t' F' N'; (try k_sweep)))
local macro_rules | `(tactic| walk_at "binaryOp Add float") => `(tactic| (refine nm_add (a := .f _) (by assumption) ?_; intro t'))
local macro_rules | `(tactic| walk_at "binaryOp Div") => `(tactic| (first | (refine nm_div (by assumption) ?_; intro t') | (refine nm_div (b := .f _) (by assumption) ?_; intro t')))
local macro_rules | `(tactic| walk_at "binaryOp Mod") => `(tactic| (first | (refine nm_mod (b := .f _) (by assumption) ?_; intro t')))
local macro_rules | `(tactic| walk_at "compareOp Eq") => `(tactic| (refine nm_eq ?_; (try simp only [*])))
section
local macro_rules | `(tactic| walk_at "binaryOp Sub") => `(tactic| (refine nm_sub (by assumption) ?_; intro t'))
theorem hsv_spec {w : World} {A : Around} {E : Value → Shared → Prop} {s : Shared} {mg mb : Str → Option Value} {Q : Value → Shared → Prop} (X : (KK w.params).In s.heap) (T : TR mg mb s.heap) (hA : A.depth < recursionLimit) (hh : A.handled = none)
    (r g b : Nm) (t u v : Tok) (x y z : Nm) (hF : hsvF r g b = some (x, y, z))
    (h : ∀ a t1 t2 t3 h' tk, s.heap.StaysIn h' → s.heap.get? a = none → h'.get? a = some { cls := .type "tuple", data := .seq #[x.val t1, y.val t2, z.val t3] } → Q (.ref a) { s with heap := h', toks := tk }) :
    wpAny (model P0 w) A (call (.ref 35) [r.val t, g.val u, b.val v]) Q E s := by
  (refine' callP ?k1 ?k2 ?k3 ?k4 ?k5 ?k6 ?k7 ?_ ?c1 ?c2 ?c3 ?c4; (case k1 => k_asm); (case k2 => k_asm); (case k4 => k_is); (case k5 => k_is); (case k6 => exact BindsTo.of_eq rfl); (case k7 => exact locs rfl); (case c1 => decide); (case c2 => exact rfl); (case c3 => exact rfl); (case c4 => exact rfl); (case k3 => first | assumption | omega))
  intro L' h' F' N'
  k_fold
  have hh2 : (A.deeper (envOf (Str.ofString "rgb_to_hsv") default L' 35 (Value.ref 34))).handled = none := hh
  unfold hsvF at hF
  simp only [Option.bind_eq_some_iff] at hF
  obtain ⟨rg, e1, hF⟩ := hF
  k_steps
  · rename (Nm.eq _ _ = true) => hc
    simp only [hc, if_true, Option.some.injEq, Prod.mk.injEq] at hF
    obtain ⟨rfl, rfl, rfl⟩ := hF
    (rename Fr _ _ _ _ => FF; rename News _ _ _ _ => NN; exact h _ _ _ _ _ _ FF.keep (NN.fresh (List.Mem.head _)) (NN.get (List.Mem.head _)))
  · rename (Nm.eq (Nm.min2 _ _) _ = false) => hc
    simp only [hc, Bool.false_eq_true, if_false, Option.bind_eq_some_iff] at hF
    obtain ⟨s1, e2, r1, e3, rc, e4, g1, e5, gc, e6, b1, e7, bc, e8, h1, e9, h2, e10, h3, e11, e12⟩ := hF
    cases e12
    unfold hue0 at e9
    k_steps
    · rename (Nm.eq r _ = true) => hc2
      simp only [hc2, if_true] at e9
      k_steps
      (rename Fr _ _ _ _ => FF; rename News _ _ _ _ => NN; exact h _ _ _ _ _ _ FF.keep (NN.fresh (List.Mem.head _)) (NN.get (List.Mem.head _)))
    · rename (Nm.eq r _ = false) => hc2
      rename (Nm.eq g _ = true) => hc3
      simp only [hc2, hc3, Bool.false_eq_true, if_false, if_true, Option.bind_eq_some_iff] at e9
      obtain ⟨h3, e13, e14⟩ := e9
      k_steps
      (rename Fr _ _ _ _ => FF; rename News _ _ _ _ => NN; exact h _ _ _ _ _ _ FF.keep (NN.fresh (List.Mem.head _)) (NN.get (List.Mem.head _)))
    · rename (Nm.eq r _ = false) => hc2
      rename (Nm.eq g _ = false) => hc3
      simp only [hc2, hc3, Bool.false_eq_true, if_false, Option.bind_eq_some_iff] at e9
      obtain ⟨h3, e13, e14⟩ := e9
      k_steps
      (rename Fr _ _ _ _ => FF; rename News _ _ _ _ => NN; exact h _ _ _ _ _ _ FF.keep (NN.fresh (List.Mem.head _)) (NN.get (List.Mem.head _)))

end
example : True := by first | walk1 | trivial
def sat0 (l rg sm mx mn : Nm) : Option Nm := if Nm.le l (.f fh) then Nm.div rg sm else (Nm.sub (.f f2) mx).bind fun q => (Nm.sub q mn).bind fun q2 => Nm.div rg q2
def hlsF (r g b : Nm) : Option (Nm × Nm × Nm) :=
  let mx := Nm.max2 (Nm.max2 r g) b
  let mn := Nm.min2 (Nm.min2 r g) b
  (Nm.add mx mn).bind fun sm =>
  (Nm.sub mx mn).bind fun rg =>
  (Nm.div sm (.f f2)).bind fun l =>
  if Nm.eq mn mx then some (.f f0, l, .f f0) else
  (sat0 l rg sm mx mn).bind fun s =>
  (Nm.sub mx r).bind fun r1 => (Nm.div r1 rg).bind fun rc =>
  (Nm.sub mx g).bind fun g1 => (Nm.div g1 rg).bind fun gc =>
  (Nm.sub mx b).bind fun b1 => (Nm.div b1 rg).bind fun bc =>
  (hue0 r g mx rc gc bc).bind fun h => (Nm.div h (.f f6)).bind fun h6 => (Nm.mod h6 (.f f1)).bind fun hh => some (hh, l, s)
section
local macro_rules | `(tactic| walk_at "binaryOp Sub") => `(tactic| (first | (refine nm_sub (by assumption) ?_; intro t') | (refine nm_sub (a := .f _) (by assumption) ?_; intro t')))
local macro_rules | `(tactic| walk_at "binaryOp Add") => `(tactic| (first | (refine nm_add (by assumption) ?_; intro t') | (refine nm_add (a := .f _) (by assumption) ?_; intro t')))
local macro_rules | `(tactic| walk_at "binaryOp Sub float") => `(tactic| (refine nm_sub (a := .f _) (by assumption) ?_; intro t'))
local macro_rules | `(tactic| walk_at "compareOp LtE") => `(tactic| (refine nm_le (b := .f fh) ?_; (try simp only [*])))
theorem hls_spec {w : World} {A : Around} {E : Value → Shared → Prop} {s : Shared} {mg mb : Str → Option Value} {Q : Value → Shared → Prop} (X : (KK w.params).In s.heap) (T : TR mg mb s.heap) (hA : A.depth < recursionLimit) (hh : A.handled = none)
    (r g b : Nm) (t u v : Tok) (x y z : Nm) (hF : hlsF r g b = some (x, y, z))
    (h : ∀ a t1 t2 t3 h' tk, s.heap.StaysIn h' → s.heap.get? a = none → h'.get? a = some { cls := .type "tuple", data := .seq #[x.val t1, y.val t2, z.val t3] } → Q (.ref a) { s with heap := h', toks := tk }) :
    wpAny (model P0 w) A (call (.ref 28) [r.val t, g.val u, b.val v]) Q E s := by
  (refine' callP ?k1 ?k2 ?k3 ?k4 ?k5 ?k6 ?k7 ?_ ?c1 ?c2 ?c3 ?c4; (case k1 => k_asm); (case k2 => k_asm); (case k4 => k_is); (case k5 => k_is); (case k6 => exact BindsTo.of_eq rfl); (case k7 => exact locs rfl); (case c1 => decide); (case c2 => exact rfl); (case c3 => exact rfl); (case c4 => exact rfl); (case k3 => first | assumption | omega))
  intro L' h' F' N'
  k_fold
  have hh2 : (A.deeper (envOf (Str.ofString "rgb_to_hls") default L' 28 (Value.ref 27))).handled = none := hh
  unfold hlsF at hF
  simp only [Option.bind_eq_some_iff] at hF
  obtain ⟨sm, e0, rg, e1, l, el, hF⟩ := hF
  k_steps
  · rename (Nm.eq _ _ = true) => hc
    simp only [hc, if_true, Option.some.injEq, Prod.mk.injEq] at hF
    obtain ⟨rfl, rfl, rfl⟩ := hF
    (rename Fr _ _ _ _ => FF; rename News _ _ _ _ => NN; exact h _ _ _ _ _ _ FF.keep (NN.fresh (List.Mem.head _)) (NN.get (List.Mem.head _)))
  all_goals
    rename (Nm.eq (Nm.min2 _ _) _ = false) => hc
    simp only [hc, Bool.false_eq_true, if_false, Option.bind_eq_some_iff] at hF
    obtain ⟨s1, e2, r1, e3, rc, e4, g1, e5, gc, e6, b1, e7, bc, e8, h1, e9, h2, e10, h3, e11, e12⟩ := hF
    simp only [Option.some.injEq, Prod.mk.injEq] at e12
    obtain ⟨rfl, rfl, rfl⟩ := e12
    unfold hue0 at e9
    unfold sat0 at e2
  · rename (Nm.le _ _ = true) => hc4
    simp only [hc4, if_true] at e2
    k_steps
    · rename (Nm.eq r _ = true) => hc2
      simp only [hc2, if_true] at e9
      k_steps
      (rename Fr _ _ _ _ => FF; rename News _ _ _ _ => NN; exact h _ _ _ _ _ _ FF.keep (NN.fresh (List.Mem.head _)) (NN.get (List.Mem.head _)))
    · rename (Nm.eq r _ = false) => hc2
      rename (Nm.eq g _ = true) => hc3
      simp only [hc2, hc3, Bool.false_eq_true, if_false, if_true, Option.bind_eq_some_iff] at e9
      obtain ⟨h3, e13, e14⟩ := e9
      k_steps
      (rename Fr _ _ _ _ => FF; rename News _ _ _ _ => NN; exact h _ _ _ _ _ _ FF.keep (NN.fresh (List.Mem.head _)) (NN.get (List.Mem.head _)))
    · rename (Nm.eq r _ = false) => hc2
      rename (Nm.eq g _ = false) => hc3
      simp only [hc2, hc3, Bool.false_eq_true, if_false, Option.bind_eq_some_iff] at e9
      obtain ⟨h3, e13, e14⟩ := e9
      k_steps
      (rename Fr _ _ _ _ => FF; rename News _ _ _ _ => NN; exact h _ _ _ _ _ _ FF.keep (NN.fresh (List.Mem.head _)) (NN.get (List.Mem.head _)))
  · rename (Nm.le _ _ = false) => hc4
    simp only [hc4, Bool.false_eq_true, if_false, if_true, Option.bind_eq_some_iff] at e2
    obtain ⟨q1, e15, q2, e16, e2⟩ := e2
    k_steps
    · rename (Nm.eq r _ = true) => hc2
      simp only [hc2, if_true] at e9
      k_steps
      (rename Fr _ _ _ _ => FF; rename News _ _ _ _ => NN; exact h _ _ _ _ _ _ FF.keep (NN.fresh (List.Mem.head _)) (NN.get (List.Mem.head _)))
    · rename (Nm.eq r _ = false) => hc2
      rename (Nm.eq g _ = true) => hc3
      simp only [hc2, hc3, Bool.false_eq_true, if_false, if_true, Option.bind_eq_some_iff] at e9
      obtain ⟨h3, e13, e14⟩ := e9
      k_steps
      (rename Fr _ _ _ _ => FF; rename News _ _ _ _ => NN; exact h _ _ _ _ _ _ FF.keep (NN.fresh (List.Mem.head _)) (NN.get (List.Mem.head _)))
    · rename (Nm.eq r _ = false) => hc2
      rename (Nm.eq g _ = false) => hc3
      simp only [hc2, hc3, Bool.false_eq_true, if_false, Option.bind_eq_some_iff] at e9
      obtain ⟨h3, e13, e14⟩ := e9
      k_steps
      (rename Fr _ _ _ _ => FF; rename News _ _ _ _ => NN; exact h _ _ _ _ _ _ FF.keep (NN.fresh (List.Mem.head _)) (NN.get (List.Mem.head _)))

end
example : True := by first | walk1 | trivial
end
example : True := by first | walk1 | trivial
/-- what is hidden from a call: the objects that the callee may read and turn by its own ledger -/
structure Hides (h g : Heap) (hid : List (Addr × Obj)) : Prop where
  keep : ∀ b o, h.get? b = some o → b ∉ hid.map (·.1) → g.get? b = some o
  back : ∀ b o, g.get? b = some o → h.get? b = some o
  gone : ∀ b ∈ hid.map (·.1), g.get? b = none
  size : g.objs.size = h.objs.size
theorem Hides.of (h : Heap) (hid : List (Addr × Obj)) : Hides h (hideAll h (hid.map (·.1))) hid :=
  ⟨fun _ _ e n => hideAll_get _ e n, fun _ _ e => of_hideAll _ e, fun _ m => hideAll_none _ m, hideAll_size _ _⟩
theorem Hides.stays {h g h' : Heap} {hid : List (Addr × Obj)} (H : Hides h g hid) (k : ∀ b o, g.get? b = some o → h'.get? b = some o) (n : ∀ p ∈ hid, h'.get? p.1 = some p.2) (e : ∀ p ∈ hid, h.get? p.1 = some p.2) : h.StaysIn h' := fun b o q => by
  by_cases hb : b ∈ hid.map (·.1)
  · obtain ⟨p, hp, rfl⟩ := List.mem_map.mp hb
    rw [e p hp] at q
    cases q
    exact n p hp
  · exact k b o (H.keep b o q hb)

section
variable {prog : Program} {w : World} {A : Around} {E : Value → Shared → Prop} {s : Shared} {mg mb : Str → Option Value} {K : Frag} {p : Program} {loose : List Str} {h₀ : Heap} {L₀ : Addr} {m₀ : Str → Option Value} {hid : List (Addr × Obj)}
  {Q : Value → Shared → Prop} {R : Result → Shared → Prop} {name qual : Str} {params : Arguments} {body : List Stmt} {scope : Scope} {dV kV doc pm cdv ct oc : Value} {an od : Option Addr} {osl : Array (Option Value)} {f : Addr} {args : List Value} {binds : List (Str × Value)}

theorem codeW (hid : List (Addr × Obj)) (F : Fr h₀ L₀ s.heap m₀) (N : News h₀ L₀ s.heap hid) (X : K.In h₀) (T : TopRead p loose mg mb h₀) (hroom : A.depth < recursionLimit)
    (ho : K.lookup f = some ⟨oc, od, .func (fnOf name qual params body scope dV kV doc pm an cdv ct), osl⟩) (hcd : codeIn K cdv qual = true)
    (hbind : BindsTo s (fnOf name qual params body scope dV kV doc pm an cdv ct) ⟨args, []⟩ binds) (hloc : ∀ y ∈ binds, scope.names.lookup y.1 = some .local)
    (h : ∀ g L h₁, Hides s.heap g hid → Fr g L h₁ (fun y => binds.reverse.lookup y) → News g L h₁ hid → (∀ p ∈ hid, p.1 < L) → K.In g → TopRead p loose mg mb g →
      wpAny (model prog w) (A.deeper (envOf qual scope L f cdv)) (execs body (envOf qual scope L f cdv))
        (fun fl s' => R (.ok (.ret (match fl with | .ret v => v | _ => .none))) s') (fun _ _ => False)
        { s with heap := h₁, toks := s.toks + binds.length })
    (hcell : ∀ x ∈ scope.names, x.2 ≠ .cell) (hco : scope.isCoroutine = false) (hgen : scope.isGenerator = false) (hk : scope.kind = .function) :
    codeAny (model prog w) A (.call (.ref f) ⟨args, []⟩) R s := by
  have H := Hides.of s.heap hid
  have st : h₀.StaysIn (hideAll s.heap (hid.map (·.1))) := fun b o e => H.keep b o (F.keep b o e) fun q => by
    obtain ⟨p, hp, rfl⟩ := List.mem_map.mp q
    rw [(N p hp).2.2] at e; cases e
  have X' := X.keeps F.keep
  refine codeAny_call_def (fd := fnOf name qual params body scope dV kV doc pm an cdv ct) (body := body) (binds := binds) hroom (X' _ _ ho) rfl (T.nolimit.keeps F.keep) (codeRec_of X' hcd) rfl hbind hcell hloc (fun h₁ hns hk₁ => ?_) hco hgen hk
  exact wpAny_mono (h _ s.heap.objs.size h₁ H ⟨hns, fun b o e => hk₁ b o (H.back b o e), Nat.le_of_eq H.size⟩
    (fun p hp => ⟨hk₁ _ _ (N p hp).1, Nat.ne_of_lt (Heap.lt_size (N p hp).1), H.gone _ (List.mem_map_of_mem hp)⟩) (fun p hp => Heap.lt_size (N p hp).1) (X.keeps st) (T.keeps st)) (fun _ _ x => x) (fun _ _ x => x.elim)

theorem callW (hid : List (Addr × Obj)) (F : Fr h₀ L₀ s.heap m₀) (N : News h₀ L₀ s.heap hid) (X : K.In h₀) (T : TopRead p loose mg mb h₀) (hroom : A.depth < recursionLimit)
    (ho : K.lookup f = some ⟨oc, od, .func (fnOf name qual params body scope dV kV doc pm an cdv ct), osl⟩) (hcd : codeIn K cdv qual = true)
    (hbind : BindsTo s (fnOf name qual params body scope dV kV doc pm an cdv ct) ⟨args, []⟩ binds) (hloc : ∀ y ∈ binds, scope.names.lookup y.1 = some .local)
    (h : ∀ g L h₁, Hides s.heap g hid → Fr g L h₁ (fun y => binds.reverse.lookup y) → News g L h₁ hid → (∀ p ∈ hid, p.1 < L) → K.In g → TopRead p loose mg mb g →
      wpAny (model prog w) (A.deeper (envOf qual scope L f cdv)) (execs body (envOf qual scope L f cdv))
        (fun fl s' => Q (match fl with | .ret v => v | _ => .none) s') (fun _ _ => False)
        { s with heap := h₁, toks := s.toks + binds.length })
    (hcell : ∀ x ∈ scope.names, x.2 ≠ .cell) (hco : scope.isCoroutine = false) (hgen : scope.isGenerator = false) (hk : scope.kind = .function) :
    wpAny (model prog w) A (call (.ref f) args) Q E s :=
  wpAny_call (codeW hid F N X T hroom ho hcd hbind hloc (fun g L h₁ H F' N' l X' T' => h g L h₁ H F' N' l X' T') hcell hco hgen hk)

theorem callWC (hid : List (Addr × Obj)) (F : Fr h₀ L₀ s.heap m₀) (N : News h₀ L₀ s.heap hid) (X : K.In h₀) (T : TopRead p loose mg mb h₀) (hroom : A.depth < recursionLimit)
    (ho : K.lookup f = some ⟨oc, od, .func (fnOf name qual params body scope dV kV doc pm an cdv ct), osl⟩) (hcd : codeIn K cdv qual = true)
    (hbind : BindsTo s (fnOf name qual params body scope dV kV doc pm an cdv ct) ⟨args, []⟩ binds)
    (hkind : (binds.all fun y => scope.names.lookup y.1 == some .local || scope.names.lookup y.1 == some .cell) = true)
    (hnd : ((cellsFrom 0 scope.names []).map (·.1)).Nodup)
    (h : ∀ g L h₁ tk cells, Hides s.heap g hid → Fr g L h₁ (bindL (envOfC qual scope L f cdv).kindOf binds fun _ => none) → News g L h₁ (cells ++ hid) →
      CellsAre (bindC (envOfC qual scope L f cdv).kindOf binds fun _ => none) (cellsFrom (L + 1) scope.names []) cells → (∀ p ∈ hid, p.1 < L) → K.In g → TopRead p loose mg mb g →
      wpAny (model prog w) (A.deeper (envOfC qual scope L f cdv)) (execs body (envOfC qual scope L f cdv))
        (fun fl s' => Q (match fl with | .ret v => v | _ => .none) s') (fun _ _ => False)
        { s with heap := h₁, toks := tk })
    (hco : scope.isCoroutine = false) (hgen : scope.isGenerator = false) (hk : scope.kind = .function) :
    wpAny (model prog w) A (call (.ref f) args) Q E s := by
  have H := Hides.of s.heap hid
  have st : h₀.StaysIn (hideAll s.heap (hid.map (·.1))) := fun b o e => H.keep b o (F.keep b o e) fun q => by
    obtain ⟨p, hp, rfl⟩ := List.mem_map.mp q
    rw [(N p hp).2.2] at e; cases e
  have X' := X.keeps F.keep
  refine wpAny_call (codeAny_call_function (fd := fnOf name qual params body scope dV kV doc pm an cdv ct) hroom (X' _ _ ho) rfl hco hgen rfl (codeRec_of X' hcd) (hbind _ _ _ _ ?_))
  refine wpAny_newFunctionEnv_cells hk (kindsX hkind _) fun env' he s' x => ?_
  subst he
  refine ⟨(T.nolimit.keeps F.keep).keeps x.toInCall.keep, codeAny_func ?_⟩
  obtain ⟨h₁, tk, rfl, _⟩ := x.done
  have hk₁ := x.toInCall.keep
  obtain ⟨cells, NC, Y⟩ := Cl.news (h₀ := s.heap) (Nat.le_refl _) fun n c hm => ⟨x.cell n c (lookup_of_mem_nodup (cellsFrom_names scope.names 0 (s.heap.objs.size + 1) [] [] rfl ▸ hnd) hm), x.above n c hm⟩
  refine wpAny_mono (h _ s.heap.objs.size h₁ tk cells H ⟨x.toInCall.ns, fun b o e => hk₁ b o (H.back b o e), Nat.le_of_eq H.size⟩ (fun p hp => ?_) Y (fun p hp => Heap.lt_size (N p hp).1) (X.keeps st) (T.keeps st)) (fun _ _ x => x) (fun _ _ x => x.elim)
  rcases List.mem_append.mp hp with hp | hp
  · refine ⟨(NC p hp).1, (NC p hp).2.1, ?_⟩
    cases q : (hideAll s.heap (hid.map (·.1))).get? p.1 with
    | none => rfl
    | some o => have := H.back _ _ q; rw [(NC p hp).2.2] at this; cases this
  · exact ⟨hk₁ _ _ (N p hp).1, Nat.ne_of_lt (Heap.lt_size (N p hp).1), H.gone _ (List.mem_map_of_mem hp)⟩
end
theorem news_sub {h₀ h : Heap} {L : Addr} {news news' : List (Addr × Obj)} (N : News h₀ L h news) (hs : ∀ p ∈ news', p ∈ news) : News h₀ L h news' := fun p hp => N p (hs p hp)
theorem fr_see {h₀ h : Heap} {L : Addr} {m : Str → Option Value} {x : Str} {v : Value} (F : Fr h₀ L h m) (hx : m x = some v) : Fr h₀ L h (fun y => if y = x then some v else m y) := by
  have e : (fun y => if y = x then some v else m y) = m := by
    funext y
    by_cases h : y = x
    · subst h; simp [hx]
    · simp [h]
  rw [e]; exact F
section
variable {prog : Program} {w : World} {A : Around} {E : Value → Shared → Prop} {s : Shared} {env : Env} {h₀ : Heap} {x : Str} {body : List Stmt} {Q : Flow → Shared → Prop}

def TPost (h₀ : Heap) (L : Addr) (Jn : (Str → Option Value) → List (Addr × Obj) → Prop) (I : Addr) (oI : Obj) (src : List (Addr × Obj)) (s : Shared) (Q : Flow → Shared → Prop) (f : Flow) (s₂ : Shared) : Prop :=
  match f with
  | .ret v => Q (.ret v) s₂
  | .brk => Q .next s₂
  | _ => ∃ h' tk m' nx, s₂ = { s with heap := h', toks := tk } ∧ Fr h₀ L h' m' ∧ News h₀ L h' ((I, oI) :: src ++ nx) ∧ (∀ p ∈ nx, p.1 ≠ I) ∧ Jn m' nx

theorem loopAt {I : Addr} {fp : List Addr} {n : Nat} {P : Nat → Value → Prop} {St : Nat → Heap → Prop} {m : Str → Option Value} {news src : List (Addr × Obj)}
    (W : Walks prog w A I fp [I] n P St) (hlive : ∀ i h, St i h → ∃ o, h.get? I = some o) (hI : h₀.get? I = none) (hL : env.locals ∉ fp)
    (hfp : ∀ b ∈ fp, b = I ∨ (∃ o, (b, o) ∈ src) ∨ ∃ o, h₀.get? b = some o) (hst : St 0 s.heap) (F : Fr h₀ env.locals s.heap m) (N : News h₀ env.locals s.heap (src ++ news)) (hoff : ∀ p ∈ src ++ news, p.1 ≠ I)
    (J : Nat → (Str → Option Value) → List (Addr × Obj) → Prop) (h0 : J 0 m news)
    (turn : ∀ i v m₁ nx h tk oI, i < n → P i v → J i m₁ nx → (∀ p ∈ nx, p.1 ≠ I) → Fr h₀ env.locals h (fun y => if y = x then some v else m₁ y) → News h₀ env.locals h ((I, oI) :: src ++ nx) →
      wpAny (model prog w) A (execs body env) (TPost h₀ env.locals (J (i + 1)) I oI src s Q) E { s with heap := h, toks := tk })
    (done : ∀ m₁ nx h tk, J n m₁ nx → Fr h₀ env.locals h m₁ → News h₀ env.locals h (src ++ nx) → Q .next { s with heap := h, toks := tk }) :
    LoopAtV prog w A h₀ env x body Q E (.ref I) s := by
  have hsrc : ∀ p ∈ src, p.1 ≠ I := fun p hp => hoff p (List.mem_append_left _ hp)
  refine ⟨I, fp, [I], n, P, St, m, src ++ news, fun i m' nw => ∃ nx, nw = src ++ nx ∧ J i m' nx, rfl, W, hL, ?_, ?_, hst, F, N, ⟨news, rfl, h0⟩, ?_, ?_⟩
  · intro b hb; rw [List.mem_singleton.mp hb]; exact hI
  · intro p hp hb; exact hoff p hp (List.mem_singleton.mp hb)
  · rintro i v m₁ nw s₁ own ⟨hh, tk, rfl⟩ hi hP ⟨nx, rfl, hJ⟩ hnw hown hown2 hall hst₁ F₁ N₁
    obtain ⟨oI, hoI⟩ := hlive _ _ hst₁
    have hmI : (I, oI) ∈ own := hall I (W.sub _ (List.mem_singleton.mpr rfl)) hI oI hoI
    have hnx : ∀ p ∈ nx, p.1 ≠ I := fun p hp e => hnw p (List.mem_append_right _ hp) (List.mem_singleton.mpr e)
    have N₂ : News h₀ env.locals hh ((I, oI) :: src ++ nx) := fun p hp => by
      rcases List.mem_cons.mp (by simpa using hp : p ∈ (I, oI) :: (src ++ nx)) with rfl | hp
      · exact N₁ _ (List.mem_append_left _ hmI)
      · exact N₁ p (List.mem_append_right _ hp)
    refine wpAny_mono (turn i v m₁ nx hh tk oI hi hP hJ hnx F₁ N₂) (fun f s₂ hp => ?_) fun _ _ e => e
    have key : (∃ h' tk m' nx, s₂ = { s with heap := h', toks := tk } ∧ Fr h₀ env.locals h' m' ∧ News h₀ env.locals h' ((I, oI) :: src ++ nx) ∧ (∀ p ∈ nx, p.1 ≠ I) ∧ J (i + 1) m' nx) →
        LoopStepU h₀ env.locals [I] own (fun m' nw => ∃ nx, nw = src ++ nx ∧ J (i + 1) m' nx) { s with heap := hh, toks := tk } .next s₂ := by
      rintro ⟨h', tk', m', nx', rfl, F', N', hn', hJ'⟩
      refine ⟨rfl, h', tk', m', src ++ nx', rfl, F', fun p hp => ?_, fun p hp hb => ?_, nx', rfl, hJ'⟩
      · rcases List.mem_append.mp hp with hp | hp
        · rcases hfp _ (hown p hp) with e | ⟨o, ho⟩ | ⟨o, ho⟩
          · have : p = (I, oI) := by
              have h1 := hown2 p hp
              rw [e, hoI] at h1
              obtain ⟨p1, p2⟩ := p
              cases e; cases h1; rfl
            rw [this]
            exact N' _ (by simp)
          · have h1 := hown2 p hp
            have h2 := (N₁ (p.1, o) (List.mem_append_right _ (List.mem_append_left _ ho))).1
            have h3 : o = p.2 := Option.some.inj (h2.symm.trans h1)
            have h4 : p ∈ src := by
              obtain ⟨p1, p2⟩ := p
              cases h3; exact ho
            exact N' _ (by simp [h4])
          · have := (N₁ p (List.mem_append_left _ hp)).2.2
            rw [ho] at this; cases this
        · exact N' p (by rcases List.mem_append.mp hp with h | h <;> simp [h])
      · have e := List.mem_singleton.mp hb
        rcases List.mem_append.mp hp with h | h
        · exact hsrc p h e
        · exact hn' p h e
    cases f with
    | ret v => exact .ret hp
    | brk => exact .brk hp
    | next => exact .next (key hp)
    | cont => exact .cont (key hp)
  · rintro h' tk m' nw F' N' _ ⟨nx, rfl, hJ⟩
    exact done m' nx h' tk hJ F' N'

theorem loop_range {r : Addr} {a₀ b₀ : Int} {t₀ u₀ v₀ : Tok} {n : Nat} {m : Str → Option Value} {news : List (Addr × Obj)} (hh : A.handled = none) (hr : IsRange s.heap r a₀ b₀ 1 t₀ u₀ v₀) (hsmall : Builtin.Range.small a₀ b₀ 1 = true) (hn : Builtin.Range.rangeSize a₀ b₀ 1 = (n : Int))
    (F : Fr h₀ env.locals s.heap m) (N : News h₀ env.locals s.heap news) (J : Nat → (Str → Option Value) → List (Addr × Obj) → Prop) (h0 : J 0 m news)
    (turn : ∀ i t m₁ nx h tk I oI, i < n → J i m₁ nx → (∀ p ∈ nx, p.1 ≠ I) → Fr h₀ env.locals h (fun y => if y = x then some (.int (a₀ + (i : Nat)) t) else m₁ y) → News h₀ env.locals h ((I, oI) :: [] ++ nx) →
      wpAny (model prog w) A (execs body env) (TPost h₀ env.locals (J (i + 1)) I oI [] s Q) E { s with heap := h, toks := tk })
    (done : ∀ m₁ nx h tk, J n m₁ nx → Fr h₀ env.locals h m₁ → News h₀ env.locals h nx → Q .next { s with heap := h, toks := tk }) :
    wpAny (model prog w) A (pyIter (.ref r)) (fun it s₂ => LoopAtV prog w A h₀ env x body Q E it s₂) E s := by
  refine wpAny_pyIter_range hr hsmall ?_
  refine loopAt (src := []) (Walks.range hh s.heap.objs.size a₀ 1 n) (fun i h st => ⟨_, st⟩) (next_is_new F) ?_ ?_ (by show IsRangeIter _ _ _ _ _; rw [hn]; simpa using Heap.get?_push_size _ rfl) (F.push _) (fun p hp => ⟨Heap.get?_push_of_some _ (N p hp).1, (N p hp).2⟩) ?_ J h0 ?_ ?_
  · intro hm; exact absurd F.ns.lt ((List.mem_singleton.mp hm) ▸ Nat.lt_irrefl _)
  · intro b hb; exact .inl (List.mem_singleton.mp hb)
  · intro p hp e; exact absurd (Heap.lt_size (N p hp).1) (e ▸ Nat.lt_irrefl _)
  · rintro i v m₁ nx h tk oI hi ⟨t, rfl⟩ hJ hnx F₁ N₁
    have e : a₀ + (i : Int) * 1 = a₀ + (i : Nat) := by rw [Int.mul_one]
    rw [e] at F₁
    exact turn i t m₁ nx h tk _ oI hi hJ hnx F₁ N₁
  · intro m₁ nx h tk hJ F₁ N₁; exact done m₁ nx h tk hJ F₁ N₁

theorem loop_list {l : Addr} {items : List Value} {m : Str → Option Value} {news src : List (Addr × Obj)} (hh : A.handled = none) (hl : s.heap.IsList l items.toArray) (hsrc : (∃ o, (l, o) ∈ src) ∨ ∃ o, h₀.get? l = some o) (hlL : l ≠ env.locals)
    (F : Fr h₀ env.locals s.heap m) (N : News h₀ env.locals s.heap (src ++ news)) (J : Nat → (Str → Option Value) → List (Addr × Obj) → Prop) (h0 : J 0 m news)
    (turn : ∀ i v m₁ nx h tk I oI, items[i]? = some v → J i m₁ nx → (∀ p ∈ nx, p.1 ≠ I) → Fr h₀ env.locals h (fun y => if y = x then some v else m₁ y) → News h₀ env.locals h ((I, oI) :: src ++ nx) →
      wpAny (model prog w) A (execs body env) (TPost h₀ env.locals (J (i + 1)) I oI src s Q) E { s with heap := h, toks := tk })
    (done : ∀ m₁ nx h tk, J items.length m₁ nx → Fr h₀ env.locals h m₁ → News h₀ env.locals h (src ++ nx) → Q .next { s with heap := h, toks := tk }) :
    wpAny (model prog w) A (pyIter (.ref l)) (fun it s₂ => LoopAtV prog w A h₀ env x body Q E it s₂) E s := by
  refine wpAny_pyIter_list hl ?_
  have hne : l ≠ s.heap.objs.size := by obtain ⟨o, ho, _⟩ := hl; exact Nat.ne_of_lt (Heap.lt_size ho)
  refine loopAt (src := src) (Walks.list hh s.heap.objs.size l hne items.toArray) (fun i h st => by obtain ⟨⟨o, ho, _⟩, _⟩ := st; exact ⟨o, ho⟩) (next_is_new F) ?_ ?_ ⟨⟨_, Heap.get?_push_size _ rfl, rfl, rfl⟩, hl.at fun o e => Heap.get?_push_of_some _ e⟩ (F.push _) (fun p hp => ⟨Heap.get?_push_of_some _ (N p hp).1, (N p hp).2⟩) ?_ J h0 ?_ ?_
  · intro hm
    rcases List.mem_cons.mp hm with e | hm
    · exact absurd F.ns.lt (e ▸ Nat.lt_irrefl _)
    · exact hlL (List.mem_singleton.mp hm).symm
  · intro b hb
    rcases List.mem_cons.mp hb with e | hm
    · exact .inl e
    · rw [List.mem_singleton.mp hm]; exact .inr hsrc
  · intro p hp e; exact absurd (Heap.lt_size (N p hp).1) (e ▸ Nat.lt_irrefl _)
  · intro i v m₁ nx h tk oI hi hP hJ hnx F₁ N₁
    exact turn i v m₁ nx h tk _ oI (by simpa using hP) hJ hnx F₁ N₁
  · intro m₁ nx h tk hJ F₁ N₁; exact done m₁ nx h tk (by simpa using hJ) F₁ N₁

theorem loop_str {z : Str} {t₀ : Tok} {m : Str → Option Value} {news : List (Addr × Obj)} (hh : A.handled = none)
    (F : Fr h₀ env.locals s.heap m) (N : News h₀ env.locals s.heap news) (J : Nat → (Str → Option Value) → List (Addr × Obj) → Prop) (h0 : J 0 m news)
    (turn : ∀ i c t m₁ nx h tk I oI, z.cps[i]? = some c → J i m₁ nx → (∀ p ∈ nx, p.1 ≠ I) → Fr h₀ env.locals h (fun y => if y = x then some (.str ⟨#[c]⟩ t) else m₁ y) → News h₀ env.locals h ((I, oI) :: [] ++ nx) →
      wpAny (model prog w) A (execs body env) (TPost h₀ env.locals (J (i + 1)) I oI [] s Q) E { s with heap := h, toks := tk })
    (done : ∀ m₁ nx h tk, J z.cps.size m₁ nx → Fr h₀ env.locals h m₁ → News h₀ env.locals h nx → Q .next { s with heap := h, toks := tk }) :
    wpAny (model prog w) A (pyIter (.str z t₀)) (fun it s₂ => LoopAtV prog w A h₀ env x body Q E it s₂) E s := by
  have core : ∀ (St : Nat → Heap → Prop) (o : Obj), Walks prog w A s.heap.objs.size [s.heap.objs.size] [s.heap.objs.size] z.cps.size (SignAt z) St → (∀ i h, St i h → ∃ o, h.get? s.heap.objs.size = some o) → St 0 (s.heap.push o) →
      LoopAtV prog w A h₀ env x body Q E (.ref s.heap.objs.size) { s with heap := s.heap.push o } := fun St o W hlive hst => by
    refine loopAt (src := []) W hlive (next_is_new F) ?_ ?_ hst (F.push _) (fun p hp => ⟨Heap.get?_push_of_some _ (N p hp).1, (N p hp).2⟩) ?_ J h0 ?_ ?_
    · intro hm; exact absurd F.ns.lt ((List.mem_singleton.mp hm) ▸ Nat.lt_irrefl _)
    · intro b hb; exact .inl (List.mem_singleton.mp hb)
    · intro p hp e; exact absurd (Heap.lt_size (N p hp).1) (e ▸ Nat.lt_irrefl _)
    · rintro i v m₁ nx h tk oI hi ⟨c, t, hc, rfl⟩ hJ hnx F₁ N₁
      exact turn i c t m₁ nx h tk _ oI hc hJ hnx F₁ N₁
    · intro m₁ nx h tk hJ F₁ N₁; exact done m₁ nx h tk hJ F₁ N₁
  cases ha : z.cps.all (· < 128)
  · exact wpAny_pyIter_wide ha (core _ _ (Walks.strWide hh _ z t₀) (fun i h st => let ⟨o, ho, _⟩ := st; ⟨o, ho⟩) ⟨_, Heap.get?_push_size _ rfl, rfl, rfl⟩)
  · exact wpAny_pyIter_ascii ha (core _ _ (Walks.strAscii hh _ z t₀) (fun i h st => let ⟨o, ho, _⟩ := st; ⟨o, ho⟩) ⟨_, Heap.get?_push_size _ rfl, rfl, rfl⟩)
end
def Knows (m : Str → Option Value) : List (Str × Value) → Prop
  | [] => True
  | (x, v) :: l => m x = some v ∧ Knows m l
def ov : List (Str × Value) → (Str → Option Value) → Str → Option Value
  | [], m => m
  | (x, v) :: l, m => fun y => if y = x then some v else ov l m y
theorem ov_eq {m : Str → Option Value} : ∀ {l : List (Str × Value)}, Knows m l → ov l m = m
  | [], _ => rfl
  | (x, v) :: l, h => by
    funext y
    show (if y = x then some v else ov l m y) = m y
    rw [ov_eq h.2]
    by_cases q : y = x
    · subst q; simp [h.1]
    · simp [q]
theorem fr_ov {h₀ h : Heap} {L : Addr} {m : Str → Option Value} (l : List (Str × Value)) (F : Fr h₀ L h m) (k : Knows m l) : Fr h₀ L h (ov l m) := by rw [ov_eq k]; exact F
theorem fr_turn {h₀ h : Heap} {L : Addr} {m : Str → Option Value} {x : Str} {v : Value} (l : List (Str × Value)) (F : Fr h₀ L h (fun y => if y = x then some v else m y)) (k : Knows m l) : Fr h₀ L h (ov ((x, v) :: l) m) := by
  show Fr h₀ L h (fun y => if y = x then some v else ov l m y)
  rw [ov_eq k]; exact F
section
structure WsD where
  n : Int
  nt : Int
  cnt : List Int
  b : Int
/-- where an instance lies, and the tokens in it -/
structure WsA where
  x : Addr
  dx : Addr
  tn : Addr
  tc : Addr
  k1 : Tok
  k2 : Tok
  k3 : Tok
  k4 : Tok
  k5 : Tok
  n : Tok
  nt : Tok
  b : Tok
  cs : List Value
  raw : Value
abbrev tupObj (l : List Value) : Obj := { cls := .type "tuple", data := .seq l.toArray }
abbrev lstObj (l : List Value) (e : Nat := 0) : Obj := { cls := .type "list", data := .seq l.toArray e }
abbrev wsEs (P : Params) (a : WsA) (d : WsD) : List DictEntry :=
  [⟨PyData.keyHash P (Str.ofString "raw"), .str (Str.ofString "raw") a.k1, a.raw⟩, ⟨PyData.keyHash P (Str.ofString "n"), .str (Str.ofString "n") a.k2, .int d.n a.n⟩,
   ⟨PyData.keyHash P (Str.ofString "nt"), .str (Str.ofString "nt") a.k3, .int d.nt a.nt⟩, ⟨PyData.keyHash P (Str.ofString "norm"), .str (Str.ofString "norm") a.k4, .ref a.tn⟩,
   ⟨PyData.keyHash P (Str.ofString "is_simple"), .str (Str.ofString "is_simple") a.k5, .bool (decide (d.cnt.length ≤ 1))⟩]
abbrev wsObjs (P : Params) (a : WsA) (d : WsD) : List (Addr × Obj) :=
  [(a.x, instObj 97 a.dx), (a.dx, dictOf (wsEs P a d) 5), (a.tn, tupObj [.ref a.tc, .int d.b a.b]), (a.tc, tupObj a.cs)]
def longF (d : WsD) : Int := if d.b > (d.cnt.length : Int) - 1 then d.b else (d.cnt.length : Int) - 1
section
variable {prog : Program} {w : World} {A : Around} {E : Value → Shared → Prop} {s : Shared} {Q : Value → Shared → Prop}
theorem len_tupN {t : Addr} {l : List Value} {k : Nat} (ht : IsTup s.heap t l.toArray) (e : l.length = k) (hfit : k ≤ 1000) (h : Q (.int (k : Int) (s.toks + 1)) { s with toks := s.toks + 1 + 1 }) : wpAny (model prog w) A (call (.builtin "len") [.ref t]) Q E s := by
  subst e
  exact len_tuple ht (by rw [List.size_toArray]; omega) (by rw [List.size_toArray]; exact h)
end
local macro_rules | `(tactic| walk_at "call builtin:len") => `(tactic| (k_dflt (refine' len_tupN ?T ?e ?f ?_; (case T => refine News.isTup (by k_asm) (by k_mem)); (case e => assumption); (case f => assumption); k_whole)))
section
variable {w : World} {A : Around} {E : Value → Shared → Prop} {s : Shared} {mg mb : Str → Option Value} {Q : Value → Shared → Prop} {h₀ : Heap} {L₀ : Addr} {m₀ : Str → Option Value}
theorem long_spec (a : WsA) (d : WsD) (F : Fr h₀ L₀ s.heap m₀) (N : News h₀ L₀ s.heap (wsObjs w.params a d)) (hc : a.cs.length = d.cnt.length) (hf : d.cnt.length ≤ 1000) (X : (KK w.params).In h₀) (T : TR mg mb h₀) (hA : A.depth < recursionLimit) (hh : A.handled = none)
    (h : ∀ h' tk t, s.heap.StaysIn h' → Q (.int (longF d) t) { s with heap := h', toks := tk }) :
    wpAny (model P0 w) A (call (.ref 59) [.ref a.x]) Q E s := by
  obtain ⟨hd, dp, fr, gs, un⟩ := A
  cases (show hd = none from hh)
  (refine' callW _ ?k0 ?kN ?k1 ?k2 ?k3 ?k4 ?k5 ?k6 ?k7 ?_ ?c1 ?c2 ?c3 ?c4; (case k0 => k_asm); (case kN => k_asm); (case k1 => k_asm); (case k2 => k_asm); (case k4 => k_is); (case k5 => k_is); (case k6 => exact BindsTo.of_eq rfl); (case k7 => exact locs rfl); (case c1 => decide); (case c2 => exact rfl); (case c3 => exact rfl); (case c4 => exact rfl); (case k3 => first | assumption | omega))
  intro g L' h' H' F' N' l' X' T'
  simp only [wsObjs, tupObj, wsEs] at N'
  k_fold
  k_steps
  rename Fr _ _ _ _ => FF
  rename News _ _ _ _ => NN
  exact h _ _ _ (H'.stays FF.keep (fun p hp => (NN p hp).1) (fun p hp => (N p hp).1))
end
example : True := by first | walk1 | trivial
theorem mul_ok {prog : Program} {w : World} {A : Around} {E : Value → Shared → Prop} {s : Shared} {Q : Value → Shared → Prop} {a b : Int} {t u : Tok} (hm : IntMulOk a b) (h : Q (.int (a * b) s.toks) { s with toks := s.toks + 1 }) :
    wpAny (model prog w) A (binaryOp .Mult (.int a t) (.int b u)) Q E s := AutoIntOps.mul_0 h hm
section
local macro_rules | `(tactic| walk_at "binaryOp Mult int int") => `(tactic| ((with_reducible rename ∀ y, IntMulOk _ y => hq'); refine mul_ok (hq' _) ?_))
def Small (x : Int) : Prop := x < 1000
theorem mulok {a : Int} (h1 : -1000000 < a) (h2 : a < 1000000) : ∀ y, IntMulOk a y := fun y => .of_left (intBits_le_64 (by omega) (by omega))
theorem fdiv_small {a b : Int} (h1 : 0 ≤ a) (h2 : a < 10000) (h3 : 2 ≤ b) : -1000000 < a.fdiv b ∧ a.fdiv b < 1000000 := by
  rw [Int.fdiv_eq_ediv_of_nonneg _ (by omega)]
  have h4 := Int.ediv_nonneg h1 (show 0 ≤ b by omega)
  have h5 := Int.ediv_le_self b h1
  omega
theorem range_small {a b : Int} (h1 : 0 ≤ a) (h2 : a < 100000) (h3 : 0 ≤ b) (h4 : b < 100000) : Builtin.Range.small a b 1 = true := small_one (by omega) (by omega) (by omega) (by omega)
theorem range_size {a b : Int} : Builtin.Range.rangeSize a b 1 = ((b - a).toNat : Int) := by
  unfold Builtin.Range.rangeSize
  simp only [show (1 : Int) > 0 from by decide, if_true]
  split <;> omega
section
variable {w : World} {A : Around} {E : Value → Shared → Prop} {s : Shared} {mg mb : Str → Option Value} {Q : Value → Shared → Prop} {h₀ : Heap} {L₀ : Addr} {m₀ : Str → Option Value}
def ilS (cnt : List Int) (ts : Int) : Nat → Int
  | 0 => 0
  | k + 1 => ilS cnt ts k + (ts + (k : Nat)).fdiv ts * cnt.getD (ts + (k : Nat)).toNat 0
def indentF (d : WsD) (ts : Int) : Int := d.b + ts * (ilS d.cnt ts ((d.cnt.length : Int) - ts).toNat + d.nt)
theorem indent_spec (a : WsA) (d : WsD) (ts : Int) (tt : Tok) (hts : 2 ≤ ts) (hts2 : Small ts) (F : Fr h₀ L₀ s.heap m₀) (N : News h₀ L₀ s.heap (wsObjs w.params a d)) (hc : a.cs.length = d.cnt.length) (hi : IntsAre a.cs d.cnt) (hf : d.cnt.length ≤ 1000) (X : (KK w.params).In h₀) (T : TR mg mb h₀) (hA : A.depth < recursionLimit) (hh : A.handled = none)
    (h : ∀ h' tk t, s.heap.StaysIn h' → Q (.int (indentF d ts) t) { s with heap := h', toks := tk }) :
    wpAny (model P0 w) A (call (.ref 66) [.ref a.x, .int ts tt]) Q E s := by
  obtain ⟨hd, dp, fr, gs, un⟩ := A
  cases (show hd = none from hh)
  (refine' callW _ ?k0 ?kN ?k1 ?k2 ?k3 ?k4 ?k5 ?k6 ?k7 ?_ ?c1 ?c2 ?c3 ?c4; (case k0 => k_asm); (case kN => k_asm); (case k1 => k_asm); (case k2 => k_asm); (case k4 => k_is); (case k5 => k_is); (case k6 => exact BindsTo.of_eq rfl); (case k7 => exact locs rfl); (case c1 => decide); (case c2 => exact rfl); (case c3 => exact rfl); (case c4 => exact rfl); (case k3 => first | assumption | omega))
  intro g L' h' H' F' N' l' X' T'
  simp only [wsObjs, tupObj, wsEs] at N'
  k_fold
  k_steps
  refine' loop_range (n := ((d.cnt.length : Int) - ts).toNat) ?hh ?hr ?hs ?hn ?F ?N (fun i m nx => nx = wsObjs w.params a d ∧ ∃ t, Knows m [(Str.ofString "il", .int (ilS d.cnt ts i) t), (Str.ofString "self", .ref a.x), (Str.ofString "tabsize", .int ts tt), (Str.ofString "count", .ref a.tc), (Str.ofString "trailing", .int d.b a.b)]) ?h0 ?turn ?done
  case hh => exact rfl
  case hr => assumption
  case F => assumption
  case N => assumption
  case h0 => exact ⟨rfl, _, rfl, rfl, rfl, rfl, rfl, trivial⟩
  case hs =>
    unfold Small at hts2
    exact range_small (by omega) (by omega) (by omega) (by omega)
  case hn => exact range_size
  case turn =>
    rintro i t m₁ nx h tk I oI hi' ⟨rfl, t2, hk⟩ hnx F₁ N₁
    k_fold
    replace F₁ := fr_turn _ F₁ hk
    simp only [wsObjs, tupObj, wsEs] at N₁
    have hq := fdiv_small (a := ts + (i : Nat)) (b := ts) (by omega) (by omega) hts
    have hq2 := mulok hq.1 hq.2
    k_steps
    rename Fr _ _ _ _ => FF
    rename News _ _ _ _ => NN
    exact ⟨_, _, _, wsObjs w.params a d, rfl, FF, NN, hnx, rfl, _, rfl, rfl, rfl, rfl, rfl, trivial⟩
  case done =>
    rintro m₁ nx h₂ tk ⟨rfl, t, hk⟩ F₁ N₁
    replace F₁ := fr_ov _ F₁ hk
    simp only [wsObjs, tupObj, wsEs] at N₁
    unfold Small at hts2
    have hq2 := mulok (a := ts) (by omega) (by omega)
    k_steps
    rename Fr _ _ _ _ => FF
    rename News _ _ _ _ => NN
    exact h _ _ _ (H'.stays FF.keep (fun p hp => (NN p hp).1) (fun p hp => (N p hp).1))
end

end
example : True := by first | walk1 | trivial
end
example : True := by first | walk1 | trivial
section
variable {w : World} {A : Around} {E : Value → Shared → Prop} {s : Shared} {mg mb : Str → Option Value} {Q : Value → Shared → Prop} {h₀ : Heap} {L₀ : Addr} {m₀ : Str → Option Value} {news : List (Addr × Obj)}
structure WsOk (a : WsA) (d : WsD) : Prop where
  hlen : a.cs.length = d.cnt.length
  hints : IntsAre a.cs d.cnt
  hsmall : d.cnt.length ≤ 1000
theorem long_N {a : WsA} {d : WsD} (F : Fr h₀ L₀ s.heap m₀) (N : News h₀ L₀ s.heap news) (W : WsOk a d) (hs : ∀ p ∈ wsObjs w.params a d, p ∈ news) (X : (KK w.params).In h₀) (T : TR mg mb h₀) (hA : A.depth < recursionLimit) (hh : A.handled = none)
    (h : ∀ h' tk t, Fr h₀ L₀ h' m₀ → News h₀ L₀ h' news → Q (.int (longF d) t) { s with heap := h', toks := tk }) : wpAny (model P0 w) A (call (.ref 59) [.ref a.x]) Q E s :=
  long_spec a d F (news_sub N hs) W.hlen W.hsmall X T hA hh fun h' tk t st => h h' tk t (F.grownK st) (N.grown st)
theorem indent_N {a : WsA} {d : WsD} {ts : Int} {tt : Tok} (F : Fr h₀ L₀ s.heap m₀) (N : News h₀ L₀ s.heap news) (W : WsOk a d) (hs : ∀ p ∈ wsObjs w.params a d, p ∈ news) (X : (KK w.params).In h₀) (T : TR mg mb h₀) (hA : A.depth < recursionLimit) (hh : A.handled = none) (h2 : 2 ≤ ts) (h3 : Small ts)
    (h : ∀ h' tk t, Fr h₀ L₀ h' m₀ → News h₀ L₀ h' news → Q (.int (indentF d ts) t) { s with heap := h', toks := tk }) : wpAny (model P0 w) A (call (.ref 66) [.ref a.x, .int ts tt]) Q E s :=
  indent_spec a d ts tt h2 h3 F (news_sub N hs) W.hlen W.hints W.hsmall X T hA hh fun h' tk t st => h h' tk t (F.grownK st) (N.grown st)
end
theorem mem4l {α : Type} {a b c d : α} {l : List α} : ∀ p ∈ [a, b, c, d], p ∈ a :: b :: c :: d :: l := fun p hp => by simp only [List.mem_cons, List.not_mem_nil, or_false] at hp ⊢; rcases hp with h | h | h | h <;> simp [h]
theorem mem4r {α : Type} {a b c d a' b' c' d' : α} {l : List α} : ∀ p ∈ [a, b, c, d], p ∈ a' :: b' :: c' :: d' :: a :: b :: c :: d :: l := fun p hp => by simp only [List.mem_cons, List.not_mem_nil, or_false] at hp ⊢; rcases hp with h | h | h | h <;> simp [h]
theorem mem4l' {α : Type} {x a b c d : α} {l : List α} : ∀ p ∈ [a, b, c, d], p ∈ x :: a :: b :: c :: d :: l := fun p hp => by simp only [List.mem_cons, List.not_mem_nil, or_false] at hp ⊢; rcases hp with h | h | h | h <;> simp [h]
theorem mem4r' {α : Type} {x a b c d a' b' c' d' : α} {l : List α} : ∀ p ∈ [a, b, c, d], p ∈ x :: a' :: b' :: c' :: d' :: a :: b :: c :: d :: l := fun p hp => by simp only [List.mem_cons, List.not_mem_nil, or_false] at hp ⊢; rcases hp with h | h | h | h <;> simp [h]
section
local macro_rules | `(tactic| walk_at "call ref") => `(tactic| (k_dflt (first
  | (refine' long_N ?F ?N ?W ?s ?X ?T ?A ?h ?_; (case F => k_asm); (case N => k_asm); (case W => assumption); (case s => first | exact mem4l | exact mem4r | exact mem4l' | exact mem4r'); (case X => k_asm); (case T => k_asm); (case A => (dsimp only [Around.deeper]; omega)); (case h => exact rfl); k_whole; intro h' tk' t' F' N'; (try k_sweep))
  | (refine' indent_N ?F ?N ?W ?s ?X ?T ?A ?h ?a ?b ?_; (case F => k_asm); (case N => k_asm); (case W => assumption); (case s => first | exact mem4l | exact mem4r | exact mem4l' | exact mem4r'); (case X => k_asm); (case T => k_asm); (case A => (dsimp only [Around.deeper]; omega)); (case h => exact rfl); (case a => assumption); (case b => assumption); k_whole; intro h' tk' t' F' N'; (try k_sweep)))))
def nF (d e : WsD) : Int := (if longF e > longF d then longF e else longF d) + 1
def lessLoop (d e : WsD) (k : Nat) : Bool := (List.range k).all fun j => decide (indentF d (2 + (j : Nat)) < indentF e (2 + (j : Nat)))
def lessF (d e : WsD) : Bool :=
  if d.n ≥ e.n then false else if d.cnt.length ≤ 1 ∧ e.cnt.length ≤ 1 then decide (d.nt ≤ e.nt) else lessLoop d e (nF d e - 1).toNat
theorem lessLoop_succ {d e : WsD} {k : Nat} (h : lessLoop d e k = true) (q : indentF d (2 + (k : Nat)) < indentF e (2 + (k : Nat))) : lessLoop d e (k + 1) = true := by
  unfold lessLoop at h ⊢
  rw [List.range_succ, List.all_append, h]
  simpa using q
theorem lessLoop_false {d e : WsD} {k n : Nat} (hk : k < n) (q : indentF d (2 + (k : Nat)) ≥ indentF e (2 + (k : Nat))) : lessLoop d e n = false := by
  unfold lessLoop
  rw [List.all_eq_false]
  exact ⟨k, List.mem_range.mpr hk, by simp; omega⟩
def Small0 (x : Int) : Prop := 0 ≤ x ∧ x < 900
section
variable {w : World} {A : Around} {E : Value → Shared → Prop} {s : Shared} {mg mb : Str → Option Value} {Q : Value → Shared → Prop} {h₀ : Heap} {L₀ : Addr} {m₀ : Str → Option Value}
theorem less_spec (a b : WsA) (d e : WsD) (Wa : WsOk a d) (Wb : WsOk b e) (hn : Small0 (nF d e)) (F : Fr h₀ L₀ s.heap m₀) (N : News h₀ L₀ s.heap (wsObjs w.params a d ++ wsObjs w.params b e)) (X : (KK w.params).In h₀) (T : TR mg mb h₀) (hA : A.depth + 10 < recursionLimit) (hh : A.handled = none)
    (h : ∀ h' tk, s.heap.StaysIn h' → Q (.bool (lessF d e)) { s with heap := h', toks := tk }) :
    wpAny (model P0 w) A (call (.ref 87) [.ref a.x, .ref b.x]) Q E s := by
  obtain ⟨hd, dp, fr, gs, un⟩ := A
  cases (show hd = none from hh)
  replace hA : dp + 10 < recursionLimit := hA
  have hA2 : (⟨none, dp, fr, gs, un⟩ : Around).depth < recursionLimit := by show dp < recursionLimit; omega
  simp only [wsObjs, tupObj, wsEs, List.cons_append, List.nil_append] at N
  (refine' callW _ ?k0 ?kN ?k1 ?k2 ?k3 ?k4 ?k5 ?k6 ?k7 ?_ ?c1 ?c2 ?c3 ?c4; (case k0 => k_asm); (case kN => k_asm); (case k1 => k_asm); (case k2 => k_asm); (case k4 => k_is); (case k5 => k_is); (case k6 => exact BindsTo.of_eq rfl); (case k7 => exact locs rfl); (case c1 => decide); (case c2 => exact rfl); (case c3 => exact rfl); (case c4 => exact rfl); (case k3 => first | assumption | omega))
  intro g L' h' H' F' N' l' X' T'
  k_fold
  by_cases c1 : d.n ≥ e.n
  · have e1 : lessF d e = false := by unfold lessF; simp [c1]
    rw [e1] at h
    k_steps
    rename Fr _ _ _ _ => FF
    rename News _ _ _ _ => NN
    exact h _ _ (H'.stays FF.keep (fun p hp => (NN p hp).1) (fun p hp => (N p hp).1))
  by_cases c2 : d.cnt.length ≤ 1 ∧ e.cnt.length ≤ 1
  · have e1 : lessF d e = decide (d.nt ≤ e.nt) := by unfold lessF; simp [c1, c2]
    rw [e1] at h
    obtain ⟨c3, c4⟩ := c2
    k_steps
    rename Fr _ _ _ _ => FF
    rename News _ _ _ _ => NN
    exact h _ _ (H'.stays FF.keep (fun p hp => (NN p hp).1) (fun p hp => (N p hp).1))
  have e1 : lessF d e = lessLoop d e (nF d e - 1).toNat := by unfold lessF; simp [c1, c2]
  rw [e1] at h
  k_steps
  all_goals
    refine' loop_range (n := (nF d e - 1).toNat) ?hh ?hr ?hs ?hn ?F ?N (fun i m nx => nx = wsObjs w.params a d ++ wsObjs w.params b e ∧ lessLoop d e i = true ∧ Knows m [(Str.ofString "self", .ref a.x), (Str.ofString "other", .ref b.x)]) ?h0 ?turn ?done
    case hh => exact rfl
    case hr => assumption
    case F => assumption
    case N => assumption
    case h0 => exact ⟨rfl, rfl, rfl, rfl, trivial⟩
    case hs =>
      unfold Small0 nF at hn
      exact range_small (by omega) (by omega) (by omega) (by omega)
    case hn =>
      rw [range_size]
      unfold nF
      generalize (if longF e > longF d then longF e else longF d) = X
      omega
    case turn =>
      rintro i t m₁ nx h2 tk I oI hi' ⟨rfl, hl, hk⟩ hnx F₁ N₁
      k_fold
      replace F₁ := fr_turn _ F₁ hk
      simp only [wsObjs, tupObj, wsEs, List.cons_append, List.nil_append] at N₁
      have q1 : (2 : Int) ≤ 2 + (i : Nat) := by omega
      have q2 : Small (2 + (i : Nat)) := by unfold Small0 at hn; unfold Small; omega
      k_steps
      · have q3 : lessLoop d e (nF d e - 1).toNat = false := lessLoop_false hi' (by omega)
        rw [q3] at h
        rename Fr _ _ _ _ => FF
        rename News _ _ _ _ => NN
        exact h _ _ (H'.stays FF.keep (fun p hp => (NN p (List.mem_cons_of_mem _ hp)).1) (fun p hp => (N p hp).1))
      · rename Fr _ _ _ _ => FF
        rename News _ _ _ _ => NN
        exact ⟨_, _, _, wsObjs w.params a d ++ wsObjs w.params b e, rfl, FF, NN, hnx, rfl, lessLoop_succ hl (by omega), rfl, rfl, trivial⟩
    case done =>
      rintro m₁ nx h₂ tk ⟨rfl, hl, hk⟩ F₁ N₁
      replace F₁ := fr_ov _ F₁ hk
      simp only [wsObjs, tupObj, wsEs, List.cons_append, List.nil_append] at N₁
      k_steps
      rename Fr _ _ _ _ => FF
      rename News _ _ _ _ => NN
      rw [hl] at h
      exact h _ _ (H'.stays FF.keep (fun p hp => (NN p hp).1) (fun p hp => (N p hp).1))
end

end
example : True := by first | walk1 | trivial
section
variable {prog : Program} {w : World} {A : Around} {E : Value → Shared → Prop} {s : Shared} {env : Env} {h₀ : Heap} {x : Str} {body : List Stmt} {Q : Flow → Shared → Prop}
def TPostD (h₀ : Heap) (L : Addr) (Jn D : (Str → Option Value) → List (Addr × Obj) → Prop) (I : Addr) (oI : Obj) (src : List (Addr × Obj)) (s : Shared) (f : Flow) (s₂ : Shared) : Prop :=
  match f with
  | .ret _ => False
  | .brk => ∃ h' tk m' nx, s₂ = { s with heap := h', toks := tk } ∧ Fr h₀ L h' m' ∧ News h₀ L h' (src ++ nx) ∧ D m' nx
  | _ => ∃ h' tk m' nx, s₂ = { s with heap := h', toks := tk } ∧ Fr h₀ L h' m' ∧ News h₀ L h' ((I, oI) :: src ++ nx) ∧ (∀ p ∈ nx, p.1 ≠ I) ∧ Jn m' nx
theorem TPostD.to {L : Addr} {Jn D : (Str → Option Value) → List (Addr × Obj) → Prop} {I : Addr} {oI : Obj} {src : List (Addr × Obj)} {f : Flow} {s₂ : Shared} (hp : TPostD h₀ L Jn D I oI src s f s₂)
    (tail : ∀ m₁ nx h tk, D m₁ nx → Fr h₀ L h m₁ → News h₀ L h (src ++ nx) → Q .next { s with heap := h, toks := tk }) : TPost h₀ L Jn I oI src s Q f s₂ := by
  cases f with
  | ret v => exact hp.elim
  | brk =>
    obtain ⟨h', tk, m', nx, rfl, F', N', hD⟩ := hp
    exact tail m' nx h' tk hD F' N'
  | next => exact hp
  | cont => exact hp
theorem loop_strD {z : Str} {t₀ : Tok} {m : Str → Option Value} {news : List (Addr × Obj)} (hh : A.handled = none)
    (F : Fr h₀ env.locals s.heap m) (N : News h₀ env.locals s.heap news) (J : Nat → (Str → Option Value) → List (Addr × Obj) → Prop) (D : (Str → Option Value) → List (Addr × Obj) → Prop) (h0 : J 0 m news)
    (turn : ∀ i c t m₁ nx h tk I oI, z.cps[i]? = some c → J i m₁ nx → (∀ p ∈ nx, p.1 ≠ I) → Fr h₀ env.locals h (fun y => if y = x then some (.str ⟨#[c]⟩ t) else m₁ y) → News h₀ env.locals h ((I, oI) :: [] ++ nx) →
      wpAny (model prog w) A (execs body env) (TPostD h₀ env.locals (J (i + 1)) D I oI [] s) E { s with heap := h, toks := tk })
    (done : ∀ m₁ nx, J z.cps.size m₁ nx → D m₁ nx)
    (tail : ∀ m₁ nx h tk, D m₁ nx → Fr h₀ env.locals h m₁ → News h₀ env.locals h nx → Q .next { s with heap := h, toks := tk }) :
    wpAny (model prog w) A (pyIter (.str z t₀)) (fun it s₂ => LoopAtV prog w A h₀ env x body Q E it s₂) E s :=
  loop_str hh F N J h0 (fun i c t m₁ nx h tk I oI hc hJ hn F₁ N₁ => wpAny_mono (turn i c t m₁ nx h tk I oI hc hJ hn F₁ N₁) (fun f s₂ hp => hp.to tail) fun _ _ e => e)
    fun m₁ nx h tk hJ F₁ N₁ => tail m₁ nx h tk (done m₁ nx hJ) F₁ N₁
end
abbrev rawD (P : Params) (kr : Tok) (v : Value) : Obj := dictOf [⟨PyData.keyHash P (Str.ofString "raw"), .str (Str.ofString "raw") kr, v⟩] 1
theorem news3 {h₀ h : Heap} {L : Addr} {news : List (Addr × Obj)} {a b c : Addr × Obj} (N : News h₀ L h news) (ha : a ∈ news) (hb : b ∈ news) (hc : c ∈ news) : News h₀ L h [a, b, c] := fun p hp => by
  simp only [List.mem_cons, List.not_mem_nil, or_false] at hp
  rcases hp with rfl | rfl | rfl
  · exact N _ ha
  · exact N _ hb
  · exact N _ hc
theorem news4 {h₀ h : Heap} {L : Addr} {news : List (Addr × Obj)} {a b c d : Addr × Obj} (N : News h₀ L h news) (ha : a ∈ news) (hb : b ∈ news) (hc : c ∈ news) (hd : d ∈ news) : News h₀ L h [a, b, c, d] := fun p hp => by
  simp only [List.mem_cons, List.not_mem_nil, or_false] at hp
  rcases hp with rfl | rfl | rfl | rfl
  · exact N _ ha
  · exact N _ hb
  · exact N _ hc
  · exact N _ hd
theorem leaveW {h₀ h₁ g h' : Heap} {L₀ L' : Addr} {m₀ m' : Str → Option Value} {hid rest nw : List (Addr × Obj)} (F : Fr h₀ L₀ h₁ m₀) (N : News h₀ L₀ h₁ hid) (Nr : News h₀ L₀ h₁ rest) (H : Hides h₁ g hid) (F' : Fr g L' h' m') (N' : News g L' h' nw)
    (hr : ∀ p ∈ rest, p.1 ∉ hid.map (·.1)) : Fr h₀ L₀ h' m₀ ∧ News h₀ L₀ h' (nw ++ rest) := by
  have K : ∀ b o, h₁.get? b = some o → b ∉ hid.map (·.1) → h'.get? b = some o := fun b o e n => F'.keep b o (H.keep b o e n)
  have nL : L₀ ∉ hid.map (·.1) := fun q => by
    obtain ⟨p, hp, e⟩ := List.mem_map.mp q
    exact (N p hp).2.1 e
  have n0 : ∀ b o, h₀.get? b = some o → b ∉ hid.map (·.1) := fun b o e q => by
    obtain ⟨p, hp, rfl⟩ := List.mem_map.mp q
    rw [(N p hp).2.2] at e; cases e
  refine ⟨⟨F.ns.at' fun o e => K _ o e nL, fun b o e => K b o (F.keep b o e) (n0 b o e), F.above⟩, fun p hp => ?_⟩
  rcases List.mem_append.mp hp with hp | hp
  · refine ⟨(N' p hp).1, fun e => ?_, ?_⟩
    · obtain ⟨o, es, ep, ho, _⟩ := F.ns
      have := H.keep L₀ o ho nL
      rw [← e, (N' p hp).2.2] at this; cases this
    · cases q : h₀.get? p.1 with
      | none => rfl
      | some o =>
        have := H.keep _ o (F.keep _ o q) (n0 _ o q)
        rw [(N' p hp).2.2] at this; cases this
  · exact ⟨K _ _ (Nr p hp).1 (hr p hp), (Nr p hp).2⟩
structure Sc where
  n : Int
  nt : Int
  b : Nat
  cnt : List Int
def padTo (cnt : List Int) (b : Nat) : List Int := if cnt.length ≤ b then cnt ++ List.replicate (b - cnt.length + 1) 0 else cnt
def scanS (q : Sc) : Sc := { q with n := q.n + 1, b := q.b + 1 }
def scanT (q : Sc) : Sc := { n := q.n + 1, nt := q.nt + 1, b := 0, cnt := (padTo q.cnt q.b).set q.b ((padTo q.cnt q.b).getD q.b 0 + 1) }
def scan : List Nat → Sc → Sc
  | [], q => q
  | c :: r, q => if c = 32 then scan r (scanS q) else if c = 9 then scan r (scanT q) else q
theorem scanT_pad {q : Sc} {n : Nat} (hn : n = q.cnt.length) (h : n ≤ q.b) : (scanT q).cnt = (q.cnt ++ List.replicate ((q.b : Int) - (n : Int) + 1).toNat 0).set (q.b : Int).toNat ((q.cnt ++ List.replicate ((q.b : Int) - (n : Int) + 1).toNat 0).getD (q.b : Int).toNat 0 + 1) := by
  subst hn
  have e : ((q.b : Int) - (q.cnt.length : Int) + 1).toNat = q.b - q.cnt.length + 1 := by omega
  rw [e, Int.toNat_natCast]
  simp only [scanT, padTo, if_pos h]
theorem scanT_not {q : Sc} {n : Nat} (hn : n = q.cnt.length) (h : ¬ n ≤ q.b) : (scanT q).cnt = q.cnt.set (q.b : Int).toNat (q.cnt.getD (q.b : Int).toNat 0 + 1) := by
  subst hn
  rw [Int.toNat_natCast]
  simp only [scanT, padTo, if_neg h]
def Sc.d (q : Sc) : WsD := ⟨q.n, q.nt, q.cnt, q.b⟩
def scan0 : Sc := ⟨0, 0, 0, []⟩
section
variable {prog : Program} {w : World} {A : Around} {E : Value → Shared → Prop} {s : Shared} {Q : Value → Shared → Prop} {h₀ : Heap} {L : Addr} {m : Str → Option Value} {news : List (Addr × Obj)}
theorem len_lstN {l : Addr} {vs : List Value} (hl : s.heap.IsList l vs.toArray) (hfit : vs.length ≤ 1000) (h : Q (.int (vs.length : Int) (s.toks + 1)) { s with toks := s.toks + 1 + 1 }) : wpAny (model prog w) A (call (.builtin "len") [.ref l]) Q E s :=
  len_list hl (by rw [List.size_toArray]; omega) (by rw [List.size_toArray]; exact h)
theorem foldl_rep (v : Value) : ∀ (k : Nat) (acc : List Value), List.foldl (fun (x1 x2 : Array Value) => x1 ++ x2) acc.toArray (List.replicate k #[v]) = (acc ++ List.replicate k v).toArray
  | 0, acc => by simp
  | k + 1, acc => by
    rw [List.replicate_succ, List.foldl_cons]
    have : acc.toArray ++ #[v] = (acc ++ [v]).toArray := by simp
    rw [this, foldl_rep v k (acc ++ [v])]
    simp [List.replicate_succ]
theorem mul_oneN {l : Addr} {v : Value} {k : Nat} {x : Int} {u : Tok} (F : Fr h₀ L s.heap m) (N : News h₀ L s.heap news) (hm : (l, W.listOf #[v] k) ∈ news) (h0 : 0 ≤ x) (h1 : x ≤ 1000)
    (h : ∀ a h', Fr h₀ L h' m → News h₀ L h' ((a, W.listOf (List.replicate x.toNat v).toArray 0) :: news) → (∀ p ∈ news, p.1 < a) → Q (.ref a) { s with heap := h' }) : wpAny (model prog w) A (binaryOp .Mult (.ref l) (.int x u)) Q E s := by
  refine mul_list F N (N.get hm) (by omega) (by omega) (by simp; omega) fun h' F' N' => h _ h' F' ?_ fun p hp => Heap.lt_size (N p hp).1
  have e := foldl_rep v x.toNat []
  simp only [List.nil_append] at e
  simpa [e] using N'
theorem add_lstN {l b : Addr} {vs ws : List Value} {i j : Nat} (F : Fr h₀ L s.heap m) (N : News h₀ L s.heap news) (m1 : (l, W.listOf vs.toArray i) ∈ news) (m2 : (b, W.listOf ws.toArray j) ∈ news) (hsz : vs.length + ws.length ≤ 10000)
    (h : ∀ a h', Fr h₀ L h' m → News h₀ L h' ((a, W.listOf (vs ++ ws).toArray 0) :: news) → (∀ p ∈ news, p.1 < a) → Q (.ref a) { s with heap := h' }) : wpAny (model prog w) A (binaryOp .Add (.ref l) (.ref b)) Q E s :=
  add_lists F N (N.isList m1) (N.isList m2) (fun h' F' N' => h _ h' F' N' fun p hp => Heap.lt_size (N p hp).1) (by rw [sizeLine_eq]; omega)
theorem tup_lstN {l : Addr} {vs : List Value} {i : Nat} (F : Fr h₀ L s.heap m) (N : News h₀ L s.heap news) (m1 : (l, W.listOf vs.toArray i) ∈ news) (hsz : vs.length ≤ 1000)
    (h : ∀ D h', Fr h₀ L h' m → News h₀ L h' ((D, ({ cls := .type "tuple", data := .seq vs.toArray } : Obj)) :: news) → (∀ p ∈ news, p.1 < D) → Q (.ref D) { s with heap := h' }) : wpAny (model prog w) A (call (.type "tuple") [.ref l]) Q E s :=
  kde_tupleOf F N (N.isList m1) (by rw [List.size_toArray]; omega) rfl h
theorem intsRep (t : Tok) : ∀ k : Nat, IntsAre (List.replicate k (.int 0 t)) (List.replicate k 0)
  | 0 => .nil
  | k + 1 => .cons 0 t (intsRep t k)
end
section
local macro_rules | `(tactic| walk_at "binaryOp Add ref ref") => `(tactic| (k_dflt (refine' add_lstN ?F ?N ?m ?n ?b ?_; (case F => k_asm); (case N => k_asm); (case m => k_mem); (case n => k_mem); (case b => (simp only [List.length_replicate]; omega)); k_whole); intro a' h' F' N' l1; (try k_lt l1); (try k_sweep)))
local macro_rules | `(tactic| walk_at "call type:tuple") => `(tactic| (k_dflt (refine' tup_lstN ?F ?N ?m ?b ?_; (case F => k_asm); (case N => k_asm); (case m => k_mem); (case b => omega); k_whole); intro a' h' F' N' l1; (try k_lt l1); (try k_sweep)))
local macro_rules | `(tactic| walk_at "subscriptTail Name Name ref int") => `(tactic| (k_dflt (refine' ksa_sub ?N ?m (IntsAre.append (by assumption) (intsRep _ _)) ?a ?b ?c ?_; (case N => k_asm); (case m => k_mem); (case a => omega); (case b => (simp only [List.length_append, List.length_replicate]; omega)); (case c => omega); k_whole); intro t'))
local macro_rules | `(tactic| walk_at "setItem ref int") => `(tactic| (k_dflt (refine' ksa_set ?F ?N ?U (IntsAre.append (by assumption) (intsRep _ _)) ?a ?b ?c ?_; (case F => k_asm); (case N => k_asm); (case U => k_upd); (case a => omega); (case b => (simp only [List.length_append, List.length_replicate]; omega)); (case c => omega); k_whole); intro h' F' N' i1 i2 i3; (try k_sweep)))
local macro_rules | `(tactic| walk_at "subset") => `(tactic| (intro p hp; (repeat (rcases List.mem_cons.mp hp with rfl | hp; · k_mem)); cases hp))
local macro_rules | `(tactic| walk_at "call builtin:len") => `(tactic| (k_dflt (refine' len_lstN ?T ?f ?_; (case T => refine News.isList (by k_asm) (by k_mem)); (case f => omega); k_whole)))
local macro_rules | `(tactic| walk_at "binaryOp Mult ref int") => `(tactic| (k_dflt (refine' mul_oneN ?F ?N ?m ?a ?b ?_; (case F => k_asm); (case N => k_asm); (case m => k_mem); (case a => omega); (case b => omega); k_whole); intro a' h' F' N' l1; (try k_lt l1); (try k_sweep)))
theorem drop_at {row : Str} {i c : Nat} (hc : row.cps[i]? = some c) : row.cps.toList.drop i = c :: row.cps.toList.drop (i + 1) := by
  obtain ⟨h, e⟩ := Array.getElem?_eq_some_iff.mp hc
  rw [List.drop_eq_getElem_cons (by simpa using h)]
  simp [e]
theorem chr_eq (c k : Nat) : ((⟨#[c]⟩ : Str) == (⟨#[k]⟩ : Str)) = decide (c = k) := by
  by_cases h : c = k
  · subst h; simp
  · simp [h]
theorem eq_chr {prog : Program} {w : World} {A : Around} {E : Value → Shared → Prop} {s : Shared} {Q : Value → Shared → Prop} {c k : Nat} {z : Str} {t u : Tok} (e : z = ⟨#[k]⟩) (h : Q (.bool (decide (c = k))) s) :
    wpAny (model prog w) A (compareOp .Eq (.str ⟨#[c]⟩ t) (.str z u)) Q E s := by
  subst e
  refine eq_str ?_
  rw [chr_eq]
  exact h
theorem sp_is : Str.ofString " " = ⟨#[32]⟩ := by decide +kernel
theorem tb_is : Str.ofString "\t" = ⟨#[9]⟩ := by decide +kernel
local macro_rules | `(tactic| walk_at "compareOp Eq str str") => `(tactic| (first | refine eq_chr sp_is ?_ | refine eq_chr tb_is ?_))
section
variable {w : World} {A : Around} {E : Value → Shared → Prop} {s : Shared} {mg mb : Str → Option Value} {Q : Value → Shared → Prop} {h₀ : Heap} {L₀ : Addr} {m₀ : Str → Option Value} {news : List (Addr × Obj)}
theorem make_spec (row : Str) (t : Tok) (hrow : row.cps.size ≤ 100) (F : Fr h₀ L₀ s.heap m₀) (N : News h₀ L₀ s.heap news) (X : (KK w.params).In h₀) (T : TR mg mb h₀) (hA : A.depth + 10 < recursionLimit) (hh : A.handled = none)
    (h : ∀ a h' tk, WsOk a (scan row.cps.toList scan0).d → a.raw = .str row t → (∀ p ∈ news, p.1 < a.x ∧ p.1 < a.dx ∧ p.1 < a.tn ∧ p.1 < a.tc) → Fr h₀ L₀ h' m₀ → News h₀ L₀ h' (wsObjs w.params a (scan row.cps.toList scan0).d ++ news) → Q (.ref a.x) { s with heap := h', toks := tk }) :
    wpAny (model P0 w) A (call (.ref 97) [.str row t]) Q E s := by
  obtain ⟨hd, dp, fr, gs, un⟩ := A
  cases (show hd = none from hh)
  replace hA : dp + 10 < recursionLimit := hA
  k_dflt (refine' call_cls F X N ?k4 ?k5 ?k6 ?_; (case k4 => k_is); (case k5 => k_is); (case k6 => k_is))
  intro x dx h1 F1 N1 l1 l2
  k_lt2 l2
  k_dflt (refine' codeW [(x, instObj 97 dx), (dx, dictOf [] 0)] F1 ?kN ?k1 ?k2 ?k3 ?k4 ?k5 ?k6 ?k7 ?_ ?c1 ?c2 ?c3 ?c4; (case kN => exact news_sub N1 (fun p hp => by simp only [List.mem_cons, List.not_mem_nil, or_false] at hp ⊢; rcases hp with h | h <;> simp [h])); (case k1 => k_asm); (case k2 => k_asm); (case k4 => k_is); (case k5 => k_is); (case k6 => exact BindsTo.of_eq rfl); (case k7 => exact locs rfl); (case c1 => decide); (case c2 => exact rfl); (case c3 => exact rfl); (case c4 => exact rfl))
  case k3 => (simp only [depth_under_make]; omega)
  intro g L' h' H' F' N' l' X' T'
  k_fold
  k_steps
  refine' loop_strD (news := [(_, W.listOf #[] 0), (x, instObj 97 dx), (dx, rawD w.params _ (.str row t))]) ?hh ?F ?N (fun i m nx => ∃ q : Sc, ∃ ac cs ep kr t1 t2 t3, scan (row.cps.toList.drop i) q = scan row.cps.toList scan0 ∧ IntsAre cs q.cnt ∧ cs.length ≤ i ∧ q.b ≤ i ∧ x < ac ∧ dx < ac ∧
      nx = [(ac, W.listOf cs.toArray ep), (x, instObj 97 dx), (dx, rawD w.params kr (.str row t))] ∧
      Knows m [(Str.ofString "self", .ref x), (Str.ofString "S", .str (Str.ofString " ") 248), (Str.ofString "T", .str (Str.ofString "\t") 249), (Str.ofString "count", .ref ac), (Str.ofString "b", .int q.b t1), (Str.ofString "n", .int q.n t2), (Str.ofString "nt", .int q.nt t3)])
    (fun m nx => ∃ ac cs ep kr t1 t2 t3, IntsAre cs (scan row.cps.toList scan0).cnt ∧ cs.length ≤ 100 ∧ (scan row.cps.toList scan0).b ≤ 100 ∧ x < ac ∧ dx < ac ∧
      nx = [(ac, W.listOf cs.toArray ep), (x, instObj 97 dx), (dx, rawD w.params kr (.str row t))] ∧
      Knows m [(Str.ofString "self", .ref x), (Str.ofString "count", .ref ac), (Str.ofString "b", .int (scan row.cps.toList scan0).b t1), (Str.ofString "n", .int (scan row.cps.toList scan0).n t2), (Str.ofString "nt", .int (scan row.cps.toList scan0).nt t3)]) ?h0 ?turn ?done ?tail
  case hh => exact rfl
  case F => assumption
  case N =>
    refine' news3 ?n0 ?n1 ?n2 ?n3
    case n0 => assumption
    case n1 => k_mem
    case n2 => k_mem
    case n3 => k_mem
  case h0 => exact ⟨scan0, _, [], _, _, _, _, _, by rw [List.drop_zero], .nil, Nat.le_refl _, Nat.le_refl _, ltN (by omega), ltN (by omega), rfl, rfl, rfl, rfl, rfl, rfl, rfl, rfl, trivial⟩
  case done =>
    rintro m₁ nx ⟨q, ac, cs, ep, kr, t1, t2, t3, e1, e2, e3, e4, e5, e6, rfl, hk⟩
    have e1' : q = scan row.cps.toList scan0 := by
      rw [← e1, List.drop_of_length_le (by simp)]; rfl
    refine ⟨ac, cs, ep, kr, t1, t2, t3, ?_⟩
    rw [← e1']
    exact ⟨e2, by omega, by omega, e5, e6, rfl, hk.1, hk.2.2.2.1, hk.2.2.2.2.1, hk.2.2.2.2.2.1, hk.2.2.2.2.2.2.1, trivial⟩
  case turn =>
    rintro i c tc m₁ nx h2 tk I oI hc ⟨q, ac, cs, ep, kr, t1, t2, t3, e1, e2, e3, e4, e5, e6, rfl, hk⟩ hnx F₁ N₁
    k_fold
    k_lt2 e5
    k_lt2 e6
    have e7 := e2.length
    have n1 := neN (hnx _ (.head _))
    have n2 := neN (hnx _ (.tail _ (.head _)))
    have n3 := neN (hnx _ (.tail _ (.tail _ (.head _))))
    dsimp only at n1 n2 n3
    have hi1 : i < 100 := by
      have := (Array.getElem?_eq_some_iff.mp hc).1
      omega
    replace F₁ := fr_turn _ F₁ hk
    simp only [List.cons_append, List.nil_append] at N₁
    have hd := drop_at hc
    by_cases hc1 : c = 32
    · have e1' : scan (row.cps.toList.drop (i + 1)) (scanS q) = scan row.cps.toList scan0 := by
        rw [← e1, hd, hc1]; rfl
      k_steps
      rename Fr _ _ _ _ => FF
      rename News _ _ _ _ => NN
      exact ⟨_, _, _, [(ac, W.listOf cs.toArray ep), (x, instObj 97 dx), (dx, rawD w.params kr (.str row t))], rfl, FF, NN, hnx, scanS q, ac, cs, ep, kr, _, _, t3, e1', e2, by omega, by show q.b + 1 ≤ i + 1; omega, e5, e6, rfl, rfl, rfl, rfl, rfl, rfl, rfl, rfl, trivial⟩
    by_cases hc2 : c = 9
    · have e1' : scan (row.cps.toList.drop (i + 1)) (scanT q) = scan row.cps.toList scan0 := by
        rw [← e1, hd, hc2]; rfl
      k_steps
      · rename Fr _ _ _ _ => FF
        rename News _ _ _ _ => NN
        refine' ⟨_, _, _, [(_, W.listOf (List.toArray _) _), (x, instObj 97 dx), (dx, rawD w.params kr (.str row t))], rfl, FF, ?N, ?off, scanT q, _, _, _, kr, _, _, _, e1', ?ia, ?len, Nat.zero_le _, ?l1, ?l2, rfl, ?kn⟩
        case N =>
          refine' news4 NN ?n1 ?n2 ?n3 ?n4
          case n1 => k_mem
          case n2 => k_mem
          case n3 => k_mem
          case n4 => k_mem
        case ia => rw [scanT_pad e7 (by omega)]; assumption
        case len => simp only [List.length_set, List.length_append, List.length_replicate]; omega
        case off =>
          intro p hp
          simp only [List.mem_cons, List.not_mem_nil, or_false] at hp
          rcases hp with rfl | rfl | rfl <;> exact neN (by (try dsimp only); omega)
        case l1 => exact ltN (by omega)
        case l2 => exact ltN (by omega)
        case kn =>
          refine' ⟨rfl, rfl, rfl, rfl, ?bb, rfl, rfl, trivial⟩
          case bb =>
            rw [show (((scanT q).b : Nat) : Int) = 0 from rfl]
            rfl
      · rename Fr _ _ _ _ => FF
        rename News _ _ _ _ => NN
        refine' ⟨_, _, _, [(_, W.listOf (List.toArray _) _), (x, instObj 97 dx), (dx, rawD w.params kr (.str row t))], rfl, FF, ?N, ?off, scanT q, _, _, _, kr, _, _, _, e1', ?ia, ?len, Nat.zero_le _, ?l1, ?l2, rfl, ?kn⟩
        case N =>
          refine' news4 NN ?n1 ?n2 ?n3 ?n4
          case n1 => k_mem
          case n2 => k_mem
          case n3 => k_mem
          case n4 => k_mem
        case ia => rw [scanT_not e7 (by omega)]; assumption
        case len => simp only [List.length_set, List.length_append, List.length_replicate]; omega
        case off =>
          intro p hp
          simp only [List.mem_cons, List.not_mem_nil, or_false] at hp
          rcases hp with rfl | rfl | rfl <;> exact neN (by (try dsimp only); omega)
        case l1 => exact ltN (by omega)
        case l2 => exact ltN (by omega)
        case kn =>
          refine' ⟨rfl, rfl, rfl, rfl, ?bb, rfl, rfl, trivial⟩
          case bb =>
            rw [show (((scanT q).b : Nat) : Int) = 0 from rfl]
            rfl
    · have e1' : q = scan row.cps.toList scan0 := by
        rw [← e1, hd]; simp [scan, hc1, hc2]
      k_steps
      rename Fr _ _ _ _ => FF
      rename News _ _ _ _ => NN
      refine ⟨_, _, _, [(ac, W.listOf cs.toArray ep), (x, instObj 97 dx), (dx, rawD w.params kr (.str row t))], rfl, FF, news3 NN (by k_mem) (by k_mem) (by k_mem), ac, cs, ep, kr, t1, t2, t3, ?_⟩
      rw [← e1']
      exact ⟨e2, by omega, by omega, e5, e6, rfl, rfl, rfl, rfl, rfl, rfl, trivial⟩
  case tail =>
    rintro m₁ nx h2 tk ⟨ac, cs, ep, kr, t1, t2, t3, e2, e3, e4, e5, e6, rfl, hk⟩ F₁ N₁
    k_lt2 e5
    k_lt2 e6
    replace F₁ := fr_ov _ F₁ hk
    have e7 := e2.length
    k_steps
    rename Fr _ _ _ _ => FF
    rename News _ _ _ _ => NN
    have e8 : decide ((cs.length : Int) ≤ 1) = decide ((scan row.cps.toList scan0).d.cnt.length ≤ 1) := by
      show _ = decide ((scan row.cps.toList scan0).cnt.length ≤ 1)
      rw [← e7]
      by_cases q : cs.length ≤ 1
      · rw [decide_eq_true q, decide_eq_true (by omega)]
      · rw [decide_eq_false q, decide_eq_false (by omega)]
    rw [e8] at NN
    refine ⟨rfl, ?_⟩
    have NN2 := news4 NN (.tail _ (.tail _ (.tail _ (.head _)))) (.tail _ (.tail _ (.tail _ (.tail _ (.head _))))) (.head _) (.tail _ (.head _))
    have hrest : ∀ p ∈ news, p.1 ∉ [(x, instObj 97 dx), (dx, dictOf [] 0)].map (·.1) := fun p hp q => by
      have q1 := ltN (l1 p hp)
      simp only [List.map_cons, List.map_nil, List.mem_cons, List.not_mem_nil, or_false] at q
      have q' : @Eq Nat p.1 x ∨ @Eq Nat p.1 dx := q
      omega
    obtain ⟨F5, N5⟩ := leaveW F1 (news_sub N1 (fun p hp => by simp only [List.mem_cons, List.not_mem_nil, or_false] at hp ⊢; rcases hp with h | h <;> simp [h])) (news_sub N1 (fun p hp => .tail _ (.tail _ hp))) H' FF NN2 hrest
    refine h ⟨x, dx, _, _, _, _, _, _, _, _, _, _, cs, .str row t⟩ _ _ ⟨e7, e2, by show (scan row.cps.toList scan0).cnt.length ≤ 1000; omega⟩ rfl ?_ F5 N5
    intro p hp
    have q1 := ltN (l1 p hp)
    dsimp only
    exact ⟨ltN (by omega), ltN (by omega), ltN (by omega), ltN (by omega)⟩
end

end
example : True := by first | walk1 | trivial
section
theorem loop_str0 {prog : Program} {w : World} {A : Around} {E : Value → Shared → Prop} {s : Shared} {env : Env} {h₀ : Heap} {x : Str} {body : List Stmt} {Q : Flow → Shared → Prop} {z : Str} {t₀ : Tok} {m : Str → Option Value} {news : List (Addr × Obj)}
    (hz : z.cps.size = 0) (hh : A.handled = none) (F : Fr h₀ env.locals s.heap m) (N : News h₀ env.locals s.heap news)
    (tail : ∀ h tk, Fr h₀ env.locals h m → News h₀ env.locals h news → Q .next { s with heap := h, toks := tk }) :
    wpAny (model prog w) A (pyIter (.str z t₀)) (fun it s₂ => LoopAtV prog w A h₀ env x body Q E it s₂) E s :=
  loop_str hh F N (fun _ m' nx => m' = m ∧ nx = news) ⟨rfl, rfl⟩ (fun i c t m₁ nx h tk I oI hc _ _ _ _ => by
    have := (Array.getElem?_eq_some_iff.mp hc).1
    omega) (by rintro m₁ nx h tk ⟨rfl, rfl⟩ F₁ N₁; exact tail h tk F₁ N₁)
local macro_rules | `(tactic| walk_at "exec For Name Subscript cons nil") => `(tactic| (k_here; (rename Fr _ _ _ _ => lF'); (with_unfolding_all refine' For_invVF lF' ?k1 ?k2 ?_; (case k1 => exact rfl); (case k2 => exact rfl); k_whole)))
section
local macro_rules | `(tactic| walk_at "pyIter str") => `(tactic| (k_dflt (refine' loop_str0 ?hz ?hh ?F ?N ?_; (case hh => exact rfl); (case F => k_asm); (case N => k_asm); (case hz => first | rfl | (simp; done)); k_whole); intro h' tk' F' N'; (try dsimp only)))
def PageC (w : World) (k : Nat) (objs : List (Addr × Obj)) (v : Value) (f : Str → Str → List Str) : Prop :=
  ∀ (A : Around) (E : Value → Shared → Prop) (s : Shared) (mg mb : Str → Option Value) (Q : Value → Shared → Prop) (h₀ : Heap) (L₀ : Addr) (m₀ : Str → Option Value) (news : List (Addr × Obj)) (lead step : Str) (tl ts : Tok),
    Fr h₀ L₀ s.heap m₀ → News h₀ L₀ s.heap news → (∀ p ∈ objs, p ∈ news) → (KK w.params).In h₀ → TR mg mb h₀ → A.depth + k < recursionLimit → A.handled = none → lead.length + k * step.length ≤ 10000 →
    (∀ a vs e h' tk, StrsAre vs (f lead step) → Fr h₀ L₀ h' m₀ → News h₀ L₀ h' ((a, W.listOf vs.toArray e) :: news) → (∀ p ∈ news, p.1 ≠ a) → Q (.ref a) { s with heap := h', toks := tk }) →
    wpAny (model P0 w) A (call (.ref 123) [v, .str lead tl, .str step ts]) Q E s
theorem page_leaf (w : World) (c : Nat) (t : Tok) : PageC w 10 [] (.str ⟨#[c]⟩ t) (fun lead _ => [lead ++ ⟨#[c]⟩]) := by
  intro A E s mg mb Q h₀ L₀ m₀ news lead step tl ts F N hs X T hA hh hz h
  obtain ⟨hd, dp, fr, gs, un⟩ := A
  cases (show hd = none from hh)
  replace hA : dp + 10 < recursionLimit := hA
  have hA2 : (⟨none, dp, fr, gs, un⟩ : Around).depth < recursionLimit := by show dp < recursionLimit; omega
  have N0 : News h₀ L₀ s.heap [] := News.nil
  (refine' callW _ ?k0 ?kN ?k1 ?k2 ?k3 ?k4 ?k5 ?k6 ?k7 ?_ ?c1 ?c2 ?c3 ?c4; (case k0 => k_asm); (case kN => k_asm); (case k1 => k_asm); (case k2 => k_asm); (case k4 => k_is); (case k5 => k_is); (case k6 => exact BindsTo.of_eq rfl); (case k7 => exact locs rfl); (case c1 => decide); (case c2 => exact rfl); (case c3 => exact rfl); (case c4 => exact rfl); (case k3 => first | assumption | omega))
  intro g L' h' H' F' N' l' X' T'
  k_fold
  k_steps
  rename Fr _ _ _ _ => FF
  rename News _ _ _ _ => NN
  rw [show Txt.item (⟨#[c]⟩ : Str) 0 = ⟨#[c]⟩ from rfl] at NN
  obtain ⟨F5, N5⟩ := leaveW F N0 N H' FF NN (fun p hp q => by cases q)
  refine h _ [.str (lead ++ Str.mk #[c] : Str) _] _ _ _ (.cons _ _ .nil) F5 N5 fun p hp e => ?_
  have q1 := H'.keep p.1 p.2 (N p hp).1 (fun q => by cases q)
  rw [e, (NN _ (.head _)).2.2] at q1
  cases q1
theorem slice_tail (x : Value) (r : List Value) : (slicePick (x :: r).toArray (some 1) none none).toList = r := by
  rw [show (some (1 : Int)) = some ((1 : Nat) : Int) from rfl, slicePick_from']
  simp
theorem size_cons {x : Value} {r : List Value} (h : r.length ≤ 10) : (x :: r).toArray.size ≤ sizeLine := by
  rw [List.size_toArray, List.length_cons, sizeLine_eq]; omega
local macro_rules | `(tactic| walk_at "subscriptTail Name Slice ref ref") => `(tactic| (k_here; (with_reducible show wpAny _ _ (subscriptTail _ (PySem.Expr.Slice _ _ none _) (Value.ref _) (Value.ref _)) _ _ _); k_dflt (refine' kmk_slice_lit ?F ?N ?l ?p ?q ?e ?_ ?s ?t ?z; (case F => k_asm); (case N => k_asm); (case l => kmk_list); (case p => kmk_part); (case q => kmk_part); (case e => exact slice_tail _ _); (case s => with_unfolding_all rfl); (case t => kmk_pure); (case z => exact size_cons (by assumption))); intro D' h' F' N' l1; (try k_lt l1); (try k_sweep)))
abbrev stv {vs : List Value} {ys : List Str} (_ : StrsAre vs ys) : List Value := vs
structure Bel (a : Addr) (news : List (Addr × Obj)) : Prop where
  lt : ∀ p ∈ news, p.1 < a
local macro_rules | `(tactic| walk_at "binaryOp Add ref ref") => `(tactic| (k_dflt (refine' add_lstN ?F ?N ?m ?n ?b ?_; (case F => k_asm); (case N => k_asm); (case m => k_mem); (case n => k_mem); (case b => omega); k_whole); intro a' h' F' N' l1; (have b' := Bel.mk l1); (try k_sweep)))
local macro_rules | `(tactic| walk_at "call ref") => `(tactic| ((with_reducible rename PageC _ _ _ _ _ => kC'); k_dflt (refine' kC' _ _ _ _ _ _ _ _ _ _ _ _ _ _ ?F ?N ?s ?X ?T ?A ?h ?z ?_; (case F => k_asm); (case N => k_asm); (case s => first | exact fun _ hp => .tail _ (.tail _ (.tail _ (.tail _ hp))) | exact fun _ hp => .tail _ (.tail _ (.tail _ (.tail _ (.tail _ hp)))) | exact fun _ hp => .tail _ (.tail _ (.tail _ hp))); (case X => k_asm); (case T => k_asm); (case A => (dsimp only [Around.deeper]; omega)); (case h => exact rfl); (case z => assumption); k_whole); intro a' vs' e' h' tk' S' F' N' l1; (have q' := StrsAre.len_eq S')))
theorem allLt_ne {d : Nat} {l : List (Addr × Obj)} (h : AllLt d l) : ∀ p ∈ l, p.1 ≠ d := by
  induction l with
  | nil => intro p hp; cases hp
  | cons q r ih =>
    intro p hp
    rcases List.mem_cons.mp hp with e | hp
    · rw [e]; exact Nat.ne_of_lt h.1
    · exact ih h.2 p hp
def pre (fs : List (Str → Str → List Str)) (x y : Str) (i : Nat) : List Str := (fs.take i).flatMap (fun f => f x y)
theorem pre_len {fs : List (Str → Str → List Str)} {x y : Str} (hf : ∀ f ∈ fs, (f x y).length ≤ 100) (i : Nat) : (pre fs x y i).length ≤ 100 * i := by
  induction i with
  | zero => simp [pre]
  | succ i ih =>
    unfold pre at ih ⊢
    rw [List.take_succ, List.flatMap_append, List.length_append]
    cases h : fs[i]? with
    | none => simp only [Option.toList, List.flatMap_nil, List.length_nil]; omega
    | some f =>
      have := hf f (List.mem_of_getElem? h)
      simp only [Option.toList, List.flatMap_cons, List.flatMap_nil, List.append_nil]
      omega
theorem pre_succ {fs : List (Str → Str → List Str)} {x y : Str} {i : Nat} {f : Str → Str → List Str} (h : fs[i]? = some f) : pre fs x y (i + 1) = pre fs x y i ++ f x y := by
  unfold pre
  rw [List.take_succ, List.flatMap_append, h]
  simp
theorem page_node (w : World) (k : Nat) (l : Addr) (ep : Nat) (sg : Str) (tsg : Tok) (cvs : List Value) (fs : List (Str → Str → List Str)) (objs : List (Addr × Obj)) (hlen : cvs.length = fs.length) (hsm : cvs.length ≤ 10) (hsg : sg.length ≤ 10)
    (hf : ∀ x y, ∀ f ∈ fs, (f x y).length ≤ 100)
    (hc : ∀ (i : Nat) v f, cvs[i]? = some v → fs[i]? = some f → PageC w k objs v f) :
    PageC w (k + 10) ((l, W.listOf (.str sg tsg :: cvs).toArray ep) :: objs) (.ref l) (fun lead step => (lead ++ sg) :: fs.flatMap (fun f => f (lead ++ step) step)) := by
  intro A E s mg mb Q h₀ L₀ m₀ news lead step tl ts F N hs X T hA hh hz h
  obtain ⟨hd, dp, fr, gs, un⟩ := A
  cases (show hd = none from hh)
  replace hA : dp + (k + 10) < recursionLimit := hA
  have hA2 : (⟨none, dp, fr, gs, un⟩ : Around).depth < recursionLimit := by show dp < recursionLimit; omega
  have N0 := news_sub N hs
  (refine' callW _ ?k0 ?kN ?k1 ?k2 ?k3 ?k4 ?k5 ?k6 ?k7 ?_ ?c1 ?c2 ?c3 ?c4; (case k0 => k_asm); (case kN => k_asm); (case k1 => k_asm); (case k2 => k_asm); (case k4 => k_is); (case k5 => k_is); (case k6 => exact BindsTo.of_eq rfl); (case k7 => exact locs rfl); (case c1 => decide); (case c2 => exact rfl); (case c3 => exact rfl); (case c4 => exact rfl); (case k3 => first | assumption | omega))
  intro g L' h' H' F' N' l' X' T'
  k_fold
  have hz2 : lead.length + step.length ≤ 10000 := by
    have := Nat.le_mul_of_pos_left step.length (show 0 < k + 10 by omega)
    omega
  have hz3 : (lead ++ step).length + k * step.length ≤ 10000 := by
    rw [Str.length_append]
    have : (k + 10) * step.length = k * step.length + 10 * step.length := Nat.add_mul ..
    omega
  k_steps
  rename_i lr0 _ lA _ D0 _ F0 NN lD
  refine' loop_list (items := cvs) (src := [(D0, W.listOf cvs.toArray 0)]) (news := (lr0, W.listOf #[Value.str (lead ++ sg) _] 0) :: (l, W.listOf (.str sg tsg :: cvs).toArray ep) :: objs) ?hh ?hl ?hsrc ?hlL ?F ?N (fun i m nx => ∃ ar vs er, StrsAre vs ((lead ++ sg) :: pre fs (lead ++ step) step i) ∧ (∀ p ∈ (l, W.listOf (.str sg tsg :: cvs).toArray ep) :: objs, p.1 ≠ ar) ∧
      nx = (ar, W.listOf vs.toArray er) :: (l, W.listOf (.str sg tsg :: cvs).toArray ep) :: objs ∧ Knows m [(Str.ofString "rows", .ref ar), (Str.ofString "lead", .str lead tl), (Str.ofString "step", .str step ts)]) ?h0 ?turn ?done
  case hh => exact rfl
  case hl => exact NN.isList (.head _)
  case hsrc => exact .inl ⟨_, .head _⟩
  case F => assumption
  case N => exact NN
  case hlL => exact (NN _ (.head _)).2.1
  case h0 =>
    refine ⟨lr0, [.str (lead ++ sg : Str) _], 0, .cons _ _ .nil, ?_, rfl, rfl, rfl, rfl, trivial⟩
    intro p hp
    rcases List.mem_cons.mp hp with rfl | hp
    · exact Nat.ne_of_lt lA.1
    · exact allLt_ne lA.2 p hp
  case turn =>
    rintro i v m₁ nx h2 tk I oI hi ⟨ar, vs, er, e1, e3, rfl, hk⟩ hnx F₁ N₁
    k_fold
    have hi2 : i < cvs.length := (List.getElem?_eq_some_iff.mp hi).1
    obtain ⟨f, hfi⟩ : ∃ f, fs[i]? = some f := ⟨fs[i]'(by omega), List.getElem?_eq_getElem _⟩
    have hC := hc i v f hi hfi
    have hfl := hf (lead ++ step) step f (List.mem_of_getElem? hfi)
    have hpl := pre_len (hf (lead ++ step) step) i
    have e4 := e1.len_eq
    rw [List.length_cons] at e4
    replace F₁ := fr_turn _ F₁ hk
    simp only [List.cons_append, List.nil_append] at N₁
    k_steps
    rename Fr _ _ _ _ => FF
    rename News _ _ _ _ => NN
    rename Bel _ _ => bl
    have lt2 := bl.lt
    rename StrsAre _ (f _ _) => S2
    refine ⟨_, _, _, (_, W.listOf (vs ++ stv S2).toArray 0) :: (l, W.listOf (.str sg tsg :: cvs).toArray ep) :: objs, rfl, FF, news_sub NN ?_, ?_, _, vs ++ stv S2, 0, ?_, ?_, rfl, rfl, rfl, rfl, trivial⟩
    · intro p hp
      simp only [List.cons_append, List.nil_append, List.mem_cons] at hp ⊢
      rcases hp with h | h | h | h | h <;> simp [h]
    · intro p hp
      rcases List.mem_cons.mp hp with e | hp
      · rw [e]; exact Ne.symm (Nat.ne_of_lt (lt2 _ (.tail _ (.head _))))
      · exact hnx p (.tail _ hp)
    · rw [pre_succ hfi, ← List.cons_append]
      exact e1.append' S2
    · intro p hp
      exact Nat.ne_of_lt (lt2 p (.tail _ (.tail _ (.tail _ (.tail _ hp)))))
  case done =>
    rintro m₁ nx h2 tk ⟨ar, vs, er, e1, e3, rfl, hk⟩ F₁ N₁
    replace F₁ := fr_ov _ F₁ hk
    k_steps
    rename Fr _ _ _ _ => FF
    have N4 : News g L' _ ((ar, W.listOf vs.toArray er) :: (l, W.listOf (.str sg tsg :: cvs).toArray ep) :: objs) := news_sub N₁ (fun p hp => .tail _ hp)
    have S1 : s.heap.StaysIn _ := H'.stays FF.keep (fun p hp => (N4 p (.tail _ hp)).1) (fun p hp => (N0 p hp).1)
    have e9 : pre fs (lead ++ step) step cvs.length = fs.flatMap (fun f => f (lead ++ step) step) := by
      unfold pre; rw [hlen, List.take_length]
    rw [e9] at e1
    have hne : ∀ p ∈ news, p.1 ≠ ar := fun p hp e => by
      by_cases q : p.1 ∈ ((l, W.listOf (.str sg tsg :: cvs).toArray ep) :: objs).map (·.1)
      · obtain ⟨p', hp', e'⟩ := List.mem_map.mp q
        exact e3 p' hp' (e'.trans e)
      · have q1 := H'.keep p.1 p.2 (N p hp).1 q
        rw [e, (N4 _ (.head _)).2.2] at q1
        cases q1
    refine h ar vs er _ _ e1 (F.grownK S1) (fun p hp => ?_) hne
    rcases List.mem_cons.mp hp with rfl | hp
    · refine ⟨(N4 _ (.head _)).1, fun e => ?_, ?_⟩
      · obtain ⟨o, es, eq, ho, _⟩ := F.ns
        have nL : L₀ ∉ ((l, W.listOf (.str sg tsg :: cvs).toArray ep) :: objs).map (·.1) := fun q => by
          obtain ⟨p, hp, e⟩ := List.mem_map.mp q
          exact (N0 p hp).2.1 e
        have q1 := H'.keep L₀ o ho nL
        rw [← e, (N4 _ (.head _)).2.2] at q1
        cases q1
      · cases q : h₀.get? ar with
        | none => rfl
        | some o =>
          have n0 : ar ∉ ((l, W.listOf (.str sg tsg :: cvs).toArray ep) :: objs).map (·.1) := fun q => by
            obtain ⟨p, hp, e⟩ := List.mem_map.mp q
            exact e3 p hp e
          have q1 := H'.keep _ o (F.keep _ o q) n0
          rw [(N4 _ (.head _)).2.2] at q1
          cases q1
    · exact (N.grown S1) p hp

end
example : True := by first | walk1 | trivial
section
variable {prog : Program} {w : World} {A : Around} {E : Value → Shared → Prop} {s : Shared} {env cenv : Env} {h₀ : Heap} {x : Str} {px : Pos} {R : Result → Shared → Prop}

def CPost (h₀ : Heap) (C : Addr) (Jn : (Str → Option Value) → List (Addr × Obj) → Prop) (I : Addr) (oI : Obj) (src : List (Addr × Obj)) (s : Shared) (s₂ : Shared) : Prop :=
  ∃ h' tk m' nx, s₂ = { s with heap := h', toks := tk } ∧ Fr h₀ C h' m' ∧ News h₀ C h' ((I, oI) :: src ++ nx) ∧ (∀ p ∈ nx, p.1 ≠ I) ∧ Jn m' nx

theorem compAt0 {elt : Expr} {gens : List Comprehension} {scope : Scope} {pos : Pos} {d : Nat} {I : Addr} {acc : Value} {B : Sem Unit} {pI : Pos} {fp : List Addr} {n : Nat} {P : Nat → Value → Prop} {St : Nat → Heap → Prop} {m : Str → Option Value} {news src : List (Addr × Obj)}
    (hT : compTurn (.ListComp elt gens scope pos) d (.ref I) acc cenv = (standAt pI >>= fun _ => pyNext (.ref I) >>= fun r => match r with
      | none => pure (.done .next)
      | some v => letOwnedTupleGo (.Name x px) (.ref I) v >>= fun _ => assign (.Name x px) cenv v >>= fun _ => B >>= fun _ => again (.compLoop (.ListComp elt gens scope pos) d (.ref I) acc cenv)))
    (hx : cenv.kindOf x = some .local) (hp : (cenv.scope.kind == .class || (cenv.scope.kind == .module && cenv.locals != cenv.globals)) = false)
    (W : Walks prog w A I fp [I] n P St) (hlive : ∀ i h, St i h → ∃ o, h.get? I = some o) (hI : h₀.get? I = none) (hC : cenv.locals ∉ fp)
    (hfp : ∀ b ∈ fp, b = I ∨ (∃ o, (b, o) ∈ src) ∨ ∃ o, h₀.get? b = some o) (hst : St 0 s.heap) (F : Fr h₀ cenv.locals s.heap m) (N : News h₀ cenv.locals s.heap (src ++ news)) (hoff : ∀ p ∈ src ++ news, p.1 ≠ I)
    (J : Nat → (Str → Option Value) → List (Addr × Obj) → Prop) (h0 : J 0 m news)
    (turn : ∀ i v m₁ nx h tk oI E', i < n → P i v → J i m₁ nx → (∀ p ∈ nx, p.1 ≠ I) → Fr h₀ cenv.locals h (fun y => if y = x then some v else m₁ y) → News h₀ cenv.locals h ((I, oI) :: src ++ nx) →
      wpAny (model prog w) A B (fun _ => CPost h₀ cenv.locals (J (i + 1)) I oI src s) E' { s with heap := h, toks := tk })
    (done : ∀ m₁ nx h tk, J n m₁ nx → Fr h₀ cenv.locals h m₁ → News h₀ cenv.locals h (src ++ nx) → R (.ok .next) { s with heap := h, toks := tk }) :
    codeAny (model prog w) A (.compLoop (.ListComp elt gens scope pos) d (.ref I) acc cenv) R s := by
  have hsrc : ∀ p ∈ src, p.1 ≠ I := fun p hp => hoff p (List.mem_append_left _ hp)
  have hIfp : I ∈ fp := W.sub _ (List.mem_singleton.mpr rfl)
  have hCI : cenv.locals ≠ I := fun q => hC (q ▸ hIfp)
  refine codeAny_loop rfl (fun k s' => ∃ i m nx h tk, s' = { s with heap := h, toks := tk } ∧ i ≤ n ∧ k = n + 1 - i ∧ St i h ∧ Fr h₀ cenv.locals h m ∧ News h₀ cenv.locals h (src ++ nx) ∧ (∀ p ∈ nx, p.1 ≠ I) ∧ J i m nx) ?_ (n + 1)
    ⟨0, m, news, s.heap, s.toks, rfl, Nat.zero_le _, rfl, hst, F, N, fun p hp => hoff p (List.mem_append_right _ hp), h0⟩
  rintro k s' ⟨i, m, nx, h, tk, rfl, hi, rfl, hst, F, N, hnx, hJ⟩
  show wpAny _ _ ((compTurn (.ListComp elt gens scope pos) d (.ref I) acc cenv).onRaise (fun x => do noteFrame x cenv; theTreesLotGoes x)) _ _ _
  refine wpAny_noted ?_
  rw [hT]
  refine wpAny_bind (wpAny_standAt (wpAny_bind ?_))
  have hall : ∀ p ∈ src ++ nx, p.1 ≠ I := fun p hp => (List.mem_append.mp hp).elim (hsrc p) (hnx p)
  by_cases hlt : i < n
  · refine W.item i _ _ _ hlt hst fun v h₁ tk₁ hP hst₁ hk₁ => ?_
    refine wpAny_bind (wpAny_of_eq (a := ()) rfl (wpAny_bind ?_))
    have F₁ : Fr h₀ cenv.locals h₁ m := ⟨F.ns.at' fun o q => hk₁ _ o (fun z => hCI (List.mem_singleton.mp z)) q, fun b o q => hk₁ b o (fun z => by rw [List.mem_singleton.mp z, hI] at q; cases q) (F.keep b o q), F.above⟩
    have N₁ : News h₀ cenv.locals h₁ (src ++ nx) := fun p hp => ⟨hk₁ _ _ (fun z => hall p hp (List.mem_singleton.mp z)) (N p hp).1, (N p hp).2⟩
    refine wpAny_assign_Name (wpAny_storeName_local hx F₁.ns (fun h₂ hn₂ hs₂ => ?_) hp)
    have hst₂ : St (i + 1) h₂ := W.frame _ _ _ hst₁ fun b hb o q => hs₂.extBut b o (fun z => hC (z ▸ hb)) q
    obtain ⟨oI, hoI⟩ := hlive _ _ hst₂
    have F₂ : Fr h₀ cenv.locals h₂ (fun y => if y = x then some v else m y) := F₁.set hn₂ hs₂
    have N₂ : News h₀ cenv.locals h₂ ((I, oI) :: src ++ nx) := fun p hp => by
      rcases List.mem_cons.mp (by simpa using hp : p ∈ (I, oI) :: (src ++ nx)) with rfl | hp
      · exact ⟨hoI, Ne.symm hCI, hI⟩
      · exact ⟨hs₂.extBut _ _ (N₁ p hp).2.1 (N₁ p hp).1, (N₁ p hp).2⟩
    refine wpAny_bind (wpAny_mono (turn i v m nx h₂ _ oI _ hlt hP hJ hnx F₂ N₂) (fun _ s₃ q => ?_) fun _ _ e => e)
    obtain ⟨h₃, tk₃, m₃, nx₃, rfl, F₃, N₃, hn₃, hJ₃⟩ := q
    refine wpAny_pure ⟨rfl, n + 1 - (i + 1), by omega, i + 1, m₃, nx₃, h₃, tk₃, rfl, hlt, rfl, ?_, F₃, fun p hp => N₃ p (by rcases List.mem_append.mp hp with h | h <;> simp [h]), hn₃, hJ₃⟩
    refine W.frame _ _ _ hst₂ fun b hb o q => ?_
    rcases hfp b hb with rfl | ⟨o', ho'⟩ | ⟨o', ho'⟩
    · rw [hoI] at q; cases q
      exact (N₃ (_, oI) (by simp)).1
    · have h1 := (N₂ (b, o') (by simp [ho'])).1
      rw [q] at h1; cases h1
      exact (N₃ (b, o') (by simp [ho'])).1
    · have h1 := F₂.keep _ _ ho'
      rw [q] at h1; cases h1
      exact F₃.keep _ _ ho'
  · have hin : i = n := Nat.le_antisymm hi (Nat.not_lt.mp hlt)
    subst hin
    refine W.done _ _ _ hst fun h₁ tk₁ hk₁ => wpAny_pure ?_
    exact done m nx h₁ tk₁ hJ ⟨F.ns.at' fun o q => hk₁ _ o (fun z => hCI (List.mem_singleton.mp z)) q, fun b o q => hk₁ b o (fun z => by rw [List.mem_singleton.mp z, hI] at q; cases q) (F.keep b o q), F.above⟩
      fun p hp => ⟨hk₁ _ _ (fun z => hall p hp (List.mem_singleton.mp z)) (N p hp).1, (N p hp).2⟩
end
section
variable {prog : Program} {w : World} {A : Around} {E : Value → Shared → Prop} {s : Shared} {env : Env} {h₀ : Heap} {x : Str} {px : Pos}

def EPost (h₀ : Heap) (C L D I : Addr) (fix : List (Addr × Obj)) (Jn : Value → List (Addr × Obj) → Prop) (s : Shared) (y : Value) (s₂ : Shared) : Prop :=
  ∃ h' tk m' nx, s₂ = { s with heap := h', toks := tk } ∧ Fr h₀ C h' m' ∧ News h₀ C h' (fix ++ nx) ∧ (∀ p ∈ nx, p.1 ≠ I ∧ p.1 ≠ L ∧ p.1 ≠ D) ∧ Jn y nx

structure CompIn (prog : Program) (w : World) (A : Around) (h₀ : Heap) (env : Env) (scope : Scope) (cl : List (Str × Addr)) (x : Str) (elt : Expr) (I : Addr) (fp : List Addr) (n : Nat) (P : Nat → Value → Prop) (St : Nat → Heap → Prop)
    (m : Str → Option Value) (src news : List (Addr × Obj)) (J : Nat → List Value → List (Addr × Obj) → Prop) (s : Shared) : Prop where
  W : Walks prog w A I fp [I] n P St
  hsz : n ≤ sizeLine
  hlive : ∀ i h, St i h → ∃ o, h.get? I = some o
  hI : h₀.get? I = none
  hIL : I ≠ env.locals
  hfp : ∀ b ∈ fp, b = I ∨ (∃ o, (b, o) ∈ src) ∨ ∃ o, h₀.get? b = some o
  hst : St 0 s.heap
  F : Fr h₀ env.locals s.heap m
  N : News h₀ env.locals s.heap (src ++ news)
  hoff : ∀ p ∈ src ++ news, p.1 ≠ I
  h0 : J 0 [] news
  len : ∀ i ys nx, J i ys nx → ys.length = i
  turn : ∀ (C D : Addr) (oL oI : Obj) (i : Nat) (v : Value) (m₁ : Str → Option Value) (ys : List Value) (ep : Nat) (nx : List (Addr × Obj)) (h : Heap) (tk : Nat) (E' : Value → Shared → Prop), i < n → P i v → J i ys nx → (∀ p ∈ nx, p.1 ≠ I ∧ p.1 ≠ env.locals ∧ p.1 ≠ D) → (∀ p ∈ src ++ news, p.1 < D) → D < C → I < D → env.locals < D → Fr h₀ C h (fun y => if y = x then some v else m₁ y) →
    News h₀ C h ((I, oI) :: (env.locals, oL) :: (D, lstObj ys ep) :: src ++ nx) →
    wpAny (model prog w) A (eval elt (compEnvC scope cl C env)) (EPost h₀ C env.locals D I ((I, oI) :: (env.locals, oL) :: (D, lstObj ys ep) :: src) (fun y nx' => J (i + 1) (ys ++ [y]) nx') s) E' { s with heap := h, toks := tk }

theorem comp_block {elt iter : Expr} {scope : Scope} {cl : List (Str × Addr)} {pos : Pos} {I : Addr} {fp : List Addr} {n : Nat} {P : Nat → Value → Prop} {St : Nat → Heap → Prop} {m : Str → Option Value} {src news : List (Addr × Obj)} {J : Nat → List Value → List (Addr × Obj) → Prop}
    (Z : CompIn prog w A h₀ env scope cl x elt I fp n P St m src news J s) {RR : Value → Addr → Result → Shared → Prop}
    (hcell : ∀ y ∈ scope.names, y.2 ≠ .cell) (hkind : scope.kind = .function) (hx : scope.names.lookup x = some .local)
    (hRR : ∀ D C oC mC ys ep nx h tk, J n ys nx → Fr h₀ env.locals h m → News h₀ env.locals h ((C, oC) :: (D, lstObj ys ep) :: src ++ nx) → (∀ p ∈ (D, lstObj ys ep) :: src ++ nx, p.1 ≠ C) → (∀ p ∈ src ++ nx, p.1 ≠ D) → h.Ns C mC →
      RR (.ref D) C (.ok .next) { s with heap := h, toks := tk }) :
    wpAny (model prog w) A (newList []) (fun acc s₃ => wpAny (model prog w) A (newFunctionEnv scope env.globals cl [] env.qual none .none (some env)) (fun cenv s₄ =>
      codeAny (model prog w) A (.compStart (.ListComp elt [⟨.Name x px, iter, [], 0⟩] scope pos) 0 (.ref I) acc { cenv with scope := relabel scope env }) (RR acc cenv.locals) s₄) E s₃) E s := by
  obtain ⟨W, hsz, hlive, hI, hIL, hfp, hst, F, N, hoff, h0, hlen, turn⟩ := Z
  refine wpAny_newObj_type (wpAny_newFunctionEnv hcell (by intro y hy; simp at hy) (fun h₁ hns₁ hsb₁ => ?_) hkind)
  dsimp only at hns₁ hsb₁ ⊢
  generalize hH2 : s.heap.push { cls := .type "list", dict := none, data := .seq ([] : List Value).toArray } = H2 at hns₁ hsb₁ ⊢
  have hC : H2.objs.size = s.heap.objs.size + 1 := by rw [← hH2, Heap.size_push]
  generalize hD : s.heap.objs.size = D at hC
  generalize hCC : H2.objs.size = C at hns₁ hsb₁ hC
  have lDC : D < C := by rw [hC]; exact Nat.lt_succ_self _
  have hDC : D ≠ C := Nat.ne_of_lt lDC
  have old : ∀ b o, s.heap.get? b = some o → h₁.get? b = some o := fun b o e => hsb₁.extBut b o (Nat.ne_of_lt (Nat.lt_trans (hD ▸ Heap.lt_size e) lDC)) (Heap.get?_push_of_some _ (hH2 ▸ Heap.get?_push_of_some _ e))
  obtain ⟨oL, esL, epL, hoL, rL⟩ := id F.ns
  have hLD : env.locals < D := by rw [← hD]; exact Heap.lt_size hoL
  obtain ⟨oI0, hoI0⟩ := hlive _ _ hst
  have hID : I < D := by rw [← hD]; exact Heap.lt_size hoI0
  have hltD : ∀ p ∈ src ++ news, p.1 < D := fun p hp => by rw [← hD]; exact Heap.lt_size (N p hp).1
  have new0 : ∀ a, D ≤ a → h₀.get? a = none := fun a ha => by
    cases e : h₀.get? a with
    | none => rfl
    | some o' => exact absurd (Nat.lt_of_lt_of_le (hD ▸ Heap.lt_size (F.keep _ _ e)) ha) (Nat.lt_irrefl _)
  have hL0 : h₀.get? env.locals = none := by
    cases e : h₀.get? env.locals with
    | none => rfl
    | some o' => exact absurd (Heap.lt_size e) (Nat.not_lt.mpr F.above)
  have F₁ : Fr h₀ C h₁ (fun y => ([] : List (Str × Value)).reverse.lookup y) := ⟨hns₁, fun b o e => old b o (F.keep b o e), Nat.le_of_lt (Nat.lt_of_le_of_lt F.above (Nat.lt_trans hLD lDC))⟩
  have hacc : h₁.get? D = some (lstObj [] 0) := hsb₁.extBut _ _ hDC (Heap.get?_push_of_some _ (by rw [← hD, ← hH2]; exact Heap.get?_push_size _ rfl))
  have N₁ : News h₀ C h₁ (((env.locals, oL) :: src) ++ ((D, lstObj [] 0) :: news)) := fun p hp => by
    have hp' : p = (env.locals, oL) ∨ p = (D, lstObj [] 0) ∨ p ∈ src ++ news := by
      rcases List.mem_append.mp hp with hp | hp
      · rcases List.mem_cons.mp hp with hp | hp
        · exact .inl hp
        · exact .inr (.inr (List.mem_append_left _ hp))
      · rcases List.mem_cons.mp hp with hp | hp
        · exact .inr (.inl hp)
        · exact .inr (.inr (List.mem_append_right _ hp))
    rcases hp' with rfl | rfl | hp'
    · exact ⟨old _ _ hoL, Nat.ne_of_lt (Nat.lt_trans hLD lDC), hL0⟩
    · exact ⟨hacc, hDC, new0 _ (Nat.le_refl _)⟩
    · exact ⟨old _ _ (N p hp').1, Nat.ne_of_lt (Nat.lt_trans (hltD p hp') lDC), (N p hp').2.2⟩
  have hst₁ : St 0 h₁ := W.frame _ _ _ hst fun b _ o e => old b o e
  have loop : ∀ s₃ : Shared, s₃ = { s with heap := h₁, toks := s.toks + ([] : List (Str × Value)).length } →
      codeAny (model prog w) A (.compLoop (.ListComp elt [⟨.Name x px, iter, [], 0⟩] scope pos) 0 (.ref I) (.ref D) (compEnvC scope cl C env)) (RR (.ref D) C) s₃ := by
    rintro s₃ rfl
    refine compAt0 (cenv := compEnvC scope cl C env) (src := (env.locals, oL) :: src) (news := (D, lstObj [] 0) :: news) (compTurn_list1 _ _ _ _ _ _ _ _) (lookup_relabel_local hx) (by simp [compEnvC, relabel, hkind]) W hlive hI ?_ ?_ hst₁ F₁ N₁ ?_
      (fun i _ nw => ∃ ys ep nx, nw = (D, lstObj ys ep) :: nx ∧ (∀ p ∈ nx, p.1 ≠ env.locals ∧ p.1 ≠ D) ∧ J i ys nx) ⟨[], 0, news, rfl, ?_, h0⟩ ?_ ?_
    · intro hm
      have hm' : C ∈ fp := hm
      rcases hfp _ hm' with q | ⟨o, ho⟩ | ⟨o, ho⟩
      · exact absurd (q ▸ Nat.lt_trans hID lDC) (Nat.lt_irrefl _)
      · exact absurd (Nat.lt_trans (hltD _ (List.mem_append_left _ ho)) lDC) (Nat.lt_irrefl _)
      · rw [new0 _ (Nat.le_of_lt lDC)] at ho; cases ho
    · intro b hb
      rcases hfp b hb with q | ⟨o, ho⟩ | q
      · exact .inl q
      · exact .inr (.inl ⟨o, .tail _ ho⟩)
      · exact .inr (.inr q)
    · intro p hp
      rcases List.mem_append.mp hp with hp | hp
      · rcases List.mem_cons.mp hp with rfl | hp
        · exact Ne.symm hIL
        · exact hoff p (List.mem_append_left _ hp)
      · rcases List.mem_cons.mp hp with rfl | hp
        · exact Nat.ne_of_gt hID
        · exact hoff p (List.mem_append_right _ hp)
    · intro p hp
      exact ⟨(N p (List.mem_append_right _ hp)).2.1, Nat.ne_of_lt (hltD p (List.mem_append_right _ hp))⟩
    · rintro i v m₁ nw h tk oI E' hi hP ⟨ys, ep, nx, rfl, hnx, hJ⟩ hnI F₂ N₂
      have hperm : ∀ p, p ∈ (I, oI) :: (env.locals, oL) :: (D, lstObj ys ep) :: src ++ nx ↔ p ∈ (I, oI) :: ((env.locals, oL) :: src) ++ ((D, lstObj ys ep) :: nx) := fun p => by simp only [List.cons_append, List.mem_cons, List.mem_append]; constructor <;> (rintro (h | h | h | h | h) <;> simp [h])
      refine wpAny_bind (wpAny_mono (turn C D oL oI i v m₁ ys ep nx h tk E' hi hP hJ (fun p hp => ⟨hnI p (.tail _ hp), hnx p hp⟩) hltD lDC hID hLD F₂ (fun p hp => N₂ p ((hperm p).mp hp))) (fun y s₂ q => ?_) fun _ _ e => e)
      obtain ⟨h', tk', m', nx', rfl, F₃, N₃, hn₃, hJ₃⟩ := q
      have hD₃ := (N₃ (D, lstObj ys ep) (by simp)).1
      refine wpAny_bind (wpAny_list_append_plain (items := ys.toArray) ⟨ep, hD₃⟩ (fun h₄ hpl hs₄ => wpAny_pure ?_) (by have := hlen _ _ _ hJ; simp; omega))
      obtain ⟨ep', hep⟩ := hpl
      refine ⟨h₄, tk', m', (D, lstObj (ys ++ [y]) ep') :: nx', rfl, ⟨F₃.ns.sameBut hs₄ (Ne.symm hDC), fun b o e => hs₄.extBut b o (fun q => by subst q; rw [new0 _ (Nat.le_refl _)] at e; cases e) (F₃.keep b o e), F₃.above⟩, fun p hp => ?_, fun p hp => ?_, ys ++ [y], ep', nx', rfl, fun p hp => (hn₃ p hp).2, hJ₃⟩
      · have hp' : p = (D, lstObj (ys ++ [y]) ep') ∨ (p.1 ≠ D ∧ p ∈ (I, oI) :: (env.locals, oL) :: (D, lstObj ys ep) :: src ++ nx') := by
          rcases List.mem_append.mp hp with hp | hp
          · right
            refine ⟨?_, ?_⟩
            · rcases List.mem_cons.mp hp with rfl | hp
              · exact Nat.ne_of_lt hID
              · rcases List.mem_cons.mp hp with rfl | hp
                · exact Nat.ne_of_lt hLD
                · exact Nat.ne_of_lt (hltD p (List.mem_append_left _ hp))
            · refine List.mem_append_left _ ?_
              rcases List.mem_cons.mp hp with rfl | hp
              · exact .head _
              · rcases List.mem_cons.mp hp with rfl | hp
                · exact .tail _ (.head _)
                · exact .tail _ (.tail _ (.tail _ hp))
          · rcases List.mem_cons.mp hp with rfl | hp
            · exact .inl rfl
            · exact .inr ⟨(hn₃ p hp).2.2, List.mem_append_right _ hp⟩
        rcases hp' with rfl | ⟨hne, hp'⟩
        · exact ⟨by simpa using hep, hDC, new0 _ (Nat.le_refl _)⟩
        · exact ⟨hs₄.extBut _ _ hne (N₃ p hp').1, (N₃ p hp').2⟩
      · rcases List.mem_cons.mp hp with rfl | hp
        · exact Nat.ne_of_gt hID
        · exact (hn₃ p hp).1
    · rintro m₁ nw h tk ⟨ys, ep, nx, rfl, hnx, hJ⟩ F₂ N₂
      obtain ⟨oC, es, ec, hoC, rC⟩ := id F₂.ns
      have gL := (N₂ (env.locals, oL) (by simp)).1
      refine hRR D C oC m₁ ys ep nx h tk hJ ⟨⟨oL, esL, epL, gL, rL⟩, F₂.keep, F.above⟩ (fun p hp => ?_) (fun p hp => ?_) (fun p hp => ?_) F₂.ns
      · have hp' : p = (C, oC) ∨ p = (D, lstObj ys ep) ∨ p ∈ src ∨ p ∈ nx := by simpa using hp
        rcases hp' with rfl | rfl | hp' | hp'
        · exact ⟨hoC, Nat.ne_of_gt (Nat.lt_trans hLD lDC), new0 _ (Nat.le_of_lt lDC)⟩
        · exact ⟨(N₂ (D, lstObj ys ep) (by simp)).1, Nat.ne_of_gt hLD, new0 _ (Nat.le_refl _)⟩
        · exact ⟨(N₂ p (by simp [hp'])).1, (N p (List.mem_append_left _ hp')).2.1, (N₂ p (by simp [hp'])).2.2⟩
        · exact ⟨(N₂ p (by simp [hp'])).1, (hnx p hp').1, (N₂ p (by simp [hp'])).2.2⟩
      · have hp' : p ∈ ((env.locals, oL) :: src) ++ ((D, lstObj ys ep) :: nx) := by
          have : p = (D, lstObj ys ep) ∨ p ∈ src ∨ p ∈ nx := by simpa using hp
          rcases this with h | h | h <;> simp [h]
        exact (N₂ p hp').2.1
      · rcases List.mem_append.mp hp with hp | hp
        · exact Nat.ne_of_lt (hltD p (List.mem_append_left _ hp))
        · exact (hnx p hp).2
  have L1 := loop _ rfl
  exact codeAny_compStart_list L1 (W.self 0 _ _ _ hst₁ L1)
end
section
variable {prog : Program} {w : World} {A : Around} {E : Value → Shared → Prop} {s : Shared} {env : Env} {h₀ : Heap} {x : Str} {px : Pos}

/-- the engine stands still here -/
def Stop (p : Prop) : Prop := p
/-- what is owed when a comprehension's list has been stored under its name -/
def AsgPost (h₀ : Heap) (L C : Addr) (oC : Obj) (Q : Flow → Shared → Prop) (s₂ s₃ : Shared) : Prop :=
  ∃ h' tk' m' nw', s₃ = { s₂ with heap := h', toks := tk' } ∧ Fr h₀ L h' m' ∧ News h₀ L h' ((C, oC) :: nw') ∧ (∀ p ∈ nw', p.1 ≠ C) ∧
    (∀ h tk, Fr h₀ L h m' → News h₀ L h nw' → Q .next { s₂ with heap := h, toks := tk })
theorem AsgPost.intro {h₀ h' : Heap} {L C : Addr} {oC : Obj} {Q : Flow → Shared → Prop} {s₂ : Shared} {tk' : Nat} {m' : Str → Option Value} {nw' : List (Addr × Obj)} (F : Fr h₀ L h' m') (N : News h₀ L h' ((C, oC) :: nw')) (n : ∀ p ∈ nw', p.1 ≠ C)
    (k : ∀ h tk, Fr h₀ L h m' → News h₀ L h nw' → Q .next { s₂ with heap := h, toks := tk }) : AsgPost h₀ L C oC Q s₂ { s₂ with heap := h', toks := tk' } := ⟨h', tk', m', nw', rfl, F, N, n, k⟩
/-- what the walk of a comprehension owes when its source has been turned into an iterator -/
def CompAt (prog : Program) (w : World) (A : Around) (h₀ : Heap) (env : Env) (scope : Scope) (cl : List (Str × Addr)) (x : Str) (elt : Expr) (fin : Addr → (Str → Option Value) → List (Addr × Obj) → Heap → Nat → Shared → Prop) (it : Value) (s : Shared) : Prop :=
  ∃ I fp n P St m src news J, it = .ref I ∧ CompIn prog w A h₀ env scope cl x elt I fp n P St m src news J s ∧
    ∀ D ys ep nx h tk, J n ys nx → (∀ p ∈ src ++ nx, p.1 ≠ D) → fin D m ((D, lstObj ys ep) :: src ++ nx) h tk s

theorem comp_eval {L0 : Addr} {m0 : Str → Option Value} {elt iter : Expr} {scope : Scope} {cl : List (Str × Addr)} {pos : Pos} {Q : Value → Shared → Prop} (_ : Fr h₀ L0 s.heap m0)
    (hclos : closureFor scope env = pure cl) (hcell : ∀ y ∈ scope.names, y.2 ≠ .cell) (hkind : scope.kind = .function)
    (hnames : ∀ y ∈ scope.names, y.2 = .local → scope.names.lookup y.1 = some .local) (hx : scope.names.lookup x = some .local)
    (h : wpAny (model prog w) A (eval iter env) (fun xv s₁ => Stop (wpAny (model prog w) A (pyIter xv) (fun it s₂ => CompAt prog w A h₀ env scope cl x elt
      (fun D m nw h tk s₂ => Fr h₀ env.locals h m → News h₀ env.locals h nw → Q (.ref D) { s₂ with heap := h, toks := tk }) it s₂) E s₁)) E s)
    (hs : ∀ x, foldedSetIterable iter env x = pure x := by intro _; rfl) :
    wpAny (model prog w) A (eval (.ListComp elt [⟨.Name x px, iter, [], 0⟩] scope pos) env) Q E s := by
  rw [eval_ListComp]
  refine wpAny_comprehension_free (use := none) rfl hs hclos hkind hnames (wpAny_mono h (fun xv s₁ h₁ => wpAny_mono h₁ (fun it s₂ h₂ => ?_) fun _ _ e => e) fun _ _ e => e)
  obtain ⟨I, fp, n, P, St, m, src, news, J, rfl, Z, hQ⟩ := h₂
  refine comp_block Z (RR := fun acc C => compPost (model prog w) A E none Q acc C) hcell hkind hx ?_
  intro D C oC mC ys ep nx h tk hJ F N hoC hoD hns
  refine ⟨mC, hns, fun h' hs' => ?_⟩
  have hCL : C ≠ env.locals := (N (C, oC) (by simp)).2.1
  have hC0 : h₀.get? C = none := (N (C, oC) (by simp)).2.2
  refine hQ D ys ep nx h' tk hJ hoD ⟨F.ns.sameBut hs' (Ne.symm hCL), fun b o e => hs'.extBut b o (fun q => by subst q; rw [hC0] at e; cases e) (F.keep b o e), F.above⟩ fun p hp => ?_
  have := N p (.tail _ hp)
  exact ⟨hs'.extBut _ _ (hoC p hp) this.1, this.2⟩

theorem comp_assign {elt iter : Expr} {y : Str} {py : Pos} {scope : Scope} {cl : List (Str × Addr)} {pos spos : Pos} {Q : Flow → Shared → Prop} {L0 : Addr} {m0 : Str → Option Value} (_ : Fr h₀ L0 s.heap m0)
    (hsw : swapsWith (.ListComp elt [⟨.Name x px, iter, [], 0⟩] scope pos) (some (.Name y py)) spos.line env = pure true)
    (hclos : closureFor scope env = pure cl) (hcell : ∀ z ∈ scope.names, z.2 ≠ .cell) (hkind : scope.kind = .function)
    (hnames : ∀ z ∈ scope.names, z.2 = .local → scope.names.lookup z.1 = some .local) (hx : scope.names.lookup x = some .local)
    (h : wpAny (model prog w) A (eval iter env) (fun xv s₁ => Stop (wpAny (model prog w) A (pyIter xv) (fun it s₂ => CompAt prog w A h₀ env scope cl x elt
      (fun D m nw h tk s₂ => ∀ C oC E', (∀ p ∈ nw, p.1 ≠ C) → Fr h₀ env.locals h m → News h₀ env.locals h ((C, oC) :: nw) →
        wpAny (model prog w) A (storeName env y (.ref D)) (fun _ s₃ => AsgPost h₀ env.locals C oC Q s₂ s₃) E' { s₂ with heap := h, toks := tk }) it s₂) E s₁)) E s)
    (hs : ∀ x, foldedSetIterable iter env x = pure x := by intro _; rfl) :
    wpAny (model prog w) A (exec (.Assign [.Name y py] (.ListComp elt [⟨.Name x px, iter, [], 0⟩] scope pos) spos) env) Q E s := by
  rw [exec_Assign_Name_used _ _ _ _ hsw]
  refine wpAny_bind (wpAny_standAt (wpAny_bind ?_))
  show wpAny _ A (do let _ ← comprehension (.ListComp elt [⟨.Name x px, iter, [], 0⟩] scope pos) scope env _ (newList []) false (eval iter env) (some (assign (.Name y py) env))) _ _ s
  refine wpAny_bind (wpAny_mono (wpAny_comprehension_free (use := some (assign (.Name y py) env)) (Q := fun _ s' => Q .next s') rfl hs hclos hkind hnames
    (wpAny_mono h (fun xv s₁ h₁ => wpAny_mono h₁ (fun it s₂ h₂ => ?_) fun _ _ e => e) fun _ _ e => e)) (fun _ s' hq => wpAny_pure (wpAny_pure hq)) fun _ _ e => e)
  obtain ⟨I, fp, n, P, St, m, src, news, J, rfl, Z, hQ⟩ := h₂
  refine comp_block Z (RR := fun acc C => compPost (model prog w) A E (some (assign (.Name y py) env)) (fun _ s' => Q .next s') acc C) hcell hkind hx ?_
  intro D C oC mC ys ep nx h tk hJ F N hoC hoD hns
  show wpAny _ A (assign (.Name y py) env (.ref D)) _ _ _
  refine wpAny_assign_Name (wpAny_mono (hQ D ys ep nx h tk hJ hoD C oC _ hoC F N) (fun _ s₃ q => ?_) fun _ _ e => e)
  obtain ⟨h', tk', m', nw', rfl, F', N', hn', fin⟩ := q
  have gC := N' (C, oC) (.head _)
  have gC0 := N (C, oC) (.head _)
  obtain ⟨o, es, ec, ho, r⟩ := hns
  rw [gC0.1] at ho; cases ho
  refine ⟨mC, ⟨_, es, ec, gC.1, r⟩, fun h'' hs'' => fin h'' tk' ?_ ?_⟩
  · exact ⟨F'.ns.sameBut hs'' (Ne.symm gC.2.1), fun b o e => hs''.extBut b o (fun q => by subst q; rw [gC.2.2] at e; cases e) (F'.keep b o e), F'.above⟩
  · intro p hp
    have := N' p (.tail _ hp)
    exact ⟨hs''.extBut _ _ (hn' p hp) this.1, this.2⟩

theorem compAt_range {scope : Scope} {cl : List (Str × Addr)} {elt : Expr} {fin : Addr → (Str → Option Value) → List (Addr × Obj) → Heap → Nat → Shared → Prop} {r : Addr} {a₀ b₀ : Int} {t₀ u₀ v₀ : Tok} {n : Nat} {m : Str → Option Value} {src : List (Addr × Obj)} (hh : A.handled = none) (hr : IsRange s.heap r a₀ b₀ 1 t₀ u₀ v₀) (hsmall : Builtin.Range.small a₀ b₀ 1 = true) (hn : Builtin.Range.rangeSize a₀ b₀ 1 = (n : Int))
    (hsz : n ≤ sizeLine) (F : Fr h₀ env.locals s.heap m) (news : List (Addr × Obj)) (N : News h₀ env.locals s.heap (src ++ news)) (J : Nat → List Value → List (Addr × Obj) → Prop) (h0 : J 0 [] news) (hlen : ∀ i ys nx, J i ys nx → ys.length = i)
    (turn : ∀ (I C D : Addr) (oL oI : Obj) (i : Nat) (t : Tok) (m₁ : Str → Option Value) (ys : List Value) (ep : Nat) (nx : List (Addr × Obj)) (h : Heap) (tk : Nat) (E' : Value → Shared → Prop), i < n → J i ys nx → (∀ p ∈ nx, p.1 ≠ I ∧ p.1 ≠ env.locals ∧ p.1 ≠ D) → (∀ p ∈ src ++ news, p.1 < I) → I < D → D < C → env.locals < D → Fr h₀ C h (fun y => if y = x then some (.int (a₀ + (i : Nat)) t) else m₁ y) →
      News h₀ C h ((I, oI) :: (env.locals, oL) :: (D, lstObj ys ep) :: src ++ nx) →
      wpAny (model prog w) A (eval elt (compEnvC scope cl C env)) (EPost h₀ C env.locals D I ((I, oI) :: (env.locals, oL) :: (D, lstObj ys ep) :: src) (fun y nx' => J (i + 1) (ys ++ [y]) nx') s) E' { s with heap := h, toks := tk })
    (done : ∀ D ys ep nx h tk hp, J n ys nx → (∀ p ∈ src ++ nx, p.1 ≠ D) → fin D m ((D, lstObj ys ep) :: src ++ nx) h tk { s with heap := hp }) :
    wpAny (model prog w) A (pyIter (.ref r)) (fun it s₂ => CompAt prog w A h₀ env scope cl x elt fin it s₂) E s := by
  refine wpAny_pyIter_range hr hsmall ?_
  have hlt : ∀ p ∈ src ++ news, p.1 < s.heap.objs.size := fun p hp => Heap.lt_size (N p hp).1
  refine ⟨s.heap.objs.size, [s.heap.objs.size], n, _, _, m, src, news, J, rfl, ⟨Walks.range hh s.heap.objs.size a₀ 1 n, hsz, fun i h st => ⟨_, st⟩, next_is_new F, ?_, ?_, (by show IsRangeIter _ _ _ _ _; rw [hn]; simpa using Heap.get?_push_size _ rfl), F.push _, (fun p hp => ⟨Heap.get?_push_of_some _ (N p hp).1, (N p hp).2⟩), ?_, h0, hlen, ?_⟩, ?_⟩
  · exact Ne.symm (Nat.ne_of_lt F.ns.lt)
  · intro b hb; exact .inl (List.mem_singleton.mp hb)
  · intro p hp; exact Nat.ne_of_lt (hlt p hp)
  · rintro C D oL oI i v m₁ ys ep nx h tk E' hi ⟨t, rfl⟩ hJ hnx hltD hDC hID hLD F₁ N₁
    have e : a₀ + (i : Int) * 1 = a₀ + (i : Nat) := by rw [Int.mul_one]
    rw [e] at F₁
    exact turn _ C D oL oI i t m₁ ys ep nx h tk E' hi hJ hnx hlt hID hDC hLD F₁ N₁
  · intro D ys ep nx h tk hJ ho
    exact done D ys ep nx h tk _ hJ ho

theorem compAt_list {scope : Scope} {cl : List (Str × Addr)} {elt : Expr} {fin : Addr → (Str → Option Value) → List (Addr × Obj) → Heap → Nat → Shared → Prop} {l : Addr} {items : List Value} {m : Str → Option Value} {src : List (Addr × Obj)} (hh : A.handled = none) (hl : s.heap.IsList l items.toArray) (hsrc : (∃ o, (l, o) ∈ src) ∨ ∃ o, h₀.get? l = some o)
    (hsz : items.length ≤ sizeLine) (F : Fr h₀ env.locals s.heap m) (news : List (Addr × Obj)) (N : News h₀ env.locals s.heap (src ++ news)) (J : Nat → List Value → List (Addr × Obj) → Prop) (h0 : J 0 [] news) (hlen : ∀ i ys nx, J i ys nx → ys.length = i)
    (turn : ∀ (I C D : Addr) (oL oI : Obj) (i : Nat) (v : Value) (m₁ : Str → Option Value) (ys : List Value) (ep : Nat) (nx : List (Addr × Obj)) (h : Heap) (tk : Nat) (E' : Value → Shared → Prop), items[i]? = some v → J i ys nx → (∀ p ∈ nx, p.1 ≠ I ∧ p.1 ≠ env.locals ∧ p.1 ≠ D) → (∀ p ∈ src ++ news, p.1 < I) → I < D → D < C → env.locals < D → Fr h₀ C h (fun y => if y = x then some v else m₁ y) →
      News h₀ C h ((I, oI) :: (env.locals, oL) :: (D, lstObj ys ep) :: src ++ nx) →
      wpAny (model prog w) A (eval elt (compEnvC scope cl C env)) (EPost h₀ C env.locals D I ((I, oI) :: (env.locals, oL) :: (D, lstObj ys ep) :: src) (fun y nx' => J (i + 1) (ys ++ [y]) nx') s) E' { s with heap := h, toks := tk })
    (done : ∀ D ys ep nx h tk hp, J items.length ys nx → (∀ p ∈ src ++ nx, p.1 ≠ D) → fin D m ((D, lstObj ys ep) :: src ++ nx) h tk { s with heap := hp }) :
    wpAny (model prog w) A (pyIter (.ref l)) (fun it s₂ => CompAt prog w A h₀ env scope cl x elt fin it s₂) E s := by
  refine wpAny_pyIter_list hl ?_
  have hlt : ∀ p ∈ src ++ news, p.1 < s.heap.objs.size := fun p hp => Heap.lt_size (N p hp).1
  have hne : l ≠ s.heap.objs.size := by obtain ⟨o, ho, _⟩ := hl; exact Nat.ne_of_lt (Heap.lt_size ho)
  refine ⟨s.heap.objs.size, [s.heap.objs.size, l], items.toArray.size, _, _, m, src, news, J, rfl, ⟨Walks.list hh s.heap.objs.size l hne items.toArray, by simpa using hsz, fun i h st => by obtain ⟨⟨o, ho, _⟩, _⟩ := st; exact ⟨o, ho⟩, next_is_new F, ?_, ?_, ⟨⟨_, Heap.get?_push_size _ rfl, rfl, rfl⟩, hl.at fun o e => Heap.get?_push_of_some _ e⟩, F.push _, (fun p hp => ⟨Heap.get?_push_of_some _ (N p hp).1, (N p hp).2⟩), ?_, h0, hlen, ?_⟩, ?_⟩
  · exact Ne.symm (Nat.ne_of_lt F.ns.lt)
  · intro b hb
    rcases List.mem_cons.mp hb with e | hm
    · exact .inl e
    · rw [List.mem_singleton.mp hm]; exact .inr hsrc
  · intro p hp; exact Nat.ne_of_lt (hlt p hp)
  · intro C D oL oI i v m₁ ys ep nx h tk E' hi hP hJ hnx hltD hDC hID hLD F₁ N₁
    exact turn _ C D oL oI i v m₁ ys ep nx h tk E' (by simpa using hP) hJ hnx hlt hID hDC hLD F₁ N₁
  · intro D ys ep nx h tk hJ ho
    exact done D ys ep nx h tk _ (by simpa using hJ) ho
theorem nameB_L {M : Model} {x : Str} {pos : Pos} {C : Addr} {v : Value} {m : Str → Option Value} {Q : Value → Shared → Prop} (F : Fr h₀ C s.heap m) (hC : env.locals = C) (hv : m x = some v) (hk : env.scope.kind = .function) (hx : env.kindOf x = some .local) (hd : (x == ("__debug__" : Str)) = false) (h : Q v s) :
    wpAny M A (eval (.Name x pos) env) Q E s := by subst hC; exact wpAny_Name (wpAny_loadName_local hk hx F.ns hv h) hd
end
example : True := by first | walk1 | trivial
section
variable {prog : Program} {w : World} {A : Around} {E : Value → Shared → Prop} {s : Shared} {env cenv : Env} {h₀ : Heap} {x x2 : Str} {px px2 : Pos} {elt iter iter2 : Expr} {scope : Scope} {pos : Pos}
theorem compTurn_two0 (t t2 : Expr) (it acc : Value) (env : Env) :
    compTurn (.ListComp elt [⟨t, iter, [], 0⟩, ⟨t2, iter2, [], 0⟩] scope pos) 0 it acc env = (standAt iter.pos >>= fun _ => pyNext it >>= fun r => match r with
      | none => pure (.done .next)
      | some v => letOwnedTupleGo t it v >>= fun _ => assign t env v >>= fun _ =>
        (eval iter2 env >>= fun y => standAt iter2.pos >>= fun _ => foldedSetIterable iter2 env y >>= fun y => holding [y] (pyIter y) >>= fun it2 =>
          runOwn (.compStart (.ListComp elt [⟨t, iter, [], 0⟩, ⟨t2, iter2, [], 0⟩] scope pos) 1 it2 acc env) env >>= fun _ => pure ()) >>= fun _ =>
          again (.compLoop (.ListComp elt [⟨t, iter, [], 0⟩, ⟨t2, iter2, [], 0⟩] scope pos) 0 it acc env)) := by
  simp only [bind_assoc]
  rfl
theorem compTurn_two1 (t t2 : Expr) (it acc : Value) (env : Env) :
    compTurn (.ListComp elt [⟨t, iter, [], 0⟩, ⟨t2, iter2, [], 0⟩] scope pos) 1 it acc env = (standAt iter2.pos >>= fun _ => pyNext it >>= fun r => match r with
      | none => pure (.done .next)
      | some v => letOwnedTupleGo t2 it v >>= fun _ => assign t2 env v >>= fun _ =>
        (eval elt env >>= fun x => call (.builtin "list.append") [acc, x] >>= fun _ => pure ()) >>= fun _ =>
          again (.compLoop (.ListComp elt [⟨t, iter, [], 0⟩, ⟨t2, iter2, [], 0⟩] scope pos) 1 it acc env)) := by rfl
theorem compStart_two {t t2 : Expr} {R : Result → Shared → Prop} {it acc : Value}
    (h0 : codeAny (model prog w) A (.compLoop (.ListComp elt [⟨t, iter, [], 0⟩, ⟨t2, iter2, [], 0⟩] scope pos) 1 it acc env) R s)
    (h : wpAny (model prog w) A (pyIter it) (fun it' s' => codeAny (model prog w) A (.compLoop (.ListComp elt [⟨t, iter, [], 0⟩, ⟨t2, iter2, [], 0⟩] scope pos) 1 it' acc env) R s')
      (notedBy (model prog w) A env fun x s' => R (.error x) s') s) :
    codeAny (model prog w) A (.compStart (.ListComp elt [⟨t, iter, [], 0⟩, ⟨t2, iter2, [], 0⟩] scope pos) 1 it acc env) R s := by
  refine codeAny_of_tree ?_
  show wpAny _ _ ((compStart (.ListComp elt [⟨t, iter, [], 0⟩, ⟨t2, iter2, [], 0⟩] scope pos) 1 it acc env).onRaise (fun x => do noteFrame x env; standAt theWindowsPlace)) _ _ s
  refine wpAny_notedAt ?_
  unfold compStart
  show wpAny _ _ (ask >>= _) _ _ s
  refine wpAny_bind (wpAny_askSetting (wpAny_ite ?_))
  split
  · first
      | exact wpAny_bind (wpAny_pure (wpAny_pure (And.intro rfl h0)))
      | exact wpAny_pure (And.intro rfl h0)
  · first
      | exact wpAny_bind (wpAny_rule (wpAny_bind (wpAny_standAt (wpAny_bind (wpAny_mono h (fun it' s' h' => wpAny_pure (And.intro rfl h')) fun _ _ x => x)))))
      | (refine wpAny_bind (wpAny_rule ?_); show wpAny _ _ (standAt iter2.pos >>= _) _ _ s; exact wpAny_bind (wpAny_standAt (wpAny_bind (wpAny_mono h (fun it' s' h' => wpAny_pure (And.intro rfl h')) fun _ _ x => x))))
theorem mark_none (A : Around) : A.mark none = A := rfl
abbrev twoE (elt iter iter2 : Expr) (x x2 : Str) (px px2 : Pos) (scope : Scope) (pos : Pos) : Expr := .ListComp elt [⟨.Name x px, iter, [], 0⟩, ⟨.Name x2 px2, iter2, [], 0⟩] scope pos
theorem comp_inner {cl : List (Str × Addr)} {C I D : Addr} {fp : List Addr} {n : Nat} {P : Nat → Value → Prop} {St : Nat → Heap → Prop} {m : Str → Option Value} {src nx0 : List (Addr × Obj)} {J : Nat → List Value → List (Addr × Obj) → Prop} {ys0 : List Value} {ep0 : Nat} {Q : Flow → Shared → Prop}
    (W : Walks prog w A I fp [I] n P St) (hlive : ∀ i h, St i h → ∃ o, h.get? I = some o) (hI : h₀.get? I = none) (hC : C ∉ fp)
    (hfp : ∀ b ∈ fp, b = I ∨ (∃ o, (b, o) ∈ src) ∨ ∃ o, h₀.get? b = some o) (hst : St 0 s.heap) (F : Fr h₀ C s.heap m) (N : News h₀ C s.heap (src ++ (D, lstObj ys0 ep0) :: nx0)) (hoff : ∀ p ∈ src ++ (D, lstObj ys0 ep0) :: nx0, p.1 ≠ I)
    (hsD : ∀ p ∈ src ++ nx0, p.1 ≠ D) (hkind : scope.kind = .function) (hx : scope.names.lookup x2 = some .local) (h0 : J 0 ys0 nx0) (hlen : ∀ i ys nx, J i ys nx → ys.length < 1000)
    (turn : ∀ (i : Nat) (v : Value) (ys : List Value) (ep : Nat) (nx : List (Addr × Obj)) (h : Heap) (tk : Nat) (oI : Obj) (E' : Value → Shared → Prop), i < n → P i v → J i ys nx → (∀ p ∈ nx, p.1 ≠ I ∧ p.1 ≠ D) → Fr h₀ C h (fun y => if y = x2 then some v else m y) → News h₀ C h ((I, oI) :: (D, lstObj ys ep) :: src ++ nx) →
      wpAny (model prog w) A (eval elt (compEnvC scope cl C env)) (fun y s₂ => ∃ h' tk nx', s₂ = { s with heap := h', toks := tk } ∧ Fr h₀ C h' (fun y => if y = x2 then some v else m y) ∧ News h₀ C h' ((I, oI) :: (D, lstObj ys ep) :: src ++ nx') ∧ (∀ p ∈ nx', p.1 ≠ I ∧ p.1 ≠ D) ∧ J (i + 1) (ys ++ [y]) nx') E' { s with heap := h, toks := tk })
    (done : ∀ m' ys ep nx h tk, J n ys nx → (∀ p ∈ nx, p.1 ≠ D) → Fr h₀ C h m' → News h₀ C h ((D, lstObj ys ep) :: src ++ nx) → Q .next { s with heap := h, toks := tk }) :
    wpAny (model prog w) A (runOwn (.compStart (twoE elt iter iter2 x x2 px px2 scope pos) 1 (.ref I) (.ref D) (compEnvC scope cl C env)) (compEnvC scope cl C env)) Q E s := by
  refine wpAny_runOwn ?_
  rw [mark_none]
  have hDC : D ≠ C := (N (D, lstObj ys0 ep0) (by simp)).2.1
  have hD0 : h₀.get? D = none := (N (D, lstObj ys0 ep0) (by simp)).2.2
  have hID : D ≠ I := hoff (D, lstObj ys0 ep0) (by simp)
  have L1 : codeAny (model prog w) A (.compLoop (twoE elt iter iter2 x x2 px px2 scope pos) 1 (.ref I) (.ref D) (compEnvC scope cl C env)) (fun r s' => match r with | .ok f => Q f s' | .error e => cameBackBy (model prog w) A (compEnvC scope cl C env) E e s') s := by
    refine compAt0 (cenv := compEnvC scope cl C env) (x := x2) (px := px2) (src := src) (news := (D, lstObj ys0 ep0) :: nx0) (compTurn_two1 _ _ _ _ _) (lookup_relabel_local hx) (by simp [compEnvC, relabel, hkind]) W hlive hI hC hfp hst F N hoff
      (fun i m₁ nw => (∀ y, y ≠ x2 → m₁ y = m y) ∧ ∃ ys ep nx, nw = (D, lstObj ys ep) :: nx ∧ (∀ p ∈ nx, p.1 ≠ D) ∧ J i ys nx) ⟨fun _ _ => rfl, ys0, ep0, nx0, rfl, fun p hp => hsD p (List.mem_append_right _ hp), h0⟩ ?_ ?_
    · rintro i v m₁ nw h tk oI E' hi hP ⟨hm₁, ys, ep, nx, rfl, hnx, hJ⟩ hnI F₂ N₂
      have hperm : ∀ p, p ∈ (I, oI) :: (D, lstObj ys ep) :: src ++ nx ↔ p ∈ (I, oI) :: src ++ ((D, lstObj ys ep) :: nx) := fun p => by simp only [List.cons_append, List.mem_cons, List.mem_append]; constructor <;> (rintro (h | h | h | h) <;> simp [h])
      have em : (fun y => if y = x2 then some v else m₁ y) = fun y => if y = x2 then some v else m y := funext fun y => by split <;> first | rfl | exact hm₁ y (by assumption)
      rw [em] at F₂
      refine wpAny_bind (wpAny_mono (turn i v ys ep nx h tk oI E' hi hP hJ (fun p hp => ⟨hnI p (.tail _ hp), hnx p hp⟩) F₂ (fun p hp => N₂ p ((hperm p).mp hp))) (fun y s₂ q => ?_) fun _ _ e => e)
      obtain ⟨h', tk', nx', rfl, F₃, N₃, hn₃, hJ₃⟩ := q
      have hD₃ := (N₃ (D, lstObj ys ep) (by simp)).1
      refine wpAny_bind (wpAny_list_append_plain (items := ys.toArray) ⟨ep, hD₃⟩ (fun h₄ hpl hs₄ => wpAny_pure ?_) (by have := hlen _ _ _ hJ; rw [sizeLine_eq]; simp; omega))
      obtain ⟨ep', hep⟩ := hpl
      refine ⟨h₄, tk', _, (D, lstObj (ys ++ [y]) ep') :: nx', rfl, ⟨F₃.ns.sameBut hs₄ (Ne.symm hDC), fun b o e => hs₄.extBut b o (fun q => by subst q; rw [hD0] at e; cases e) (F₃.keep b o e), F₃.above⟩, fun p hp => ?_, fun p hp => ?_, fun y hy => if_neg hy, ys ++ [y], ep', nx', rfl, fun p hp => (hn₃ p hp).2, hJ₃⟩
      · have hp' : p = (D, lstObj (ys ++ [y]) ep') ∨ (p.1 ≠ D ∧ p ∈ (I, oI) :: (D, lstObj ys ep) :: src ++ nx') := by
          rcases List.mem_append.mp hp with hp | hp
          · right
            rcases List.mem_cons.mp hp with rfl | hp
            · exact ⟨Ne.symm hID, .head _⟩
            · exact ⟨hsD p (List.mem_append_left _ hp), .tail _ (.tail _ (List.mem_append_left _ hp))⟩
          · rcases List.mem_cons.mp hp with rfl | hp
            · exact .inl rfl
            · exact .inr ⟨(hn₃ p hp).2, List.mem_append_right _ hp⟩
        rcases hp' with rfl | ⟨hne, hp'⟩
        · exact ⟨by simpa using hep, hDC, hD0⟩
        · exact ⟨hs₄.extBut _ _ hne (N₃ p hp').1, (N₃ p hp').2⟩
      · rcases List.mem_cons.mp hp with rfl | hp
        · exact hID
        · exact (hn₃ p hp).1
    · rintro m₁ nw h tk ⟨hm₁, ys, ep, nx, rfl, hnx, hJ⟩ F₂ N₂
      refine done m₁ ys ep nx h tk hJ hnx F₂ fun p hp => ?_
      have hp' : p = (D, lstObj ys ep) ∨ p ∈ src ∨ p ∈ nx := by simpa using hp
      exact N₂ p (by rcases hp' with h | h | h <;> simp [h])
  exact compStart_two L1 (W.self 0 _ _ _ hst L1)
def IPost (h₀ : Heap) (C L D I : Addr) (fix src : List (Addr × Obj)) (Jn : List Value → List (Addr × Obj) → Prop) (s s₂ : Shared) : Prop :=
  ∃ h' tk m' ys ep nx, s₂ = { s with heap := h', toks := tk } ∧ Fr h₀ C h' m' ∧ News h₀ C h' (fix ++ (D, lstObj ys ep) :: src ++ nx) ∧ (∀ p ∈ nx, p.1 ≠ I ∧ p.1 ≠ L ∧ p.1 ≠ D) ∧ Jn ys nx
structure CompIn2 (prog : Program) (w : World) (A : Around) (h₀ : Heap) (env : Env) (scope : Scope) (cl : List (Str × Addr)) (x : Str) (elt iter iter2 : Expr) (x2 : Str) (px px2 pos : Pos) (I : Addr) (fp : List Addr) (n : Nat) (P : Nat → Value → Prop) (St : Nat → Heap → Prop)
    (m : Str → Option Value) (src news : List (Addr × Obj)) (J : Nat → List Value → List (Addr × Obj) → Prop) (s : Shared) : Prop where
  W : Walks prog w A I fp [I] n P St
  hlive : ∀ i h, St i h → ∃ o, h.get? I = some o
  hI : h₀.get? I = none
  hIL : I ≠ env.locals
  hfp : ∀ b ∈ fp, b = I ∨ (∃ o, (b, o) ∈ src) ∨ ∃ o, h₀.get? b = some o
  hst : St 0 s.heap
  F : Fr h₀ env.locals s.heap m
  N : News h₀ env.locals s.heap (src ++ news)
  hoff : ∀ p ∈ src ++ news, p.1 ≠ I
  h0 : J 0 [] news
  turn : ∀ (C D : Addr) (oL oI : Obj) (i : Nat) (v : Value) (m₁ : Str → Option Value) (ys : List Value) (ep : Nat) (nx : List (Addr × Obj)) (h : Heap) (tk : Nat) (E' : Value → Shared → Prop), i < n → P i v → J i ys nx → (∀ p ∈ nx, p.1 ≠ I ∧ p.1 ≠ env.locals ∧ p.1 ≠ D) → (∀ p ∈ src ++ news, p.1 < D) → D < C → I < D → env.locals < D → Fr h₀ C h (fun y => if y = x then some v else m₁ y) →
    News h₀ C h ((I, oI) :: (env.locals, oL) :: (D, lstObj ys ep) :: src ++ nx) →
    wpAny (model prog w) A (eval iter2 (compEnvC scope cl C env)) (fun xv s₁ => Stop (wpAny (model prog w) A (pyIter xv) (fun it2 s₂ => wpAny (model prog w) A (runOwn (.compStart (twoE elt iter iter2 x x2 px px2 scope pos) 1 it2 (.ref D) (compEnvC scope cl C env)) (compEnvC scope cl C env))
      (fun _ => IPost h₀ C env.locals D I [(I, oI), (env.locals, oL)] src (J (i + 1)) s) E' s₂) E' s₁)) E' { s with heap := h, toks := tk }

theorem comp_block2 {cl : List (Str × Addr)} {I : Addr} {fp : List Addr} {n : Nat} {P : Nat → Value → Prop} {St : Nat → Heap → Prop} {m : Str → Option Value} {src news : List (Addr × Obj)} {J : Nat → List Value → List (Addr × Obj) → Prop}
    (Z : CompIn2 prog w A h₀ env scope cl x elt iter iter2 x2 px px2 pos I fp n P St m src news J s) {RR : Value → Addr → Result → Shared → Prop}
    (hcell : ∀ y ∈ scope.names, y.2 ≠ .cell) (hkind : scope.kind = .function) (hx : scope.names.lookup x = some .local) (hs2 : ∀ C y, foldedSetIterable iter2 (compEnvC scope cl C env) y = pure y)
    (hRR : ∀ D C oC mC ys ep nx h tk, J n ys nx → Fr h₀ env.locals h m → News h₀ env.locals h ((C, oC) :: (D, lstObj ys ep) :: src ++ nx) → (∀ p ∈ (D, lstObj ys ep) :: src ++ nx, p.1 ≠ C) → (∀ p ∈ src ++ nx, p.1 ≠ D) → h.Ns C mC →
      RR (.ref D) C (.ok .next) { s with heap := h, toks := tk }) :
    wpAny (model prog w) A (newList []) (fun acc s₃ => wpAny (model prog w) A (newFunctionEnv scope env.globals cl [] env.qual none .none (some env)) (fun cenv s₄ =>
      codeAny (model prog w) A (.compStart (twoE elt iter iter2 x x2 px px2 scope pos) 0 (.ref I) acc { cenv with scope := relabel scope env }) (RR acc cenv.locals) s₄) E s₃) E s := by
  obtain ⟨W, hlive, hI, hIL, hfp, hst, F, N, hoff, h0, turn⟩ := Z
  refine wpAny_newObj_type (wpAny_newFunctionEnv hcell (by intro y hy; simp at hy) (fun h₁ hns₁ hsb₁ => ?_) hkind)
  dsimp only at hns₁ hsb₁ ⊢
  generalize hH2 : s.heap.push { cls := .type "list", dict := none, data := .seq ([] : List Value).toArray } = H2 at hns₁ hsb₁ ⊢
  have hC : H2.objs.size = s.heap.objs.size + 1 := by rw [← hH2, Heap.size_push]
  generalize hD : s.heap.objs.size = D at hC
  generalize hCC : H2.objs.size = C at hns₁ hsb₁ hC
  have lDC : D < C := by rw [hC]; exact Nat.lt_succ_self _
  have hDC : D ≠ C := Nat.ne_of_lt lDC
  have old : ∀ b o, s.heap.get? b = some o → h₁.get? b = some o := fun b o e => hsb₁.extBut b o (Nat.ne_of_lt (Nat.lt_trans (hD ▸ Heap.lt_size e) lDC)) (Heap.get?_push_of_some _ (hH2 ▸ Heap.get?_push_of_some _ e))
  obtain ⟨oL, esL, epL, hoL, rL⟩ := id F.ns
  have hLD : env.locals < D := by rw [← hD]; exact Heap.lt_size hoL
  obtain ⟨oI0, hoI0⟩ := hlive _ _ hst
  have hID : I < D := by rw [← hD]; exact Heap.lt_size hoI0
  have hltD : ∀ p ∈ src ++ news, p.1 < D := fun p hp => by rw [← hD]; exact Heap.lt_size (N p hp).1
  have new0 : ∀ a, D ≤ a → h₀.get? a = none := fun a ha => by
    cases e : h₀.get? a with
    | none => rfl
    | some o' => exact absurd (Nat.lt_of_lt_of_le (hD ▸ Heap.lt_size (F.keep _ _ e)) ha) (Nat.lt_irrefl _)
  have hL0 : h₀.get? env.locals = none := by
    cases e : h₀.get? env.locals with
    | none => rfl
    | some o' => exact absurd (Heap.lt_size e) (Nat.not_lt.mpr F.above)
  have F₁ : Fr h₀ C h₁ (fun y => ([] : List (Str × Value)).reverse.lookup y) := ⟨hns₁, fun b o e => old b o (F.keep b o e), Nat.le_of_lt (Nat.lt_of_le_of_lt F.above (Nat.lt_trans hLD lDC))⟩
  have hacc : h₁.get? D = some (lstObj [] 0) := hsb₁.extBut _ _ hDC (Heap.get?_push_of_some _ (by rw [← hD, ← hH2]; exact Heap.get?_push_size _ rfl))
  have N₁ : News h₀ C h₁ (((env.locals, oL) :: src) ++ ((D, lstObj [] 0) :: news)) := fun p hp => by
    have hp' : p = (env.locals, oL) ∨ p = (D, lstObj [] 0) ∨ p ∈ src ++ news := by
      rcases List.mem_append.mp hp with hp | hp
      · rcases List.mem_cons.mp hp with hp | hp
        · exact .inl hp
        · exact .inr (.inr (List.mem_append_left _ hp))
      · rcases List.mem_cons.mp hp with hp | hp
        · exact .inr (.inl hp)
        · exact .inr (.inr (List.mem_append_right _ hp))
    rcases hp' with rfl | rfl | hp'
    · exact ⟨old _ _ hoL, Nat.ne_of_lt (Nat.lt_trans hLD lDC), hL0⟩
    · exact ⟨hacc, hDC, new0 _ (Nat.le_refl _)⟩
    · exact ⟨old _ _ (N p hp').1, Nat.ne_of_lt (Nat.lt_trans (hltD p hp') lDC), (N p hp').2.2⟩
  have hst₁ : St 0 h₁ := W.frame _ _ _ hst fun b _ o e => old b o e
  have loop : ∀ s₃ : Shared, s₃ = { s with heap := h₁, toks := s.toks + ([] : List (Str × Value)).length } →
      codeAny (model prog w) A (.compLoop (twoE elt iter iter2 x x2 px px2 scope pos) 0 (.ref I) (.ref D) (compEnvC scope cl C env)) (RR (.ref D) C) s₃ := by
    rintro s₃ rfl
    refine compAt0 (cenv := compEnvC scope cl C env) (src := (env.locals, oL) :: src) (news := (D, lstObj [] 0) :: news) (compTurn_two0 _ _ _ _ _) (lookup_relabel_local hx) (by simp [compEnvC, relabel, hkind]) W hlive hI ?_ ?_ hst₁ F₁ N₁ ?_
      (fun i _ nw => ∃ ys ep nx, nw = (D, lstObj ys ep) :: nx ∧ (∀ p ∈ nx, p.1 ≠ env.locals ∧ p.1 ≠ D) ∧ J i ys nx) ⟨[], 0, news, rfl, ?_, h0⟩ ?_ ?_
    · intro hm
      have hm' : C ∈ fp := hm
      rcases hfp _ hm' with q | ⟨o, ho⟩ | ⟨o, ho⟩
      · exact absurd (q ▸ Nat.lt_trans hID lDC) (Nat.lt_irrefl _)
      · exact absurd (Nat.lt_trans (hltD _ (List.mem_append_left _ ho)) lDC) (Nat.lt_irrefl _)
      · rw [new0 _ (Nat.le_of_lt lDC)] at ho; cases ho
    · intro b hb
      rcases hfp b hb with q | ⟨o, ho⟩ | q
      · exact .inl q
      · exact .inr (.inl ⟨o, .tail _ ho⟩)
      · exact .inr (.inr q)
    · intro p hp
      rcases List.mem_append.mp hp with hp | hp
      · rcases List.mem_cons.mp hp with rfl | hp
        · exact Ne.symm hIL
        · exact hoff p (List.mem_append_left _ hp)
      · rcases List.mem_cons.mp hp with rfl | hp
        · exact Nat.ne_of_gt hID
        · exact hoff p (List.mem_append_right _ hp)
    · intro p hp
      exact ⟨(N p (List.mem_append_right _ hp)).2.1, Nat.ne_of_lt (hltD p (List.mem_append_right _ hp))⟩
    · rintro i v m₁ nw h tk oI E' hi hP ⟨ys, ep, nx, rfl, hnx, hJ⟩ hnI F₂ N₂
      have hperm : ∀ p, p ∈ (I, oI) :: (env.locals, oL) :: (D, lstObj ys ep) :: src ++ nx ↔ p ∈ (I, oI) :: ((env.locals, oL) :: src) ++ ((D, lstObj ys ep) :: nx) := fun p => by simp only [List.cons_append, List.mem_cons, List.mem_append]; constructor <;> (rintro (h | h | h | h | h) <;> simp [h])
      refine wpAny_bind (wpAny_mono (turn C D oL oI i v m₁ ys ep nx h tk E' hi hP hJ (fun p hp => ⟨hnI p (.tail _ hp), hnx p hp⟩) hltD lDC hID hLD F₂ (fun p hp => N₂ p ((hperm p).mp hp))) (fun y s₂ q => ?_) fun _ _ e => e)
      refine wpAny_bind (wpAny_standAt (wpAny_bind (wpAny_of_eq (hs2 C y) (wpAny_bind (wpAny_holding (wpAny_mono q (fun it2 s₃ q3 => wpAny_bind (wpAny_mono q3 (fun _ s₄ q4 => wpAny_pure ?_) fun _ _ e => e)) fun _ _ e => e))))))
      obtain ⟨h', tk', m', ys', ep', nx', rfl, F₃, N₃, hn₃, hJ₃⟩ := q4
      refine ⟨h', tk', m', (D, lstObj ys' ep') :: nx', rfl, F₃, fun p hp => ?_, fun p hp => ?_, ys', ep', nx', rfl, fun p hp => (hn₃ p hp).2, hJ₃⟩
      · have hp' : p = (I, oI) ∨ p = (env.locals, oL) ∨ p ∈ src ∨ p = (D, lstObj ys' ep') ∨ p ∈ nx' := by simpa using hp
        exact N₃ p (by rcases hp' with h | h | h | h | h <;> simp [h])
      · rcases List.mem_cons.mp hp with rfl | hp
        · exact Nat.ne_of_gt hID
        · exact (hn₃ p hp).1
    · rintro m₁ nw h tk ⟨ys, ep, nx, rfl, hnx, hJ⟩ F₂ N₂
      obtain ⟨oC, es, ec, hoC, rC⟩ := id F₂.ns
      have gL := (N₂ (env.locals, oL) (by simp)).1
      refine hRR D C oC m₁ ys ep nx h tk hJ ⟨⟨oL, esL, epL, gL, rL⟩, F₂.keep, F.above⟩ (fun p hp => ?_) (fun p hp => ?_) (fun p hp => ?_) F₂.ns
      · have hp' : p = (C, oC) ∨ p = (D, lstObj ys ep) ∨ p ∈ src ∨ p ∈ nx := by simpa using hp
        rcases hp' with rfl | rfl | hp' | hp'
        · exact ⟨hoC, Nat.ne_of_gt (Nat.lt_trans hLD lDC), new0 _ (Nat.le_of_lt lDC)⟩
        · exact ⟨(N₂ (D, lstObj ys ep) (by simp)).1, Nat.ne_of_gt hLD, new0 _ (Nat.le_refl _)⟩
        · exact ⟨(N₂ p (by simp [hp'])).1, (N p (List.mem_append_left _ hp')).2.1, (N₂ p (by simp [hp'])).2.2⟩
        · exact ⟨(N₂ p (by simp [hp'])).1, (hnx p hp').1, (N₂ p (by simp [hp'])).2.2⟩
      · have hp' : p ∈ ((env.locals, oL) :: src) ++ ((D, lstObj ys ep) :: nx) := by
          have : p = (D, lstObj ys ep) ∨ p ∈ src ∨ p ∈ nx := by simpa using hp
          rcases this with h | h | h <;> simp [h]
        exact (N₂ p hp').2.1
      · rcases List.mem_append.mp hp with hp | hp
        · exact Nat.ne_of_lt (hltD p (List.mem_append_left _ hp))
        · exact (hnx p hp).2
  have L1 := loop _ rfl
  exact codeAny_compStart_list L1 (W.self 0 _ _ _ hst₁ L1)
end
section
variable {prog : Program} {w : World} {A : Around} {E : Value → Shared → Prop} {s : Shared} {env : Env} {h₀ : Heap} {x x2 : Str} {px px2 : Pos} {elt iter iter2 : Expr} {scope : Scope} {pos : Pos}
/-- what the walk of a comprehension of two clauses owes when its source has been turned into an iterator -/
def CompAt2 (prog : Program) (w : World) (A : Around) (h₀ : Heap) (env : Env) (scope : Scope) (cl : List (Str × Addr)) (x : Str) (elt iter iter2 : Expr) (x2 : Str) (px px2 pos : Pos) (fin : Addr → (Str → Option Value) → List (Addr × Obj) → Heap → Nat → Shared → Prop) (it : Value) (s : Shared) : Prop :=
  ∃ I fp n P St m src news J, it = .ref I ∧ CompIn2 prog w A h₀ env scope cl x elt iter iter2 x2 px px2 pos I fp n P St m src news J s ∧
    ∀ D ys ep nx h tk, J n ys nx → (∀ p ∈ src ++ nx, p.1 ≠ D) → fin D m ((D, lstObj ys ep) :: src ++ nx) h tk s

theorem comp_eval2 {L0 : Addr} {m0 : Str → Option Value} {cl : List (Str × Addr)} {Q : Value → Shared → Prop} (_ : Fr h₀ L0 s.heap m0)
    (hclos : closureFor scope env = pure cl) (hcell : ∀ y ∈ scope.names, y.2 ≠ .cell) (hkind : scope.kind = .function)
    (hnames : ∀ y ∈ scope.names, y.2 = .local → scope.names.lookup y.1 = some .local) (hx : scope.names.lookup x = some .local) (hs2 : ∀ C y, foldedSetIterable iter2 (compEnvC scope cl C env) y = pure y)
    (h : wpAny (model prog w) A (eval iter env) (fun xv s₁ => Stop (wpAny (model prog w) A (pyIter xv) (fun it s₂ => CompAt2 prog w A h₀ env scope cl x elt iter iter2 x2 px px2 pos
      (fun D m nw h tk s₂ => Fr h₀ env.locals h m → News h₀ env.locals h nw → Q (.ref D) { s₂ with heap := h, toks := tk }) it s₂) E s₁)) E s)
    (hs : ∀ x, foldedSetIterable iter env x = pure x := by intro _; rfl) :
    wpAny (model prog w) A (eval (.ListComp elt [⟨.Name x px, iter, [], 0⟩, ⟨.Name x2 px2, iter2, [], 0⟩] scope pos) env) Q E s := by
  rw [eval_ListComp]
  refine wpAny_comprehension_free (use := none) rfl hs hclos hkind hnames (wpAny_mono h (fun xv s₁ h₁ => wpAny_mono h₁ (fun it s₂ h₂ => ?_) fun _ _ e => e) fun _ _ e => e)
  obtain ⟨I, fp, n, P, St, m, src, news, J, rfl, Z, hQ⟩ := h₂
  refine comp_block2 Z (RR := fun acc C => compPost (model prog w) A E none Q acc C) hcell hkind hx hs2 ?_
  intro D C oC mC ys ep nx h tk hJ F N hoC hoD hns
  refine ⟨mC, hns, fun h' hs' => ?_⟩
  have hCL : C ≠ env.locals := (N (C, oC) (by simp)).2.1
  have hC0 : h₀.get? C = none := (N (C, oC) (by simp)).2.2
  refine hQ D ys ep nx h' tk hJ hoD ⟨F.ns.sameBut hs' (Ne.symm hCL), fun b o e => hs'.extBut b o (fun q => by subst q; rw [hC0] at e; cases e) (F.keep b o e), F.above⟩ fun p hp => ?_
  have := N p (.tail _ hp)
  exact ⟨hs'.extBut _ _ (hoC p hp) this.1, this.2⟩

theorem comp_assign2 {y : Str} {py : Pos} {cl : List (Str × Addr)} {spos : Pos} {Q : Flow → Shared → Prop} {L0 : Addr} {m0 : Str → Option Value} (_ : Fr h₀ L0 s.heap m0)
    (hsw : swapsWith (.ListComp elt [⟨.Name x px, iter, [], 0⟩, ⟨.Name x2 px2, iter2, [], 0⟩] scope pos) (some (.Name y py)) spos.line env = pure true)
    (hclos : closureFor scope env = pure cl) (hcell : ∀ z ∈ scope.names, z.2 ≠ .cell) (hkind : scope.kind = .function)
    (hnames : ∀ z ∈ scope.names, z.2 = .local → scope.names.lookup z.1 = some .local) (hx : scope.names.lookup x = some .local) (hs2 : ∀ C y, foldedSetIterable iter2 (compEnvC scope cl C env) y = pure y)
    (h : wpAny (model prog w) A (eval iter env) (fun xv s₁ => Stop (wpAny (model prog w) A (pyIter xv) (fun it s₂ => CompAt2 prog w A h₀ env scope cl x elt iter iter2 x2 px px2 pos
      (fun D m nw h tk s₂ => ∀ C oC E', (∀ p ∈ nw, p.1 ≠ C) → Fr h₀ env.locals h m → News h₀ env.locals h ((C, oC) :: nw) →
        wpAny (model prog w) A (storeName env y (.ref D)) (fun _ s₃ => AsgPost h₀ env.locals C oC Q s₂ s₃) E' { s₂ with heap := h, toks := tk }) it s₂) E s₁)) E s)
    (hs : ∀ x, foldedSetIterable iter env x = pure x := by intro _; rfl) :
    wpAny (model prog w) A (exec (.Assign [.Name y py] (.ListComp elt [⟨.Name x px, iter, [], 0⟩, ⟨.Name x2 px2, iter2, [], 0⟩] scope pos) spos) env) Q E s := by
  rw [exec_Assign_Name_used _ _ _ _ hsw]
  refine wpAny_bind (wpAny_standAt (wpAny_bind ?_))
  show wpAny _ A (do let _ ← comprehension (.ListComp elt [⟨.Name x px, iter, [], 0⟩, ⟨.Name x2 px2, iter2, [], 0⟩] scope pos) scope env _ (newList []) false (eval iter env) (some (assign (.Name y py) env))) _ _ s
  refine wpAny_bind (wpAny_mono (wpAny_comprehension_free (use := some (assign (.Name y py) env)) (Q := fun _ s' => Q .next s') rfl hs hclos hkind hnames
    (wpAny_mono h (fun xv s₁ h₁ => wpAny_mono h₁ (fun it s₂ h₂ => ?_) fun _ _ e => e) fun _ _ e => e)) (fun _ s' hq => wpAny_pure (wpAny_pure hq)) fun _ _ e => e)
  obtain ⟨I, fp, n, P, St, m, src, news, J, rfl, Z, hQ⟩ := h₂
  refine comp_block2 Z (RR := fun acc C => compPost (model prog w) A E (some (assign (.Name y py) env)) (fun _ s' => Q .next s') acc C) hcell hkind hx hs2 ?_
  intro D C oC mC ys ep nx h tk hJ F N hoC hoD hns
  show wpAny _ A (assign (.Name y py) env (.ref D)) _ _ _
  refine wpAny_assign_Name (wpAny_mono (hQ D ys ep nx h tk hJ hoD C oC _ hoC F N) (fun _ s₃ q => ?_) fun _ _ e => e)
  obtain ⟨h', tk', m', nw', rfl, F', N', hn', fin⟩ := q
  have gC := N' (C, oC) (.head _)
  have gC0 := N (C, oC) (.head _)
  obtain ⟨o, es, ec, ho, r⟩ := hns
  rw [gC0.1] at ho; cases ho
  refine ⟨mC, ⟨_, es, ec, gC.1, r⟩, fun h'' hs'' => fin h'' tk' ?_ ?_⟩
  · exact ⟨F'.ns.sameBut hs'' (Ne.symm gC.2.1), fun b o e => hs''.extBut b o (fun q => by subst q; rw [gC.2.2] at e; cases e) (F'.keep b o e), F'.above⟩
  · intro p hp
    have := N' p (.tail _ hp)
    exact ⟨hs''.extBut _ _ (hn' p hp) this.1, this.2⟩

theorem compAt2_range {cl : List (Str × Addr)} {fin : Addr → (Str → Option Value) → List (Addr × Obj) → Heap → Nat → Shared → Prop} {r : Addr} {a₀ b₀ : Int} {t₀ u₀ v₀ : Tok} {n : Nat} {m : Str → Option Value} {src : List (Addr × Obj)} (hh : A.handled = none) (hr : IsRange s.heap r a₀ b₀ 1 t₀ u₀ v₀) (hsmall : Builtin.Range.small a₀ b₀ 1 = true) (hn : Builtin.Range.rangeSize a₀ b₀ 1 = (n : Int))
    (F : Fr h₀ env.locals s.heap m) (news : List (Addr × Obj)) (N : News h₀ env.locals s.heap (src ++ news)) (J : Nat → List Value → List (Addr × Obj) → Prop) (h0 : J 0 [] news)
    (turn : ∀ (I C D : Addr) (oL oI : Obj) (i : Nat) (t : Tok) (m₁ : Str → Option Value) (ys : List Value) (ep : Nat) (nx : List (Addr × Obj)) (h : Heap) (tk : Nat) (E' : Value → Shared → Prop), i < n → J i ys nx → (∀ p ∈ nx, p.1 ≠ I ∧ p.1 ≠ env.locals ∧ p.1 ≠ D) → (∀ p ∈ src ++ news, p.1 < I) → I < D → D < C → env.locals < D → Fr h₀ C h (fun y => if y = x then some (.int (a₀ + (i : Nat)) t) else m₁ y) →
      News h₀ C h ((I, oI) :: (env.locals, oL) :: (D, lstObj ys ep) :: src ++ nx) →
      wpAny (model prog w) A (eval iter2 (compEnvC scope cl C env)) (fun xv s₁ => Stop (wpAny (model prog w) A (pyIter xv) (fun it2 s₂ => wpAny (model prog w) A (runOwn (.compStart (twoE elt iter iter2 x x2 px px2 scope pos) 1 it2 (.ref D) (compEnvC scope cl C env)) (compEnvC scope cl C env))
      (fun _ => IPost h₀ C env.locals D I [(I, oI), (env.locals, oL)] src (J (i + 1)) s) E' s₂) E' s₁)) E' { s with heap := h, toks := tk })
    (done : ∀ D ys ep nx h tk hp, J n ys nx → (∀ p ∈ src ++ nx, p.1 ≠ D) → fin D m ((D, lstObj ys ep) :: src ++ nx) h tk { s with heap := hp }) :
    wpAny (model prog w) A (pyIter (.ref r)) (fun it s₂ => CompAt2 prog w A h₀ env scope cl x elt iter iter2 x2 px px2 pos fin it s₂) E s := by
  refine wpAny_pyIter_range hr hsmall ?_
  have hlt : ∀ p ∈ src ++ news, p.1 < s.heap.objs.size := fun p hp => Heap.lt_size (N p hp).1
  refine ⟨s.heap.objs.size, [s.heap.objs.size], n, _, _, m, src, news, J, rfl, ⟨Walks.range hh s.heap.objs.size a₀ 1 n, fun i h st => ⟨_, st⟩, next_is_new F, ?_, ?_, (by show IsRangeIter _ _ _ _ _; rw [hn]; simpa using Heap.get?_push_size _ rfl), F.push _, (fun p hp => ⟨Heap.get?_push_of_some _ (N p hp).1, (N p hp).2⟩), ?_, h0, ?_⟩, ?_⟩
  · exact Ne.symm (Nat.ne_of_lt F.ns.lt)
  · intro b hb; exact .inl (List.mem_singleton.mp hb)
  · intro p hp; exact Nat.ne_of_lt (hlt p hp)
  · rintro C D oL oI i v m₁ ys ep nx h tk E' hi ⟨t, rfl⟩ hJ hnx hltD hDC hID hLD F₁ N₁
    have e : a₀ + (i : Int) * 1 = a₀ + (i : Nat) := by rw [Int.mul_one]
    rw [e] at F₁
    exact turn _ C D oL oI i t m₁ ys ep nx h tk E' hi hJ hnx hlt hID hDC hLD F₁ N₁
  · intro D ys ep nx h tk hJ ho
    exact done D ys ep nx h tk _ hJ ho

theorem compAt2_list {cl : List (Str × Addr)} {fin : Addr → (Str → Option Value) → List (Addr × Obj) → Heap → Nat → Shared → Prop} {l : Addr} {items : List Value} {m : Str → Option Value} {src : List (Addr × Obj)} (hh : A.handled = none) (hl : s.heap.IsList l items.toArray) (hsrc : (∃ o, (l, o) ∈ src) ∨ ∃ o, h₀.get? l = some o)
    (F : Fr h₀ env.locals s.heap m) (news : List (Addr × Obj)) (N : News h₀ env.locals s.heap (src ++ news)) (J : Nat → List Value → List (Addr × Obj) → Prop) (h0 : J 0 [] news)
    (turn : ∀ (I C D : Addr) (oL oI : Obj) (i : Nat) (v : Value) (m₁ : Str → Option Value) (ys : List Value) (ep : Nat) (nx : List (Addr × Obj)) (h : Heap) (tk : Nat) (E' : Value → Shared → Prop), items[i]? = some v → J i ys nx → (∀ p ∈ nx, p.1 ≠ I ∧ p.1 ≠ env.locals ∧ p.1 ≠ D) → (∀ p ∈ src ++ news, p.1 < I) → I < D → D < C → env.locals < D → Fr h₀ C h (fun y => if y = x then some v else m₁ y) →
      News h₀ C h ((I, oI) :: (env.locals, oL) :: (D, lstObj ys ep) :: src ++ nx) →
      wpAny (model prog w) A (eval iter2 (compEnvC scope cl C env)) (fun xv s₁ => Stop (wpAny (model prog w) A (pyIter xv) (fun it2 s₂ => wpAny (model prog w) A (runOwn (.compStart (twoE elt iter iter2 x x2 px px2 scope pos) 1 it2 (.ref D) (compEnvC scope cl C env)) (compEnvC scope cl C env))
      (fun _ => IPost h₀ C env.locals D I [(I, oI), (env.locals, oL)] src (J (i + 1)) s) E' s₂) E' s₁)) E' { s with heap := h, toks := tk })
    (done : ∀ D ys ep nx h tk hp, J items.length ys nx → (∀ p ∈ src ++ nx, p.1 ≠ D) → fin D m ((D, lstObj ys ep) :: src ++ nx) h tk { s with heap := hp }) :
    wpAny (model prog w) A (pyIter (.ref l)) (fun it s₂ => CompAt2 prog w A h₀ env scope cl x elt iter iter2 x2 px px2 pos fin it s₂) E s := by
  refine wpAny_pyIter_list hl ?_
  have hlt : ∀ p ∈ src ++ news, p.1 < s.heap.objs.size := fun p hp => Heap.lt_size (N p hp).1
  have hne : l ≠ s.heap.objs.size := by obtain ⟨o, ho, _⟩ := hl; exact Nat.ne_of_lt (Heap.lt_size ho)
  refine ⟨s.heap.objs.size, [s.heap.objs.size, l], items.toArray.size, _, _, m, src, news, J, rfl, ⟨Walks.list hh s.heap.objs.size l hne items.toArray, fun i h st => by obtain ⟨⟨o, ho, _⟩, _⟩ := st; exact ⟨o, ho⟩, next_is_new F, ?_, ?_, ⟨⟨_, Heap.get?_push_size _ rfl, rfl, rfl⟩, hl.at fun o e => Heap.get?_push_of_some _ e⟩, F.push _, (fun p hp => ⟨Heap.get?_push_of_some _ (N p hp).1, (N p hp).2⟩), ?_, h0, ?_⟩, ?_⟩
  · exact Ne.symm (Nat.ne_of_lt F.ns.lt)
  · intro b hb
    rcases List.mem_cons.mp hb with e | hm
    · exact .inl e
    · rw [List.mem_singleton.mp hm]; exact .inr hsrc
  · intro p hp; exact Nat.ne_of_lt (hlt p hp)
  · intro C D oL oI i v m₁ ys ep nx h tk E' hi hP hJ hnx hltD hDC hID hLD F₁ N₁
    exact turn _ C D oL oI i v m₁ ys ep nx h tk E' (by simpa using hP) hJ hnx hlt hID hDC hLD F₁ N₁
  · intro D ys ep nx h tk hJ ho
    exact done D ys ep nx h tk _ (by simpa using hJ) ho

theorem inner_list {cl : List (Str × Addr)} {C D l : Addr} {items : List Value} {m : Str → Option Value} {src nx0 : List (Addr × Obj)} {J : Nat → List Value → List (Addr × Obj) → Prop} {ys0 : List Value} {ep0 : Nat} {Q : Flow → Shared → Prop}
    (hh : A.handled = none) (hl : s.heap.IsList l items.toArray) (hsrc : (∃ o, (l, o) ∈ src) ∨ ∃ o, h₀.get? l = some o) (hlC : l ≠ C)
    (F : Fr h₀ C s.heap m) (N : News h₀ C s.heap (src ++ (D, lstObj ys0 ep0) :: nx0)) (hsD : ∀ p ∈ src ++ nx0, p.1 ≠ D) (hkind : scope.kind = .function) (hx : scope.names.lookup x2 = some .local) (h0 : J 0 ys0 nx0) (hlen : ∀ i ys nx, J i ys nx → ys.length < 1000)
    (turn : ∀ (I : Addr) (i : Nat) (v : Value) (ys : List Value) (ep : Nat) (nx : List (Addr × Obj)) (h : Heap) (tk : Nat) (oI : Obj) (E' : Value → Shared → Prop), items[i]? = some v → J i ys nx → (∀ p ∈ nx, p.1 ≠ I ∧ p.1 ≠ D) → (∀ p ∈ src ++ (D, lstObj ys0 ep0) :: nx0, p.1 < I) → C < I → Fr h₀ C h (fun y => if y = x2 then some v else m y) → News h₀ C h ((I, oI) :: (D, lstObj ys ep) :: src ++ nx) →
      wpAny (model prog w) A (eval elt (compEnvC scope cl C env)) (fun y s₂ => ∃ h' tk nx', s₂ = { s with heap := h', toks := tk } ∧ Fr h₀ C h' (fun y => if y = x2 then some v else m y) ∧ News h₀ C h' ((I, oI) :: (D, lstObj ys ep) :: src ++ nx') ∧ (∀ p ∈ nx', p.1 ≠ I ∧ p.1 ≠ D) ∧ J (i + 1) (ys ++ [y]) nx') E' { s with heap := h, toks := tk })
    (done : ∀ m' ys ep nx h tk, J items.length ys nx → (∀ p ∈ nx, p.1 ≠ D) → Fr h₀ C h m' → News h₀ C h ((D, lstObj ys ep) :: src ++ nx) → Q .next { s with heap := h, toks := tk }) :
    wpAny (model prog w) A (pyIter (.ref l)) (fun it2 s₂ => wpAny (model prog w) A (runOwn (.compStart (twoE elt iter iter2 x x2 px px2 scope pos) 1 it2 (.ref D) (compEnvC scope cl C env)) (compEnvC scope cl C env)) Q E s₂) E s := by
  refine wpAny_pyIter_list hl ?_
  have hlt : ∀ p ∈ src ++ (D, lstObj ys0 ep0) :: nx0, p.1 < s.heap.objs.size := fun p hp => Heap.lt_size (N p hp).1
  have hne : l ≠ s.heap.objs.size := by obtain ⟨o, ho, _⟩ := hl; exact Nat.ne_of_lt (Heap.lt_size ho)
  refine comp_inner (n := items.toArray.size) (fp := [s.heap.objs.size, l]) (Walks.list hh s.heap.objs.size l hne items.toArray) (fun i h st => by obtain ⟨⟨o, ho, _⟩, _⟩ := st; exact ⟨o, ho⟩) (next_is_new F) (fun hm => ?_) (fun b hb => ?_) ⟨⟨_, Heap.get?_push_size _ rfl, rfl, rfl⟩, hl.at fun o e => Heap.get?_push_of_some _ e⟩ (F.push _) (fun p hp => ⟨Heap.get?_push_of_some _ (N p hp).1, (N p hp).2⟩) (fun p hp => Nat.ne_of_lt (hlt p hp)) hsD hkind hx h0 hlen
    (fun i v ys ep nx h tk oI E' hi hP hJ hn F₁ N₁ => turn _ i v ys ep nx h tk oI E' (by simpa using hP) hJ hn hlt F.ns.lt F₁ N₁) (fun m' ys ep nx h tk hJ hn F₁ N₁ => done m' ys ep nx h tk (by simpa using hJ) hn F₁ N₁)
  · rcases List.mem_cons.mp hm with e | hm
    · exact absurd e (Nat.ne_of_lt F.ns.lt)
    · exact hlC (List.mem_singleton.mp hm).symm
  · rcases List.mem_cons.mp hb with e | hm
    · exact .inl e
    · rw [List.mem_singleton.mp hm]; exact .inr hsrc
theorem inner_range {cl : List (Str × Addr)} {C D r : Addr} {a₀ b₀ : Int} {t₀ u₀ v₀ : Tok} {n : Nat} {m : Str → Option Value} {src nx0 : List (Addr × Obj)} {J : Nat → List Value → List (Addr × Obj) → Prop} {ys0 : List Value} {ep0 : Nat} {Q : Flow → Shared → Prop}
    (hh : A.handled = none) (hr : IsRange s.heap r a₀ b₀ 1 t₀ u₀ v₀) (hsmall : Builtin.Range.small a₀ b₀ 1 = true) (hn : Builtin.Range.rangeSize a₀ b₀ 1 = (n : Int))
    (F : Fr h₀ C s.heap m) (N : News h₀ C s.heap (src ++ (D, lstObj ys0 ep0) :: nx0)) (hsD : ∀ p ∈ src ++ nx0, p.1 ≠ D) (hkind : scope.kind = .function) (hx : scope.names.lookup x2 = some .local) (h0 : J 0 ys0 nx0) (hlen : ∀ i ys nx, J i ys nx → ys.length < 1000)
    (turn : ∀ (I : Addr) (i : Nat) (t : Tok) (ys : List Value) (ep : Nat) (nx : List (Addr × Obj)) (h : Heap) (tk : Nat) (oI : Obj) (E' : Value → Shared → Prop), i < n → J i ys nx → (∀ p ∈ nx, p.1 ≠ I ∧ p.1 ≠ D) → (∀ p ∈ src ++ (D, lstObj ys0 ep0) :: nx0, p.1 < I) → C < I → Fr h₀ C h (fun y => if y = x2 then some (.int (a₀ + (i : Nat)) t) else m y) → News h₀ C h ((I, oI) :: (D, lstObj ys ep) :: src ++ nx) →
      wpAny (model prog w) A (eval elt (compEnvC scope cl C env)) (fun y s₂ => ∃ h' tk nx', s₂ = { s with heap := h', toks := tk } ∧ Fr h₀ C h' (fun y => if y = x2 then some (.int (a₀ + (i : Nat)) t) else m y) ∧ News h₀ C h' ((I, oI) :: (D, lstObj ys ep) :: src ++ nx') ∧ (∀ p ∈ nx', p.1 ≠ I ∧ p.1 ≠ D) ∧ J (i + 1) (ys ++ [y]) nx') E' { s with heap := h, toks := tk })
    (done : ∀ m' ys ep nx h tk, J n ys nx → (∀ p ∈ nx, p.1 ≠ D) → Fr h₀ C h m' → News h₀ C h ((D, lstObj ys ep) :: src ++ nx) → Q .next { s with heap := h, toks := tk }) :
    wpAny (model prog w) A (pyIter (.ref r)) (fun it2 s₂ => wpAny (model prog w) A (runOwn (.compStart (twoE elt iter iter2 x x2 px px2 scope pos) 1 it2 (.ref D) (compEnvC scope cl C env)) (compEnvC scope cl C env)) Q E s₂) E s := by
  refine wpAny_pyIter_range hr hsmall ?_
  have hlt : ∀ p ∈ src ++ (D, lstObj ys0 ep0) :: nx0, p.1 < s.heap.objs.size := fun p hp => Heap.lt_size (N p hp).1
  refine comp_inner (n := n) (fp := [s.heap.objs.size]) (Walks.range hh s.heap.objs.size a₀ 1 n) (fun i h st => ⟨_, st⟩) (next_is_new F) (fun hm => ?_) (fun b hb => ?_) (by show IsRangeIter _ _ _ _ _; rw [hn]; simpa using Heap.get?_push_size _ rfl) (F.push _) (fun p hp => ⟨Heap.get?_push_of_some _ (N p hp).1, (N p hp).2⟩) (fun p hp => Nat.ne_of_lt (hlt p hp)) hsD hkind hx h0 hlen
    (fun i v ys ep nx h tk oI E' hi hP hJ hn F₁ N₁ => ?_) done
  · exact absurd (List.mem_singleton.mp hm) (Nat.ne_of_lt F.ns.lt)
  · exact .inl (List.mem_singleton.mp hb)
  · obtain ⟨t, rfl⟩ := hP
    have e : a₀ + (i : Int) * 1 = a₀ + (i : Nat) := by rw [Int.mul_one]
    rw [e] at F₁ ⊢
    exact turn _ i t ys ep nx h tk oI E' hi hJ hn hlt F.ns.lt F₁ N₁
end
example : True := by first | walk1 | trivial
local macro_rules | `(tactic| walk_at "exec Assign cons ListComp") => `(tactic| (k_here; (rename Fr _ _ _ _ => lF'); (with_unfolding_all refine' comp_assign lF' ?hsw ?hclos ?hcell ?hkind ?hnames ?hx ?_ ?hs); (case hsw => with_unfolding_all rfl); (case hclos => with_unfolding_all rfl); (case hcell => decide); (case hkind => with_unfolding_all rfl); (case hnames => decide); (case hx => with_unfolding_all rfl); (case hs => intro _; with_unfolding_all rfl); k_whole))
section
local macro_rules | `(tactic| walk_at "eval Name") => `(tactic| (k_inBlock; (rename Fr _ _ _ _ => kF); k_dflt (refine' nameB_L kF ?k1 ?k3 ?k4 ?k5 ?k6 ?_; (case k1 => exact rfl); (case k4 => exact rfl); (case k5 => exact rfl); (case k6 => decide); (case k3 => exact rfl); k_whole)))
def sgc (d : Int) : Nat := if d = 0 then 124 else if d = 1 then 38 else 126
def nmc (d : Int) : Nat := if d = 0 then 120 else 121
def dg3 (n : Int) (j : Nat) : Int := (n.fdiv (3 ^ j)).fmod 3
def dg2 (n : Int) (j : Nat) : Int := ((n.fdiv 27).fdiv (2 ^ j)).fmod 2
def sgS (n : Int) (j : Nat) : Str := ⟨#[sgc (dg3 n j)]⟩
def nmS (n : Int) (j : Nat) : Str := ⟨#[nmc (dg2 n j)]⟩
theorem sg_item (d : Int) (h0 : 0 ≤ d) (h1 : d < 3) : Txt.item (Str.ofString "|&~") d = ⟨#[sgc d]⟩ := by
  have : d = 0 ∨ d = 1 ∨ d = 2 := by omega
  rcases this with rfl | rfl | rfl <;> decide +kernel
theorem nm_item (d : Int) (h0 : 0 ≤ d) (h1 : d < 2) : Txt.item (Str.ofString "xy") d = ⟨#[nmc d]⟩ := by
  have : d = 0 ∨ d = 1 := by omega
  rcases this with rfl | rfl <;> decide +kernel
theorem sg_at (n : Int) (j : Nat) : Txt.item (Str.ofString "|&~") ((n.fdiv (3 ^ j)).fmod 3) = sgS n j := sg_item _ (Int.fmod_nonneg_of_pos _ (by decide)) (Int.fmod_lt_of_pos _ (by decide))
theorem nm_at (n : Int) (j : Nat) : Txt.item (Str.ofString "xy") (((n.fdiv 27).fdiv (2 ^ j)).fmod 2) = nmS n j := nm_item _ (Int.fmod_nonneg_of_pos _ (by decide)) (Int.fmod_lt_of_pos _ (by decide))
theorem strs_snoc {ys : List Value} {f : Nat → Str} {i : Nat} {x : Str} {t : Tok} (h : StrsAre ys ((List.range i).map f)) (e : x = f i) : StrsAre (ys ++ [.str x t]) ((List.range (i + 1)).map f) := by
  rw [List.range_succ, List.map_append]
  subst e
  exact h.append' (.cons _ _ .nil)
theorem strs3 {ys : List Value} {a b c : Str} (h : StrsAre ys [a, b, c]) : ∃ t u v, ys = [.str a t, .str b u, .str c v] := by
  cases h with
  | cons _ t h => cases h with
    | cons _ u h => cases h with
      | cons _ v h => cases h; exact ⟨t, u, v, rfl⟩
theorem strs4 {ys : List Value} {a b c d : Str} (h : StrsAre ys [a, b, c, d]) : ∃ t u v w, ys = [.str a t, .str b u, .str c v, .str d w] := by
  cases h with
  | cons _ t h =>
    obtain ⟨u, v, w, rfl⟩ := strs3 h
    exact ⟨t, u, v, w, rfl⟩
def dgm (n : Int) : Int := (n.fdiv 432).fmod 3
def midV (d : Int) (t : Tok) : List Value := if d = 0 then [.str ⟨#[120]⟩ t] else if d = 1 then [.str ⟨#[121]⟩ t] else []
abbrev treeObjs (n : Int) (r c1 c2 : Addr) (t0 t1 t2 u0 u1 u2 u3 tm : Tok) : List (Addr × Obj) :=
  [(r, W.listOf (.str (sgS n 0) t0 :: .ref c1 :: (midV (dgm n) tm ++ [.ref c2])).toArray 0), (c1, W.listOf [.str (sgS n 1) t1, .str (nmS n 0) u0, .str (nmS n 1) u1].toArray 0),
   (c2, W.listOf [.str (sgS n 2) t2, .str (nmS n 2) u2, .str (nmS n 3) u3].toArray 0)]
theorem pick3 {h₀ h : Heap} {L : Addr} {a b c d e f : Addr × Obj} {l news : List (Addr × Obj)} (N : News h₀ L h ((a :: b :: c :: d :: e :: f :: l) ++ news)) : News h₀ L h (a :: f :: c :: news) := news_sub N fun p hp => by
  simp only [List.cons_append, List.mem_cons, List.mem_append] at hp ⊢
  rcases hp with h | h | h | h <;> simp [h]
theorem x_is : Str.ofString "x" = ⟨#[120]⟩ := by decide +kernel
theorem y_is : Str.ofString "y" = ⟨#[121]⟩ := by decide +kernel
theorem tree_spec (w : World) (A : Around) (E : Value → Shared → Prop) (s : Shared) (mg mb : Str → Option Value) (Q : Value → Shared → Prop) (h₀ : Heap) (L₀ : Addr) (m₀ : Str → Option Value) (news : List (Addr × Obj)) (n : Int) (t : Tok)
    (F : Fr h₀ L₀ s.heap m₀) (N : News h₀ L₀ s.heap news) (X : (KK w.params).In h₀) (T : TR mg mb h₀) (hA : A.depth + 10 < recursionLimit) (hh : A.handled = none)
    (h : ∀ r c1 c2 t0 t1 t2 u0 u1 u2 u3 tm h' tk, Fr h₀ L₀ h' m₀ → News h₀ L₀ h' (treeObjs n r c1 c2 t0 t1 t2 u0 u1 u2 u3 tm ++ news) → Q (.ref r) { s with heap := h', toks := tk }) :
    wpAny (model P0 w) A (call (.ref 116) [.int n t]) Q E s := by
  obtain ⟨hd, dp, fr, gs, un⟩ := A
  cases (show hd = none from hh)
  replace hA : dp + 10 < recursionLimit := hA
  have hA2 : (⟨none, dp, fr, gs, un⟩ : Around).depth < recursionLimit := by show dp < recursionLimit; omega
  have N0 : News h₀ L₀ s.heap [] := News.nil
  (refine' callWC _ ?k0 ?kN ?k1 ?k2 ?k3 ?k4 ?k5 ?k6 ?k7 ?kD ?_ ?c2 ?c3 ?c4; (case k0 => k_asm); (case kN => k_asm); (case k1 => k_asm); (case k2 => k_asm); (case k4 => k_is); (case k5 => k_is); (case k6 => exact BindsTo.of_eq rfl); (case k7 => exact rfl); (case kD => decide +kernel); (case c2 => exact rfl); (case c3 => exact rfl); (case c4 => exact rfl); (case k3 => first | assumption | omega))
  intro g L' h' tk' cells' H' F' N' Y' l' X' T'
  k_fold
  k_cells Y'
  simp only [List.cons_append, List.nil_append] at N'
  k_steps
  refine' compAt_range (n := 3) (src := [(L' + 1, _)]) ?hh ?hr ?hs ?hn ?hz ?F [] ?N (fun i ys nx => nx = [] ∧ StrsAre ys ((List.range i).map (sgS n))) ?h0 ?hlen ?turn ?done
  case hh => exact rfl
  case hr => assumption
  case F => assumption
  case N => assumption
  case h0 => exact ⟨rfl, .nil⟩
  case hs => decide
  case hn => decide
  case hz => decide
  case hlen => rintro i ys nx ⟨_, h⟩; have := h.len_eq; simpa using this
  case turn =>
    rintro I C D oL oI i t2 m₁ ys ep nx h2 tk2 E' hi ⟨rfl, hys⟩ hnx hI hID hDC hLD F₁ N₁
    k_fold
    have hi3 : i = 0 ∨ i = 1 ∨ i = 2 := by omega
    rcases hi3 with rfl | rfl | rfl
    · simp only [show (0 : Int) + ((0 : Nat) : Int) = 0 from rfl] at F₁
      k_steps
      rename Fr _ _ _ _ => FF
      exact ⟨_, _, _, [], rfl, FF, N₁, List.forall_mem_nil _, rfl, strs_snoc hys (sg_at n 0)⟩
    · simp only [show (0 : Int) + ((1 : Nat) : Int) = 1 from rfl] at F₁
      k_steps
      rename Fr _ _ _ _ => FF
      exact ⟨_, _, _, [], rfl, FF, N₁, List.forall_mem_nil _, rfl, strs_snoc hys (sg_at n 1)⟩
    · simp only [show (0 : Int) + ((2 : Nat) : Int) = 2 from rfl] at F₁
      k_steps
      rename Fr _ _ _ _ => FF
      exact ⟨_, _, _, [], rfl, FF, N₁, List.forall_mem_nil _, rfl, strs_snoc hys (sg_at n 2)⟩
  case done =>
    rintro D ys ep nx h2 tk2 hp ⟨rfl, hys⟩ hD C oC E' hC F₁ N₁
    k_fold
    k_steps
    rename Fr _ _ _ _ => FF
    rename News _ _ _ _ => NN
    refine AsgPost.intro FF NN hC ?_
    intro h3 tk3 F3 N3
    obtain ⟨t0, t1, t2, rfl⟩ := strs3 hys
    k_steps
    refine' compAt_range (n := 4) (src := [(D, lstObj [.str (sgS n 0) t0, .str (sgS n 1) t1, .str (sgS n 2) t2] ep), (L' + 1, _)]) ?hh ?hr ?hs ?hn ?hz ?F [] ?N (fun i ys nx => nx = [] ∧ StrsAre ys ((List.range i).map (nmS n))) ?h0 ?hlen ?turn ?done
    case hh => exact rfl
    case hr => assumption
    case F => assumption
    case N => assumption
    case h0 => exact ⟨rfl, .nil⟩
    case hs => decide
    case hn => decide
    case hz => decide
    case hlen => rintro i ys nx ⟨_, h⟩; have := h.len_eq; simpa using this
    case turn =>
      rintro I C D oL oI i t2 m₁ ys ep nx h2 tk2 E' hi ⟨rfl, hys⟩ hnx hI hID hDC hLD F₁ N₁
      k_fold
      have hi3 : i = 0 ∨ i = 1 ∨ i = 2 ∨ i = 3 := by omega
      rcases hi3 with rfl | rfl | rfl | rfl
      · simp only [show (0 : Int) + ((0 : Nat) : Int) = 0 from rfl] at F₁
        k_steps
        rename Fr _ _ _ _ => FF
        exact ⟨_, _, _, [], rfl, FF, N₁, List.forall_mem_nil _, rfl, strs_snoc hys (nm_at n 0)⟩
      · simp only [show (0 : Int) + ((1 : Nat) : Int) = 1 from rfl] at F₁
        k_steps
        rename Fr _ _ _ _ => FF
        exact ⟨_, _, _, [], rfl, FF, N₁, List.forall_mem_nil _, rfl, strs_snoc hys (nm_at n 1)⟩
      · simp only [show (0 : Int) + ((2 : Nat) : Int) = 2 from rfl] at F₁
        k_steps
        rename Fr _ _ _ _ => FF
        exact ⟨_, _, _, [], rfl, FF, N₁, List.forall_mem_nil _, rfl, strs_snoc hys (nm_at n 2)⟩
      · simp only [show (0 : Int) + ((3 : Nat) : Int) = 3 from rfl] at F₁
        k_steps
        rename Fr _ _ _ _ => FF
        exact ⟨_, _, _, [], rfl, FF, N₁, List.forall_mem_nil _, rfl, strs_snoc hys (nm_at n 3)⟩
    case done =>
      rintro D2 ys ep nx h2 tk2 hp ⟨rfl, hys⟩ hD2 C oC E' hC F₁ N₁
      k_fold
      k_steps
      rename Fr _ _ _ _ => FF
      rename News _ _ _ _ => NN
      refine AsgPost.intro FF NN hC ?_
      intro h3 tk3 F3 N3
      obtain ⟨u0, u1, u2, u3, rfl⟩ := strs4 hys
      k_steps
      all_goals
        rename Fr _ _ _ _ => FF
        rename News _ _ _ _ => NN
        obtain ⟨F5, N5⟩ := leaveW F N0 N H' FF NN (fun p hp q => by cases q)
      · have e0 : dgm n = 0 := by assumption
        rw [x_is] at N5
        simp only [treeObjs, e0, midV, if_true, List.cons_append, List.nil_append] at h
        exact h _ _ _ _ _ _ _ _ _ _ _ _ _ F5 (pick3 N5)
      · have e0 : dgm n = 1 := by assumption
        rw [y_is] at N5
        simp only [treeObjs, e0, midV, if_true, show ¬ ((1 : Int) = 0) from by decide, if_false, List.cons_append, List.nil_append] at h
        exact h _ _ _ _ _ _ _ _ _ _ _ _ _ F5 (pick3 N5)
      · have e0 : dgm n = 2 := by assumption
        simp only [treeObjs, e0, midV, show ¬ ((2 : Int) = 0) from by decide, show ¬ ((2 : Int) = 1) from by decide, if_false, List.cons_append, List.nil_append] at h
        exact h _ _ _ _ _ _ _ _ _ _ 0 _ _ F5 (pick3 N5)

end
example : True := by first | walk1 | trivial
/-- a test's two ways: the engine stands still here -/
def WB (b : Bool) (T F : Prop) : Prop := (b = true → T) ∧ (b = false → F)
theorem WB.yes {b : Bool} {T F : Prop} (h : b = true) (t : T) : WB b T F := ⟨fun _ => t, fun e => by rw [h] at e; cases e⟩
theorem WB.no {b : Bool} {T F : Prop} (h : b = false) (f : F) : WB b T F := ⟨(fun e => by rw [h] at e; cases e), fun _ => f⟩
section
variable {prog : Program} {w : World} {A : Around} {E : Value → Shared → Prop} {Q : Flow → Shared → Prop} {s : Shared} {env : Env} {h₀ : Heap}
def WTurn (h₀ : Heap) (L : Addr) (J : Nat → (Str → Option Value) → List (Addr × Obj) → Prop) (n : Nat) (s : Shared) (f : Flow) (s₃ : Shared) : Prop :=
  match f with
  | .next => ∃ h' tk m' nw n', s₃ = { s with heap := h', toks := tk } ∧ Fr h₀ L h' m' ∧ News h₀ L h' nw ∧ n' < n ∧ J n' m' nw
  | _ => False
def WOut (h₀ : Heap) (L : Addr) (D : (Str → Option Value) → List (Addr × Obj) → Prop) (s : Shared) (s₃ : Shared) : Prop :=
  ∃ h' tk m' nw, s₃ = { s with heap := h', toks := tk } ∧ Fr h₀ L h' m' ∧ News h₀ L h' nw ∧ D m' nw
theorem while_inv {L0 : Addr} {test : Expr} {body : List Stmt} {pos : Pos} {m : Str → Option Value} {news : List (Addr × Obj)} (J : Nat → (Str → Option Value) → List (Addr × Obj) → Prop) (D : (Str → Option Value) → List (Addr × Obj) → Prop) {n₀ : Nat}
    (F : Fr h₀ L0 s.heap m) (N : News h₀ L0 s.heap news) (hL : L0 = env.locals) (hJ : J n₀ m news)
    (turn : ∀ n m₁ nw h tk, J n m₁ nw → Fr h₀ env.locals h m₁ → News h₀ env.locals h nw →
      wpAny (model prog w) A (isTrue test env (eval test env)) (fun b s₂ => WB b (wpAny (model prog w) A (execs body env) (WTurn h₀ env.locals J n s) (fun _ _ => False) s₂) (WOut h₀ env.locals D s s₂)) (fun _ _ => False) { s with heap := h, toks := tk })
    (tail : ∀ m₁ nw h tk, D m₁ nw → Fr h₀ env.locals h m₁ → News h₀ env.locals h nw → Q .next { s with heap := h, toks := tk }) :
    wpAny (model prog w) A (exec (.While test body [] pos) env) Q E s := by
  subst hL
  refine wpAny_While (codeAny_whileLoop (fun n s' => ∃ h₁ tk₁ m₁ nw, s' = { s with heap := h₁, toks := tk₁ } ∧ Fr h₀ env.locals h₁ m₁ ∧ News h₀ env.locals h₁ nw ∧ J n m₁ nw) ?_ n₀ ⟨s.heap, s.toks, m, news, rfl, F, N, hJ⟩)
  rintro n s' ⟨h₁, tk₁, m₁, nw, rfl, F₁, N₁, J₁⟩
  refine wpAny_mono (turn n m₁ nw h₁ tk₁ J₁ F₁ N₁) (fun b s₂ h₂ => ?_) fun _ _ x => x.elim
  cases b with
  | false =>
    simp only [Bool.false_eq_true, if_false]
    obtain ⟨h', tk, m', nw', rfl, F', N', hD⟩ := h₂.2 rfl
    exact wpAny_execs_nil (tail m' nw' h' tk hD F' N')
  | true =>
    simp only [if_true]
    refine wpAny_mono (h₂.1 rfl) (fun f s₃ h₃ => ?_) fun _ _ x => x.elim
    cases f with
    | next =>
      obtain ⟨h', tk, m₂, nw₂, n', rfl, F₂, N₂, hn, J₂⟩ := h₃
      exact ⟨n', hn, h', tk, m₂, nw₂, rfl, F₂, N₂, J₂⟩
    | cont => exact h₃.elim
    | brk => exact h₃.elim
    | ret v => exact h₃.elim
end
section
variable {prog : Program} {w : World} {A : Around} {E : Value → Shared → Prop} {s : Shared} {Q : Value → Shared → Prop} {h₀ : Heap} {L D : Addr} {m : Str → Option Value} {news news' : List (Addr × Obj)} {n : Nat}
theorem append_lst {vs : List Value} {x : Value} (F : Fr h₀ L s.heap m) (N : News h₀ L s.heap news) (U : Upd D (W.listOf vs.toArray n) (W.listOf (vs ++ [x]).toArray (n + 1)) news news') (hsz : vs.length ≤ 10000)
    (h : ∀ h', Fr h₀ L h' m → News h₀ L h' news' → Q .none { s with heap := h' }) : wpAny (model prog w) A (call (.builtin "list.append") [.ref D, x]) Q E s := by
  have e : (vs ++ [x]).toArray = vs.toArray.push x := by simp
  rw [e] at U
  exact append_K F N U h (by rw [List.size_toArray, sizeLine_eq]; omega)
theorem kl_last_snoc (p : List Value) (y : Value) : kl_last (p ++ [y]) = some (p, y) := by
  induction p with
  | nil => rfl
  | cons x r ih => simp [kl_last, ih]
theorem pop_lst {p : List Value} {y : Value} (F : Fr h₀ L s.heap m) (N : News h₀ L s.heap news) (U : Upd D (W.listOf (p ++ [y]).toArray n) (W.listOf p.toArray (n + 1)) news news') (hsz : p.length ≤ 10000)
    (h : ∀ h', Fr h₀ L h' m → News h₀ L h' news' → Q y { s with heap := h' }) : wpAny (model prog w) A (call (.builtin "list.pop") [.ref D]) Q E s :=
  kl_pop F N (kl_last_snoc p y) U (by simp [sizeLine_eq]; omega) h
theorem get_top {es : Array DictEntry} {nn : Nat} {K : Frag} {a : Addr} {x : Str} {t : Tok} {dflt r : Value} (F : Fr h₀ L s.heap m) (X : K.In h₀) (hl : K.lookup a = some ⟨.type "dict", none, .dict es nn, #[]⟩) (hk : KeysLit w.params es.toList) (lo : (a == sysModules) = false)
    (e : (findBy Value.isStrOf es x).getD dflt = r) (h : Q r { s with toks := s.toks + 1 }) : wpAny (model prog w) A (call (.builtin "dict.get") [.ref a, .str x t, dflt]) Q E s := by
  have hm := mapOf_K (prog := prog) (X.keeps F.keep) hl hk
  exact call_meetsIn PySem.F.slot_dict_get hm.typeIs PySem.F.entry_dict_get (PySem.F.args_dict_get_3 _ _ _) (meets_dict_get_default (strKind prog w) a (strKind_is prog w x t) lo dflt) ⟨_, hm, by rw [e]; exact h⟩
end
theorem rev_to (vs : List Value) : vs.toArray.toList.reverse = vs.reverse := rfl
def Tiny (d : WsD) : Prop := 0 ≤ d.b ∧ d.b ≤ 100 ∧ d.cnt.length ≤ 100
theorem Tiny.small {d e : WsD} (h1 : Tiny d) (h2 : Tiny e) : Small0 (nF d e) := by
  obtain ⟨a, b, c⟩ := h1
  obtain ⟨a', b', c'⟩ := h2
  unfold Small0 nF longF
  split <;> split <;> split <;> omega
theorem scan_le : ∀ (l : List Nat) (q : Sc) (k : Nat), q.b ≤ k → q.cnt.length ≤ k → (scan l q).b ≤ k + l.length ∧ (scan l q).cnt.length ≤ k + l.length
  | [], q, k, h1, h2 => ⟨h1, h2⟩
  | c :: r, q, k, h1, h2 => by
    unfold scan
    split
    · have := scan_le r (scanS q) (k + 1) (by show q.b + 1 ≤ k + 1; omega) (by show q.cnt.length ≤ k + 1; omega)
      rw [List.length_cons]; omega
    · split
      · have hp : (scanT q).cnt.length ≤ k + 1 := by
          show ((padTo q.cnt q.b).set _ _).length ≤ k + 1
          rw [List.length_set]
          unfold padTo
          split
          · rw [List.length_append, List.length_replicate]; omega
          · omega
        have := scan_le r (scanT q) (k + 1) (by show 0 ≤ k + 1; omega) hp
        rw [List.length_cons]; omega
      · rw [List.length_cons]; omega
theorem scan_tiny {row : Str} (h : row.cps.size ≤ 100) : Tiny (scan row.cps.toList scan0).d := by
  have := scan_le row.cps.toList scan0 0 (Nat.le_refl _) (Nat.le_refl _)
  have e : row.cps.toList.length = row.cps.size := by simp
  refine ⟨?_, ?_, ?_⟩
  · show (0 : Int) ≤ ((scan row.cps.toList scan0).b : Int); omega
  · show ((scan row.cps.toList scan0).b : Int) ≤ 100; omega
  · show (scan row.cps.toList scan0).cnt.length ≤ 100; omega
def popW (d : WsD) : List WsD → List WsD × Nat
  | [] => ([], 0)
  | e :: r => if lessF d e = true then ((popW d r).1, (popW d r).2 + 1) else (e :: r, 0)
def numC (c : Nat) : Int := if c = 124 then 18 else if c = 38 then 19 else if c = 126 then 31 else if c = 120 then 256 else 257
def turnF (st : List WsD × List (Int × Int)) (row : Str × Nat) : List WsD × List (Int × Int) :=
  let d := (scan row.1.cps.toList scan0).d
  (d :: (popW d st.1).1, st.2 ++ [(numC row.2, ((popW d st.1).2 : Int))])
def readF (rows : List (Str × Nat)) : List (Int × Int) := (rows.foldl turnF ([], [])).2
inductive StepsAre (V : List (Addr × Obj)) : List Value → List (Int × Int) → Prop
  | nil : StepsAre V [] []
  | cons {a : Addr} {n c : Int} (t u : Tok) (e : Nat) {vs : List Value} {ys : List (Int × Int)} : (a, W.listOf [.int n t, .int c u].toArray e) ∈ V → StepsAre V vs ys → StepsAre V (.ref a :: vs) ((n, c) :: ys)
theorem StepsAre.sub {V V' : List (Addr × Obj)} (hs : ∀ p ∈ V, p ∈ V') {vs : List Value} {ys : List (Int × Int)} (h : StepsAre V vs ys) : StepsAre V' vs ys := by
  induction h with
  | nil => exact .nil
  | cons t u e hm _ ih => exact .cons t u e (hs _ hm) ih
theorem StepsAre.snoc {V : List (Addr × Obj)} {vs : List Value} {ys : List (Int × Int)} {a : Addr} {n c : Int} {t u : Tok} {e : Nat} (h : StepsAre V vs ys) (hm : (a, W.listOf [.int n t, .int c u].toArray e) ∈ V) : StepsAre V (vs ++ [.ref a]) (ys ++ [(n, c)]) := by
  induction h with
  | nil => exact .cons t u e hm .nil
  | cons t' u' e' hm' _ ih => exact .cons t' u' e' hm' ih
theorem StepsAre.len {V : List (Addr × Obj)} {vs : List Value} {ys : List (Int × Int)} (h : StepsAre V vs ys) : vs.length = ys.length := by
  induction h with
  | nil => rfl
  | cons t' u' e' hm' _ ih => simp [ih]
theorem rev_size {vs : List Value} {k : Nat} (h : vs.length = k) (hk : k ≤ 20) : vs.toArray.size ≤ sizeLine := by
  rw [List.size_toArray, sizeLine_eq]; omega
local macro_rules | `(tactic| walk_at "subscriptTail Name Slice ref ref") => `(tactic| (k_here; (with_reducible show wpAny _ _ (subscriptTail _ (PySem.Expr.Slice none none (some _) _) (Value.ref _) (Value.ref _)) _ _ _); k_dflt (refine' krv_lit ?F ?N ?l ?k ?e ?_ ?s ?t ?z; (case F => k_asm); (case N => k_asm); (case l => kmk_list); (case k => exact IsPart.int _ _); (case e => exact rev_to _); (case s => with_unfolding_all rfl); (case t => kmk_pure); (case z => exact rev_size (by assumption) (by assumption))); intro D' h' F' N' l1; (try k_lt l1)))
theorem keys_map (P : Params) : ∀ l : List Nat, KeysLit P (l.map (exE P))
  | [] => trivial
  | j :: r => ⟨⟨_, _, rfl, rfl⟩, keys_map P r⟩
def Five (c : Nat) : Prop := c = 124 ∨ c = 38 ∨ c = 126 ∨ c = 120 ∨ c = 121
theorem ex_find (P : Params) (c : Nat) (hc : Five c) (v : Int) (t : Tok) (hv : v = 256 + Txt.find (Str.ofString "xy") ⟨#[c]⟩) :
    ∃ u, (findBy Value.isStrOf (List.toArray ((List.range 48).map (exE P))) ⟨#[c]⟩).getD (.int v t) = .int (numC c) u := by
  subst hv
  rcases hc with rfl | rfl | rfl | rfl | rfl
  · exact ⟨359, by kernel_rfl⟩
  · exact ⟨361, by kernel_rfl⟩
  · exact ⟨385, by kernel_rfl⟩
  · exact ⟨t, by kernel_rfl⟩
  · exact ⟨t, by kernel_rfl⟩
section
variable {prog : Program} {w : World} {A : Around} {E : Value → Shared → Prop} {s : Shared} {Q : Value → Shared → Prop} {h₀ : Heap} {L : Addr} {m : Str → Option Value} {news : List (Addr × Obj)}
theorem exact_get {c : Nat} {v : Int} {t ts : Tok} (F : Fr h₀ L s.heap m) (X : (KK w.params).In h₀) (hc : Five c) (hv : v = 256 + Txt.find (Str.ofString "xy") ⟨#[c]⟩)
    (h : ∀ u, Q (.int (numC c) u) { s with toks := s.toks + 1 }) : wpAny (model prog w) A (call (.builtin "dict.get") [.ref 102, .str ⟨#[c]⟩ ts, .int v t]) Q E s := by
  obtain ⟨u, e⟩ := ex_find w.params c hc v t hv
  refine get_top (K := KK w.params) (es := List.toArray ((List.range 48).map (exE w.params))) (nn := 48) F X ?_ (keys_map _ _) (by decide) e (h u)
  k_is
end
section
variable {w : World} {A : Around} {E : Value → Shared → Prop} {s : Shared} {mg mb : Str → Option Value} {Q : Value → Shared → Prop} {h₀ : Heap} {L₀ : Addr} {m₀ : Str → Option Value} {news : List (Addr × Obj)}
theorem less_N {a b : WsA} {d e : WsD} {r : Bool} (F : Fr h₀ L₀ s.heap m₀) (N : News h₀ L₀ s.heap news) (Wa : WsOk a d) (Wb : WsOk b e) (ta : Tiny d) (tb : Tiny e) (ha : ∀ p ∈ wsObjs w.params a d, p ∈ news) (hb : ∀ p ∈ wsObjs w.params b e, p ∈ news) (X : (KK w.params).In h₀) (T : TR mg mb h₀) (hA : A.depth + 10 < recursionLimit) (hh : A.handled = none) (hr : lessF d e = r)
    (h : ∀ h' tk, Fr h₀ L₀ h' m₀ → News h₀ L₀ h' news → Q (.bool r) { s with heap := h', toks := tk }) : wpAny (model P0 w) A (call (.ref 87) [.ref a.x, .ref b.x]) Q E s := by
  subst hr
  exact less_spec a b d e Wa Wb (ta.small tb) F (news_sub N fun p hp => (List.mem_append.mp hp).elim (ha p) (hb p)) X T hA hh fun h' tk st => h h' tk (F.grownK st) (N.grown st)
end
abbrev wsOf {a : WsA} {d : WsD} (_ : WsOk a d) : WsA := a
structure LeadF (a : WsA) (d : WsD) (news : List (Addr × Obj)) : Prop where
  ok : WsOk a d
  lt : ∀ p ∈ news, p.1 < a.x ∧ p.1 < a.dx ∧ p.1 < a.tn ∧ p.1 < a.tc
theorem Stop.go {p : Prop} (h : Stop p) : p := h
example : True := by first | walk1 | trivial
local macro_rules | `(tactic| walk_at "subscriptTail Name UnaryOp ref int") => `(tactic| (k_dflt (refine' item_last ?T ?_ ?a ?b; (case T => refine News.isList (by k_asm) (by k_mem)); (case a => with_unfolding_all rfl); (case b => kmk_pure); k_whole)))
local macro_rules | `(tactic| k_all) => `(tactic| with_reducible assumption)
local macro_rules | `(tactic| walk_at "call builtin:list.pop") => `(tactic| (k_dflt (refine' pop_lst ?F ?N ?U ?z ?_; (case F => k_asm); (case N => k_asm); (case U => k_upd); (case z => assumption); k_whole); intro h' F' N'; (try k_sweep)))
local macro_rules | `(tactic| walk_at "call builtin:list.append") => `(tactic| (k_dflt (refine' append_lst ?F ?N ?U ?z ?_; (case F => k_asm); (case N => k_asm); (case U => k_upd); (case z => assumption); k_whole); intro h' F' N'; (try k_sweep)))
section
local macro_rules | `(tactic| walk_at "exec While BoolOp") => `(tactic| (refine Stop.go ?_))
local macro_rules | `(tactic| walk_at "call ref") => `(tactic| (k_dflt (first
  | (refine' make_spec _ _ ?W ?F ?N ?X ?T ?A ?h ?_; (case W => assumption); (case F => k_asm); (case N => k_asm); (case X => k_asm); (case T => k_asm); (case A => (dsimp only [Around.deeper]; omega)); (case h => exact rfl); k_whole; intro a' h' tk' W' R' l1 F' N'; (have b' := LeadF.mk W' l1); (simp only [wsObjs, tupObj, wsEs, List.cons_append, List.nil_append] at N'))
  | (refine' less_N ?F ?N ?W ?V ?t ?u ?a ?b ?X ?T ?A ?h ?r ?_; (case F => k_asm); (case N => k_asm); (case W => assumption); (case V => assumption); (case t => assumption); (case u => assumption); (case a => (intro p hp; exact List.Mem.tail _ (List.Mem.tail _ (mem4l p hp)))); (case b => assumption); (case X => k_asm); (case T => k_asm); (case A => (dsimp only [Around.deeper]; omega)); (case h => exact rfl); (case r => assumption); k_whole; intro h' tk' F' N'; (try k_sweep)))))
local macro_rules | `(tactic| walk_at "call builtin:len") => `(tactic| (k_dflt (refine' len_lstN ?T ?f ?_; (case T => refine News.isList (by k_asm) (by k_mem)); (case f => assumption); k_whole)))
local macro_rules | `(tactic| walk_at "call builtin:dict.get") => `(tactic| (k_dflt (refine' exact_get ?F ?X ?c ?v ?_; (case F => k_asm); (case X => k_asm); (case c => assumption); (case v => exact rfl); k_whole); intro u'))
def refs (pl : List (WsA × WsD)) : List Value := pl.reverse.map fun p => Value.ref p.1.x
theorem refs_cons (p : WsA × WsD) (r : List (WsA × WsD)) : refs (p :: r) = refs r ++ [.ref p.1.x] := by simp [refs]
theorem refs_len (r : List (WsA × WsD)) : (refs r).length = r.length := by simp [refs]
abbrev foldF (rows : List (Str × Nat)) : List WsD × List (Int × Int) := rows.foldl turnF ([], [])
theorem row_at {vs : List Value} {rows : List (Str × Nat)} {i : Nat} {v : Value} (hv : StrsAre vs (rows.map (·.1))) (hrows : ∀ p ∈ rows, p.1.cps.size ≤ 100 ∧ Txt.slice p.1 (some (scan p.1.cps.toList scan0).d.n) none = ⟨#[p.2]⟩ ∧ Five p.2) (hi : vs.reverse[i]? = some v) :
    ∃ (row : Str) (c : Nat) (t : Tok), v = .str row t ∧ rows.reverse[i]? = some (row, c) ∧ row.cps.size ≤ 100 ∧ Txt.slice row (some (scan row.cps.toList scan0).d.n) none = ⟨#[c]⟩ ∧ Five c := by
  have key : ∀ {vs : List Value} {ys : List Str}, StrsAre vs ys → ∀ (j : Nat) (v : Value), vs[j]? = some v → ∃ (y : Str) (t : Tok), ys[j]? = some y ∧ v = Value.str y t := by
    intro vs ys h
    induction h with
    | nil => intro j v e; simp at e
    | cons y t _ ih =>
      intro j v e
      cases j with
      | zero => exact ⟨y, t, rfl, (Option.some.inj e).symm⟩
      | succ j => exact ih j v e
  have hl := hv.len_eq
  rw [List.length_map] at hl
  have hlt := (List.getElem?_eq_some_iff.mp hi).1
  rw [List.length_reverse] at hlt
  rw [List.getElem?_reverse hlt] at hi
  obtain ⟨y, t, e1, e2⟩ := key hv _ v hi
  rw [List.getElem?_map, Option.map_eq_some_iff] at e1
  obtain ⟨⟨row, c⟩, e3, rfl⟩ := e1
  have e4 : rows.reverse[i]? = some (row, c) := by
    rw [List.getElem?_reverse (by omega), ← hl]; exact e3
  obtain ⟨a, b, d⟩ := hrows (row, c) (List.mem_of_getElem? e3)
  exact ⟨row, c, t, e2, e4, a, b, d⟩
theorem read_spec (w : World) (A : Around) (E : Value → Shared → Prop) (s : Shared) (mg mb : Str → Option Value) (Q : Value → Shared → Prop) (h₀ : Heap) (L₀ : Addr) (m₀ : Str → Option Value) (news : List (Addr × Obj)) (l : Addr) (vs : List Value) (e : Nat) (rows : List (Str × Nat))
    (F : Fr h₀ L₀ s.heap m₀) (N : News h₀ L₀ s.heap news) (hm : (l, W.listOf vs.toArray e) ∈ news) (hv : StrsAre vs (rows.map (·.1))) (hlen : rows.length ≤ 20)
    (hrows : ∀ p ∈ rows, p.1.cps.size ≤ 100 ∧ Txt.slice p.1 (some (scan p.1.cps.toList scan0).d.n) none = ⟨#[p.2]⟩ ∧ Five p.2) (X : (KK w.params).In h₀) (T : TR mg mb h₀) (hA : A.depth + 20 < recursionLimit) (hh : A.handled = none)
    (h : ∀ r sv es V h' tk, StepsAre V sv (readF rows.reverse) → Fr h₀ L₀ h' m₀ → News h₀ L₀ h' (((r, W.listOf sv.toArray es) :: V) ++ news) → Q (.ref r) { s with heap := h', toks := tk }) :
    wpAny (model P0 w) A (call (.ref 130) [.ref l]) Q E s := by
  obtain ⟨hd, dp, fr, gs, un⟩ := A
  cases (show hd = none from hh)
  replace hA : dp + 20 < recursionLimit := hA
  have hA2 : (⟨none, dp, fr, gs, un⟩ : Around).depth < recursionLimit := by show dp < recursionLimit; omega
  have N0 : News h₀ L₀ s.heap [(l, W.listOf vs.toArray e)] := news_sub N (fun p hp => by cases hp with | head => exact hm | tail _ h => cases h)
  (refine' callW _ ?k0 ?kN ?k1 ?k2 ?k3 ?k4 ?k5 ?k6 ?k7 ?_ ?c1 ?c2 ?c3 ?c4; (case k0 => k_asm); (case kN => k_asm); (case k1 => k_asm); (case k2 => k_asm); (case k4 => k_is); (case k5 => k_is); (case k6 => exact BindsTo.of_eq rfl); (case k7 => exact locs rfl); (case c1 => decide); (case c2 => exact rfl); (case c3 => exact rfl); (case c4 => exact rfl); (case k3 => first | assumption | omega))
  intro g L' h' H' F' N' l' X' T'
  k_fold
  have hl2 := hv.len_eq
  rw [List.length_map] at hl2
  k_steps
  rename_i pa _ lP _ _ sa _ lS _ F0 N0' D0 _ FF NN lD
  dsimp only
  refine' loop_list (items := vs.reverse) (src := [(D0, W.listOf vs.reverse.toArray 0), (l, W.listOf vs.toArray e)]) (news := [(pa, W.listOf #[] 0), (sa, W.listOf #[] 0)]) ?hh ?hl ?hsrc ?hlL ?F ?N (fun i m nx => ∃ (pile : List (WsA × WsD)) (sv : List Value) (ep es : Nat) (V : List (Addr × Obj)),
      nx = (pa, W.listOf (refs pile).toArray ep) :: (sa, W.listOf sv.toArray es) :: V ∧ (∀ p ∈ V, p.1 ≠ pa) ∧ (∀ p ∈ V, p.1 ≠ sa) ∧
      pile.map (·.2) = (foldF (rows.reverse.take i)).1 ∧ pile.length ≤ i ∧
      (∀ p ∈ pile, WsOk p.1 p.2 ∧ Tiny p.2 ∧ ∀ q ∈ wsObjs w.params p.1 p.2, q ∈ V) ∧ StepsAre V sv (foldF (rows.reverse.take i)).2 ∧ sv.length = i ∧
      Knows m [(Str.ofString "pile", .ref pa), (Str.ofString "steps", .ref sa)]) ?h0 ?turn ?done
  case hh => exact rfl
  case hl => exact NN.isList (.head _)
  case hsrc => exact .inl ⟨_, .head _⟩
  case F => assumption
  case N => exact news_sub NN (fun p hp => by
      simp only [List.cons_append, List.nil_append, List.mem_cons, List.not_mem_nil, or_false] at hp ⊢
      rcases hp with h | h | h | h <;> simp [h])
  case hlL => exact (NN _ (.head _)).2.1
  case h0 => exact ⟨[], [], 0, 0, [], rfl, List.forall_mem_nil _, List.forall_mem_nil _, rfl, Nat.le_refl _, List.forall_mem_nil _, .nil, rfl, rfl, rfl, trivial⟩
  case turn =>
    rintro i v m₁ nx h2 tk I oI hi ⟨pile, sv, ep, es, V, rfl, hVp, hVs, hst, hpi, hpl, hsv, hsl, hk⟩ hnx F₁ N₁
    k_fold
    obtain ⟨row, c, t, rfl, hri, hrow, hcut, hc⟩ : ∃ (row : Str) (c : Nat) (t : Tok), v = .str row t ∧ rows.reverse[i]? = some (row, c) ∧ row.cps.size ≤ 100 ∧ Txt.slice row (some (scan row.cps.toList scan0).d.n) none = ⟨#[c]⟩ ∧ Five c := row_at hv hrows hi
    have hi20 : i < 20 := by
      have := (List.getElem?_eq_some_iff.mp hi).1
      rw [List.length_reverse] at this
      omega
    replace F₁ := fr_turn _ F₁ hk
    simp only [List.cons_append, List.nil_append] at N₁
    k_steps
    rename WsA => aL
    rename LeadF _ _ _ => LF
    rename Fr _ _ _ _ => FT
    rename News _ _ _ _ => NT
    have WL := LF.ok
    have TL := scan_tiny hrow
    obtain ⟨p1, p2, p3, p4⟩ := LF.lt (pa, _) (.tail _ (.tail _ (.tail _ (.head _))))
    obtain ⟨r1, r2, r3, r4⟩ := LF.lt (sa, _) (.tail _ (.tail _ (.tail _ (.tail _ (.head _)))))
    k_lt2 p1; k_lt2 p2; k_lt2 p3; k_lt2 p4; k_lt2 r1; k_lt2 r2; k_lt2 r3; k_lt2 r4
    dsimp only at p1 p2 p3 p4 r1 r2 r3 r4
    have lS1 := ltN lS.1
    have lS2 := ltN lS.2
    have lP1 := ltN lP
    have lD1 := ltN lD.1
    have lD2 := ltN lD.2.1
    have hIp := hnx _ (.head _)
    have hIs := hnx _ (.tail _ (.head _))
    have hRp : ∀ p ∈ (I, oI) :: (D0, W.listOf vs.reverse.toArray 0) :: (l, W.listOf vs.toArray e) :: V, p.1 ≠ pa := by
      intro p hp
      rcases List.mem_cons.mp hp with rfl | hp
      · exact Ne.symm hIp
      · rcases List.mem_cons.mp hp with rfl | hp
        · exact Ne.symm (Nat.ne_of_lt lD2)
        · rcases List.mem_cons.mp hp with rfl | hp
          · exact Nat.ne_of_lt lP1
          · exact hVp p hp
    have hRs : ∀ p ∈ (I, oI) :: (D0, W.listOf vs.reverse.toArray 0) :: (l, W.listOf vs.toArray e) :: V, p.1 ≠ sa := by
      intro p hp
      rcases List.mem_cons.mp hp with rfl | hp
      · exact Ne.symm hIs
      · rcases List.mem_cons.mp hp with rfl | hp
        · exact Ne.symm (Nat.ne_of_lt lD1)
        · rcases List.mem_cons.mp hp with rfl | hp
          · exact Nat.ne_of_lt lS2
          · exact hVs p hp
    obtain ⟨R, hR⟩ : ∃ R, R = (I, oI) :: (D0, W.listOf vs.reverse.toArray 0) :: (l, W.listOf vs.toArray e) :: V := ⟨_, rfl⟩
    rw [← hR] at hRp hRs
    have NT2 : News g L' _ ((pa, W.listOf (refs pile).toArray ep) :: (sa, W.listOf sv.toArray es) :: (wsObjs w.params aL (scan row.cps.toList scan0).d ++ R)) := news_sub NT (fun p hp => by
      simp only [wsObjs, tupObj, wsEs, hR, List.cons_append, List.nil_append, List.mem_cons] at hp ⊢
      rcases hp with h | h | h | h | h | h | h | h | h | h <;> simp [h])
    rw [hcut] at FT
    refine' while_inv (n₀ := pile.length) (fun n m nw => ∃ (pl : List (WsA × WsD)) (k : Nat) (tc ts : Tok) (ep' : Nat), n = pl.length ∧ (∀ p ∈ pl, p ∈ pile) ∧ pl.length ≤ i ∧
        popW (scan row.cps.toList scan0).d (pile.map (·.2)) = ((popW (scan row.cps.toList scan0).d (pl.map (·.2))).1, (popW (scan row.cps.toList scan0).d (pl.map (·.2))).2 + k) ∧
        nw = (pa, W.listOf (refs pl).toArray ep') :: (sa, W.listOf sv.toArray es) :: (wsObjs w.params aL (scan row.cps.toList scan0).d ++ R) ∧
        Knows m [(Str.ofString "count", .int (k : Int) tc), (Str.ofString "sign", .str ⟨#[c]⟩ ts), (Str.ofString "lead", .ref aL.x), (Str.ofString "pile", .ref pa), (Str.ofString "steps", .ref sa)])
      (fun m nw => ∃ (pl : List (WsA × WsD)) (k : Nat) (tc ts : Tok) (ep' : Nat), (∀ p ∈ pl, p ∈ pile) ∧ pl.length ≤ i ∧
        popW (scan row.cps.toList scan0).d (pile.map (·.2)) = (pl.map (·.2), k) ∧
        nw = (pa, W.listOf (refs pl).toArray ep') :: (sa, W.listOf sv.toArray es) :: (wsObjs w.params aL (scan row.cps.toList scan0).d ++ R) ∧
        Knows m [(Str.ofString "count", .int (k : Int) tc), (Str.ofString "sign", .str ⟨#[c]⟩ ts), (Str.ofString "lead", .ref aL.x), (Str.ofString "pile", .ref pa), (Str.ofString "steps", .ref sa)]) FT NT2 rfl ?hJ ?wturn ?wtail
    case hJ => exact ⟨pile, 0, _, _, ep, rfl, fun _ h => h, hpi, rfl, rfl, rfl, rfl, rfl, rfl, rfl, trivial⟩
    case wturn =>
      rintro n m₂ nw h4 tk4 ⟨pl, k, tc, ts, ep', rfl, hsub, hpli, hpw, rfl, hk2⟩ F₂ N₂
      k_fold
      replace F₂ := fr_ov _ F₂ hk2
      cases pl with
      | nil =>
        simp only [wsObjs, tupObj, wsEs, List.cons_append, List.nil_append, refs, List.reverse_nil, List.map_nil] at N₂
        have hz0 : ([] : List Value).length ≤ 1000 := by decide
        k_steps
        rename Fr _ _ _ _ => FF
        refine WB.no rfl ⟨_, _, _, _, rfl, FF, N₂, [], k, tc, ts, ep', List.forall_mem_nil _, Nat.zero_le _, ?_, rfl, rfl, rfl, rfl, rfl, rfl, trivial⟩
        rw [hpw]; simp [popW]
      | cons p r =>
        rw [refs_cons] at N₂
        simp only [wsObjs, tupObj, wsEs, List.cons_append, List.nil_append] at N₂
        obtain ⟨w1, w2, w3⟩ := hpl p (hsub p (.head _))
        have hz0 : (refs r ++ [Value.ref p.1.x]).length ≤ 1000 := by
          rw [List.length_append, refs_len]; simp at hpli ⊢; omega
        have hz1 : (refs r).length ≤ 10000 := by rw [refs_len]; simp at hpli; omega
        have hz3 : 0 < (refs r ++ [Value.ref p.1.x]).length := by simp
        have w4 : ∀ q ∈ wsObjs w.params p.1 p.2, q ∈ (pa, W.listOf (refs r ++ [Value.ref p.1.x]).toArray ep') :: (sa, W.listOf sv.toArray es) :: (wsObjs w.params aL (scan row.cps.toList scan0).d ++ R) := fun q hq => .tail _ (.tail _ (List.mem_append_right _ (by rw [hR]; exact .tail _ (.tail _ (.tail _ (w3 q hq))))))
        simp only [wsObjs, tupObj, wsEs, List.cons_append, List.nil_append] at w4
        cases hless : lessF (scan row.cps.toList scan0).d p.2
        · k_steps
          rename Fr _ _ _ _ => FF
          rename News _ _ _ _ => NN
          refine WB.no rfl ⟨_, _, _, _, rfl, FF, NN, p :: r, k, tc, ts, ep', hsub, hpli, ?_, by rw [refs_cons]; rfl, rfl, rfl, rfl, rfl, rfl, trivial⟩
          rw [hpw]; simp [popW, hless]
        · k_steps
          refine WB.yes rfl ?_
          k_steps
          rename Fr _ _ _ _ => FF
          rename News _ _ _ _ => NN
          refine ⟨_, _, _, _, r.length, rfl, FF, NN, by simp, r, k + 1, _, ts, ep' + 1, rfl, fun q hq => hsub q (.tail _ hq), by simp at hpli; omega, ?_, rfl, rfl, rfl, rfl, rfl, rfl, trivial⟩
          rw [hpw]
          simp only [List.map_cons, popW, hless, if_true, Prod.mk.injEq, true_and]
          omega
    case wtail =>
      rintro m₂ nw h4 tk4 ⟨pl, k, tc, ts, ep', hsub, hpli, hpw, rfl, hk2⟩ F₂ N₂
      replace F₂ := fr_ov _ F₂ hk2
      simp only [wsObjs, tupObj, wsEs, List.cons_append, List.nil_append] at N₂
      have hz1 : (refs pl).length ≤ 10000 := by rw [refs_len]; omega
      have hz2 : sv.length ≤ 10000 := by omega
      k_steps
      rename_i uu ln _ l1 _ FF NN
      have hL1 := ltN l1.1
      have hL2 := ltN l1.2.1
      have hLR := allLt_ne l1.2.2.2.2.2.2
      obtain ⟨i1, i2, i3, i4⟩ := LF.lt (I, _) (.head _)
      k_lt2 i1; k_lt2 i2; k_lt2 i3; k_lt2 i4
      dsimp only at i1 i2 i3 i4
      have hVR : ∀ q ∈ V, q ∈ R := fun q hq => by rw [hR]; exact .tail _ (.tail _ (.tail _ hq))
      have h4 : ∀ q, q ∈ wsObjs w.params aL (scan row.cps.toList scan0).d → q.1 = aL.x ∨ q.1 = aL.dx ∨ q.1 = aL.tn ∨ q.1 = aL.tc := fun q hq => by
        simp only [wsObjs, List.mem_cons, List.not_mem_nil, or_false] at hq
        rcases hq with rfl | rfl | rfl | rfl <;> simp
      have ht : foldF (rows.reverse.take (i + 1)) = turnF (foldF (rows.reverse.take i)) (row, c) := by
        unfold foldF
        rw [List.take_succ, hri, Option.toList, List.foldl_append]
        rfl
      refine ⟨_, _, _, (pa, W.listOf (refs ((aL, (scan row.cps.toList scan0).d) :: pl)).toArray (ep' + 1)) :: (sa, W.listOf (sv ++ [Value.ref ln]).toArray (es + 1)) :: ((ln, W.listOf #[Value.int (numC c) uu, Value.int (k : Int) tc] 0) :: (wsObjs w.params aL (scan row.cps.toList scan0).d ++ V)), rfl, FF, news_sub NN ?_, ?_,
        (aL, (scan row.cps.toList scan0).d) :: pl, sv ++ [.ref ln], _, _, _, rfl, ?_, ?_, ?_, ?_, ?_, ?_, ?_, rfl, rfl, trivial⟩
      · intro q hq
        rw [refs_cons] at hq
        simp only [wsObjs, tupObj, wsEs, hR, List.cons_append, List.nil_append, List.mem_cons] at hq ⊢
        rcases hq with h | h | h | h | h | h | h | h | h | h | h <;> simp [h]
      · intro q hq
        rcases List.mem_cons.mp hq with rfl | hq
        · exact hIp
        rcases List.mem_cons.mp hq with rfl | hq
        · exact hIs
        rcases List.mem_cons.mp hq with rfl | hq
        · exact Ne.symm (hLR (I, oI) (by rw [hR]; exact .head _))
        rcases List.mem_append.mp hq with hq | hq
        · rcases h4 q hq with e | e | e | e <;> (rw [e]; exact neN (by omega))
        · exact hnx q (.tail _ (.tail _ hq))
      · intro q hq
        rcases List.mem_cons.mp hq with rfl | hq
        · exact neN (by dsimp only; omega)
        rcases List.mem_append.mp hq with hq | hq
        · rcases h4 q hq with e | e | e | e <;> (rw [e]; exact neN (by omega))
        · exact hVp q hq
      · intro q hq
        rcases List.mem_cons.mp hq with rfl | hq
        · exact neN (by dsimp only; omega)
        rcases List.mem_append.mp hq with hq | hq
        · rcases h4 q hq with e | e | e | e <;> (rw [e]; exact neN (by omega))
        · exact hVs q hq
      · rw [ht]
        show _ :: pl.map (·.2) = _ :: (popW _ (foldF (rows.reverse.take i)).1).1
        rw [← hst, hpw]
      · rw [List.length_cons]; omega
      · intro q hq
        rcases List.mem_cons.mp hq with rfl | hq
        · exact ⟨WL, TL, fun z hz => .tail _ (List.mem_append_left _ hz)⟩
        · obtain ⟨w1, w2, w3⟩ := hpl q (hsub q hq)
          exact ⟨w1, w2, fun z hz => .tail _ (List.mem_append_right _ (w3 z hz))⟩
      · rw [ht]
        have e2 : (turnF (foldF (rows.reverse.take i)) (row, c)).2 = (foldF (rows.reverse.take i)).2 ++ [(numC c, (k : Int))] := by
          show _ ++ [(_, ((popW _ (foldF (rows.reverse.take i)).1).2 : Int))] = _
          rw [← hst, hpw]
        rw [e2]
        exact (hsv.sub (fun z hz => .tail _ (List.mem_append_right _ hz))).snoc (.head _)
      · rw [List.length_append, hsl]; rfl
  case done =>
    rintro m₁ nx h2 tk ⟨pile, sv, ep, es, V, rfl, hVp, hVs, hst, hpi, hpl, hsv, hsl, hk⟩ F₁ N₁
    replace F₁ := fr_ov _ F₁ hk
    k_steps
    rename Fr _ _ _ _ => FF
    have e3 : (foldF (rows.reverse.take vs.reverse.length)).2 = readF rows.reverse := by
      rw [List.length_reverse, hl2, List.take_of_length_le (by rw [List.length_reverse]; exact Nat.le_refl _)]; rfl
    rw [e3] at hsv
    have S1 : s.heap.StaysIn _ := H'.stays FF.keep (fun p hp => (N₁ p (by rw [List.mem_singleton.mp hp]; exact .tail _ (.head _))).1) (fun p hp => (N0 p hp).1)
    obtain ⟨F5, N5⟩ := leaveW F N0 (rest := []) News.nil H' FF (news_sub N₁ (news' := (sa, W.listOf sv.toArray es) :: V) fun p hp => by
      rcases List.mem_cons.mp hp with rfl | hp
      · exact .tail _ (.tail _ (.tail _ (.head _)))
      · exact .tail _ (.tail _ (.tail _ (.tail _ hp)))) (List.forall_mem_nil _)
    refine h sa sv es V _ _ hsv F5 fun p hp => ?_
    rcases List.mem_append.mp hp with hp | hp
    · exact N5 p (List.mem_append_left _ hp)
    · exact (N.grown S1) p hp

end
example : True := by first | walk1 | trivial
section
variable {prog : Program} {w : World} {A : Around} {E : Value → Shared → Prop} {Q : Flow → Shared → Prop} {s : Shared} {env : Env} {h₀ : Heap}
theorem let_list {M : Model} {I l t : Addr} {i k : Nat} {elts : List Expr} {pos : Pos} {Q : Unit → Shared → Prop} (hit : s.heap.IsListIter I l i) (h : Q () s) : wpAny M A (letOwnedTupleGo (.Tuple elts k pos) (.ref I) (.ref t)) Q E s := by
  obtain ⟨o, ho, hc, hd⟩ := hit
  unfold letOwnedTupleGo
  refine wpAny_bind (wpAny_load ho ?_)
  rw [hc, hd]
  show wpAny _ _ (if (["enumerate", "zip", "dict_itemiterator", "dict_reverseitemiterator", "odict_iterator", "itertools.zip_longest", "itertools.pairwise"].contains "list_iterator" && _) = true then _ else _) _ _ _
  rw [show ["enumerate", "zip", "dict_itemiterator", "dict_reverseitemiterator", "odict_iterator", "itertools.zip_longest", "itertools.pairwise"].contains "list_iterator" = false from by decide]
  simp only [Bool.false_and, Bool.false_eq_true, if_false]
  exact wpAny_pure h
def Loop2At (prog : Program) (w : World) (A : Around) (env : Env) (a b : Str) (pa pb tp : Pos) (k : Nat) (body : List Stmt) (Q : Flow → Shared → Prop) (E : Value → Shared → Prop) (it : Value) (s : Shared) : Prop :=
  codeAny (model prog w) A (.forLoop (.Tuple [.Name a pa, .Name b pb] k tp) it body [] env) (fun r s' => match r with | .ok f => Q f s' | .error e => cameBackBy (model prog w) A env E e s') s
theorem for2_start {a b : Str} {pa pb tp pos : Pos} {k : Nat} {iter : Expr} {body : List Stmt}
    (h : wpAny (model prog w) A (eval iter env) (fun xv s₁ => Stop (wpAny (model prog w) A (pyIter xv) (fun it s₂ => Loop2At prog w A env a b pa pb tp k body Q E it s₂) E s₁)) E s) (hs : ∀ x, foldedSetIterable iter env x = pure x) :
    wpAny (model prog w) A (exec (.For (.Tuple [.Name a pa, .Name b pb] k tp) iter body [] pos) env) Q E s := wpAny_For h hs
theorem for2_list {a b : Str} {pa pb tp : Pos} {k : Nat} {body : List Stmt} {l : Addr} {items : List Value} {m : Str → Option Value} {news src : List (Addr × Obj)} (hh : A.handled = none) (hab : a ≠ b) (ha : env.kindOf a = some .local) (hb : env.kindOf b = some .local)
    (hp : (env.scope.kind == .class || (env.scope.kind == .module && env.locals != env.globals)) = false)
    (hl : s.heap.IsList l items.toArray) (hsrc : ∃ o, (l, o) ∈ src) (hlL : l ≠ env.locals) (hit : ∀ (i : Nat) v, items[i]? = some v → ∃ t x y e, v = .ref t ∧ (t, W.listOf #[x, y] e) ∈ src)
    (F : Fr h₀ env.locals s.heap m) (N : News h₀ env.locals s.heap (src ++ news)) (J : Nat → (Str → Option Value) → List (Addr × Obj) → Prop) (h0 : J 0 m news)
    (turn : ∀ i t x y e m₁ nx h tk I oI, items[i]? = some (.ref t) → (t, W.listOf #[x, y] e) ∈ src → J i m₁ nx → (∀ p ∈ src ++ nx, p.1 ≠ I) → Fr h₀ env.locals h (fun z => if z = b then some y else if z = a then some x else m₁ z) → News h₀ env.locals h ((I, oI) :: src ++ nx) →
      wpAny (model prog w) A (execs body env) (TPost h₀ env.locals (J (i + 1)) I oI src s (fun _ _ => False)) (fun _ _ => False) { s with heap := h, toks := tk })
    (done : ∀ m₁ nx h tk, J items.length m₁ nx → Fr h₀ env.locals h m₁ → News h₀ env.locals h (src ++ nx) → Q .next { s with heap := h, toks := tk }) :
    wpAny (model prog w) A (pyIter (.ref l)) (fun it s₂ => Loop2At prog w A env a b pa pb tp k body Q E it s₂) E s := by
  refine wpAny_pyIter_list hl ?_
  have hne : l ≠ s.heap.objs.size := by obtain ⟨o, ho, _⟩ := hl; exact Nat.ne_of_lt (Heap.lt_size ho)
  generalize hI : s.heap.objs.size = I at hne
  have hI0 : h₀.get? I = none := hI ▸ next_is_new F
  have hLI : env.locals ≠ I := hI ▸ Nat.ne_of_lt F.ns.lt
  have W := Walks.list (prog := prog) (w := w) (A := A) hh I l hne items.toArray
  have offI : ∀ p ∈ src ++ news, p.1 ≠ I := fun p hp e => absurd (Heap.lt_size (N p hp).1) (by rw [e, ← hI]; exact Nat.lt_irrefl _)
  have offS : ∀ p ∈ src, p.1 ≠ I := fun p hp => offI p (List.mem_append_left _ hp)
  have F0 := F.push { cls := .type "list_iterator", dict := none, data := .fields #[.ref l, .int 0 0] }
  refine codeAny_forLoop_any (fun kk s' => ∃ h' tk m' nx i, s' = { s with heap := h', toks := tk } ∧ h'.IsListIter I l i ∧ Fr h₀ env.locals h' m' ∧ News h₀ env.locals h' (src ++ nx) ∧ (∀ p ∈ src ++ nx, p.1 ≠ I) ∧ J i m' nx ∧ i ≤ items.length ∧ kk = items.length + 1 - i) ?_ (items.length + 1)
    ⟨_, s.toks, m, news, 0, rfl, ⟨_, hI ▸ Heap.get?_push_size _ rfl, rfl, rfl⟩, F0, fun p hp => ⟨Heap.get?_push_of_some _ (N p hp).1, (N p hp).2⟩, offI, h0, Nat.zero_le _, rfl⟩
  rintro kk s' ⟨h', tk, m', nx, i, rfl, hit', F', N', off', hJ, hi, rfl⟩
  have hl' : ∀ h₁ nx₁, News h₀ env.locals h₁ (src ++ nx₁) → h₁.IsList l items.toArray := fun h₁ nx₁ N₁ => by
    obtain ⟨o, ho⟩ := hsrc
    obtain ⟨o', ho', r⟩ := hl
    have e1 := (N _ (List.mem_append_left _ ho)).1
    rw [ho'] at e1
    have e2 := Option.some.inj e1
    subst e2
    exact ⟨_, (N₁ _ (List.mem_append_left _ ho)).1, r⟩
  have next : ∀ h₁ : Heap, (∀ c o, c ∉ [I] → h'.get? c = some o → h₁.get? c = some o) → Fr h₀ env.locals h₁ m' ∧ News h₀ env.locals h₁ (src ++ nx) := fun h₁ hk₁ =>
    ⟨⟨F'.ns.at' fun o e => hk₁ _ o (fun q => hLI (List.mem_singleton.mp q)) e, fun c o e => hk₁ c o (fun q => by rw [List.mem_singleton.mp q, hI0] at e; cases e) (F'.keep c o e), F'.above⟩,
      fun p hp => ⟨hk₁ _ _ (fun q => off' p hp (List.mem_singleton.mp q)) (N' p hp).1, (N' p hp).2⟩⟩
  by_cases hlt : i < items.length
  · refine W.item i _ _ _ (by simpa using hlt) ⟨hit', hl' _ _ N'⟩ fun v h₁ tk₁ hP hst₁ hk₁ => ?_
    obtain ⟨F₁, N₁⟩ := next h₁ hk₁
    have hv : items[i]? = some v := by simpa using hP
    obtain ⟨t, x, y, e, rfl, hm⟩ := hit i v hv
    refine let_list hst₁.1 ?_
    obtain ⟨oI, hoI, rI⟩ := hst₁.1
    have N₁' : News h₀ env.locals h₁ ((I, oI) :: (src ++ nx)) := fun p hp => by
      rcases List.mem_cons.mp hp with rfl | hp
      · exact ⟨hoI, Ne.symm hLI, hI0⟩
      · exact N₁ p hp
    refine kun_list F₁ N₁' (N₁.isList (List.mem_append_left _ hm)) hh rfl rfl fun h₂ F₂ N₂ => ?_
    show wpAny _ _ (assignInOrder [assign (.Name a pa) env, assign (.Name b pb) env] [x, y]) _ _ _
    refine assignInOrder_cons ?_
    refine wpAny_assign_Name (wpAny_storeName_local ha F₂.ns (fun h₃ hn₃ hs₃ => ?_) hp)
    have F₃ := F₂.set hn₃ hs₃
    have N₃ : News h₀ env.locals h₃ ((I, oI) :: (src ++ nx)) := N₂.set hs₃
    refine assignInOrder_cons ?_
    refine wpAny_assign_Name (wpAny_storeName_local hb F₃.ns (fun h₄ hn₄ hs₄ => ?_) hp)
    have F₄ := F₃.set hn₄ hs₄
    have N₄ : News h₀ env.locals h₄ ((I, oI) :: (src ++ nx)) := N₃.set hs₄
    refine assignInOrder_nil ?_
    have key : ∀ s₃, (∃ h' tk m' nx, s₃ = { s with heap := h', toks := tk } ∧ Fr h₀ env.locals h' m' ∧ News h₀ env.locals h' ((I, oI) :: src ++ nx) ∧ (∀ p ∈ nx, p.1 ≠ I) ∧ J (i + 1) m' nx) →
        ∃ mm, mm < items.length + 1 - i ∧ ∃ h' tk m' nx i, s₃ = { s with heap := h', toks := tk } ∧ h'.IsListIter I l i ∧ Fr h₀ env.locals h' m' ∧ News h₀ env.locals h' (src ++ nx) ∧ (∀ p ∈ src ++ nx, p.1 ≠ I) ∧ J i m' nx ∧ i ≤ items.length ∧ mm = items.length + 1 - i := by
      rintro s₃ ⟨h5, tk5, m5, nx5, rfl, F5, N5, off5, J5⟩
      refine ⟨items.length + 1 - (i + 1), by omega, h5, tk5, m5, nx5, i + 1, rfl, ⟨oI, (N5 _ (.head _)).1, rI⟩, F5, fun p hp => N5 p (.tail _ hp), fun p hp => ?_, J5, by omega, rfl⟩
      exact (List.mem_append.mp hp).elim (offS p) (off5 p)
    refine wpAny_mono (turn i t x y e m' nx h₄ _ I oI hv hm hJ off' F₄ N₄) (fun f s₃ h₃ => ?_) fun _ _ e => e.elim
    cases f with
    | ret v => exact h₃.elim
    | brk => exact h₃.elim
    | cont => exact key s₃ h₃
    | next => exact key s₃ h₃
  · have hin : i = items.length := by omega
    subst hin
    have hsz : items.toArray.size = items.length := by simp
    refine W.done _ _ _ (hsz ▸ ⟨hit', hl' _ _ N'⟩) fun h₁ tk₁ hk₁ => wpAny_execs_nil ?_
    obtain ⟨F₁, N₁⟩ := next h₁ hk₁
    exact done m' nx h₁ tk₁ hJ F₁ N₁
end
inductive NmsAre : List Value → List Nm → Prop
  | nil : NmsAre [] []
  | cons {vs : List Value} {ns : List Nm} (x : Nm) (t : Tok) : NmsAre vs ns → NmsAre (x.val t :: vs) (x :: ns)
theorem NmsAre.snoc {vs : List Value} {ns : List Nm} (h : NmsAre vs ns) (x : Nm) (t : Tok) : NmsAre (vs ++ [x.val t]) (ns ++ [x]) := by
  induction h with
  | nil => exact .cons x t .nil
  | cons y u _ ih => exact .cons y u ih
theorem NmsAre.len {vs : List Value} {ns : List Nm} (h : NmsAre vs ns) : vs.length = ns.length := by
  induction h with
  | nil => rfl
  | cons y u _ ih => simp [ih]
theorem NmsAre.at {vs : List Value} {ns : List Nm} (h : NmsAre vs ns) {i : Nat} {x : Nm} (e : ns[i]? = some x) : ∃ t, vs[i]? = some (x.val t) := by
  induction h generalizing i with
  | nil => simp at e
  | cons y u _ ih =>
    cases i with
    | zero => exact ⟨u, by simp at e ⊢; rw [e]⟩
    | succ i => simpa using ih (by simpa using e)
theorem NmsAre.last {vs : List Value} {ns : List Nm} {x : Nm} (h : NmsAre vs (ns ++ [x])) : ∃ us t, vs = us ++ [x.val t] ∧ NmsAre us ns := by
  induction ns generalizing vs with
  | nil => cases h with
    | cons _ t h => cases h; exact ⟨[], t, rfl, .nil⟩
  | cons y r ih => cases h with
    | cons _ t h =>
      obtain ⟨us, u, rfl, hu⟩ := ih h
      exact ⟨_, u, rfl, .cons y t hu⟩
section
variable {prog : Program} {w : World} {A : Around} {E : Value → Shared → Prop} {s : Shared} {Q : Value → Shared → Prop} {h₀ : Heap} {L : Addr} {m : Str → Option Value} {news : List (Addr × Obj)} {mg mb : Str → Option Value}
theorem item_N {value slice : Expr} {l : Addr} {vs : List Value} {e : Nat} {k : Int} {u : Tok} {v : Value} (N : News h₀ L s.heap news) (hm : (l, W.listOf vs.toArray e) ∈ news) (h0 : 0 ≤ k) (h1 : k < 100) (hx : vs[k.toNat]? = some v) (h : Q v s)
    (hs : subscripted slice false (.ref l) (.int k u) = operate [.ref l, .int k u] (getItem (.ref l) (.int k u)) := by with_unfolding_all rfl) :
    wpAny (model prog w) A (subscriptTail value slice (.ref l) (.int k u)) Q E s :=
  have hL := N.isList hm
  tail_any hL.typeIs slot_list_getitem.lookup (wpAny_getItem_list hL h0 (by omega) (by simpa using hx) h) hs
theorem tup_new {h' : Heap} {a : Addr} {o : Obj} (F : Fr h₀ L s.heap m) (N : News h₀ L s.heap news) (st : s.heap.StaysIn h') (n : s.heap.get? a = none) (y : h'.get? a = some o) : Fr h₀ L h' m ∧ News h₀ L h' ((a, o) :: news) := by
  refine ⟨F.grownK st, fun p hp => ?_⟩
  rcases List.mem_cons.mp hp with rfl | hp
  · refine ⟨y, fun e => ?_, ?_⟩
    · obtain ⟨oL, es, ep, ho, _⟩ := F.ns
      rw [show a = L from e] at n
      rw [n] at ho; cases ho
    · cases q : h₀.get? a with
      | none => rfl
      | some o' => rw [F.keep _ _ q] at n; cases n
  · exact (N.grown st) p hp
def AllNe (d : Nat) : List (Addr × Obj) → Prop
  | [] => True
  | p :: r => @Ne Nat p.1 d ∧ AllNe d r
theorem allNe_of {h₀ h : Heap} {L a : Addr} : ∀ {news : List (Addr × Obj)}, News h₀ L h news → h.get? a = none → AllNe a news
  | [], _, _ => trivial
  | p :: r, N, n => by
    refine ⟨fun e => ?_, allNe_of (fun q hq => N q (.tail _ hq)) n⟩
    have := (N p (.head _)).1
    rw [show p.1 = a from e, n] at this
    cases this
theorem hsv_N {r g b x y z : Nm} {t u v : Tok} (F : Fr h₀ L s.heap m) (N : News h₀ L s.heap news) (X : (KK w.params).In h₀) (T : TR mg mb h₀) (hA : A.depth < recursionLimit) (hh : A.handled = none) (hF : hsvF r g b = some (x, y, z))
    (h : ∀ a t1 t2 t3 h' tk, Fr h₀ L h' m → News h₀ L h' ((a, { cls := .type "tuple", data := .seq #[x.val t1, y.val t2, z.val t3] }) :: news) → AllNe a news → Q (.ref a) { s with heap := h', toks := tk }) :
    wpAny (model P0 w) A (call (.ref 35) [r.val t, g.val u, b.val v]) Q E s :=
  hsv_spec (X.keeps F.keep) (T.keeps F.keep) hA hh r g b t u v x y z hF fun a t1 t2 t3 h' tk st n e => (tup_new F N st n e).elim fun F' N' => h a t1 t2 t3 h' tk F' N' (allNe_of N n)
theorem hls_N {r g b x y z : Nm} {t u v : Tok} (F : Fr h₀ L s.heap m) (N : News h₀ L s.heap news) (X : (KK w.params).In h₀) (T : TR mg mb h₀) (hA : A.depth < recursionLimit) (hh : A.handled = none) (hF : hlsF r g b = some (x, y, z))
    (h : ∀ a t1 t2 t3 h' tk, Fr h₀ L h' m → News h₀ L h' ((a, { cls := .type "tuple", data := .seq #[x.val t1, y.val t2, z.val t3] }) :: news) → AllNe a news → Q (.ref a) { s with heap := h', toks := tk }) :
    wpAny (model P0 w) A (call (.ref 28) [r.val t, g.val u, b.val v]) Q E s :=
  hls_spec (X.keeps F.keep) (T.keeps F.keep) hA hh r g b t u v x y z hF fun a t1 t2 t3 h' tk st n e => (tup_new F N st n e).elim fun F' N' => h a t1 t2 t3 h' tk F' N' (allNe_of N n)
theorem isnt_N {n : Int} {t : Tok} {r : Bool} (F : Fr h₀ L s.heap m) (N : News h₀ L s.heap news) (X : (KK w.params).In h₀) (T : TR mg mb h₀) (hA : A.depth < recursionLimit) (hr : decide (n ≥ 256) = r)
    (h : ∀ h' tk, Fr h₀ L h' m → News h₀ L h' news → Q (.bool r) { s with heap := h', toks := tk }) : wpAny (model P0 w) A (call (.ref 111) [.int n t]) Q E s :=
  isnt_spec (X.keeps F.keep) (T.keeps F.keep) hA n t fun h' tk st => by rw [hr]; exact h h' tk (F.grownK st) (N.grown st)
end
def nodeN (n : Int) (r g b : Nm) : Option Nm :=
  (hsvF r g b).bind fun q =>
    if n = 19 then (hlsF r g b).bind fun p => (Nm.mul (.i 2) p.2.1).bind fun d => Nm.sub d q.2.2
    else if n = 31 then (hsvF q.2.2 q.2.2 (.i 1)).map fun p => p.2.1
    else if n = 18 then some q.2.2 else none
def lightTurn (lv : List Nm) (st : List Nm) (p : Int × Int) : Option (List Nm) :=
  if p.1 ≥ 256 then (lv[(p.1 - 256).toNat]?).map (· :: st)
  else if 0 < p.2 ∧ p.2.toNat ≤ st.length then
    (st.take p.2.toNat)[0]?.bind fun r => (st.take p.2.toNat)[(p.2.fdiv 2).toNat]?.bind fun g => (st.take p.2.toNat).getLast?.bind fun b => (nodeN p.1 r g b).map (· :: st.drop p.2.toNat)
  else none
def lightS (lv : List Nm) (steps : List (Int × Int)) : Option (List Nm) := steps.foldl (fun st p => st.bind fun st => lightTurn lv st p) (some [])
theorem fold_none (lv : List Nm) : ∀ steps : List (Int × Int), steps.foldl (fun st p => st.bind fun st => lightTurn lv st p) none = none
  | [] => rfl
  | _ :: r => fold_none lv r
theorem light_prefix {lv : List Nm} {steps : List (Int × Int)} {i : Nat} {p : Int × Int} {st fin : List Nm} (hp : steps[i]? = some p) (hs : lightS lv (steps.take i) = some st) (hf : lightS lv steps = some fin) :
    ∃ st', lightTurn lv st p = some st' ∧ lightS lv (steps.take (i + 1)) = some st' := by
  have e1 : lightS lv (steps.take (i + 1)) = lightTurn lv st p := by
    unfold lightS at hs ⊢
    rw [List.take_succ, hp, Option.toList, List.foldl_append, hs]
    rfl
  cases q : lightTurn lv st p with
  | some st' => exact ⟨st', rfl, by rw [e1, q]⟩
  | none =>
    rw [q] at e1
    have e2 : steps = steps.take (i + 1) ++ steps.drop (i + 1) := (List.take_append_drop _ _).symm
    unfold lightS at hf e1
    rw [e2, List.foldl_append, e1, fold_none] at hf
    cases hf
theorem StepsAre.at {V : List (Addr × Obj)} {vs : List Value} {ys : List (Int × Int)} (h : StepsAre V vs ys) {i : Nat} {v : Value} (e : vs[i]? = some v) :
    ∃ a n c t u ep, v = .ref a ∧ ys[i]? = some (n, c) ∧ (a, W.listOf #[Value.int n t, Value.int c u] ep) ∈ V := by
  induction h generalizing i with
  | nil => simp at e
  | cons t u ep hm _ ih =>
    cases i with
    | zero => exact ⟨_, _, _, t, u, ep, (by simpa using e.symm), by simp, hm⟩
    | succ i => simpa using ih (by simpa using e)
theorem step_at {V : List (Addr × Obj)} {h₀ h : Heap} {L : Addr} {vs : List Value} {ys : List (Int × Int)} (hs : StepsAre V vs ys) (N : News h₀ L h V) {i : Nat} {t : Addr} {x y : Value} {e : Nat} (hi : vs[i]? = some (.ref t)) (hm : (t, W.listOf #[x, y] e) ∈ V) :
    ∃ n c t1 t2, x = .int n t1 ∧ y = .int c t2 ∧ ys[i]? = some (n, c) := by
  obtain ⟨a, n, c, t1, u, ep, ea, ey, ha⟩ := hs.at hi
  cases ea
  have e1 := (N _ hm).1
  rw [(N _ ha).1] at e1
  have e2 := congrArg (fun o : Option Obj => o.map (·.data)) e1
  simp only [Option.map_some, Option.some.injEq, Data.seq.injEq] at e2
  have e3 := congrArg Array.toList e2.1
  simp only [List.cons.injEq, and_true] at e3
  exact ⟨n, c, t1, u, e3.1.symm, e3.2.symm, ey⟩
theorem fr_turn2 {h₀ h : Heap} {L : Addr} {m : Str → Option Value} {x y : Str} {v u : Value} (l : List (Str × Value)) (F : Fr h₀ L h (fun z => if z = x then some v else if z = y then some u else m z)) (k : Knows m l) : Fr h₀ L h (ov ((x, v) :: (y, u) :: l) m) := by
  show Fr h₀ L h (fun z => if z = x then some v else if z = y then some u else ov l m z)
  rw [ov_eq k]; exact F
theorem drop_rev {ns : List Nm} {k : Nat} (h : k < ns.length) : ∃ b, ns[k]? = some b ∧ (ns.drop k).reverse = (ns.drop (k + 1)).reverse ++ [b] ∧ ns.take (k + 1) = ns.take k ++ [b] := by
  refine ⟨ns[k], List.getElem?_eq_getElem h, ?_, ?_⟩
  · rw [List.drop_eq_getElem_cons h, List.reverse_cons]
  · rw [List.take_add_one, List.getElem?_eq_getElem h]; rfl
section
local macro_rules | `(tactic| walk_at "exec For Tuple Name cons nil") => `(tactic| (with_unfolding_all refine' for2_start ?_ ?hs; (case hs => intro _; with_unfolding_all rfl)))
local macro_rules | `(tactic| walk_at "call ref") => `(tactic| (k_dflt (first
  | (refine' isnt_N ?F ?N ?X ?T ?A ?r ?_; (case F => k_asm); (case N => k_asm); (case X => k_asm); (case T => k_asm); (case A => (dsimp only [Around.deeper]; omega)); (case r => assumption); k_whole; intro h' tk' F' N'; (try k_sweep))
  | (refine' hsv_N ?F ?N ?X ?T ?A ?h ?r ?_; (case F => k_asm); (case N => k_asm); (case X => k_asm); (case T => k_asm); (case A => (dsimp only [Around.deeper]; omega)); (case h => exact rfl); (case r => assumption); k_whole; intro a' t1' t2' t3' h' tk' F' N' n'; (simp only [AllNe] at n'); (try k_sweep))
  | (refine' hsv_N (b := .i _) ?F ?N ?X ?T ?A ?h ?r ?_; (case F => k_asm); (case N => k_asm); (case X => k_asm); (case T => k_asm); (case A => (dsimp only [Around.deeper]; omega)); (case h => exact rfl); (case r => assumption); k_whole; intro a' t1' t2' t3' h' tk' F' N' n'; (simp only [AllNe] at n'); (try k_sweep))
  | (refine' hls_N ?F ?N ?X ?T ?A ?h ?r ?_; (case F => k_asm); (case N => k_asm); (case X => k_asm); (case T => k_asm); (case A => (dsimp only [Around.deeper]; omega)); (case h => exact rfl); (case r => assumption); k_whole; intro a' t1' t2' t3' h' tk' F' N' n'; (simp only [AllNe] at n'); (try k_sweep)))))
local macro_rules | `(tactic| walk_at "subscriptTail Name Constant ref int") => `(tactic| (k_dflt (refine' item_N ?N ?m ?a ?b ?x ?_ ?s; (case N => k_asm); (case m => k_mem); (case a => decide); (case b => decide); (case x => assumption); (case s => with_unfolding_all rfl); k_whole)))
local macro_rules | `(tactic| walk_at "subscriptTail Name BinOp ref int") => `(tactic| (k_dflt (refine' item_N ?N ?m ?a ?b ?x ?_ ?s; (case N => k_asm); (case m => first | k_mem | exact List.Mem.tail _ (List.Mem.tail _ (by assumption))); (case a => assumption); (case b => assumption); (case x => assumption); (case s => with_unfolding_all rfl); k_whole)))
local macro_rules | `(tactic| walk_at "binaryOp Mult int") => `(tactic| (refine nm_mul (a := .i 2) (by assumption) ?_; intro t'))
local macro_rules | `(tactic| walk_at "binaryOp Sub") => `(tactic| (refine nm_sub (by assumption) ?_; intro t'))
theorem light_end {g h : Heap} {L I pa lv cL : Addr} {oI oc : Obj} {V nw : List (Addr × Obj)} {s : Shared} {tk i ep : Nat} {m : Str → Option Value} {us : List Value} {ns lns : List Nm} {q : Nm} {t : Tok} {steps : List (Int × Int)} (F : Fr g L h m) (NN : News g L h nw) (hI : (I, oI) ∈ nw) (hVn : ∀ p ∈ V, p ∈ nw) (hc : (cL, oc) ∈ nw)
    (hm : (pa, W.listOf (us ++ [q.val t]).toArray ep) ∈ nw) (hIc : cL ≠ I) (hIp : pa ≠ I) (hu : NmsAre us ns.reverse) (hst : lightS lns (steps.take (i + 1)) = some (q :: ns)) (hl : ns.length ≤ i) (hk : m (Str.ofString "levels") = some (.ref lv)) :
    TPost g L (fun m nx => ∃ us ns ep, nx = [(cL, oc), (pa, W.listOf us.toArray ep)] ∧ NmsAre us ns.reverse ∧ lightS lns (steps.take (i + 1)) = some ns ∧ ns.length ≤ i + 1 ∧ Knows m [(Str.ofString "levels", .ref lv)]) I oI V s (fun _ _ => False) .next { s with heap := h, toks := tk } := by
  refine ⟨_, _, _, [(cL, oc), (pa, W.listOf (us ++ [q.val t]).toArray ep)], rfl, F, fun p hp => NN p ?_, ?_, us ++ [q.val t], q :: ns, ep, rfl, ?_, hst, ?_, hk, trivial⟩
  · simp only [List.cons_append, List.mem_cons, List.mem_append, List.not_mem_nil, or_false] at hp
    rcases hp with rfl | hp | rfl | rfl
    · exact hI
    · exact hVn p hp
    · exact hc
    · exact hm
  · intro p hp
    rcases List.mem_cons.mp hp with rfl | hp
    · exact hIc
    · rw [List.mem_singleton.mp hp]; exact hIp
  · rw [List.reverse_cons]; exact hu.snoc q t
  · rw [List.length_cons]; omega
theorem light_spec (w : World) (A : Around) (E : Value → Shared → Prop) (s : Shared) (mg mb : Str → Option Value) (Q : Value → Shared → Prop) (h₀ : Heap) (L₀ : Addr) (m₀ : Str → Option Value) (news : List (Addr × Obj)) (l lv : Addr) (vs lvs : List Value) (e ev : Nat) (steps : List (Int × Int)) (lns : List Nm) (V : List (Addr × Obj)) (v : Nm) (st : List Nm)
    (F : Fr h₀ L₀ s.heap m₀) (N : News h₀ L₀ s.heap news) (hl : (l, W.listOf vs.toArray e) ∈ V) (hlv : (lv, W.listOf lvs.toArray ev) ∈ V) (hV : ∀ p ∈ V, p ∈ news) (hs : StepsAre V vs steps) (hn : NmsAre lvs lns) (hln : lns.length ≤ 20) (hlen : steps.length ≤ 20) (hfin : lightS lns steps = some (v :: st))
    (X : (KK w.params).In h₀) (T : TR mg mb h₀) (hA : A.depth + 20 < recursionLimit) (hh : A.handled = none)
    (h : ∀ h' tk t, Fr h₀ L₀ h' m₀ → News h₀ L₀ h' news → Q (v.val t) { s with heap := h', toks := tk }) :
    wpAny (model P0 w) A (call (.ref 135) [.ref l, .ref lv]) Q E s := by
  obtain ⟨hd, dp, fr, gs, un⟩ := A
  cases (show hd = none from hh)
  replace hA : dp + 20 < recursionLimit := hA
  have hA2 : (⟨none, dp, fr, gs, un⟩ : Around).depth < recursionLimit := by show dp < recursionLimit; omega
  have N0 : News h₀ L₀ s.heap V := news_sub N hV
  (refine' callWC _ ?k0 ?kN ?k1 ?k2 ?k3 ?k4 ?k5 ?k6 ?k7 ?kD ?_ ?c2 ?c3 ?c4; (case k0 => k_asm); (case kN => k_asm); (case k1 => k_asm); (case k2 => k_asm); (case k4 => k_is); (case k5 => k_is); (case k6 => exact BindsTo.of_eq rfl); (case k7 => exact rfl); (case kD => decide +kernel); (case c2 => exact rfl); (case c3 => exact rfl); (case c4 => exact rfl); (case k3 => first | assumption | omega))
  intro g L' h' tk' cells' H' F' N' Y' l' X' T'
  k_fold
  k_cells Y'
  simp only [List.cons_append, List.nil_append] at N'
  have hVc : ∀ p ∈ V, p.1 ≠ L' + 1 := fun p hp => Nat.ne_of_lt (Nat.lt_succ_of_lt (l' p hp))
  k_steps
  rename_i pa _ l1 _ oc FF NN dC
  have lc := ltN l1.1
  have hVp := allLt_ne l1.2
  have NV : News g L' _ V := news_sub NN (fun p hp => .tail _ (.tail _ hp))
  try dsimp only
  refine' for2_list (items := vs) (src := V) (news := [(L' + 1, oc), (pa, W.listOf #[] 0)]) ?hh ?hab ?ha ?hb ?hp ?hl ?hsrc ?hlL ?hit FF ?N (fun i m nx => ∃ us ns ep, nx = [(L' + 1, oc), (pa, W.listOf us.toArray ep)] ∧ NmsAre us ns.reverse ∧ lightS lns (steps.take i) = some ns ∧ ns.length ≤ i ∧ Knows m [(Str.ofString "levels", .ref lv)]) ?h0 ?turn ?done
  case hh => exact rfl
  case hab => decide
  case ha => exact rfl
  case hb => exact rfl
  case hp => exact rfl
  case hl => exact NN.isList (.tail _ (.tail _ hl))
  case hsrc => exact ⟨_, hl⟩
  case hlL => exact (NN _ (.tail _ (.tail _ hl))).2.1
  case hit =>
    intro i v hv
    obtain ⟨a, n, c, t1, u, ep, rfl, _, hm⟩ := hs.at hv
    exact ⟨a, _, _, ep, rfl, hm⟩
  case N => exact news_sub NN (fun p hp => by
      rcases List.mem_append.mp hp with hp | hp
      · exact .tail _ (.tail _ hp)
      · rcases List.mem_cons.mp hp with rfl | hp
        · exact .tail _ (.head _)
        · rw [List.mem_singleton.mp hp]; exact .head _)
  case h0 => exact ⟨[], [], 0, rfl, .nil, rfl, Nat.le_refl _, rfl, trivial⟩
  case turn =>
    rintro i t x y e m₁ nx h2 tk I oI hi hm ⟨us, ns, ep, rfl, hu, hst, hnl, hk⟩ hoff F₁ N₁
    k_fold
    obtain ⟨n, c, t1, t2, rfl, rfl, hpi⟩ := step_at hs NV hi hm
    obtain ⟨st', ht, hst'⟩ := light_prefix hpi hst hfin
    have hi20 : i < 20 := by
      have := (List.getElem?_eq_some_iff.mp hpi).1
      omega
    replace F₁ := fr_turn2 _ F₁ hk
    have hIc : (L' + 1 : Nat) ≠ I := hoff (L' + 1, oc) (List.mem_append_right _ (.head _))
    have hIp : (pa : Nat) ≠ I := hoff (pa, _) (List.mem_append_right _ (.tail _ (.head _)))
    obtain ⟨R, hR⟩ : ∃ R, R = (I, oI) :: V := ⟨_, rfl⟩
    have hRc : ∀ p ∈ R, p.1 ≠ L' + 1 := by
      intro p hp
      rw [hR] at hp
      rcases List.mem_cons.mp hp with rfl | hp
      · exact Ne.symm hIc
      · exact hVc p hp
    have hRp : ∀ p ∈ R, p.1 ≠ pa := by
      intro p hp
      rw [hR] at hp
      rcases List.mem_cons.mp hp with rfl | hp
      · exact Ne.symm hIp
      · exact hVp p hp
    have hlR : (lv, W.listOf lvs.toArray ev) ∈ R := by rw [hR]; exact .tail _ hlv
    have N₂ : News g L' h2 ((L' + 1, oc) :: (pa, W.listOf us.toArray ep) :: R) := news_sub N₁ (fun p hp => by
      rw [hR] at hp
      simp only [List.cons_append, List.mem_cons, List.mem_append, List.not_mem_nil, or_false] at hp ⊢
      rcases hp with h | h | h | h <;> simp [h])
    clear N₁
    have hul := hu.len
    rw [List.length_reverse] at hul
    have hz1 : us.length ≤ 10000 := by omega
    by_cases hn6 : n ≥ 256
    · have hd6 : decide (n ≥ 256) = true := decide_eq_true hn6
      unfold lightTurn at ht
      rw [if_pos hn6, Option.map_eq_some_iff] at ht
      obtain ⟨v', hv', rfl⟩ := ht
      obtain ⟨tv, htv⟩ := hn.at hv'
      have hb1 : (n - 256).toNat < 20 := by
        have := (List.getElem?_eq_some_iff.mp hv').1
        omega
      have hb2 : 0 ≤ n - 256 := by omega
      have hb3 : n - 256 < 100 := by omega
      k_steps
      rename Fr _ _ _ _ => FF
      rename News _ _ _ _ => NN
      exact light_end FF NN (by rw [hR]; exact .tail _ (.tail _ (.head _))) (fun p hp => by rw [hR]; exact .tail _ (.tail _ (.tail _ hp))) (.head _) (.tail _ (.head _)) hIc hIp hu hst' hnl rfl
    · have hd6 : decide (n ≥ 256) = false := decide_eq_false hn6
      unfold lightTurn at ht
      rw [if_neg hn6] at ht
      by_cases hc : 0 < c ∧ c.toNat ≤ ns.length
      case neg => rw [if_neg hc] at ht; cases ht
      rw [if_pos hc] at ht
      simp only [Option.bind_eq_some_iff, Option.map_eq_some_iff] at ht
      obtain ⟨rr, hrr, gg, hgg, bb, hbb, q, hq, rfl⟩ := ht
      obtain ⟨hc0, hc1⟩ := hc
      obtain ⟨ini, hini⟩ := List.getLast?_eq_some_iff.mp hbb
      have hq0 : 0 ≤ c.fdiv 2 := by rw [Int.fdiv_eq_ediv_of_nonneg _ (by omega)]; omega
      have hq1 : c.fdiv 2 < 100 := by rw [Int.fdiv_eq_ediv_of_nonneg _ (by omega)]; omega
      unfold nodeN at hq
      simp only [Option.bind_eq_some_iff] at hq
      obtain ⟨⟨hue, sat, val⟩, hsv, hq⟩ := hq
      dsimp only at hq
      k_steps
      refine' compAt_range (n := c.toNat) (src := [(L' + 1, oc)]) ?chh ?chr ?chs ?chn ?chz ?cF ((pa, W.listOf us.toArray ep) :: R) ?cN (fun k ys nx => ∃ us' ep', nx = (pa, W.listOf us'.toArray ep') :: R ∧ NmsAre ys (ns.take k) ∧ NmsAre us' (ns.drop k).reverse ∧ ys.length = k) ?ch0 ?chl ?cturn ?cdone
      case chh => exact rfl
      case chr => assumption
      case cF => assumption
      case cN => assumption
      case ch0 => exact ⟨us, ep, rfl, .nil, hu, rfl⟩
      case chs => exact range_small (by omega) (by omega) (by omega) (by omega)
      case chn => rw [range_size]; simp
      case chz => rw [sizeLine_eq]; omega
      case chl => rintro k ys nx ⟨_, _, _, _, _, h⟩; exact h
      case cturn =>
        rintro I2 C D oL oI2 k t3 m₂ ys ep2 nx h4 tk4 E' hk2 ⟨us', ep', rfl, hy, hu', hyl⟩ hnx2 hI2 hID hDC hLD F₂ N₃
        k_fold
        have hk3 : k < ns.length := by omega
        obtain ⟨bq, e1, e2, e3⟩ := drop_rev hk3
        rw [e2] at hu'
        obtain ⟨us'', t4, rfl, hu''⟩ := hu'.last
        have hL2 : @LT.lt Nat _ L' D := hLD
        have pI := ltN (hI2 (pa, _) (.tail _ (.head _)))
        k_lt2 hID; k_lt2 hDC
        dsimp only at pI
        have hz1 : us''.length ≤ 10000 := by
          have := hu''.len
          rw [List.length_reverse, List.length_drop] at this
          omega
        replace N₃ : News g C h4 ((I2, oI2) :: (L', oL) :: (D, lstObj ys ep2) :: (L' + 1, oc) :: (pa, W.listOf (us'' ++ [bq.val t4]).toArray ep') :: R) := N₃
        k_steps
        rename Fr _ _ _ _ => FF
        rename News _ _ _ _ => NN
        refine ⟨_, _, _, (pa, W.listOf us''.toArray (ep' + 1)) :: R, rfl, FF, NN, ?_, us'', ep' + 1, rfl, by rw [e3]; exact hy.snoc bq t4, hu'', by simp [hyl]⟩
        intro p hp
        rcases List.mem_cons.mp hp with rfl | hp
        · exact hnx2 (pa, W.listOf (us'' ++ [bq.val t4]).toArray ep') (.head _)
        · exact hnx2 p (.tail _ hp)
      case cdone =>
        rintro D ys ep2 nx h4 tk4 hp ⟨us', ep', rfl, hy, hu', hyl⟩ hD C oC E' hC F₂ N₃
        k_fold
        k_steps
        rename Fr _ _ _ _ => FF
        rename News _ _ _ _ => NN
        refine AsgPost.intro FF NN hC ?_
        intro h5 tk5 F5 N5
        obtain ⟨tr, hr2⟩ := hy.at hrr
        obtain ⟨tg, hg2⟩ := hy.at hgg
        rw [hini] at hy
        obtain ⟨ys', tb, rfl, hy'⟩ := hy.last
        have hr3 : (ys' ++ [bb.val tb])[(0 : Int).toNat]? = some (rr.val tr) := hr2
        have hz1 : us'.length ≤ 10000 := by
          have := hu'.len
          rw [List.length_reverse, List.length_drop] at this
          omega
        replace N5 : News g L' h5 ((D, lstObj (ys' ++ [bb.val tb]) ep2) :: (L' + 1, oc) :: (pa, W.listOf us'.toArray ep') :: R) := N5
        have hDp := hD (pa, _) (.tail _ (.head _))
        have hDc := hD (L' + 1, oc) (.head _)
        dsimp only at hDp hDc
        have hDp2 := neN hDp
        have hDc2 := neN hDc
        k_steps
        · rename (n = 19) => h19
          subst h19
          rw [if_pos rfl] at hq
          simp only [Option.bind_eq_some_iff] at hq
          obtain ⟨⟨hu1, li1, sa1⟩, hls, dd, hmul, hsub⟩ := hq
          dsimp only at hmul
          k_steps
          rename Fr _ _ _ _ => FF
          rename News _ _ _ _ => NN
          have hRI : (I, oI) ∈ R := by rw [hR]; exact .head _
          have hRV : ∀ p ∈ V, p ∈ R := fun p hp => by rw [hR]; exact .tail _ hp
          exact light_end FF NN (by repeat (first | exact hRI | apply List.Mem.tail)) (fun p hp => by repeat (first | exact hRV p hp | apply List.Mem.tail)) (by k_mem) (by k_mem) hIc hIp hu' hst' (by rw [List.length_drop]; omega) rfl
        · rename (n ≠ 19) => h19
          rename (n = 31) => h31
          rw [if_neg h19] at hq
          subst h31
          rw [if_pos rfl, Option.map_eq_some_iff] at hq
          obtain ⟨⟨hu1, sa1, va1⟩, hsv2, hq2⟩ := hq
          dsimp only at hq2
          subst hq2
          k_steps
          rename Fr _ _ _ _ => FF
          rename News _ _ _ _ => NN
          have hRI : (I, oI) ∈ R := by rw [hR]; exact .head _
          have hRV : ∀ p ∈ V, p ∈ R := fun p hp => by rw [hR]; exact .tail _ hp
          exact light_end FF NN (by repeat (first | exact hRI | apply List.Mem.tail)) (fun p hp => by repeat (first | exact hRV p hp | apply List.Mem.tail)) (by k_mem) (by k_mem) hIc hIp hu' hst' (by rw [List.length_drop]; omega) rfl
        · rename (n ≠ 19) => h19
          rename (n ≠ 31) => h31
          rename (n ≠ 18) => h18
          rw [if_neg h19, if_neg h31, if_neg h18] at hq
          cases hq
        · rename (n ≠ 19) => h19
          rename (n ≠ 31) => h31
          rename (n = 18) => h18
          rw [if_neg h19, if_neg h31, if_pos h18] at hq
          cases hq
          rename Fr _ _ _ _ => FF
          rename News _ _ _ _ => NN
          have hRI : (I, oI) ∈ R := by rw [hR]; exact .head _
          have hRV : ∀ p ∈ V, p ∈ R := fun p hp => by rw [hR]; exact .tail _ hp
          exact light_end FF NN (by repeat (first | exact hRI | apply List.Mem.tail)) (fun p hp => by repeat (first | exact hRV p hp | apply List.Mem.tail)) (by k_mem) (by k_mem) hIc hIp hu' hst' (by rw [List.length_drop]; omega) rfl
  case done =>
    rintro m₁ nx h2 tk ⟨us, ns, ep, rfl, hu, hst, hnl, hk⟩ F₁ N₁
    rw [hs.len, List.take_of_length_le (Nat.le_refl _), hfin] at hst
    cases hst
    rw [List.reverse_cons] at hu
    obtain ⟨us', tv, rfl, hu'⟩ := hu.last
    replace F₁ := fr_ov _ F₁ hk
    have N₂ : News g L' h2 ((L' + 1, oc) :: (pa, W.listOf (us' ++ [v.val tv]).toArray ep) :: V) := news_sub N₁ (fun p hp => by
      simp only [List.mem_cons, List.mem_append, List.not_mem_nil, or_false] at hp ⊢
      rcases hp with h | h | h <;> simp [h])
    clear N₁
    k_steps
    rename Fr _ _ _ _ => FF
    rename News _ _ _ _ => NN
    have S1 : s.heap.StaysIn _ := H'.stays FF.keep (fun p hp => (NN p (.tail _ (.tail _ hp))).1) (fun p hp => (N0 p hp).1)
    exact h _ _ _ (F.grownK S1) (N.grown S1)

end
example : True := by first | walk1 | trivial
end
example : True := by first | walk1 | trivial
section
variable {prog : Program} {w : World} {A : Around} {E : Value → Shared → Prop} {s : Shared}
theorem eqAt_nm (a : Nm) (t : Tok) (k : Int) (u : Tok) : SeqAt.EqAt A s (a.val t) (.int k u) (Nm.eq a (.i k)) := fun prog w E Q h => by
  cases a with
  | i n => exact SeqAt.EqAt.int_int n t k u prog w E Q h
  | f b =>
    unfold eqBool
    refine wpAny_holding ?_
    refine wpAny_ite_split (fun hab => absurd (eq_of_beq hab) nofun) (fun _ => ?_)
    exact wpAny_bind (show wpAny (model prog w) A (compareOp .Eq ((Nm.f b).val t) ((Nm.i k).val u)) _ _ s from nm_eq (wpAny_truthy_bool h))
theorem ints_item {vs : List Value} {l : List Int} (h : IntsAre vs l) {i : Nat} {v : Value} (e : vs[i]? = some v) : ∃ x t, v = .int x t ∧ l[i]? = some x := by
  induction h generalizing i with
  | nil => simp at e
  | cons x t _ ih =>
    cases i with
    | zero => exact ⟨x, t, by simpa using e.symm, rfl⟩
    | succ i => simpa using ih (by simpa using e)
theorem nms_item {vs : List Value} {l : List Nm} (h : NmsAre vs l) {i : Nat} {v : Value} (e : vs[i]? = some v) : ∃ x t, v = Nm.val x t ∧ l[i]? = some x := by
  induction h generalizing i with
  | nil => simp at e
  | cons x t _ ih =>
    cases i with
    | zero => exact ⟨_, t, by simpa using e.symm, rfl⟩
    | succ i => simpa using ih (by simpa using e)
theorem ne_mixed {a b : Addr} {xs ys : List Value} {ls : List Nm} {ks : List Int} {Q : Value → Shared → Prop} (ha : s.heap.IsList a xs.toArray) (hb : s.heap.IsList b ys.toArray) (hx : NmsAre xs ls) (hy : IntsAre ys ks) (hlen : ls.length = ks.length)
    (he : ∀ (i : Nat) x k, ls[i]? = some x → ks[i]? = some k → Nm.eq x (.i k) = true) (hu : A.units < cLine) (h : Q (.bool false) s) :
    wpAny (model prog w) A (compareOp .NotEq (.ref a) (.ref b)) Q E s := by
  have e1 : xs.length = ls.length := hx.len
  have e2 : ys.length = ks.length := hy.length
  have q := SeqAt.RcNeAt.lists (A := A) (e := fun _ => true) ha hb (by simp; omega) hu (fun j h1 h2 => by
    obtain ⟨x, t, ex, lx⟩ := nms_item hx (i := j) (v := xs[j]'(by simpa using h1)) (List.getElem?_eq_getElem _)
    obtain ⟨k, u, ek, lk⟩ := ints_item hy (i := j) (v := ys[j]'(by simpa using h2)) (List.getElem?_eq_getElem _)
    have := eqAt_nm (A := A.in1) (s := s) x t k u
    rw [he j x k lx lk] at this
    simpa [ex, ek] using this)
  have z : (!(List.range xs.toArray.size).all fun _ => true) = false := by simp
  rw [z] at q
  exact q prog w E Q h
end
section
variable {prog : Program} {w : World} {A : Around} {E : Value → Shared → Prop} {s : Shared} {env cenv : Env} {h₀ : Heap} {x : Str} {px : Pos} {R : Result → Shared → Prop}
/-- a comprehension whose target is a cell: the loop -/
theorem compAt0C {elt : Expr} {gens : List Comprehension} {scope : Scope} {pos : Pos} {d : Nat} {I kc : Addr} {acc : Value} {B : Sem Unit} {pI : Pos} {fp : List Addr} {n : Nat} {P : Nat → Value → Prop} {St : Nat → Heap → Prop} {m : Str → Option Value} {news src : List (Addr × Obj)}
    (hT : compTurn (.ListComp elt gens scope pos) d (.ref I) acc cenv = (standAt pI >>= fun _ => pyNext (.ref I) >>= fun r => match r with
      | none => pure (.done .next)
      | some v => letOwnedTupleGo (.Name x px) (.ref I) v >>= fun _ => assign (.Name x px) cenv v >>= fun _ => B >>= fun _ => again (.compLoop (.ListComp elt gens scope pos) d (.ref I) acc cenv)))
    (hk : cenv.scope.kind = .function) (hx : cenv.kindOf x = some .cell) (hkc : cenv.cells.lookup x = some kc) (hkL : kc ≠ cenv.locals) (hk0 : h₀.get? kc = none) (hkf : kc ∉ fp)
    (W : Walks prog w A I fp [I] n P St) (hlive : ∀ i h, St i h → ∃ o, h.get? I = some o) (hI : h₀.get? I = none) (hC : cenv.locals ∉ fp)
    (hfp : ∀ b ∈ fp, b = I ∨ (∃ o, (b, o) ∈ src) ∨ ∃ o, h₀.get? b = some o) (hst : St 0 s.heap) (hcl : ∃ v, s.heap.IsCell kc v) (F : Fr h₀ cenv.locals s.heap m) (N : News h₀ cenv.locals s.heap (src ++ news)) (hoff : ∀ p ∈ src ++ news, p.1 ≠ I ∧ p.1 ≠ kc)
    (J : Nat → (Str → Option Value) → List (Addr × Obj) → Prop) (h0 : J 0 m news)
    (turn : ∀ i v m₁ nx h tk oI oK E', i < n → P i v → J i m₁ nx → (∀ p ∈ nx, p.1 ≠ I ∧ p.1 ≠ kc) → oK.data = .cell (some v) → Fr h₀ cenv.locals h m₁ → News h₀ cenv.locals h ((I, oI) :: (kc, oK) :: src ++ nx) →
      wpAny (model prog w) A B (fun _ s₂ => ∃ h' tk m' nx, s₂ = { s with heap := h', toks := tk } ∧ Fr h₀ cenv.locals h' m' ∧ News h₀ cenv.locals h' ((I, oI) :: (kc, oK) :: src ++ nx) ∧ (∀ p ∈ nx, p.1 ≠ I ∧ p.1 ≠ kc) ∧ J (i + 1) m' nx) E' { s with heap := h, toks := tk })
    (done : ∀ m₁ nx h tk, J n m₁ nx → Fr h₀ cenv.locals h m₁ → News h₀ cenv.locals h (src ++ nx) → R (.ok .next) { s with heap := h, toks := tk }) :
    codeAny (model prog w) A (.compLoop (.ListComp elt gens scope pos) d (.ref I) acc cenv) R s := by
  have hIfp : I ∈ fp := W.sub _ (List.mem_singleton.mpr rfl)
  have hCI : cenv.locals ≠ I := fun q => hC (q ▸ hIfp)
  have hkI : kc ≠ I := fun q => hkf (q ▸ hIfp)
  refine codeAny_loop rfl (fun k s' => ∃ i m nx h tk, s' = { s with heap := h, toks := tk } ∧ i ≤ n ∧ k = n + 1 - i ∧ St i h ∧ (∃ v, h.IsCell kc v) ∧ Fr h₀ cenv.locals h m ∧ News h₀ cenv.locals h (src ++ nx) ∧ (∀ p ∈ nx, p.1 ≠ I ∧ p.1 ≠ kc) ∧ J i m nx) ?_ (n + 1)
    ⟨0, m, news, s.heap, s.toks, rfl, Nat.zero_le _, rfl, hst, hcl, F, N, fun p hp => hoff p (List.mem_append_right _ hp), h0⟩
  rintro k s' ⟨i, m, nx, h, tk, rfl, hi, rfl, hst, hcl, F, N, hnx, hJ⟩
  show wpAny _ _ ((compTurn (.ListComp elt gens scope pos) d (.ref I) acc cenv).onRaise (fun x => do noteFrame x cenv; theTreesLotGoes x)) _ _ _
  refine wpAny_noted ?_
  rw [hT]
  refine wpAny_bind (wpAny_standAt (wpAny_bind ?_))
  have hall : ∀ p ∈ src ++ nx, p.1 ≠ I ∧ p.1 ≠ kc := fun p hp => (List.mem_append.mp hp).elim (fun h => hoff p (List.mem_append_left _ h)) (hnx p)
  by_cases hlt : i < n
  · refine W.item i _ _ _ hlt hst fun v h₁ tk₁ hP hst₁ hk₁ => ?_
    refine wpAny_bind (wpAny_of_eq (a := ()) rfl (wpAny_bind ?_))
    have F₁ : Fr h₀ cenv.locals h₁ m := ⟨F.ns.at' fun o q => hk₁ _ o (fun z => hCI (List.mem_singleton.mp z)) q, fun b o q => hk₁ b o (fun z => by rw [List.mem_singleton.mp z, hI] at q; cases q) (F.keep b o q), F.above⟩
    have N₁ : News h₀ cenv.locals h₁ (src ++ nx) := fun p hp => ⟨hk₁ _ _ (fun z => (hall p hp).1 (List.mem_singleton.mp z)) (N p hp).1, (N p hp).2⟩
    obtain ⟨v0, ok, hok, hokd⟩ := hcl
    have hcl₁ : h₁.IsCell kc v0 := ⟨ok, hk₁ _ _ (fun z => hkI (List.mem_singleton.mp z)) hok, hokd⟩
    refine wpAny_assign_Name (wpAny_storeName_cell hk hx hkc hcl₁ (fun h₂ hn₂ hs₂ => ?_))
    have hst₂ : St (i + 1) h₂ := W.frame _ _ _ hst₁ fun b hb o q => hs₂.extBut b o (fun z => hkf (z ▸ hb)) q
    obtain ⟨oI, hoI⟩ := hlive _ _ hst₂
    obtain ⟨oK, hoK, hoKd⟩ := hn₂
    have F₂ : Fr h₀ cenv.locals h₂ m := ⟨F₁.ns.sameBut hs₂ (Ne.symm hkL), fun b o e => hs₂.extBut b o (fun q => by subst q; rw [hk0] at e; cases e) (F₁.keep b o e), F₁.above⟩
    have N₂ : News h₀ cenv.locals h₂ ((I, oI) :: (kc, oK) :: src ++ nx) := fun p hp => by
      rcases List.mem_cons.mp (by simpa using hp : p ∈ (I, oI) :: ((kc, oK) :: (src ++ nx))) with rfl | hp
      · exact ⟨hoI, Ne.symm hCI, hI⟩
      · rcases List.mem_cons.mp hp with rfl | hp
        · exact ⟨hoK, hkL, hk0⟩
        · exact ⟨hs₂.extBut _ _ (hall p hp).2 (N₁ p hp).1, (N₁ p hp).2⟩
    refine wpAny_bind (wpAny_mono (turn i v m nx h₂ _ oI oK _ hlt hP hJ hnx hoKd F₂ N₂) (fun _ s₃ q => ?_) fun _ _ e => e)
    obtain ⟨h₃, tk₃, m₃, nx₃, rfl, F₃, N₃, hn₃, hJ₃⟩ := q
    refine wpAny_pure ⟨rfl, n + 1 - (i + 1), by omega, i + 1, m₃, nx₃, h₃, tk₃, rfl, hlt, rfl, ?_, ⟨_, oK, (N₃ (kc, oK) (by simp)).1, hoKd⟩, F₃, fun p hp => N₃ p (by rcases List.mem_append.mp hp with h | h <;> simp [h]), hn₃, hJ₃⟩
    refine W.frame _ _ _ hst₂ fun b hb o q => ?_
    rcases hfp b hb with rfl | ⟨o', ho'⟩ | ⟨o', ho'⟩
    · rw [hoI] at q; cases q
      exact (N₃ (_, oI) (by simp)).1
    · have h1 := (N₂ (b, o') (by simp [ho'])).1
      rw [q] at h1; cases h1
      exact (N₃ (b, o') (by simp [ho'])).1
    · have h1 := F₂.keep _ _ ho'
      rw [q] at h1; cases h1
      exact F₃.keep _ _ ho'
  · have hin : i = n := Nat.le_antisymm hi (Nat.not_lt.mp hlt)
    subst hin
    refine W.done _ _ _ hst fun h₁ tk₁ hk₁ => wpAny_pure ?_
    exact done m nx h₁ tk₁ hJ ⟨F.ns.at' fun o q => hk₁ _ o (fun z => hCI (List.mem_singleton.mp z)) q, fun b o q => hk₁ b o (fun z => by rw [List.mem_singleton.mp z, hI] at q; cases q) (F.keep b o q), F.above⟩
      fun p hp => ⟨hk₁ _ _ (fun z => (hall p hp).1 (List.mem_singleton.mp z)) (N p hp).1, (N p hp).2⟩
theorem newEnv_cell1 {scope : Scope} {globals : Addr} {cl : List (Str × Addr)} {qual : Str} {outer : Env} {Q : Env → Shared → Prop}
    (hcf : ∀ n acc, cellsFrom n scope.names acc = (x, n) :: acc) (hpc : ∀ h, pushCells h scope.names = h.push { cls := .type "cell", data := .cell none })
    (h : Q { scope, locals := s.heap.objs.size, globals, cells := (x, s.heap.objs.size + 1) :: cl, qual, func := none, code := outer.code, frame := outer.frame, builtins := outer.builtins }
      { s with heap := (s.heap.push { cls := .type "dict", data := .dict #[] }).push { cls := .type "cell", data := .cell none } }) :
    wpAny (model prog w) A (newFunctionEnv scope globals cl [] qual none .none (some outer)) Q E s := by
  simp only [newFunctionEnv, Option.isSome_some, if_true]
  refine wpAny_bind (wpAny_alloc ?_)
  refine wpAny_bind (wpAny_layCells _ (fun name kind cells => by cases hkc : kind == NameKind.cell <;> simp [hkc]) _ _ _ _ ?_)
  rw [hcf, hpc]
  rw [show ({ s with heap := s.heap.push { cls := .type "dict", data := .dict #[] } } : Shared).heap.objs.size = s.heap.objs.size + 1 from Heap.size_push ..]
  simp only [List.forIn_nil]
  exact wpAny_bind (wpAny_pure (wpAny_pure h))
end
section
variable {prog : Program} {w : World} {A : Around} {E : Value → Shared → Prop} {s : Shared} {env : Env} {h₀ : Heap} {x : Str} {px : Pos}
structure CompInC (prog : Program) (w : World) (A : Around) (h₀ : Heap) (env : Env) (scope : Scope) (cl : List (Str × Addr)) (x : Str) (elt : Expr) (I : Addr) (fp : List Addr) (n : Nat) (P : Nat → Value → Prop) (St : Nat → Heap → Prop)
    (m : Str → Option Value) (src news : List (Addr × Obj)) (J : Nat → List Value → List (Addr × Obj) → Prop) (s : Shared) : Prop where
  W : Walks prog w A I fp [I] n P St
  hsz : n ≤ sizeLine
  hlive : ∀ i h, St i h → ∃ o, h.get? I = some o
  hI : h₀.get? I = none
  hIL : I ≠ env.locals
  hfp : ∀ b ∈ fp, b = I ∨ (∃ o, (b, o) ∈ src) ∨ ∃ o, h₀.get? b = some o
  hst : St 0 s.heap
  F : Fr h₀ env.locals s.heap m
  N : News h₀ env.locals s.heap (src ++ news)
  hoff : ∀ p ∈ src ++ news, p.1 ≠ I
  h0 : J 0 [] news
  len : ∀ i ys nx, J i ys nx → ys.length = i
  turn : ∀ (C D kc : Addr) (oL oI oK : Obj) (i : Nat) (v : Value) (m₁ : Str → Option Value) (ys : List Value) (ep : Nat) (nx : List (Addr × Obj)) (h : Heap) (tk : Nat) (E' : Value → Shared → Prop), i < n → P i v → J i ys nx → (∀ p ∈ nx, p.1 ≠ I ∧ p.1 ≠ env.locals ∧ p.1 ≠ D ∧ p.1 ≠ kc) → (∀ p ∈ src ++ news, p.1 < D) → D < C → C < kc → I < D → env.locals < D → oK.data = .cell (some v) → Fr h₀ C h m₁ →
    News h₀ C h ((I, oI) :: (kc, oK) :: (env.locals, oL) :: (D, lstObj ys ep) :: src ++ nx) →
    wpAny (model prog w) A (eval elt (compEnvC scope ((x, kc) :: cl) C env)) (fun y s₂ => ∃ h' tk m' nx', s₂ = { s with heap := h', toks := tk } ∧ Fr h₀ C h' m' ∧ News h₀ C h' ((I, oI) :: (kc, oK) :: (env.locals, oL) :: (D, lstObj ys ep) :: src ++ nx') ∧ (∀ p ∈ nx', p.1 ≠ I ∧ p.1 ≠ env.locals ∧ p.1 ≠ D ∧ p.1 ≠ kc) ∧ J (i + 1) (ys ++ [y]) nx') E' { s with heap := h, toks := tk }

theorem comp_blockC {elt iter : Expr} {scope : Scope} {cl : List (Str × Addr)} {pos : Pos} {I : Addr} {fp : List Addr} {n : Nat} {P : Nat → Value → Prop} {St : Nat → Heap → Prop} {m : Str → Option Value} {src news : List (Addr × Obj)} {J : Nat → List Value → List (Addr × Obj) → Prop}
    (Z : CompInC prog w A h₀ env scope cl x elt I fp n P St m src news J s) {RR : Value → Addr → Result → Shared → Prop}
    (hcf : ∀ n acc, cellsFrom n scope.names acc = (x, n) :: acc) (hpc : ∀ h, pushCells h scope.names = h.push { cls := .type "cell", data := .cell none }) (hkind : scope.kind = .function) (hx : ∀ C cl, (compEnvC scope cl C env).kindOf x = some .cell)
    (hRR : ∀ D C oC mC ys ep nx h tk, J n ys nx → Fr h₀ env.locals h m → News h₀ env.locals h ((C, oC) :: (D, lstObj ys ep) :: src ++ nx) → (∀ p ∈ (D, lstObj ys ep) :: src ++ nx, p.1 ≠ C) → (∀ p ∈ src ++ nx, p.1 ≠ D) → h.Ns C mC →
      RR (.ref D) C (.ok .next) { s with heap := h, toks := tk }) :
    wpAny (model prog w) A (newList []) (fun acc s₃ => wpAny (model prog w) A (newFunctionEnv scope env.globals cl [] env.qual none .none (some env)) (fun cenv s₄ =>
      codeAny (model prog w) A (.compStart (.ListComp elt [⟨.Name x px, iter, [], 0⟩] scope pos) 0 (.ref I) acc { cenv with scope := relabel scope env }) (RR acc cenv.locals) s₄) E s₃) E s := by
  obtain ⟨W, hsz, hlive, hI, hIL, hfp, hst, F, N, hoff, h0, hlen, turn⟩ := Z
  refine wpAny_newObj_type (newEnv_cell1 hcf hpc ?_)
  dsimp only
  generalize hH2 : s.heap.push { cls := .type "list", dict := none, data := .seq ([] : List Value).toArray } = H2
  have hC : H2.objs.size = s.heap.objs.size + 1 := by rw [← hH2, Heap.size_push]
  have hns₁ : ((H2.push { cls := .type "dict", data := .dict #[] }).push { cls := .type "cell", data := .cell none }).Ns H2.objs.size (fun _ => none) := (Heap.Ns.new H2 (.type "dict")).keeps (fun b o e => Heap.get?_push_of_some _ e)
  have hK1 : ((H2.push { cls := .type "dict", data := .dict #[] }).push { cls := .type "cell", data := .cell none }).get? (H2.objs.size + 1) = some { cls := .type "cell", data := .cell none } := by
    have e : (H2.push { cls := .type "dict", data := .dict #[] }).objs.size = H2.objs.size + 1 := Heap.size_push ..
    rw [← e]; exact Heap.get?_push_size _ rfl
  have up : ∀ b o, H2.get? b = some o → ((H2.push { cls := .type "dict", data := .dict #[] }).push { cls := .type "cell", data := .cell none }).get? b = some o := fun b o e => Heap.get?_push_of_some _ (Heap.get?_push_of_some _ e)
  generalize hH3 : (H2.push { cls := .type "dict", data := .dict #[] }).push { cls := .type "cell", data := .cell none } = h₁ at hns₁ hK1 up ⊢
  generalize hD : s.heap.objs.size = D at hC
  generalize hCC : H2.objs.size = C at hns₁ hK1 hC ⊢
  have lDC : D < C := by rw [hC]; exact Nat.lt_succ_self _
  have hDC : D ≠ C := Nat.ne_of_lt lDC
  have old : ∀ b o, s.heap.get? b = some o → h₁.get? b = some o := fun b o e => up b o (hH2 ▸ Heap.get?_push_of_some _ e)
  obtain ⟨oL, esL, epL, hoL, rL⟩ := id F.ns
  have hLD : env.locals < D := by rw [← hD]; exact Heap.lt_size hoL
  obtain ⟨oI0, hoI0⟩ := hlive _ _ hst
  have hID : I < D := by rw [← hD]; exact Heap.lt_size hoI0
  have hltD : ∀ p ∈ src ++ news, p.1 < D := fun p hp => by rw [← hD]; exact Heap.lt_size (N p hp).1
  have new0 : ∀ a, D ≤ a → h₀.get? a = none := fun a ha => by
    cases e : h₀.get? a with
    | none => rfl
    | some o' => exact absurd (Nat.lt_of_lt_of_le (hD ▸ Heap.lt_size (F.keep _ _ e)) ha) (Nat.lt_irrefl _)
  have hL0 : h₀.get? env.locals = none := by
    cases e : h₀.get? env.locals with
    | none => rfl
    | some o' => exact absurd (Heap.lt_size e) (Nat.not_lt.mpr F.above)
  have F₁ : Fr h₀ C h₁ (fun _ => none) := ⟨hns₁, fun b o e => old b o (F.keep b o e), Nat.le_of_lt (Nat.lt_of_le_of_lt F.above (Nat.lt_trans hLD lDC))⟩
  have hacc : h₁.get? D = some (lstObj [] 0) := up _ _ (by rw [← hD, ← hH2]; exact Heap.get?_push_size _ rfl)
  have N₁ : News h₀ C h₁ (((env.locals, oL) :: src) ++ ((D, lstObj [] 0) :: news)) := fun p hp => by
    have hp' : p = (env.locals, oL) ∨ p = (D, lstObj [] 0) ∨ p ∈ src ++ news := by
      rcases List.mem_append.mp hp with hp | hp
      · rcases List.mem_cons.mp hp with hp | hp
        · exact .inl hp
        · exact .inr (.inr (List.mem_append_left _ hp))
      · rcases List.mem_cons.mp hp with hp | hp
        · exact .inr (.inl hp)
        · exact .inr (.inr (List.mem_append_right _ hp))
    rcases hp' with rfl | rfl | hp'
    · exact ⟨old _ _ hoL, Nat.ne_of_lt (Nat.lt_trans hLD lDC), hL0⟩
    · exact ⟨hacc, hDC, new0 _ (Nat.le_refl _)⟩
    · exact ⟨old _ _ (N p hp').1, Nat.ne_of_lt (Nat.lt_trans (hltD p hp') lDC), (N p hp').2.2⟩
  have hst₁ : St 0 h₁ := W.frame _ _ _ hst fun b _ o e => old b o e
  have loop : ∀ s₃ : Shared, s₃ = { s with heap := h₁ } →
      codeAny (model prog w) A (.compLoop (.ListComp elt [⟨.Name x px, iter, [], 0⟩] scope pos) 0 (.ref I) (.ref D) (compEnvC scope ((x, C + 1) :: cl) C env)) (RR (.ref D) C) s₃ := by
    rintro s₃ rfl
    have hfpD : ∀ b ∈ fp, b < D := fun b hb => by
      rcases hfp b hb with q | ⟨o, ho⟩ | ⟨o, ho⟩
      · exact q ▸ hID
      · exact hltD _ (List.mem_append_left _ ho)
      · exact hD ▸ Heap.lt_size (F.keep _ _ ho)
    have hall : ∀ p ∈ ((env.locals, oL) :: src) ++ ((D, lstObj [] 0) :: news), p.1 ≠ I ∧ p.1 ≠ C + 1 := fun p hp => by
      rcases List.mem_append.mp hp with hp | hp
      · rcases List.mem_cons.mp hp with rfl | hp
        · exact ⟨Ne.symm hIL, Nat.ne_of_lt (Nat.lt_succ_of_lt (Nat.lt_trans hLD lDC))⟩
        · exact ⟨hoff p (List.mem_append_left _ hp), Nat.ne_of_lt (Nat.lt_succ_of_lt (Nat.lt_trans (hltD p (List.mem_append_left _ hp)) lDC))⟩
      · rcases List.mem_cons.mp hp with rfl | hp
        · exact ⟨Nat.ne_of_gt hID, Nat.ne_of_lt (Nat.lt_succ_of_lt lDC)⟩
        · exact ⟨hoff p (List.mem_append_right _ hp), Nat.ne_of_lt (Nat.lt_succ_of_lt (Nat.lt_trans (hltD p (List.mem_append_right _ hp)) lDC))⟩
    refine compAt0C (cenv := compEnvC scope ((x, C + 1) :: cl) C env) (kc := C + 1) (src := (env.locals, oL) :: src) (news := (D, lstObj [] 0) :: news) (compTurn_list1 _ _ _ _ _ _ _ _) hkind (hx _ _) (by simp [compEnvC]) (Ne.symm (Nat.ne_of_lt (Nat.lt_succ_self _))) (new0 _ (Nat.le_of_lt (Nat.lt_succ_of_lt lDC)))
      (fun hm => absurd (Nat.lt_trans (hfpD _ hm) (Nat.lt_succ_of_lt lDC)) (Nat.lt_irrefl _)) W hlive hI (fun hm => absurd (Nat.lt_trans (hfpD _ hm) lDC) (Nat.lt_irrefl _)) ?_ hst₁ ⟨_, _, hK1, rfl⟩ F₁ N₁ hall
      (fun i _ nw => ∃ ys ep nx, nw = (D, lstObj ys ep) :: nx ∧ (∀ p ∈ nx, p.1 ≠ env.locals ∧ p.1 ≠ D) ∧ J i ys nx) ⟨[], 0, news, rfl, fun p hp => ⟨(N p (List.mem_append_right _ hp)).2.1, Nat.ne_of_lt (hltD p (List.mem_append_right _ hp))⟩, h0⟩ ?_ ?_
    · intro b hb
      rcases hfp b hb with q | ⟨o, ho⟩ | q
      · exact .inl q
      · exact .inr (.inl ⟨o, .tail _ ho⟩)
      · exact .inr (.inr q)
    · rintro i v m₁ nw h tk oI oK E' hi hP ⟨ys, ep, nx, rfl, hnx, hJ⟩ hnI hoK F₂ N₂
      have hperm : ∀ p, p ∈ (I, oI) :: (C + 1, oK) :: (env.locals, oL) :: (D, lstObj ys ep) :: src ++ nx ↔ p ∈ (I, oI) :: (C + 1, oK) :: ((env.locals, oL) :: src) ++ ((D, lstObj ys ep) :: nx) := fun p => by simp only [List.cons_append, List.mem_cons, List.mem_append]; constructor <;> (rintro (h | h | h | h | h | h) <;> simp [h])
      refine wpAny_bind (wpAny_mono (turn C D (C + 1) oL oI oK i v m₁ ys ep nx h tk E' hi hP hJ (fun p hp => ⟨(hnI p (.tail _ hp)).1, (hnx p hp).1, (hnx p hp).2, (hnI p (.tail _ hp)).2⟩) hltD lDC (Nat.lt_succ_self _) hID hLD hoK F₂ (fun p hp => N₂ p ((hperm p).mp hp))) (fun y s₂ q => ?_) fun _ _ e => e)
      obtain ⟨h', tk', m', nx', rfl, F₃, N₃, hn₃, hJ₃⟩ := q
      have hD₃ := (N₃ (D, lstObj ys ep) (by simp)).1
      refine wpAny_bind (wpAny_list_append_plain (items := ys.toArray) ⟨ep, hD₃⟩ (fun h₄ hpl hs₄ => wpAny_pure ?_) (by have := hlen _ _ _ hJ; simp; omega))
      obtain ⟨ep', hep⟩ := hpl
      refine ⟨h₄, tk', m', (D, lstObj (ys ++ [y]) ep') :: nx', rfl, ⟨F₃.ns.sameBut hs₄ (Ne.symm hDC), fun b o e => hs₄.extBut b o (fun q => by subst q; rw [new0 _ (Nat.le_refl _)] at e; cases e) (F₃.keep b o e), F₃.above⟩, fun p hp => ?_, fun p hp => ?_, ys ++ [y], ep', nx', rfl, fun p hp => ⟨(hn₃ p hp).2.1, (hn₃ p hp).2.2.1⟩, hJ₃⟩
      · have hp' : p = (D, lstObj (ys ++ [y]) ep') ∨ (p.1 ≠ D ∧ p ∈ (I, oI) :: (C + 1, oK) :: (env.locals, oL) :: (D, lstObj ys ep) :: src ++ nx') := by
          rcases List.mem_append.mp hp with hp | hp
          · right
            refine ⟨?_, ?_⟩
            · rcases List.mem_cons.mp hp with rfl | hp
              · exact Nat.ne_of_lt hID
              · rcases List.mem_cons.mp hp with rfl | hp
                · exact Nat.ne_of_gt (Nat.lt_succ_of_lt lDC)
                · rcases List.mem_cons.mp hp with rfl | hp
                  · exact Nat.ne_of_lt hLD
                  · exact Nat.ne_of_lt (hltD p (List.mem_append_left _ hp))
            · refine List.mem_append_left _ ?_
              rcases List.mem_cons.mp hp with rfl | hp
              · exact .head _
              · rcases List.mem_cons.mp hp with rfl | hp
                · exact .tail _ (.head _)
                · rcases List.mem_cons.mp hp with rfl | hp
                  · exact .tail _ (.tail _ (.head _))
                  · exact .tail _ (.tail _ (.tail _ (.tail _ hp)))
          · rcases List.mem_cons.mp hp with rfl | hp
            · exact .inl rfl
            · exact .inr ⟨(hn₃ p hp).2.2.1, List.mem_append_right _ hp⟩
        rcases hp' with rfl | ⟨hne, hp'⟩
        · exact ⟨by simpa using hep, hDC, new0 _ (Nat.le_refl _)⟩
        · exact ⟨hs₄.extBut _ _ hne (N₃ p hp').1, (N₃ p hp').2⟩
      · rcases List.mem_cons.mp hp with rfl | hp
        · exact ⟨Nat.ne_of_gt hID, Nat.ne_of_lt (Nat.lt_succ_of_lt lDC)⟩
        · exact ⟨(hn₃ p hp).1, (hn₃ p hp).2.2.2⟩
    · rintro m₁ nw h tk ⟨ys, ep, nx, rfl, hnx, hJ⟩ F₂ N₂
      obtain ⟨oC, es, ec, hoC, rC⟩ := id F₂.ns
      have gL := (N₂ (env.locals, oL) (by simp)).1
      refine hRR D C oC m₁ ys ep nx h tk hJ ⟨⟨oL, esL, epL, gL, rL⟩, F₂.keep, F.above⟩ (fun p hp => ?_) (fun p hp => ?_) (fun p hp => ?_) F₂.ns
      · have hp' : p = (C, oC) ∨ p = (D, lstObj ys ep) ∨ p ∈ src ∨ p ∈ nx := by simpa using hp
        rcases hp' with rfl | rfl | hp' | hp'
        · exact ⟨hoC, Nat.ne_of_gt (Nat.lt_trans hLD lDC), new0 _ (Nat.le_of_lt lDC)⟩
        · exact ⟨(N₂ (D, lstObj ys ep) (by simp)).1, Nat.ne_of_gt hLD, new0 _ (Nat.le_refl _)⟩
        · exact ⟨(N₂ p (by simp [hp'])).1, (N p (List.mem_append_left _ hp')).2.1, (N₂ p (by simp [hp'])).2.2⟩
        · exact ⟨(N₂ p (by simp [hp'])).1, (hnx p hp').1, (N₂ p (by simp [hp'])).2.2⟩
      · have hp' : p ∈ ((env.locals, oL) :: src) ++ ((D, lstObj ys ep) :: nx) := by
          have : p = (D, lstObj ys ep) ∨ p ∈ src ∨ p ∈ nx := by simpa using hp
          rcases this with h | h | h <;> simp [h]
        exact (N₂ p hp').2.1
      · rcases List.mem_append.mp hp with hp | hp
        · exact Nat.ne_of_lt (hltD p (List.mem_append_left _ hp))
        · exact (hnx p hp).2
  have L1 := loop _ rfl
  exact codeAny_compStart_list L1 (W.self 0 _ _ _ hst₁ L1)
/-- what the walk of a comprehension owes when its source has been turned into an iterator -/
def CompAtC (prog : Program) (w : World) (A : Around) (h₀ : Heap) (env : Env) (scope : Scope) (cl : List (Str × Addr)) (x : Str) (elt : Expr) (fin : Addr → (Str → Option Value) → List (Addr × Obj) → Heap → Nat → Shared → Prop) (it : Value) (s : Shared) : Prop :=
  ∃ I fp n P St m src news J, it = .ref I ∧ CompInC prog w A h₀ env scope cl x elt I fp n P St m src news J s ∧
    ∀ D ys ep nx h tk, J n ys nx → (∀ p ∈ src ++ nx, p.1 ≠ D) → fin D m ((D, lstObj ys ep) :: src ++ nx) h tk s

theorem comp_evalC {L0 : Addr} {m0 : Str → Option Value} {elt iter : Expr} {scope : Scope} {cl : List (Str × Addr)} {pos : Pos} {Q : Value → Shared → Prop} (_ : Fr h₀ L0 s.heap m0)
    (hclos : closureFor scope env = pure cl) (hcf : ∀ n acc, cellsFrom n scope.names acc = (x, n) :: acc) (hpc : ∀ h, pushCells h scope.names = h.push { cls := .type "cell", data := .cell none }) (hkind : scope.kind = .function)
    (hnames : ∀ y ∈ scope.names, y.2 = .local → scope.names.lookup y.1 = some .local) (hx : ∀ C cl, (compEnvC scope cl C env).kindOf x = some .cell)
    (h : wpAny (model prog w) A (eval iter env) (fun xv s₁ => Stop (wpAny (model prog w) A (pyIter xv) (fun it s₂ => CompAtC prog w A h₀ env scope cl x elt
      (fun D m nw h tk s₂ => Fr h₀ env.locals h m → News h₀ env.locals h nw → Q (.ref D) { s₂ with heap := h, toks := tk }) it s₂) E s₁)) E s)
    (hs : ∀ x, foldedSetIterable iter env x = pure x := by intro _; rfl) :
    wpAny (model prog w) A (eval (.ListComp elt [⟨.Name x px, iter, [], 0⟩] scope pos) env) Q E s := by
  rw [eval_ListComp]
  refine wpAny_comprehension_free (use := none) rfl hs hclos hkind hnames (wpAny_mono h (fun xv s₁ h₁ => wpAny_mono h₁ (fun it s₂ h₂ => ?_) fun _ _ e => e) fun _ _ e => e)
  obtain ⟨I, fp, n, P, St, m, src, news, J, rfl, Z, hQ⟩ := h₂
  refine comp_blockC Z (RR := fun acc C => compPost (model prog w) A E none Q acc C) hcf hpc hkind hx ?_
  intro D C oC mC ys ep nx h tk hJ F N hoC hoD hns
  refine ⟨mC, hns, fun h' hs' => ?_⟩
  have hCL : C ≠ env.locals := (N (C, oC) (by simp)).2.1
  have hC0 : h₀.get? C = none := (N (C, oC) (by simp)).2.2
  refine hQ D ys ep nx h' tk hJ hoD ⟨F.ns.sameBut hs' (Ne.symm hCL), fun b o e => hs'.extBut b o (fun q => by subst q; rw [hC0] at e; cases e) (F.keep b o e), F.above⟩ fun p hp => ?_
  have := N p (.tail _ hp)
  exact ⟨hs'.extBut _ _ (hoC p hp) this.1, this.2⟩

theorem comp_assignC {elt iter : Expr} {y : Str} {py : Pos} {scope : Scope} {cl : List (Str × Addr)} {pos spos : Pos} {Q : Flow → Shared → Prop} {L0 : Addr} {m0 : Str → Option Value} (_ : Fr h₀ L0 s.heap m0)
    (hsw : swapsWith (.ListComp elt [⟨.Name x px, iter, [], 0⟩] scope pos) (some (.Name y py)) spos.line env = pure true)
    (hclos : closureFor scope env = pure cl) (hcf : ∀ n acc, cellsFrom n scope.names acc = (x, n) :: acc) (hpc : ∀ h, pushCells h scope.names = h.push { cls := .type "cell", data := .cell none }) (hkind : scope.kind = .function)
    (hnames : ∀ z ∈ scope.names, z.2 = .local → scope.names.lookup z.1 = some .local) (hx : ∀ C cl, (compEnvC scope cl C env).kindOf x = some .cell)
    (h : wpAny (model prog w) A (eval iter env) (fun xv s₁ => Stop (wpAny (model prog w) A (pyIter xv) (fun it s₂ => CompAtC prog w A h₀ env scope cl x elt
      (fun D m nw h tk s₂ => ∀ C oC E', (∀ p ∈ nw, p.1 ≠ C) → Fr h₀ env.locals h m → News h₀ env.locals h ((C, oC) :: nw) →
        wpAny (model prog w) A (storeName env y (.ref D)) (fun _ s₃ => AsgPost h₀ env.locals C oC Q s₂ s₃) E' { s₂ with heap := h, toks := tk }) it s₂) E s₁)) E s)
    (hs : ∀ x, foldedSetIterable iter env x = pure x := by intro _; rfl) :
    wpAny (model prog w) A (exec (.Assign [.Name y py] (.ListComp elt [⟨.Name x px, iter, [], 0⟩] scope pos) spos) env) Q E s := by
  rw [exec_Assign_Name_used _ _ _ _ hsw]
  refine wpAny_bind (wpAny_standAt (wpAny_bind ?_))
  show wpAny _ A (do let _ ← comprehension (.ListComp elt [⟨.Name x px, iter, [], 0⟩] scope pos) scope env _ (newList []) false (eval iter env) (some (assign (.Name y py) env))) _ _ s
  refine wpAny_bind (wpAny_mono (wpAny_comprehension_free (use := some (assign (.Name y py) env)) (Q := fun _ s' => Q .next s') rfl hs hclos hkind hnames
    (wpAny_mono h (fun xv s₁ h₁ => wpAny_mono h₁ (fun it s₂ h₂ => ?_) fun _ _ e => e) fun _ _ e => e)) (fun _ s' hq => wpAny_pure (wpAny_pure hq)) fun _ _ e => e)
  obtain ⟨I, fp, n, P, St, m, src, news, J, rfl, Z, hQ⟩ := h₂
  refine comp_blockC Z (RR := fun acc C => compPost (model prog w) A E (some (assign (.Name y py) env)) (fun _ s' => Q .next s') acc C) hcf hpc hkind hx ?_
  intro D C oC mC ys ep nx h tk hJ F N hoC hoD hns
  show wpAny _ A (assign (.Name y py) env (.ref D)) _ _ _
  refine wpAny_assign_Name (wpAny_mono (hQ D ys ep nx h tk hJ hoD C oC _ hoC F N) (fun _ s₃ q => ?_) fun _ _ e => e)
  obtain ⟨h', tk', m', nw', rfl, F', N', hn', fin⟩ := q
  have gC := N' (C, oC) (.head _)
  have gC0 := N (C, oC) (.head _)
  obtain ⟨o, es, ec, ho, r⟩ := hns
  rw [gC0.1] at ho; cases ho
  refine ⟨mC, ⟨_, es, ec, gC.1, r⟩, fun h'' hs'' => fin h'' tk' ?_ ?_⟩
  · exact ⟨F'.ns.sameBut hs'' (Ne.symm gC.2.1), fun b o e => hs''.extBut b o (fun q => by subst q; rw [gC.2.2] at e; cases e) (F'.keep b o e), F'.above⟩
  · intro p hp
    have := N' p (.tail _ hp)
    exact ⟨hs''.extBut _ _ (hn' p hp) this.1, this.2⟩

theorem compAt_rangeC {scope : Scope} {cl : List (Str × Addr)} {elt : Expr} {fin : Addr → (Str → Option Value) → List (Addr × Obj) → Heap → Nat → Shared → Prop} {r : Addr} {a₀ b₀ : Int} {t₀ u₀ v₀ : Tok} {n : Nat} {m : Str → Option Value} {src : List (Addr × Obj)} (hh : A.handled = none) (hr : IsRange s.heap r a₀ b₀ 1 t₀ u₀ v₀) (hsmall : Builtin.Range.small a₀ b₀ 1 = true) (hn : Builtin.Range.rangeSize a₀ b₀ 1 = (n : Int))
    (hsz : n ≤ sizeLine) (F : Fr h₀ env.locals s.heap m) (news : List (Addr × Obj)) (N : News h₀ env.locals s.heap (src ++ news)) (J : Nat → List Value → List (Addr × Obj) → Prop) (h0 : J 0 [] news) (hlen : ∀ i ys nx, J i ys nx → ys.length = i)
    (turn : ∀ (I C D kc : Addr) (oL oI oK : Obj) (i : Nat) (t : Tok) (m₁ : Str → Option Value) (ys : List Value) (ep : Nat) (nx : List (Addr × Obj)) (h : Heap) (tk : Nat) (E' : Value → Shared → Prop), i < n → J i ys nx → (∀ p ∈ nx, p.1 ≠ I ∧ p.1 ≠ env.locals ∧ p.1 ≠ D ∧ p.1 ≠ kc) → (∀ p ∈ src ++ news, p.1 < I) → I < D → D < C → C < kc → env.locals < D → oK.data = .cell (some (.int (a₀ + (i : Nat)) t)) → Fr h₀ C h m₁ →
      News h₀ C h ((I, oI) :: (kc, oK) :: (env.locals, oL) :: (D, lstObj ys ep) :: src ++ nx) →
      wpAny (model prog w) A (eval elt (compEnvC scope ((x, kc) :: cl) C env)) (fun y s₂ => ∃ h' tk m' nx', s₂ = { s with heap := h', toks := tk } ∧ Fr h₀ C h' m' ∧ News h₀ C h' ((I, oI) :: (kc, oK) :: (env.locals, oL) :: (D, lstObj ys ep) :: src ++ nx') ∧ (∀ p ∈ nx', p.1 ≠ I ∧ p.1 ≠ env.locals ∧ p.1 ≠ D ∧ p.1 ≠ kc) ∧ J (i + 1) (ys ++ [y]) nx') E' { s with heap := h, toks := tk })
    (done : ∀ D ys ep nx h tk hp, J n ys nx → (∀ p ∈ src ++ nx, p.1 ≠ D) → fin D m ((D, lstObj ys ep) :: src ++ nx) h tk { s with heap := hp }) :
    wpAny (model prog w) A (pyIter (.ref r)) (fun it s₂ => CompAtC prog w A h₀ env scope cl x elt fin it s₂) E s := by
  refine wpAny_pyIter_range hr hsmall ?_
  have hlt : ∀ p ∈ src ++ news, p.1 < s.heap.objs.size := fun p hp => Heap.lt_size (N p hp).1
  refine ⟨s.heap.objs.size, [s.heap.objs.size], n, _, _, m, src, news, J, rfl, ⟨Walks.range hh s.heap.objs.size a₀ 1 n, hsz, fun i h st => ⟨_, st⟩, next_is_new F, ?_, ?_, (by show IsRangeIter _ _ _ _ _; rw [hn]; simpa using Heap.get?_push_size _ rfl), F.push _, (fun p hp => ⟨Heap.get?_push_of_some _ (N p hp).1, (N p hp).2⟩), ?_, h0, hlen, ?_⟩, ?_⟩
  · exact Ne.symm (Nat.ne_of_lt F.ns.lt)
  · intro b hb; exact .inl (List.mem_singleton.mp hb)
  · intro p hp; exact Nat.ne_of_lt (hlt p hp)
  · rintro C D kc oL oI oK i v m₁ ys ep nx h tk E' hi ⟨t, rfl⟩ hJ hnx hltD hDC hCk hID hLD hoK F₁ N₁
    have e : a₀ + (i : Int) * 1 = a₀ + (i : Nat) := by rw [Int.mul_one]
    rw [e] at hoK
    exact turn _ C D kc oL oI oK i t m₁ ys ep nx h tk E' hi hJ hnx hlt hID hDC hCk hLD hoK F₁ N₁
  · intro D ys ep nx h tk hJ ho
    exact done D ys ep nx h tk _ hJ ho

end
example : True := by first | walk1 | trivial
section
variable {prog : Program} {w : World} {A : Around} {E : Value → Shared → Prop} {s : Shared} {h₀ h : Heap} {L a : Addr} {m : Str → Option Value} {news : List (Addr × Obj)} {es : List DictEntry} {n : Nat} {x : Str} {t : Tok} {v : Value}
theorem mapOf_N (N : News h₀ L h news) (hm : (a, dictOf es n) ∈ news) (hk : KeysLit w.params es) : h.MapOf (strKind prog w) a (fun k => findBy Value.isStrOf es.toArray k) :=
  ⟨_, es.toArray, n, N.get hm, ⟨rfl, rfl, rfl⟩, rfl, fun e he => by
    obtain ⟨x, t, e1, e2⟩ := hk.all e (by simpa using he)
    exact ⟨x, by rw [e1]; exact strKind_is prog w x t, e2⟩, fun _ => rfl⟩
theorem find_N {r : Option Value} (e : getL x es = some r) : findBy Value.isStrOf es.toArray x = r := by
  unfold getL at e
  have q : (fun d : DictEntry => Value.isStrOf x d.key) = fun d => d.key.isStr x := funext fun d => (isStr_of x d.key).symm
  unfold findBy
  rw [List.find?_toArray, q]
  split at e
  · rename_i e' h'; rw [h']; exact Option.some.inj e
  · rename_i h'
    rw [h']
    split at e
    · cases e
    · exact Option.some.inj e
theorem in_dictN {r : Option Value} {Q : Value → Shared → Prop} (N : News h₀ L s.heap news) (hm : (a, dictOf es n) ∈ news) (hk : KeysLit w.params es) (e : getL x es = some r) (lo : (a == sysModules) = false) (h : Q (.bool r.isSome) { s with toks := s.toks + 1 }) :
    wpAny (model prog w) A (compareOp .In (.str x t) (.ref a)) Q E s :=
  wpAny_in_of (strKind_is prog w x t) lo (mapOf_N (prog := prog) N hm hk) (by rw [find_N e]; exact h)
theorem in_dictY {Q : Value → Shared → Prop} (N : News h₀ L s.heap news) (hm : (a, dictOf es n) ∈ news) (hk : KeysLit w.params es) (e : getL x es = some (some v)) (lo : (a == sysModules) = false) (h : Q (.bool true) { s with toks := s.toks + 1 }) :
    wpAny (model prog w) A (compareOp .In (.str x t) (.ref a)) Q E s := in_dictN N hm hk e lo h
theorem in_dictO {Q : Value → Shared → Prop} (N : News h₀ L s.heap news) (hm : (a, dictOf es n) ∈ news) (hk : KeysLit w.params es) (e : getL x es = some none) (lo : (a == sysModules) = false) (h : Q (.bool false) { s with toks := s.toks + 1 }) :
    wpAny (model prog w) A (compareOp .In (.str x t) (.ref a)) Q E s := in_dictN N hm hk e lo h
theorem item_dictN {value slice : PySem.Expr} {Q : Value → Shared → Prop} (N : News h₀ L s.heap news) (hm : (a, dictOf es n) ∈ news) (hk : KeysLit w.params es) (e : getL x es = some (some v)) (h : Q v { s with toks := s.toks + 1 })
    (hs : subscripted slice false (.ref a) (.str x t) = operate [.ref a, .str x t] (getItem (.ref a) (.str x t)) := by with_unfolding_all rfl) :
    wpAny (model prog w) A (subscriptTail value slice (.ref a) (.str x t)) Q E s :=
  have hmm := mapOf_N (prog := prog) N hm hk
  tail_any hmm.typeIs slot_dict_getitem.lookup (wpAny_getItem_of (strKind_is prog w x t) hmm (find_N e) h) hs
end
section
local macro_rules | `(tactic| walk_at "compareOp In str ref") => `(tactic| (k_dflt (first | (refine' in_dictY ?N ?m ?k ?e ?l ?_; (case N => k_asm); (case m => k_mem); (case k => k_keys); (case e => k_get); (case l => assumption); k_whole) | (refine' in_dictO ?N ?m ?k ?e ?l ?_; (case N => k_asm); (case m => k_mem); (case k => k_keys); (case e => k_get); (case l => assumption); k_whole))))
local macro_rules | `(tactic| walk_at "subscriptTail") => `(tactic| ((with_reducible show wpAny _ _ (subscriptTail _ _ (Value.ref _) (Value.str _ _)) _ _ _); k_dflt (refine' item_dictN ?N ?m ?k ?e ?_; (case N => k_asm); (case m => k_mem); (case k => k_keys); (case e => k_get); k_whole)))
/-- the names' dict and its two lists -/
structure NmA where
  nd : Addr
  ax : Addr
  ay : Addr
  tx : Tok
  ty : Tok
  n : Nat
  xs : List Value
  ys : List Value
abbrev nmObjs (P : Params) (a : NmA) (ex ey : Nat) : List (Addr × Obj) :=
  [(a.nd, dictOf [⟨PyData.keyHash P (Str.ofString "x"), .str (Str.ofString "x") a.tx, .ref a.ax⟩, ⟨PyData.keyHash P (Str.ofString "y"), .str (Str.ofString "y") a.ty, .ref a.ay⟩] a.n), (a.ax, W.listOf a.xs.toArray ex), (a.ay, W.listOf a.ys.toArray ey)]
def OwnC (w : World) (k : Nat) (objs : List (Addr × Obj)) (v : Value) (f : List Int → List Int → List Int) : Prop :=
  ∀ (A : Around) (E : Value → Shared → Prop) (s : Shared) (mg mb : Str → Option Value) (Q : Value → Shared → Prop) (h₀ : Heap) (L₀ : Addr) (m₀ : Str → Option Value) (news : List (Addr × Obj)) (a : NmA) (ex ey : Nat) (xi yi : List Int),
    Fr h₀ L₀ s.heap m₀ → News h₀ L₀ s.heap news → (∀ p ∈ objs, p ∈ news) → (∀ p ∈ nmObjs w.params a ex ey, p ∈ news) → (a.nd == sysModules) = false → IntsAre a.xs xi → IntsAre a.ys yi → xi.length = 16 → yi.length = 16 → (KK w.params).In h₀ → TR mg mb h₀ → A.depth + k < recursionLimit → A.handled = none →
    (∀ r vs e h' tk, IntsAre vs (f xi yi) → (f xi yi).length = 16 → ((r, W.listOf vs.toArray e) ∈ nmObjs w.params a ex ey ∨ ∀ p ∈ news, p.1 ≠ r) → Fr h₀ L₀ h' m₀ → News h₀ L₀ h' ((r, W.listOf vs.toArray e) :: news) → Q (.ref r) { s with heap := h', toks := tk }) →
    wpAny (model P0 w) A (call (.ref 140) [v, .ref a.nd]) Q E s
theorem own_x (w : World) (t : Tok) : OwnC w 10 [] (.str (Str.ofString "x") t) (fun x y => x) := by
  intro A E s mg mb Q h₀ L₀ m₀ news a ex ey xi yi F N hs hs2 hlo hx hy hxl hyl X T hA hh h
  obtain ⟨hd, dp, fr, gs, un⟩ := A
  cases (show hd = none from hh)
  replace hA : dp + 10 < recursionLimit := hA
  have hA2 : (⟨none, dp, fr, gs, un⟩ : Around).depth < recursionLimit := by show dp < recursionLimit; omega
  have N0 := news_sub N hs2
  simp only [nmObjs] at N0
  (refine' callWC _ ?k0 ?kN ?k1 ?k2 ?k3 ?k4 ?k5 ?k6 ?k7 ?kD ?_ ?c2 ?c3 ?c4; (case k0 => k_asm); (case kN => k_asm); (case k1 => k_asm); (case k2 => k_asm); (case k4 => k_is); (case k5 => k_is); (case k6 => exact BindsTo.of_eq rfl); (case k7 => exact rfl); (case kD => decide +kernel); (case c2 => exact rfl); (case c3 => exact rfl); (case c4 => exact rfl); (case k3 => first | assumption | omega))
  intro g L' h' tk' cells' H' F' N' Y' l' X' T'
  k_fold
  k_cells Y'
  simp only [List.cons_append, List.nil_append] at N'
  k_steps
  rename Fr _ _ _ _ => FF
  rename News _ _ _ _ => NN
  have S1 := H'.stays FF.keep (fun p hp => (NN p (.tail _ (.tail _ hp))).1) (fun p hp => (N0 p hp).1)
  have N5 := N.grown S1
  refine h a.ax a.xs ex _ _ hx hxl (.inl (.tail _ (.head _))) (F.grownK S1) (fun p hp => ?_)
  rcases List.mem_cons.mp hp with rfl | hp
  · exact N5 _ (hs2 _ (.tail _ (.head _)))
  · exact N5 p hp
theorem own_y (w : World) (t : Tok) : OwnC w 10 [] (.str (Str.ofString "y") t) (fun x y => y) := by
  intro A E s mg mb Q h₀ L₀ m₀ news a ex ey xi yi F N hs hs2 hlo hx hy hxl hyl X T hA hh h
  obtain ⟨hd, dp, fr, gs, un⟩ := A
  cases (show hd = none from hh)
  replace hA : dp + 10 < recursionLimit := hA
  have hA2 : (⟨none, dp, fr, gs, un⟩ : Around).depth < recursionLimit := by show dp < recursionLimit; omega
  have N0 := news_sub N hs2
  simp only [nmObjs] at N0
  (refine' callWC _ ?k0 ?kN ?k1 ?k2 ?k3 ?k4 ?k5 ?k6 ?k7 ?kD ?_ ?c2 ?c3 ?c4; (case k0 => k_asm); (case kN => k_asm); (case k1 => k_asm); (case k2 => k_asm); (case k4 => k_is); (case k5 => k_is); (case k6 => exact BindsTo.of_eq rfl); (case k7 => exact rfl); (case kD => decide +kernel); (case c2 => exact rfl); (case c3 => exact rfl); (case c4 => exact rfl); (case k3 => first | assumption | omega))
  intro g L' h' tk' cells' H' F' N' Y' l' X' T'
  k_fold
  k_cells Y'
  simp only [List.cons_append, List.nil_append] at N'
  k_steps
  rename Fr _ _ _ _ => FF
  rename News _ _ _ _ => NN
  have S1 := H'.stays FF.keep (fun p hp => (NN p (.tail _ (.tail _ hp))).1) (fun p hp => (N0 p hp).1)
  have N5 := N.grown S1
  refine h a.ay a.ys ey _ _ hy hyl (.inl (.tail _ (.tail _ (.head _)))) (F.grownK S1) (fun p hp => ?_)
  rcases List.mem_cons.mp hp with rfl | hp
  · exact N5 _ (hs2 _ (.tail _ (.tail _ (.head _))))
  · exact N5 p hp

end
example : True := by first | walk1 | trivial
section
def minL : List Int → Int
  | [] => 0
  | a :: r => r.foldl (fun σ a => if a < σ then a else σ) a
def maxL : List Int → Int
  | [] => 0
  | a :: r => r.foldl (fun σ a => if a > σ then a else σ) a
theorem minL_is {M : Int} {l : List Int} (h1 : M ∈ l) (h2 : ∀ a ∈ l, M ≤ a) : M = minL l := by
  cases l with
  | nil => cases h1
  | cons a r =>
    have q := fold_min r a
    show M = r.foldl (fun σ a => if a < σ then a else σ) a
    have e1 : r.foldl (fun σ a => if a < σ then a else σ) a ∈ a :: r := by
      rcases q.1 with e | e
      · rw [e]; exact .head _
      · exact .tail _ e
    have e2 : r.foldl (fun σ a => if a < σ then a else σ) a ≤ M := by
      rcases List.mem_cons.mp h1 with rfl | h
      · exact q.2.1
      · exact q.2.2 M h
    exact Int.le_antisymm (h2 _ e1) e2
theorem fold_maxL : ∀ (l : List Int) (z : Int), (l.foldl (fun σ a => if a > σ then a else σ) z = z ∨ l.foldl (fun σ a => if a > σ then a else σ) z ∈ l) ∧ z ≤ l.foldl (fun σ a => if a > σ then a else σ) z ∧ ∀ a ∈ l, a ≤ l.foldl (fun σ a => if a > σ then a else σ) z
  | [], z => ⟨.inl rfl, Int.le_refl _, fun a h => by cases h⟩
  | b :: r, z => by
    have q := fold_maxL r (if b > z then b else z)
    simp only [List.foldl_cons]
    refine ⟨?_, ?_, ?_⟩
    · rcases q.1 with e | e
      · by_cases hb : b > z
        · rw [if_pos hb] at e ⊢; rw [e]; exact .inr (.head _)
        · rw [if_neg hb] at e ⊢; exact .inl e
      · exact .inr (.tail _ e)
    · have := q.2.1
      split at this <;> omega
    · intro a ha
      rcases List.mem_cons.mp ha with rfl | ha
      · have := q.2.1
        split at this <;> omega
      · exact q.2.2 a ha
theorem maxL_is {M : Int} {l : List Int} (h1 : M ∈ l) (h2 : ∀ a ∈ l, a ≤ M) : M = maxL l := by
  cases l with
  | nil => cases h1
  | cons a r =>
    have q := fold_maxL r a
    show M = r.foldl (fun σ a => if a > σ then a else σ) a
    have e1 : r.foldl (fun σ a => if a > σ then a else σ) a ∈ a :: r := by
      rcases q.1 with e | e
      · rw [e]; exact .head _
      · exact .tail _ e
    have e2 : M ≤ r.foldl (fun σ a => if a > σ then a else σ) a := by
      rcases List.mem_cons.mp h1 with rfl | h
      · exact q.2.1
      · exact q.2.2 M h
    exact Int.le_antisymm e2 (h2 _ e1)
section
variable {prog : Program} {w : World} {A : Around} {E : Value → Shared → Prop} {s : Shared} {Q : Value → Shared → Prop} {h₀ : Heap} {L : Addr} {m : Str → Option Value} {news : List (Addr × Obj)}
theorem min_N {l : Addr} {vs : List Value} {ns : List Int} {e : Nat} (hh : A.handled = none) (F : Fr h₀ L s.heap m) (N : News h₀ L s.heap news) (hm : (l, W.listOf vs.toArray e) ∈ news) (hi : IntsAre vs ns) (hne : 0 < ns.length)
    (h : ∀ h' t tk, Fr h₀ L h' m → News h₀ L h' news → Q (.int (minL ns) t) { s with heap := h', toks := tk }) : wpAny (model prog w) A (call (.builtin "min") [.ref l]) Q E s :=
  min_list_N hh F N (N.isList hm) hi hne fun h' M t tk F' N' h1 h2 => by rw [minL_is h1 h2]; exact h h' t tk F' N'
theorem max_N {l : Addr} {vs : List Value} {ns : List Int} {e : Nat} (hh : A.handled = none) (F : Fr h₀ L s.heap m) (N : News h₀ L s.heap news) (hm : (l, W.listOf vs.toArray e) ∈ news) (hi : IntsAre vs ns) (hne : 0 < ns.length)
    (h : ∀ h' t tk, Fr h₀ L h' m → News h₀ L h' news → Q (.int (maxL ns) t) { s with heap := h', toks := tk }) : wpAny (model prog w) A (call (.builtin "max") [.ref l]) Q E s :=
  max_list_N hh F N (N.isList hm) hi hne fun h' M t tk F' N' h1 h2 => by rw [maxL_is h1 h2]; exact h h' t tk F' N'
theorem item_M {value slice : Expr} {l : Addr} {vs : List Value} {e : Nat} {k : Int} {u : Tok} {v : Value} (N : News h₀ L s.heap news) (hm : (l, W.listOf vs.toArray e) ∈ news) (h0 : 0 ≤ k) (h1 : k < 100) (hx : vs[k.toNat]? = some v) (h : Q v s)
    (hs : subscripted slice false (.ref l) (.int k u) = operate [.ref l, .int k u] (getItem (.ref l) (.int k u)) := by with_unfolding_all rfl) :
    wpAny (model prog w) A (subscriptTail value slice (.ref l) (.int k u)) Q E s :=
  have hL := N.isList hm
  tail_any hL.typeIs slot_list_getitem.lookup (wpAny_getItem_list hL h0 (by omega) (by simpa using hx) h) hs
end
/-- values that are lists of ints, laid in V -/
inductive RefsAre (V : List (Addr × Obj)) : List Value → List (List Int) → Prop
  | nil : RefsAre V [] []
  | cons {r : Addr} {vs : List Value} {l : List Int} (e : Nat) {ys : List Value} {ls : List (List Int)} : (r, W.listOf vs.toArray e) ∈ V → IntsAre vs l → l.length = 16 → RefsAre V ys ls → RefsAre V (.ref r :: ys) (l :: ls)
theorem RefsAre.sub {V V' : List (Addr × Obj)} (hs : ∀ p ∈ V, p ∈ V') {ys : List Value} {ls : List (List Int)} (h : RefsAre V ys ls) : RefsAre V' ys ls := by
  induction h with
  | nil => exact .nil
  | cons e hm hi hl _ ih => exact .cons e (hs _ hm) hi hl ih
theorem RefsAre.snoc {V : List (Addr × Obj)} {ys : List Value} {ls : List (List Int)} (h : RefsAre V ys ls) {r : Addr} {vs : List Value} {l : List Int} {e : Nat} (hm : (r, W.listOf vs.toArray e) ∈ V) (hi : IntsAre vs l) (hl : l.length = 16) : RefsAre V (ys ++ [.ref r]) (ls ++ [l]) := by
  induction h with
  | nil => exact .cons e hm hi hl .nil
  | cons e' hm' hi' hl' _ ih => exact .cons e' hm' hi' hl' ih
theorem RefsAre.len {V : List (Addr × Obj)} {ys : List Value} {ls : List (List Int)} (h : RefsAre V ys ls) : ys.length = ls.length := by
  induction h with
  | nil => rfl
  | cons e hm hi hl _ ih => simp [ih]
theorem RefsAre.at {V : List (Addr × Obj)} {ys : List Value} {ls : List (List Int)} (h : RefsAre V ys ls) {i : Nat} {v : Value} (e : ys[i]? = some v) : ∃ r vs l ep, v = .ref r ∧ (r, W.listOf vs.toArray ep) ∈ V ∧ IntsAre vs l ∧ l.length = 16 ∧ ls[i]? = some l := by
  induction h generalizing i with
  | nil => simp at e
  | cons ep hm hi hl _ ih =>
    cases i with
    | zero => exact ⟨_, _, _, ep, by simpa using e.symm, hm, hi, hl, rfl⟩
    | succ i => simpa using ih (by simpa using e)
theorem ints_at {vs : List Value} {l : List Int} (h : IntsAre vs l) {i : Nat} (hi : i < l.length) : ∃ t, vs[i]? = some (.int (l.getD i 0) t) := by
  induction h generalizing i with
  | nil => simp at hi
  | cons x t _ ih =>
    cases i with
    | zero => exact ⟨t, rfl⟩
    | succ i => simpa using ih (by simpa using hi)
theorem ints_get {vs : List Value} {l : List Int} (h : IntsAre vs l) {i : Nat} {v : Value} (e : vs[i]? = some v) : ∃ x t, v = .int x t ∧ l[i]? = some x := by
  induction h generalizing i with
  | nil => simp at e
  | cons x t _ ih =>
    cases i with
    | zero => exact ⟨x, t, by simpa using e.symm, rfl⟩
    | succ i => simpa using ih (by simpa using e)
theorem ints_snoc {vs : List Value} {l : List Int} (h : IntsAre vs l) (x : Int) (t : Tok) : IntsAre (vs ++ [.int x t]) (l ++ [x]) := h.append (.cons x t .nil)
def colF (ls : List (List Int)) (k : Nat) : List Int := ls.map fun l => l.getD k 0
def ownN (c : Nat) (ls : List (List Int)) : List Int :=
  if c = 38 then (List.range 16).map fun k => minL (colF ls k)
  else if c = 124 then (List.range 16).map fun k => maxL (colF ls k)
  else ((List.range 16).map fun k => maxL (colF ls k)).map fun x => 3 - x
theorem ownN_len (c : Nat) (ls : List (List Int)) : (ownN c ls).length = 16 := by
  unfold ownN
  split <;> (try split) <;> simp
def Sign (c : Nat) : Prop := c = 124 ∨ c = 38 ∨ c = 126
theorem names_no {P : Params} {c : Nat} (hc : Sign c) (tx ty : Tok) (u v : Value) : getL ⟨#[c]⟩ [⟨PyData.keyHash P (Str.ofString "x"), .str (Str.ofString "x") tx, u⟩, ⟨PyData.keyHash P (Str.ofString "y"), .str (Str.ofString "y") ty, v⟩] = some none := by
  rcases hc with rfl | rfl | rfl <;> kernel_rfl
theorem nameU_K {M : Model} {A : Around} {E : Value → Shared → Prop} {s : Shared} {h₀ : Heap} {L : Addr} {m : Str → Option Value} {env : Env} {K : Frag} {mg mb : Str → Option Value} {p : Program} {loose : List Str} {x : Str} {pos : Pos} {v : Value} {Q : Value → Shared → Prop} (F : Fr h₀ L s.heap m) (X : K.In h₀) (T : TopRead p loose mg mb h₀)
    (e : nsIn K mainGlobals x = some none) (hv : bootBuiltins x = some v) (hn : x ≠ "__name__") (h : Q v s) (hg : env.globals = mainGlobals) (hb : env.builtins = builtinsNs) (hk : env.scope.kind = .function) (hx : env.kindOf x = some .globalImplicit) (hd : (x == ("__debug__" : Str)) = false) :
    wpAny M A (eval (.Name x pos) env) Q E s :=
  Name_function_global hk hx (loadGlobal_builtin (env := env) (by rw [hg]; exact T.g.keeps F.keep) (mg_none_of X T.g e) (by rw [hb]; exact T.b.keeps F.keep) ((T.builtins x hn).trans hv) h) hd
theorem holdQ {α : Type} {M : Model} {A : Around} {E : Value → Shared → Prop} {s : Shared} {x : Sem α} {Q : α → Shared → Prop} (h : wpAny M A x (fun v s => Stop (Q v s)) E s) : wpAny M A x Q E s := wpAny_mono h (fun _ _ h => h) (fun _ _ h => h)
theorem own_end {h₀ h₁ g h' : Heap} {L₀ L' r : Addr} {m₀ m' : Str → Option Value} {V news nn : List (Addr × Obj)} {o : Obj} (F : Fr h₀ L₀ h₁ m₀) (N : News h₀ L₀ h₁ news) (N0 : News h₀ L₀ h₁ V) (H : Hides h₁ g V) (F' : Fr g L' h' m') (NN : News g L' h' nn)
    (hm : (r, o) ∈ nn) (hV : ∀ p ∈ V, p ∈ nn) (hr : ∀ p ∈ V, p.1 ≠ r) : (∀ p ∈ news, p.1 ≠ r) ∧ Fr h₀ L₀ h' m₀ ∧ News h₀ L₀ h' ((r, o) :: news) := by
  have S1 : h₁.StaysIn _ := H.stays F'.keep (fun p hp => (NN p (hV p hp)).1) (fun p hp => (N0 p hp).1)
  obtain ⟨F5, N5⟩ := leaveW F N0 (rest := []) News.nil H F' (news_sub NN (news' := [(r, o)]) fun p hp => by rw [List.mem_singleton.mp hp]; exact hm) (List.forall_mem_nil _)
  refine ⟨fun p hp e => ?_, F5, fun p hp => ?_⟩
  · have g1 := (N p hp).1
    have nm : p.1 ∉ V.map (·.1) := fun q => by
      obtain ⟨p', hp', e'⟩ := List.mem_map.mp q
      exact hr p' hp' (e'.trans e)
    have g2 := H.keep _ _ g1 nm
    rw [e, (NN _ hm).2.2] at g2
    cases g2
  · rcases List.mem_cons.mp hp with rfl | hp
    · exact N5 _ (by simp)
    · exact (N.grown S1) p hp
theorem amp_is : Str.ofString "&" = ⟨#[38]⟩ := by decide +kernel
theorem bar_is : Str.ofString "|" = ⟨#[124]⟩ := by decide +kernel
local macro_rules | `(tactic| k_all) => `(tactic| with_reducible assumption)
local macro_rules | `(tactic| walk_at "exec Assign cons ListComp") => `(tactic| (k_here; (rename Fr _ _ _ _ => lF'); first
  | ((with_unfolding_all refine' comp_assignC lF' ?hsw ?hclos ?hcf ?hpc ?hkind ?hnames ?hx ?_ ?hs); (case hsw => with_unfolding_all rfl); (case hclos => with_unfolding_all rfl); (case hcf => (intro _ _; with_unfolding_all rfl)); (case hpc => (intro _; with_unfolding_all rfl)); (case hkind => with_unfolding_all rfl); (case hnames => decide); (case hx => (intro _ _; with_unfolding_all rfl)); (case hs => intro _; with_unfolding_all rfl); k_whole)
  | ((with_unfolding_all refine' comp_assign lF' ?hsw ?hclos ?hcell ?hkind ?hnames ?hx ?_ ?hs); (case hsw => with_unfolding_all rfl); (case hclos => with_unfolding_all rfl); (case hcell => decide); (case hkind => with_unfolding_all rfl); (case hnames => decide); (case hx => with_unfolding_all rfl); (case hs => intro _; with_unfolding_all rfl); k_whole)
  | (refine' wpAny_Assign_Name ?_ ?hs; (case hs => with_unfolding_all rfl))))
local macro_rules | `(tactic| walk_at "eval ListComp") => `(tactic| (k_here; (rename Fr _ _ _ _ => lF'); first
  | ((with_unfolding_all refine' comp_evalC lF' ?hclos ?hcf ?hpc ?hkind ?hnames ?hx ?_ ?hs); (case hclos => with_unfolding_all rfl); (case hcf => (intro _ _; with_unfolding_all rfl)); (case hpc => (intro _; with_unfolding_all rfl)); (case hkind => with_unfolding_all rfl); (case hnames => decide); (case hx => (intro _ _; with_unfolding_all rfl)); (case hs => intro _; with_unfolding_all rfl); k_whole)
  | ((with_unfolding_all refine' comp_eval lF' ?hclos ?hcell ?hkind ?hnames ?hx ?_ ?hs); (case hclos => with_unfolding_all rfl); (case hcell => decide); (case hkind => with_unfolding_all rfl); (case hnames => decide); (case hx => with_unfolding_all rfl); (case hs => intro _; with_unfolding_all rfl); k_whole)))
local macro_rules | `(tactic| walk_at "subscriptTail Name Constant ref int") => `(tactic| (k_dflt (refine' item_M ?N ?m ?a ?b ?x ?_ ?s; (case N => k_asm); (case m => repeat (first | with_reducible assumption | apply List.mem_cons_of_mem)); (case a => decide); (case b => decide); (case x => exact rfl); (case s => with_unfolding_all rfl); k_whole)))
local macro_rules | `(tactic| walk_at "compareOp In str ref") => `(tactic| (k_dflt (refine' in_dictN ?N ?m ?k ?e ?l ?_; (case N => k_asm); (case m => repeat (first | with_reducible assumption | apply List.mem_cons_of_mem)); (case k => k_keys); (case e => exact names_no (by assumption) _ _ _ _); (case l => assumption); k_whole)))
local macro_rules | `(tactic| walk_at "subscriptTail Name Slice ref ref") => `(tactic| (k_here; (with_reducible show wpAny _ _ (subscriptTail _ (PySem.Expr.Slice _ _ none _) (Value.ref _) (Value.ref _)) _ _ _); k_dflt (refine' kmk_slice_lit ?F ?N ?l ?p ?q ?e ?_ ?s ?t ?z; (case F => k_asm); (case N => k_asm); (case l => refine News.isList (by k_asm) (by repeat (first | with_reducible assumption | apply List.mem_cons_of_mem))); (case p => kmk_part); (case q => kmk_part); (case e => exact slice_tail _ _); (case s => with_unfolding_all rfl); (case t => kmk_pure); (case z => exact size_cons (by assumption))); intro D' h' F' N' l1; (try k_lt l1); (try k_sweep)))
local macro_rules | `(tactic| walk_at "call ref") => `(tactic| (refine Stop.go ?_))
local macro_rules | `(tactic| walk_at "compareOp Eq str str") => `(tactic| (first | refine eq_chr amp_is ?_ | refine eq_chr bar_is ?_))
local macro_rules | `(tactic| walk_at "eval Name") => `(tactic| (k_here; k_inBlock; (with_reducible rename Fr _ _ _ _ => kF); k_dflt (refine' nameU_K kF ?k1 ?k2 ?k3 ?k8 ?k9 ?_ ?k4 ?kb ?k5 ?k6 ?k7; (case k4 => rfl); (case kb => rfl); (case k5 => rfl); (case k6 => rfl); (case k7 => decide); (case k1 => k_asm); (case k2 => k_asm); (case k3 => k_is); (case k8 => boot_by_name); (case k9 => decide); k_whole)))
section
local macro_rules | `(tactic| walk_at "subscriptTail Name Name ref int") => `(tactic| (k_dflt (refine' item_M ?N ?m ?a ?b ?x ?_ ?s; (case N => k_asm); (case m => repeat (first | with_reducible assumption | apply List.mem_cons_of_mem)); (case a => omega); (case b => omega); (case x => assumption); (case s => with_unfolding_all rfl); k_whole)))
local macro_rules | `(tactic| walk_at "call builtin:min") => `(tactic| (k_dflt (refine' min_N ?h ?F ?N ?m ?i ?z ?_; (case h => exact rfl); (case F => k_asm); (case N => k_asm); (case m => exact List.mem_cons_self ..); (case i => assumption); (case z => assumption); k_whole); intro h' t tk F' N'; (try k_sweep)))
local macro_rules | `(tactic| walk_at "call builtin:max") => `(tactic| (k_dflt (refine' max_N ?h ?F ?N ?m ?i ?z ?_; (case h => exact rfl); (case F => k_asm); (case N => k_asm); (case m => exact List.mem_cons_self ..); (case i => assumption); (case z => assumption); k_whole); intro h' t tk F' N'; (try k_sweep)))
theorem own_node (w : World) (k : Nat) (l : Addr) (ep : Nat) (c : Nat) (tsg : Tok) (cvs : List Value) (fs : List (List Int → List Int → List Int)) (objs : List (Addr × Obj)) (hsg : Sign c) (hlen : cvs.length = fs.length) (hpos : 0 < cvs.length) (hsm : cvs.length ≤ 10)
    (hc : ∀ (i : Nat) v f, cvs[i]? = some v → fs[i]? = some f → OwnC w k objs v f) :
    OwnC w (k + 20) ((l, W.listOf (.str ⟨#[c]⟩ tsg :: cvs).toArray ep) :: objs) (.ref l) (fun x y => ownN c (fs.map fun f => f x y)) := by
  intro A E s mg mb Q h₀ L₀ m₀ news a ex ey xi yi F N hs hs2 hlo hx hy hxl hyl X T hA hh h
  obtain ⟨hd, dp, fr, gs, un⟩ := A
  cases (show hd = none from hh)
  replace hA : dp + (k + 20) < recursionLimit := hA
  have hA2 : (⟨none, dp, fr, gs, un⟩ : Around).depth < recursionLimit := by show dp < recursionLimit; omega
  obtain ⟨V, hV⟩ : ∃ V, V = (l, W.listOf (.str ⟨#[c]⟩ tsg :: cvs).toArray ep) :: objs ++ nmObjs w.params a ex ey := ⟨_, rfl⟩
  have N0 : News h₀ L₀ s.heap V := news_sub N (fun p hp => by
    rw [hV] at hp
    exact (List.mem_append.mp hp).elim (hs p) (hs2 p))
  have hVl : (l, W.listOf (.str ⟨#[c]⟩ tsg :: cvs).toArray ep) ∈ V := by rw [hV]; exact .head _
  have hVo : ∀ p ∈ objs, p ∈ V := fun p hp => by rw [hV]; exact List.mem_append_left _ (.tail _ hp)
  have hVn : ∀ p ∈ nmObjs w.params a ex ey, p ∈ V := fun p hp => by rw [hV]; exact List.mem_append_right _ hp
  have hVd := hVn _ (.head _)
  (refine' callWC _ ?k0 ?kN ?k1 ?k2 ?k3 ?k4 ?k5 ?k6 ?k7 ?kD ?_ ?c2 ?c3 ?c4; (case k0 => k_asm); (case kN => k_asm); (case k1 => k_asm); (case k2 => k_asm); (case k4 => k_is); (case k5 => k_is); (case k6 => exact BindsTo.of_eq rfl); (case k7 => exact rfl); (case kD => decide +kernel); (case c2 => exact rfl); (case c3 => exact rfl); (case c4 => exact rfl); (case k3 => first | assumption | omega))
  intro g L' h' tk' cells' H' F' N' Y' l' X' T'
  k_fold
  k_cells Y'
  simp only [List.cons_append, List.nil_append] at N'
  have hVc : ∀ p ∈ V, p.1 ≠ L' + 1 := fun p hp => Nat.ne_of_lt (Nat.lt_succ_of_lt (l' p hp))
  have hVc2 : ∀ p ∈ V, p.1 ≠ L' + 1 + 1 := fun p hp => Nat.ne_of_lt (Nat.lt_succ_of_lt (Nat.lt_succ_of_lt (l' p hp)))
  k_steps
  rename_i oP oN dP dN D0 _ FF NN l2
  have z1 := ltN l2.1
  have z2 := ltN l2.2.1
  refine' compAt_list (items := cvs) (src := [(D0, W.listOf cvs.toArray 0), (L' + 1 + 1, oP), (L' + 1, oN)]) ?ahh ?ahl ?ahs ?ahz FF V ?aN (fun i ys nx => (∀ p ∈ V, p ∈ nx) ∧ (∀ p ∈ nx, p.1 ≠ L' + 1) ∧ (∀ p ∈ nx, p.1 ≠ L' + 1 + 1) ∧ RefsAre nx ys ((fs.take i).map fun f => f xi yi) ∧ ys.length = i) ?ah0 ?ahl2 ?aturn ?adone
  case ahh => exact rfl
  case ahl => exact NN.isList (.head _)
  case ahs => exact .inl ⟨_, .head _⟩
  case ahz => rw [sizeLine_eq]; omega
  case aN => exact NN
  case ah0 => exact ⟨fun _ h => h, hVc, hVc2, .nil, rfl⟩
  case ahl2 => rintro i ys nx ⟨_, _, _, _, h⟩; exact h
  case aturn =>
    rintro I C D oL oI i v m₁ ys ep2 nx h2 tk2 E' hi ⟨j1, j2, j3, j4, j5⟩ hnx hI hID hDC hLD F₁ N₁
    k_fold
    have hi2 : i < cvs.length := (List.getElem?_eq_some_iff.mp hi).1
    obtain ⟨f, hfi⟩ : ∃ f, fs[i]? = some f := ⟨fs[i]'(by omega), List.getElem?_eq_getElem _⟩
    have hC := hc i v f hi hfi
    replace N₁ : News g C h2 ((I, oI) :: (L', oL) :: (D, lstObj ys ep2) :: (D0, W.listOf cvs.toArray 0) :: (L' + 1 + 1, oP) :: (L' + 1, oN) :: nx) := N₁
    k_steps
    all_goals (try k_data)
    rename Fr _ _ _ _ => FF
    rename News _ _ _ _ => NN
    unfold Stop
    refine hC _ _ _ _ _ _ _ _ _ _ a ex ey xi yi FF NN (fun p hp => ?_) (fun p hp => ?_) hlo hx hy hxl hyl X' T' ?_ rfl ?_
    · repeat (first | exact j1 _ (hVo p hp) | apply List.mem_cons_of_mem)
    · repeat (first | exact j1 _ (hVn p hp) | apply List.mem_cons_of_mem)
    · dsimp only [Around.deeper]; omega
    intro r rvs re h3 tk3 hri hrl hor F3 N3
    have e5 : (fs.take (i + 1)).map (fun f => f xi yi) = (fs.take i).map (fun f => f xi yi) ++ [f xi yi] := by
      rw [List.take_add_one, hfi]; simp
    rcases hor with hor | hor
    · refine ⟨_, _, _, nx, rfl, F3, fun p hp => N3 p (.tail _ hp), hnx, j1, j2, j3, ?_, by rw [List.length_append, j5]; rfl⟩
      rw [e5]
      exact j4.snoc (j1 _ (hVn _ hor)) hri hrl
    · refine ⟨_, _, _, (r, W.listOf rvs.toArray re) :: nx, rfl, F3, fun p hp => N3 p ?_, fun p hp => ?_, fun p hp => .tail _ (j1 p hp), fun p hp => ?_, fun p hp => ?_, ?_, by rw [List.length_append, j5]; rfl⟩
      · replace hp : p ∈ (I, oI) :: (L', oL) :: (D, lstObj ys ep2) :: (D0, W.listOf cvs.toArray 0) :: (L' + 1 + 1, oP) :: (L' + 1, oN) :: (r, W.listOf rvs.toArray re) :: nx := hp
        simp only [List.cons_append, List.nil_append, List.mem_cons] at hp ⊢
        rcases hp with h | h | h | h | h | h | h | h <;> simp [h]
      · rcases List.mem_cons.mp hp with rfl | hp
        · exact ⟨Ne.symm (hor _ (.head _)), Ne.symm (hor _ (.tail _ (.head _))), Ne.symm (hor _ (.tail _ (.tail _ (.head _))))⟩
        · exact hnx p hp
      · rcases List.mem_cons.mp hp with rfl | hp
        · exact Ne.symm (hor _ (.tail _ (.tail _ (.tail _ (.tail _ (.tail _ (.head _)))))))
        · exact j2 p hp
      · rcases List.mem_cons.mp hp with rfl | hp
        · exact Ne.symm (hor _ (.tail _ (.tail _ (.tail _ (.tail _ (.head _))))))
        · exact j3 p hp
      · rw [e5]
        exact (j4.sub fun p hp => .tail _ hp).snoc (.head _) hri hrl
  case adone =>
    rintro D ys ep2 nx h2 tk2 hp ⟨j1, j2, j3, j4, j5⟩ hD F₁ N₁
    replace N₁ : News g L' h2 ((D, lstObj ys ep2) :: (D0, W.listOf cvs.toArray 0) :: (L' + 1 + 1, oP) :: (L' + 1, oN) :: nx) := N₁
    have e1 : @Ne Nat (L' + 1 + 1) D := hD _ (.tail _ (.head _))
    have e2 : @Ne Nat (L' + 1) D := hD _ (.tail _ (.tail _ (.head _)))
    have hVl2 := j1 _ hVl
    rw [show fs.take cvs.length = fs by rw [hlen]; exact List.take_length] at j4
    try dsimp only
    walk_at "storeName"
    k_steps
    · rename Fr _ _ _ _ => FF
      rename News _ _ _ _ => NN
      have ec : c = 38 := by assumption
      rename Obj => o'
      rename (o'.data = _) => d'
      unfold Stop
      refine' compAt_rangeC (n := 16) (src := (D, lstObj ys ep2) :: (D0, W.listOf cvs.toArray 0) :: (L' + 1 + 1, o') :: (L' + 1, oN) :: nx) ?bhh ?bhr ?bhs ?bhn ?bhz ?bF [] ?bN (fun i zs nx' => nx' = [] ∧ IntsAre zs ((List.range i).map fun k => minL (colF ((fs.map fun f => f xi yi)) k))) ?bh0 ?bhl ?bturn ?bdone
      case bhh => exact rfl
      case bhr => assumption
      case bhs => decide
      case bhn => decide
      case bhz => decide
      case bF => exact FF
      case bN => rw [List.append_nil]; exact NN
      case bh0 => exact ⟨rfl, .nil⟩
      case bhl => rintro i ys nx ⟨_, h⟩; have := h.length; simpa using this
      case bturn =>
        rintro I C D2 kc oL oI oK i t m₁ ys3 ep3 nx3 h3 tk3 E' hi ⟨rfl, jn⟩ hnx hlt hID hDC hCk hLD hoK F₁ N₁
        refine holdQ ?_
        k_fold
        rw [Int.zero_add] at hoK
        rw [List.append_nil] at N₁
        replace N₁ : News g C h3 ((I, oI) :: (kc, oK) :: (L', oL) :: (D2, lstObj ys3 ep3) :: (D, lstObj ys ep2) :: (D0, W.listOf cvs.toArray 0) :: (L' + 1 + 1, o') :: (L' + 1, oN) :: nx) := N₁
        k_steps
        rename Fr _ _ _ _ => FI
        unfold Stop
        refine' compAt_list (items := ys) (src := (I, oI) :: (kc, oK) :: (L', oL) :: (D2, lstObj ys3 ep3) :: (D, lstObj ys ep2) :: (D0, W.listOf cvs.toArray 0) :: (L' + 1 + 1, o') :: (L' + 1, oN) :: nx) ?ghh ?ghl ?ghs ?ghz FI [] ?gN (fun j zs nx' => nx' = [] ∧ IntsAre zs ((colF (fs.map fun f => f xi yi) i).take j) ∧ zs.length = j) ?gh0 ?ghl2 ?gturn ?gdone
        case ghh => exact rfl
        case ghl => exact N₁.isList (.tail _ (.tail _ (.tail _ (.tail _ (.head _)))))
        case ghs => exact .inl ⟨_, .tail _ (.tail _ (.tail _ (.tail _ (.head _))))⟩
        case ghz => rw [sizeLine_eq]; omega
        case gN => rw [List.append_nil]; exact N₁
        case gh0 => exact ⟨rfl, .nil, rfl⟩
        case ghl2 => rintro j ys nx ⟨_, _, h⟩; exact h
        case gturn =>
          rintro I2 C2 D3 oL2 oI2 j v m₂ zs ep4 nx4 h4 tk4 E2 hj ⟨rfl, jz, jl⟩ hnx2 hI2 hID2 hDC2 hLD2 F₂ N₂
          k_fold
          rw [List.append_nil] at N₂
          replace N₂ : News g C2 h4 ((I2, oI2) :: (C, oL2) :: (D3, lstObj zs ep4) :: (I, oI) :: (kc, oK) :: (L', oL) :: (D2, lstObj ys3 ep3) :: (D, lstObj ys ep2) :: (D0, W.listOf cvs.toArray 0) :: (L' + 1 + 1, o') :: (L' + 1, oN) :: nx) := N₂
          obtain ⟨r, vs, lj, epj, rfl, hm, hin, hl16, hlj⟩ := j4.at hj
          obtain ⟨tj, htj⟩ := ints_at hin (i := i) (by omega)
          k_steps
          all_goals (try k_data)
          rename Fr _ _ _ _ => FF3
          rename News _ _ _ _ => NN3
          refine ⟨_, _, _, [], rfl, FF3, by rw [List.append_nil]; exact NN3, List.forall_mem_nil _, rfl, ?_, by rw [List.length_append, jl]; rfl⟩
          rw [List.take_add_one]
          have e9 : (colF (fs.map fun f => f xi yi) i)[j]? = some (lj.getD i 0) := by
            unfold colF; rw [List.getElem?_map, hlj]; rfl
          rw [e9]
          exact ints_snoc jz _ _
        case gdone =>
          rintro D3 zs ep4 nx4 h4 tk4 hp4 ⟨rfl, jz, jl⟩ hD3 F₄ N₄
          have e8 : (colF (fs.map fun f => f xi yi) i).length = ys.length := by unfold colF; rw [List.length_map, List.length_map]; omega
          rw [← e8, List.take_length] at jz
          have e7 : 0 < (colF (fs.map fun f => f xi yi) i).length := by omega
          rw [List.append_nil] at N₄
          k_steps
          rename Fr _ _ _ _ => FF3
          rename News _ _ _ _ => NN3
          unfold Stop
          refine ⟨_, _, _, [], rfl, FF3, by rw [List.append_nil]; exact news_sub NN3 (fun _ h => .tail _ h), List.forall_mem_nil _, rfl, ?_⟩
          rw [List.range_succ, List.map_append]
          exact ints_snoc jn _ _
      case bdone =>
        rintro D3 zs ep3 nx3 h3 tk3 hp3 ⟨rfl, jn⟩ hD3 F₃ N₃
        k_steps
        rename Fr _ _ _ _ => FF3
        rename News _ _ _ _ => NN3
        obtain ⟨q1, q2, q3⟩ := own_end F N N0 H' FF3 NN3 (.head _) (fun p hp => by rw [List.append_nil]; exact .tail _ (.tail _ (.tail _ (.tail _ (.tail _ (j1 p hp)))))) (fun p hp => hD3 p (by rw [List.append_nil]; exact .tail _ (.tail _ (.tail _ (.tail _ (j1 p hp))))))
        have eq9 : ownN c (fs.map fun f => f xi yi) = (List.range 16).map fun k => minL (colF (fs.map fun f => f xi yi) k) := by unfold ownN; rw [if_pos ec]
        exact h D3 zs ep3 _ _ (show IntsAre zs (ownN c (fs.map fun f => f xi yi)) by rw [eq9]; exact jn) (ownN_len _ _) (.inr q1) q2 q3
    · rename Fr _ _ _ _ => FF
      rename News _ _ _ _ => NN
      have ec : c ≠ 38 := by assumption
      rename Obj => o'
      rename (o'.data = _) => d'
      unfold Stop
      refine' compAt_rangeC (n := 16) (src := (D, lstObj ys ep2) :: (D0, W.listOf cvs.toArray 0) :: (L' + 1 + 1, o') :: (L' + 1, oN) :: nx) ?bhh ?bhr ?bhs ?bhn ?bhz ?bF [] ?bN (fun i zs nx' => nx' = [] ∧ IntsAre zs ((List.range i).map fun k => maxL (colF ((fs.map fun f => f xi yi)) k))) ?bh0 ?bhl ?bturn ?bdone
      case bhh => exact rfl
      case bhr => assumption
      case bhs => decide
      case bhn => decide
      case bhz => decide
      case bF => exact FF
      case bN => rw [List.append_nil]; exact NN
      case bh0 => exact ⟨rfl, .nil⟩
      case bhl => rintro i ys nx ⟨_, h⟩; have := h.length; simpa using this
      case bturn =>
        rintro I C D2 kc oL oI oK i t m₁ ys3 ep3 nx3 h3 tk3 E' hi ⟨rfl, jn⟩ hnx hlt hID hDC hCk hLD hoK F₁ N₁
        refine holdQ ?_
        k_fold
        rw [Int.zero_add] at hoK
        rw [List.append_nil] at N₁
        replace N₁ : News g C h3 ((I, oI) :: (kc, oK) :: (L', oL) :: (D2, lstObj ys3 ep3) :: (D, lstObj ys ep2) :: (D0, W.listOf cvs.toArray 0) :: (L' + 1 + 1, o') :: (L' + 1, oN) :: nx) := N₁
        k_steps
        rename Fr _ _ _ _ => FI
        unfold Stop
        refine' compAt_list (items := ys) (src := (I, oI) :: (kc, oK) :: (L', oL) :: (D2, lstObj ys3 ep3) :: (D, lstObj ys ep2) :: (D0, W.listOf cvs.toArray 0) :: (L' + 1 + 1, o') :: (L' + 1, oN) :: nx) ?ghh ?ghl ?ghs ?ghz FI [] ?gN (fun j zs nx' => nx' = [] ∧ IntsAre zs ((colF (fs.map fun f => f xi yi) i).take j) ∧ zs.length = j) ?gh0 ?ghl2 ?gturn ?gdone
        case ghh => exact rfl
        case ghl => exact N₁.isList (.tail _ (.tail _ (.tail _ (.tail _ (.head _)))))
        case ghs => exact .inl ⟨_, .tail _ (.tail _ (.tail _ (.tail _ (.head _))))⟩
        case ghz => rw [sizeLine_eq]; omega
        case gN => rw [List.append_nil]; exact N₁
        case gh0 => exact ⟨rfl, .nil, rfl⟩
        case ghl2 => rintro j ys nx ⟨_, _, h⟩; exact h
        case gturn =>
          rintro I2 C2 D3 oL2 oI2 j v m₂ zs ep4 nx4 h4 tk4 E2 hj ⟨rfl, jz, jl⟩ hnx2 hI2 hID2 hDC2 hLD2 F₂ N₂
          k_fold
          rw [List.append_nil] at N₂
          replace N₂ : News g C2 h4 ((I2, oI2) :: (C, oL2) :: (D3, lstObj zs ep4) :: (I, oI) :: (kc, oK) :: (L', oL) :: (D2, lstObj ys3 ep3) :: (D, lstObj ys ep2) :: (D0, W.listOf cvs.toArray 0) :: (L' + 1 + 1, o') :: (L' + 1, oN) :: nx) := N₂
          obtain ⟨r, vs, lj, epj, rfl, hm, hin, hl16, hlj⟩ := j4.at hj
          obtain ⟨tj, htj⟩ := ints_at hin (i := i) (by omega)
          k_steps
          all_goals (try k_data)
          rename Fr _ _ _ _ => FF3
          rename News _ _ _ _ => NN3
          refine ⟨_, _, _, [], rfl, FF3, by rw [List.append_nil]; exact NN3, List.forall_mem_nil _, rfl, ?_, by rw [List.length_append, jl]; rfl⟩
          rw [List.take_add_one]
          have e9 : (colF (fs.map fun f => f xi yi) i)[j]? = some (lj.getD i 0) := by
            unfold colF; rw [List.getElem?_map, hlj]; rfl
          rw [e9]
          exact ints_snoc jz _ _
        case gdone =>
          rintro D3 zs ep4 nx4 h4 tk4 hp4 ⟨rfl, jz, jl⟩ hD3 F₄ N₄
          have e8 : (colF (fs.map fun f => f xi yi) i).length = ys.length := by unfold colF; rw [List.length_map, List.length_map]; omega
          rw [← e8, List.take_length] at jz
          have e7 : 0 < (colF (fs.map fun f => f xi yi) i).length := by omega
          rw [List.append_nil] at N₄
          k_steps
          rename Fr _ _ _ _ => FF3
          rename News _ _ _ _ => NN3
          unfold Stop
          refine ⟨_, _, _, [], rfl, FF3, by rw [List.append_nil]; exact news_sub NN3 (fun _ h => .tail _ h), List.forall_mem_nil _, rfl, ?_⟩
          rw [List.range_succ, List.map_append]
          exact ints_snoc jn _ _
      case bdone =>
        rintro D3 zs ep3 nx3 h3 tk3 hp3 ⟨rfl, jn⟩ hD3 C oC E' hC F₃ N₃
        k_fold
        rw [List.append_nil] at N₃ hC hD3
        k_steps
        rename Fr _ _ _ _ => FF3
        rename News _ _ _ _ => NN3
        refine AsgPost.intro FF3 NN3 hC ?_
        intro h4 tk4 F4 N4
        k_steps
        · have eb : c = 124 := by assumption
          obtain ⟨q1, q2, q3⟩ := own_end F N N0 H' F4 N4 (.head _) (fun p hp => .tail _ (.tail _ (.tail _ (.tail _ (.tail _ (j1 p hp)))))) (fun p hp => hD3 p (.tail _ (.tail _ (.tail _ (.tail _ (j1 p hp))))))
          have eq9 : ownN c (fs.map fun f => f xi yi) = (List.range 16).map fun k => maxL (colF (fs.map fun f => f xi yi) k) := by unfold ownN; rw [if_neg ec, if_pos eb]
          exact h D3 zs ep3 _ _ (show IntsAre zs (ownN c (fs.map fun f => f xi yi)) by rw [eq9]; exact jn) (ownN_len _ _) (.inr q1) q2 q3
        have eb : c ≠ 124 := by assumption
        rename Fr _ _ _ _ => FF4
        have e16 : zs.length = 16 := by have := jn.length; simpa using this
        unfold Stop
        refine' compAt_list (items := zs) (src := (D3, lstObj zs ep3) :: (D, lstObj ys ep2) :: (D0, W.listOf cvs.toArray 0) :: (L' + 1 + 1, o') :: (L' + 1, oN) :: nx) ?uhh ?uhl ?uhs ?uhz FF4 [] ?uN (fun j us nx' => nx' = [] ∧ IntsAre us ((((List.range 16).map fun k => maxL (colF (fs.map fun f => f xi yi) k)).map fun x => 3 - x).take j) ∧ us.length = j) ?uh0 ?uhl2 ?uturn ?udone
        case uhh => exact rfl
        case uhl => exact N4.isList (.head _)
        case uhs => exact .inl ⟨_, .head _⟩
        case uhz => rw [sizeLine_eq]; omega
        case uN => rw [List.append_nil]; exact N4
        case uh0 => exact ⟨rfl, .nil, rfl⟩
        case uhl2 => rintro j ys nx ⟨_, _, h⟩; exact h
        case uturn =>
          rintro I2 C2 D4 oL2 oI2 j v m₂ us ep4 nx4 h5 tk5 E2 hj ⟨rfl, ju, jl⟩ hnx2 hI2 hID2 hDC2 hLD2 F₂ N₂
          obtain ⟨x9, t9, rfl, hx9⟩ := ints_get jn hj
          k_fold
          rw [List.append_nil] at N₂
          k_steps
          all_goals (try k_data)
          rename Fr _ _ _ _ => FF5
          rename News _ _ _ _ => NN5
          refine ⟨_, _, _, [], rfl, FF5, by rw [List.append_nil]; exact NN5, List.forall_mem_nil _, rfl, ?_, by rw [List.length_append, jl]; rfl⟩
          have e10 : (((List.range 16).map fun k => maxL (colF (fs.map fun f => f xi yi) k)).map fun x => 3 - x)[j]? = some (3 - x9) := by rw [List.getElem?_map, hx9]; rfl
          rw [List.take_add_one, e10]
          exact ints_snoc ju _ _
        case udone =>
          rintro D4 us ep4 nx4 h5 tk5 hp5 ⟨rfl, ju, jl⟩ hD4 F₅ N₅
          rw [List.append_nil] at N₅ hD4
          rw [List.take_of_length_le (by rw [List.length_map, List.length_map, List.length_range]; omega)] at ju
          k_steps
          rename Fr _ _ _ _ => FF5
          rename News _ _ _ _ => NN5
          obtain ⟨q1, q2, q3⟩ := own_end F N N0 H' FF5 NN5 (.head _) (fun p hp => .tail _ (.tail _ (.tail _ (.tail _ (.tail _ (.tail _ (j1 p hp))))))) (fun p hp => hD4 p (.tail _ (.tail _ (.tail _ (.tail _ (.tail _ (j1 p hp)))))))
          have eq9 : ownN c (fs.map fun f => f xi yi) = ((List.range 16).map fun k => maxL (colF (fs.map fun f => f xi yi) k)).map fun x => 3 - x := by unfold ownN; rw [if_neg ec, if_neg eb]
          exact h D4 us ep4 _ _ (show IntsAre us (ownN c (fs.map fun f => f xi yi)) by rw [eq9]; exact ju) (ownN_len _ _) (.inr q1) q2 q3


end
example : True := by first | walk1 | trivial
theorem PageC.wk {w : World} {k k' : Nat} {objs objs' : List (Addr × Obj)} {v : Value} {f : Str → Str → List Str} (h : PageC w k objs v f) (hk : k ≤ k') (ho : ∀ p ∈ objs, p ∈ objs') : PageC w k' objs' v f :=
  fun A E s mg mb Q h₀ L₀ m₀ news lead step tl ts F N hs X T hA hh hz q => h A E s mg mb Q h₀ L₀ m₀ news lead step tl ts F N (fun p hp => hs p (ho p hp)) X T (by omega) hh (Nat.le_trans (Nat.add_le_add_left (Nat.mul_le_mul_right _ hk) _) hz) q
theorem OwnC.wk {w : World} {k k' : Nat} {objs objs' : List (Addr × Obj)} {v : Value} {f : List Int → List Int → List Int} (h : OwnC w k objs v f) (hk : k ≤ k') (ho : ∀ p ∈ objs, p ∈ objs') : OwnC w k' objs' v f :=
  fun A E s mg mb Q h₀ L₀ m₀ news a ex ey xi yi F N hs hs2 hlo hx hy hxl hyl X T hA hh q => h A E s mg mb Q h₀ L₀ m₀ news a ex ey xi yi F N (fun p hp => hs p (ho p hp)) hs2 hlo hx hy hxl hyl X T (by omega) hh q
def leafP (c : Nat) : Str → Str → List Str := fun lead _ => [lead ++ ⟨#[c]⟩]
def nodeP (c : Nat) (fs : List (Str → Str → List Str)) : Str → Str → List Str := fun lead step => (lead ++ ⟨#[c]⟩) :: fs.flatMap (fun f => f (lead ++ step) step)
def leafO (c : Nat) : List Int → List Int → List Int := fun x y => if c = 120 then x else y
def nodeO (c : Nat) (fs : List (List Int → List Int → List Int)) : List Int → List Int → List Int := fun x y => ownN c (fs.map fun f => f x y)
def midC (d : Int) : List Nat := if d = 0 then [120] else if d = 1 then [121] else []
def pageT (s0 s1 s2 a b c d : Nat) (m : List Nat) : Str → Str → List Str := nodeP s0 (nodeP s1 [leafP a, leafP b] :: (m.map leafP ++ [nodeP s2 [leafP c, leafP d]]))
def ownT (s0 s1 s2 a b c d : Nat) (m : List Nat) : List Int → List Int → List Int := nodeO s0 (nodeO s1 [leafO a, leafO b] :: (m.map leafO ++ [nodeO s2 [leafO c, leafO d]]))
theorem midV_is (d : Int) (t : Tok) : midV d t = (midC d).map fun c => Value.str ⟨#[c]⟩ t := by
  unfold midV midC
  split <;> (try split) <;> rfl
def XY (c : Nat) : Prop := c = 120 ∨ c = 121
theorem nmc_xy (d : Int) : XY (nmc d) := by unfold nmc XY; split <;> simp
theorem sgc_sign (d : Int) : Sign (sgc d) := by unfold sgc Sign; split <;> (try split) <;> simp
theorem midC_xy (d : Int) : ∀ c ∈ midC d, XY c := by unfold midC; split <;> (try split) <;> simp [XY]
theorem midC_len (d : Int) : (midC d).length ≤ 1 := by unfold midC; split <;> (try split) <;> simp
theorem ownLeaf (w : World) (c : Nat) (hc : XY c) (t : Tok) : OwnC w 10 [] (.str ⟨#[c]⟩ t) (leafO c) := by
  rcases hc with rfl | rfl
  · have := own_x w t
    rw [x_is] at this
    exact this
  · have := own_y w t
    rw [y_is] at this
    exact this
theorem two_at {α : Type} {β : Type} {C : α → β → Prop} {a b : α} {f g : β} (h1 : C a f) (h2 : C b g) : ∀ (i : Nat) v k, [a, b][i]? = some v → [f, g][i]? = some k → C v k := by
  intro i v k e1 e2
  match i with
  | 0 => cases e1; cases e2; exact h1
  | 1 => cases e1; cases e2; exact h2
  | i + 2 => cases e1
section
variable {w : World} {n : Int} {r c1 c2 : Addr} {t0 t1 t2 u0 u1 u2 u3 tm : Tok}
theorem list_at {α β γ : Type} {C : α → β → Prop} {a b : α} {f g : β} {l : List γ} {p : γ → α} {q : γ → β} (h1 : C a f) (h2 : C b g) (hl : ∀ x ∈ l, C (p x) (q x)) : ∀ (i : Nat) v k, (a :: (l.map p ++ [b]))[i]? = some v → (f :: (l.map q ++ [g]))[i]? = some k → C v k := by
  intro i v k e1 e2
  match i with
  | 0 => cases e1; cases e2; exact h1
  | i + 1 =>
    rw [List.getElem?_cons_succ] at e1 e2
    by_cases hi : i < l.length
    · rw [List.getElem?_append_left (by simpa using hi), List.getElem?_map] at e1 e2
      rw [List.getElem?_eq_getElem hi] at e1 e2
      cases e1; cases e2
      exact hl _ (List.getElem_mem hi)
    · rw [List.getElem?_append_right (by simpa using hi), List.length_map] at e1 e2
      match h : i - l.length with
      | 0 => rw [h] at e1 e2; cases e1; cases e2; exact h2
      | j + 1 => rw [h] at e1; cases e1
theorem tree_page : PageC w 40 (treeObjs n r c1 c2 t0 t1 t2 u0 u1 u2 u3 tm) (.ref r) (pageT (sgc (dg3 n 0)) (sgc (dg3 n 1)) (sgc (dg3 n 2)) (nmc (dg2 n 0)) (nmc (dg2 n 1)) (nmc (dg2 n 2)) (nmc (dg2 n 3)) (midC (dgm n))) := by
  have k1 : PageC w 20 [(c1, W.listOf [.str (sgS n 1) t1, .str (nmS n 0) u0, .str (nmS n 1) u1].toArray 0)] (.ref c1) (nodeP (sgc (dg3 n 1)) [leafP (nmc (dg2 n 0)), leafP (nmc (dg2 n 1))]) :=
    page_node w 10 c1 0 (sgS n 1) t1 [.str (nmS n 0) u0, .str (nmS n 1) u1] [leafP (nmc (dg2 n 0)), leafP (nmc (dg2 n 1))] [] rfl (by show 2 ≤ 10; decide) (by show 1 ≤ 10; decide) (fun x y f hf => by
      rcases List.mem_cons.mp hf with rfl | hf
      · show 1 ≤ 100; decide
      · rw [List.mem_singleton.mp hf]; show 1 ≤ 100; decide) (two_at (C := fun v f => PageC w 10 [] v f) (page_leaf w _ _) (page_leaf w _ _))
  have k2 : PageC w 20 [(c2, W.listOf [.str (sgS n 2) t2, .str (nmS n 2) u2, .str (nmS n 3) u3].toArray 0)] (.ref c2) (nodeP (sgc (dg3 n 2)) [leafP (nmc (dg2 n 2)), leafP (nmc (dg2 n 3))]) :=
    page_node w 10 c2 0 (sgS n 2) t2 [.str (nmS n 2) u2, .str (nmS n 3) u3] [leafP (nmc (dg2 n 2)), leafP (nmc (dg2 n 3))] [] rfl (by show 2 ≤ 10; decide) (by show 1 ≤ 10; decide) (fun x y f hf => by
      rcases List.mem_cons.mp hf with rfl | hf
      · show 1 ≤ 100; decide
      · rw [List.mem_singleton.mp hf]; show 1 ≤ 100; decide) (two_at (C := fun v f => PageC w 10 [] v f) (page_leaf w _ _) (page_leaf w _ _))
  have hm := midC_len (dgm n)
  unfold treeObjs
  rw [midV_is]
  refine (page_node w 20 r 0 (sgS n 0) t0 (.ref c1 :: ((midC (dgm n)).map (fun c => Value.str ⟨#[c]⟩ tm) ++ [.ref c2])) (nodeP (sgc (dg3 n 1)) [leafP (nmc (dg2 n 0)), leafP (nmc (dg2 n 1))] :: ((midC (dgm n)).map leafP ++ [nodeP (sgc (dg3 n 2)) [leafP (nmc (dg2 n 2)), leafP (nmc (dg2 n 3))]])) [(c1, W.listOf [.str (sgS n 1) t1, .str (nmS n 0) u0, .str (nmS n 1) u1].toArray 0), (c2, W.listOf [.str (sgS n 2) t2, .str (nmS n 2) u2, .str (nmS n 3) u3].toArray 0)] ?_ ?_ (by show 1 ≤ 10; decide) ?_ (list_at (C := fun v f => PageC w 20 _ v f) (k1.wk (Nat.le_refl _) fun p hp => by rw [List.mem_singleton.mp hp]; exact .head _) (k2.wk (Nat.le_refl _) fun p hp => by rw [List.mem_singleton.mp hp]; exact .tail _ (.head _)) fun c _ => (page_leaf w c tm).wk (by decide) fun p hp => by cases hp)).wk (by decide) fun p hp => hp
  · simp
  · simp; omega
  · intro x y f hf
    rcases List.mem_cons.mp hf with rfl | hf
    · show 3 ≤ 100; decide
    · rcases List.mem_append.mp hf with hf | hf
      · obtain ⟨c, _, rfl⟩ := List.mem_map.mp hf
        show 1 ≤ 100; decide
      · rw [List.mem_singleton.mp hf]; show 3 ≤ 100; decide
theorem tree_own : OwnC w 60 (treeObjs n r c1 c2 t0 t1 t2 u0 u1 u2 u3 tm) (.ref r) (ownT (sgc (dg3 n 0)) (sgc (dg3 n 1)) (sgc (dg3 n 2)) (nmc (dg2 n 0)) (nmc (dg2 n 1)) (nmc (dg2 n 2)) (nmc (dg2 n 3)) (midC (dgm n))) := by
  have k1 : OwnC w 30 [(c1, W.listOf [.str (sgS n 1) t1, .str (nmS n 0) u0, .str (nmS n 1) u1].toArray 0)] (.ref c1) (nodeO (sgc (dg3 n 1)) [leafO (nmc (dg2 n 0)), leafO (nmc (dg2 n 1))]) :=
    own_node w 10 c1 0 (sgc (dg3 n 1)) t1 [.str (nmS n 0) u0, .str (nmS n 1) u1] [leafO (nmc (dg2 n 0)), leafO (nmc (dg2 n 1))] [] (sgc_sign _) rfl (by show 0 < 2; decide) (by show 2 ≤ 10; decide) (two_at (C := fun v f => OwnC w 10 [] v f) (ownLeaf w _ (nmc_xy _) _) (ownLeaf w _ (nmc_xy _) _))
  have k2 : OwnC w 30 [(c2, W.listOf [.str (sgS n 2) t2, .str (nmS n 2) u2, .str (nmS n 3) u3].toArray 0)] (.ref c2) (nodeO (sgc (dg3 n 2)) [leafO (nmc (dg2 n 2)), leafO (nmc (dg2 n 3))]) :=
    own_node w 10 c2 0 (sgc (dg3 n 2)) t2 [.str (nmS n 2) u2, .str (nmS n 3) u3] [leafO (nmc (dg2 n 2)), leafO (nmc (dg2 n 3))] [] (sgc_sign _) rfl (by show 0 < 2; decide) (by show 2 ≤ 10; decide) (two_at (C := fun v f => OwnC w 10 [] v f) (ownLeaf w _ (nmc_xy _) _) (ownLeaf w _ (nmc_xy _) _))
  have hm := midC_len (dgm n)
  unfold treeObjs
  rw [midV_is]
  refine (own_node w 30 r 0 (sgc (dg3 n 0)) t0 (.ref c1 :: ((midC (dgm n)).map (fun c => Value.str ⟨#[c]⟩ tm) ++ [.ref c2])) (nodeO (sgc (dg3 n 1)) [leafO (nmc (dg2 n 0)), leafO (nmc (dg2 n 1))] :: ((midC (dgm n)).map leafO ++ [nodeO (sgc (dg3 n 2)) [leafO (nmc (dg2 n 2)), leafO (nmc (dg2 n 3))]])) [(c1, W.listOf [.str (sgS n 1) t1, .str (nmS n 0) u0, .str (nmS n 1) u1].toArray 0), (c2, W.listOf [.str (sgS n 2) t2, .str (nmS n 2) u2, .str (nmS n 3) u3].toArray 0)] (sgc_sign _) ?_ ?_ ?_ (list_at (C := fun v f => OwnC w 30 _ v f) (k1.wk (Nat.le_refl _) fun p hp => by rw [List.mem_singleton.mp hp]; exact .head _) (k2.wk (Nat.le_refl _) fun p hp => by rw [List.mem_singleton.mp hp]; exact .tail _ (.head _)) fun c hc => (ownLeaf w c (midC_xy _ c hc) tm).wk (by decide) fun p hp => by cases hp)).wk (by decide) ?_
  · simp
  · simp
  · simp; omega
  · intro p hp; exact hp
end
def fourA : List Str := [Str.ofString "", Str.ofString " ", Str.ofString "\t", Str.ofString " \t"]
def fourB : List Str := [Str.ofString " ", Str.ofString "\t", Str.ofString "  ", Str.ofString " \t"]
def fiveC : List Nat := [124, 38, 126, 120, 121]
def rowW (l : Str) (c : Nat) : WsD := (scan (l ++ (⟨#[c]⟩ : Str)).cps.toList scan0).d
def rowOk (l : Str) : Bool := fiveC.all fun c => decide ((l ++ (⟨#[c]⟩ : Str)).cps.size ≤ 100) && decide (Txt.slice (l ++ (⟨#[c]⟩ : Str)) (some (rowW l c).n) none = ⟨#[c]⟩)
theorem rows_ok : (fourA.all fun l => fourB.all fun t => rowOk l && rowOk (l ++ t) && rowOk (l ++ t ++ t)) = true := by decide +kernel
def lessOk (d0 d1 d2 : WsD) : Bool := !lessF d2 d2 && !lessF d2 d1 && !lessF d1 d1 && lessF d1 d2 && lessF d0 d1
theorem less_ok : (fourA.all fun l => fourB.all fun t => lessOk (rowW l 120) (rowW (l ++ t) 120) (rowW (l ++ t ++ t) 120)) = true := by decide +kernel
deriving instance DecidableEq for WsD
theorem row_same : (fourA.all fun l => fourB.all fun t => fiveC.all fun c => decide (rowW l c = rowW l 120) && decide (rowW (l ++ t) c = rowW (l ++ t) 120) && decide (rowW (l ++ t ++ t) c = rowW (l ++ t ++ t) 120)) = true := by decide +kernel
def turnD (st : List WsD × List (Int × Int)) (r : WsD × Nat) : List WsD × List (Int × Int) := (r.1 :: (popW r.1 st.1).1, st.2 ++ [(numC r.2, ((popW r.1 st.1).2 : Int))])
theorem readF_is (rows : List (Str × Nat)) : readF rows = ((rows.map fun r => ((scan r.1.cps.toList scan0).d, r.2)).foldl turnD ([], [])).2 := by
  unfold readF
  rw [List.foldl_map]
  rfl
def rowsT (s0 s1 s2 a b c d : Nat) (m : List Nat) (l t : Str) : List (Str × Nat) :=
  (l ++ ⟨#[s0]⟩, s0) :: (l ++ t ++ ⟨#[s1]⟩, s1) :: (l ++ t ++ t ++ ⟨#[a]⟩, a) :: (l ++ t ++ t ++ ⟨#[b]⟩, b) :: (m.map (fun k => (l ++ t ++ ⟨#[k]⟩, k)) ++ [(l ++ t ++ ⟨#[s2]⟩, s2), (l ++ t ++ t ++ ⟨#[c]⟩, c), (l ++ t ++ t ++ ⟨#[d]⟩, d)])
theorem flat_leaf (m : List Nat) (x y : Str) : (m.map leafP).flatMap (fun f => f x y) = m.map fun k => x ++ (⟨#[k]⟩ : Str) := by
  induction m with
  | nil => rfl
  | cons k r ih => rw [List.map_cons, List.flatMap_cons, ih]; rfl
theorem rowsT_page (s0 s1 s2 a b c d : Nat) (m : List Nat) (l t : Str) : (rowsT s0 s1 s2 a b c d m l t).map (·.1) = pageT s0 s1 s2 a b c d m l t := by
  unfold rowsT pageT nodeP
  simp only [List.map_cons, List.map_append, List.map_map, List.map_nil, List.flatMap_cons, List.flatMap_append, List.flatMap_nil, flat_leaf, List.append_nil, leafP, List.cons_append, List.nil_append]
  rfl
def stepsT (s0 s1 s2 a b c d : Nat) (m : List Nat) : List (Int × Int) :=
  (numC d, 0) :: (numC c, 0) :: (numC s2, 2) :: (m.map (fun k => (numC k, (0 : Int))) ++ [(numC b, (0 : Int)), (numC a, 0), (numC s1, 2), (numC s0, ((2 + m.length : Nat) : Int))])
theorem steps_of {d0 d1 d2 : WsD} (h : lessOk d0 d1 d2 = true) (s0 s1 s2 a b c d : Nat) (m : List Nat) (hm : m.length ≤ 1) :
    (((d2, d) :: (d2, c) :: (d1, s2) :: (m.map (fun k => (d1, k)) ++ [(d2, b), (d2, a), (d1, s1), (d0, s0)])).foldl turnD ([], [])).2 = stepsT s0 s1 s2 a b c d m := by
  unfold lessOk at h
  simp only [Bool.and_eq_true, Bool.not_eq_true'] at h
  obtain ⟨⟨⟨⟨h1, h2⟩, h3⟩, h4⟩, h5⟩ := h
  match m, hm with
  | [], _ => simp [turnD, popW, stepsT, h1, h2, h3, h4, h5]
  | [k], _ => simp [turnD, popW, stepsT, h1, h2, h3, h4, h5]
  | _ :: _ :: _, hm => simp at hm
theorem five_mem {c : Nat} (h : Five c) : c ∈ fiveC := by rcases h with rfl | rfl | rfl | rfl | rfl <;> decide
theorem tabs {l t : Str} (hl : l ∈ fourA) (ht : t ∈ fourB) : (∀ c, Five c → rowW l c = rowW l 120 ∧ rowW (l ++ t) c = rowW (l ++ t) 120 ∧ rowW (l ++ t ++ t) c = rowW (l ++ t ++ t) 120) ∧ lessOk (rowW l 120) (rowW (l ++ t) 120) (rowW (l ++ t ++ t) 120) = true ∧
    (∀ x, x = l ∨ x = l ++ t ∨ x = l ++ t ++ t → ∀ c, Five c → (x ++ (⟨#[c]⟩ : Str)).cps.size ≤ 100 ∧ Txt.slice (x ++ (⟨#[c]⟩ : Str)) (some (rowW x c).n) none = ⟨#[c]⟩) := by
  have r1 := row_same
  have r2 := less_ok
  have r3 := rows_ok
  simp only [List.all_eq_true] at r1 r2 r3
  refine ⟨fun c hc => ?_, r2 l hl t ht, fun x hx c hc => ?_⟩
  · have := r1 l hl t ht c (five_mem hc)
    simp only [Bool.and_eq_true, decide_eq_true_eq] at this
    exact ⟨this.1.1, this.1.2, this.2⟩
  · have q := r3 l hl t ht
    simp only [Bool.and_eq_true] at q
    have qx : rowOk x = true := by rcases hx with rfl | rfl | rfl <;> simp [q]
    unfold rowOk at qx
    rw [List.all_eq_true] at qx
    have := qx c (five_mem hc)
    simpa only [Bool.and_eq_true, decide_eq_true_eq] using this
section
variable {s0 s1 s2 a b c d : Nat} {m : List Nat} {l t : Str} (hl : l ∈ fourA) (ht : t ∈ fourB) (h0 : Five s0) (h1 : Five s1) (h2 : Five s2) (ha : Five a) (hb : Five b) (hc : Five c) (hd : Five d) (hm : ∀ k ∈ m, Five k) (hml : m.length ≤ 1)
include hl ht h0 h1 h2 ha hb hc hd hm
theorem rows_hyp : ∀ p ∈ rowsT s0 s1 s2 a b c d m l t, p.1.cps.size ≤ 100 ∧ Txt.slice p.1 (some (scan p.1.cps.toList scan0).d.n) none = ⟨#[p.2]⟩ ∧ Five p.2 := by
  obtain ⟨_, _, q⟩ := tabs hl ht
  intro p hp
  have key : ∀ x c, (x = l ∨ x = l ++ t ∨ x = l ++ t ++ t) → Five c → p = (x ++ (⟨#[c]⟩ : Str), c) → p.1.cps.size ≤ 100 ∧ Txt.slice p.1 (some (scan p.1.cps.toList scan0).d.n) none = ⟨#[p.2]⟩ ∧ Five p.2 := by
    rintro x c hx hc rfl
    exact ⟨(q x hx c hc).1, (q x hx c hc).2, hc⟩
  unfold rowsT at hp
  simp only [List.mem_cons, List.mem_append, List.mem_map, List.not_mem_nil, or_false] at hp
  rcases hp with h | h | h | h | ⟨k, hk, h⟩ | h | h | h
  · exact key _ _ (.inl rfl) h0 h
  · exact key _ _ (.inr (.inl rfl)) h1 h
  · exact key _ _ (.inr (.inr rfl)) ha h
  · exact key _ _ (.inr (.inr rfl)) hb h
  · exact key _ _ (.inr (.inl rfl)) (hm k hk) h.symm
  · exact key _ _ (.inr (.inl rfl)) h2 h
  · exact key _ _ (.inr (.inr rfl)) hc h
  · exact key _ _ (.inr (.inr rfl)) hd h
include hml
theorem read_tree : readF (rowsT s0 s1 s2 a b c d m l t).reverse = stepsT s0 s1 s2 a b c d m := by
  obtain ⟨q, q2, _⟩ := tabs hl ht
  rw [readF_is, ← steps_of q2 s0 s1 s2 a b c d m hml]
  congr 2
  unfold rowsT
  have em : ((m.map fun k => (l ++ t ++ (⟨#[k]⟩ : Str), k)).reverse.map fun r : Str × Nat => ((scan r.1.cps.toList scan0).d, r.2)) = m.map fun k => (rowW (l ++ t) 120, k) := by
    match m, hml with
    | [], _ => rfl
    | [k], _ => show [(rowW (l ++ t) k, k)] = _; rw [(q k (hm k (.head _))).2.1]; rfl
    | _ :: _ :: _, h => simp at h
  simp only [List.reverse_cons, List.reverse_append, List.map_append, List.append_assoc, List.cons_append, List.nil_append, List.map_cons, List.map_nil, List.reverse_nil, em]
  rw [show (scan (l ++ t ++ t ++ (⟨#[d]⟩ : Str)).cps.toList scan0).d = rowW (l ++ t ++ t) 120 from (q d hd).2.2, show (scan (l ++ t ++ t ++ (⟨#[c]⟩ : Str)).cps.toList scan0).d = rowW (l ++ t ++ t) 120 from (q c hc).2.2,
    show (scan (l ++ t ++ (⟨#[s2]⟩ : Str)).cps.toList scan0).d = rowW (l ++ t) 120 from (q s2 h2).2.1, show (scan (l ++ t ++ t ++ (⟨#[b]⟩ : Str)).cps.toList scan0).d = rowW (l ++ t ++ t) 120 from (q b hb).2.2,
    show (scan (l ++ t ++ t ++ (⟨#[a]⟩ : Str)).cps.toList scan0).d = rowW (l ++ t ++ t) 120 from (q a ha).2.2, show (scan (l ++ t ++ (⟨#[s1]⟩ : Str)).cps.toList scan0).d = rowW (l ++ t) 120 from (q s1 h1).2.1,
    show (scan (l ++ (⟨#[s0]⟩ : Str)).cps.toList scan0).d = rowW l 120 from (q s0 h0).1]
end
abbrev hf : Nm := .f 0x3FE0000000000000
def L5 : List Nm := [.i 0, .i 1, .f 0, hf, .f 0x3FF0000000000000]
def lv (v : Nm) : Int := if v = .i 0 ∨ v = .f 0 then 0 else if v = hf then 1 else 2
def opF (top : Int) (s : Nat) (x y z : Int) : Int := if s = 38 then min x (min y z) else if s = 124 then max x (max y z) else top - max x (max y z)
def signs : List Nat := [124, 38, 126]
def nodeOk (s : Nat) (r g b : Nm) : Bool := match nodeN (numC s) r g b with
  | some v => decide (v ∈ L5) && decide (lv v = opF 2 s (lv r) (lv g) (lv b))
  | none => false
theorem node_ok : (signs.all fun s => L5.all fun r => L5.all fun g => L5.all fun b => nodeOk s r g b) = true := by decide +kernel
def sumOk (v u : Nm) : Bool := match (Nm.mul (.i 2) v).bind fun d => Nm.add d u with
  | some r => lv u == 1 || Nm.eq r (.i (lv v + lv u / 2))
  | none => false
theorem sum_ok : (L5.all fun v => L5.all fun u => sumOk v u) = true := by decide +kernel
def gT (top : Int) (s0 s1 s2 a b c d : Nat) (m : List Nat) (X Y : Int) : Int :=
  let lf := fun k : Nat => if k = 120 then X else Y
  match m with
  | k :: _ => opF top s0 (opF top s1 (lf a) (lf b) (lf b)) (lf k) (opF top s2 (lf c) (lf d) (lf d))
  | [] => opF top s0 (opF top s1 (lf a) (lf b) (lf b)) (opF top s2 (lf c) (lf d) (lf d)) (opF top s2 (lf c) (lf d) (lf d))
theorem sign_mem {s : Nat} (h : Sign s) : s ∈ signs := by rcases h with rfl | rfl | rfl <;> decide
theorem node_is {s : Nat} {r g b : Nm} (hs : Sign s) (hr : r ∈ L5) (hg : g ∈ L5) (hb : b ∈ L5) : ∃ v, v ∈ L5 ∧ nodeN (numC s) r g b = some v ∧ lv v = opF 2 s (lv r) (lv g) (lv b) := by
  have q := node_ok
  simp only [List.all_eq_true] at q
  have := q s (sign_mem hs) r hr g hg b hb
  unfold nodeOk at this
  split at this
  · rename_i v e
    simp only [Bool.and_eq_true, decide_eq_true_eq] at this
    exact ⟨v, this.1, e, this.2⟩
  · cases this
theorem numC_lt {s : Nat} (hs : Sign s) : ¬ numC s ≥ 256 := by rcases hs with rfl | rfl | rfl <;> decide
theorem turn_leaf {x y : Nm} {c : Nat} (hc : XY c) (st : List Nm) : lightTurn [x, y] st (numC c, 0) = some ((if c = 120 then x else y) :: st) := by
  rcases hc with rfl | rfl <;> rfl
theorem turn_two {l : List Nm} {s : Nat} {u v : Nm} (hs : Sign s) (hu : u ∈ L5) (hv : v ∈ L5) (st : List Nm) : ∃ w, w ∈ L5 ∧ lightTurn l (u :: v :: st) (numC s, 2) = some (w :: st) ∧ lv w = opF 2 s (lv u) (lv v) (lv v) := by
  obtain ⟨w, h1, h2, h3⟩ := node_is hs hu hv hv
  refine ⟨w, h1, ?_, h3⟩
  unfold lightTurn
  rw [if_neg (numC_lt hs), if_pos ⟨by show (0 : Int) < 2; decide, by simp⟩]
  show ((nodeN (numC s) u v v).map (· :: st)) = _
  rw [h2]; rfl
theorem turn_three {l : List Nm} {s : Nat} {u v z : Nm} (hs : Sign s) (hu : u ∈ L5) (hv : v ∈ L5) (hz : z ∈ L5) (st : List Nm) : ∃ w, w ∈ L5 ∧ lightTurn l (u :: v :: z :: st) (numC s, 3) = some (w :: st) ∧ lv w = opF 2 s (lv u) (lv v) (lv z) := by
  obtain ⟨w, h1, h2, h3⟩ := node_is hs hu hv hz
  refine ⟨w, h1, ?_, h3⟩
  unfold lightTurn
  rw [if_neg (numC_lt hs), if_pos ⟨by show (0 : Int) < 3; decide, by simp⟩]
  show ((nodeN (numC s) u v z).map (· :: st)) = _
  rw [h2]; rfl
def runL (l : List Nm) (st : List Nm) (steps : List (Int × Int)) : Option (List Nm) := steps.foldl (fun st p => st.bind fun st => lightTurn l st p) (some st)
theorem runL_cons {l st st' : List Nm} {p : Int × Int} {ps : List (Int × Int)} (h : lightTurn l st p = some st') : runL l st (p :: ps) = runL l st' ps := by
  unfold runL
  rw [List.foldl_cons, Option.bind_some, h]
theorem lv_if {c : Nat} {x y : Nm} : lv (if c = 120 then x else y) = if c = 120 then lv x else lv y := by split <;> rfl
section
variable {s0 s1 s2 a b c d : Nat} {m : List Nat} (h0 : Sign s0) (h1 : Sign s1) (h2 : Sign s2) (ha : XY a) (hb : XY b) (hc : XY c) (hd : XY d) (hm : ∀ k ∈ m, XY k) (hml : m.length ≤ 1)
include h0 h1 h2 ha hb hc hd hm hml
theorem light_tree {x y : Nm} (hx : x ∈ L5) (hy : y ∈ L5) : ∃ v, v ∈ L5 ∧ lightS [x, y] (stepsT s0 s1 s2 a b c d m) = some [v] ∧ lv v = gT 2 s0 s1 s2 a b c d m (lv x) (lv y) := by
  have hlf : ∀ k : Nat, (if k = 120 then x else y) ∈ L5 := fun k => by split <;> assumption
  show ∃ v, v ∈ L5 ∧ runL [x, y] [] (stepsT s0 s1 s2 a b c d m) = some [v] ∧ _
  obtain ⟨v2, e1, e2, e3⟩ := turn_two (l := [x, y]) h2 (hlf c) (hlf d) []
  match m, hml with
  | [], _ =>
    obtain ⟨v1, f1, f2, f3⟩ := turn_two (l := [x, y]) h1 (hlf a) (hlf b) [v2]
    obtain ⟨v0, g1, g2, g3⟩ := turn_two (l := [x, y]) h0 f1 e1 []
    refine ⟨v0, g1, ?_, ?_⟩
    · unfold stepsT
      simp only [List.map_nil, List.nil_append]
      rw [runL_cons (turn_leaf hd []), runL_cons (turn_leaf hc _), runL_cons e2, runL_cons (turn_leaf hb _), runL_cons (turn_leaf ha _), runL_cons f2]
      rw [show ((2 + ([] : List Nat).length : Nat) : Int) = 2 from rfl, runL_cons g2]
      rfl
    · rw [g3, f3, e3]
      simp only [gT, lv_if]
  | [k], _ =>
    obtain ⟨v1, f1, f2, f3⟩ := turn_two (l := [x, y]) h1 (hlf a) (hlf b) ((if k = 120 then x else y) :: [v2])
    obtain ⟨v0, g1, g2, g3⟩ := turn_three (l := [x, y]) h0 f1 (hlf k) e1 []
    refine ⟨v0, g1, ?_, ?_⟩
    · unfold stepsT
      simp only [List.map_cons, List.map_nil, List.cons_append, List.nil_append]
      rw [runL_cons (turn_leaf hd []), runL_cons (turn_leaf hc _), runL_cons e2, runL_cons (turn_leaf (hm k (.head _)) _), runL_cons (turn_leaf hb _), runL_cons (turn_leaf ha _), runL_cons f2]
      rw [show ((2 + [k].length : Nat) : Int) = 3 from rfl, runL_cons g2]
      rfl
    · rw [g3, f3, e3]
      simp only [gT, lv_if]
  | _ :: _ :: _, h => simp at h
end
def four (x : Int) : Prop := x = 0 ∨ x = 1 ∨ x = 2 ∨ x = 3
def hv (x : Int) : Int := if x = 0 then 0 else if x = 3 then 2 else 1
def fv (x : Int) : Int := if x = 2 ∨ x = 3 then 2 else 0
def fourL : List Int := [0, 1, 2, 3]
theorem four_mem {x : Int} : four x ↔ x ∈ fourL := by unfold four fourL; simp
def opOk (s : Nat) (x y z : Int) : Bool := decide (opF 3 s x y z ∈ fourL) && decide (hv (opF 3 s x y z) = opF 2 s (hv x) (hv y) (hv z)) && decide (fv (opF 3 s x y z) = opF 2 s (fv x) (fv y) (fv z))
theorem op_ok : (signs.all fun s => fourL.all fun x => fourL.all fun y => fourL.all fun z => opOk s x y z) = true := by decide +kernel
theorem op_four {s : Nat} {x y z : Int} (hs : Sign s) (hx : four x) (hy : four y) (hz : four z) : four (opF 3 s x y z) ∧ hv (opF 3 s x y z) = opF 2 s (hv x) (hv y) (hv z) ∧ fv (opF 3 s x y z) = opF 2 s (fv x) (fv y) (fv z) := by
  have q := op_ok
  simp only [List.all_eq_true] at q
  have := q s (sign_mem hs) x (four_mem.mp hx) y (four_mem.mp hy) z (four_mem.mp hz)
  unfold opOk at this
  simp only [Bool.and_eq_true, decide_eq_true_eq] at this
  exact ⟨four_mem.mpr this.1.1, this.1.2, this.2⟩
section
variable {s0 s1 s2 a b c d : Nat} {m : List Nat} (h0 : Sign s0) (h1 : Sign s1) (h2 : Sign s2)
include h0 h1 h2
theorem gT_four {X Y : Int} (hX : four X) (hY : four Y) : four (gT 3 s0 s1 s2 a b c d m X Y) ∧ hv (gT 3 s0 s1 s2 a b c d m X Y) = gT 2 s0 s1 s2 a b c d m (hv X) (hv Y) ∧ fv (gT 3 s0 s1 s2 a b c d m X Y) = gT 2 s0 s1 s2 a b c d m (fv X) (fv Y) := by
  have hlf : ∀ k : Nat, four (if k = 120 then X else Y) := fun k => by split <;> assumption
  have hh : ∀ k : Nat, hv (if k = 120 then X else Y) = if k = 120 then hv X else hv Y := fun k => by split <;> rfl
  have hf' : ∀ k : Nat, fv (if k = 120 then X else Y) = if k = 120 then fv X else fv Y := fun k => by split <;> rfl
  have n1 := op_four h1 (hlf a) (hlf b) (hlf b)
  have n2 := op_four h2 (hlf c) (hlf d) (hlf d)
  match m with
  | [] =>
    have n0 := op_four h0 n1.1 n2.1 n2.1
    refine ⟨n0.1, ?_, ?_⟩
    · simp only [gT]; rw [n0.2.1, n1.2.1, n2.2.1]; simp only [hh]
    · simp only [gT]; rw [n0.2.2, n1.2.2, n2.2.2]; simp only [hf']
  | k :: r =>
    have n0 := op_four h0 n1.1 (hlf k) n2.1
    refine ⟨n0.1, ?_, ?_⟩
    · simp only [gT]; rw [n0.2.1, n1.2.1, n2.2.1]; simp only [hh]
    · simp only [gT]; rw [n0.2.2, n1.2.2, n2.2.2]; simp only [hf']
end
theorem sum_is {v u : Nm} {k : Int} (hv5 : v ∈ L5) (hu5 : u ∈ L5) (hk : four k) (e1 : lv v = hv k) (e2 : lv u = fv k) : ∃ q r, Nm.mul (.i 2) v = some q ∧ Nm.add q u = some r ∧ Nm.eq r (.i k) = true := by
  have q := sum_ok
  simp only [List.all_eq_true] at q
  have := q v hv5 u hu5
  unfold sumOk at this
  split at this
  · rename_i r e
    obtain ⟨q, e3, e4⟩ := Option.bind_eq_some_iff.mp e
    refine ⟨q, r, e3, e4, ?_⟩
    rw [e1, e2] at this
    rcases hk with rfl | rfl | rfl | rfl <;> simpa [hv, fv] using this
  · cases this
theorem min2 (x y : Int) : minL [x, y] = min x y := by
  show (if y < x then y else x) = min x y
  split <;> omega
theorem max2' (x y : Int) : maxL [x, y] = max x y := by
  show (if y > x then y else x) = max x y
  split <;> omega
theorem min3 (x y z : Int) : minL [x, y, z] = min x (min y z) := by
  show (if z < (if y < x then y else x) then z else (if y < x then y else x)) = _
  split <;> split <;> omega
theorem max3 (x y z : Int) : maxL [x, y, z] = max x (max y z) := by
  show (if z > (if y > x then y else x) then z else (if y > x then y else x)) = _
  split <;> split <;> omega
theorem own_two {s : Nat} (hs : Sign s) (p q : List Int) (k : Nat) (hk : k < 16) : (ownN s [p, q]).getD k 0 = opF 3 s (p.getD k 0) (q.getD k 0) (q.getD k 0) := by
  unfold ownN opF colF
  rcases hs with rfl | rfl | rfl <;> simp [List.getD_eq_getElem?_getD, hk, min2, max2'] <;> omega
theorem own_three {s : Nat} (hs : Sign s) (p q r : List Int) (k : Nat) (hk : k < 16) : (ownN s [p, q, r]).getD k 0 = opF 3 s (p.getD k 0) (q.getD k 0) (r.getD k 0) := by
  unfold ownN opF colF
  rcases hs with rfl | rfl | rfl <;> simp [List.getD_eq_getElem?_getD, hk, min3, max3] <;> omega
section
variable {s0 s1 s2 a b c d : Nat} {m : List Nat} (h0 : Sign s0) (h1 : Sign s1) (h2 : Sign s2) (hml : m.length ≤ 1)
include h0 h1 h2 hml
theorem own_tree (xi yi : List Int) (k : Nat) (hk : k < 16) : (ownT s0 s1 s2 a b c d m xi yi).getD k 0 = gT 3 s0 s1 s2 a b c d m (xi.getD k 0) (yi.getD k 0) := by
  have hl : ∀ c : Nat, (leafO c xi yi).getD k 0 = if c = 120 then xi.getD k 0 else yi.getD k 0 := fun c => by unfold leafO; split <;> rfl
  match m, hml with
  | [], _ =>
    show (ownN s0 [ownN s1 [leafO a xi yi, leafO b xi yi], ownN s2 [leafO c xi yi, leafO d xi yi]]).getD k 0 = _
    rw [own_two h0 _ _ k hk, own_two h1 _ _ k hk, own_two h2 _ _ k hk, hl, hl, hl, hl]
    rfl
  | [j], _ =>
    show (ownN s0 [ownN s1 [leafO a xi yi, leafO b xi yi], leafO j xi yi, ownN s2 [leafO c xi yi, leafO d xi yi]]).getD k 0 = _
    rw [own_three h0 _ _ _ k hk, own_two h1 _ _ k hk, own_two h2 _ _ k hk, hl, hl, hl, hl, hl]
    rfl
  | _ :: _ :: _, h => simp at h
end
theorem dict_two {prog : Program} {w : World} {s : Shared} {h₀ : Heap} {L d D6 D7 : Addr} {m : Str → Option Value} {o o6 o7 : Obj} {W0 : List (Addr × Obj)} {x y : Str} {v1 v2 : Value} {t1 t2 : Tok} {Q : Value → Shared → Prop} (F : Fr h₀ L s.heap m)
    (N : News h₀ L s.heap ((D7, o7) :: (D6, o6) :: (d, o) :: W0)) (h7 : @Ne Nat d D7) (h6 : @Ne Nat d D6) (hlt : ∀ p ∈ W0, p.1 < d) (hd : o.IsDictOf (PySem.strKind prog w) []) (hxy : x ≠ y)
    (h : ∀ h' tk tx ty n, Fr h₀ L h' m → News h₀ L h' ((d, dictOf [⟨PyData.keyHash w.params x, .str x tx, v1⟩, ⟨PyData.keyHash w.params y, .str y ty, v2⟩] n) :: (D6, o6) :: (D7, o7) :: W0) → Q (.ref d) { s with heap := h', toks := tk }) :
    KdnMade prog w (PySem.strKind prog w) d Q [(.str x t1, v1), (.str y t2, v2)] s := by
  have hm := N (d, o) (.tail _ (.tail _ (.head _)))
  refine display_done_str rfl (by simp [strPairs, hxy]) (Heap.dictOf_iff.mpr ⟨o, hm.1, hd⟩) fun h' hmm hs => ?_
  obtain ⟨o', ho', es, ep, hex, hdt, hk, hp, _⟩ := Heap.dictOf_iff.mp hmm
  obtain ⟨es⟩ := es
  cases hp with
  | cons k1 e1 hp =>
    cases hp with
    | cons k2 e2 hp =>
      cases hp
      rename_i ea eb
      obtain ⟨ka, ja, ia⟩ := hk ea (by simp)
      obtain ⟨kb, jb, ib⟩ := hk eb (by simp)
      have qa := (PySem.strKind prog w).inj _ _ _ ja k1
      have qb := (PySem.strKind prog w).inj _ _ _ jb k2
      obtain ⟨tx, wx⟩ := Value.isStrOf_shape k1
      obtain ⟨ty, wy⟩ := Value.isStrOf_shape k2
      obtain ⟨ha, xa, va⟩ := ea
      obtain ⟨hb, xb, vb⟩ := eb
      dsimp only at *
      subst wx wy e1 e2 qa qb ia ib
      obtain ⟨oc, od, odt, os⟩ := o'
      obtain ⟨c1, c2, c3⟩ := hex
      dsimp only at c1 c2 c3 hdt
      subst c1 c2 c3 hdt
      refine h h' _ tx ty ep (F.change hs hm.2.1 hm.2.2) fun p hp => ?_
      rcases List.mem_cons.mp hp with rfl | hp
      · exact ⟨ho', hm.2⟩
      · have g : p ∈ ((D7, o7) :: (D6, o6) :: (d, o) :: W0) ∧ p.1 ≠ d := by
          rcases List.mem_cons.mp hp with rfl | hp
          · exact ⟨.tail _ (.head _), Ne.symm h6⟩
          · rcases List.mem_cons.mp hp with rfl | hp
            · exact ⟨.head _, Ne.symm h7⟩
            · exact ⟨.tail _ (.tail _ (.tail _ hp)), Nat.ne_of_lt (hlt p hp)⟩
        exact ⟨hs.extBut _ _ g.2 (N p g.1).1, (N p g.1).2⟩
section
variable {prog : Program} {w : World} {A : Around} {E : Value → Shared → Prop} {s : Shared} {mg mb : Str → Option Value} {K : Frag} {p : Program} {loose : List Str}
  {Q : Value → Shared → Prop} {name qual : Str} {params : Arguments} {body : List Stmt} {scope : Scope} {dV kV doc pm cdv ct oc : Value} {an od : Option Addr} {osl : Array (Option Value)} {f : Addr} {args : List Value} {binds : List (Str × Value)}
theorem callTC (X : K.In s.heap) (T : TopRead p loose mg mb s.heap) (hroom : A.depth < recursionLimit)
    (ho : K.lookup f = some ⟨oc, od, .func (fnOf name qual params body scope dV kV doc pm an cdv ct), osl⟩) (hcd : codeIn K cdv qual = true)
    (hbind : BindsTo s (fnOf name qual params body scope dV kV doc pm an cdv ct) ⟨args, []⟩ binds)
    (hkind : (binds.all fun y => scope.names.lookup y.1 == some .local || scope.names.lookup y.1 == some .cell) = true)
    (hnd : ((cellsFrom 0 scope.names []).map (·.1)).Nodup)
    (h : ∀ L h₁ tk cells, Fr s.heap L h₁ (bindL (envOfC qual scope L f cdv).kindOf binds fun _ => none) → News s.heap L h₁ cells →
      CellsAre (bindC (envOfC qual scope L f cdv).kindOf binds fun _ => none) (cellsFrom (L + 1) scope.names []) cells →
      wpAny (model prog w) (A.deeper (envOfC qual scope L f cdv)) (execs body (envOfC qual scope L f cdv))
        (fun fl s' => Q (match fl with | .ret v => v | _ => .none) s') (fun _ _ => False)
        { s with heap := h₁, toks := tk })
    (hco : scope.isCoroutine = false) (hgen : scope.isGenerator = false) (hk : scope.kind = .function) :
    wpAny (model prog w) A (call (.ref f) args) Q E s := by
  refine wpAny_call (codeAny_call_function (fd := fnOf name qual params body scope dV kV doc pm an cdv ct) hroom (X _ _ ho) rfl hco hgen rfl (codeRec_of X hcd) (hbind _ _ _ _ ?_))
  refine wpAny_newFunctionEnv_cells hk (kindsX hkind _) fun env' he s' x => ?_
  subst he
  refine ⟨T.nolimit.keeps x.toInCall.keep, codeAny_func ?_⟩
  obtain ⟨h₁, tk, rfl, _⟩ := x.done
  have hk₁ := x.toInCall.keep
  obtain ⟨cells, NC, Y⟩ := Cl.news (h₀ := s.heap) (Nat.le_refl _) fun n c hm => ⟨x.cell n c (lookup_of_mem_nodup (cellsFrom_names scope.names 0 (s.heap.objs.size + 1) [] [] rfl ▸ hnd) hm), x.above n c hm⟩
  exact wpAny_mono (h s.heap.objs.size h₁ tk cells ⟨x.toInCall.ns, hk₁, Nat.le_refl _⟩ NC Y) (fun _ _ x => x) (fun _ _ x => x.elim)
end
section
local macro_rules | `(tactic| walk_at "exec For Name ListComp cons nil") => `(tactic| (k_here; (rename Fr _ _ _ _ => lF'); (with_unfolding_all refine' For_invVF lF' ?k1 ?k2 ?_; (case k1 => exact rfl); (case k2 => exact rfl); k_whole)))
theorem ints_mem {ws : List Value} (h : ∀ v ∈ ws, ∃ x t, v = Value.int x t) : ∃ ms, IntsAre ws ms := by
  induction ws with
  | nil => exact ⟨[], .nil⟩
  | cons v r ih =>
    obtain ⟨ms, hm⟩ := ih fun v hv => h v (.tail _ hv)
    obtain ⟨x, t, rfl⟩ := h v (.head _)
    exact ⟨x :: ms, .cons x t hm⟩
theorem pick_ints {vs : List Value} {ns : List Int} (h : IntsAre vs ns) (lo hi st : Option Int) : ∃ ms, IntsAre (slicePick vs.toArray lo hi st).toList ms := by
  refine ints_mem fun v hv => ?_
  unfold slicePick at hv
  simp only [List.mem_filterMap] at hv
  obtain ⟨i, _, e⟩ := hv
  obtain ⟨x, t, rfl, _⟩ := ints_get h (i := i) (v := v) (by simpa using e)
  exact ⟨x, t, rfl⟩
section
variable {prog : Program} {w : World} {A : Around} {E : Value → Shared → Prop} {s : Shared} {Q : Value → Shared → Prop} {h₀ : Heap} {L l : Addr} {m : Str → Option Value} {news : List (Addr × Obj)} {vs : List Value} {ns : List Int}
theorem sum_N (hh : A.handled = none) (F : Fr h₀ L s.heap m) (N : News h₀ L s.heap news) (hl : s.heap.IsList l vs.toArray) (hi : IntsAre vs ns)
    (h : ∀ h' k t tk, Fr h₀ L h' m → News h₀ L h' news → Q (.int k t) { s with heap := h', toks := tk }) : wpAny (model prog w) A (call (.builtin "sum") [.ref l]) Q E s := by
  obtain ⟨xs, e⟩ := hi.allInts.items
  rw [e] at hl
  exact sum_intListG hh hl fun h' tk t' hk => h _ _ _ _ (F.grownK hk) (N.grown hk)
theorem slice_two {value slice : PySem.Expr} {vl vu vk : Value} {lo hi st : Option Int} {ops : List Value} (F : Fr h₀ L s.heap m) (N : News h₀ L s.heap news) (hl : s.heap.IsList l vs.toArray) (hi' : IntsAre vs ns) (pl : IsPart vl lo) (pu : IsPart vu hi) (pk : IsPart vk st) (h0 : st ≠ some 0)
    (h : ∀ D ws ms h', Fr h₀ L h' m → News h₀ L h' ((D, W.listOf (List.toArray ws) 0) :: news) → (∀ p ∈ news, p.1 < D) → IntsAre ws ms → Q (.ref D) { s with heap := h' })
    (hs : subscripted slice false (.ref l) (.ref s.heap.objs.size) = operate ops (getItem (.ref l) (.ref s.heap.objs.size))) (ht : ∀ r, letTemporaryGo value (.ref l) r = pure ()) (hz : vs.toArray.size ≤ sizeLine) :
    wpAny (model prog w) A (subscriptTail value slice (.ref l) (.ref s.heap.objs.size)) Q E { s with heap := s.heap.push { cls := .type "slice", data := .fields #[vl, vu, vk] } } := by
  obtain ⟨ms, hm⟩ := pick_ints hi' lo hi st
  exact kmk_slice3_lit F N hl pl pu pk h0 rfl (fun D h' F' N' l1 => h D _ ms h' F' N' l1 hm) hs ht hz
end
local macro_rules | `(tactic| walk_at "subscriptTail Name Slice ref ref") => `(tactic| (k_here; k_dflt (refine' slice_two ?F ?N ?l ?i ?p ?q ?k ?o ?_ ?s ?t ?z; (case F => k_asm); (case N => k_asm); (case l => exact Fr.lst (by k_asm) (by assumption)); (case i => assumption); (case p => kmk_part); (case q => kmk_part); (case k => kmk_part); (case o => decide); (case s => with_unfolding_all rfl); (case t => kmk_pure); (case z => assumption)); intro D' ws' ms' h' F' N' l1 i'; (try k_lt l1)))
local macro_rules | `(tactic| walk_at "call builtin:sum") => `(tactic| (k_dflt (refine' sum_N ?h ?F ?N ?l ?i ?_; (case h => exact rfl); (case F => k_asm); (case N => k_asm); (case l => refine News.isList (by k_asm) (List.mem_cons_self ..)); (case i => assumption); k_whole); intro h' k' t' tk' F' N'))
local macro_rules | `(tactic| walk_at "exec Assign cons ListComp") => `(tactic| (k_here; (with_reducible show wpAny _ _ (exec (PySem.Stmt.Assign _ (PySem.Expr.ListComp _ [_, _] _ _) _) _) _ _ _); (rename Fr _ _ _ _ => lF'); first
  | ((with_unfolding_all refine' comp_assign2 lF' ?hsw ?hclos ?hcell ?hkind ?hnames ?hx ?h2 ?_ ?hs); (case hsw => with_unfolding_all rfl); (case hclos => with_unfolding_all rfl); (case hcell => decide); (case hkind => with_unfolding_all rfl); (case hnames => decide); (case hx => with_unfolding_all rfl); (case h2 => (intro _ _; with_unfolding_all rfl)); (case hs => intro _; with_unfolding_all rfl); k_whole)
  | (refine' wpAny_Assign_Name ?_ ?hs; (case hs => with_unfolding_all rfl))))
local macro_rules | `(tactic| walk_at "eval ListComp") => `(tactic| (k_here; (with_reducible show wpAny _ _ (eval (PySem.Expr.ListComp _ [_, _] _ _) _) _ _ _); (rename Fr _ _ _ _ => lF'); (with_unfolding_all refine' comp_eval2 lF' ?hclos ?hcell ?hkind ?hnames ?hx ?h2 ?_ ?hs); (case hclos => with_unfolding_all rfl); (case hcell => decide); (case hkind => with_unfolding_all rfl); (case hnames => decide); (case hx => with_unfolding_all rfl); (case h2 => (intro _ _; with_unfolding_all rfl)); (case hs => intro _; with_unfolding_all rfl); k_whole))
local macro_rules | `(tactic| walk_at "subscriptTail Name BinOp ref int") => `(tactic| (refine Stop.go ?_))
local macro_rules | `(tactic| walk_at "eval Dict") => `(tactic| (refine Stop.go ?_))
local macro_rules | `(tactic| walk_at "compareOp NotEq ref ref") => `(tactic| (refine Stop.go ?_))
theorem hls_001 : hlsF (.i 0) (.i 0) (.i 1) = some (.f 0x3FE5555555555555, .f 0x3FE0000000000000, .f 0x3FF0000000000000) := by decide +kernel
def pick4 (a b c d : Str) (k : Int) : Str := if k = 0 then a else if k = 1 then b else if k = 2 then c else d
section
variable {prog : Program} {w : World} {A : Around} {E : Value → Shared → Prop} {s : Shared} {Q : Value → Shared → Prop} {h₀ : Heap} {L l : Addr} {news : List (Addr × Obj)}
theorem item_four {value slice : PySem.Expr} {a b c d : Str} {ta tb tc td : Tok} {e : Nat} {k : Int} {u : Tok} (N : News h₀ L s.heap news) (hm : (l, W.listOf [Value.str a ta, .str b tb, .str c tc, .str d td].toArray e) ∈ news) (h0 : 0 ≤ k) (h1 : k < 4) (h : ∀ t, Q (.str (pick4 a b c d k) t) s)
    (hs : subscripted slice false (.ref l) (.int k u) = operate [.ref l, .int k u] (getItem (.ref l) (.int k u)) := by with_unfolding_all rfl) :
    wpAny (model prog w) A (subscriptTail value slice (.ref l) (.int k u)) Q E s := by
  have hk : k = 0 ∨ k = 1 ∨ k = 2 ∨ k = 3 := by omega
  rcases hk with rfl | rfl | rfl | rfl
  · exact item_M N hm (by decide) (by decide) rfl (h _) hs
  · exact item_M N hm (by decide) (by decide) rfl (h _) hs
  · exact item_M N hm (by decide) (by decide) rfl (h _) hs
  · exact item_M N hm (by decide) (by decide) rfl (h _) hs
end
local macro_rules | `(tactic| walk_at "subscriptTail") => `(tactic| ((with_reducible show wpAny _ _ (subscriptTail (PySem.Expr.List _ _) (PySem.Expr.BinOp _ _ _ _) (Value.ref _) (Value.int _ _)) _ _ _); k_dflt (refine' item_four ?N ?m ?a ?b ?_ ?s; (case N => k_asm); (case m => exact List.mem_cons_self ..); (case a => exact Int.fmod_nonneg_of_pos _ (by decide)); (case b => exact Int.fmod_lt_of_pos _ (by decide)); (case s => with_unfolding_all rfl); k_whole); intro t'))
theorem pick4_mem (a b c d : Str) (k : Int) : pick4 a b c d k ∈ [a, b, c, d] := by unfold pick4; split <;> (try split) <;> (try split) <;> simp
theorem cell_ne {h₀ h : Heap} {L c p : Addr} {oc : Obj} {v : Option Value} {xs : Array Value} {e : Nat} {news : List (Addr × Obj)} (N : News h₀ L h news) (hc : (c, oc) ∈ news) (hp : (p, W.listOf xs e) ∈ news) (hd : oc.data = .cell v) : @Ne Nat c p := fun q => by
  have h1 := (N _ hc).1
  have h2 := (N _ hp).1
  rw [show c = p from q, h2] at h1
  cases h1
  cases hd
theorem len_four {x y : Str} (hx : x ∈ fourA) (hy : y ∈ fourB) : x.length + 40 * y.length ≤ 10000 := by
  have q1 : ∀ x ∈ fourA, x.length ≤ 2 := by decide +kernel
  have q2 : ∀ x ∈ fourB, x.length ≤ 2 := by decide +kernel
  have := q1 _ hx
  have := q2 _ hy
  omega
theorem five_sign {s : Nat} (h : Sign s) : Five s := by rcases h with rfl | rfl | rfl <;> simp [Five]
theorem five_xy {s : Nat} (h : XY s) : Five s := by rcases h with rfl | rfl <;> simp [Five]
theorem rowsT_len (s0 s1 s2 a b c d : Nat) (m : List Nat) (hm : m.length ≤ 1) (l t : Str) : (rowsT s0 s1 s2 a b c d m l t).length ≤ 20 := by unfold rowsT; simp; omega
theorem N6mem6 {α : Type} (a b c d e f g h i j k l m n : α) (V : List α) : m ∈ a :: b :: c :: d :: e :: f :: g :: h :: i :: j :: k :: l :: m :: n :: V := by repeat (first | exact List.Mem.head _ | apply List.Mem.tail)
theorem N6mem5 {α : Type} (a b c d e f g h i j k l m n : α) (V : List α) : n ∈ a :: b :: c :: d :: e :: f :: g :: h :: i :: j :: k :: l :: m :: n :: V := by repeat (first | exact List.Mem.head _ | apply List.Mem.tail)
theorem N6memV {α : Type} (a b c d e f g h i j k l m n : α) {V : List α} {x : α} (hx : x ∈ V) : x ∈ a :: b :: c :: d :: e :: f :: g :: h :: i :: j :: k :: l :: m :: n :: V := by repeat (first | exact hx | apply List.Mem.tail)
theorem steps_lists {V : List (Addr × Obj)} {vs : List Value} {ys : List (Int × Int)} (h : StepsAre V vs ys) : ∃ V', (∀ p ∈ V', p ∈ V) ∧ (∀ p ∈ V', ∃ xs e, p.2 = W.listOf xs e) ∧ StepsAre V' vs ys := by
  induction h with
  | nil => exact ⟨[], List.forall_mem_nil _, List.forall_mem_nil _, .nil⟩
  | cons t u e hm _ ih =>
    obtain ⟨V', h1, h2, h3⟩ := ih
    refine ⟨_ :: V', fun p hp => ?_, fun p hp => ?_, .cons t u e (.head _) (h3.sub fun p hp => .tail _ hp)⟩
    · rcases List.mem_cons.mp hp with rfl | hp
      · exact hm
      · exact h1 p hp
    · rcases List.mem_cons.mp hp with rfl | hp
      · exact ⟨_, _, rfl⟩
      · exact h2 p hp
abbrev lvls : List Nm := [.i 0, hf, .i 1]
def lgt (S : List (Int × Int)) (x y : Nm) : Nm := match lightS [x, y] S with | some (v :: _) => v | _ => .i 0
theorem light_lgt {n : Int} {x y : Nm} (hx : x ∈ lvls) (hy : y ∈ lvls) : lightS [x, y] (stepsT (sgc (dg3 n 0)) (sgc (dg3 n 1)) (sgc (dg3 n 2)) (nmc (dg2 n 0)) (nmc (dg2 n 1)) (nmc (dg2 n 2)) (nmc (dg2 n 3)) (midC (dgm n))) = some [lgt (stepsT (sgc (dg3 n 0)) (sgc (dg3 n 1)) (sgc (dg3 n 2)) (nmc (dg2 n 0)) (nmc (dg2 n 1)) (nmc (dg2 n 2)) (nmc (dg2 n 3)) (midC (dgm n))) x y] := by
  have q : ∀ x ∈ lvls, x ∈ L5 := by decide
  obtain ⟨v, _, h, _⟩ := light_tree (sgc_sign (dg3 n 0)) (sgc_sign (dg3 n 1)) (sgc_sign (dg3 n 2)) (nmc_xy (dg2 n 0)) (nmc_xy (dg2 n 1)) (nmc_xy (dg2 n 2)) (nmc_xy (dg2 n 3)) (midC_xy (dgm n)) (midC_len (dgm n)) (q x hx) (q y hy)
  unfold lgt
  rw [h]
theorem stepsT_len (s0 s1 s2 a b c d : Nat) (m : List Nat) (hm : m.length ≤ 1) : (stepsT s0 s1 s2 a b c d m).length ≤ 20 := by unfold stepsT; simp; omega
theorem nine_len (f : Nm → Nm → Nm) (i : Nat) : ((lvls.take i).flatMap fun x => lvls.map (f x)).length ≤ 9 := by
  match i with
  | 0 => exact Nat.zero_le _
  | 1 => exact Nat.le_of_ble_eq_true rfl
  | 2 => exact Nat.le_of_ble_eq_true rfl
  | i + 3 => simp [List.take]
theorem nms_snoc {vs : List Value} {l : List Nm} (h : NmsAre vs l) (x : Nm) (t : Tok) : NmsAre (vs ++ [x.val t]) (l ++ [x]) := by
  induction h with
  | nil => exact .cons x t .nil
  | cons y u _ ih => exact .cons y u ih
abbrev hL4 : List Int := [0, 1, 1, 2]
abbrev fL4 : List Int := [0, 0, 2, 2]
def pk (a : Int) : Nm := lvls.getD a.toNat (.i 0)
def Low (a : Int) : Prop := a = 0 ∨ a = 1 ∨ a = 2
theorem low_h : ∀ i : Nat, i < 4 → Low (hL4.getD i 0) ∧ pk (hL4.getD i 0) ∈ lvls ∧ lv (pk (hL4.getD i 0)) = hv i ∧ four i := by unfold Low four; decide
theorem low_f : ∀ i : Nat, i < 4 → Low (fL4.getD i 0) ∧ pk (fL4.getD i 0) ∈ lvls ∧ lv (pk (fL4.getD i 0)) = fv i := by unfold Low; decide
theorem nms_get {vs : List Value} {l : List Nm} (h : NmsAre vs l) {i : Nat} {x : Nm} (e : l[i]? = some x) : ∃ t, vs[i]? = some (x.val t) := by
  induction h generalizing i with
  | nil => simp at e
  | cons y t _ ih =>
    cases i with
    | zero => exact ⟨t, by cases e; rfl⟩
    | succ i => simpa using ih (by simpa using e)
theorem nine_at {f : Nm → Nm → Nm} {ys : List Value} (h : NmsAre ys (lvls.flatMap fun x => lvls.map (f x))) {a b : Int} (ha : Low a) (hb : Low b) : ∃ t, ys[(3 * a + b).toNat]? = some ((f (pk a) (pk b)).val t) := by
  rcases ha with rfl | rfl | rfl <;> rcases hb with rfl | rfl | rfl <;> exact nms_get h rfl
theorem nine_ix {a b : Int} (ha : Low a) (hb : Low b) : 0 ≤ 3 * a + b ∧ 3 * a + b < 100 := by
  rcases ha with rfl | rfl | rfl <;> rcases hb with rfl | rfl | rfl <;> decide
def gN (n : Int) (i j : Nat) : Int := gT 3 (sgc (dg3 n 0)) (sgc (dg3 n 1)) (sgc (dg3 n 2)) (nmc (dg2 n 0)) (nmc (dg2 n 1)) (nmc (dg2 n 2)) (nmc (dg2 n 3)) (midC (dgm n)) i j
abbrev stN (n : Int) : List (Int × Int) := stepsT (sgc (dg3 n 0)) (sgc (dg3 n 1)) (sgc (dg3 n 2)) (nmc (dg2 n 0)) (nmc (dg2 n 1)) (nmc (dg2 n 2)) (nmc (dg2 n 3)) (midC (dgm n))
theorem light_lv {n : Int} {x y : Nm} (hx : x ∈ lvls) (hy : y ∈ lvls) : lgt (stN n) x y ∈ L5 ∧ lv (lgt (stN n) x y) = gT 2 (sgc (dg3 n 0)) (sgc (dg3 n 1)) (sgc (dg3 n 2)) (nmc (dg2 n 0)) (nmc (dg2 n 1)) (nmc (dg2 n 2)) (nmc (dg2 n 3)) (midC (dgm n)) (lv x) (lv y) := by
  have q : ∀ x ∈ lvls, x ∈ L5 := by decide
  obtain ⟨v, h1, h, h2⟩ := light_tree (sgc_sign (dg3 n 0)) (sgc_sign (dg3 n 1)) (sgc_sign (dg3 n 2)) (nmc_xy (dg2 n 0)) (nmc_xy (dg2 n 1)) (nmc_xy (dg2 n 2)) (nmc_xy (dg2 n 3)) (midC_xy (dgm n)) (midC_len (dgm n)) (q x hx) (q y hy)
  unfold lgt stN
  rw [h]
  exact ⟨h1, h2⟩
theorem shown_at (n : Int) {i j : Nat} (hi : i < 4) (hj : j < 4) : ∃ q r, Nm.mul (.i 2) (lgt (stN n) (pk (hL4.getD i 0)) (pk (hL4.getD j 0))) = some q ∧ Nm.add q (lgt (stN n) (pk (fL4.getD i 0)) (pk (fL4.getD j 0))) = some r ∧ Nm.eq r (.i (gN n i j)) = true := by
  obtain ⟨_, b1, b2, b3⟩ := low_h i hi
  obtain ⟨_, c1, c2, c3⟩ := low_h j hj
  obtain ⟨_, d1, d2⟩ := low_f i hi
  obtain ⟨_, e1, e2⟩ := low_f j hj
  have g := gT_four (a := nmc (dg2 n 0)) (b := nmc (dg2 n 1)) (c := nmc (dg2 n 2)) (d := nmc (dg2 n 3)) (m := midC (dgm n)) (sgc_sign (dg3 n 0)) (sgc_sign (dg3 n 1)) (sgc_sign (dg3 n 2)) b3 c3
  have l1 := light_lv (n := n) b1 c1
  have l2 := light_lv (n := n) d1 e1
  exact sum_is l1.1 l2.1 g.1 (by rw [l1.2, b2, c2]; exact g.2.1.symm) (by rw [l2.2, d2, e2]; exact g.2.2.symm)
def ShL (n : Int) (m : Nat) (ys : List Value) : Prop := ∃ l, NmsAre ys l ∧ l.length = m ∧ ∀ k x, l[k]? = some x → Nm.eq x (.i (gN n (k / 4) (k % 4))) = true
theorem ShL.nil (n : Int) : ShL n 0 [] := ⟨[], .nil, rfl, fun k x h => by simp at h⟩
theorem ShL.len {n : Int} {m : Nat} {ys : List Value} (h : ShL n m ys) : ys.length = m := by
  obtain ⟨l, h1, h2, _⟩ := h
  rw [h1.len, h2]
theorem ShL.snoc {n : Int} {i j : Nat} {ys : List Value} (h : ShL n (4 * i + j) ys) (hj : j < 4) {r : Nm} (t : Tok) (he : Nm.eq r (.i (gN n i j)) = true) : ShL n (4 * i + (j + 1)) (ys ++ [r.val t]) := by
  obtain ⟨l, h1, h2, h3⟩ := h
  refine ⟨l ++ [r], nms_snoc h1 r t, by rw [List.length_append, h2]; rfl, fun k x hk => ?_⟩
  by_cases hl : k < l.length
  · rw [List.getElem?_append_left hl] at hk
    exact h3 k x hk
  · rw [List.getElem?_append_right (by omega)] at hk
    have : k - l.length = 0 := by
      have := (List.getElem?_eq_some_iff.mp hk).1
      simp at this
      omega
    rw [this] at hk
    cases hk
    have e1 : k / 4 = i := by omega
    have e2 : k % 4 = j := by omega
    rw [e1, e2]
    exact he
theorem mem_perm1 {α : Type} {a b d : α} {l : List α} : ∀ p ∈ (a :: b :: l) ++ d :: [], p ∈ a :: b :: d :: l := fun p hp => by
  simp only [List.mem_append, List.mem_cons, List.not_mem_nil, or_false] at hp ⊢
  rcases hp with (h | h | h) | h <;> simp [h]
theorem mem_perm2 {α : Type} {a b d : α} {l : List α} : ∀ p ∈ [a, b] ++ d :: l, p ∈ d :: a :: b :: l := fun p hp => by
  simp only [List.mem_append, List.mem_cons, List.not_mem_nil, or_false] at hp ⊢
  rcases hp with (h | h) | h | h <;> simp [h]
theorem own_gN {n : Int} {l : List Nm} {i : Nat} {x : Nm} {k : Int} (e1 : l[i]? = some x) (e2 : (ownT (sgc (dg3 n 0)) (sgc (dg3 n 1)) (sgc (dg3 n 2)) (nmc (dg2 n 0)) (nmc (dg2 n 1)) (nmc (dg2 n 2)) (nmc (dg2 n 3)) (midC (dgm n)) ((List.range 16).map fun k : Nat => Int.fdiv k 4) ((List.range 16).map fun k : Nat => Int.fmod k 4))[i]? = some k)
    (hl : l.length = 4 * 4) (h : ∀ k x, l[k]? = some x → Nm.eq x (.i (gN n (k / 4) (k % 4))) = true) : Nm.eq x (.i k) = true := by
  have hi : i < 16 := by have := (List.getElem?_eq_some_iff.mp e1).1; omega
  have q1 : ∀ i < 16, ((List.range 16).map fun k : Nat => Int.fdiv k 4).getD i 0 = ((i / 4 : Nat) : Int) := by decide
  have q2 : ∀ i < 16, ((List.range 16).map fun k : Nat => Int.fmod k 4).getD i 0 = ((i % 4 : Nat) : Int) := by decide
  have q := own_tree (a := nmc (dg2 n 0)) (b := nmc (dg2 n 1)) (c := nmc (dg2 n 2)) (d := nmc (dg2 n 3)) (sgc_sign (dg3 n 0)) (sgc_sign (dg3 n 1)) (sgc_sign (dg3 n 2)) (midC_len (dgm n)) ((List.range 16).map fun k : Nat => Int.fdiv k 4) ((List.range 16).map fun k : Nat => Int.fmod k 4) i hi
  rw [q1 i hi, q2 i hi, List.getD_eq_getElem?_getD, e2] at q
  have e : k = gN n (i / 4) (i % 4) := q
  rw [e]
  exact h i x e1
theorem law_pack {h₀ h : Heap} {L D lD lF lH lL : Addr} {dO tO : Obj} {a1 a2 a3 a4 b1 b2 b3 b4 c1 c2 c3 : Tok} {t S6 S5 S4 S3 S2 S1 : Addr × Obj}
    (N : News h₀ L h [(D, dO), (lD, tO), (lF, W.listOf [Value.int 0 a1, .int 0 a2, .int 2 a3, .int 2 a4].toArray 0), (lH, W.listOf [Value.int 0 b1, .int 1 b2, .int 1 b3, .int 2 b4].toArray 0), (lL, W.listOf [Value.int 0 c1, hf.val c2, .int 1 c3].toArray 0), t, S6, S5, S4, S3, S2, S1]) :
    ∃ vF vH vL, IntsAre vF [0, 0, 2, 2] ∧ IntsAre vH [0, 1, 1, 2] ∧ NmsAre vL [.i 0, hf, .i 1] ∧ News h₀ L h [(D, dO), (lF, W.listOf vF.toArray 0), (lH, W.listOf vH.toArray 0), (lL, W.listOf vL.toArray 0), S4, S3, S2, S6, S5] :=
  ⟨_, _, _, .cons 0 a1 (.cons 0 a2 (.cons 2 a3 (.cons 2 a4 .nil))), .cons 0 b1 (.cons 1 b2 (.cons 1 b3 (.cons 2 b4 .nil))), .cons (.i 0) c1 (.cons hf c2 (.cons (.i 1) c3 .nil)), news_sub N fun p hp => by
    simp only [List.mem_cons, List.not_mem_nil, or_false] at hp
    rcases hp with rfl | rfl | rfl | rfl | rfl | rfl | rfl | rfl | rfl <;> (repeat (first | exact List.Mem.head _ | apply List.Mem.tail))⟩
theorem law_spec (w : World) (A : Around) (E : Value → Shared → Prop) (s : Shared) (mg mb : Str → Option Value) (Q : Value → Shared → Prop) (ls : Addr) (svs : List Value) (sns : List Int)
    (hls : s.heap.IsList ls svs.toArray) (hsi : IntsAre svs sns) (hsl : sns.length ≤ 63) (X : (KK w.params).In s.heap) (T : TR mg mb s.heap) (hA : A.depth + 100 < recursionLimit) (hU : A.units + 64 < cLine) (hh : A.handled = none)
    (h : ∀ h' tk, s.heap.StaysIn h' → Q (.bool true) { s with heap := h', toks := tk }) :
    wpAny (model P0 w) A (call (.ref 145) [.ref ls]) Q E s := by
  obtain ⟨hd, dp, fr, gs, un⟩ := A
  cases (show hd = none from hh)
  replace hA : dp + 100 < recursionLimit := hA
  replace hU : un + 64 < cLine := hU
  have hA2 : (⟨none, dp, fr, gs, un⟩ : Around).depth < recursionLimit := by show dp < recursionLimit; omega
  have hz : svs.toArray.size ≤ sizeLine := by have := hsi.length; rw [sizeLine_eq]; simp; omega
  (refine' callTC ?k1 ?k2 ?k3 ?k4 ?k5 ?k6 ?k7 ?kD ?_ ?c2 ?c3 ?c4; (case k1 => k_asm); (case k2 => k_asm); (case k4 => k_is); (case k5 => k_is); (case k6 => exact BindsTo.of_eq rfl); (case k7 => exact rfl); (case kD => decide +kernel); (case c2 => exact rfl); (case c3 => exact rfl); (case c4 => exact rfl); (case k3 => first | assumption | omega))
  intro L' h' tk' cells' F' N' Y'
  k_fold
  k_cells Y'
  rename_i oS oN _ _ _ _ dS dN _ _ _ _
  try simp only [List.cons_append, List.nil_append] at N'
  k_steps
  unfold Stop
  rename Fr _ _ _ _ => FF
  rename News _ _ _ _ => NN
  refine hls_N (r := .i 0) (g := .i 0) (b := .i 1) FF NN X T (by dsimp only [Around.deeper]; omega) rfl hls_001 ?_
  intro ht u1 u2 u3 h1 tk1 F1 N1 ne1
  simp only [AllNe] at ne1
  obtain ⟨g1, g2, g3, g4, g5, g6, -⟩ := ne1
  k_steps
  rename_i lL _ lL1 _ oLv dLv _ lH _ lH1 lF _ lF1 lD _ lD1 _ _ oH dH _ oF _ _ dF _ _ _ _ _ aR aF aN aK
  have q1 := ltN lL1.1
  have q2 := ltN lH1.1
  have q3 := ltN lF1.1
  have q4 := ltN lL1.2.1
  refine' compAt_range (n := 2) (src := _) ?ahh ?ahr ?ahs ?ahn ?ahz ?aF [] ?aN (fun i ys nx => nx = [] ∧ (∃ l, IntsAre ys l) ∧ ys.length = i) ?ah0 ?ahl ?aturn ?adone
  case ahh => exact rfl
  case ahr => exact aR
  case aF => exact aF
  case aN => rw [List.append_nil]; exact aN
  case ahs => decide
  case ahn => decide
  case ahz => decide
  case ah0 => exact ⟨rfl, ⟨[], .nil⟩, rfl⟩
  case ahl => rintro i ys nx ⟨_, _, h⟩; exact h
  case aturn =>
    rintro I C D oL oI i t2 m₁ ys ep nx h2 tk2 E' hi ⟨rfl, hys, hyl⟩ hnx hI hID hDC hLD F₁ N₁
    k_fold
    rw [List.append_nil] at N₁
    have hi2 : i = 0 ∨ i = 1 := by omega
    rcases hi2 with rfl | rfl
    · simp only [show (0 : Int) + ((0 : Nat) : Int) = 0 from rfl] at F₁
      k_steps
      all_goals (try k_data)
      rename Fr _ _ _ _ => FF
      rename News _ _ _ _ => NN
      refine ⟨_, _, _, [], rfl, FF, by rw [List.append_nil]; exact news_sub NN (fun _ h => .tail _ (.tail _ h)), List.forall_mem_nil _, rfl, ?_, by rw [List.length_append, hyl]; rfl⟩
      obtain ⟨l0, hl0⟩ := hys
      exact ⟨_, ints_snoc hl0 _ _⟩
    · simp only [show (0 : Int) + ((1 : Nat) : Int) = 1 from rfl] at F₁
      k_steps
      all_goals (try k_data)
      rename Fr _ _ _ _ => FF
      rename News _ _ _ _ => NN
      refine ⟨_, _, _, [], rfl, FF, by rw [List.append_nil]; exact news_sub NN (fun _ h => .tail _ (.tail _ h)), List.forall_mem_nil _, rfl, ?_, by rw [List.length_append, hyl]; rfl⟩
      obtain ⟨l0, hl0⟩ := hys
      exact ⟨_, ints_snoc hl0 _ _⟩
  case adone =>
    rintro D ys ep nx h2 tk2 hp ⟨rfl, ⟨nl, hnl⟩, hyl⟩ hD F₁ N₁
    rw [List.append_nil] at N₁ hD
    k_steps
    obtain ⟨vF, vH, vL, iF, iH, iL, N2⟩ := law_pack N₁
    have qD6 : @Ne Nat (L' + 1 + 1 + 1 + 1 + 1 + 1) D := hD (_, oS) (by repeat (first | exact List.Mem.head _ | apply List.Mem.tail))
    have qD5 : @Ne Nat (L' + 1 + 1 + 1 + 1 + 1) D := hD (_, oN) (by repeat (first | exact List.Mem.head _ | apply List.Mem.tail))
    refine' loop_list (items := ys) (src := [(D, lstObj ys ep), (lF, W.listOf vF.toArray 0), (lH, W.listOf vH.toArray 0), (lL, W.listOf vL.toArray 0), (L' + 1 + 1 + 1 + 1, oF), (L' + 1 + 1 + 1, oH), (L' + 1 + 1, oLv)]) (news := [(L' + 1 + 1 + 1 + 1 + 1 + 1, oS), (L' + 1 + 1 + 1 + 1 + 1, oN)]) ?lhh ?lhl ?lhsrc ?lhlL ?lF ?lN (fun i m nx => ∃ oS oN, nx = [(L' + 1 + 1 + 1 + 1 + 1 + 1, oS), (L' + 1 + 1 + 1 + 1 + 1, oN)] ∧ (∃ v, oS.data = .cell v) ∧ (∃ v, oN.data = .cell v)) ?lh0 ?lturn ?ldone
    case lhh => exact rfl
    case lhl => exact N2.isList (.head _)
    case lhsrc => exact .inl ⟨_, .head _⟩
    case lhlL => exact (N2 _ (.head _)).2.1
    case lF => exact F₁
    case lN => exact N2
    case lh0 => exact ⟨oS, oN, rfl, ⟨_, dS⟩, ⟨_, dN⟩⟩
    case lturn =>
      rintro i v m₁ nx h3 tk3 I oI hi ⟨oS, oN, rfl, ⟨vS, dS⟩, ⟨vN, dN⟩⟩ hnx F₃ N₃
      obtain ⟨n, tn, rfl, -⟩ := ints_get hnl hi
      k_fold
      simp only [List.cons_append, List.nil_append] at N₃
      have qI6 : @Ne Nat (L' + 1 + 1 + 1 + 1 + 1 + 1) I := hnx _ (.head _)
      have qI5 : @Ne Nat (L' + 1 + 1 + 1 + 1 + 1) I := hnx _ (.tail _ (.head _))
      clear N2 N₁ F₁
      k_steps
      unfold Stop
      rename Fr _ _ _ _ => FF
      rename News _ _ _ _ => NN
      refine tree_spec w _ _ _ _ _ _ _ _ _ _ n tn FF NN X T (by dsimp only [Around.deeper]; omega) rfl ?_
      intro r c1 c2 t0 t1 t2 u0 u1 u2 u3 tm h4 tk4 F4 N4
      clear FF NN
      simp only [treeObjs, List.cons_append, List.nil_append] at N4
      k_steps
      unfold Stop
      rename Fr _ _ _ _ => FF
      rename News _ _ _ _ => NN
      refine tree_page (n := n) _ _ _ mg mb _ _ _ _ _ _ _ _ _ FF NN (fun p hp => by
        simp only [treeObjs, List.mem_cons, List.not_mem_nil, or_false] at hp
        rcases hp with rfl | rfl | rfl <;> (repeat (first | exact List.Mem.head _ | apply List.Mem.tail))) X T (by dsimp only [Around.deeper]; omega) rfl ?_ ?_
      · exact len_four (pick4_mem _ _ _ _ _) (pick4_mem _ _ _ _ _)
      intro ra rvs re h5 tk5 hrv F5 N5 na
      clear FF NN
      obtain ⟨ld, sp, hld, hsp, hrv⟩ : ∃ ld sp, ld ∈ fourA ∧ sp ∈ fourB ∧ StrsAre rvs (pageT (sgc (dg3 n 0)) (sgc (dg3 n 1)) (sgc (dg3 n 2)) (nmc (dg2 n 0)) (nmc (dg2 n 1)) (nmc (dg2 n 2)) (nmc (dg2 n 3)) (midC (dgm n)) ld sp) := ⟨_, _, pick4_mem _ _ _ _ _, pick4_mem _ _ _ _ _, hrv⟩
      replace N5 := news_sub N5 (news' := (ra, W.listOf rvs.toArray re) :: _) (fun p hp => (List.mem_cons.mp hp).elim (fun e => by rw [e]; exact .head _) fun hp => .tail _ (.tail _ (.tail _ hp)))
      k_steps
      unfold Stop
      rename Fr _ _ _ _ => FF
      rename News _ _ _ _ => NN
      refine read_spec w _ _ _ mg mb _ _ _ _ _ ra rvs re (rowsT (sgc (dg3 n 0)) (sgc (dg3 n 1)) (sgc (dg3 n 2)) (nmc (dg2 n 0)) (nmc (dg2 n 1)) (nmc (dg2 n 2)) (nmc (dg2 n 3)) (midC (dgm n)) ld sp) FF NN (.head _) (by rw [rowsT_page]; exact hrv) (rowsT_len _ _ _ _ _ _ _ _ (midC_len _) _ _)
        (rows_hyp hld hsp (five_sign (sgc_sign _)) (five_sign (sgc_sign _)) (five_sign (sgc_sign _)) (five_xy (nmc_xy _)) (five_xy (nmc_xy _)) (five_xy (nmc_xy _)) (five_xy (nmc_xy _)) fun k hk => five_xy (midC_xy _ k hk)) X T (by dsimp only [Around.deeper]; omega) rfl ?_
      intro rb sv es V0 h6 tk6 hsv F6 N6
      rw [read_tree hld hsp (five_sign (sgc_sign _)) (five_sign (sgc_sign _)) (five_sign (sgc_sign _)) (five_xy (nmc_xy _)) (five_xy (nmc_xy _)) (five_xy (nmc_xy _)) (five_xy (nmc_xy _)) (fun k hk => five_xy (midC_xy _ k hk)) (midC_len _)] at hsv
      obtain ⟨V, hV0, hVl, hsv⟩ := steps_lists hsv
      clear FF NN
      replace N6 := news_sub N6 (news' := [(rb, W.listOf sv.toArray es), (r, W.listOf (.str (sgS n 0) t0 :: .ref c1 :: (midV (dgm n) tm ++ [.ref c2])).toArray 0), (c1, W.listOf [.str (sgS n 1) t1, .str (nmS n 0) u0, .str (nmS n 1) u1].toArray 0),
        (c2, W.listOf [.str (sgS n 2) t2, .str (nmS n 2) u2, .str (nmS n 3) u3].toArray 0), (I, oI), (D, lstObj ys ep), (lF, W.listOf vF.toArray 0), (lH, W.listOf vH.toArray 0), (lL, W.listOf vL.toArray 0), (L' + 1 + 1 + 1 + 1, oF), (L' + 1 + 1 + 1, oH), (L' + 1 + 1, oLv), (L' + 1 + 1 + 1 + 1 + 1 + 1, oS), (L' + 1 + 1 + 1 + 1 + 1, oN)] ++ V) (fun p hp => by
          rcases List.mem_append.mp hp with hp | hp
          · simp only [List.mem_cons, List.not_mem_nil, or_false] at hp
            rcases hp with rfl | rfl | rfl | rfl | rfl | rfl | rfl | rfl | rfl | rfl | rfl | rfl | rfl | rfl
            · exact .head _
            all_goals (refine .tail _ (List.mem_append_right _ ?_); (repeat (first | exact List.Mem.head _ | apply List.Mem.tail)))
          · exact .tail _ (List.mem_append_left _ (hV0 p hp)))
      simp only [List.cons_append, List.nil_append] at N6
      have x1 := cell_ne N6 (N6mem6 _ _ _ _ _ _ _ _ _ _ _ _ _ _ _) (.head _) dS
      have x2 := cell_ne N6 (N6mem6 _ _ _ _ _ _ _ _ _ _ _ _ _ _ _) (.tail _ (.head _)) dS
      have x3 := cell_ne N6 (N6mem6 _ _ _ _ _ _ _ _ _ _ _ _ _ _ _) (.tail _ (.tail _ (.head _))) dS
      have x4 := cell_ne N6 (N6mem6 _ _ _ _ _ _ _ _ _ _ _ _ _ _ _) (.tail _ (.tail _ (.tail _ (.head _)))) dS
      have y1 := cell_ne N6 (N6mem5 _ _ _ _ _ _ _ _ _ _ _ _ _ _ _) (.head _) dN
      have y2 := cell_ne N6 (N6mem5 _ _ _ _ _ _ _ _ _ _ _ _ _ _ _) (.tail _ (.head _)) dN
      have y3 := cell_ne N6 (N6mem5 _ _ _ _ _ _ _ _ _ _ _ _ _ _ _) (.tail _ (.tail _ (.head _))) dN
      have y4 := cell_ne N6 (N6mem5 _ _ _ _ _ _ _ _ _ _ _ _ _ _ _) (.tail _ (.tail _ (.tail _ (.head _)))) dN
      have xV : ∀ p ∈ V, p.1 ≠ L' + 1 + 1 + 1 + 1 + 1 + 1 := fun p hp => by
        obtain ⟨xs, e9, h9⟩ := hVl p hp
        exact Ne.symm (cell_ne (p := p.1) N6 (N6mem6 _ _ _ _ _ _ _ _ _ _ _ _ _ _ _) (by rw [← h9]; exact N6memV _ _ _ _ _ _ _ _ _ _ _ _ _ _ hp) dS)
      have yV : ∀ p ∈ V, p.1 ≠ L' + 1 + 1 + 1 + 1 + 1 := fun p hp => by
        obtain ⟨xs, e9, h9⟩ := hVl p hp
        exact Ne.symm (cell_ne (p := p.1) N6 (N6mem5 _ _ _ _ _ _ _ _ _ _ _ _ _ _ _) (by rw [← h9]; exact N6memV _ _ _ _ _ _ _ _ _ _ _ _ _ _ hp) dN)
      generalize hoR : W.listOf (Value.str (sgS n 0) t0 :: .ref c1 :: (midV (dgm n) tm ++ [.ref c2])).toArray 0 = oR at N6
      generalize hoC : W.listOf [Value.str (sgS n 1) t1, .str (nmS n 0) u0, .str (nmS n 1) u1].toArray 0 = oC1 at N6
      generalize hoD : W.listOf [Value.str (sgS n 2) t2, .str (nmS n 2) u2, .str (nmS n 3) u3].toArray 0 = oC2 at N6
      try dsimp only
      walk_at "storeName"
      k_steps
      unfold Stop
      rename Fr _ _ _ _ => FF
      rename News _ _ _ _ => NN
      have hsl20 : (stepsT (sgc (dg3 n 0)) (sgc (dg3 n 1)) (sgc (dg3 n 2)) (nmc (dg2 n 0)) (nmc (dg2 n 1)) (nmc (dg2 n 2)) (nmc (dg2 n 3)) (midC (dgm n))).length ≤ 20 := stepsT_len _ _ _ _ _ _ _ _ (midC_len _)
      have hlt := @light_lgt n
      generalize hS : stepsT (sgc (dg3 n 0)) (sgc (dg3 n 1)) (sgc (dg3 n 2)) (nmc (dg2 n 0)) (nmc (dg2 n 1)) (nmc (dg2 n 2)) (nmc (dg2 n 3)) (midC (dgm n)) = S at hsv hsl20 hlt
      refine' compAt2_list (items := vL) (src := _) ?nhh ?nhl ?nhs ?nF [] ?nN (fun i ys nx => nx = [] ∧ NmsAre ys (((lvls.take i).flatMap fun x => lvls.map (lgt S x)))) ?nh0 ?nturn ?ndone
      case nhh => exact rfl
      case nhl => exact NN.isList (by repeat (first | exact List.Mem.head _ | apply List.Mem.tail))
      case nF => exact FF
      case nN => rw [List.append_nil]; exact NN
      case nhs => exact .inl ⟨_, by repeat (first | exact List.Mem.head _ | apply List.Mem.tail)⟩
      case nh0 => exact ⟨rfl, .nil⟩
      case nturn =>
        rintro I2 C2 D2 oL2 oI2 i2 v2 m2 ys2 ep2 nx2 h7 tk7 E7 hi2 ⟨rfl, hys2⟩ hnx2 hI2 hID2 hDC2 hLD2 F7 N7
        k_fold
        rw [List.append_nil] at N7
        k_steps
        unfold Stop
        clear FF NN
        rename Fr _ _ _ _ => FF
        rename News _ _ _ _ => NN
        obtain ⟨x2, t2, rfl, hx2⟩ := nms_item iL hi2
        obtain ⟨U, hU⟩ : ∃ U, U = (lvls.take i2).flatMap (fun x => lvls.map (lgt S x)) := ⟨_, rfl⟩
        rw [← hU] at hys2
        have hx2m : x2 ∈ lvls := List.mem_of_getElem? hx2
        have hUl : U.length ≤ 9 := by rw [hU]; exact nine_len _ _
        rw [List.append_nil] at hI2
        have hD2 := fun (p : Addr × Obj) hp => Nat.lt_trans (hI2 p hp) hID2
        refine' inner_list (items := vL) (src := (I2, oI2) :: (L', oL2) :: _) (nx0 := []) ?phh ?phl ?phs ?phC FF (news_sub NN mem_perm1) ?psD rfl rfl (J := fun j ys nx => nx = [] ∧ NmsAre ys (U ++ ((lvls.take j).map (lgt S x2)))) ?ph0 ?plen ?pturn ?pdone
        case phh => exact rfl
        case phl => exact NN.isList (by repeat (first | exact List.Mem.head _ | apply List.Mem.tail))
        case phs => exact .inl ⟨_, by repeat (first | exact List.Mem.head _ | apply List.Mem.tail)⟩
        case phC => exact Nat.ne_of_lt (Nat.lt_trans (hD2 (lL, _) (by repeat (first | exact List.Mem.head _ | apply List.Mem.tail))) hDC2)
        case psD =>
          rw [List.append_nil]
          intro p hp
          rcases List.mem_cons.mp hp with rfl | hp
          · exact Nat.ne_of_lt hID2
          · rcases List.mem_cons.mp hp with rfl | hp
            · exact Nat.ne_of_lt hLD2
            · exact Nat.ne_of_lt (hD2 p hp)
        case ph0 => exact ⟨rfl, by rw [List.take_zero, List.map_nil, List.append_nil]; exact hys2⟩
        case plen =>
          rintro j ys nx ⟨_, h9⟩
          have := h9.len
          have h10 : (lvls.take j).length ≤ 3 := by rw [List.length_take]; exact Nat.min_le_right _ _
          rw [List.length_append, List.length_map] at this
          omega
        case pturn =>
          rintro I3 j v ys3 ep3 nx3 h8 tk8 oI3 E8 hj ⟨rfl, hys3⟩ hnx3 hI3 hCI3 F8 N8
          k_fold
          rw [List.append_nil] at N8
          obtain ⟨y2, u2, rfl, hy2⟩ := nms_item iL hj
          k_steps
          all_goals (try k_data)
          unfold Stop
          rename Fr _ _ _ _ => FF
          rename News _ _ _ _ => NN
          have hy2m : y2 ∈ lvls := List.mem_of_getElem? hy2
          refine light_spec w _ _ _ mg mb _ _ _ _ _ rb _ sv [x2.val t2, y2.val u2] es 0 S [x2, y2] ((rb, W.listOf sv.toArray es) :: (_, W.listOf [x2.val t2, y2.val u2].toArray 0) :: V) (lgt S x2 y2) [] FF NN (.head _) (.tail _ (.head _)) ?_ (hsv.sub fun p hp => .tail _ (.tail _ hp)) (.cons x2 _ (.cons y2 _ .nil)) (by show 2 ≤ 20; decide) hsl20 (hlt hx2m hy2m) X T (by dsimp only [Around.deeper]; omega) rfl ?_
          · intro p hp
            rcases List.mem_cons.mp hp with rfl | hp
            · repeat (first | exact List.Mem.head _ | apply List.Mem.tail)
            · rcases List.mem_cons.mp hp with rfl | hp
              · exact .head _
              · repeat (first | exact hp | apply List.Mem.tail)
          · intro h9 tk9 t9 F9 N9
            refine ⟨_, _, [], rfl, F9, by rw [List.append_nil]; exact news_sub N9 (fun _ h => .tail _ h), List.forall_mem_nil _, rfl, ?_⟩
            rw [List.take_add_one, hy2, Option.toList_some, List.map_append, ← List.append_assoc]
            exact nms_snoc hys3 _ _
        case pdone =>
          rintro m3 ys3 ep3 nx3 h8 tk8 ⟨rfl, hys3⟩ hnx3 F8 N8
          rw [List.append_nil] at N8
          refine ⟨_, _, _, ys3, ep3, [], rfl, F8, by rw [List.append_nil]; exact news_sub N8 mem_perm2, List.forall_mem_nil _, rfl, ?_⟩
          rw [show vL.length = 3 from iL.len, show lvls.take 3 = lvls from rfl] at hys3
          rw [List.take_add_one, hx2, Option.toList_some, List.flatMap_append, ← hU]
          simpa using hys3
      case ndone =>
        rintro D3 ys3 ep3 nx3 h7 tk7 hp7 ⟨rfl, hys3⟩ hD3 F7 N7
        rw [List.append_nil] at N7 hD3
        rw [show vL.length = 3 from iL.len, show lvls.take 3 = lvls from rfl] at hys3
        clear FF NN
        k_fold
        have xD3 : @Ne Nat (L' + 1 + 1 + 1 + 1 + 1 + 1) D3 := hD3 (_, oS) (by repeat (first | exact List.Mem.head _ | apply List.Mem.tail))
        try dsimp only
        walk_at "storeName"
        k_steps
        unfold Stop
        rename Fr _ _ _ _ => FF
        rename News _ _ _ _ => NN
        refine' compAt2_range (n := 4) (src := _) ?shh ?shr ?shs ?shn ?shF [] ?shN (fun i ys nx => nx = [] ∧ ShL n (4 * i) ys) ?sh0 ?shturn ?shdone
        case shh => exact rfl
        case shr => assumption
        case shs => decide
        case shn => decide
        case shF => exact FF
        case shN => rw [List.append_nil]; exact NN
        case sh0 => exact ⟨rfl, .nil n⟩
        case shturn =>
          rintro I4 C4 D4 oL4 oI4 i4 t4 m4 ys4 ep4 nx4 h10 tk10 E10 hi4 ⟨rfl, hys4⟩ hnx4 hI4 hID4 hDC4 hLD4 F10 N10
          k_fold
          rw [List.append_nil] at N10 hI4
          simp only [Int.zero_add] at F10
          have hD4 := fun (p : Addr × Obj) hp => Nat.lt_trans (hI4 p hp) hID4
          clear FF NN
          k_steps
          unfold Stop
          rename Fr _ _ _ _ => FF
          rename News _ _ _ _ => NN
          refine' inner_range (n := 4) (src := (I4, oI4) :: (L', oL4) :: _) (nx0 := []) ?thh ?thr ?ths ?thn FF (news_sub NN mem_perm1) ?tsD rfl rfl (J := fun j ys nx => nx = [] ∧ j ≤ 4 ∧ ShL n (4 * i4 + j) ys) ?th0 ?tlen ?tturn ?tdone
          case thh => exact rfl
          case thr => assumption
          case ths => decide
          case thn => decide
          case tsD =>
            rw [List.append_nil]
            intro p hp
            rcases List.mem_cons.mp hp with rfl | hp
            · exact Nat.ne_of_lt hID4
            · rcases List.mem_cons.mp hp with rfl | hp
              · exact Nat.ne_of_lt hLD4
              · exact Nat.ne_of_lt (hD4 p hp)
          case th0 => exact ⟨rfl, Nat.zero_le _, hys4⟩
          case tlen =>
            rintro j ys nx ⟨_, h8, h9⟩
            have := h9.len
            omega
          case tturn =>
            rintro I5 j t5 ys5 ep5 nx5 h11 tk11 oI5 E11 hj ⟨rfl, _, hys5⟩ hnx5 hI5 hCI5 F11 N11
            k_fold
            rw [List.append_nil] at N11
            simp only [Int.zero_add] at F11
            obtain ⟨a1, ha1⟩ := ints_at iH (i := i4) hi4
            obtain ⟨a2, ha2⟩ := ints_at iH (i := j) hj
            obtain ⟨a3, ha3⟩ := ints_at iF (i := i4) hi4
            obtain ⟨a4, ha4⟩ := ints_at iF (i := j) hj
            obtain ⟨q, rr, hq, hrr, heq⟩ := shown_at n hi4 hj
            rw [show stN n = S from hS] at hq hrr
            clear FF NN
            obtain ⟨b1, hb1⟩ := nine_at hys3 (low_h i4 hi4).1 (low_h j hj).1
            obtain ⟨b2, hb2⟩ := nine_at hys3 (low_f i4 hi4).1 (low_f j hj).1
            have z1 := nine_ix (low_h i4 hi4).1 (low_h j hj).1
            have z2 := nine_ix (low_f i4 hi4).1 (low_f j hj).1
            k_steps
            all_goals (try k_data)
            unfold Stop
            rename News _ _ _ _ => NN
            refine item_M NN (e := ep3) (by repeat (first | exact List.Mem.head _ | apply List.Mem.tail)) z1.1 z1.2 hb1 ?_
            refine nm_mul (a := .i 2) hq ?_
            intro u9
            dsimp only
            k_steps
            all_goals (try k_data)
            unfold Stop
            refine item_M NN (e := ep3) (by repeat (first | exact List.Mem.head _ | apply List.Mem.tail)) z2.1 z2.2 hb2 ?_
            refine nm_add hrr ?_
            intro u10
            dsimp only
            rename Fr _ _ _ _ => FF
            rw [← Int.zero_add (j : Int)] at FF
            exact ⟨_, _, [], rfl, FF, by rw [List.append_nil]; exact NN, List.forall_mem_nil _, rfl, hj, hys5.snoc hj _ heq⟩
          case tdone =>
            rintro m3 ys5 ep5 nx5 h11 tk11 ⟨rfl, _, hys5⟩ hnx5 F11 N11
            rw [List.append_nil] at N11
            exact ⟨_, _, _, ys5, ep5, [], rfl, F11, by rw [List.append_nil]; exact news_sub N11 mem_perm2, List.forall_mem_nil _, rfl, hys5⟩
        case shdone =>
          rintro D4 ys4 ep4 nx4 h10 tk10 hp10 ⟨rfl, hys4⟩ hD4 C4 oC4 E4 hC4 F10 N10
          k_fold
          rw [List.append_nil] at N10 hC4 hD4
          clear FF NN
          k_steps
          rename Fr _ _ _ _ => FF
          rename News _ _ _ _ => NN
          refine AsgPost.intro FF NN hC4 ?_
          intro h12 tk12 F12 N12
          clear FF NN
          k_steps
          unfold Stop
          rename Fr _ _ _ _ => FF
          rename News _ _ _ _ => NN
          refine kdn_str rfl FF NN T.nolimit rfl rfl (List.cons_ne_nil _ _) (Nat.le_of_ble_eq_true rfl) ?_
          intro nd h13 o13 F13 N13 l13 lo13 hd13
          clear FF NN
          k_steps
          unfold Stop
          rename Fr _ _ _ _ => FF
          rename News _ _ _ _ => NN
          refine' compAt_range (n := 16) (src := _) ?xhh ?xhr ?xhs ?xhn ?xhz ?xF [] ?xN (fun i ys nx => nx = [] ∧ IntsAre ys ((List.range i).map fun k : Nat => Int.fdiv k 4)) ?xh0 ?xhl ?xturn ?xdone
          case xhh => exact rfl
          case xhr => assumption
          case xF => exact FF
          case xN => rw [List.append_nil]; exact NN
          case xhs => decide
          case xhn => decide
          case xhz => decide
          case xh0 => exact ⟨rfl, .nil⟩
          case xhl => rintro i ys nx ⟨_, h⟩; have := h.length; simpa using this
          case xturn =>
            rintro I6 C6 D6 oL6 oI6 i6 t6 m6 ys6 ep6 nx6 h14 tk14 E14 hi6 ⟨rfl, hys6⟩ hnx6 hI6 hID6 hDC6 hLD6 F14 N14
            k_fold
            rw [List.append_nil] at N14
            simp only [Int.zero_add] at F14
            clear FF NN
            k_steps
            all_goals (try k_data)
            rename Fr _ _ _ _ => FF
            rename News _ _ _ _ => NN
            refine ⟨_, _, _, [], rfl, FF, by rw [List.append_nil]; exact NN, List.forall_mem_nil _, rfl, ?_⟩
            rw [List.range_succ, List.map_append]
            exact ints_snoc hys6 _ _
          case xdone =>
            rintro D6 ys6 ep6 nx6 h14 tk14 hp14 ⟨rfl, hys6⟩ hD6 F14 N14
            rw [List.append_nil] at N14
            clear FF NN
            k_steps
            unfold Stop
            rename Fr _ _ _ _ => FF
            rename News _ _ _ _ => NN
            refine' compAt_range (n := 16) (src := _) ?yhh ?yhr ?yhs ?yhn ?yhz ?yF [] ?yN (fun i ys nx => nx = [] ∧ IntsAre ys ((List.range i).map fun k : Nat => Int.fmod k 4)) ?yh0 ?yhl ?yturn ?ydone
            case yhh => exact rfl
            case yhr => assumption
            case yF => exact FF
            case yN => rw [List.append_nil]; exact NN
            case yhs => decide
            case yhn => decide
            case yhz => decide
            case yh0 => exact ⟨rfl, .nil⟩
            case yhl => rintro i ys nx ⟨_, h⟩; have := h.length; simpa using this
            case yturn =>
              rintro I7 C7 D7 oL7 oI7 i7 t7 m7 ys7 ep7 nx7 h15 tk15 E15 hi7 ⟨rfl, hys7⟩ hnx7 hI7 hID7 hDC7 hLD7 F15 N15
              k_fold
              rw [List.append_nil] at N15
              simp only [Int.zero_add] at F15
              clear FF NN
              k_steps
              all_goals (try k_data)
              rename Fr _ _ _ _ => FF
              rename News _ _ _ _ => NN
              refine ⟨_, _, _, [], rfl, FF, by rw [List.append_nil]; exact NN, List.forall_mem_nil _, rfl, ?_⟩
              rw [List.range_succ, List.map_append]
              exact ints_snoc hys7 _ _
            case ydone =>
              rintro D7 ys7 ep7 nx7 h15 tk15 hp15 ⟨rfl, hys7⟩ hD7 F15 N15
              rw [List.append_nil] at N15
              clear FF NN
              have w6 : @Ne Nat nd D6 := hD6 (nd, o13) (List.mem_append_left _ (.head _))
              have w7 : @Ne Nat nd D7 := hD7 (nd, o13) (List.mem_append_left _ (.tail _ (.head _)))
              k_steps
              refine dict_two F15 N15 w7 w6 l13 hd13 (by decide) ?_
              intro h16 tk16 tx ty dn F16 N16
              k_steps
              unfold Stop
              subst hoR hoC hoD
              refine tree_own (n := n) _ _ _ mg mb _ _ _ _ _ ⟨nd, D6, D7, tx, ty, dn, ys6, ys7⟩ ep6 ep7 _ _ F16 N16 (fun p hp => by
                simp only [treeObjs, List.mem_cons, List.not_mem_nil, or_false] at hp
                rcases hp with rfl | rfl | rfl <;> (repeat (first | exact List.Mem.head _ | apply List.Mem.tail))) (fun p hp => by
                simp only [nmObjs, List.mem_cons, List.not_mem_nil, or_false] at hp
                rcases hp with rfl | rfl | rfl <;> (repeat (first | exact List.Mem.head _ | apply List.Mem.tail))) lo13 hys6 hys7 (by decide) (by decide) X T (by dsimp only [Around.deeper]; omega) rfl ?_
              intro rr rvs2 re2 h17 tk17 hro hrl hor F17 N17
              clear F15 N15 F16 N16
              k_steps
              unfold Stop
              obtain ⟨sl, hsl1, hsl2, hsl3⟩ := hys4
              refine ne_mixed (ls := sl) (N17.isList (by repeat (first | exact List.Mem.head _ | apply List.Mem.tail))) (N17.isList (.head _)) hsl1 hro (by rw [hsl2, hrl]) (fun i x k e1 e2 => own_gN e1 e2 hsl2 hsl3) (by dsimp only [Around.deeper]; omega) ?_
              k_steps
              refine ⟨_, _, _, [(L' + 1 + 1 + 1 + 1 + 1 + 1, _), (L' + 1 + 1 + 1 + 1 + 1, _)], rfl, F17, news_sub N17 ?_, ?_, _, _, rfl, ⟨some (.ref D3), by assumption⟩, ⟨some (.ref rb), by assumption⟩⟩
              · intro p hp
                simp only [List.cons_append, List.nil_append, List.mem_cons, List.not_mem_nil, or_false] at hp
                rcases hp with rfl | rfl | rfl | rfl | rfl | rfl | rfl | rfl | rfl | rfl <;> (repeat (first | exact List.Mem.head _ | apply List.Mem.tail))
              · intro p hp
                simp only [List.mem_cons, List.not_mem_nil, or_false] at hp
                rcases hp with rfl | rfl
                · exact qI6
                · exact qI5
    case ldone =>
      rintro m₁ nx h3 tk3 ⟨oS, oN, rfl, _, _⟩ F₃ N₃
      k_steps
      exact h h3 tk3 F₃.keep

end
example : True := by first | walk1 | trivial
end
example : True := by first | walk1 | trivial
theorem law_at {mg : Str → Option Value} {P : Params} {h : Heap} {fa : Addr} (X : (KK P).In h) (G : h.Ns mainGlobals mg) (hmg : mg (Str.ofString "law") = some (.ref fa)) : fa = 145 := by
  have e : mg (Str.ofString "law") = some (.ref 145) := mg_of X G (by with_unfolding_all rfl)
  rw [hmg] at e
  cases e
  rfl
end Mine
theorem PySem.Challenge.cw_rl0117_01_holds : PySem.Challenge.rw_rl0117_01.Holds := by
  w_on
  refine holds_law Mine.said fun _ => ?_
  refine holds_open (q := Mine.vw) (loose := Mine.lo) (Xt := Mine.xt) (XP := XL Mine.vw []) (Yf := Mine.obs) (Ya := Mine.val) (YP := (kHook Mine.KK Mine.ads Mine.ads_is).says) (N := 4642) Mine.left (kHook Mine.KK Mine.ads Mine.ads_is).of (kHook Mine.KK Mine.ads Mine.ads_is).keeps (fun s e => xl_of s (Bool.and_eq_true_iff.mp e).1) XL.keeps (by rfl) (by rfl) (by rfl) (fun s e => recFacts_of (Bool.and_eq_true_iff.mp e).2) (by rfl) (by first | assumption | decide +kernel) (by decide +kernel) ⟨rfl, rfl, rfl, rfl, rfl, by decide +kernel⟩ ?hw ?hc
  case hw => w_witness2
  case hc =>
    intro w s₀ s₁ mg mb G Y fa o pm cd doc dV kV ho hd hcd hD hmg hg args vals as hpre hlay hrd hwl hlo
    have KX := kIn_of Y
    refine Ground.open G ?_
    intro T B D TE TW
    have TT : Mine.TR mg mb s₁.heap := topRead_of T
    have ef : fa = 145 := Mine.law_at KX T.g hmg
    clear ho hd hcd hD hmg T B D TE TW Y G
    subst ef
    wrow_args hpre hlay hrd hwl hlo
    rename IntsAre _ _ => hI
    rename Heap.IsList _ _ _ => hL
    rename_i hc1 hc2
    refine Mine.law_spec w callerA _ s₁ mg mb _ _ _ _ hL hI (by omega) KX TT (by decide +kernel) (by decide +kernel) rfl ?_
    intro h' tk st
    exact GoodW.toG ⟨.inl ⟨_, .bool true, [], rfl, fun _ => rfl, .bool true, by first | (with_unfolding_all rfl) | kernel_rfl | (w_fin), fun _ => ⟨List.nodup_nil, fun _ h => by cases h⟩⟩, st, rfl, hg⟩
