import PyProof.Rows.All
import Wide.All
import OpenK.AllK
import Wide.FinOn
import Lean
import PySem.Challenge.RW_il0214_01
set_option Elab.async false
set_option maxRecDepth 100000
set_option maxHeartbeats 4000000
set_option compiler.extract_closed false
set_option linter.all false
set_option genSizeOf false
set_option genInjectivity false
open PySem PySem.W PySem.Calls PyProof.Rows
namespace Il
open Lean
/-- the lines of the walker, written short: nodes, atoms -/
def mlK (k : String) (l : List Syntax) : Syntax := .node .none k.toName l.toArray
def mlA (s : String) : Syntax := .atom .none s
def mlQ (k : String) (l : List Syntax) : Syntax := mlK ("Lean.Parser.Tactic." ++ k) l
def mlO (l : List Syntax) : Syntax := mlQ "tacticSeq" [mlQ "tacticSeq1Indented" [mlK "null" l]]
def mlS (t : Syntax) : Syntax := mlO [t]
def mlThen (a b : Syntax) : Syntax := mlQ "paren" [mlA "(", mlO [a, mlA ";", b], mlA ")"]
def mlU (k w : String) (t : Syntax) : Syntax := mlQ k [mlA w, t]
/-- a hygienic name of a line -/
def mlN (s : String) : MacroM Syntax := do return mkIdent (← Macro.addMacroScope (.mkSimple s))
def mlD (s : String) : String := (s.drop 1).toString
def mlF (l : List Syntax) : Syntax := mlU "first" "first" (mlK "null" (l.map fun t => mlK "group" [mlA "|", mlS t]))
def mlE : Syntax := mlU "withUnfoldingAll" "with_unfolding_all" (mlS (mlQ "tacticRfl" [mlA "rfl"]))
def mlH : Syntax := mlU "withReducible" "with_reducible" (mlS (mlQ "assumption" [mlA "assumption"]))
def mlR : Syntax := mlU "tacticRepeat_" "repeat" (mlS (mlF [mlH, mlU "apply" "apply" (mkIdent `List.mem_cons_of_mem)]))
/-- the short tactics that lines are made of -/
def mlW (w : String) : Syntax :=
  if w.startsWith "k_" then mlK ("PySem.W.tacticK" ++ mlD w) [mlA w]
  else if w == "sw" then mlU "tacticTry_" "try" (mlS (mlK "PySem.W.tacticK_sweep" [mlA "k_sweep"]))
  else if w == "lia" || w == "decide" then mlU w w (mlQ "optConfig" [mlK "null" []])
  else if w == "wu" then mlE
  else if w == "hyp" then mlH
  else if w == "assumption" then mlQ w [mlA w]
  else if w == "rfl" then mlU "exact" "exact" (mkIdent `rfl)
  else if w == "deck" then mlU "decide" "decide" (mlQ "optConfig" [mlK "null" [mlQ "configItem" [mlQ "posConfigItem" [mlA "+", mkIdent `kernel]]]])
  else if w == "boot_fast" then mlK "PyProof.Rows.tacticBoot_fast" [mlA w]
  else if w == "ado" then mlF [mlQ "assumption" [mlA "assumption"], mlU "decide" "decide" (mlQ "optConfig" [mlK "null" []]), mlU "lia" "lia" (mlQ "optConfig" [mlK "null" []])]
  else if w == "memh" then mlR
  else if w == "sub" then mlThen (mlU "intro" "intro" (mlK "null" [mkIdent `p, mkIdent `hp])) mlR
  else if w == "iwu" then mlThen (mlU "intro" "intro" (mlK "null" [mkIdent `p])) mlE
  else if w == "intros" then mlU "allGoals" "all_goals" (mlS (mlU w w (mlK "null" [])))
  else mlK "PyProof.Rows.tacticWalk_at_" [mlA "walk_at", Syntax.mkStrLit w]
/-- a term: names, holes, ?x, {w} for (by w), brackets; %x is a line's own name -/
def mlT : Nat → List String → List Syntax → MacroM (Syntax × List String)
  | 0, _, _ => Macro.throwUnsupported
  | n + 1, ts, acc => do
    let fin (r : List String) : Syntax × List String := match acc.reverse with
      | [] => (.missing, r)
      | [f] => (f, r)
      | f :: as => (mlK "Lean.Parser.Term.app" [f, mlK "null" as], r)
    match ts with
    | [] => return fin []
    | t :: r =>
      if t == ")" then return fin r
      else if t == "(" then
        let (t, r) ← mlT n r []
        mlT n r (t :: acc)
      else
        let x := mlD t
        let q (y : Syntax) : Syntax := mlK "Lean.Parser.Term.syntheticHole" [mlA "?", y]
        let a : Syntax ← if t == "_" then pure (mlK "Lean.Parser.Term.hole" [mlA "_"])
          else if t == "?_" then pure (q (mlA "_"))
          else if t.startsWith "?" then q <$> mlN x
          else if t.startsWith "{" then pure (mlK "Lean.Parser.Term.byTactic" [mlA "by", mlS (mlW x)])
          else if t.startsWith "%" then mlN x
          else if t.startsWith "$" then pure (Syntax.mkStrLit x)
          else if t.startsWith "@" then pure (mlK "Lean.Parser.Term.namedArgument" (match x.splitOn "=" with
            | [a, b] => [mlA "(", mkIdent a.toName, mlA ":=", if b == "_" then mlK "Lean.Parser.Term.hole" [mlA "_"] else Syntax.mkNumLit b, mlA ")"]
            | _ => []))
          else pure (mkIdent t.toName)
        mlT n r (a :: acc)
def mlWords (s : String) : List String := (((s.replace "{@pre" "{assumption {k_asm {assumption {k_asm rfl {@lim {@lim").replace "}" "").splitOn " ").filter (· ≠ "")
def mlTerm (ts : List String) : MacroM Syntax := do return (← mlT 1000 ts []).1
/-- the closers of a rule's named goals -/
def mlC : List String → MacroM Syntax
  | k :: w :: r => do
    let t ← if w.startsWith "=" then mlU "exact" "exact" <$> mlTerm (mlWords ((mlD w).replace "~" " ")) else pure (mlW w)
    let c := mlQ "case" [mlA "case", mlK "null" [mlQ "caseArg" [mlK "Lean.binderIdent" [← mlN k], mlK "null" []]], mlA "=>", mlS t]
    if r.isEmpty then return c else return mlThen c (← mlC r)
  | _ => return mlW "k_here"
/-- one part of a line: R refine', r refine, s show, i intro, c closers, l addresses, else a word -/
def mlP : List String → MacroM Syntax
  | [] => return mlW "k_here"
  | k :: r =>
    if k == "R" then mlU "refine'" "refine'" <$> mlTerm r
    else if k == "r" then mlU "refine" "refine" <$> mlTerm r
    else if k == "s" then (do return mlU "withReducible" "with_reducible" (mlS (mlU "show" "show" (← mlTerm r))))
    else if k == "c" then mlC r
    else if k == "i" then (do return mlU "intro" "intro" (mlK "null" (← r.mapM fun x => if x == "_" then pure (mlK "Lean.Parser.Term.hole" [mlA "_"]) else mlN x)))
    else if k == "no" then (do return mlU "failIfSuccess" "fail_if_success" (mlS (mlQ "rename" [mlA "rename", mkIdent (r.headD "").toName, mlA "=>", ← mlN "g"])))
    else if k == "l" then (do return mlU "tacticTry_" "try" (mlS (mlK "PySem.W.tacticK_lt_" [mlA "k_lt", ← mlN (r.headD "")])))
    else return mlW k
def mlSeq : List String → MacroM Syntax
  | [] => return mlW "k_here"
  | [a] => mlP (mlWords a)
  | a :: r => do return mlThen (← mlP (mlWords a)) (← mlSeq r)
def mlAlts : List String → MacroM Syntax
  | [] => return mlW "k_here"
  | [a] => mlSeq (a.splitOn ";")
  | a :: r => do
    return mlF [← mlSeq (a.splitOn ";"), ← mlAlts r]
/-- a line: [ahead &] rule | rule .. [! behind] -/
def mlLine (t : String) : MacroM Syntax := do
  let (p, t) := match t.splitOn "&" with | [a, b] => ("k_here;" ++ a, b) | _ => ("k_here", t)
  let (t, b) := match t.splitOn "!" with | [a, b] => (a, b) | _ => (t, "")
  let x ← mlAlts (t.splitOn "|")
  let x := mlK "PySem.W.tacticK_dflt_" [mlA "k_dflt", mlQ "paren" [mlA "(", mlS x, mlA ")"]]
  let x ← if b == "" then pure x else mlThen x <$> mlSeq (b.splitOn ";")
  return mlThen (← mlSeq (p.splitOn ";")) x
/-- the line of a section at a key -/
def ml (s : TSyntax `str) (ls : String) : MacroM (TSyntax `tactic) := do
  match (ls.splitOn "\n").find? fun l => (mlD l).startsWith (s.getString ++ " => ") with
  | some l => return ⟨← mlLine ((l.splitOn " => ").getD 1 "")⟩
  | none => Macro.throwUnsupported
end Il
namespace Il
noncomputable abbrev prog : Program := PySem.Challenge.pw_il0214_01
noncomputable def stm (i : Nat) : Stmt := (prog.main.body[i]?).getD (.Pass ⟨0, 0, 0, 0⟩)
noncomputable def fname (i : Nat) : Str := match stm i with | .FunctionDef n _ _ _ _ _ _ _ _ _ => n | _ => ""
noncomputable def fargs (i : Nat) : Arguments := match stm i with | .FunctionDef _ a _ _ _ _ _ _ _ _ => a | _ => ⟨[], [], none, [], [], none, []⟩
noncomputable def fbody (i : Nat) : List Stmt := match stm i with | .FunctionDef _ _ b _ _ _ _ _ _ _ => b | _ => []
noncomputable def fscope (i : Nat) : Scope := match stm i with | .FunctionDef _ _ _ _ _ _ s _ _ _ => s | _ => prog.main.scope

/-- a program with nothing in it, for the library's facts about a top -/
noncomputable def noProg : Program := { main := { body := [], scope := prog.main.scope, futureAnnotations := false, file := "/claim/cut.py", more := [] }, modules := [], parses := [], absent := [], harvested := [], given := { argv := [], stdin := [], environ := none } }
noncomputable abbrev noMean : ExcName → Option Value := fun _ => none
noncomputable abbrev Led := List (Addr × Obj)

noncomputable def defNames : List Str := ["_strcoll", "_strxfrm", "_append_modifier", "_build_localename", "in_table_b1", "map_table_b3", "in_table_c4", "in_table_c6", "in_table_c7", "in_table_c8", "in_table_c9",
  "_law_letter", "_law_word", "_law_barred", "_law_figures", "_law_parts", "_law_prepared", "_law_settled", "_law_written", "_law_number", "_law_row", "law"]

noncomputable def objNames : List Str := ["b1_set", "c6_set", "c7_set", "c8_set", "c9_set", "b3_exceptions"]
noncomputable def setNames : List Str := ["b1_set", "c6_set", "c7_set", "c8_set", "c9_set"]
noncomputable def biNames : List Str := ["len", "chr", "ord", "range", "sorted", "list", "max", "min", "isinstance", "bool", "TypeError", "ValueError", "set"]
noncomputable def upTo (a n : Nat) : List Int := (List.range n).map fun i => ((a + i : Nat) : Int)
noncomputable def b1L : List Int := [173, 847, 6150, 6155, 6156, 6157, 8203, 8204, 8205, 8288, 65279] ++ upTo 65024 16
noncomputable def c6L : List Int := upTo 65529 5
noncomputable def c7L : List Int := upTo 12272 12
noncomputable def c8L : List Int := [832, 833, 8206, 8207] ++ upTo 8234 5 ++ upTo 8298 6
noncomputable def c9L : List Int := [917505] ++ upTo 917536 96
noncomputable def setData (x : Str) : List Int := if x = "b1_set" then b1L else if x = "c6_set" then c6L else if x = "c7_set" then c7L else if x = "c8_set" then c8L else c9L

/-- the pairs of the written table b3_exceptions, read off the text -/
noncomputable def b3Of : Expr → Option (List (Int × Str))
  | .Dict ks vs _ => (ks.zip vs).mapM fun
      | (some (.Constant (.int k) _ _), .Constant (.str v) _ _) => some (k, v)
      | _ => none
  | _ => none
noncomputable def b3L : List (Int × Str) := match stm 13 with | .Assign _ e _ => (b3Of e).getD [] | _ => []
noncomputable def b3At (c : Int) : Option Str := (b3L.find? fun p => p.1 = c).map (·.2)

structure FnAt (ad : Str → Addr) (h : Heap) (i : Nat) : Prop where
  made : ∃ pm cd, h.get? (ad (fname i)) = some { cls := .type "function", data := .func (fnX (fname i) (fname i) (fargs i) (fbody i) (fscope i) [] .none .none .none pm none cd .none) } ∧ h.CodeRec cd (fname i)
theorem FnAt.keeps {ad h h' i} (x : FnAt ad h i) (k : ∀ b o, h.get? b = some o → h'.get? b = some o) : FnAt ad h' i :=
  ⟨let ⟨pm, cd, a, b⟩ := x.made; ⟨pm, cd, k _ _ a, b.keeps k⟩⟩

noncomputable def isDef (i : Nat) : Bool := ([2, 3, 5, 6, 12, 14, 15, 17, 19, 21, 23, 25, 26, 27, 28, 29, 30, 31, 32, 33, 34, 35] : List Nat).contains i

noncomputable def IsB3 (f : Int → Option Value) : Prop := ∀ c, match b3At c with | some s => ∃ t, f c = some (.str s t) | none => f c = none

structure G (w : World) (mg mb : Str → Option Value) (loose : List Str) (ad : Str → Addr) (h : Heap) : Prop where
  T : Top noProg loose noMean mg mb h
  bound : ∀ x, (defNames ++ objNames).contains x = true → mg x = some (.ref (ad x))
  free : ∀ x, biNames.contains x = true → mg x = none
  fn : ∀ i, isDef i = true → FnAt ad h i
  sets : ∀ x, setNames.contains x = true → h.SetOf (intKind prog w) (ad x) (fun k => (setData x).contains k) (setData x).length
  b3 : ∃ f, h.MapOf (intKind prog w) (ad "b3_exceptions") f ∧ IsB3 f
  b3ne : (ad "b3_exceptions" == sysModules) = false
theorem SetOf_keeps {K : Type} [DecidableEq K] {w : World} {knd : PySem.KeyKind prog w K} {h h' : Heap} {a S n} (x : h.SetOf knd a S n) (k : ∀ b o, h.get? b = some o → h'.get? b = some o) : h'.SetOf knd a S n :=
  let ⟨o, es, ep, t, ho, r⟩ := x; ⟨o, es, ep, t, k _ _ ho, r⟩
theorem MapOf_keeps {K : Type} [DecidableEq K] {w : World} {knd : PySem.KeyKind prog w K} {h h' : Heap} {a f} (x : h.MapOf knd a f) (k : ∀ b o, h.get? b = some o → h'.get? b = some o) : h'.MapOf knd a f :=
  let ⟨o, es, ep, ho, r⟩ := x; ⟨o, es, ep, k _ _ ho, r⟩
theorem G.keeps {w mg mb loose ad h h'} (x : G w mg mb loose ad h) (k : ∀ b o, h.get? b = some o → h'.get? b = some o) : G w mg mb loose ad h' :=
  ⟨x.T.keeps k, x.bound, x.free, fun i hi => (x.fn i hi).keeps k, fun y hy => SetOf_keeps (x.sets y hy) k, let ⟨f, a, b⟩ := x.b3; ⟨f, MapOf_keeps a k, b⟩, x.b3ne⟩

section
variable (w : World) (mg mb : Str → Option Value) (loose : List Str) (ad : Str → Addr)

structure Says (x : Str) (d u : Nat) (vs : List Value) (news : Led) (post : Value → Led → Prop) : Prop where
  run : ∀ (dp un : Nat) (gd : Option (List Code)) (cn : Str) (cs : Scope) (a : Addr) (ccd : Value) (cl : List (Str × Addr)) (outer : List Env) (A₀ : Around) (base h₀ : Heap) (L : Addr) (m : Str → Option Value) (s : Shared) (Q E : Value → Shared → Prop),
    Below A₀ base outer h₀ → Fr h₀ L s.heap m → G w mg mb loose ad h₀ → News h₀ L s.heap news → cs.kind = .function → dp + d < recursionLimit → un + u < cLine →
    (∀ r tl h' tk', Fr h₀ L h' m → News h₀ L h' (tl ++ news) → (∀ q ∈ news, ∀ p ∈ tl, q.1 < p.1) → post r tl → Q r { s with heap := h', toks := tk' }) →
    wpAny (model prog w) (ktrTop dp un gd cn cs L a ccd cl outer) (call (.ref (ad x)) vs) Q E s

structure Body (i d u : Nat) (vs : List Value) (news : Led) (post : Value → Led → Prop) : Prop where
  run : ∀ (dp un : Nat) (gd : Option (List Code)) (cd : Value) (outer : List Env) (A₀ : Around) (base g : Heap) (L : Addr) (s : Shared) (Q : Flow → Shared → Prop),
    Below A₀ base outer g → Fr g L s.heap (fun y => (((fargs i).args.map (·.arg)).zip vs).reverse.lookup y) → G w mg mb loose ad g → News g L s.heap news → (∀ q ∈ news, q.1 < L) → dp + d < recursionLimit → un + u < cLine →
    (∀ v tl h' tk' m', Fr g L h' m' → News g L h' (tl ++ news) → (∀ q ∈ news, ∀ p ∈ tl, q.1 < p.1) → post v tl → Q (.ret v) { s with heap := h', toks := tk' }) →
    wpAny (model prog w) (ktrTop dp un gd (fname i) (fscope i) L (ad (fname i)) cd [] outer) (execs (fbody i) (envX (fname i) (fscope i) L (ad (fname i)) cd [])) Q (fun _ _ => False) s
end

theorem says_of_body {w mg mb loose ad} {i d u : Nat} {x : Str} {vs : List Value} {news : Led} {post : Value → Led → Prop} (hi : isDef i = true) (hx : fname i = x)
    (hbind : ∀ s pm cd, BindsTo s (fnX (fname i) (fname i) (fargs i) (fbody i) (fscope i) [] .none .none .none pm none cd .none) ⟨vs, []⟩ (((fargs i).args.map (·.arg)).zip vs))
    (hloc : ∀ y ∈ ((fargs i).args.map (·.arg)).zip vs, (fscope i).names.lookup y.1 = some .local)
    (hcell : ∀ x ∈ (fscope i).names, x.2 ≠ .cell) (hco : (fscope i).isCoroutine = false) (hgen : (fscope i).isGenerator = false) (hk : (fscope i).kind = .function)
    (hb : Body w mg mb loose ad i d u vs news post) : Says w mg mb loose ad x (d + 1) (u + 3) vs news post := by
  refine ⟨?_⟩
  intro dp un gd cn cs a ccd cl outer A₀ base h₀ L m s Q E B F g N hcs hd hu ret
  obtain ⟨pm, cd, ho, hcd⟩ := g.fn i hi
  subst hx
  refine wpAny_call (callX_plain (cl := []) (env := envX cn cs L a ccd cl) (outer := outer) B F N g.T.nolimit rfl rfl hcs (F.keep _ _ ho) rfl (hcd.keeps F.keep) (by show dp < recursionLimit; omega) (hbind s pm cd) hloc
    (fun g' L' h₁ FG F' N' B' st lt => ?_) hcell hco hgen hk)
  refine wpAny_mono (hb.run (dp + 1) (un + 3) gd cd (envX cn cs L a ccd cl :: outer) _ base g' L' _
    (fun fl s' => LeaveK h₀ L m g' (fun r s' => match r with | .ok (.ret v) => Q v s' | .ok _ => False | .error e => E e s') (match fl with | .ret v => v | _ => .none) s')
    B' F' (g.keeps st) N' lt (by omega) (by omega) fun v tl h' tk' m' F'' N'' ho hp => ?_) (fun _ _ x => x) fun _ _ x => x.elim
  exact leaveK_ F'' N'' fun FF NN => ret v tl h' tk' FF NN ho hp

section
variable {w : World} {A : Around} {E : Value → Shared → Prop} {s : Shared} {h₀ : Heap} {L a : Addr} {m mg mb : Str → Option Value} {cn : Str} {cs : Scope} {ccd : Value} {cl : List (Str × Addr)} {loose : List Str} {ad : Str → Addr}
  {x : Str} {pos : Pos} {v : Value} {Q : Value → Shared → Prop}
theorem name_top (F : Fr h₀ L s.heap m) (g : G w mg mb loose ad h₀) (hx : (defNames ++ objNames).contains x = true) (h : Q (.ref (ad x)) s)
    (hk : cs.kind = .function) (hkx : (envX cn cs L a ccd cl).kindOf x = some .globalImplicit) (hd : (x == ("__debug__" : Str)) = false) :
    wpAny (model prog w) A (eval (.Name x pos) (envX cn cs L a ccd cl)) Q E s :=
  Name_function_global hk hkx (loadGlobal_global (env := envX cn cs L a ccd cl) (g.T.g.keeps F.keep) (g.bound x hx) h) hd
theorem name_bi (F : Fr h₀ L s.heap m) (g : G w mg mb loose ad h₀) (hx : biNames.contains x = true) (hv : bootBuiltins x = some v) (hn : x ≠ "__name__") (h : Q v s)
    (hk : cs.kind = .function) (hkx : (envX cn cs L a ccd cl).kindOf x = some .globalImplicit) (hd : (x == ("__debug__" : Str)) = false) :
    wpAny (model prog w) A (eval (.Name x pos) (envX cn cs L a ccd cl)) Q E s :=
  Name_function_global hk hkx (loadGlobal_builtin (env := envX cn cs L a ccd cl) (g.T.g.keeps F.keep) (g.free x hx) (g.T.b.keeps F.keep) ((g.T.builtins x hn).trans hv) h) hd
theorem in_set {k : Int} {t : Tok} (F : Fr h₀ L s.heap m) (g : G w mg mb loose ad h₀) (hx : setNames.contains x = true) (h : Q (.bool ((setData x).contains k)) { s with toks := s.toks + 1 }) :
    wpAny (model prog w) A (compareOp .In (.int k t) (.ref (ad x))) Q E s :=
  wpAny_inSet_of (knd := intKind prog w) (intKind_is prog w k t) rfl (SetOf_keeps (g.sets x hx) F.keep) h
theorem b3_get {k : Int} {t : Tok} (F : Fr h₀ L s.heap m) (g : G w mg mb loose ad h₀)
    (h1 : ∀ x u, b3At k = some x → Q (.str x u) { s with toks := s.toks + 1 }) (h2 : b3At k = none → Q .none { s with toks := s.toks + 1 }) :
    wpAny (model prog w) A (call (.builtin "dict.get") [.ref (ad "b3_exceptions"), .int k t]) Q E s := by
  obtain ⟨f, hm, hf⟩ := g.b3
  have hm' := MapOf_keeps hm F.keep
  refine call_meetsIn PySem.F.slot_dict_get hm'.typeIs PySem.F.entry_dict_get (PySem.F.args_dict_get_2 _ _) (meets_dict_get (intKind prog w) _ (intKind_is prog w k t) g.b3ne) ⟨f, hm', ?_⟩
  have hk := hf k
  cases e : b3At k with
  | some x => rw [e] at hk; obtain ⟨u, hu⟩ := hk; rw [hu]; exact h1 x u e
  | none => rw [e] at hk; rw [hk]; exact h2 e
theorem b3_method {pl : Sem Bool} {Q : Value × List Value → Shared → Prop} (F : Fr h₀ L s.heap m) (g : G w mg mb loose ad h₀) (h : Q (.builtin "dict.get", [.ref (ad "b3_exceptions")]) s) :
    wpAny (model prog w) A (getMethod (.ref (ad "b3_exceptions")) "get" pl) Q E s := by
  obtain ⟨f, hm, hf⟩ := g.b3
  have hm' := MapOf_keeps hm F.keep
  exact getMethod_builtin hm'.typeIs PySem.F.plainAttrs_dict PySem.F.slot_dict_get PySem.F.type_dict_get hm'.noDict h
end
theorem noIn (h : Heap) : Frag.In [] h := fun a o e => by simp at e
end Il
namespace Il
open PyProof.V
section
variable {pr : Program} {w : World} {K : Type} [DecidableEq K] {knd : KeyKind pr w K} {A : Around} {E : Value → Shared → Prop} {s : Shared}
theorem dictPut_fresh {d : Addr} {kvs : List (K × Value)} {k : K} {key v : Value} {Q : Unit → Shared → Prop} (hkey : knd.is k key = true) (hm : s.heap.DictOf knd d kvs) (hnew : k ∉ kvs.map (·.1)) (hsz : kvs.length ≤ sizeLine)
    (hQ : ∀ h', h'.DictOf knd d (kvs ++ [(k, v)]) → Heap.SameBut d s.heap h' → Q () { s with heap := h' }) :
    wpAny (model pr w) A (dictPut d (knd.hash k) key v) Q E s := by
  obtain ⟨o, es, ep, ho, hc, hd, hk, hp, hn⟩ := hm
  have hes : es.size ≤ sizeLine := by
    have e1 := hp.length
    rw [Array.length_toList] at e1
    omega
  have hidx : (es.findIdx? fun e => knd.is k e.key) = none := by
    rw [Array.findIdx?_eq_none_iff]
    intro e he
    cases hb : knd.is k e.key with
    | false => rfl
    | true =>
      have h1 : (es.toList.findIdx? fun e => knd.is k e.key) = none := by
        rw [hp.findIdx k, List.findIdx?_eq_none_iff]
        intro x hx
        exact decide_eq_false fun q => hnew (q ▸ List.mem_map_of_mem hx)
      exact absurd hb (by simpa using List.findIdx?_eq_none_iff.mp h1 e (by simpa using he))
  unfold dictPut
  refine wpAny_bind (wpAny_dictFind_of hkey ho hd hk ?_)
  rw [hidx]
  refine wpAny_updateDictKeys (hz := hes) ho hd (hQ _ ⟨_, _, ep + 1, Heap.get?_update_self _ ho (Obj.isFreed_of_dict (Obj.data_mapDictKeys hd _)), hc.mapDictKeys _, Obj.data_mapDictKeys hd _, hk.push hkey _, ?_, ?_⟩ (Heap.SameBut.update ..))
  · have := hp.append hkey (knd.hash k) v
    obtain ⟨l⟩ := es
    simpa using this
  · rw [List.map_append, List.nodup_append]
    exact ⟨hn, List.pairwise_singleton _ _, fun a ha b hb q => hnew (by rw [List.map_cons, List.map_nil, List.mem_singleton] at hb; have e : a = k := q.trans hb; rw [← e]; exact ha)⟩
theorem merge_fresh {d a : Addr} {kvs more : List (K × Value)} {Q : Unit → Shared → Prop} (hda : d ≠ a) (hS : (a == sysModules) = false) (h0 : kvs ≠ [])
    (hm : s.heap.DictOf knd d kvs) (ho : s.heap.DictOf knd a more) (hn : ((kvs ++ more).map (·.1)).Nodup) (hsz : kvs.length + more.length ≤ sizeLine)
    (hQ : ∀ h', h'.DictOf knd d (kvs ++ more) → Heap.SameBut d s.heap h' → Q () { s with heap := h' }) :
    wpAny (model pr w) A (mergeMapping d (.ref a) false) Q E s := by
  obtain ⟨od, esd, epd, hod, hcd, hdd, hkd, hpd, hnd⟩ := id hm
  obtain ⟨oo, eso, epo, hoo, hco, hdo, hko, hpo, hno⟩ := id ho
  have hne : esd.isEmpty = false := by
    cases hb : esd.isEmpty with
    | false => rfl
    | true =>
      have q : esd = #[] := Array.isEmpty_iff.mp hb
      have := hpd.length
      rw [q] at this
      exact absurd (List.length_eq_zero_iff.mp this.symm) h0
  unfold mergeMapping
  refine wpAny_bind (wpAny_isInstance ho.typeIs isSubtype_dict_dict ?_)
  dsimp only
  rw [if_pos rfl]
  refine wpAny_bind (wpAny_specialOf ho.typeIs PySem.F.slot_dict_iter.lookup (wpAny_bind (wpAny_pure ?_)))
  simp only [beq_self_eq_true]
  rw [hS]
  simp only [Bool.false_eq_true, if_false]
  refine wpAny_bind (wpAny_dictEntries hod hdd ?_)
  rw [hne]
  simp only [Bool.false_eq_true, if_false]
  refine wpAny_bind (wpAny_dictEntries hoo hdo ?_)
  refine wpAny_bind (wpAny_dictEpoch hoo hdo ?_)
  refine wpAny_bind ?_
  have hlen : eso.size = more.length := by rw [← hpo.length]; simp
  refine wpAny_forIn_list _ (fun rest _ s' => ∃ h' i, s' = { s with heap := h' } ∧ rest = List.range' i (eso.size - i) ∧ i ≤ eso.size ∧ h'.DictOf knd d (kvs ++ more.take i) ∧ h'.get? a = some oo ∧ Heap.SameBut d s.heap h')
    _ ?_ ?_ _ _ ⟨s.heap, 0, rfl, by rw [List.range_eq_range', Nat.sub_zero], Nat.zero_le _, by simpa using hm, hoo, Heap.SameBut.refl _ _⟩
  · rintro x rest b s' ⟨h', i, rfl, hr, hi, hd', hoo', hs'⟩
    have hlt : i < eso.size := by
      rcases Nat.lt_or_ge i eso.size with h | h
      · exact h
      · rw [Nat.sub_eq_zero_of_le h] at hr; simp at hr
    obtain ⟨rfl, hrest⟩ : x = i ∧ rest = List.range' (i + 1) (eso.size - (i + 1)) := by
      rw [show eso.size - i = (eso.size - (i + 1)) + 1 by omega, List.range'_succ] at hr
      injection hr with h1 h2
      exact ⟨h1, h2⟩
    refine wpAny_bind (wpAny_dictEntries hoo' hdo ?_)
    rw [Array.getElem?_eq_getElem hlt]
    obtain ⟨⟨k, v⟩, hkv⟩ : ∃ kv, more[x]? = some kv := ⟨more[x]'(by omega), List.getElem?_eq_getElem _⟩
    obtain ⟨hkey, hval⟩ := hpo.get? (e := eso[x]) (by simp [hlt]) hkv
    obtain ⟨k', hkey', hhash⟩ := hko eso[x] (Array.getElem_mem hlt)
    obtain rfl : k' = k := knd.inj _ _ _ hkey' hkey
    dsimp only
    (try simp only [Bool.false_eq_true, if_false])
    rw [hhash, hval]
    have hmem : (k', v) ∈ more.drop x := by
      rw [List.mem_iff_getElem?]
      exact ⟨0, by rw [List.getElem?_drop]; simpa using hkv⟩
    have hnew : k' ∉ (kvs ++ more.take x).map (·.1) := by
      intro hin
      have e : kvs ++ more = (kvs ++ more.take x) ++ more.drop x := by rw [List.append_assoc, List.take_append_drop]
      rw [e, List.map_append, List.nodup_append] at hn
      exact hn.2.2 _ hin _ (List.mem_map_of_mem (f := (·.1)) hmem) rfl
    refine wpAny_bind (wpAny_holding (dictPut_fresh hkey hd' hnew ?_ fun h'' hd'' hs'' => ?_))
    · have e2 : (more.take x).length ≤ more.length := by rw [List.length_take]; omega
      rw [List.length_append]; omega
    · have hoo'' : h''.get? a = some oo := (hs''.2 a (Ne.symm hda)).trans hoo'
      refine wpAny_bind (wpAny_dictEpoch hoo'' hdo ?_)
      rw [if_neg (by simp)]
      refine wpAny_pure ⟨h'', x + 1, rfl, hrest, hlt, ?_, hoo'', hs'.trans hs''⟩
      rw [List.take_add_one, hkv]
      simpa using hd''
  · rintro b s' ⟨h', i, rfl, hr, hi, hd', hoo', hs'⟩
    have hin : i = eso.size := by
      rcases Nat.lt_or_ge i eso.size with h | h
      · rw [show eso.size - i = (eso.size - (i + 1)) + 1 by omega, List.range'_succ] at hr; exact nomatch hr
      · exact Nat.le_antisymm hi h
    refine wpAny_pure (hQ h' ?_ hs')
    rw [hin, hlen, List.take_length] at hd'
    exact hd'

inductive FV {K : Type} : List (K × Value) → List (K × PyData) → Prop
  | nil : FV [] []
  | cons {k : K} {v : Value} {d : PyData} {kvs : List (K × Value)} {D : List (K × PyData)} : Flat v d → FV kvs D → FV ((k, v) :: kvs) ((k, d) :: D)
theorem FV.keys {kvs : List (K × Value)} {D : List (K × PyData)} (h : FV kvs D) : kvs.map (·.1) = D.map (·.1) := by
  induction h with
  | nil => rfl
  | cons _ _ ih => rw [List.map_cons, List.map_cons, ih]
theorem FV.append {a : List (K × Value)} {b : List (K × PyData)} {c : List (K × Value)} {d : List (K × PyData)} (h : FV a b) (h2 : FV c d) : FV (a ++ c) (b ++ d) := by
  induction h with
  | nil => exact h2
  | cons x _ ih => exact .cons x ih
theorem FV.length {kvs : List (K × Value)} {D : List (K × PyData)} (h : FV kvs D) : kvs.length = D.length := by
  have := congrArg List.length h.keys
  simpa using this

variable (knd) in
noncomputable def LitP (A : Around) (E : Value → Shared → Prop) (p : Sem Value × Sem Value) (d : K × PyData) : Prop :=
  ∀ (s : Shared) (Q : Value → Value → Shared → Prop), (∀ kv vv tk, knd.is d.1 kv = true → Flat vv d.2 → Q kv vv { s with toks := tk }) →
    wpAny (model pr w) A p.1 (fun kv s₁ => wpAny (model pr w) A p.2 (fun vv s₂ => Q kv vv s₂) E s₁) E s
variable (knd) in
noncomputable def LitPs (A : Around) (E : Value → Shared → Prop) : List (Sem Value × Sem Value) → List (K × PyData) → Prop
  | [], [] => True
  | p :: ps, d :: D => LitP knd A E p d ∧ LitPs A E ps D
  | _, _ => False
theorem LitPs.split : ∀ {a b : List (Sem Value × Sem Value)} {D : List (K × PyData)}, LitPs knd A E (a ++ b) D → ∃ D1 D2, D = D1 ++ D2 ∧ LitPs knd A E a D1 ∧ LitPs knd A E b D2
  | [], b, D, h => ⟨[], D, rfl, trivial, h⟩
  | p :: a, b, [], h => h.elim
  | p :: a, b, d :: D, h => by
    obtain ⟨D1, D2, e, h1, h2⟩ := LitPs.split (a := a) h.2
    exact ⟨d :: D1, D2, by rw [e]; rfl, ⟨h.1, h1⟩, h2⟩
theorem LitPs.append : ∀ {a : List (Sem Value × Sem Value)} {D1 : List (K × PyData)} {b : List (Sem Value × Sem Value)} {D2 : List (K × PyData)}, LitPs knd A E a D1 → LitPs knd A E b D2 → LitPs knd A E (a ++ b) (D1 ++ D2)
  | [], [], _, _, _, h => h
  | _ :: _, _ :: _, _, _, h, h2 => ⟨h.1, LitPs.append h.2 h2⟩
  | [], _ :: _, _, _, h, _ => h.elim
  | _ :: _, [], _, _, h, _ => h.elim
theorem LitPs.length : ∀ {a : List (Sem Value × Sem Value)} {D : List (K × PyData)}, LitPs knd A E a D → a.length = D.length
  | [], [], _ => rfl
  | _ :: _, _ :: _, h => congrArg (· + 1) h.2.length
  | [], _ :: _, h => h.elim
  | _ :: _, [], h => h.elim
theorem evalPairs_L : ∀ {ps : List (Sem Value × Sem Value)} {D : List (K × PyData)} {s : Shared} {Q : List (Value × Value) → Shared → Prop}, LitPs knd A E ps D →
    (∀ vs kvs tk, Carries knd vs kvs → FV kvs D → Q vs { s with toks := tk }) → wpAny (model pr w) A (evalPairs ps) Q E s
  | [], [], s, Q, _, h => evalPairs_nil (h [] [] s.toks trivial .nil)
  | (p, q) :: ps, d :: D, s, Q, hl, h => evalPairs_cons (hl.1 s _ fun kv vv tk hk hv => evalPairs_L hl.2 fun vs kvs tk' hc hf => h _ ((d.1, vv) :: kvs) tk' ⟨hk, rfl, hc⟩ (.cons hv hf))
  | [], _ :: _, _, _, h, _ => h.elim
  | _ :: _, [], _, _, h, _ => h.elim
theorem LitP.bind {β : Type} {p : Sem Value × Sem Value} {d : K × PyData} (h : LitP knd A E p d) {k : Value → Value → Sem β} {s : Shared} {Q : β → Shared → Prop}
    (hQ : ∀ kv vv tk, knd.is d.1 kv = true → Flat vv d.2 → wpAny (model pr w) A (k kv vv) Q E { s with toks := tk }) : wpAny (model pr w) A (do let kv ← p.1; let vv ← holding [kv] p.2; k kv vv) Q E s :=
  wpAny_bind (wpAny_mono (h s (fun kv vv s₂ => wpAny (model pr w) A (k kv vv) Q E s₂) hQ) (fun _ _ h₁ => wpAny_bind (wpAny_holding h₁)) fun _ _ e => e)
theorem long_L {d : Addr} : ∀ (ps : List (Sem Value × Sem Value)) (D : List (K × PyData)) (acc : List (K × Value)) (s : Shared) (Q : PUnit → Shared → Prop), LitPs knd A E ps D → s.heap.DictOf knd d acc → (acc.map (·.1) ++ D.map (·.1)).Nodup → acc.length + D.length ≤ sizeLine →
    (∀ h' kvs tk, FV kvs D → h'.DictOf knd d (acc ++ kvs) → Heap.SameBut d s.heap h' → Q PUnit.unit { s with heap := h', toks := tk }) →
    wpAny (model pr w) A (forIn ps PUnit.unit fun (x : Sem Value × Sem Value) (_ : PUnit) => (do let kv ← x.1; let vv ← holding [kv] x.2; holding [kv, vv] (dictSet d kv vv); pure (ForInStep.yield PUnit.unit) : Sem (ForInStep PUnit))) Q E s
  | [], [], acc, s, Q, _, hd, _, _, h => by
    rw [List.forIn_nil]
    exact wpAny_pure (h s.heap [] s.toks .nil (by simpa using hd) (Heap.SameBut.refl _ _))
  | p :: ps, d' :: D, acc, s, Q, hl, hd, hn, hz, h => by
    rw [List.forIn_cons]
    rw [List.length_cons] at hz
    refine wpAny_bind (LitP.bind hl.1 fun kv vv tk hk hv => ?_)
    have hnew : d'.1 ∉ acc.map (·.1) := fun q => by
      rw [List.nodup_append] at hn
      exact hn.2.2 _ q _ (List.mem_cons_self ..) rfl
    refine wpAny_bind (wpAny_holding (wpAny_dictSet_pairs (hsz := by omega) hk hd fun h₁ hd₁ hs₁ => wpAny_pure ?_))
    have e : stored acc d'.1 vv = acc ++ [(d'.1, vv)] := by
      have h1 := merged_append_of_fresh acc [(d'.1, vv)] (by
        rw [List.map_append, List.nodup_append]
        exact ⟨(List.nodup_append.mp hn).1, List.pairwise_singleton _ _, fun a ha b hb q => hnew (by rw [List.map_cons, List.map_nil, List.mem_singleton] at hb; have e : a = d'.1 := q.trans hb; rw [← e]; exact ha)⟩)
      exact h1
    rw [e] at hd₁
    refine long_L ps D (acc ++ [(d'.1, vv)]) _ Q hl.2 hd₁ ?_ ?_ fun h' kvs tk' hf hd' hs' => ?_
    · rw [List.map_append]; simpa using hn
    · rw [List.length_append]; simp; omega
    · have h2 := h h' ((d'.1, vv) :: kvs) tk' (.cons hv hf) (by simpa using hd') (hs₁.trans hs')
      exact h2
  | [], _ :: _, _, _, _, h, _, _, _, _ => h.elim
  | _ :: _, [], _, _, _, h, _, _, _, _ => h.elim

theorem subDict_L {ps : List (Sem Value × Sem Value)} {D : List (K × PyData)} {Q : Addr → Shared → Prop} (hl : LitPs knd A E ps D) (hn : (D.map (·.1)).Nodup) (hz : D.length ≤ sizeLine)
    (h : ∀ h' kvs tk, FV kvs D → h'.DictOf knd s.heap.objs.size kvs → (∀ b o, s.heap.get? b = some o → h'.get? b = some o) → Q s.heap.objs.size { s with heap := h', toks := tk }) :
    wpAny (model pr w) A (subDict ps) Q E s := by
  have keep : ∀ {h' : Heap}, Heap.SameBut s.heap.objs.size (s.heap.push { cls := .type "dict", data := .dict #[] }) h' → ∀ b o, s.heap.get? b = some o → h'.get? b = some o := fun hs b o e =>
    (hs.2 b (Nat.ne_of_lt (Heap.lt_size e))).trans (Heap.get?_push_of_some _ e)
  unfold subDict
  refine wpAny_bind (wpAny_alloc ?_)
  refine wpAny_bind (wpAny_holding ?_)
  split
  · refine wpAny_bind (evalPairs_L hl fun vs kvs tk hc hf => ?_)
    refine wpAny_holding (wpAny_bind (wpAny_storeAll (knd := knd) vs kvs [] _ _ hc (Heap.DictOf.new s.heap) (by rw [List.length_nil, Nat.zero_add, hf.length]; exact hz) fun h' hm hs => wpAny_pure (wpAny_pure ?_)))
    rw [merged_nil_of_nodup kvs (by rw [hf.keys]; exact hn)] at hm
    exact h h' kvs _ hf hm (keep hs)
  · refine wpAny_bind (wpAny_rule (wpAny_bind (long_L ps D [] _ _ hl (Heap.DictOf.new s.heap) (by simpa using hn) (by simpa using hz) fun h' kvs tk hf hd hs => wpAny_pure (wpAny_pure ?_))))
    exact h h' kvs tk hf (by simpa using hd) (keep hs)

variable (knd) in
noncomputable def DSt (s₀ : Shared) (D : List (K × PyData)) (main : Option Addr) (s' : Shared) : Prop :=
  ∃ h tk, s' = { s₀ with heap := h, toks := tk } ∧ (∀ b o, s₀.heap.get? b = some o → h.get? b = some o) ∧ s₀.heap.objs.size ≤ h.objs.size ∧
    (main = none ∧ D = [] ∨ ∃ d kvs, main = some d ∧ D ≠ [] ∧ FV kvs D ∧ h.DictOf knd d kvs ∧ s₀.heap.objs.size ≤ d)
noncomputable def flushD (run : List (Sem Value × Sem Value)) (main : Option Addr) : Sem (Option Addr) := do
    if run.isEmpty then return main
    match main with
    | none => return some (← subDict run)
    | some d =>
      let sub ← holding [.ref d] (subDict run)
      (holding [.ref d, .ref sub] (mergeMapping d (.ref sub) false)).onRaise fun x => do let _ ← holding [.ref d, x] (runValue (.builtin "proto.let_go" {}))
      return some d
theorem DictOf_lt {h : Heap} {d : Addr} {kvs : List (K × Value)} (x : h.DictOf knd d kvs) : d < h.objs.size := let ⟨_, _, _, e, _⟩ := x; Heap.lt_size e
theorem DictOf_keep {h h' : Heap} {d : Addr} {kvs : List (K × Value)} (x : h.DictOf knd d kvs) (k : ∀ b o, h.get? b = some o → h'.get? b = some o) : h'.DictOf knd d kvs := let ⟨o, es, ep, e, r⟩ := x; ⟨o, es, ep, k _ _ e, r⟩
theorem flush_L {s₀ : Shared} {run : List (Sem Value × Sem Value)} {main : Option Addr} {D D2 : List (K × PyData)} {Q : Option Addr → Shared → Prop} (hbig : sysModules < s₀.heap.objs.size) (hs : DSt knd s₀ D main s) (hl : LitPs knd A E run D2) (hr : run ≠ []) (hn : ((D ++ D2).map (·.1)).Nodup)
    (hz : (D ++ D2).length ≤ sizeLine) (hQ : ∀ m s', DSt knd s₀ (D ++ D2) m s' → Q m s') : wpAny (model pr w) A (flushD run main) Q E s := by
  obtain ⟨h, tk, rfl, keep, hsz, hm⟩ := hs
  have hne : run.isEmpty = false := by cases run with | nil => exact absurd rfl hr | cons _ _ => rfl
  have hD2 : D2 ≠ [] := fun q => hr (List.length_eq_zero_iff.mp (by rw [hl.length, q]; rfl))
  rw [List.length_append] at hz
  rw [List.map_append] at hn
  unfold flushD
  rw [hne]
  simp only [Bool.false_eq_true, if_false]
  rcases hm with ⟨rfl, rfl⟩ | ⟨d, kvs, rfl, hD, hf, hd, hds⟩
  · refine wpAny_bind (subDict_L hl (by simpa using hn) (by omega) fun h' kvs tk' hf hd k' => wpAny_pure (hQ _ _ ⟨h', tk', rfl, fun b o e => k' b o (keep b o e), Nat.le_trans hsz (Nat.le_of_lt (DictOf_lt hd)), .inr ⟨_, kvs, rfl, hD2, by simpa using hf, hd, hsz⟩⟩))
  · dsimp only
    refine wpAny_bind (wpAny_holding (subDict_L hl (List.nodup_append.mp hn).2.1 (by omega) fun h' kvs' tk' hf' hd' k' => ?_))
    have hlt : d < h.objs.size := DictOf_lt hd
    have hkv : kvs ≠ [] := fun q => hD (List.length_eq_zero_iff.mp (by rw [← hf.length, q]; rfl))
    have e1 := hf.length
    have e2 := hf'.length
    refine wpAny_bind (wpAny_onRaise (wpAny_mono (E := fun _ _ => False) (wpAny_holding (merge_fresh (kvs := kvs) (more := kvs') (Nat.ne_of_lt hlt) (beq_eq_false_iff_ne.mpr (Nat.ne_of_gt (Nat.lt_of_lt_of_le hbig hsz))) hkv (DictOf_keep hd k') hd' (by rw [List.map_append, hf.keys, hf'.keys]; exact hn) (by omega) (Q := fun _ s' => ∃ h'', s' = { s₀ with heap := h'', toks := tk' } ∧ h''.DictOf knd d (kvs ++ kvs') ∧ Heap.SameBut d h' h'') fun h'' hd'' hs'' => ⟨h'', rfl, hd'', hs''⟩)) (fun _ s' h₁ => ?_) fun _ _ x => x.elim))
    obtain ⟨h'', rfl, hd'', hs''⟩ := h₁
    refine wpAny_pure (hQ _ _ ⟨h'', tk', rfl, fun b o e => ?_, ?_, .inr ⟨d, _, rfl, by simp [hD], hf.append hf', hd'', hds⟩⟩)
    · have hb := Heap.lt_size e
      exact (hs''.2 b (Nat.ne_of_lt (Nat.lt_of_lt_of_le hb hds))).trans (k' _ _ (keep _ _ e))
    · rw [hs''.1]
      exact Nat.le_trans hsz (Nat.le_of_lt (DictOf_lt hd'))

theorem gather_L {s₀ : Shared} (hbig : sysModules < s₀.heap.objs.size) (f : (Option (Sem Value) × Sem Value) → (Option Addr × List (Sem Value × Sem Value)) → Sem (ForInStep (Option Addr × List (Sem Value × Sem Value))))
    (hf : ∀ (p : Sem Value × Sem Value) (run : List (Sem Value × Sem Value)) (main : Option Addr), f (some p.1, p.2) (main, run) = (if ((run ++ [p]).length == 17) = true then (do let m ← flushD (run ++ [p]) main; pure (.yield (m, []))) else pure (.yield (main, run ++ [p])))) :
    ∀ (items run : List (Sem Value × Sem Value)) (main : Option Addr) (D1 D2 : List (K × PyData)) (s : Shared) (Q : Option Addr × List (Sem Value × Sem Value) → Shared → Prop), DSt knd s₀ D1 main s → LitPs knd A E (run ++ items) D2 → ((D1 ++ D2).map (·.1)).Nodup → (D1 ++ D2).length ≤ sizeLine →
      (∀ main' run' D1' D2' s', DSt knd s₀ D1' main' s' → LitPs knd A E run' D2' → D1' ++ D2' = D1 ++ D2 → Q (main', run') s') →
      wpAny (model pr w) A (forIn (items.map fun p => (some p.1, p.2)) (main, run) f) Q E s
  | [], run, main, D1, D2, s, Q, hs, hl, hn, hz, hQ => by
    rw [List.map_nil, List.forIn_nil]
    exact wpAny_pure (hQ main run D1 D2 s hs (by simpa using hl) rfl)
  | p :: items, run, main, D1, D2, s, Q, hs, hl, hn, hz, hQ => by
    rw [List.map_cons, List.forIn_cons, hf]
    have hl' : LitPs knd A E ((run ++ [p]) ++ items) D2 := by rw [List.append_assoc]; exact hl
    split
    · obtain ⟨Da, Db, rfl, ha, hb⟩ := hl'.split
      rw [← List.append_assoc] at hn hz hQ
      refine wpAny_bind (wpAny_bind (flush_L hbig hs ha (by simp) (by rw [List.map_append] at hn; exact (List.nodup_append.mp hn).1) (by rw [List.length_append] at hz; omega) fun m s' hs' => wpAny_pure ?_))
      exact gather_L hbig f hf items [] m (D1 ++ Da) Db s' Q hs' hb hn hz hQ
    · refine wpAny_bind (wpAny_pure ?_)
      exact gather_L hbig f hf items (run ++ [p]) main D1 D2 s Q hs hl' hn hz hQ
theorem display_L {ps : List (Sem Value × Sem Value)} {D : List (K × PyData)} {Q : Value → Shared → Prop} (hbig : sysModules < s.heap.objs.size) (hl : LitPs knd A E ps D) (h0 : D ≠ []) (hn : (D.map (·.1)).Nodup) (hz : D.length ≤ sizeLine)
    (h : ∀ a h' kvs tk, FV kvs D → h'.DictOf knd a kvs → s.heap.objs.size ≤ a → (∀ b o, s.heap.get? b = some o → h'.get? b = some o) → Q (.ref a) { s with heap := h', toks := tk }) :
    wpAny (model pr w) A (dictDisplay (ps.map fun p => (some p.1, p.2))) Q E s := by
  unfold dictDisplay
  dsimp only
  refine wpAny_bind (gather_L (knd := knd) hbig _ (fun p run main => ?_) ps [] none [] D s _ ⟨s.heap, s.toks, rfl, fun _ _ e => e, Nat.le_refl _, .inl ⟨rfl, rfl⟩⟩ hl (by simpa using hn) (by simpa using hz) fun main run D1 D2 s' hs hr he => ?_)
  · rfl
  · dsimp only
    rw [List.nil_append] at he
    subst he
    have fin : ∀ m s'', DSt knd s (D1 ++ D2) m s'' → wpAny (model pr w) A (match m with | some d => pure (Value.ref d) | none => newDict) Q E s'' := by
      rintro m s'' ⟨h', tk, rfl, keep, hsz, hm⟩
      rcases hm with ⟨_, e⟩ | ⟨d, kvs, rfl, _, hf, hd, hds⟩
      · exact absurd e h0
      · exact wpAny_pure (h d h' kvs tk hf hd hds keep)
    by_cases hrun : run = []
    · subst hrun
      have e : D2 = [] := List.length_eq_zero_iff.mp (by rw [← hr.length]; rfl)
      subst e
      rw [List.append_nil] at fin
      refine wpAny_bind (wpAny_pure (fin _ _ hs))
    · exact wpAny_bind (flush_L hbig hs hr hrun hn hz fin)
end
noncomputable def litsI : List (PyData × PyData) → Option (List (Int × PyData))
  | [] => some []
  | (.int i, d) :: r => (litsI r).map ((i, d) :: ·)
  | _ => none
noncomputable def litsS : List (PyData × PyData) → Option (List (Str × PyData))
  | [] => some []
  | (.str i, d) :: r => (litsS r).map ((i, d) :: ·)
  | _ => none
section
variable {pr : Program} {w : World} {A : Around} {E : Value → Shared → Prop} {s : Shared} {env : Env}
theorem LitP_eval {K : Type} [DecidableEq K] {knd : PySem.KeyKind pr w K} {k v : Expr} {pos : Pos} {i : K} {d dk : PyData} (hk : tabLit k = some dk) (hv : tabLit v = some d) (his : ∀ u, Flat u dk → knd.is i u = true) :
    LitP knd A E (eval k env, do let x ← eval v env; standAt pos; pure x) (i, d) := fun s Q h =>
  eval_lit hk fun kv tk fk => wpAny_bind (eval_lit hv fun vv tk' fv => wpAny_bind (wpAny_standAt (wpAny_pure (h kv vv tk' (his _ fk) fv))))
theorem litPs_int : ∀ (keys : List (Option Expr)) (values : List Expr) (D0 : List (PyData × PyData)) (D : List (Int × PyData)) (pos : Pos), litPairs keys values = some D0 → litsI D0 = some D → LitPs (intKind pr w) A E (pairTrees keys values env pos) D
  | [], [], D0, D, pos, h1, h2 => by cases h1; cases h2; trivial
  | some k :: ks, v :: vs, D0, D, pos, h1, h2 => by
    simp only [litPairs, Option.bind_eq_bind, Option.pure_def] at h1
    cases hk : tabLit k with
    | none => simp [hk] at h1
    | some dk =>
      cases hv : tabLit v with
      | none => simp [hk, hv] at h1
      | some dv =>
        cases hr : litPairs ks vs with
        | none => simp [hk, hv, hr] at h1
        | some r =>
          simp only [hk, hv, hr, Option.bind_some, Option.some.injEq] at h1
          subst h1
          cases dk with
          | int i =>
            simp only [litsI] at h2
            cases hr2 : litsI r with
            | none => rw [hr2] at h2; cases h2
            | some D' =>
              rw [hr2] at h2
              cases h2
              exact ⟨LitP_eval hk hv fun u hu => by obtain ⟨t, rfl⟩ := hu.int_inv; exact intKind_is _ _ _ _, litPs_int ks vs r D' pos hr hr2⟩
          | _ => simp [litsI] at h2
  | [], _ :: _, _, _, _, h, _ => by simp [litPairs] at h
  | none :: _, _, _, _, _, h, _ => by simp [litPairs] at h
  | some _ :: _, [], _, _, _, h, _ => by simp [litPairs] at h
theorem litPs_str : ∀ (keys : List (Option Expr)) (values : List Expr) (D0 : List (PyData × PyData)) (D : List (Str × PyData)) (pos : Pos), litPairs keys values = some D0 → litsS D0 = some D → LitPs (PySem.strKind pr w) A E (pairTrees keys values env pos) D
  | [], [], D0, D, pos, h1, h2 => by cases h1; cases h2; trivial
  | some k :: ks, v :: vs, D0, D, pos, h1, h2 => by
    simp only [litPairs, Option.bind_eq_bind, Option.pure_def] at h1
    cases hk : tabLit k with
    | none => simp [hk] at h1
    | some dk =>
      cases hv : tabLit v with
      | none => simp [hk, hv] at h1
      | some dv =>
        cases hr : litPairs ks vs with
        | none => simp [hk, hv, hr] at h1
        | some r =>
          simp only [hk, hv, hr, Option.bind_some, Option.some.injEq] at h1
          subst h1
          cases dk with
          | str i =>
            simp only [litsS] at h2
            cases hr2 : litsS r with
            | none => rw [hr2] at h2; cases h2
            | some D' =>
              rw [hr2] at h2
              cases h2
              exact ⟨LitP_eval hk hv fun u hu => by obtain ⟨t, rfl⟩ := hu.str_inv; exact strKind_is _ _ _ _, litPs_str ks vs r D' pos hr hr2⟩
          | _ => simp [litsS] at h2
  | [], _ :: _, _, _, _, h, _ => by simp [litPairs] at h
  | none :: _, _, _, _, _, h, _ => by simp [litPairs] at h
  | some _ :: _, [], _, _, _, h, _ => by simp [litPairs] at h
theorem Dict_int {keys : List (Option Expr)} {values : List Expr} {pos : Pos} {D0 : List (PyData × PyData)} {D : List (Int × PyData)} {Q : Value → Shared → Prop} (hbig : sysModules < s.heap.objs.size) (hD : litPairs keys values = some D0) (hI : litsI D0 = some D) (hn : (D.map (·.1)).Nodup)
    (hall : keys.all (·.isSome) = true) (hl : keys.length = values.length) (h0 : D ≠ []) (hz : D.length ≤ sizeLine)
    (h : ∀ a h' kvs tk, FV kvs D → h'.DictOf (intKind pr w) a kvs → s.heap.objs.size ≤ a → (∀ b o, s.heap.get? b = some o → h'.get? b = some o) → Q (.ref a) { s with heap := h', toks := tk }) :
    wpAny (model pr w) A (eval (.Dict keys values pos) env) Q E s := by
  rw [arm_eval_Dict, zip_pairTrees keys values env pos hall hl]
  exact wpAny_bind (wpAny_standAt (display_L hbig (litPs_int keys values D0 D pos hD hI) h0 hn hz h))
theorem Dict_str {keys : List (Option Expr)} {values : List Expr} {pos : Pos} {D0 : List (PyData × PyData)} {D : List (Str × PyData)} {Q : Value → Shared → Prop} (hbig : sysModules < s.heap.objs.size) (hD : litPairs keys values = some D0) (hI : litsS D0 = some D) (hn : (D.map (·.1)).Nodup)
    (hall : keys.all (·.isSome) = true) (hl : keys.length = values.length) (h0 : D ≠ []) (hz : D.length ≤ sizeLine)
    (h : ∀ a h' kvs tk, FV kvs D → h'.DictOf (PySem.strKind pr w) a kvs → s.heap.objs.size ≤ a → (∀ b o, s.heap.get? b = some o → h'.get? b = some o) → Q (.ref a) { s with heap := h', toks := tk }) :
    wpAny (model pr w) A (eval (.Dict keys values pos) env) Q E s := by
  rw [arm_eval_Dict, zip_pairTrees keys values env pos hall hl]
  exact wpAny_bind (wpAny_standAt (display_L hbig (litPs_str keys values D0 D pos hD hI) h0 hn hz h))
end
end Il
namespace Il
theorem last_run {den : Code → Sem PySem.Fin} {p : Program} {w : World} {o : Outcome} : ∀ {n : Nat} {s s' : Shared} {t : Thread}, runN den p w n s t = .halted o s' →
    ∃ m s₁ t₁, runN den p w m s t = .running s₁ t₁ ∧ step den p w s₁ t₁ = .halt o s'
  | 0, _, _, _, h => by cases h
  | n + 1, s, s', t, h => by
    simp only [runN] at h
    cases hs : step den p w s t with
    | go s₂ t₂ =>
      rw [hs] at h
      obtain ⟨m, s₁, t₁, a, b⟩ := last_run h
      exact ⟨m + 1, s₁, t₁, by simp only [runN, hs]; exact a, b⟩
    | halt o₂ s₂ =>
      rw [hs] at h
      cases h
      exact ⟨0, s, t, rfl, hs⟩
noncomputable def fine : Step → Bool
  | .halt (.done _) _ => false
  | _ => true
theorem fine_ite {c : Prop} [Decidable c] {a b : Step} (h1 : fine a = true) (h2 : fine b = true) : fine (if c then a else b) = true := by
  by_cases h : c
  · rw [if_pos h]; exact h1
  · rw [if_neg h]; exact h2
theorem step_fine (den : Code → Sem PySem.Fin) (p : Program) (w : World) (s : Shared) (t : Thread) : fine (step den p w s t) = true ∨ (through t = true ∧ ∃ f, step den p w s t = finish (.done f) s) := by
  obtain ⟨heap, gens, drawn, toks, os⟩ := s
  obtain ⟨cur, code, pos, stack⟩ := t
  cases cur with
  | pure x =>
    cases x with
    | again c => exact .inl rfl
    | done f =>
      cases stack with
      | nil => exact .inr ⟨rfl, f, rfl⟩
      | cons a r => cases a <;> exact .inl rfl
  | raise e =>
    cases stack with
    | nil => exact .inl (fine_ite rfl rfl)
    | cons a r => cases a <;> exact .inl rfl
  | finish e => exact .inl (fine_ite rfl rfl)
  | load a c k =>
    left
    conv => lhs; arg 1; whnf
    generalize heap.get? a = x
    cases x <;> rfl
  | update a c f k => exact .inl (fine_ite rfl rfl)
  | choose src n k => exact .inl (fine_ite rfl rfl)
  | genState g k =>
    left
    conv => lhs; arg 1; whnf
    generalize gens[g]? = x
    cases x <;> rfl
  | resume g r l k =>
    left
    conv => lhs; arg 1; whnf
    generalize gens[g]? = x
    cases x with
    | none => rfl
    | some y =>
      cases y with
      | fresh c =>
        cases r with
        | send v => cases v <;> rfl
        | throw e => rfl
      | _ => rfl
  | yield v g0 l kk =>
    left
    conv => lhs; arg 1; whnf
    generalize splitAtGen stack = x
    cases x <;> rfl
  | _ => exact .inl rfl
theorem halt_done {den : Code → Sem PySem.Fin} {p : Program} {w : World} {f : Flow} {s s' : Shared} {t : Thread} (h : step den p w s t = .halt (.done f) s') : through t = true ∧ s' = s := by
  rcases step_fine den p w s t with e | ⟨e, g, hg⟩
  · rw [h] at e; cases e
  · rw [h] at hg
    unfold finish at hg
    by_cases hc : leftWithCleanup s.gens = true
    · rw [if_pos hc] at hg; cases hg
    · rw [if_neg hc] at hg; cases hg; exact ⟨e, rfl⟩
theorem top_ran {prog : Program} {w : World} {t : Sem PySem.Fin} {s : Shared} {R : Shared → Prop} (hreg : s.asleep)
    (h : wpAny (model prog w) callerA t (fun fin s' => ∃ f, fin = .done f ∧ R s' ∧ s'.gens = #[]) (fun _ _ => False) s) :
    ∃ s₁, (∃ n t₁, schedN (denote table) prog w n (.single s ⟨t, .builtin "claim.caller" {}, default, []⟩) = .running (.single s₁ t₁) ∧ through t₁ = true) ∧ R s₁ ∧ s₁.gens = #[] ∧ s₁.heap.life = s.heap.life := by
  obtain ⟨n, r, s', hn, hR⟩ := (wp_iff_halts (M := model prog w) (c := .builtin "claim.caller" {}) t (fun r s' => (∃ f, r = .ok f) ∧ R s' ∧ s'.gens = #[]) default s).mp
    (wp_of_wpAny_done (R := fun r s' => ((∃ f, r = .ok f) ∧ R s' ∧ s'.gens = #[]) ∧ leftWithCleanup s'.gens = false) caller_in (wpAny_mono h (fun fin s' ⟨f, e, a, b⟩ => ⟨f, e, ⟨⟨f, rfl⟩, a, b⟩, by rw [b]; simp [leftWithCleanup]⟩) (fun _ _ x => x.elim)) default)
  obtain ⟨⟨f, rfl⟩, hR, hg⟩ := hR
  obtain ⟨s'', hr, hf, hc⟩ := runNI_real (denote table) prog w hn (outcomeOf_ends (.ok f))
  obtain rfl := Shared.eq_of_forget_eq hf hg
  have hne : ∀ k s₂, runN (denote table) prog w k s ⟨t, .builtin "claim.caller" {}, default, []⟩ ≠ .halted (.unsupported "lifetime:generator-with-cleanup-left-suspended") s₂ := by
    intro k s₂ hk
    have a := runN_mono (denote table) prog w n k s _ _ _ hr
    have b := runN_mono (denote table) prog w k n s _ _ s₂ hk
    rw [Nat.add_comm, b] at a
    cases a
  obtain ⟨m, s₁, t₁, hm, hs⟩ := last_run hr
  obtain ⟨ht, rfl⟩ := halt_done hs
  exact ⟨_, ⟨m, t₁, (schedN_eq_runN (denote table) prog w s _ hreg ⟨hc, hne⟩ m).trans (congrArg Run.lift hm), ht⟩, hR, hg, runN_life_running hm⟩
end Il
local macro_rules | `(tactic| omega) => `(tactic| lia)
namespace Il
local macro_rules | `(tactic| walk_at $s) => ml s "
 eval Name => R name_top ?F ?g ?hx ?_ ?a ?b ?c; c b rfl F k_asm g assumption hx deck a rfl c decide | R name_bi ?F ?g ?hx ?hv ?hn ?_ ?a ?b ?c; c b rfl F k_asm g assumption hx deck hv boot_fast hn decide a rfl c decide
 compareOp In int ref => R in_set ?F ?g ?hx ?_; c F k_asm g assumption hx deck
 getMethod ref => R b3_method ?F ?g ?_; c F k_asm g assumption
 call builtin:dict.get => R b3_get ?F ?g ?_ ?_; c F k_asm g assumption ! intros
 call builtin:str.lower => s wpAny _ _ ( call ( Value.builtin $str.lower ) ( List.cons ( Value.str _ _ ) List.nil ) ) _ _ _ & r SCL.lower {@low} ?_ ! i _"
local macro_rules | `(tactic| walk_at "@low") => `(tactic| first | assumption | (show (1 : Nat) ≤ 5592405; decide))
/-- the frame's names that a loop speaks of -/
noncomputable def AgreeV (m : Str → Option Value) (l : List (Str × Value)) : Prop := ∀ p ∈ l, m p.1 = some p.2
noncomputable def over (l : List (Str × Value)) (m : Str → Option Value) : Str → Option Value := fun y => (l.lookup y).or (m y)
theorem over_eq {m : Str → Option Value} : ∀ {l : List (Str × Value)}, AgreeV m l → over l m = m
  | [], _ => rfl
  | (x, v) :: r, h => by
    funext y
    have ih := congrFun (over_eq (m := m) (l := r) fun p hp => h p (.tail _ hp)) y
    unfold over at ih ⊢
    rw [List.lookup_cons]
    cases e : (y == x) with
    | true =>
      have : y = x := by simpa using e
      subst this
      exact (h _ (.head _)).symm
    | false => exact ih
theorem AgreeV.nil {m : Str → Option Value} : AgreeV m [] := fun _ h => nomatch h
theorem AgreeV.cons {m : Str → Option Value} {x : Str} {v : Value} {r : List (Str × Value)} (h : m x = some v) (hr : AgreeV m r) : AgreeV m ((x, v) :: r) := fun p hp => by
  rcases List.mem_cons.mp hp with rfl | hp
  · exact h
  · exact hr p hp

noncomputable def WTo {α : Type} (h₀ : Heap) (L : Addr) (V : α → List (Str × Value)) (Wd : α → Led) (Inv : α → Prop) (ms : α → Nat) (k : Nat) (s₁ : Shared) (f : Flow) (s₃ : Shared) : Prop :=
  f = .next ∧ ∃ h' tk m₂ news₂ a', s₃ = { s₁ with heap := h', toks := tk } ∧ Fr h₀ L h' m₂ ∧ News h₀ L h' news₂ ∧ (∀ p ∈ Wd a', p ∈ news₂) ∧ Inv a' ∧ ms a' < k ∧ AgreeV m₂ (V a')

noncomputable def FTo {α : Type} (h₀ : Heap) (L : Addr) (V : Nat → α → List (Str × Value)) (Wd : Nat → α → Led) (Inv : Nat → α → Prop) (i : Nat) (I : Addr) (io : Obj) (s₁ : Shared) (Q : Flow → Shared → Prop) (f : Flow) (s₃ : Shared) : Prop :=
  match f with
  | .ret v => Q (.ret v) s₃
  | .brk => Q .next s₃
  | _ => ∃ h' tk m₂ news₂ a', s₃ = { s₁ with heap := h', toks := tk } ∧ Fr h₀ L h' m₂ ∧ News h₀ L h' news₂ ∧ (I, io) ∈ news₂ ∧ (∀ p ∈ Wd i a', p ∈ news₂) ∧ Inv i a' ∧ AgreeV m₂ (V i a')

section
variable {w : World} {A : Around} {s : Shared} {env : Env} {h₀ : Heap} {Q : Flow → Shared → Prop}

theorem While_st {α : Type} {L : Addr} {test : Expr} {body : List Stmt} {pos : Pos} {m : Str → Option Value} {news : Led} (V : α → List (Str × Value)) (Wd : α → Led) (Inv : α → Prop) (ms : α → Nat) (a₀ : α)
    (F : Fr h₀ L s.heap m) (N : News h₀ L s.heap news) (hn : ∀ p ∈ Wd a₀, p ∈ news) (hI : Inv a₀) (hV : AgreeV m (V a₀))
    (turn : ∀ a m₁ h₁ tk₁, Inv a → Fr h₀ L h₁ (over (V a) m₁) → News h₀ L h₁ (Wd a) →
      wpAny (model prog w) A (isTrue test env (eval test env)) (fun b s₂ => if b = true then wpAny (model prog w) A (execs body env) (WTo h₀ L V Wd Inv ms (ms a) { s with heap := h₁, toks := tk₁ }) (fun _ _ => False) s₂ else Q .next s₂)
        (fun _ _ => False) { s with heap := h₁, toks := tk₁ }) :
    wpAny (model prog w) A (exec (.While test body [] pos) env) Q (fun _ _ => False) s := by
  refine While_inv (h₀ := h₀) (L := L) (m := m) (news := Wd a₀) (fun n m₁ news₁ => ∃ a, ms a = n ∧ Inv a ∧ AgreeV m₁ (V a) ∧ news₁ = Wd a) (n₀ := ms a₀) F (fun p hp => N p (hn p hp)) ⟨a₀, rfl, hI, hV, rfl⟩ ?_ PassesOwn.never
  rintro n m₁ news₁ h₁ tk₁ F₁ N₁ ⟨a, rfl, hI₁, hV₁, rfl⟩
  rw [← over_eq hV₁] at F₁
  refine wpAny_mono (turn a m₁ h₁ tk₁ hI₁ F₁ N₁) (fun b s₂ h₂ => ?_) fun _ _ x => x
  cases b with
  | false => simpa using h₂
  | true =>
    simp only [if_true] at h₂ ⊢
    refine wpAny_mono h₂ (fun f s₃ h₃ => ?_) fun _ _ x => x
    obtain ⟨rfl, h', tk, m₂, news₂, a', rfl, F₂, N₂, hs, hI₂, hlt, hV₂⟩ := h₃
    exact WhileStep.intro F₂ (fun p hp => N₂ p (hs p hp)) hlt ⟨a', rfl, hI₂, hV₂, rfl⟩

theorem iter_W {α : Type} {x : Str} {body : List Stmt} {I : Addr} {fp : List Addr} {n : Nat} {P : Nat → Value → Prop} {St : Nat → Heap → Prop} {C : String} {m : Str → Option Value} {news : Led}
    (Wk : Walks prog w A I fp [I] n P St) (V : Nat → α → List (Str × Value)) (Wd : Nat → α → Led) (Inv : Nat → α → Prop) (a₀ : α)
    (hfp : ∀ b ∈ fp, b = I ∨ (b ≠ env.locals ∧ ∃ lo, ∀ i a, Inv i a → (b, lo) ∈ Wd i a))
    (hLI : env.locals < I) (hI0 : h₀.get? I = none) (hcls : ∀ i h, St i h → ∃ o, h.get? I = some o ∧ o.cls = .type C)
    (hoff : ∀ i a, Inv i a → ∀ p ∈ Wd i a, p.1 < env.locals ∨ p.2.cls ≠ .type C)
    (hst : St 0 s.heap) (F : Fr h₀ env.locals s.heap m) (N : News h₀ env.locals s.heap news) (hn : ∀ p ∈ Wd 0 a₀, p ∈ news) (hI : Inv 0 a₀) (hV : AgreeV m (V 0 a₀))
    (turn : ∀ i a v io m₁ h₁ tk₁, i < n → Inv i a → P i v → io.cls = .type C → Fr h₀ env.locals h₁ (fun y => if y = x then some v else over (V i a) m₁ y) → News h₀ env.locals h₁ ((I, io) :: Wd i a) →
      wpAny (model prog w) A (execs body env) (FTo h₀ env.locals V Wd Inv (i + 1) I io { s with heap := h₁, toks := tk₁ } Q) (fun _ _ => False) { s with heap := h₁, toks := tk₁ })
    (done : ∀ a m₁ h₁ tk₁, Inv n a → Fr h₀ env.locals h₁ (over (V n a) m₁) → News h₀ env.locals h₁ (Wd n a) → Q .next { s with heap := h₁, toks := tk₁ }) :
    LoopAtV prog w A h₀ env x body Q (fun _ _ => False) (.ref I) s := by
  have off : ∀ {h : Heap} {i a io}, News h₀ env.locals h (Wd i a) → h.get? I = some io → io.cls = .type C → Inv i a → ∀ p ∈ Wd i a, p.1 ≠ I := by
    intro h i a io Nh hio hc hIa p hp e
    rcases hoff i a hIa p hp with h1 | h1
    · rw [e] at h1; exact absurd h1 (Nat.not_lt.mpr (Nat.le_of_lt hLI))
    · have h2 := (Nh p hp).1
      rw [e, hio] at h2
      exact h1 (by rw [← Option.some.inj h2]; exact hc)
  have N0 : News h₀ env.locals s.heap (Wd 0 a₀) := fun p hp => N p (hn p hp)
  obtain ⟨o0, ho0, hc0⟩ := hcls 0 _ hst
  refine ⟨I, fp, [I], n, P, St, m, Wd 0 a₀, fun i m₁ news₁ => ∃ a, Inv i a ∧ AgreeV m₁ (V i a) ∧ news₁ = Wd i a, rfl, Wk, ?_, ?_, ?_, hst, F, N0, ⟨a₀, hI, hV, rfl⟩, ?_, ?_⟩
  · intro hm
    rcases hfp _ hm with e | ⟨e, _⟩
    · rw [e] at hLI; exact Nat.lt_irrefl _ hLI
    · exact e rfl
  · intro b hb
    rw [List.mem_singleton.mp hb]; exact hI0
  · intro p hp hm
    exact off N0 ho0 hc0 hI p hp (List.mem_singleton.mp hm)
  · rintro i v m₁ news₁ s₁ own ⟨h₁, tk₁, rfl⟩ hlt hP ⟨a, hIa, hVa, rfl⟩ hnw hown hget hall hst₁ F₁ N₁
    obtain ⟨io, hio, hcio⟩ := hcls _ _ hst₁
    have hio' : h₁.get? I = some io := hio
    have N₂ : News h₀ env.locals h₁ ((I, io) :: Wd i a) := fun p hp => by
      rcases List.mem_cons.mp hp with rfl | hp
      · exact ⟨hio', Nat.ne_of_gt hLI, hI0⟩
      · exact N₁ p (List.mem_append_right _ hp)
    have F₂ : Fr h₀ env.locals h₁ (fun y => if y = x then some v else over (V i a) m₁ y) := by rw [over_eq hVa]; exact F₁
    refine wpAny_mono (turn i a v io m₁ h₁ tk₁ hlt hIa hP hcio F₂ N₂) (fun f s₃ h₃ => ?_) fun _ _ e => e
    have ownIn : ∀ {news₂ : Led} {a' : α}, (I, io) ∈ news₂ → (∀ p ∈ Wd (i + 1) a', p ∈ news₂) → Inv (i + 1) a' → ∀ p ∈ own, p ∈ news₂ := by
      intro news₂ a' h1 h2 hI' p hp
      have hg : h₁.get? p.1 = some p.2 := hget p hp
      rcases hfp _ (hown p hp) with e | ⟨_, lo, hlo⟩
      · rw [e, hio'] at hg
        have : p = (I, io) := Prod.ext e (Option.some.inj hg).symm
        rw [this]; exact h1
      · have h3 := (N₂ _ (List.mem_cons_of_mem _ (hlo i a hIa))).1
        rw [hg] at h3
        have : p = (p.1, lo) := Prod.ext rfl (Option.some.inj h3)
        rw [this]; exact h2 _ (hlo (i + 1) a' hI')
    have fin : FTo h₀ env.locals V Wd Inv (i + 1) I io { s with heap := h₁, toks := tk₁ } Q .next s₃ →
        LoopStepU h₀ env.locals [I] own (fun m₁ news₁ => ∃ a, Inv (i + 1) a ∧ AgreeV m₁ (V (i + 1) a) ∧ news₁ = Wd (i + 1) a) { s with heap := h₁, toks := tk₁ } .next s₃ := by
      rintro ⟨h', tk, m₂, news₂, a', rfl, F₃, N₃, hIn, hsub, hI', hV'⟩
      have N₄ : News h₀ env.locals h' (Wd (i + 1) a') := fun p hp => N₃ p (hsub p hp)
      refine ⟨rfl, h', tk, m₂, Wd (i + 1) a', rfl, F₃, fun p hp => ?_, fun p hp hm => ?_, a', hI', hV', rfl⟩
      · rcases List.mem_append.mp hp with hp | hp
        · exact N₃ p (ownIn hIn hsub hI' p hp)
        · exact N₄ p hp
      · exact off N₄ (N₃ _ hIn).1 hcio hI' p hp (List.mem_singleton.mp hm)
    cases f with
    | ret v => exact .ret h₃
    | brk => exact .brk h₃
    | next => exact .next (fin h₃)
    | cont => exact .cont (fin h₃)
  · rintro h' tk m' news' F' N' _ ⟨a, hIa, hVa, rfl⟩
    rw [← over_eq hVa] at F'
    exact done a m' h' tk hIa F' N'

theorem iter_list {α : Type} {x : Str} {body : List Stmt} {l : Addr} {items : Array Value} {c : Nat} {m : Str → Option Value} {news : Led}
    (V : Nat → α → List (Str × Value)) (Wd : Nat → α → Led) (Inv : Nat → α → Prop) (a₀ : α)
    (hh : A.handled = none) (F : Fr h₀ env.locals s.heap m) (N : News h₀ env.locals s.heap news) (hl : (l, W.listOf items c) ∈ news)
    (hstay : ∀ i a, Inv i a → (l, W.listOf items c) ∈ Wd i a)
    (hoff : ∀ i a, Inv i a → ∀ p ∈ Wd i a, p.1 < env.locals ∨ p.2.cls ≠ .type "list_iterator")
    (hn : ∀ p ∈ Wd 0 a₀, p ∈ news) (hI : Inv 0 a₀) (hV : AgreeV m (V 0 a₀))
    (turn : ∀ i a v I io m₁ h₁ tk₁, i < items.size → Inv i a → items[i]? = some v → io.cls = .type "list_iterator" → (∀ q ∈ news, q.1 < I) → Fr h₀ env.locals h₁ (fun y => if y = x then some v else over (V i a) m₁ y) → News h₀ env.locals h₁ ((I, io) :: Wd i a) →
      wpAny (model prog w) A (execs body env) (FTo h₀ env.locals V Wd Inv (i + 1) I io { s with heap := h₁, toks := tk₁ } Q) (fun _ _ => False) { s with heap := h₁, toks := tk₁ })
    (done : ∀ a m₁ h₁ tk₁, Inv items.size a → Fr h₀ env.locals h₁ (over (V items.size a) m₁) → News h₀ env.locals h₁ (Wd items.size a) → Q .next { s with heap := h₁, toks := tk₁ }) :
    wpAny (model prog w) A (pyIter (.ref l)) (fun it s₂ => LoopAtV prog w A h₀ env x body Q (fun _ _ => False) it s₂) (fun _ _ => False) s := by
  have hls : s.heap.IsList l items := ⟨_, (N _ hl).1, rfl, c, rfl⟩
  have hne : l ≠ s.heap.objs.size := Nat.ne_of_lt (Heap.lt_size (N _ hl).1)
  refine wpAny_pyIter_list hls ?_
  refine iter_W (s := { s with heap := s.heap.push _ }) (Walks.list (prog := prog) (w := w) hh s.heap.objs.size l hne items) V Wd Inv a₀ ?_ F.ns.lt ?_ ?_ hoff ⟨⟨_, Heap.get?_push_size _ rfl, rfl, rfl⟩, hls.at fun o e => Heap.get?_push_of_some _ e⟩ (F.push _)
    (News.grown N fun _ _ e => Heap.get?_push_of_some _ e) hn hI hV (fun i a v io m₁ h₁ tk₁ hi hIa hP hc F₁ N₁ => turn i a v _ io m₁ h₁ tk₁ hi hIa hP hc (fun q hq => Heap.lt_size (N q hq).1) F₁ N₁) done
  · intro b hb
    rcases List.mem_cons.mp hb with e | hb
    · exact .inl e
    · rw [List.mem_singleton.mp hb]; exact .inr ⟨(N _ hl).2.1, _, hstay⟩
  · exact next_is_new F
  · rintro i h ⟨⟨o, ho, hc, _⟩, _⟩
    exact ⟨o, ho, hc⟩
end
noncomputable abbrev RetB (b : Bool) (v : Value) (tl : Led) : Prop := v = .bool b ∧ tl = []
noncomputable abbrev RetI (n : Int) (v : Value) (tl : Led) : Prop := (∃ k, v = .int n k) ∧ tl = []
noncomputable abbrev RetS (x : Str) (v : Value) (tl : Led) : Prop := (∃ k, v = .str x k) ∧ tl = []
noncomputable def b3fold (c : Nat) : Str := (b3At c).getD (Txt.lower ⟨#[c]⟩)
noncomputable def inC4 (c : Nat) : Bool := if (c : Int) < 64976 then false else if (c : Int) < 65008 then true else ([65534, 65535] : List Int).any fun x => x == Builtin.bitAnd (c : Int) 65535

section
variable {w : World} {mg mb : Str → Option Value} {loose : List Str} {ad : Str → Addr} {news : Led}
theorem in_b1_body (c : Nat) (t : Tok) : Body w mg mb loose ad 12 0 0 [.str ⟨#[c]⟩ t] news (RetB (b1L.contains (c : Int))) := by
  refine ⟨?_⟩
  intro dp un gd cd outer A₀ base g L s Q B F GG N lt hd hu ret
  have KX := noIn g
  conv in fbody _ => dsimp only [fbody, stm, prog, PySem.Challenge.pw_il0214_01, List.getElem?_cons_succ, List.getElem?_cons_zero, Option.getD_some]
  dsimp only [fargs, stm, prog, PySem.Challenge.pw_il0214_01, List.getElem?_cons_succ, List.getElem?_cons_zero, Option.getD_some, List.map, List.zip, List.zipWith, List.reverse, List.reverseAux] at F
  k_steps
  all_goals ((try dsimp only); refine ret _ [] _ _ _ (by k_asm) (by first | k_asm | exact cb_drop (by assumption) (by show ∀ p ∈ news, _; (first | (intro p hp; (repeat (first | exact hp | apply List.mem_cons_of_mem)); done) | kcj_all))) (fun _ _ _ h => nomatch h) ?_; exact ⟨rfl, rfl⟩)
theorem in_b1_says (c : Nat) (t : Tok) : Says w mg mb loose ad "in_table_b1" 1 3 [.str ⟨#[c]⟩ t] news (RetB (b1L.contains (c : Int))) :=
  says_of_body (i := 12) rfl rfl (fun _ _ _ => BindsTo.of_eq rfl) (locs rfl) (by decide +kernel) (by kernel_rfl) (by kernel_rfl) (by kernel_rfl) (in_b1_body c t)
theorem in_c6_body (c : Nat) (t : Tok) : Body w mg mb loose ad 17 0 0 [.str ⟨#[c]⟩ t] news (RetB (c6L.contains (c : Int))) := by
  refine ⟨?_⟩
  intro dp un gd cd outer A₀ base g L s Q B F GG N lt hd hu ret
  have KX := noIn g
  conv in fbody _ => dsimp only [fbody, stm, prog, PySem.Challenge.pw_il0214_01, List.getElem?_cons_succ, List.getElem?_cons_zero, Option.getD_some]
  dsimp only [fargs, stm, prog, PySem.Challenge.pw_il0214_01, List.getElem?_cons_succ, List.getElem?_cons_zero, Option.getD_some, List.map, List.zip, List.zipWith, List.reverse, List.reverseAux] at F
  k_steps
  all_goals ((try dsimp only); refine ret _ [] _ _ _ (by k_asm) (by first | k_asm | exact cb_drop (by assumption) (by show ∀ p ∈ news, _; (first | (intro p hp; (repeat (first | exact hp | apply List.mem_cons_of_mem)); done) | kcj_all))) (fun _ _ _ h => nomatch h) ?_; exact ⟨rfl, rfl⟩)
theorem in_c6_says (c : Nat) (t : Tok) : Says w mg mb loose ad "in_table_c6" 1 3 [.str ⟨#[c]⟩ t] news (RetB (c6L.contains (c : Int))) :=
  says_of_body (i := 17) rfl rfl (fun _ _ _ => BindsTo.of_eq rfl) (locs rfl) (by decide +kernel) (by kernel_rfl) (by kernel_rfl) (by kernel_rfl) (in_c6_body c t)
theorem in_c7_body (c : Nat) (t : Tok) : Body w mg mb loose ad 19 0 0 [.str ⟨#[c]⟩ t] news (RetB (c7L.contains (c : Int))) := by
  refine ⟨?_⟩
  intro dp un gd cd outer A₀ base g L s Q B F GG N lt hd hu ret
  have KX := noIn g
  conv in fbody _ => dsimp only [fbody, stm, prog, PySem.Challenge.pw_il0214_01, List.getElem?_cons_succ, List.getElem?_cons_zero, Option.getD_some]
  dsimp only [fargs, stm, prog, PySem.Challenge.pw_il0214_01, List.getElem?_cons_succ, List.getElem?_cons_zero, Option.getD_some, List.map, List.zip, List.zipWith, List.reverse, List.reverseAux] at F
  k_steps
  all_goals ((try dsimp only); refine ret _ [] _ _ _ (by k_asm) (by first | k_asm | exact cb_drop (by assumption) (by show ∀ p ∈ news, _; (first | (intro p hp; (repeat (first | exact hp | apply List.mem_cons_of_mem)); done) | kcj_all))) (fun _ _ _ h => nomatch h) ?_; exact ⟨rfl, rfl⟩)
theorem in_c7_says (c : Nat) (t : Tok) : Says w mg mb loose ad "in_table_c7" 1 3 [.str ⟨#[c]⟩ t] news (RetB (c7L.contains (c : Int))) :=
  says_of_body (i := 19) rfl rfl (fun _ _ _ => BindsTo.of_eq rfl) (locs rfl) (by decide +kernel) (by kernel_rfl) (by kernel_rfl) (by kernel_rfl) (in_c7_body c t)
theorem in_c8_body (c : Nat) (t : Tok) : Body w mg mb loose ad 21 0 0 [.str ⟨#[c]⟩ t] news (RetB (c8L.contains (c : Int))) := by
  refine ⟨?_⟩
  intro dp un gd cd outer A₀ base g L s Q B F GG N lt hd hu ret
  have KX := noIn g
  conv in fbody _ => dsimp only [fbody, stm, prog, PySem.Challenge.pw_il0214_01, List.getElem?_cons_succ, List.getElem?_cons_zero, Option.getD_some]
  dsimp only [fargs, stm, prog, PySem.Challenge.pw_il0214_01, List.getElem?_cons_succ, List.getElem?_cons_zero, Option.getD_some, List.map, List.zip, List.zipWith, List.reverse, List.reverseAux] at F
  k_steps
  all_goals ((try dsimp only); refine ret _ [] _ _ _ (by k_asm) (by first | k_asm | exact cb_drop (by assumption) (by show ∀ p ∈ news, _; (first | (intro p hp; (repeat (first | exact hp | apply List.mem_cons_of_mem)); done) | kcj_all))) (fun _ _ _ h => nomatch h) ?_; exact ⟨rfl, rfl⟩)
theorem in_c8_says (c : Nat) (t : Tok) : Says w mg mb loose ad "in_table_c8" 1 3 [.str ⟨#[c]⟩ t] news (RetB (c8L.contains (c : Int))) :=
  says_of_body (i := 21) rfl rfl (fun _ _ _ => BindsTo.of_eq rfl) (locs rfl) (by decide +kernel) (by kernel_rfl) (by kernel_rfl) (by kernel_rfl) (in_c8_body c t)
theorem in_c9_body (c : Nat) (t : Tok) : Body w mg mb loose ad 23 0 0 [.str ⟨#[c]⟩ t] news (RetB (c9L.contains (c : Int))) := by
  refine ⟨?_⟩
  intro dp un gd cd outer A₀ base g L s Q B F GG N lt hd hu ret
  have KX := noIn g
  conv in fbody _ => dsimp only [fbody, stm, prog, PySem.Challenge.pw_il0214_01, List.getElem?_cons_succ, List.getElem?_cons_zero, Option.getD_some]
  dsimp only [fargs, stm, prog, PySem.Challenge.pw_il0214_01, List.getElem?_cons_succ, List.getElem?_cons_zero, Option.getD_some, List.map, List.zip, List.zipWith, List.reverse, List.reverseAux] at F
  k_steps
  all_goals ((try dsimp only); refine ret _ [] _ _ _ (by k_asm) (by first | k_asm | exact cb_drop (by assumption) (by show ∀ p ∈ news, _; (first | (intro p hp; (repeat (first | exact hp | apply List.mem_cons_of_mem)); done) | kcj_all))) (fun _ _ _ h => nomatch h) ?_; exact ⟨rfl, rfl⟩)
theorem in_c9_says (c : Nat) (t : Tok) : Says w mg mb loose ad "in_table_c9" 1 3 [.str ⟨#[c]⟩ t] news (RetB (c9L.contains (c : Int))) :=
  says_of_body (i := 23) rfl rfl (fun _ _ _ => BindsTo.of_eq rfl) (locs rfl) (by decide +kernel) (by kernel_rfl) (by kernel_rfl) (by kernel_rfl) (in_c9_body c t)
theorem map_b3_body (c : Nat) (t : Tok) : Body w mg mb loose ad 14 0 0 [.str ⟨#[c]⟩ t] news (RetS (b3fold c)) := by
  refine ⟨?_⟩
  intro dp un gd cd outer A₀ base g L s Q B F GG N lt hd hu ret
  have KX := noIn g
  conv in fbody _ => dsimp only [fbody, stm, prog, PySem.Challenge.pw_il0214_01, List.getElem?_cons_succ, List.getElem?_cons_zero, Option.getD_some]
  dsimp only [fargs, stm, prog, PySem.Challenge.pw_il0214_01, List.getElem?_cons_succ, List.getElem?_cons_zero, Option.getD_some, List.map, List.zip, List.zipWith, List.reverse, List.reverseAux] at F
  k_steps
  all_goals ((try dsimp only); refine ret _ [] _ _ _ (by k_asm) (by first | k_asm | exact cb_drop (by assumption) (by show ∀ p ∈ news, _; (first | (intro p hp; (repeat (first | exact hp | apply List.mem_cons_of_mem)); done) | kcj_all))) (fun _ _ _ h => nomatch h) ?_; refine ⟨⟨_, congrArg (Value.str · _) ?_⟩, rfl⟩; simp only [b3fold, *, Option.getD_some, Option.getD_none])
theorem map_b3_says (c : Nat) (t : Tok) : Says w mg mb loose ad "map_table_b3" 1 3 [.str ⟨#[c]⟩ t] news (RetS (b3fold c)) :=
  says_of_body (i := 14) rfl rfl (fun _ _ _ => BindsTo.of_eq rfl) (locs rfl) (by decide +kernel) (by kernel_rfl) (by kernel_rfl) (by kernel_rfl) (map_b3_body c t)
theorem in_c4_body (c : Nat) (t : Tok) : Body w mg mb loose ad 15 0 0 [.str ⟨#[c]⟩ t] news (RetB (inC4 c)) := by
  refine ⟨?_⟩
  intro dp un gd cd outer A₀ base g L s Q B F GG N lt hd hu ret
  have KX := noIn g
  conv in fbody _ => dsimp only [fbody, stm, prog, PySem.Challenge.pw_il0214_01, List.getElem?_cons_succ, List.getElem?_cons_zero, Option.getD_some]
  dsimp only [fargs, stm, prog, PySem.Challenge.pw_il0214_01, List.getElem?_cons_succ, List.getElem?_cons_zero, Option.getD_some, List.map, List.zip, List.zipWith, List.reverse, List.reverseAux] at F
  k_steps
  all_goals ((try dsimp only); refine ret _ [] _ _ _ (by k_asm) (by first | k_asm | exact cb_drop (by assumption) (by show ∀ p ∈ news, _; (first | (intro p hp; (repeat (first | exact hp | apply List.mem_cons_of_mem)); done) | kcj_all))) (fun _ _ _ h => nomatch h) ?_; refine ⟨congrArg Value.bool ?_, rfl⟩; clear ret; unfold inC4)
  · rw [if_pos (by assumption)]
  · rw [if_neg (by omega), if_pos (by assumption)]
  · rw [if_neg (by omega), if_neg (by omega)]
theorem in_c4_says (c : Nat) (t : Tok) : Says w mg mb loose ad "in_table_c4" 1 3 [.str ⟨#[c]⟩ t] news (RetB (inC4 c)) :=
  says_of_body (i := 15) rfl rfl (fun _ _ _ => BindsTo.of_eq rfl) (locs rfl) (by decide +kernel) (by kernel_rfl) (by kernel_rfl) (by kernel_rfl) (in_c4_body c t)
theorem strcoll_body (a b : Str) (t u : Tok) :
   Body w mg mb loose ad 2 0 0 [.str a t, .str b u] news (RetI (b2i (decide (b.cps.toList < a.cps.toList)) - b2i (decide (a.cps.toList < b.cps.toList)))) := by
  refine ⟨?_⟩
  intro dp un gd cd outer A₀ base g L s Q B F GG N lt hd hu ret
  have KX := noIn g
  conv in fbody _ => dsimp only [fbody, stm, prog, PySem.Challenge.pw_il0214_01, List.getElem?_cons_succ, List.getElem?_cons_zero, Option.getD_some]
  dsimp only [fargs, stm, prog, PySem.Challenge.pw_il0214_01, List.getElem?_cons_succ, List.getElem?_cons_zero, Option.getD_some, List.map, List.zip, List.zipWith, List.reverse, List.reverseAux] at F
  k_steps
  all_goals ((try dsimp only); refine ret _ [] _ _ _ (by k_asm) (by first | k_asm | exact cb_drop (by assumption) (by show ∀ p ∈ news, _; (first | (intro p hp; (repeat (first | exact hp | apply List.mem_cons_of_mem)); done) | kcj_all))) (fun _ _ _ h => nomatch h) ?_; exact ⟨⟨_, rfl⟩, rfl⟩)
theorem strcoll_says (a b : Str) (t u : Tok) : Says w mg mb loose ad "_strcoll" 1 3 [.str a t, .str b u] news (RetI (b2i (decide (b.cps.toList < a.cps.toList)) - b2i (decide (a.cps.toList < b.cps.toList)))) :=
  says_of_body (i := 2) rfl rfl (fun _ _ _ => BindsTo.of_eq rfl) (locs rfl) (by decide +kernel) (by kernel_rfl) (by kernel_rfl) (by kernel_rfl) (strcoll_body a b t u)
theorem strxfrm_body (a : Str) (t : Tok) : Body w mg mb loose ad 3 0 0 [.str a t] news (RetS a) := by
  refine ⟨?_⟩
  intro dp un gd cd outer A₀ base g L s Q B F GG N lt hd hu ret
  have KX := noIn g
  conv in fbody _ => dsimp only [fbody, stm, prog, PySem.Challenge.pw_il0214_01, List.getElem?_cons_succ, List.getElem?_cons_zero, Option.getD_some]
  dsimp only [fargs, stm, prog, PySem.Challenge.pw_il0214_01, List.getElem?_cons_succ, List.getElem?_cons_zero, Option.getD_some, List.map, List.zip, List.zipWith, List.reverse, List.reverseAux] at F
  k_steps
  all_goals ((try dsimp only); refine ret _ [] _ _ _ (by k_asm) (by first | k_asm | exact cb_drop (by assumption) (by show ∀ p ∈ news, _; (first | (intro p hp; (repeat (first | exact hp | apply List.mem_cons_of_mem)); done) | kcj_all))) (fun _ _ _ h => nomatch h) ?_; exact ⟨⟨_, rfl⟩, rfl⟩)
theorem strxfrm_says (a : Str) (t : Tok) : Says w mg mb loose ad "_strxfrm" 1 3 [.str a t] news (RetS a) :=
  says_of_body (i := 3) rfl rfl (fun _ _ _ => BindsTo.of_eq rfl) (locs rfl) (by decide +kernel) (by kernel_rfl) (by kernel_rfl) (by kernel_rfl) (strxfrm_body a t)
end
noncomputable def alphL : List Int := [119808, 119860, 119912, 120016, 120172, 120224, 120276, 120328, 120380, 120432]
noncomputable def ltr (c : Nat) (wr : Int) : Nat := (if wr < 2 then (c : Int) - 32 * wr else alphL.getD (wr - 2).toNat 0 + c - 97).toNat
theorem alph_bd (i : Nat) : 0 ≤ alphL.getD i 0 ∧ alphL.getD i 0 ≤ 120432 := by
  unfold alphL
  match i with
  | 0 | 1 | 2 | 3 | 4 | 5 | 6 | 7 | 8 | 9 => decide
  | n + 10 => simp
section
variable {w : World} {mg mb : Str → Option Value} {loose : List Str} {ad : Str → Addr} {news : Led}
theorem letter_body (c : Nat) (wr : Int) (t u : Tok) (h1 : 97 ≤ c) (h2 : c ≤ 122) (h3 : 0 ≤ wr) (h4 : wr < 12) : Body w mg mb loose ad 25 0 0 [.str ⟨#[c]⟩ t, .int wr u] news (RetS ⟨#[ltr c wr]⟩) := by
  refine ⟨?_⟩
  intro dp un gd cd outer A₀ base g L s Q B F GG N lt hd hu ret
  have KX := noIn g
  conv in fbody _ => dsimp only [fbody, stm, prog, PySem.Challenge.pw_il0214_01, List.getElem?_cons_succ, List.getElem?_cons_zero, Option.getD_some]
  dsimp only [fargs, stm, prog, PySem.Challenge.pw_il0214_01, List.getElem?_cons_succ, List.getElem?_cons_zero, Option.getD_some, List.map, List.zip, List.zipWith, List.reverse, List.reverseAux] at F
  have hA := alph_bd (wr - 2).toNat
  unfold alphL at hA
  k_steps
  · (try dsimp only); refine ret _ [] _ _ _ (by k_asm) (by first | k_asm | exact cb_drop (by assumption) (by show ∀ p ∈ news, _; (first | (intro p hp; (repeat (first | exact hp | apply List.mem_cons_of_mem)); done) | kcj_all))) (fun _ _ _ h => nomatch h) ?_; refine ⟨⟨_, congrArg (Value.str · _) ?_⟩, rfl⟩; rw [ltr, if_pos (by assumption)]
  · (try dsimp only); refine ret _ [] _ _ _ (by k_asm) (by first | k_asm | exact cb_drop (by assumption) (by show ∀ p ∈ news, _; (first | (intro p hp; (repeat (first | exact hp | apply List.mem_cons_of_mem)); done) | kcj_all))) (fun _ _ _ h => nomatch h) ?_; refine ⟨⟨_, congrArg (Value.str · _) ?_⟩, rfl⟩; rw [ltr, if_neg (by assumption)]; rfl
theorem letter_says (c : Nat) (wr : Int) (t u : Tok) (h1 : 97 ≤ c) (h2 : c ≤ 122) (h3 : 0 ≤ wr) (h4 : wr < 12) : Says w mg mb loose ad "_law_letter" 1 3 [.str ⟨#[c]⟩ t, .int wr u] news (RetS ⟨#[ltr c wr]⟩) :=
  says_of_body (i := 25) rfl rfl (fun _ _ _ => BindsTo.of_eq rfl) (locs rfl) (by decide +kernel) (by kernel_rfl) (by kernel_rfl) (by kernel_rfl) (letter_body c wr t u h1 h2 h3 h4)
end
noncomputable def Kept (h₀ h : Heap) : Prop := ∀ b o, h₀.get? b = some o → h.get? b = some o
theorem G.has {w mg mb loose ad h} (g : G w mg mb loose ad h) (x : Str) (hx : ((List.range 36).any fun i => isDef i && fname i == x) = true) : ∃ o fd, h.get? (ad x) = some o ∧ o.data = .func fd := by
  obtain ⟨i, _, hi⟩ := List.any_eq_true.mp hx
  rw [Bool.and_eq_true] at hi
  obtain ⟨pm, cd, ho, _⟩ := (g.fn i hi.1).made
  have e : fname i = x := by simpa using hi.2
  rw [e] at ho
  exact ⟨_, _, ho, rfl⟩
section
variable {w : World} {A : Around} {E : Value → Shared → Prop} {s : Shared} {h₀ : Heap} {mg mb : Str → Option Value} {loose : List Str} {ad : Str → Addr} {x : Str} {pos : Pos} {env : Env} {Q : Value → Shared → Prop}
theorem callWith_G {e : Expr} {rest : List Expr} (g : G w mg mb loose ad h₀) (hx : ((List.range 36).any fun i => isDef i && fname i == x) = true)
    (h : wpAny (model prog w) A (spliced (backTo pos (starEach (e :: rest) env))) (fun vs s₁ => Kept h₀ s₁.heap ∧ wpAny (model prog w) A (call (.ref (ad x)) vs) Q E s₁) E s)
    (he : starEach (e :: rest) env = (false, eval e env) :: starEach rest env := by rfl) :
    wpAny (model prog w) A (callWith pos (.ref (ad x)) [] (backTo pos (starEach (e :: rest) env)) []) Q E s := by
  obtain ⟨o, fd, ho, hd⟩ := g.has x hx
  exact callWith_def hd (wpAny_mono h (fun vs s₁ h₁ => ⟨h₁.1 _ _ ho, h₁.2⟩) fun _ _ x => x) he
end
theorem all_cons {α : Type} {P : α → Prop} {a : α} {l : List α} (h : P a) (t : ∀ p ∈ l, P p) : ∀ p ∈ a :: l, P p := List.forall_mem_cons.mpr ⟨h, t⟩
theorem all_app {α : Type} {P : α → Prop} {k l : List α} (h : ∀ p ∈ k, P p) (t : ∀ p ∈ l, P p) : ∀ p ∈ k ++ l, P p := fun p hp => (List.mem_append.mp hp).elim (h p) (t p)
theorem gq {α : Type} {M : Model} {A : Around} {t : Sem α} {E : Value → Shared → Prop} {s : Shared} {P : α → Shared → Prop} (h : ∀ Q : α → Shared → Prop, (∀ v s', P v s' → Q v s') → wpAny M A t Q E s) : wpAny M A t P E s := h P fun _ _ h => h
theorem lim_le {n a b c : Nat} (h : n + b < c) (e : Nat.ble a b = true) : n + a < c := Nat.lt_of_le_of_lt (Nat.add_le_add_left (Nat.le_of_ble_eq_true e) n) h
theorem kept_and {h₀ h : Heap} {L : Addr} {m : Str → Option Value} {P : Prop} (F : Fr h₀ L h m) (k : P) : Kept h₀ h ∧ P := ⟨fun b o e => F.keep b o e, k⟩
theorem Says.use {w : World} {mg mb : Str → Option Value} {loose : List Str} {ad : Str → Addr} {x : Str} {d u : Nat} {vs : List Value} {news : Led} {post : Value → Led → Prop}
    (S : Says w mg mb loose ad x d u vs news post) {dp un : Nat} {gd : Option (List Code)} {cn : Str} {cs : Scope} {a : Addr} {ccd : Value} {cl : List (Str × Addr)} {outer : List Env} {A₀ : Around} {base h₀ : Heap} {L : Addr} {m : Str → Option Value} {s : Shared} {Q E : Value → Shared → Prop}
    (B : Below A₀ base outer h₀) (F : Fr h₀ L s.heap m) (g : G w mg mb loose ad h₀) (N : News h₀ L s.heap news) (hcs : cs.kind = .function) (hd : dp + d < recursionLimit) (hu : un + u < cLine)
    (ret : ∀ r tl h' tk', Fr h₀ L h' m → News h₀ L h' (tl ++ news) → (∀ q ∈ news, ∀ p ∈ tl, q.1 < p.1) → post r tl → Q r { s with heap := h', toks := tk' }) :
    wpAny (model prog w) (ktrTop dp un gd cn cs L a ccd cl outer) (call (.ref (ad x)) vs) Q E s :=
  S.run dp un gd cn cs a ccd cl outer A₀ base h₀ L m s Q E B F g N hcs hd hu ret
theorem Says.useS {w : World} {mg mb : Str → Option Value} {loose : List Str} {ad : Str → Addr} {x : Str} {d u : Nat} {vs : List Value} {news : Led} {f : Tok → Value}
    {dp un : Nat} {gd : Option (List Code)} {cn : Str} {cs : Scope} {a : Addr} {ccd : Value} {cl : List (Str × Addr)} {outer : List Env} {A₀ : Around} {base h₀ : Heap} {L : Addr} {m : Str → Option Value} {s : Shared} {Q E : Value → Shared → Prop}
    (B : Below A₀ base outer h₀) (F : Fr h₀ L s.heap m) (g : G w mg mb loose ad h₀) (N : News h₀ L s.heap news) (hcs : cs.kind = .function) (hd : dp + d < recursionLimit) (hu : un + u < cLine)
    (S : Says w mg mb loose ad x d u vs news (fun v tl => (∃ k, v = f k) ∧ tl = []))
    (ret : ∀ k h' tk', Fr h₀ L h' m → News h₀ L h' news → Q (f k) { s with heap := h', toks := tk' }) :
    wpAny (model prog w) (ktrTop dp un gd cn cs L a ccd cl outer) (call (.ref (ad x)) vs) Q E s :=
  S.run dp un gd cn cs a ccd cl outer A₀ base h₀ L m s Q E B F g N hcs hd hu fun r tl h' tk' F' N' _ hp => by
    obtain ⟨⟨k, rfl⟩, rfl⟩ := hp
    exact ret k h' tk' F' N'
theorem Says.useB {w : World} {mg mb : Str → Option Value} {loose : List Str} {ad : Str → Addr} {x : Str} {d u : Nat} {vs : List Value} {news : Led} {y : Bool}
    {dp un : Nat} {gd : Option (List Code)} {cn : Str} {cs : Scope} {a : Addr} {ccd : Value} {cl : List (Str × Addr)} {outer : List Env} {A₀ : Around} {base h₀ : Heap} {L : Addr} {m : Str → Option Value} {s : Shared} {Q E : Value → Shared → Prop}
    (B : Below A₀ base outer h₀) (F : Fr h₀ L s.heap m) (g : G w mg mb loose ad h₀) (N : News h₀ L s.heap news) (hcs : cs.kind = .function) (hd : dp + d < recursionLimit) (hu : un + u < cLine)
    (S : Says w mg mb loose ad x d u vs news (RetB y))
    (ret : ∀ h' tk', Fr h₀ L h' m → News h₀ L h' news → Q (.bool y) { s with heap := h', toks := tk' }) :
    wpAny (model prog w) (ktrTop dp un gd cn cs L a ccd cl outer) (call (.ref (ad x)) vs) Q E s :=
  S.run dp un gd cn cs a ccd cl outer A₀ base h₀ L m s Q E B F g N hcs hd hu fun r tl h' tk' F' N' _ hp => by
    obtain ⟨rfl, rfl⟩ := hp
    exact ret h' tk' F' N'
theorem Says.use2 {w : World} {mg mb : Str → Option Value} {loose : List Str} {ad : Str → Addr} {x : Str} {d u : Nat} {vs : List Value} {news : Led} {f : Tok → Tok → Array Value}
    {dp un : Nat} {gd : Option (List Code)} {cn : Str} {cs : Scope} {a : Addr} {ccd : Value} {cl : List (Str × Addr)} {outer : List Env} {A₀ : Around} {base h₀ : Heap} {L : Addr} {m : Str → Option Value} {s : Shared} {Q E : Value → Shared → Prop}
    (B : Below A₀ base outer h₀) (F : Fr h₀ L s.heap m) (g : G w mg mb loose ad h₀) (N : News h₀ L s.heap news) (hcs : cs.kind = .function) (hd : dp + d < recursionLimit) (hu : un + u < cLine)
    (S : Says w mg mb loose ad x d u vs news (fun v tl => ∃ p t1 t2 c, v = .ref p ∧ tl = [(p, W.listOf (f t1 t2) c)]))
    (ret : ∀ p t1 t2 c h' tk', (∀ q ∈ news, q.1 < p) → Fr h₀ L h' m → News h₀ L h' ((p, W.listOf (f t1 t2) c) :: news) → Q (.ref p) { s with heap := h', toks := tk' }) :
    wpAny (model prog w) (ktrTop dp un gd cn cs L a ccd cl outer) (call (.ref (ad x)) vs) Q E s :=
  S.run dp un gd cn cs a ccd cl outer A₀ base h₀ L m s Q E B F g N hcs hd hu fun r tl h' tk' F' N' o hp => by
    obtain ⟨p, t1, t2, c, rfl, rfl⟩ := hp
    exact ret p t1 t2 c h' tk' (fun q hq => o q hq _ (.head _)) F' N'
theorem Says.useR {w : World} {mg mb : Str → Option Value} {loose : List Str} {ad : Str → Addr} {x : Str} {d u : Nat} {vs : List Value} {news : Led} {P : List Value → Prop}
    {dp un : Nat} {gd : Option (List Code)} {cn : Str} {cs : Scope} {a : Addr} {ccd : Value} {cl : List (Str × Addr)} {outer : List Env} {A₀ : Around} {base h₀ : Heap} {L : Addr} {m : Str → Option Value} {s : Shared} {Q E : Value → Shared → Prop}
    (B : Below A₀ base outer h₀) (F : Fr h₀ L s.heap m) (g : G w mg mb loose ad h₀) (N : News h₀ L s.heap news) (hcs : cs.kind = .function) (hd : dp + d < recursionLimit) (hu : un + u < cLine)
    (S : Says w mg mb loose ad x d u vs news (fun v tl => ∃ p vs c, v = .ref p ∧ tl = [(p, W.listOf (List.toArray vs) c)] ∧ P vs))
    (ret : ∀ p vs c h' tk', P vs → (∀ q ∈ news, q.1 < p) → Fr h₀ L h' m → News h₀ L h' ((p, W.listOf (List.toArray vs) c) :: news) → Q (.ref p) { s with heap := h', toks := tk' }) :
    wpAny (model prog w) (ktrTop dp un gd cn cs L a ccd cl outer) (call (.ref (ad x)) vs) Q E s :=
  S.run dp un gd cn cs a ccd cl outer A₀ base h₀ L m s Q E B F g N hcs hd hu fun r tl h' tk' F' N' o hp => by
    obtain ⟨p, vs, c, rfl, rfl, hP⟩ := hp
    exact ret p vs c h' tk' hP (fun q hq => o q hq _ (.head _)) F' N'
theorem ilist_range {w : World} {A : Around} {E : Value → Shared → Prop} {s : Shared} {h₀ : Heap} {L : Addr} {m : Str → Option Value} {Q : Value → Shared → Prop} {r : Addr} {a b c : Int} {t u v : Tok} {n : Nat} {news : Led}
    (hh : A.handled = none) (Fh : Fr h₀ L s.heap m) (N : News h₀ L s.heap news)
    (hr : IsRange s.heap r a b c t u v) (hsmall : Builtin.Range.small a b c = true) (hn : Builtin.Range.rangeSize a b c = (n : Int)) (hlen : n ≤ 2 ^ 24)
    (hQ : ∀ D ys k h' tk, Fr h₀ L h' m → News h₀ L h' ((D, W.listOf (List.toArray ys) k) :: news) → (∀ p ∈ news, p.1 < D) → IntsAre ys (rangeInts a c n) → Q (.ref D) { s with heap := h', toks := tk }) :
    wpAny (model prog w) A (call (.type "list") [.ref r]) Q E s := by
  refine list_rangeD hh Fh N hr hsmall hn hlen fun h' tk ys F' N' hk hg hl hp hc => ?_
  obtain ⟨⟨k, hk1⟩, hk2⟩ := hp
  have hne : s.heap.objs.size ≠ L := Nat.ne_of_gt Fh.ns.lt
  refine hQ s.heap.objs.size ys k h' tk F' (fun p hp => ?_) (fun p hp => Heap.lt_size (N p hp).1) (ints_of_carried hc)
  rcases List.mem_cons.mp hp with rfl | hp
  · exact ⟨hk1, hne, hg⟩
  · exact N' p hp
theorem fmod_nat (a b : Nat) : Int.fmod (a : Int) (b : Int) = ((a % b : Nat) : Int) := by
  rw [Int.fmod_eq_emod_of_nonneg _ (by omega)]; rfl
theorem fdiv_nat (a b : Nat) : Int.fdiv (a : Int) (b : Int) = ((a / b : Nat) : Int) := by
  rw [Int.fdiv_eq_ediv_of_nonneg _ (by omega)]; rfl
theorem While_k {α : Type} {w : World} {A : Around} {s : Shared} {env : Env} {h₀ : Heap} {Q : Flow → Shared → Prop} {L : Addr} {test : Expr} {body : List Stmt} {pos : Pos} {m : Str → Option Value} {news : Led} (V : α → List (Str × Value)) (K : List (Str × Value)) (Inv : α → Prop) (ms : α → Nat) (a₀ : α)
    (F : Fr h₀ L s.heap m) (N : News h₀ L s.heap news) (hI : Inv a₀) (hV : AgreeV m (V a₀ ++ K))
    (turn : ∀ a m₁ h₁ tk₁ Q', (∀ f s', WTo h₀ L (fun a => V a ++ K) (fun _ => news) Inv ms (ms a) { s with heap := h₁, toks := tk₁ } f s' → Q' f s') → Inv a → Fr h₀ L h₁ (over (V a ++ K) m₁) → News h₀ L h₁ news →
      wpAny (model prog w) A (isTrue test env (eval test env)) (fun b s₂ => if b = true then wpAny (model prog w) A (execs body env) Q' (fun _ _ => False) s₂ else Q .next s₂)
        (fun _ _ => False) { s with heap := h₁, toks := tk₁ }) :
    wpAny (model prog w) A (exec (.While test body [] pos) env) Q (fun _ _ => False) s :=
  While_st (fun a => V a ++ K) (fun _ => news) Inv ms a₀ F N (fun _ h => h) hI hV fun a m₁ h₁ tk₁ => turn a m₁ h₁ tk₁ _ fun _ _ h => h
structure Stop (p : Prop) : Prop where
  out : p
theorem ord_of {news : Led} {x y : Addr} {q : Addr × Obj} (h : ∀ p ∈ news, p.1 < x) (hq : q ∈ news) (hx : @LE.le Nat _ x y) : q.1 < y := Nat.lt_of_lt_of_le (h q hq) hx
theorem listOf_off (x : Array Value) (c : Nat) : (W.listOf x c).cls ≠ .type "list_iterator" := by show Value.type "list" ≠ Value.type "list_iterator"; decide
theorem iter_k {α : Type} {w : World} {A : Around} {s : Shared} {env : Env} {h₀ : Heap} {Q : Flow → Shared → Prop} {x : Str} {body : List Stmt} {l : Addr} {items : Array Value} {c : Nat} {m : Str → Option Value} {news : Led}
    (V : Nat → α → List (Str × Value)) (K : List (Str × Value)) (ds : List Addr) (wd : Nat → α → List Obj) (W₀ : Led) (Inv : Nat → α → Prop) (a₀ : α)
    (hh : A.handled = none) (F : Fr h₀ env.locals s.heap m) (N : News h₀ env.locals s.heap news) (hl : (l, W.listOf items c) ∈ W₀)
    (hds : ∀ i a, Inv i a → ∀ o ∈ wd i a, o.cls ≠ .type "list_iterator")
    (hW₀ : ∀ p ∈ W₀, p.1 < env.locals ∨ p.2.cls ≠ .type "list_iterator")
    (hn : ∀ p ∈ ds.zip (wd 0 a₀) ++ W₀, p ∈ news) (hI : Inv 0 a₀) (hV : AgreeV m (V 0 a₀ ++ K))
    (turn : ∀ i a v I io m₁ h₁ tk₁, i < items.size → Inv i a → items[i]? = some v → io.cls = .type "list_iterator" → (∀ q ∈ news, q.1 < I) → Fr h₀ env.locals h₁ (fun y => if y = x then some v else over (V i a ++ K) m₁ y) → News h₀ env.locals h₁ ((I, io) :: (ds.zip (wd i a) ++ W₀)) →
      wpAny (model prog w) A (execs body env) (FTo h₀ env.locals (fun i a => V i a ++ K) (fun i a => ds.zip (wd i a) ++ W₀) Inv (i + 1) I io { s with heap := h₁, toks := tk₁ } Q) (fun _ _ => False) { s with heap := h₁, toks := tk₁ })
    (done : ∀ a m₁ h₁ tk₁, Inv items.size a → Fr h₀ env.locals h₁ (over (V items.size a ++ K) m₁) → News h₀ env.locals h₁ (ds.zip (wd items.size a) ++ W₀) → Q .next { s with heap := h₁, toks := tk₁ }) :
    wpAny (model prog w) A (pyIter (.ref l)) (fun it s₂ => LoopAtV prog w A h₀ env x body Q (fun _ _ => False) it s₂) (fun _ _ => False) s :=
  iter_list (fun i a => V i a ++ K) (fun i a => ds.zip (wd i a) ++ W₀) Inv a₀ hh F N (hn _ (List.mem_append_right _ hl)) (fun _ _ _ => List.mem_append_right _ hl)
    (fun i a hI p hp => by
      rcases List.mem_append.mp hp with hp | hp
      · exact .inr (hds i a hI _ (List.of_mem_zip hp).2)
      · exact hW₀ p hp)
    hn hI hV turn done
theorem IntsAre.get {vs : List Value} {ns : List Int} (h : IntsAre vs ns) : ∀ {i : Nat} {v : Value}, vs[i]? = some v → ∃ n t, v = .int n t ∧ ns[i]? = some n := by
  induction h with
  | nil => intro i v h; simp at h
  | cons n t _ ih =>
    intro i v h
    cases i with
    | zero => simp at h; exact ⟨n, t, h.symm, rfl⟩
    | succ i => simp only [List.getElem?_cons_succ] at h ⊢; exact ih h
theorem all_ne {news : Led} {x D : Addr} (h : ∀ p ∈ news, p.1 < x) (hx : @LE.le Nat _ x D) : ∀ p ∈ news, p.1 ≠ D := fun p hp => Nat.ne_of_lt (Nat.lt_of_lt_of_le (h p hp) hx)
theorem ilen_ints {w : World} {A : Around} {E : Value → Shared → Prop} {s : Shared} {h₀ : Heap} {L : Addr} {Q : Value → Shared → Prop} {news : Led} {D : Addr} {vs : List Value} {c n : Nat} {ns : List Int}
    (N : News h₀ L s.heap news) (hm : (D, W.listOf (List.toArray vs) c) ∈ news) (hI : IntsAre vs ns) (hn : ns.length = n) (hz : n ≤ 1000000) (h : Q (.int (n : Int) (s.toks + 1)) { s with toks := s.toks + 1 + 1 }) :
    wpAny (model prog w) A (call (.builtin "len") [.ref D]) Q E s := by
  have e : vs.toArray.size = n := by rw [List.size_toArray, hI.length, hn]
  refine len_list ⟨_, (N _ hm).1, rfl, c, rfl⟩ (by rw [e]; omega) ?_
  rw [e]; exact h
theorem iter_own {α : Type} {w : World} {A : Around} {s : Shared} {env : Env} {h₀ : Heap} {Q : Flow → Shared → Prop} {x : Str} {body : List Stmt} {m : Str → Option Value} {news : Led} {oI : Obj} {C : String} {n : Nat} {P : Nat → Value → Prop} {St : Nat → Heap → Prop}
    (Wk : Walks prog w A s.heap.objs.size [s.heap.objs.size] [s.heap.objs.size] n P St) (hcls : ∀ i h, St i h → ∃ o, h.get? s.heap.objs.size = some o ∧ o.cls = .type C) (hst : St 0 (s.heap.push oI))
    (V : Nat → α → List (Str × Value)) (K : List (Str × Value)) (ds : List Addr) (wd : Nat → α → List Obj) (W₀ : Led) (Inv : Nat → α → Prop) (a₀ : α)
    (F : Fr h₀ env.locals s.heap m) (N : News h₀ env.locals s.heap news)
    (hds : ∀ i a, Inv i a → ∀ o ∈ wd i a, o.cls ≠ .type C)
    (hW₀ : ∀ p ∈ W₀, p.1 < env.locals ∨ p.2.cls ≠ .type C)
    (hn : ∀ p ∈ ds.zip (wd 0 a₀) ++ W₀, p ∈ news) (hI : Inv 0 a₀) (hV : AgreeV m (V 0 a₀ ++ K))
    (turn : ∀ i a v I io m₁ h₁ tk₁, i < n → Inv i a → P i v → io.cls = .type C → (∀ q ∈ news, q.1 < I) → Fr h₀ env.locals h₁ (fun y => if y = x then some v else over (V i a ++ K) m₁ y) → News h₀ env.locals h₁ ((I, io) :: (ds.zip (wd i a) ++ W₀)) →
      wpAny (model prog w) A (execs body env) (FTo h₀ env.locals (fun i a => V i a ++ K) (fun i a => ds.zip (wd i a) ++ W₀) Inv (i + 1) I io { s with heap := h₁, toks := tk₁ } Q) (fun _ _ => False) { s with heap := h₁, toks := tk₁ })
    (done : ∀ a m₁ h₁ tk₁, Inv n a → Fr h₀ env.locals h₁ (over (V n a ++ K) m₁) → News h₀ env.locals h₁ (ds.zip (wd n a) ++ W₀) → Q .next { s with heap := h₁, toks := tk₁ }) :
    LoopAtV prog w A h₀ env x body Q (fun _ _ => False) (.ref s.heap.objs.size) { s with heap := s.heap.push oI } :=
  iter_W (s := { s with heap := s.heap.push oI }) Wk (fun i a => V i a ++ K) (fun i a => ds.zip (wd i a) ++ W₀) Inv a₀ (fun b hb => .inl (List.mem_singleton.mp hb)) F.ns.lt (next_is_new F) hcls
    (fun i a hI p hp => by
      rcases List.mem_append.mp hp with hp | hp
      · exact .inr (hds i a hI _ (List.of_mem_zip hp).2)
      · exact hW₀ p hp)
    hst (F.push _) (News.grown N fun _ _ e => Heap.get?_push_of_some _ e) hn hI hV
    (fun i a v io m₁ h₁ tk₁ hi hIa hP hc F₁ N₁ => turn i a v _ io m₁ h₁ tk₁ hi hIa hP hc (fun q hq => Heap.lt_size (N q hq).1) F₁ N₁) done
theorem iter_range_k {α : Type} {w : World} {A : Around} {s : Shared} {env : Env} {h₀ : Heap} {Q : Flow → Shared → Prop} {x : Str} {body : List Stmt} {m : Str → Option Value} {news : Led} {r : Addr} {a b : Int} {t u v : Tok} {n : Nat}
    (hh : A.handled = none) (hr : IsRange s.heap r a b 1 t u v) (hsm : Builtin.Range.small a b 1 = true) (hn1 : Builtin.Range.rangeSize a b 1 = (n : Int))
    (V : Nat → α → List (Str × Value)) (K : List (Str × Value)) (ds : List Addr) (wd : Nat → α → List Obj) (W₀ : Led) (Inv : Nat → α → Prop) (a₀ : α)
    (F : Fr h₀ env.locals s.heap m) (N : News h₀ env.locals s.heap news)
    (hds : ∀ i a, Inv i a → ∀ o ∈ wd i a, o.cls ≠ .type "range_iterator")
    (hW₀ : ∀ p ∈ W₀, p.1 < env.locals ∨ p.2.cls ≠ .type "range_iterator")
    (hn : ∀ p ∈ ds.zip (wd 0 a₀) ++ W₀, p ∈ news) (hI : Inv 0 a₀) (hV : AgreeV m (V 0 a₀ ++ K))
    (turn : ∀ i a' t' I io m₁ h₁ tk₁, i < n → Inv i a' → io.cls = .type "range_iterator" → (∀ q ∈ news, q.1 < I) → Fr h₀ env.locals h₁ (fun y => if y = x then some (.int (a + (i : Int)) t') else over (V i a' ++ K) m₁ y) → News h₀ env.locals h₁ ((I, io) :: (ds.zip (wd i a') ++ W₀)) →
      wpAny (model prog w) A (execs body env) (FTo h₀ env.locals (fun i a => V i a ++ K) (fun i a => ds.zip (wd i a) ++ W₀) Inv (i + 1) I io { s with heap := h₁, toks := tk₁ } Q) (fun _ _ => False) { s with heap := h₁, toks := tk₁ })
    (done : ∀ a m₁ h₁ tk₁, Inv n a → Fr h₀ env.locals h₁ (over (V n a ++ K) m₁) → News h₀ env.locals h₁ (ds.zip (wd n a) ++ W₀) → Q .next { s with heap := h₁, toks := tk₁ }) :
    wpAny (model prog w) A (pyIter (.ref r)) (fun it s₂ => LoopAtV prog w A h₀ env x body Q (fun _ _ => False) it s₂) (fun _ _ => False) s := by
  refine wpAny_pyIter_range hr hsm ?_
  refine iter_own (C := "range_iterator") (Walks.range (prog := prog) (w := w) hh s.heap.objs.size a 1 n) (fun i h st => ⟨_, st, rfl⟩) (by show IsRangeIter _ _ _ _ _; rw [hn1]; simpa using Heap.get?_push_size _ rfl) V K ds wd W₀ Inv a₀ F N hds hW₀ hn hI hV ?_ done
  rintro i a' v' I io m₁ h₁ tk₁ hi hIa ⟨t', rfl⟩ hc hlt F₁ N₁
  rw [Int.mul_one] at F₁
  exact turn i a' t' I io m₁ h₁ tk₁ hi hIa hc hlt F₁ N₁
theorem iter_str_k {α : Type} {w : World} {A : Around} {s : Shared} {env : Env} {h₀ : Heap} {Q : Flow → Shared → Prop} {x : Str} {body : List Stmt} {m : Str → Option Value} {news : Led} {y : Str} {t : Tok}
    (hh : A.handled = none)
    (V : Nat → α → List (Str × Value)) (K : List (Str × Value)) (ds : List Addr) (wd : Nat → α → List Obj) (W₀ : Led) (Inv : Nat → α → Prop) (a₀ : α)
    (F : Fr h₀ env.locals s.heap m) (N : News h₀ env.locals s.heap news)
    (hds : ∀ i a, Inv i a → ∀ o ∈ wd i a, o.cls ≠ .type "str_iterator" ∧ o.cls ≠ .type "str_ascii_iterator")
    (hW₀ : ∀ p ∈ W₀, p.1 < env.locals ∨ (p.2.cls ≠ .type "str_iterator" ∧ p.2.cls ≠ .type "str_ascii_iterator"))
    (hn : ∀ p ∈ ds.zip (wd 0 a₀) ++ W₀, p ∈ news) (hI : Inv 0 a₀) (hV : AgreeV m (V 0 a₀ ++ K))
    (turn : ∀ i a' c t' I io m₁ h₁ tk₁, i < y.cps.size → Inv i a' → y.cps[i]? = some c → (io.cls = .type "str_iterator" ∨ io.cls = .type "str_ascii_iterator") → (∀ q ∈ news, q.1 < I) → Fr h₀ env.locals h₁ (fun z => if z = x then some (.str ⟨#[c]⟩ t') else over (V i a' ++ K) m₁ z) → News h₀ env.locals h₁ ((I, io) :: (ds.zip (wd i a') ++ W₀)) →
      wpAny (model prog w) A (execs body env) (FTo h₀ env.locals (fun i a => V i a ++ K) (fun i a => ds.zip (wd i a) ++ W₀) Inv (i + 1) I io { s with heap := h₁, toks := tk₁ } Q) (fun _ _ => False) { s with heap := h₁, toks := tk₁ })
    (done : ∀ a m₁ h₁ tk₁, Inv y.cps.size a → Fr h₀ env.locals h₁ (over (V y.cps.size a ++ K) m₁) → News h₀ env.locals h₁ (ds.zip (wd y.cps.size a) ++ W₀) → Q .next { s with heap := h₁, toks := tk₁ }) :
    wpAny (model prog w) A (pyIter (.str y t)) (fun it s₂ => LoopAtV prog w A h₀ env x body Q (fun _ _ => False) it s₂) (fun _ _ => False) s := by
  cases ha : y.cps.all (· < 128)
  · refine wpAny_pyIter_wide ha ?_
    refine iter_own (C := "str_iterator") (Walks.strWide (prog := prog) (w := w) hh s.heap.objs.size y t) (fun i h st => let ⟨o, ho, hc, _⟩ := st; ⟨o, ho, hc⟩) ⟨_, Heap.get?_push_size _ rfl, rfl, rfl⟩ V K ds wd W₀ Inv a₀ F N (fun i a h o ho => (hds i a h o ho).1) (fun p hp => (hW₀ p hp).imp id (·.1)) hn hI hV ?_ done
    rintro i a' v' I io m₁ h₁ tk₁ hi hIa ⟨c, t', hc, rfl⟩ hio hlt F₁ N₁
    exact turn i a' c t' I io m₁ h₁ tk₁ hi hIa hc (.inl hio) hlt F₁ N₁
  · refine wpAny_pyIter_ascii ha ?_
    refine iter_own (C := "str_ascii_iterator") (Walks.strAscii (prog := prog) (w := w) hh s.heap.objs.size y t) (fun i h st => let ⟨o, ho, hc, _⟩ := st; ⟨o, ho, hc⟩) ⟨_, Heap.get?_push_size _ rfl, rfl, rfl⟩ V K ds wd W₀ Inv a₀ F N (fun i a h o ho => (hds i a h o ho).2) (fun p hp => (hW₀ p hp).imp id (·.2)) hn hI hV ?_ done
    rintro i a' v' I io m₁ h₁ tk₁ hi hIa ⟨c, t', hc, rfl⟩ hio hlt F₁ N₁
    exact turn i a' c t' I io m₁ h₁ tk₁ hi hIa hc (.inr hio) hlt F₁ N₁
theorem listOf_offr (x : Array Value) (c : Nat) : (W.listOf x c).cls ≠ .type "range_iterator" := by show Value.type "list" ≠ Value.type "range_iterator"; decide
theorem listOf_offs (x : Array Value) (c : Nat) : (W.listOf x c).cls ≠ .type "str_iterator" ∧ (W.listOf x c).cls ≠ .type "str_ascii_iterator" := by constructor <;> (show Value.type "list" ≠ Value.type _; decide)
noncomputable abbrev Pn (n : Nat) (p : Array Nat) : Prop := p.Perm (List.toArray (List.range n))
theorem Pn.lt {n : Nat} {p : Array Nat} (h : Pn n p) (hn : 0 < n) (i : Nat) : p.getD i 0 < n := by
  by_cases hi : i < p.size
  · have e : p.getD i 0 = p[i] := by simp [Array.getD, hi]
    have hm : p[i] ∈ p := Array.getElem_mem hi
    rw [h.mem_iff] at hm
    rw [e]; simpa using hm
  · have e : p.getD i 0 = 0 := by simp [Array.getD, hi]
    rw [e]; exact hn
theorem Pn.rev {n : Nat} {p : Array Nat} (h : Pn n p) (i j : Nat) : Pn n (kas_rev p i j) := (mirror_perm _ _ _ _).trans h
theorem Pn.bub {n : Nat} {p : Array Nat} (h : Pn n p) (i j : Nat) : Pn n (bubble p i j) := (bubble_perm _ _ _).trans h
noncomputable def Asks (n : Nat) {α : Type} (R : α → Prop) : KasT α → Prop
  | .ret a => R a
  | .ask i j k => i < n ∧ j < n ∧ ∀ b, Asks n R (k b)
theorem Asks.mono {n : Nat} {α : Type} {R R' : α → Prop} (hR : ∀ a, R a → R' a) : ∀ {t : KasT α}, Asks n R t → Asks n R' t
  | .ret a, h => hR a h
  | .ask _ _ k, h => ⟨h.1, h.2.1, fun b => (h.2.2 b).mono hR⟩
theorem Asks.bind {n : Nat} {α β : Type} {R : α → Prop} {R' : β → Prop} {f : α → KasT β} (hf : ∀ a, R a → Asks n R' (f a)) : ∀ {t : KasT α}, Asks n R t → Asks n R' (t.bind f)
  | .ret a, h => hf a h
  | .ask _ _ k, h => ⟨h.1, h.2.1, fun b => (h.2.2 b).bind hf⟩
section
variable {n : Nat} (hn : 0 < n)
include hn
theorem asks_asc {p : Array Nat} (h : Pn n p) : ∀ (f m : Nat), Asks n (fun _ => True) (kas_asc p f m)
  | 0, _ => trivial
  | f + 1, m => ⟨h.lt hn _, h.lt hn _, fun b => by
    dsimp only
    split
    · exact trivial
    · exact asks_asc h f (m + 1)⟩
theorem asks_desc : ∀ (f : Nat) (p : Array Nat) (m q : Nat), Pn n p → Asks n (fun r => Pn n r.1) (kas_desc f p m q)
  | 0, _, _, _, h => h
  | f + 1, p, m, q, h => ⟨h.lt hn _, h.lt hn _, fun b => by
    dsimp only
    split
    · split
      · exact asks_desc f _ _ _ (h.rev _ _)
      · exact asks_desc f _ _ _ h
    · refine ⟨h.lt hn _, h.lt hn _, fun b => ?_⟩
      dsimp only
      split
      · exact h
      · exact asks_desc f _ _ _ h⟩
theorem asks_tail3 {p : Array Nat} (h : Pn n p) (a b : Nat) : Asks n (fun r => Pn n r.2) (kas_tail3 a b p) := by
  unfold kas_tail3
  exact Asks.bind (R' := fun r : Nat × Array Nat => Pn n r.2) (f := fun m => KasT.ret (m, kas_rev p 0 a)) (fun _ _ => (h.rev 0 a : Pn n (kas_rev p 0 a))) (asks_asc hn (h.rev _ _) _ _)
theorem asks_descPart {p : Array Nat} (h : Pn n p) (a b : Nat) : Asks n (fun r => Pn n r.2) (kas_descPart a b p) := by
  unfold kas_descPart
  refine (asks_desc hn _ _ _ _ h).bind fun r hr => ?_
  split
  · exact asks_tail3 hn (hr.rev _ _) _ _
  · exact asks_tail3 hn hr _ _
theorem asks_count {p : Array Nat} (h : Pn n p) (b : Nat) : Asks n (fun r => Pn n r.2) (kas_count b p) := by
  unfold kas_count
  refine (asks_asc hn h _ _).bind fun r _ => ?_
  split
  · exact h
  · split
    · refine ⟨h.lt hn _, h.lt hn _, fun b => ?_⟩
      dsimp only
      split
      · exact h
      · exact asks_descPart hn (h.rev _ _) _ _
    · exact asks_descPart hn h _ _
theorem asks_place {p : Array Nat} (h : Pn n p) (k : Nat) : ∀ (f l r : Nat), Asks n (fun _ => True) (kas_place p k f l r)
  | 0, _, _ => trivial
  | f + 1, l, r => by
    unfold kas_place
    split
    · exact trivial
    · refine ⟨h.lt hn _, h.lt hn _, fun b => ?_⟩
      dsimp only
      split
      · exact asks_place h k f _ _
      · exact asks_place h k f _ _
theorem asks_bin : ∀ (f : Nat) (p : Array Nat) (k : Nat), Pn n p → Asks n (Pn n) (kas_bin f p k)
  | 0, _, _, h => h
  | f + 1, p, k, h => (asks_place hn h k _ _ _).bind fun l _ => asks_bin f _ _ (h.bub _ _)
theorem asks_sort : Asks n (Pn n) (kas_sort n) := by
  unfold kas_sort
  refine (asks_count hn (Array.Perm.refl _) _).bind fun r hr => ?_
  split
  · exact asks_bin hn _ _ _ hr
  · exact hr
end
noncomputable def krun {α : Type} (lt : Nat → Nat → Bool) : KasT α → α
  | .ret a => a
  | .ask i j k => krun lt (k (lt i j))
theorem Asks.run {n : Nat} {α : Type} {R : α → Prop} (lt : Nat → Nat → Bool) : ∀ {t : KasT α}, Asks n R t → R (krun lt t)
  | .ret _, h => h
  | .ask i j k, h => (h.2.2 (lt i j)).run lt
theorem krun_congr {n : Nat} {α : Type} {R : α → Prop} {lt lt' : Nat → Nat → Bool} (e : ∀ i j, i < n → j < n → lt i j = lt' i j) : ∀ {t : KasT α}, Asks n R t → krun lt t = krun lt' t
  | .ret _, _ => rfl
  | .ask i j k, h => by
    show krun lt (k (lt i j)) = krun lt' (k (lt' i j))
    rw [e i j h.1 h.2.1]
    exact krun_congr e (h.2.2 _)
theorem kas_pure {α : Type} {n : Nat} {R : α → Prop} {ask : Nat → Nat → (Bool → Shared → Prop) → Shared → Prop} {St : Shared → Prop} {lt : Nat → Nat → Bool} {Q : α → Shared → Prop}
    (h : ∀ i j C s, i < n → j < n → St s → (∀ s', St s' → C (lt i j) s') → ask i j C s) : ∀ (t : KasT α) (s : Shared), Asks n R t → St s → (∀ s', St s' → Q (krun lt t) s') → t.kasWp ask Q s
  | .ret _, s, _, hs, hq => hq s hs
  | .ask i j k, s, ha, hs, hq => h i j _ s ha.1 ha.2.1 hs fun s' hs' => kas_pure h (k (lt i j)) s' (ha.2.2 _) hs' hq
noncomputable def ksorted (n : Nat) (lt : Nat → Nat → Bool) : List Nat := (krun lt (kas_sort n)).toList
theorem ksorted_perm {n : Nat} (hn : 0 < n) (lt : Nat → Nat → Bool) : (ksorted n lt).Perm (List.range n) := by
  have h := (asks_sort hn).run lt
  have := Array.perm_iff_toList_perm.mp h
  unfold ksorted
  simpa using this
noncomputable abbrev ltf (f : Nat → Int) : Nat → Nat → Bool := fun i j => decide (f i < f j)
noncomputable def VK (f : Nat → Int) (p : Array Nat) (i : Nat) : Int := f (p.getD i 0)
noncomputable def Srt (f : Nat → Int) (p : Array Nat) (k : Nat) : Prop := ∀ i j, i ≤ j → j < k → VK f p i ≤ VK f p j
noncomputable def Dsc (f : Nat → Int) (p : Array Nat) (k : Nat) : Prop := ∀ i j, i ≤ j → j < k → VK f p j ≤ VK f p i
theorem VK_congr {f : Nat → Int} {p q : Array Nat} {i j : Nat} (h : p[i]? = q[j]?) : VK f p i = VK f q j := by
  unfold VK
  rw [Array.getD_eq_getD_getElem?, Array.getD_eq_getD_getElem?, h]
theorem VK_rev {f : Nat → Int} {p : Array Nat} {i j : Nat} (hj : j ≤ p.size) (k : Nat) : VK f (kas_rev p i j) k = if i ≤ k ∧ k < j then VK f p (i + j - 1 - k) else VK f p k := by
  have e := getElem?_mirror_all (i := i) hj k
  unfold kas_rev
  by_cases h1 : i ≤ k ∧ k < j
  · rw [if_pos h1] at e ⊢; exact VK_congr e
  · rw [if_neg h1] at e ⊢; exact VK_congr e
theorem VK_rev_equal {f : Nat → Int} {p : Array Nat} {i j : Nat} (hj : j ≤ p.size) (heq : ∀ k, i ≤ k → k < j → VK f p k = VK f p (j - 1)) (k : Nat) : VK f (kas_rev p i j) k = VK f p k := by
  rw [VK_rev hj]
  split
  · rw [heq _ (by omega) (by omega), heq k (by omega) (by omega)]
  · rfl
theorem VK_bub {f : Nat → Int} {p : Array Nat} {src d : Nat} (hs : src < p.size) (hd : d ≤ src) (k : Nat) :
    VK f (bubble p src d) k = if k = src - d then VK f p src else if src - d < k ∧ k ≤ src then VK f p (k - 1) else VK f p k := by
  have e := getElem?_bubble hs d hd k
  by_cases h1 : k = src - d
  · rw [if_pos h1] at e ⊢; exact VK_congr e
  · rw [if_neg h1] at e ⊢
    by_cases h2 : src - d < k ∧ k ≤ src
    · rw [if_pos h2] at e ⊢; exact VK_congr e
    · rw [if_neg h2] at e ⊢; exact VK_congr e
theorem rev_size (p : Array Nat) (i j : Nat) : (kas_rev p i j).size = p.size := (mirror_perm p i j ((j - i) / 2)).size_eq
theorem bub_size (p : Array Nat) (i j : Nat) : (bubble p i j).size = p.size := (bubble_perm p i j).size_eq
theorem krun_bind {α β : Type} (lt : Nat → Nat → Bool) (f : α → KasT β) : ∀ t : KasT α, krun lt (t.bind f) = krun lt (f (krun lt t))
  | .ret _ => rfl
  | .ask i j k => krun_bind lt f (k (lt i j))
section
variable {f : Nat → Int}
theorem asc_spec {p : Array Nat} : ∀ (g m : Nat), 1 ≤ m → Srt f p m → m ≤ krun (ltf f) (kas_asc p g m) ∧ krun (ltf f) (kas_asc p g m) ≤ m + g ∧ Srt f p (krun (ltf f) (kas_asc p g m)) ∧
    (krun (ltf f) (kas_asc p g m) = m + g ∨ VK f p (krun (ltf f) (kas_asc p g m)) < VK f p (krun (ltf f) (kas_asc p g m) - 1))
  | 0, m, h1, hs => ⟨Nat.le_refl _, Nat.le_refl _, hs, .inl rfl⟩
  | g + 1, m, h1, hs => by
    have e : krun (ltf f) (kas_asc p (g + 1) m) = krun (ltf f) (if decide (VK f p m < VK f p (m - 1)) = true then .ret m else kas_asc p g (m + 1)) := rfl
    rw [e]
    by_cases hl : VK f p m < VK f p (m - 1)
    · rw [if_pos (decide_eq_true hl)]
      exact ⟨Nat.le_refl _, Nat.le_add_right _ _, hs, .inr hl⟩
    · rw [if_neg (by simpa using hl)]
      obtain ⟨a, b, c, d⟩ := asc_spec g (m + 1) (by omega) (fun i j hij hj => by
        by_cases hjx : j < m
        · exact hs i j hij hjx
        · obtain rfl : j = m := by omega
          by_cases hi' : i = j
          · subst hi'; exact Int.le_refl _
          · exact Int.le_trans (hs i (j - 1) (by omega) (by omega)) (Int.not_lt.mp hl))
      exact ⟨by omega, by omega, c, by omega⟩
noncomputable def DscQ (f : Nat → Int) (p : Array Nat) (m q : Nat) : Prop := Dsc f p m ∧ q + 1 ≤ m ∧ ∀ i, m - (q + 1) ≤ i → i < m → VK f p i = VK f p (m - 1)
theorem desc_spec : ∀ (g : Nat) (p : Array Nat) (m q : Nat), m + g ≤ p.size → 1 ≤ m → DscQ f p m q → (krun (ltf f) (kas_desc g p m q)).1.size = p.size ∧ m ≤ (krun (ltf f) (kas_desc g p m q)).2.1 ∧ (krun (ltf f) (kas_desc g p m q)).2.1 ≤ m + g ∧
    DscQ f (krun (ltf f) (kas_desc g p m q)).1 (krun (ltf f) (kas_desc g p m q)).2.1 (krun (ltf f) (kas_desc g p m q)).2.2
  | 0, p, m, q, _, _, h => ⟨rfl, Nat.le_refl _, Nat.le_refl _, h⟩
  | g + 1, p, m, q, hz, h1, h => by
    have e : krun (ltf f) (kas_desc (g + 1) p m q) = krun (ltf f) (if decide (VK f p m < VK f p (m - 1)) = true then (if q > 0 then kas_desc g (kas_rev p (m - (q + 1)) m) (m + 1) 0 else kas_desc g p (m + 1) 0)
      else .ask (p.getD (m - 1) 0) (p.getD m 0) fun d => if d = true then .ret (p, m, q) else kas_desc g p (m + 1) (q + 1)) := rfl
    rw [e]
    obtain ⟨hs, hq, he⟩ := h
    by_cases hl : VK f p m < VK f p (m - 1)
    · rw [if_pos (decide_eq_true hl)]
      have step1 : ∀ xs : Array Nat, (∀ k, VK f xs k = VK f p k) → DscQ f xs (m + 1) 0 := by
        intro xs hk
        refine ⟨fun i j hij hj => ?_, by omega, fun i h1 h2 => by congr 1; omega⟩
        rw [hk, hk]
        by_cases hjx : j < m
        · exact hs i j hij hjx
        · obtain rfl : j = m := by omega
          by_cases hi' : i = j
          · subst hi'; exact Int.le_refl _
          · exact Int.le_trans (Int.le_of_lt hl) (hs i (j - 1) (by omega) (by omega))
      by_cases hneq : q > 0
      · rw [if_pos hneq]
        obtain ⟨a, b, c, d⟩ := desc_spec g (kas_rev p (m - (q + 1)) m) (m + 1) 0 (by rw [rev_size]; omega) (by omega) (step1 _ (VK_rev_equal (by omega) he))
        exact ⟨a.trans (rev_size _ _ _), by omega, by omega, d⟩
      · rw [if_neg hneq]
        obtain ⟨a, b, c, d⟩ := desc_spec g p (m + 1) 0 (by omega) (by omega) (step1 _ fun _ => rfl)
        exact ⟨a, by omega, by omega, d⟩
    · rw [if_neg (by simpa using hl)]
      have e2 : krun (ltf f) (.ask (p.getD (m - 1) 0) (p.getD m 0) fun d => if d = true then .ret (p, m, q) else kas_desc g p (m + 1) (q + 1)) = krun (ltf f) (if decide (VK f p (m - 1) < VK f p m) = true then .ret (p, m, q) else kas_desc g p (m + 1) (q + 1)) := rfl
      rw [e2]
      by_cases hg : VK f p (m - 1) < VK f p m
      · rw [if_pos (decide_eq_true hg)]
        exact ⟨rfl, Nat.le_refl _, Nat.le_add_right _ _, hs, hq, he⟩
      · rw [if_neg (by simpa using hg)]
        have heqx : VK f p m = VK f p (m - 1) := by omega
        obtain ⟨a, b, c, d⟩ := desc_spec g p (m + 1) (q + 1) (by omega) (by omega) ⟨fun i j hij hj => by
          by_cases hjx : j < m
          · exact hs i j hij hjx
          · obtain rfl : j = m := by omega
            by_cases hi' : i = j
            · subst hi'; exact Int.le_refl _
            · rw [heqx]; exact hs i (j - 1) (by omega) (by omega), by omega, fun i h1 h2 => by
          rw [show m + 1 - 1 = m by omega]
          by_cases hix : i = m
          · subst hix; rfl
          · rw [heqx]; exact he i (by omega) (by omega)⟩
        exact ⟨a, by omega, by omega, d⟩
noncomputable def CntOk (f : Nat → Int) (z b : Nat) (r : Nat × Array Nat) : Prop := r.2.size = z ∧ 1 ≤ r.1 ∧ r.1 ≤ b ∧ Srt f r.2 r.1
theorem tail3_spec {p : Array Nat} {a b : Nat} (h1 : 1 ≤ a) (hab : a ≤ b) (hb : b ≤ p.size) (h : Dsc f p a) : CntOk f p.size b (krun (ltf f) (kas_tail3 a b p)) := by
  unfold kas_tail3
  rw [krun_bind]
  obtain ⟨x, y, z, _⟩ := asc_spec (f := f) (p := kas_rev p 0 a) (b - a) a h1 (fun i j hij hj => by
    rw [VK_rev (by omega), VK_rev (by omega), if_pos (by omega), if_pos (by omega)]
    exact h _ _ (by omega) (by omega))
  exact ⟨rev_size _ _ _, by show 1 ≤ krun _ _; omega, by show krun _ _ ≤ b; omega, z⟩
theorem descPart_spec {p : Array Nat} {a b : Nat} (hab : a + 1 ≤ b) (hb : b ≤ p.size) (h : Dsc f p (a + 1)) : CntOk f p.size b (krun (ltf f) (kas_descPart a b p)) := by
  unfold kas_descPart
  rw [krun_bind]
  obtain ⟨x, y, z, hs, hq, he⟩ := desc_spec (f := f) (b - (a + 1)) p (a + 1) 0 (by omega) (by omega) ⟨h, by omega, fun i h1 h2 => by congr 1; omega⟩
  generalize krun (ltf f) (kas_desc (b - (a + 1)) p (a + 1) 0) = r at *
  by_cases hn : r.2.2 > 0
  · rw [if_pos hn]
    have := tail3_spec (f := f) (p := kas_rev r.1 (r.2.1 - (r.2.2 + 1)) r.2.1) (a := r.2.1) (b := b) (by omega) (by omega) (by rw [rev_size]; omega) (fun i j hij hj => by
      rw [VK_rev_equal (by omega) he, VK_rev_equal (by omega) he]
      exact hs i j hij hj)
    rwa [rev_size, x] at this
  · rw [if_neg hn]
    have := tail3_spec (f := f) (p := r.1) (a := r.2.1) (b := b) (by omega) (by omega) (by omega) hs
    rwa [x] at this
theorem count_spec {p : Array Nat} {b : Nat} (h1 : 1 ≤ b) (hb : b ≤ p.size) : CntOk f p.size b (krun (ltf f) (kas_count b p)) := by
  unfold kas_count
  rw [krun_bind]
  obtain ⟨x, y, z, hor⟩ := asc_spec (f := f) (p := p) (b - 1) 1 (Nat.le_refl _) (fun i j hij hj => by
    obtain rfl : i = j := by omega
    exact Int.le_refl _)
  generalize krun (ltf f) (kas_asc p (b - 1) 1) = n at *
  by_cases hnn : n = b
  · rw [if_pos (by simpa using hnn)]
    exact ⟨rfl, x, by show n ≤ b; omega, z⟩
  · rw [if_neg (by simpa using hnn)]
    have hlt : VK f p n < VK f p (n - 1) := by
      rcases hor with e | e
      · omega
      · exact e
    by_cases hgt : n > 1
    · rw [if_pos hgt]
      have e2 : krun (ltf f) (.ask (p.getD 0 0) (p.getD (n - 1) 0) fun c => if c = true then .ret (n, p) else kas_descPart n b (kas_rev p 0 n)) = krun (ltf f) (if decide (VK f p 0 < VK f p (n - 1)) = true then .ret (n, p) else kas_descPart n b (kas_rev p 0 n)) := rfl
      rw [e2]
      by_cases hr : VK f p 0 < VK f p (n - 1)
      · rw [if_pos (decide_eq_true hr)]
        exact ⟨rfl, x, by show n ≤ b; omega, z⟩
      · rw [if_neg (by simpa using hr)]
        have hall : ∀ k, 0 ≤ k → k < n → VK f p k = VK f p (n - 1) := by
          intro k _ hk
          have a1 := z 0 k (by omega) hk
          have a2 := z k (n - 1) (by omega) (by omega)
          omega
        have := descPart_spec (f := f) (p := kas_rev p 0 n) (a := n) (b := b) (by omega) (by rw [rev_size]; omega) (fun i j hij hj => by
          rw [VK_rev_equal (by omega) hall, VK_rev_equal (by omega) hall]
          by_cases hjn : j < n
          · rw [hall i (by omega) (by omega), hall j (by omega) hjn]; exact Int.le_refl _
          · obtain rfl : j = n := by omega
            by_cases hi' : i = j
            · subst hi'; exact Int.le_refl _
            · rw [hall i (by omega) (by omega)]; exact Int.le_of_lt hlt)
        rwa [rev_size] at this
    · rw [if_neg hgt]
      obtain rfl : n = 1 := by omega
      refine descPart_spec (by omega) hb fun i j hij hj => ?_
      by_cases hi' : i = j
      · subst hi'; exact Int.le_refl _
      · obtain rfl : i = 0 := by omega
        obtain rfl : j = 1 := by omega
        exact Int.le_of_lt hlt
theorem place_spec {p : Array Nat} {k : Nat} (hs : Srt f p k) : ∀ (g l r : Nat), l ≤ r → r ≤ k → r - l ≤ g → (∀ i, i < l → VK f p i ≤ VK f p k) → (∀ i, r ≤ i → i < k → VK f p k < VK f p i) →
    krun (ltf f) (kas_place p k g l r) ≤ k ∧ (∀ i, i < krun (ltf f) (kas_place p k g l r) → VK f p i ≤ VK f p k) ∧ (∀ i, krun (ltf f) (kas_place p k g l r) ≤ i → i < k → VK f p k < VK f p i)
  | 0, l, r, hlr, hrk, hg, hlo, hhi => by
    obtain rfl : l = r := by omega
    exact ⟨hrk, hlo, hhi⟩
  | g + 1, l, r, hlr, hrk, hg, hlo, hhi => by
    unfold kas_place
    by_cases hge : l ≥ r
    · rw [if_pos hge]
      obtain rfl : l = r := by omega
      exact ⟨hrk, hlo, hhi⟩
    · rw [if_neg hge]
      have e2 : krun (ltf f) (.ask (p.getD k 0) (p.getD ((l + r) / 2) 0) fun c => if c = true then kas_place p k g l ((l + r) / 2) else kas_place p k g ((l + r) / 2 + 1) r) =
        krun (ltf f) (if decide (VK f p k < VK f p ((l + r) / 2)) = true then kas_place p k g l ((l + r) / 2) else kas_place p k g ((l + r) / 2 + 1) r) := rfl
      rw [e2]
      have hm1 : l ≤ (l + r) / 2 := by omega
      have hm2 : (l + r) / 2 < r := by omega
      clear e2
      generalize (l + r) / 2 = mid at *
      by_cases hl : VK f p k < VK f p mid
      · rw [if_pos (decide_eq_true hl)]
        exact place_spec hs g l mid hm1 (Nat.le_trans (Nat.le_of_lt hm2) hrk) (by omega) hlo fun i h1 h2 => Int.lt_of_lt_of_le hl (hs _ _ h1 h2)
      · rw [if_neg (by simpa using hl)]
        exact place_spec hs g (mid + 1) r hm2 hrk (by omega) (fun i h1 => Int.le_trans (hs i mid (Nat.le_of_lt_succ h1) (Nat.lt_of_lt_of_le hm2 hrk)) (Int.not_lt.mp hl)) hhi
theorem bin_spec : ∀ (g : Nat) (p : Array Nat) (k : Nat), 1 ≤ k → k + g ≤ p.size → Srt f p k → Srt f (krun (ltf f) (kas_bin g p k)) (k + g)
  | 0, _, _, _, _, h => h
  | g + 1, p, k, h1, hz, hs => by
    unfold kas_bin
    rw [krun_bind]
    obtain ⟨hlk, hlo, hhi⟩ := place_spec hs k 0 k (Nat.zero_le _) (Nat.le_refl _) (by omega) (fun i hi => by omega) (fun i h1 h2 => by omega)
    generalize krun (ltf f) (kas_place p k k 0 k) = l at *
    have := bin_spec g (bubble p k (k - l)) (k + 1) (by omega) (by rw [bub_size]; omega) (fun i j hij hj => by
      rw [VK_bub (by omega) (by omega), VK_bub (by omega) (by omega), show k - (k - l) = l by omega]
      repeat' split
      all_goals first
        | (exfalso; omega)
        | exact Int.le_refl _
        | exact hlo _ (by omega)
        | exact Int.le_of_lt (hhi _ (by omega) (by omega))
        | exact hs _ _ (by omega) (by omega))
    rwa [show k + (g + 1) = k + 1 + g by omega]
theorem sort_spec {n : Nat} (hn : 1 ≤ n) : Srt f (krun (ltf f) (kas_sort n)) n := by
  unfold kas_sort
  rw [krun_bind]
  have hz : (List.toArray (List.range n)).size = n := by simp
  obtain ⟨a, b, c, d⟩ := count_spec (f := f) (p := List.toArray (List.range n)) (b := n) hn (by omega)
  generalize krun (ltf f) (kas_count n (List.toArray (List.range n))) = r at *
  by_cases h : r.1 < n
  · rw [if_pos h]
    have := bin_spec (f := f) (n - max r.1 1) r.2 (max r.1 1) (by omega) (by omega) (by rwa [show max r.1 1 = r.1 by omega])
    rwa [show max r.1 1 + (n - max r.1 1) = n by omega] at this
  · rw [if_neg h]
    obtain e : r.1 = n := by omega
    rw [e] at d
    exact d
end
theorem ksorted_sorted {n : Nat} (hn : 1 ≤ n) (f : Nat → Int) : ((ksorted n (ltf f)).map f).Pairwise (· ≤ ·) := by
  have h := sort_spec (f := f) hn
  have hl : (ksorted n (ltf f)).length = n := by rw [(ksorted_perm hn (ltf f)).length_eq, List.length_range]
  rw [List.pairwise_iff_getElem]
  intro i j hi hj hij
  rw [List.getElem_map, List.getElem_map]
  rw [List.length_map, hl] at hi hj
  have := h i j (by omega) hj
  unfold VK at this
  unfold ksorted at hl ⊢
  have e : ∀ i, i < n → ∀ (hi : i < (krun (ltf f) (kas_sort n)).toList.length), (krun (ltf f) (kas_sort n)).getD i 0 = (krun (ltf f) (kas_sort n)).toList[i] := fun i h hi => by
    have h' : i < (krun (ltf f) (kas_sort n)).size := by simpa using hi
    simp [Array.getD, h']
  rw [e i hi (by omega), e j hj (by omega)] at this
  exact this
section
open PyProof.Rows.LCg PyProof.Rows.LCt
section
variable {w : World} {A : Around} {E : Value → Shared → Prop} {s : Shared} {h₀ : Heap} {L C : Addr} {m mg mb : Str → Option Value} {env : Env} {loose : List Str} {ad : Str → Addr} {x : Str} {pos : Pos} {v : Value} {Q : Value → Shared → Prop} {scope : Scope} {cl : List (Str × Addr)}
theorem name_topC (F : Fr h₀ L s.heap m) (g : G w mg mb loose ad h₀) (hx : (defNames ++ objNames).contains x = true) (h : Q (.ref (ad x)) s) (hg : env.globals = mainGlobals)
    (hk : (compEnvC scope cl C env).scope.kind = .function) (hkx : (compEnvC scope cl C env).kindOf x = some .globalImplicit) (hd : (x == ("__debug__" : Str)) = false) :
    wpAny (model prog w) A (eval (.Name x pos) (compEnvC scope cl C env)) Q E s :=
  Name_function_global hk hkx (loadGlobal_global (env := compEnvC scope cl C env) (show s.heap.Ns env.globals mg from hg ▸ g.T.g.keeps F.keep) (g.bound x hx) h) hd
theorem name_biC (F : Fr h₀ L s.heap m) (g : G w mg mb loose ad h₀) (hx : biNames.contains x = true) (hv : bootBuiltins x = some v) (hn : x ≠ "__name__") (h : Q v s) (hg : env.globals = mainGlobals) (hb : env.builtins = builtinsNs)
    (hk : (compEnvC scope cl C env).scope.kind = .function) (hkx : (compEnvC scope cl C env).kindOf x = some .globalImplicit) (hd : (x == ("__debug__" : Str)) = false) :
    wpAny (model prog w) A (eval (.Name x pos) (compEnvC scope cl C env)) Q E s :=
  Name_function_global hk hkx (loadGlobal_builtin (env := compEnvC scope cl C env) (show s.heap.Ns env.globals mg from hg ▸ g.T.g.keeps F.keep) (g.free x hx) (show s.heap.Ns env.builtins mb from hb ▸ g.T.b.keeps F.keep) ((g.T.builtins x hn).trans hv) h) hd
end
noncomputable def CEnd (h₀ : Heap) (L : Addr) (m : Str → Option Value) (s₁ : Shared) (led : Led) (R : Prop) (s₂ : Shared) : Prop :=
  ∃ h' tk, s₂ = { s₁ with heap := h', toks := tk } ∧ Fr h₀ L h' m ∧ News h₀ L h' led ∧ R
section
variable {w : World} {A : Around} {E : Value → Shared → Prop} {s : Shared} {h₀ : Heap} {L : Addr} {m : Str → Option Value} {env : Env}
theorem restT_const {ct elt : Expr} {x : Str} {scope : Scope} {cl : List (Str × Addr)} {S : Led → Prop} {P : Nat → Value → Prop} {Fin : List Value → Led → Prop} {news : Led} {n : Nat} (Inv : Nat → List Value → Prop) (hS : S news)
    (step : ∀ i ys v I oI C oC D m₂ h tk (E' : Value → Shared → Prop), i < n → Inv i ys → P i v → NsObj oC m₂ → m₂ x = some v → Fr h₀ L h m → News h₀ L h ((I, oI) :: (C, oC) :: (D, lst ys) :: news) →
      wpAny (model prog w) A (isTrue ct (compEnvC scope cl C env) (eval ct (compEnvC scope cl C env))) (fun ok s' => if ok = true then
        wpAny (model prog w) A (eval elt (compEnvC scope cl C env)) (fun y s'' => CEnd h₀ L m { s with heap := h, toks := tk } ((I, oI) :: (C, oC) :: (D, lst ys) :: news) (Inv (i + 1) (ys ++ [y])) s'') E' s'
        else CEnd h₀ L m { s with heap := h, toks := tk } ((I, oI) :: (C, oC) :: (D, lst ys) :: news) (Inv (i + 1) ys) s') E' { s with heap := h, toks := tk })
    (fin : ∀ ys, Inv n ys → Fin ys news) : ∀ (k i : Nat) (ys : List Value), i + k = n → Inv i ys → CompRestT prog w A h₀ L m env ct elt x scope cl s S P Fin k i ys news
  | 0, i, ys, e, hI => by
    obtain rfl : i = n := by omega
    exact fin ys hI
  | k + 1, i, ys, e, hI => by
    refine CompRestT.succ fun v I oI C oC D m₂ h tk E' hv hC hx F N off ne => ?_
    refine wpAny_mono (step i ys v I oI C oC D m₂ h tk E' (by omega) hI hv hC hx F N) (fun ok s' h₁ => ?_) fun _ _ e => e
    cases ok with
    | true =>
      simp only [if_true] at h₁ ⊢
      refine wpAny_mono h₁ (fun y s'' h₂ => ?_) fun _ _ e => e
      obtain ⟨h', tk', rfl, F', N', hI'⟩ := h₂
      exact ⟨h', tk', news, rfl, F', N', off, hS, restT_const Inv hS step fin k (i + 1) _ (by omega) hI'⟩
    | false =>
      simp only [Bool.false_eq_true, if_false] at h₁ ⊢
      obtain ⟨h', tk', rfl, F', N', hI'⟩ := h₁
      exact ⟨h', tk', news, rfl, F', N', off, hS, restT_const Inv hS step fin k (i + 1) _ (by omega) hI'⟩

theorem comp_strT {ct elt iter : Expr} {x : Str} {px : Pos} {scope : Scope} {cl : List (Str × Addr)} {pos : Pos} {Q : Value → Shared → Prop} (_F₀ : Fr h₀ L s.heap m) (Inv : Str → Nat → List Value → Prop)
    (hclos : closureFor scope env = pure cl) (hcell : ∀ y ∈ scope.names, y.2 ≠ .cell) (hkind : scope.kind = .function)
    (hnames : ∀ y ∈ scope.names, y.2 = .local → scope.names.lookup y.1 = some .local) (hx : scope.names.lookup x = some .local)
    (h : wpAny (model prog w) A (eval iter env) (fun xv s₁ => Stop (∃ y t news, xv = .str y t ∧ A.handled = none ∧ Fr h₀ L s₁.heap m ∧ News h₀ L s₁.heap news ∧ y.length ≤ 1000000 ∧ Inv y 0 [] ∧
      (∀ i ys c t' I oI C oC D m₂ h tk (E' : Value → Shared → Prop), i < y.cps.size → Inv y i ys → y.cps[i]? = some c → NsObj oC m₂ → m₂ x = some (.str ⟨#[c]⟩ t') → Fr h₀ L h m → News h₀ L h ((I, oI) :: (C, oC) :: (D, lst ys) :: news) →
        wpAny (model prog w) A (isTrue ct (compEnvC scope cl C env) (eval ct (compEnvC scope cl C env))) (fun ok s' => if ok = true then
          wpAny (model prog w) A (eval elt (compEnvC scope cl C env)) (fun y' s'' => CEnd h₀ L m { s₁ with heap := h, toks := tk } ((I, oI) :: (C, oC) :: (D, lst ys) :: news) (Inv y (i + 1) (ys ++ [y'])) s'') E' s'
          else CEnd h₀ L m { s₁ with heap := h, toks := tk } ((I, oI) :: (C, oC) :: (D, lst ys) :: news) (Inv y (i + 1) ys) s') E' { s₁ with heap := h, toks := tk }) ∧
      (∀ D ys h tk, Inv y y.cps.size ys → Fr h₀ L h m → News h₀ L h ((D, lst ys) :: news) → Q (.ref D) { s₁ with heap := h, toks := tk }))) E s)
    (hs : ∀ x, foldedSetIterable iter env x = pure x) :
    wpAny (model prog w) A (eval (.ListComp elt [⟨.Name x px, iter, [ct], 0⟩] scope pos) env) Q E s := by
  rw [eval_ListComp]
  refine wpAny_comprehension_free (use := none) rfl hs hclos hkind hnames (wpAny_mono h (fun xv s₁ h₁ => ?_) fun _ _ e => e)
  obtain ⟨y, t, news, rfl, hh, F, N, hsz, hI0, step, fin⟩ := h₁.out
  have hsz' : y.cps.size ≤ sizeLine := Nat.le_trans hsz (by rw [sizeLine_eq]; decide)
  have up : ∀ (oI : Obj) b o, s₁.heap.get? b = some o → (s₁.heap.push oI).get? b = some o := fun oI b o e => Heap.get?_push_of_some _ e
  have R : ∀ s₂ : Shared, (∃ h, s₂ = { s₁ with heap := h }) → CompRestT prog w A h₀ L m env ct elt x scope cl s₂ (fun _ => True) (SignAt y) (FinE h₀ L m s₂ Q) y.cps.size 0 [] news := by
    rintro _ ⟨h2, rfl⟩
    refine restT_const (Inv y) trivial ?_ ?_ _ 0 [] (Nat.zero_add _) hI0
    · rintro i ys v I oI C oC D m₂ h tk E' hi hI ⟨c, t', hc, rfl⟩ hC hx F N
      exact step i ys c t' I oI C oC D m₂ h tk E' hi hI hc hC hx F N
    · intro ys hI D h tk F N _
      exact fin D ys h tk hI F N
  have tail : ∀ (oI : Obj) D C h tk m' ys news', Fr h₀ L h m → News h₀ L h ((D, lst ys) :: news') → Off1 D news' → h.Ns C m' → h₀.get? C = none → h₀.get? D = none → C ≠ L → D ≠ L → C ≠ D → (∀ p ∈ news', p.1 ≠ C) → FinE h₀ L m { s₁ with heap := s₁.heap.push oI } Q ys news' →
      ∃ m', h.Ns C m' ∧ ∀ h'', Heap.SameBut C h h'' → Q (.ref D) { s₁ with heap := h'', toks := tk } := by
    intro oI D C h tk m' ys news' F' N' o1 hn hC₀ hD₀ hCL hDL hCD offC fin
    refine ⟨m', hn, fun h'' hs'' => fin D h'' tk (F'.change hs'' hCL hC₀) (fun p hp => ?_) o1⟩
    refine ⟨hs''.extBut _ _ ?_ (N' p hp).1, (N' p hp).2⟩
    rcases List.mem_cons.mp hp with rfl | hp
    · exact Ne.symm hCD
    · exact offC p hp
  cases ha : y.cps.all (· < 128)
  · refine wpAny_pyIter_wide ha ?_
    refine block_T (Walks.strWide hh s₁.heap.objs.size y t) hsz' (fun i h st => let ⟨o, ho, _⟩ := st; ⟨o, ho⟩) (fun i h h' o nw st e e' _ _ _ => by obtain ⟨o', q, r⟩ := st; rw [e] at q; cases q; exact ⟨o, e', r⟩) hcell hkind hx ⟨_, Heap.get?_push_size _ rfl, rfl, rfl⟩ (fun b hb => ?_)
      (F.keeps (up _)) (N.grown (up _)) (Nat.ne_of_lt F.ns.lt) (next_is_new F) (fun p hp => Nat.ne_of_lt (Heap.lt_size (N p hp).1)) trivial (R _ ⟨_, rfl⟩) (tail _)
    rw [List.mem_singleton.mp hb]
    show s₁.heap.objs.size < (s₁.heap.push _).objs.size
    rw [Heap.size_push]; exact Nat.lt_succ_self _
  · refine wpAny_pyIter_ascii ha ?_
    refine block_T (Walks.strAscii hh s₁.heap.objs.size y t) hsz' (fun i h st => let ⟨o, ho, _⟩ := st; ⟨o, ho⟩) (fun i h h' o nw st e e' _ _ _ => by obtain ⟨o', q, r⟩ := st; rw [e] at q; cases q; exact ⟨o, e', r⟩) hcell hkind hx ⟨_, Heap.get?_push_size _ rfl, rfl, rfl⟩ (fun b hb => ?_)
      (F.keeps (up _)) (N.grown (up _)) (Nat.ne_of_lt F.ns.lt) (next_is_new F) (fun p hp => Nat.ne_of_lt (Heap.lt_size (N p hp).1)) trivial (R _ ⟨_, rfl⟩) (tail _)
    rw [List.mem_singleton.mp hb]
    show s₁.heap.objs.size < (s₁.heap.push _).objs.size
    rw [Heap.size_push]; exact Nat.lt_succ_self _
end
theorem ijoin {w : World} {A : Around} {E : Value → Shared → Prop} {s : Shared} {h₀ : Heap} {L : Addr} {Q : Value → Shared → Prop} {news : Led} {D : Addr} {ys : List Value} {ts : List Str} {x : Str} {t : Tok}
    (N : News h₀ L s.heap news) (hm : (D, lst ys) ∈ news) (hI : StrsAre ys ts) (hw : (ts.map (·.length)).sum + ts.length ≤ 1000) (hsep : x.length ≤ 16) (h : ∀ t' k, Q (.str (Txt.join x ts) t') { s with toks := k }) :
    wpAny (model prog w) A (call (.builtin "str.join") [.str x t, .ref D]) Q E s :=
  join_listW (items := ys.toArray) ⟨_, (N _ hm).1, rfl, _, rfl⟩ hI hsep (Nat.le_trans hw (by decide)) h
theorem StrsAre.snoc {vs : List Value} {ts : List Str} (h : StrsAre vs ts) (x : Str) (t : Tok) : StrsAre (vs ++ [.str x t]) (ts ++ [x]) := by
  induction h with
  | nil => exact .cons _ _ .nil
  | cons n t _ ih => exact .cons _ _ ih
structure BodyC (w : World) (mg mb : Str → Option Value) (loose : List Str) (ad : Str → Addr) (i d u : Nat) (vs : List Value) (news : Led) (post : Value → Led → Prop) : Prop where
  run : ∀ (dp un : Nat) (gd : Option (List Code)) (cd : Value) (outer : List Env) (A₀ : Around) (base g : Heap) (L : Addr) (cells : Led) (s : Shared) (Q : Flow → Shared → Prop),
    Below A₀ base outer g → Fr g L s.heap (bindL (envOfC (fname i) (fscope i) L (ad (fname i)) cd).kindOf (((fargs i).args.map (·.arg)).zip vs) fun _ => none) →
    CellsAre (bindC (envOfC (fname i) (fscope i) L (ad (fname i)) cd).kindOf (((fargs i).args.map (·.arg)).zip vs) fun _ => none) (cellsFrom (L + 1) (fscope i).names []) cells →
    G w mg mb loose ad g → News g L s.heap (cells ++ news) → (∀ q ∈ news, q.1 < L) → dp + d < recursionLimit → un + u < cLine →
    (∀ v tl h' tk' m', Fr g L h' m' → News g L h' (tl ++ news) → (∀ q ∈ news, ∀ p ∈ tl, q.1 < p.1) → post v tl → Q (.ret v) { s with heap := h', toks := tk' }) →
    wpAny (model prog w) (ktrTop dp un gd (fname i) (fscope i) L (ad (fname i)) cd (cellsFrom (L + 1) (fscope i).names []) outer) (execs (fbody i) (envX (fname i) (fscope i) L (ad (fname i)) cd (cellsFrom (L + 1) (fscope i).names []))) Q (fun _ _ => False) s
theorem says_of_bodyC {w mg mb loose ad} {i d u : Nat} {x : Str} {vs : List Value} {news : Led} {post : Value → Led → Prop} (hi : isDef i = true) (hx : fname i = x)
    (hbind : ∀ s pm cd, BindsTo s (fnX (fname i) (fname i) (fargs i) (fbody i) (fscope i) [] .none .none .none pm none cd .none) ⟨vs, []⟩ (((fargs i).args.map (·.arg)).zip vs))
    (hkind : ∀ n, ∀ y ∈ ((fargs i).args.map (·.arg)).zip vs, (fscope i).names.lookup y.1 = some .local ∨ ((fscope i).names.lookup y.1 = some .cell ∧ ((cellsFrom n (fscope i).names []).lookup y.1).isSome = true))
    (hnd : ((cellsFrom 0 (fscope i).names []).map (·.1)).Nodup) (hco : (fscope i).isCoroutine = false) (hgen : (fscope i).isGenerator = false) (hk : (fscope i).kind = .function)
    (hb : BodyC w mg mb loose ad i d u vs news post) : Says w mg mb loose ad x (d + 1) (u + 3) vs news post := by
  refine ⟨?_⟩
  intro dp un gd cn cs a ccd cl outer A₀ base h₀ L m s Q E B F g N hcs hd hu ret
  obtain ⟨pm, cd, ho, hcd⟩ := g.fn i hi
  subst hx
  refine wpAny_call (callX_cells (env := envX cn cs L a ccd cl) (outer := outer) B F N g.T.nolimit rfl rfl hcs (F.keep _ _ ho) rfl (hcd.keeps F.keep) (by show dp < recursionLimit; omega) (hbind s pm cd) hkind hnd
    (fun g' L' h₁ tk cells FG F' N' CA B' st lt => ?_) hco hgen hk)
  refine wpAny_mono (hb.run (dp + 1) (un + 3) gd cd (envX cn cs L a ccd cl :: outer) _ base g' L' cells _
    (fun fl s' => LeaveK h₀ L m g' (fun r s' => match r with | .ok (.ret v) => Q v s' | .ok _ => False | .error e => E e s') (match fl with | .ret v => v | _ => .none) s')
    B' F' CA (g.keeps st) N' lt (by omega) (by omega) fun v tl h' tk' m' F'' N'' ho hp => ?_) (fun _ _ x => x) fun _ _ x => x.elim
  exact leaveK_ F'' N'' fun FF NN => ret v tl h' tk' FF NN ho hp
section
variable {w : World} {A : Around} {s : Shared} {env : Env} {h₀ : Heap} {Q : Flow → Shared → Prop}
theorem iter_W0 {α : Type} {x : Str} {body : List Stmt} {I : Addr} {fp : List Addr} {n : Nat} {P : Nat → Value → Prop} {St : Nat → Heap → Prop} {m : Str → Option Value} {news : Led}
    (Wk : Walks prog w A I fp [I] n P St) (V : Nat → α → List (Str × Value)) (Wd : Nat → α → Led) (Inv : Nat → α → Prop) (a₀ : α)
    (hfp : ∀ b ∈ fp, b = I ∨ (b ≠ env.locals ∧ ∃ lo, ∀ i a, Inv i a → (b, lo) ∈ Wd i a))
    (hLI : env.locals < I) (hI0 : h₀.get? I = none) (hcls : ∀ i h, St i h → ∃ o, h.get? I = some o)
    (hoff : ∀ i a, Inv i a → ∀ p ∈ Wd i a, p.1 ≠ I)
    (hst : St 0 s.heap) (F : Fr h₀ env.locals s.heap m) (N : News h₀ env.locals s.heap news) (hn : ∀ p ∈ Wd 0 a₀, p ∈ news) (hI : Inv 0 a₀) (hV : AgreeV m (V 0 a₀))
    (turn : ∀ i a v io m₁ h₁ tk₁, i < n → Inv i a → P i v → Fr h₀ env.locals h₁ (fun y => if y = x then some v else over (V i a) m₁ y) → News h₀ env.locals h₁ ((I, io) :: Wd i a) →
      wpAny (model prog w) A (execs body env) (FTo h₀ env.locals V Wd Inv (i + 1) I io { s with heap := h₁, toks := tk₁ } Q) (fun _ _ => False) { s with heap := h₁, toks := tk₁ })
    (done : ∀ a m₁ h₁ tk₁, Inv n a → Fr h₀ env.locals h₁ (over (V n a) m₁) → News h₀ env.locals h₁ (Wd n a) → Q .next { s with heap := h₁, toks := tk₁ }) :
    LoopAtV prog w A h₀ env x body Q (fun _ _ => False) (.ref I) s := by
  have N0 : News h₀ env.locals s.heap (Wd 0 a₀) := fun p hp => N p (hn p hp)
  refine ⟨I, fp, [I], n, P, St, m, Wd 0 a₀, fun i m₁ news₁ => ∃ a, Inv i a ∧ AgreeV m₁ (V i a) ∧ news₁ = Wd i a, rfl, Wk, ?_, ?_, ?_, hst, F, N0, ⟨a₀, hI, hV, rfl⟩, ?_, ?_⟩
  · intro hm
    rcases hfp _ hm with e | ⟨e, _⟩
    · rw [e] at hLI; exact Nat.lt_irrefl _ hLI
    · exact e rfl
  · intro b hb
    rw [List.mem_singleton.mp hb]; exact hI0
  · intro p hp hm
    exact hoff _ _ hI p hp (List.mem_singleton.mp hm)
  · rintro i v m₁ news₁ s₁ own ⟨h₁, tk₁, rfl⟩ hlt hP ⟨a, hIa, hVa, rfl⟩ hnw hown hget hall hst₁ F₁ N₁
    obtain ⟨io, hio⟩ := hcls _ _ hst₁
    have hio' : h₁.get? I = some io := hio
    have N₂ : News h₀ env.locals h₁ ((I, io) :: Wd i a) := fun p hp => by
      rcases List.mem_cons.mp hp with rfl | hp
      · exact ⟨hio', Nat.ne_of_gt hLI, hI0⟩
      · exact N₁ p (List.mem_append_right _ hp)
    have F₂ : Fr h₀ env.locals h₁ (fun y => if y = x then some v else over (V i a) m₁ y) := by rw [over_eq hVa]; exact F₁
    refine wpAny_mono (turn i a v io m₁ h₁ tk₁ hlt hIa hP F₂ N₂) (fun f s₃ h₃ => ?_) fun _ _ e => e
    have ownIn : ∀ {news₂ : Led} {a' : α}, (I, io) ∈ news₂ → (∀ p ∈ Wd (i + 1) a', p ∈ news₂) → Inv (i + 1) a' → ∀ p ∈ own, p ∈ news₂ := by
      intro news₂ a' h1 h2 hI' p hp
      have hg : h₁.get? p.1 = some p.2 := hget p hp
      rcases hfp _ (hown p hp) with e | ⟨_, lo, hlo⟩
      · rw [e, hio'] at hg
        have : p = (I, io) := Prod.ext e (Option.some.inj hg).symm
        rw [this]; exact h1
      · have h3 := (N₂ _ (List.mem_cons_of_mem _ (hlo i a hIa))).1
        rw [hg] at h3
        have : p = (p.1, lo) := Prod.ext rfl (Option.some.inj h3)
        rw [this]; exact h2 _ (hlo (i + 1) a' hI')
    have fin : FTo h₀ env.locals V Wd Inv (i + 1) I io { s with heap := h₁, toks := tk₁ } Q .next s₃ →
        LoopStepU h₀ env.locals [I] own (fun m₁ news₁ => ∃ a, Inv (i + 1) a ∧ AgreeV m₁ (V (i + 1) a) ∧ news₁ = Wd (i + 1) a) { s with heap := h₁, toks := tk₁ } .next s₃ := by
      rintro ⟨h', tk, m₂, news₂, a', rfl, F₃, N₃, hIn, hsub, hI', hV'⟩
      have N₄ : News h₀ env.locals h' (Wd (i + 1) a') := fun p hp => N₃ p (hsub p hp)
      refine ⟨rfl, h', tk, m₂, Wd (i + 1) a', rfl, F₃, fun p hp => ?_, fun p hp hm => ?_, a', hI', hV', rfl⟩
      · rcases List.mem_append.mp hp with hp | hp
        · exact N₃ p (ownIn hIn hsub hI' p hp)
        · exact N₄ p hp
      · exact hoff _ _ hI' p hp (List.mem_singleton.mp hm)
    cases f with
    | ret v => exact .ret h₃
    | brk => exact .brk h₃
    | next => exact .next (fin h₃)
    | cont => exact .cont (fin h₃)
  · rintro h' tk m' news' F' N' _ ⟨a, hIa, hVa, rfl⟩
    rw [← over_eq hVa] at F'
    exact done a m' h' tk hIa F' N'

end
theorem iter_own0 {α : Type} {w : World} {A : Around} {s : Shared} {env : Env} {h₀ : Heap} {Q : Flow → Shared → Prop} {x : Str} {body : List Stmt} {m : Str → Option Value} {news : Led} {oI : Obj} {n : Nat} {P : Nat → Value → Prop} {St : Nat → Heap → Prop}
    (Wk : Walks prog w A s.heap.objs.size [s.heap.objs.size] [s.heap.objs.size] n P St) (hcls : ∀ i h, St i h → ∃ o, h.get? s.heap.objs.size = some o) (hst : St 0 (s.heap.push oI))
    (V : Nat → α → List (Str × Value)) (K : List (Str × Value)) (ds : List Addr) (wd : Nat → α → List Obj) (W₀ : Led) (Inv : Nat → α → Prop) (a₀ : α)
    (F : Fr h₀ env.locals s.heap m) (N : News h₀ env.locals s.heap news) (hlen : ds.length ≤ (wd 0 a₀).length)
    (hn : ∀ p ∈ ds.zip (wd 0 a₀) ++ W₀, p ∈ news) (hI : Inv 0 a₀) (hV : AgreeV m (V 0 a₀ ++ K))
    (turn : ∀ i a v I io m₁ h₁ tk₁, i < n → Inv i a → P i v → (∀ q ∈ news, q.1 < I) → Fr h₀ env.locals h₁ (fun y => if y = x then some v else over (V i a ++ K) m₁ y) → News h₀ env.locals h₁ ((I, io) :: (ds.zip (wd i a) ++ W₀)) →
      wpAny (model prog w) A (execs body env) (FTo h₀ env.locals (fun i a => V i a ++ K) (fun i a => ds.zip (wd i a) ++ W₀) Inv (i + 1) I io { s with heap := h₁, toks := tk₁ } Q) (fun _ _ => False) { s with heap := h₁, toks := tk₁ })
    (done : ∀ a m₁ h₁ tk₁, Inv n a → Fr h₀ env.locals h₁ (over (V n a ++ K) m₁) → News h₀ env.locals h₁ (ds.zip (wd n a) ++ W₀) → Q .next { s with heap := h₁, toks := tk₁ }) :
    LoopAtV prog w A h₀ env x body Q (fun _ _ => False) (.ref s.heap.objs.size) { s with heap := s.heap.push oI } := by
  have lowd : ∀ d ∈ ds, d < s.heap.objs.size := by
    intro d hd
    obtain ⟨k, hk, rfl⟩ := List.getElem_of_mem hd
    have h1 : (ds[k], (wd 0 a₀)[k]'(Nat.lt_of_lt_of_le hk hlen)) ∈ ds.zip (wd 0 a₀) := by
      rw [← List.getElem_zip (h := by rw [List.length_zip]; exact Nat.lt_min.mpr ⟨hk, Nat.lt_of_lt_of_le hk hlen⟩)]
      exact List.getElem_mem _
    exact Heap.lt_size (N _ (hn _ (List.mem_append_left _ h1))).1
  exact iter_W0 (s := { s with heap := s.heap.push oI }) Wk (fun i a => V i a ++ K) (fun i a => ds.zip (wd i a) ++ W₀) Inv a₀ (fun b hb => .inl (List.mem_singleton.mp hb)) F.ns.lt (next_is_new F) hcls
    (fun i a hI p hp => by
      rcases List.mem_append.mp hp with hp | hp
      · exact Nat.ne_of_lt (lowd _ (List.of_mem_zip hp).1)
      · exact Nat.ne_of_lt (Heap.lt_size (N _ (hn _ (List.mem_append_right _ hp))).1))
    hst (F.push _) (News.grown N fun _ _ e => Heap.get?_push_of_some _ e) hn hI hV
    (fun i a v io m₁ h₁ tk₁ hi hIa hP F₁ N₁ => turn i a v _ io m₁ h₁ tk₁ hi hIa hP (fun q hq => Heap.lt_size (N q hq).1) F₁ N₁) done
theorem iter_str_0 {α : Type} {w : World} {A : Around} {s : Shared} {env : Env} {h₀ : Heap} {Q : Flow → Shared → Prop} {x : Str} {body : List Stmt} {m : Str → Option Value} {news : Led} {y : Str} {t : Tok}
    (hh : A.handled = none)
    (V : Nat → α → List (Str × Value)) (K : List (Str × Value)) (ds : List Addr) (wd : Nat → α → List Obj) (W₀ : Led) (Inv : Nat → α → Prop) (a₀ : α)
    (F : Fr h₀ env.locals s.heap m) (N : News h₀ env.locals s.heap news) (hlen : ds.length ≤ (wd 0 a₀).length)
    (hn : ∀ p ∈ ds.zip (wd 0 a₀) ++ W₀, p ∈ news) (hI : Inv 0 a₀) (hV : AgreeV m (V 0 a₀ ++ K))
    (turn : ∀ i a' c t' I io m₁ h₁ tk₁, i < y.cps.size → Inv i a' → y.cps[i]? = some c → (∀ q ∈ news, q.1 < I) → Fr h₀ env.locals h₁ (fun z => if z = x then some (.str ⟨#[c]⟩ t') else over (V i a' ++ K) m₁ z) → News h₀ env.locals h₁ ((I, io) :: (ds.zip (wd i a') ++ W₀)) →
      wpAny (model prog w) A (execs body env) (FTo h₀ env.locals (fun i a => V i a ++ K) (fun i a => ds.zip (wd i a) ++ W₀) Inv (i + 1) I io { s with heap := h₁, toks := tk₁ } Q) (fun _ _ => False) { s with heap := h₁, toks := tk₁ })
    (done : ∀ a m₁ h₁ tk₁, Inv y.cps.size a → Fr h₀ env.locals h₁ (over (V y.cps.size a ++ K) m₁) → News h₀ env.locals h₁ (ds.zip (wd y.cps.size a) ++ W₀) → Q .next { s with heap := h₁, toks := tk₁ }) :
    wpAny (model prog w) A (pyIter (.str y t)) (fun it s₂ => LoopAtV prog w A h₀ env x body Q (fun _ _ => False) it s₂) (fun _ _ => False) s := by
  cases ha : y.cps.all (· < 128)
  · refine wpAny_pyIter_wide ha ?_
    refine iter_own0 (Walks.strWide (prog := prog) (w := w) hh s.heap.objs.size y t) (fun i h st => let ⟨o, ho, _⟩ := st; ⟨o, ho⟩) ⟨_, Heap.get?_push_size _ rfl, rfl, rfl⟩ V K ds wd W₀ Inv a₀ F N hlen hn hI hV ?_ done
    rintro i a' v' I io m₁ h₁ tk₁ hi hIa ⟨c, t', hc, rfl⟩ hlt F₁ N₁
    exact turn i a' c t' I io m₁ h₁ tk₁ hi hIa hc hlt F₁ N₁
  · refine wpAny_pyIter_ascii ha ?_
    refine iter_own0 (Walks.strAscii (prog := prog) (w := w) hh s.heap.objs.size y t) (fun i h st => let ⟨o, ho, _⟩ := st; ⟨o, ho⟩) ⟨_, Heap.get?_push_size _ rfl, rfl, rfl⟩ V K ds wd W₀ Inv a₀ F N hlen hn hI hV ?_ done
    rintro i a' v' I io m₁ h₁ tk₁ hi hIa ⟨c, t', hc, rfl⟩ hlt F₁ N₁
    exact turn i a' c t' I io m₁ h₁ tk₁ hi hIa hc hlt F₁ N₁
theorem iter_range_0 {α : Type} {w : World} {A : Around} {s : Shared} {env : Env} {h₀ : Heap} {Q : Flow → Shared → Prop} {x : Str} {body : List Stmt} {m : Str → Option Value} {news : Led} {r : Addr} {a b : Int} {t u v : Tok} {n : Nat}
    (hh : A.handled = none) (hr : IsRange s.heap r a b 1 t u v) (hsm : Builtin.Range.small a b 1 = true) (hn1 : Builtin.Range.rangeSize a b 1 = (n : Int))
    (V : Nat → α → List (Str × Value)) (K : List (Str × Value)) (ds : List Addr) (wd : Nat → α → List Obj) (W₀ : Led) (Inv : Nat → α → Prop) (a₀ : α)
    (F : Fr h₀ env.locals s.heap m) (N : News h₀ env.locals s.heap news) (hlen : ds.length ≤ (wd 0 a₀).length)
    (hn : ∀ p ∈ ds.zip (wd 0 a₀) ++ W₀, p ∈ news) (hI : Inv 0 a₀) (hV : AgreeV m (V 0 a₀ ++ K))
    (turn : ∀ i a' t' I io m₁ h₁ tk₁, i < n → Inv i a' → (∀ q ∈ news, q.1 < I) → Fr h₀ env.locals h₁ (fun y => if y = x then some (.int (a + (i : Int)) t') else over (V i a' ++ K) m₁ y) → News h₀ env.locals h₁ ((I, io) :: (ds.zip (wd i a') ++ W₀)) →
      wpAny (model prog w) A (execs body env) (FTo h₀ env.locals (fun i a => V i a ++ K) (fun i a => ds.zip (wd i a) ++ W₀) Inv (i + 1) I io { s with heap := h₁, toks := tk₁ } Q) (fun _ _ => False) { s with heap := h₁, toks := tk₁ })
    (done : ∀ a m₁ h₁ tk₁, Inv n a → Fr h₀ env.locals h₁ (over (V n a ++ K) m₁) → News h₀ env.locals h₁ (ds.zip (wd n a) ++ W₀) → Q .next { s with heap := h₁, toks := tk₁ }) :
    wpAny (model prog w) A (pyIter (.ref r)) (fun it s₂ => LoopAtV prog w A h₀ env x body Q (fun _ _ => False) it s₂) (fun _ _ => False) s := by
  refine wpAny_pyIter_range hr hsm ?_
  refine iter_own0 (Walks.range (prog := prog) (w := w) hh s.heap.objs.size a 1 n) (fun i h st => ⟨_, st⟩) (by show IsRangeIter _ _ _ _ _; rw [hn1]; simpa using Heap.get?_push_size _ rfl) V K ds wd W₀ Inv a₀ F N hlen hn hI hV ?_ done
  rintro i a' v' I io m₁ h₁ tk₁ hi hIa ⟨t', rfl⟩ hlt F₁ N₁
  rw [Int.mul_one] at F₁
  exact turn i a' t' I io m₁ h₁ tk₁ hi hIa hlt F₁ N₁
section
variable {w : World} {A : Around} {E : Value → Shared → Prop} {s : Shared} {h₀ : Heap} {L : Addr} {m : Str → Option Value} {env : Env}
theorem comp_rangeT {ct elt iter : Expr} {x : Str} {px : Pos} {scope : Scope} {cl : List (Str × Addr)} {pos : Pos} {Q : Value → Shared → Prop} (_F₀ : Fr h₀ L s.heap m) (hh : A.handled = none) (n : Nat) (Inv : Nat → List Value → Prop)
    (hclos : closureFor scope env = pure cl) (hcell : ∀ y ∈ scope.names, y.2 ≠ .cell) (hkind : scope.kind = .function)
    (hnames : ∀ y ∈ scope.names, y.2 = .local → scope.names.lookup y.1 = some .local) (hx : scope.names.lookup x = some .local)
    (h : wpAny (model prog w) A (eval iter env) (fun xv s₁ => Stop (∃ r a b t u v news, xv = .ref r ∧ IsRange s₁.heap r a b 1 t u v ∧ Builtin.Range.small a b 1 = true ∧ Builtin.Range.rangeSize a b 1 = (n : Int) ∧ Fr h₀ L s₁.heap m ∧ News h₀ L s₁.heap news ∧ n ≤ 1000000 ∧ Inv 0 [] ∧
      (∀ i ys t' I oI C oC D m₂ h tk (E' : Value → Shared → Prop), i < n → Inv i ys → NsObj oC m₂ → m₂ x = some (.int (a + (i : Int)) t') → Fr h₀ L h m → News h₀ L h ((I, oI) :: (C, oC) :: (D, lst ys) :: news) →
        wpAny (model prog w) A (isTrue ct (compEnvC scope cl C env) (eval ct (compEnvC scope cl C env))) (fun ok s' => if ok = true then
          wpAny (model prog w) A (eval elt (compEnvC scope cl C env)) (fun y' s'' => CEnd h₀ L m { s₁ with heap := h, toks := tk } ((I, oI) :: (C, oC) :: (D, lst ys) :: news) (Inv (i + 1) (ys ++ [y'])) s'') E' s'
          else CEnd h₀ L m { s₁ with heap := h, toks := tk } ((I, oI) :: (C, oC) :: (D, lst ys) :: news) (Inv (i + 1) ys) s') E' { s₁ with heap := h, toks := tk }) ∧
      (∀ D ys h tk, Inv n ys → Fr h₀ L h m → News h₀ L h ((D, lst ys) :: news) → Off1 D news → Q (.ref D) { s₁ with heap := h, toks := tk }))) E s)
    (hs : ∀ x, foldedSetIterable iter env x = pure x) :
    wpAny (model prog w) A (eval (.ListComp elt [⟨.Name x px, iter, [ct], 0⟩] scope pos) env) Q E s := by
  refine ListComp_T (_F₀) hclos hcell hkind hnames hx (wpAny_mono h (fun xv s₁ h₁ => ?_) fun _ _ e => e) hs
  obtain ⟨r, a, b, t, u, v, news, rfl, hr, hsm, hn, F, N, hsz, hI0, step, fin⟩ := h₁.out
  refine .inr ⟨r, a, b, t, u, v, n, news, rfl, hh, F, N, hr, hsm, hn, Nat.le_trans hsz (by rw [sizeLine_eq]; decide), ?_⟩
  rintro _ ⟨h2, rfl⟩
  refine restT_const Inv trivial ?_ ?_ _ 0 [] (Nat.zero_add _) hI0
  · rintro i ys v I oI C oC D m₂ h tk E' hi hI ⟨t', rfl⟩ hC hx F N
    exact step i ys t' I oI C oC D m₂ h tk E' hi hI hC hx F N
  · intro ys hI D h tk F N o
    exact fin D ys h tk hI F N o
theorem iextend {D b : Addr} {ys zs : List Value} {n n2 : Nat} {news : Led} {g : Obj → Led} {Q : Value → Shared → Prop} (F : Fr h₀ L s.heap m) (N : News h₀ L s.heap news) (U : UpdF D (W.listOf (List.toArray ys) n) news g)
    (hb : (b, W.listOf (List.toArray zs) n2) ∈ news) (hsz : ys.length + zs.length ≤ 1000000)
    (h : ∀ h' n', Fr h₀ L h' m → News h₀ L h' (g (W.listOf (List.toArray (ys ++ zs)) n')) → Q .none { s with heap := h' }) :
    wpAny (model prog w) A (call (.builtin "list.extend") [.ref D, .ref b]) Q E s := by
  obtain ⟨own, rest, rfl, hg, h1, h2⟩ := U.split
  refine extend_in (its2 := List.toArray zs) F N h1 h2 (N _ hb).1 (fun h' n' F' N' => h h' n' F' ?_) ?_
  · rw [hg]; exact N'
  · rw [List.size_toArray]; exact Nat.le_trans hsz (by rw [sizeLine_eq]; decide)
theorem ieq {a b : Addr} {vs us : List Value} {c c' : Nat} {ns ms : List Int} {news : Led} {Q : Value → Shared → Prop} (N : News h₀ L s.heap news) (ha : (a, W.listOf (List.toArray vs) c) ∈ news) (hi : IntsAre vs ns)
    (hb : (b, W.listOf (List.toArray us) c') ∈ news) (hj : IntsAre us ms) (hu : A.units + 64 < cLine) (h : Q (.bool (decide (ns = ms))) s) : wpAny (model prog w) A (compareOp .Eq (.ref a) (.ref b)) Q E s :=
  eq_intsK ⟨_, (N _ ha).1, rfl, _, rfl⟩ hi ⟨_, (N _ hb).1, rfl, _, rfl⟩ hj hu h
end
open PyProof.Rows.LCg in
theorem rest_const {w : World} {A : Around} {s : Shared} {h₀ : Heap} {L : Addr} {m : Str → Option Value} {env : Env} {elt : Expr} {x : Str} {scope : Scope} {cl : List (Str × Addr)} {S : Led → Prop} {P : Nat → Value → Prop} {Fin : List Value → Led → Prop} {news : Led} {n : Nat} (Inv : Nat → List Value → Prop) (hS : S news)
    (step : ∀ i ys v I oI C oC D m₂ h tk (E' : Value → Shared → Prop), i < n → Inv i ys → P i v → NsObj oC m₂ → m₂ x = some v → Fr h₀ L h m → News h₀ L h ((I, oI) :: (C, oC) :: (D, lst ys) :: news) →
        wpAny (model prog w) A (eval elt (compEnvC scope cl C env)) (fun y s'' => CEnd h₀ L m { s with heap := h, toks := tk } ((I, oI) :: (C, oC) :: (D, lst ys) :: news) (Inv (i + 1) (ys ++ [y])) s'') E' { s with heap := h, toks := tk })
    (fin : ∀ ys, Inv n ys → Fin ys news) : ∀ (k i : Nat) (ys : List Value), i + k = n → Inv i ys → CompRest prog w A h₀ L m env elt x scope cl s S P Fin k i ys news
  | 0, i, ys, e, hI => by
    obtain rfl : i = n := by omega
    exact fin ys hI
  | k + 1, i, ys, e, hI => by
    refine CompRest.succ fun v I oI C oC D m₂ h tk E' hv hC hx F N off ne => ?_
    refine wpAny_mono (step i ys v I oI C oC D m₂ h tk E' (by omega) hI hv hC hx F N) (fun y s'' h₂ => ?_) fun _ _ e => e
    obtain ⟨h', tk', rfl, F', N', hI'⟩ := h₂
    exact ⟨h', tk', news, rfl, F', N', off, hS, rest_const Inv hS step fin k (i + 1) _ (by omega) hI'⟩
open PyProof.Rows.LCg in
theorem comp_rangeU {w : World} {A : Around} {E : Value → Shared → Prop} {s : Shared} {h₀ : Heap} {L : Addr} {m : Str → Option Value} {env : Env} {elt iter : Expr} {x : Str} {px : Pos} {scope : Scope} {cl : List (Str × Addr)} {pos : Pos} {Q : Value → Shared → Prop} (_F₀ : Fr h₀ L s.heap m) (hh : A.handled = none) (n : Nat) (Inv : Nat → List Value → Prop)
    (hclos : closureFor scope env = pure cl) (hcell : ∀ y ∈ scope.names, y.2 ≠ .cell) (hkind : scope.kind = .function)
    (hnames : ∀ y ∈ scope.names, y.2 = .local → scope.names.lookup y.1 = some .local) (hx : scope.names.lookup x = some .local)
    (h : wpAny (model prog w) A (eval iter env) (fun xv s₁ => Stop (∃ r a b t u v news, xv = .ref r ∧ IsRange s₁.heap r a b 1 t u v ∧ Builtin.Range.small a b 1 = true ∧ Builtin.Range.rangeSize a b 1 = (n : Int) ∧ Fr h₀ L s₁.heap m ∧ News h₀ L s₁.heap news ∧ n ≤ 1000000 ∧ Inv 0 [] ∧
      (∀ i ys t' I oI C oC D m₂ h tk (E' : Value → Shared → Prop), i < n → Inv i ys → NsObj oC m₂ → m₂ x = some (.int (a + (i : Int)) t') → Fr h₀ L h m → News h₀ L h ((I, oI) :: (C, oC) :: (D, lst ys) :: news) →
          wpAny (model prog w) A (eval elt (compEnvC scope cl C env)) (fun y' s'' => CEnd h₀ L m { s₁ with heap := h, toks := tk } ((I, oI) :: (C, oC) :: (D, lst ys) :: news) (Inv (i + 1) (ys ++ [y'])) s'') E' { s₁ with heap := h, toks := tk }) ∧
      (∀ D ys h tk, Inv n ys → Fr h₀ L h m → News h₀ L h ((D, lst ys) :: news) → Off1 D news → Q (.ref D) { s₁ with heap := h, toks := tk }))) E s)
    (hs : ∀ x, foldedSetIterable iter env x = pure x) :
    wpAny (model prog w) A (eval (.ListComp elt [⟨.Name x px, iter, [], 0⟩] scope pos) env) Q E s := by
  refine ListComp_U (_F₀) hclos hcell hkind hnames hx (wpAny_mono h (fun xv s₁ h₁ => ?_) fun _ _ e => e) hs
  obtain ⟨r, a, b, t, u, v, news, rfl, hr, hsm, hn, F, N, hsz, hI0, step, fin⟩ := h₁.out
  refine .inr ⟨r, a, b, t, u, v, n, news, rfl, hh, F, N, hr, hsm, hn, Nat.le_trans hsz (by rw [sizeLine_eq]; decide), ?_⟩
  rintro _ ⟨h2, rfl⟩
  refine rest_const Inv trivial ?_ ?_ _ 0 [] (Nat.zero_add _) hI0
  · rintro i ys v I oI C oC D m₂ h tk E' hi hI ⟨t', rfl⟩ hC hx F N
    exact step i ys t' I oI C oC D m₂ h tk E' hi hI hC hx F N
  · intro ys hI D h tk F N o
    exact fin D ys h tk hI F N o
end
noncomputable def lc : List Nat → List Nat → Ordering
  | [], [] => .eq
  | [], _ :: _ => .lt
  | _ :: _, [] => .gt
  | a :: u, b :: v => if a < b then .lt else if b < a then .gt else lc u v
noncomputable def ci (a b : Int) : Ordering := if a < b then .lt else if b < a then .gt else .eq
noncomputable def lr : List Int → List Int → Ordering
  | [], [] => .eq
  | [], _ :: _ => .lt
  | _ :: _, [] => .gt
  | a :: u, b :: v => (ci a b).then (lr u v)
theorem lc_spec : ∀ u v : List Nat, (lc u v = .lt ↔ u < v) ∧ (lc u v = .gt ↔ v < u)
  | [], [] => by simp [lc]
  | [], _ :: _ => by simp [lc]
  | _ :: _, [] => by simp [lc]
  | a :: u, b :: v => by
    obtain ⟨h1, h2⟩ := lc_spec u v
    unfold lc
    rw [List.cons_lt_cons_iff, List.cons_lt_cons_iff]
    by_cases hab : a < b
    · simp only [hab, if_true, true_or, iff_true, true_and]
      simp only [reduceCtorEq, false_iff]
      omega
    · by_cases hba : b < a
      · simp only [hab, hba, if_false, if_true, true_or, iff_true, reduceCtorEq, false_iff, false_or, true_and]
        refine ⟨?_, trivial⟩
        intro h; omega
      · have e : a = b := by omega
        subst e
        simp only [Nat.lt_irrefl, if_false, false_or, true_and]
        exact ⟨h1, h2⟩
theorem lr_spec : ∀ u v : List Int, (lr u v = .lt ↔ u < v) ∧ (lr u v = .gt ↔ v < u)
  | [], [] => by simp [lr]
  | [], _ :: _ => by simp [lr]
  | _ :: _, [] => by simp [lr]
  | a :: u, b :: v => by
    obtain ⟨h1, h2⟩ := lr_spec u v
    unfold lr ci
    rw [List.cons_lt_cons_iff, List.cons_lt_cons_iff]
    by_cases hab : a < b
    · simp only [hab, if_true, true_or, iff_true, Ordering.then]
      simp only [reduceCtorEq, false_iff, true_and]
      omega
    · by_cases hba : b < a
      · simp only [hab, hba, if_false, if_true, true_or, iff_true, Ordering.then, reduceCtorEq, false_iff, false_or, true_and]
        refine ⟨?_, trivial⟩
        intro h; omega
      · have e : a = b := by omega
        subst e
        simp only [Int.lt_irrefl, if_false, false_or, true_and, Ordering.then]
        exact ⟨h1, h2⟩
theorem lc_refl : ∀ u, lc u u = .eq
  | [] => rfl
  | a :: u => by unfold lc; simp [lc_refl u]
theorem lc_cons (a b : Nat) (u v : List Nat) : lc (a :: u) (b :: v) = if a < b then .lt else if b < a then .gt else lc u v := rfl
theorem ci_lt {a b : Int} (h : a < b) : ci a b = .lt := if_pos h
theorem ci_gt {a b : Int} (h : b < a) : ci a b = .gt := by unfold ci; rw [if_neg (by omega), if_pos h]
theorem ci_self (a : Int) : ci a a = .eq := by unfold ci; rw [if_neg (by omega), if_neg (by omega)]
noncomputable def hd65 : List Nat → Bool
  | [] => true
  | a :: _ => decide (a < 65)
/-- words of signs above, tails that begin below -/
theorem lc_split : ∀ {u v x y : List Nat}, (∀ c ∈ u, 65 ≤ c) → (∀ c ∈ v, 65 ≤ c) → hd65 x = true → hd65 y = true → lc (u ++ x) (v ++ y) = (lc u v).then (lc x y)
  | [], [], x, y, _, _, _, _ => rfl
  | [], b :: v, x, y, _, hv, hx, _ => by
    have hb := hv b (.head _)
    cases x with
    | nil => rfl
    | cons a x =>
      have ha : a < 65 := of_decide_eq_true hx
      show lc (a :: x) (b :: (v ++ y)) = _
      unfold lc
      rw [if_pos (by omega)]; rfl
  | a :: u, [], x, y, hu, _, _, hy => by
    have ha := hu a (.head _)
    cases y with
    | nil => rfl
    | cons b y =>
      have hb : b < 65 := of_decide_eq_true hy
      show lc (a :: (u ++ x)) (b :: y) = _
      unfold lc
      rw [if_neg (by omega), if_pos (by omega)]; rfl
  | a :: u, b :: v, x, y, hu, hv, hx, hy => by
    show lc (a :: (u ++ x)) (b :: (v ++ y)) = (lc (a :: u) (b :: v)).then (lc x y)
    rw [lc_cons, lc_cons]
    by_cases hab : a < b
    · rw [if_pos hab, if_pos hab]; rfl
    · rw [if_neg hab, if_neg hab]
      by_cases hba : b < a
      · rw [if_pos hba, if_pos hba]; rfl
      · rw [if_neg hba, if_neg hba]
        exact lc_split (fun c hc => hu c (.tail _ hc)) (fun c hc => hv c (.tail _ hc)) hx hy
noncomputable def valW : Nat → List Nat → Int
  | 0, _ => 0
  | _ + 1, [] => 0
  | k + 1, c :: r => ((c : Int) - 96) * 27 ^ k + valW k r
noncomputable def LowL (u : List Nat) : Prop := ∀ c ∈ u, 97 ≤ c ∧ c ≤ 122
theorem valW_bd : ∀ (k : Nat) (u : List Nat), LowL u → u.length ≤ k → 0 ≤ valW k u ∧ valW k u < 27 ^ k
  | 0, [], _, _ => by simp [valW]
  | k + 1, [], _, _ => by
    have : (0 : Int) < 27 ^ (k + 1) := Int.pow_pos (by decide)
    simp only [valW]; omega
  | k + 1, c :: r, h, hl => by
    obtain ⟨h1, h2⟩ := valW_bd k r (fun c hc => h c (.tail _ hc)) (by simpa using hl)
    obtain ⟨c1, c2⟩ := h c (.head _)
    have hp : (0 : Int) < 27 ^ k := Int.pow_pos (by decide)
    have e : (27 : Int) ^ (k + 1) = 27 * 27 ^ k := by rw [Int.pow_succ]; omega
    simp only [valW]
    rw [e]
    generalize (27 : Int) ^ k = p at *
    have a1 : 1 * p ≤ ((c : Int) - 96) * p := Int.mul_le_mul_of_nonneg_right (by omega) (by omega)
    have a2 : ((c : Int) - 96) * p ≤ 26 * p := Int.mul_le_mul_of_nonneg_right (by omega) (by omega)
    omega
theorem lc_val : ∀ (k : Nat) (u v : List Nat), LowL u → LowL v → u.length ≤ k → v.length ≤ k → lc u v = ci (valW k u) (valW k v)
  | 0, [], [], _, _, _, _ => (ci_self _).symm
  | k + 1, [], [], _, _, _, _ => (ci_self _).symm
  | 0, [], _ :: _, _, _, _, h => by simp at h
  | 0, _ :: _, _, _, _, h, _ => by simp at h
  | k + 1, [], b :: v, _, hv, _, hl => by
    obtain ⟨h1, h2⟩ := valW_bd k v (fun c hc => hv c (.tail _ hc)) (by simpa using hl)
    obtain ⟨c1, c2⟩ := hv b (.head _)
    have hp : (0 : Int) < 27 ^ k := Int.pow_pos (by decide)
    have a1 : 1 * (27 : Int) ^ k ≤ ((b : Int) - 96) * 27 ^ k := Int.mul_le_mul_of_nonneg_right (by omega) (by omega)
    show Ordering.lt = ci 0 (((b : Int) - 96) * 27 ^ k + valW k v)
    exact (ci_lt (by omega)).symm
  | k + 1, a :: u, [], hu, _, hl, _ => by
    obtain ⟨h1, h2⟩ := valW_bd k u (fun c hc => hu c (.tail _ hc)) (by simpa using hl)
    obtain ⟨c1, c2⟩ := hu a (.head _)
    have hp : (0 : Int) < 27 ^ k := Int.pow_pos (by decide)
    have a1 : 1 * (27 : Int) ^ k ≤ ((a : Int) - 96) * 27 ^ k := Int.mul_le_mul_of_nonneg_right (by omega) (by omega)
    show Ordering.gt = ci (((a : Int) - 96) * 27 ^ k + valW k u) 0
    exact (ci_gt (by omega)).symm
  | k + 1, a :: u, b :: v, hu, hv, hl, hl' => by
    obtain ⟨h1, h2⟩ := valW_bd k u (fun c hc => hu c (.tail _ hc)) (by simpa using hl)
    obtain ⟨h3, h4⟩ := valW_bd k v (fun c hc => hv c (.tail _ hc)) (by simpa using hl')
    have ih := lc_val k u v (fun c hc => hu c (.tail _ hc)) (fun c hc => hv c (.tail _ hc)) (by simpa using hl) (by simpa using hl')
    have hp : (0 : Int) < 27 ^ k := Int.pow_pos (by decide)
    rw [lc_cons, ih]
    show _ = ci (((a : Int) - 96) * 27 ^ k + valW k u) (((b : Int) - 96) * 27 ^ k + valW k v)
    generalize (27 : Int) ^ k = p at *
    generalize valW k u = x at *
    generalize valW k v = y at *
    by_cases hab : a < b
    · have a1 : ((a : Int) - 96 + 1) * p ≤ ((b : Int) - 96) * p := Int.mul_le_mul_of_nonneg_right (by omega) (by omega)
      rw [Int.add_mul] at a1
      rw [if_pos hab, ci_lt (by omega)]
    · by_cases hba : b < a
      · have a1 : ((b : Int) - 96 + 1) * p ≤ ((a : Int) - 96) * p := Int.mul_le_mul_of_nonneg_right (by omega) (by omega)
        rw [Int.add_mul] at a1
        rw [if_neg hab, if_pos hba, ci_gt (by omega)]
      · have e : a = b := by omega
        subst e
        rw [if_neg hab, if_neg hab]
        by_cases hxy : x < y
        · rw [ci_lt hxy, ci_lt (by omega)]
        · by_cases hyx : y < x
          · rw [ci_gt hyx, ci_gt (by omega)]
          · have e2 : x = y := by omega
            subst e2
            rw [ci_self, ci_self]
local macro_rules | `(tactic| walk_at $s) => ml s "
 callWith ref => R callWith_G ?g ?hx ?_; c g assumption hx deck
 And => s And ( Kept _ _ ) _ & r kept_and {k_asm} ?_
 call type:list => s wpAny _ _ ( call ( Value.type _ ) ( List.cons ( Value.ref _ ) List.nil ) ) _ _ _ & R ilist_range rfl ?F ?N ?R ?s ( rangeSize_nat _ _ ) ?l ?_; c F k_asm N k_asm R assumption s =small_one~{ado}~{ado}~{ado}~{ado} l ado ! i D ws k h tk F N l1 hI; l l1; sw
 binaryOp Add str str => s wpAny _ _ ( binaryOp Operator.Add ( Value.str _ _ ) ( Value.str _ _ ) ) _ _ _ & R KXadd.add @K=1000000 @L=1000000 ?a ?b {decide} ?_; c a @le b @le ! i _ _ hl"
local macro_rules | `(tactic| walk_at "@le") => `(tactic| first | omega | (show 1 ≤ 1000000; decide) | decide +kernel)
local macro_rules | `(tactic| k_all) => `(tactic| first | with_reducible assumption | (refine' all_ne ?h ?hx; (case h => assumption); (case hx => omega)))
local macro_rules | `(tactic| walk_at "@lim") => `(tactic| first | (refine lim_le (by assumption) ?_; exact rfl) | omega)
noncomputable def fistc (i : Nat) : Nat := ([102, 105, 115, 116] : List Nat).getD i 102
noncomputable def othC : List Int := [223, 64256, 64257, 64259, 64261, 64262, 383, 8464]
noncomputable def othW : List Str := ["ss", "ff", "fi", "ffi", "st", "st", "s", "i"]
noncomputable def noth : List Int := 173 :: 847 :: 6150 :: 6155 :: 6156 :: 6157 :: 8203 :: 8204 :: 8205 :: 8288 :: 65279 :: rangeInts 65024 1 ((65040 : Int) - 65024).toNat
theorem noth_eq : noth = b1L := by decide +kernel
theorem noth_bd (i : Nat) : 0 ≤ noth.getD i 0 ∧ noth.getD i 0 ≤ 65279 := by
  rw [noth_eq]
  by_cases h : i < 27
  · exact (by decide +kernel : ∀ i : Fin 27, 0 ≤ b1L.getD i 0 ∧ b1L.getD i 0 ≤ 65279) ⟨i, h⟩
  · rw [List.getD_eq_getElem?_getD, List.getElem?_eq_none (by show 27 ≤ i; omega)]; decide
/-- one figure to the base 64: what is typed, and the word's letters -/
noncomputable def tpc (k q : Int) : Str := if k < 48 then ⟨#[ltr (fistc (k.fmod 4).toNat) (k.fdiv 4)]⟩ else if k < 56 then ⟨#[(othC.getD (k - 48).toNat 0).toNat]⟩ else ⟨#[(noth.getD ((k + 8 * q).fmod 27).toNat 0).toNat]⟩
noncomputable def wpc (k : Int) : Str := if k < 48 then ⟨#[fistc (k.fmod 4).toNat]⟩ else if k < 56 then othW.getD (k - 48).toNat ⟨#[]⟩ else ⟨#[]⟩
noncomputable def wtN (n : Nat) : Str := if n = 0 then ⟨#[]⟩ else tpc ((n % 64 : Nat) : Int) ((n / 64 : Nat) : Int) ++ wtN (n / 64)
decreasing_by omega
noncomputable def wwN (n : Nat) : Str := if n = 0 then ⟨#[]⟩ else wpc ((n % 64 : Nat) : Int) ++ wwN (n / 64)
decreasing_by omega
theorem str_append_nil (x : Str) : x ++ (⟨#[]⟩ : Str) = x := PySem.Str.ext' (by rw [PySem.Str.cps_append]; simp)
theorem str_nil_append (x : Str) : (⟨#[]⟩ : Str) ++ x = x := PySem.Str.ext' (by rw [PySem.Str.cps_append]; simp)
theorem str_append_assoc (x y z : Str) : (x ++ y) ++ z = x ++ (y ++ z) := PySem.Str.ext' (by simp only [PySem.Str.cps_append, Array.append_assoc])
theorem tpc_len (k q : Int) : (tpc k q).length = 1 := by
  unfold tpc; split
  · rfl
  · split <;> rfl
theorem wpc_len (k : Int) : (wpc k).length ≤ 3 := by
  unfold wpc; split
  · show 1 ≤ 3; decide
  · split
    · generalize (k - 48).toNat = i
      by_cases h : i < 8
      · exact (by decide +kernel : ∀ i : Fin 8, (othW.getD i ⟨#[]⟩).length ≤ 3) ⟨i, h⟩
      · rw [List.getD_eq_getElem?_getD, List.getElem?_eq_none (by show 8 ≤ i; omega)]; decide
    · show 0 ≤ 3; decide
structure WS where
  n : Int
  T : Str
  W : Str
  t1 : Tok
  t2 : Tok
  t3 : Tok
noncomputable def WS.Inv (FT FW : Str) (a : WS) : Prop := 0 ≤ a.n ∧ a.T ++ wtN a.n.toNat = FT ∧ a.W ++ wwN a.n.toNat = FW ∧ ((a.n < 4096 ∧ a.T.length = 0 ∧ a.W.length = 0) ∨ (a.n < 64 ∧ a.T.length ≤ 1 ∧ a.W.length ≤ 3) ∨ (a.n = 0 ∧ a.T.length ≤ 2 ∧ a.W.length ≤ 6))
theorem WS.Inv.len {FT FW : Str} {a : WS} (h : WS.Inv FT FW a) : a.T.length ≤ 2 ∧ a.W.length ≤ 6 := by
  obtain ⟨_, _, _, h⟩ := h; omega
theorem WS.Inv.start (n : Nat) (hn : n < 4096) (t1 t2 t3 : Tok) : WS.Inv (wtN n) (wwN n) ⟨n, "", "", t1, t2, t3⟩ :=
  ⟨by show (0 : Int) ≤ n; omega, str_nil_append _, str_nil_append _, .inl ⟨by show (n : Int) < 4096; omega, rfl, rfl⟩⟩
theorem WS.Inv.step {FT FW : Str} {a : WS} (h : WS.Inv FT FW a) (hp : 0 < a.n) {T' W' : Str} (hT : T' = a.T ++ tpc (a.n.fmod 64) (a.n.fdiv 64)) (hW : W' = a.W ++ wpc (a.n.fmod 64)) (t1 t2 t3 : Tok) :
    WS.Inv FT FW ⟨a.n.fdiv 64, T', W', t1, t2, t3⟩ ∧ (a.n.fdiv 64).toNat < a.n.toNat := by
  obtain ⟨n, T, W, _, _, _⟩ := a
  obtain ⟨h0, h1, h2, h3⟩ := h
  simp only at *
  obtain ⟨k, rfl⟩ := Int.eq_ofNat_of_zero_le h0
  have e1 : Int.fmod (k : Int) 64 = ((k % 64 : Nat) : Int) := fmod_nat k 64
  have e2 : Int.fdiv (k : Int) 64 = ((k / 64 : Nat) : Int) := fdiv_nat k 64
  rw [e1, e2] at hT
  rw [e1] at hW
  have l1 := tpc_len ((k % 64 : Nat) : Int) ((k / 64 : Nat) : Int)
  have l2 := wpc_len ((k % 64 : Nat) : Int)
  rw [Int.toNat_natCast] at h1 h2
  have hk : k ≠ 0 := by omega
  rw [wtN, if_neg hk, ← str_append_assoc, ← hT] at h1
  rw [wwN, if_neg hk, ← str_append_assoc, ← hW] at h2
  have lT : T'.length = T.length + 1 := by rw [hT, PySem.Str.length_append, l1]
  have lW : W'.length ≤ W.length + 3 := by rw [hW, PySem.Str.length_append]; omega
  rw [e2]
  refine ⟨⟨Int.natCast_nonneg (k / 64), h1, h2, ?_⟩, by rw [Int.toNat_natCast, Int.toNat_natCast]; omega⟩
  show _ ∨ _
  simp only
  rcases h3 with h3 | h3 | h3
  · refine .inr (.inl ⟨by omega, by omega, by omega⟩)
  · refine .inr (.inr ⟨by omega, by omega, by omega⟩)
  · omega
theorem WS.Inv.done {FT FW : Str} {a : WS} (h : WS.Inv FT FW a) (hp : ¬ 0 < a.n) : a.T = FT ∧ a.W = FW := by
  obtain ⟨h0, h1, h2, _⟩ := h
  have e : a.n.toNat = 0 := by omega
  rw [e, wtN, if_pos rfl, str_append_nil] at h1
  rw [e, wwN, if_pos rfl, str_append_nil] at h2
  exact ⟨h1, h2⟩
theorem fist_item (k : Nat) (h : k < 4) : Txt.item (Str.ofString "fist") (k : Int) = ⟨#[fistc k]⟩ := by
  match k, h with
  | 0, _ | 1, _ | 2, _ | 3, _ => decide +kernel
theorem fistc_bd (k : Nat) : 97 ≤ fistc k ∧ fistc k ≤ 122 := by
  unfold fistc
  match k with
  | 0 | 1 | 2 | 3 => decide
  | n + 4 => simp
section
variable {w : World} {mg mb : Str → Option Value} {loose : List Str} {ad : Str → Addr} {news : Led}
theorem letter_saysE {x : Str} {c : Nat} {wr : Int} {t u : Tok} (hx : x = ⟨#[c]⟩) (h : 97 ≤ c ∧ c ≤ 122) (h3 : 0 ≤ wr) (h4 : wr < 12) : Says w mg mb loose ad "_law_letter" 1 3 [.str x t, .int wr u] news (RetS ⟨#[ltr c wr]⟩) := by
  subst hx; exact letter_says c wr t u h.1 h.2 h3 h4
local macro_rules | `(tactic| walk_at $s) => ml s "
 call ref => r Says.useS {@pre} ( letter_saysE {assumption} ( fistc_bd _ ) {lia} {lia} ) ?_ ! i k' h' tk' F' N'; sw"
structure GoW : Prop where
noncomputable def st26 (i : Nat) : Stmt := ((fbody 26)[i]?).getD (.Pass ⟨0, 0, 0, 0⟩)
noncomputable def whB : List Stmt := match st26 4 with | .While _ b _ _ => b | _ => []
noncomputable def ifW : Stmt := (whB[2]?).getD (.Pass ⟨0, 0, 0, 0⟩)
theorem body26_eq : fbody 26 = st26 0 :: st26 1 :: (fbody 26).drop 2 := by kernel_rfl
noncomputable def OthAt (led : Led) (refs : List Value) : Prop := ∀ j, j < 8 → ∃ q t u c, refs[j]? = some (.ref q) ∧ (q, W.listOf #[.int (othC.getD j 0) t, .str (othW.getD j ⟨#[]⟩) u] c) ∈ led
theorem oth_of {led : Led} {q0 q1 q2 q3 q4 q5 q6 q7 : Addr} {t0 t1 t2 t3 t4 t5 t6 t7 u0 u1 u2 u3 u4 u5 u6 u7 : Tok} {c0 c1 c2 c3 c4 c5 c6 c7 : Nat}
    (h0 : (q0, W.listOf #[.int 223 t0, .str (Str.ofString "ss") u0] c0) ∈ led) (h1 : (q1, W.listOf #[.int 64256 t1, .str (Str.ofString "ff") u1] c1) ∈ led) (h2 : (q2, W.listOf #[.int 64257 t2, .str (Str.ofString "fi") u2] c2) ∈ led) (h3 : (q3, W.listOf #[.int 64259 t3, .str (Str.ofString "ffi") u3] c3) ∈ led)
    (h4 : (q4, W.listOf #[.int 64261 t4, .str (Str.ofString "st") u4] c4) ∈ led) (h5 : (q5, W.listOf #[.int 64262 t5, .str (Str.ofString "st") u5] c5) ∈ led) (h6 : (q6, W.listOf #[.int 383 t6, .str (Str.ofString "s") u6] c6) ∈ led) (h7 : (q7, W.listOf #[.int 8464 t7, .str (Str.ofString "i") u7] c7) ∈ led) :
    OthAt led [.ref q0, .ref q1, .ref q2, .ref q3, .ref q4, .ref q5, .ref q6, .ref q7] := by
  intro j hj
  match j, hj with
  | 0, _ => exact ⟨_, _, _, _, rfl, h0⟩
  | 1, _ => exact ⟨_, _, _, _, rfl, h1⟩
  | 2, _ => exact ⟨_, _, _, _, rfl, h2⟩
  | 3, _ => exact ⟨_, _, _, _, rfl, h3⟩
  | 4, _ => exact ⟨_, _, _, _, rfl, h4⟩
  | 5, _ => exact ⟨_, _, _, _, rfl, h5⟩
  | 6, _ => exact ⟨_, _, _, _, rfl, h6⟩
  | 7, _ => exact ⟨_, _, _, _, rfl, h7⟩
  | n + 8, h => exact absurd h (by omega)
theorem OthAt.mono {led led' : Led} {refs : List Value} (h : OthAt led refs) (k : ∀ p ∈ led, p ∈ led') : OthAt led' refs := fun j hj => let ⟨q, t, u, c, a, b⟩ := h j hj; ⟨q, t, u, c, a, k _ b⟩
theorem item_valE {A : Around} {E : Value → Shared → Prop} {s : Shared} {h₀ : Heap} {L : Addr} {value slice : PySem.Expr} {l : Addr} {vs : List Value} {c j : Nat} {x : Int} {v : Value} {u : Tok} {Q : Value → Shared → Prop} (N : News h₀ L s.heap news) (hm : (l, W.listOf (List.toArray vs) c) ∈ news) (hv : vs[j]? = some v) (hx : x = (j : Int)) (hj : j < 1000) (h : Q v s)
    (hs : subscripted slice false (.ref l) (.int x u) = operate [.ref l, .int x u] (getItem (.ref l) (.int x u))) : wpAny (model prog w) A (subscriptTail value slice (.ref l) (.int x u)) Q E s := by
  subst hx
  have hl : s.heap.IsList l vs.toArray := ⟨_, (N _ hm).1, rfl, _, rfl⟩
  exact tail_any hl.typeIs slot_list_getitem.lookup (wpAny_getItem_list hl (by omega) (by omega) (by simpa using hv) h) hs
inductive WordO (g : Heap) (L : Addr) (s₁ : Shared) (n : Int) (t : Tok) (news : Led) : Flow → Shared → Prop
  | mk (h' : Heap) (tk : Nat) (m' : Str → Option Value) (O : Addr) (refs : List Value) (c : Nat) (led : Led) (hF : Fr g L h' m') (hV : AgreeV m' [("others", .ref O), ("n", .int n t)]) (hN : News g L h' led) (hsub : ∀ p ∈ news, p ∈ led) (hO : (O, W.listOf (List.toArray refs) c) ∈ led) (hq : OthAt led refs) : WordO g L s₁ n t news .next { s₁ with heap := h', toks := tk }
theorem word_st0 {st : Stmt} (hst : st = st26 0) {n : Int} {t : Tok} {dp un : Nat} {gd : Option (List Code)} {cd : Value} {outer : List Env} {A₀ : Around} {base g : Heap} {L : Addr} {s : Shared} {m : Str → Option Value}
    (B : Below A₀ base outer g) (GG : G w mg mb loose ad g) (hd : dp + 9 < recursionLimit) (hu : un + 9 < cLine) (KX : Frag.In [] g) (F1 : Fr g L s.heap (over [("n", .int n t)] m)) (N1 : News g L s.heap news) :
    wpAny (model prog w) (ktrTop dp un gd (fname 26) (fscope 26) L (ad (fname 26)) cd [] outer) (exec st (envX (fname 26) (fscope 26) L (ad (fname 26)) cd [])) (WordO g L s n t news) (fun _ _ => False) s := by
  subst hst
  conv in st26 0 => dsimp only [st26, fbody, stm, prog, PySem.Challenge.pw_il0214_01, List.getElem?_cons_succ, List.getElem?_cons_zero, Option.getD_some]
  refine @gq _ _ _ _ _ _ _ fun Q' hQ' => ?_
  k_steps
  rename Fr _ _ _ _ => FX
  rename News _ _ _ _ => NX
  refine hQ' _ _ ?_; exact .mk _ _ _ _ [_, _, _, _, _, _, _, _] _ _ FX (.cons (by repeat (first | exact if_pos rfl | refine (if_neg (by decide +kernel)).trans ?_ | with_unfolding_all rfl)) (.cons (by repeat (first | exact if_pos rfl | refine (if_neg (by decide +kernel)).trans ?_ | with_unfolding_all rfl)) .nil)) NX (by first | (intro p hp; (repeat (first | exact hp | apply List.mem_cons_of_mem)); done) | kcj_all) (by k_mem) (oth_of (by k_mem) (by k_mem) (by k_mem) (by k_mem) (by k_mem) (by k_mem) (by k_mem) (by k_mem))
inductive WordN (g : Heap) (L : Addr) (s₁ : Shared) (O : Addr) (n : Int) (t : Tok) (news : Led) : Flow → Shared → Prop
  | mk (h' : Heap) (tk : Nat) (m' : Str → Option Value) (NT : Addr) (nv : List Value) (kn : Nat) (hF : Fr g L h' m') (hV : AgreeV m' [("nothing", .ref NT), ("others", .ref O), ("n", .int n t)]) (hN : News g L h' ((NT, W.listOf (List.toArray nv) kn) :: news)) (hI : IntsAre nv (173 :: 847 :: 6150 :: 6155 :: 6156 :: 6157 :: 8203 :: 8204 :: 8205 :: 8288 :: 65279 :: rangeInts 65024 1 ((65040 : Int) - 65024).toNat)) : WordN g L s₁ O n t news .next { s₁ with heap := h', toks := tk }
theorem word_st1 {st : Stmt} (hst : st = st26 1) {O : Addr} {n : Int} {t : Tok} {dp un : Nat} {gd : Option (List Code)} {cd : Value} {outer : List Env} {A₀ : Around} {base g : Heap} {L : Addr} {s : Shared} {m : Str → Option Value}
    (B : Below A₀ base outer g) (GG : G w mg mb loose ad g) (hd : dp + 9 < recursionLimit) (hu : un + 9 < cLine) (KX : Frag.In [] g) (F1 : Fr g L s.heap (over [("others", .ref O), ("n", .int n t)] m)) (N1 : News g L s.heap news) :
    wpAny (model prog w) (ktrTop dp un gd (fname 26) (fscope 26) L (ad (fname 26)) cd [] outer) (exec st (envX (fname 26) (fscope 26) L (ad (fname 26)) cd [])) (WordN g L s O n t news) (fun _ _ => False) s := by
  subst hst
  conv in st26 1 => dsimp only [st26, fbody, stm, prog, PySem.Challenge.pw_il0214_01, List.getElem?_cons_succ, List.getElem?_cons_zero, Option.getD_some]
  refine @gq _ _ _ _ _ _ _ fun Q' hQ' => ?_
  k_steps
  rename Fr _ _ _ _ => FX
  rename News _ _ _ _ => NX
  refine hQ' _ _ ?_; exact .mk _ _ _ _ _ _ FX (.cons (by repeat (first | exact if_pos rfl | refine (if_neg (by decide +kernel)).trans ?_ | with_unfolding_all rfl)) (.cons (by repeat (first | exact if_pos rfl | refine (if_neg (by decide +kernel)).trans ?_ | with_unfolding_all rfl)) (.cons (by repeat (first | exact if_pos rfl | refine (if_neg (by decide +kernel)).trans ?_ | with_unfolding_all rfl)) .nil))) (cb_drop NX (List.forall_mem_cons.mpr ⟨by k_mem, by show ∀ p ∈ news, _; (first | (intro p hp; (repeat (first | exact hp | apply List.mem_cons_of_mem)); done) | kcj_all)⟩)) (by assumption)
local macro_rules | `(tactic| walk_at $s) => ml s "
 exec While Compare cons nil => r Stop.out @p=_ ?_
 exec If Compare cons cons => no GoW & r Stop.out @p=_ ?_
 subscriptTail Name BinOp ref int => R item_valE ?N ?m ?v ?x ?j ?_ ?s; c N k_asm m hyp v hyp x lia j lia s wu"
theorem news_2 {h₀ h : Heap} {L : Addr} {led : Led} {p : Addr × Obj} (N : News h₀ L h led) (hp : p ∈ led) : News h₀ L h (p :: led) := fun q hq => by
  rcases List.mem_cons.mp hq with rfl | hq
  · exact N _ hp
  · exact N _ hq
local macro_rules | `(tactic| walk_at $s) => ml s "
 subscriptTail Name Constant ref int => R item_valE @j=0 ?N ?m ?v ?x ?j ?_ ?s; c N k_asm m hyp v rfl x rfl j decide s wu | R item_valE @j=1 ?N ?m ?v ?x ?j ?_ ?s; c N k_asm m hyp v rfl x rfl j decide s wu"
inductive IfP (g : Heap) (L : Addr) (s₁ : Shared) (O NT : Addr) (q : Int) (tq : Tok) (T' W' : Str) (led : Led) : Flow → Shared → Prop
  | mk (h' : Heap) (tk : Nat) (m' : Str → Option Value) (t1 t2 : Tok) (hF : Fr g L h' m') (hV : AgreeV m' [("n", .int q tq), ("typed", .str T' t1), ("word", .str W' t2), ("others", .ref O), ("nothing", .ref NT)]) (hN : News g L h' led) : IfP g L s₁ O NT q tq T' W' led .next { s₁ with heap := h', toks := tk }
theorem word_if {st : Stmt} (hst : st = ifW) {O NT : Addr} {nv refs : List Value} {kn c : Nat} {tk0 tq tt tw : Tok} {k q : Int} {T W' : Str} {led : Led} {dp un : Nat} {gd : Option (List Code)} {cd : Value} {outer : List Env} {A₀ : Around} {base g : Heap} {L : Addr} {s : Shared} {m : Str → Option Value}
    (B : Below A₀ base outer g) (GG : G w mg mb loose ad g) (hd : dp + 9 < recursionLimit) (hu : un + 9 < cLine) (KX : Frag.In [] g) (hk : 0 ≤ k ∧ k < 64) (hq : 0 ≤ q) (hT : T.length ≤ 2) (hW : W'.length ≤ 6) (IN : IntsAre nv (173 :: 847 :: 6150 :: 6155 :: 6156 :: 6157 :: 8203 :: 8204 :: 8205 :: 8288 :: 65279 :: rangeInts 65024 1 ((65040 : Int) - 65024).toNat)) (hO : (O, W.listOf (List.toArray refs) c) ∈ led) (hR : OthAt led refs) (hNT : (NT, W.listOf (List.toArray nv) kn) ∈ led)
    (F1 : Fr g L s.heap (over [("n", .int q tq), ("which", .int k tk0), ("typed", .str T tt), ("word", .str W' tw), ("others", .ref O), ("nothing", .ref NT)] m)) (N1 : News g L s.heap led) :
    wpAny (model prog w) (ktrTop dp un gd (fname 26) (fscope 26) L (ad (fname 26)) cd [] outer) (exec st (envX (fname 26) (fscope 26) L (ad (fname 26)) cd [])) (IfP g L s O NT q tq (T ++ tpc k q) (W' ++ wpc k) led) (fun _ _ => False) s := by
  subst hst
  have go := GoW.mk
  conv in ifW => dsimp only [ifW, whB, st26, fbody, stm, prog, PySem.Challenge.pw_il0214_01, List.getElem?_cons_succ, List.getElem?_cons_zero, Option.getD_some]
  by_cases h48 : k < 48
  · have hk2 : 0 ≤ k.fmod 4 ∧ k.fmod 4 < 4 := ⟨Int.fmod_nonneg_of_pos _ (by decide), Int.fmod_lt_of_pos _ (by decide)⟩
    have hx : Txt.item (Str.ofString "fist") (k.fmod 4) = ⟨#[fistc (k.fmod 4).toNat]⟩ := by
      have := fist_item (k.fmod 4).toNat (by omega)
      rwa [Int.toNat_of_nonneg hk2.1] at this
    have hk3 : Int.fdiv k 4 = k / 4 := Int.fdiv_eq_ediv_of_nonneg _ (by decide)
    have e1 : tpc k q = ⟨#[ltr (fistc (k.fmod 4).toNat) (k.fdiv 4)]⟩ := by rw [tpc, if_pos h48]
    have e2 : wpc k = ⟨#[fistc (k.fmod 4).toNat]⟩ := by rw [wpc, if_pos h48]
    rw [e1, e2]
    clear e1 e2 hO hR hNT IN
    refine @gq _ _ _ _ _ _ _ fun Q' hQ' => ?_
    k_steps
    · rename Fr _ _ _ _ => FX
      rename News _ _ _ _ => NX
      refine hQ' _ _ ?_
      rw [← hx]
      exact .mk _ _ _ _ _ FX (.cons (by repeat (first | exact if_pos rfl | refine (if_neg (by decide +kernel)).trans ?_ | with_unfolding_all rfl)) (.cons (by repeat (first | exact if_pos rfl | refine (if_neg (by decide +kernel)).trans ?_ | with_unfolding_all rfl)) (.cons (by repeat (first | exact if_pos rfl | refine (if_neg (by decide +kernel)).trans ?_ | with_unfolding_all rfl)) (.cons (by repeat (first | exact if_pos rfl | refine (if_neg (by decide +kernel)).trans ?_ | with_unfolding_all rfl)) (.cons (by repeat (first | exact if_pos rfl | refine (if_neg (by decide +kernel)).trans ?_ | with_unfolding_all rfl)) .nil))))) NX
    all_goals (exfalso; omega)
  · by_cases h56 : k < 56
    · obtain ⟨j, hj, rfl⟩ : ∃ j : Nat, j < 8 ∧ k = 48 + (j : Int) := ⟨(k - 48).toNat, by omega, by omega⟩
      obtain ⟨qa, ta, ua, ca, hv, hm⟩ := hR j hj
      have e1 : tpc (48 + (j : Int)) q = ⟨#[(othC.getD j 0).toNat]⟩ := by rw [tpc, if_neg h48, if_pos h56, show (48 + (j : Int) - 48).toNat = j by omega]
      have e2 : wpc (48 + (j : Int)) = othW.getD j ⟨#[]⟩ := by rw [wpc, if_neg h48, if_pos h56, show (48 + (j : Int) - 48).toNat = j by omega]
      have ha := (by decide +kernel : ∀ j : Fin 8, 0 ≤ othC.getD j 0 ∧ othC.getD j 0 ≤ 65279) ⟨j, hj⟩
      have hw := (by decide +kernel : ∀ j : Fin 8, (othW.getD j ⟨#[]⟩).length ≤ 3) ⟨j, hj⟩
      simp only at ha hw
      rw [e1, e2]
      generalize othC.getD j 0 = oc at *
      generalize othW.getD j ⟨#[]⟩ = ow at *
      clear e1 e2 hR hNT IN
      refine @gq _ _ _ _ _ _ _ fun Q' hQ' => ?_
      k_steps
      all_goals first
        | (exfalso; omega)
        | (rename Fr _ _ _ _ => FX
           rename News _ _ _ _ => NX
           exact hQ' _ _ (.mk _ _ _ _ _ FX (.cons (by repeat (first | exact if_pos rfl | refine (if_neg (by decide +kernel)).trans ?_ | with_unfolding_all rfl)) (.cons (by repeat (first | exact if_pos rfl | refine (if_neg (by decide +kernel)).trans ?_ | with_unfolding_all rfl)) (.cons (by repeat (first | exact if_pos rfl | refine (if_neg (by decide +kernel)).trans ?_ | with_unfolding_all rfl)) (.cons (by repeat (first | exact if_pos rfl | refine (if_neg (by decide +kernel)).trans ?_ | with_unfolding_all rfl)) (.cons (by repeat (first | exact if_pos rfl | refine (if_neg (by decide +kernel)).trans ?_ | with_unfolding_all rfl)) .nil))))) NX))
    · have hA := noth_bd ((k + 8 * q).fmod 27).toNat
      have e1 : tpc k q = ⟨#[(noth.getD ((k + 8 * q).fmod 27).toNat 0).toNat]⟩ := by rw [tpc, if_neg h48, if_neg h56]
      have e2 : W' ++ wpc k = W' := by rw [wpc, if_neg h48, if_neg h56, str_append_nil]
      rw [e1, e2]
      clear e1 e2 hR hO
      unfold noth at hA ⊢
      replace N1 := news_2 N1 hNT
      refine @gq _ _ _ _ _ _ _ fun Q' hQ' => ?_
      k_steps
      all_goals first
        | (exfalso; omega)
        | (rename Fr _ _ _ _ => FX
           rename News _ _ _ _ => NX
           exact hQ' _ _ (.mk _ _ _ _ _ FX (.cons (by repeat (first | exact if_pos rfl | refine (if_neg (by decide +kernel)).trans ?_ | with_unfolding_all rfl)) (.cons (by repeat (first | exact if_pos rfl | refine (if_neg (by decide +kernel)).trans ?_ | with_unfolding_all rfl)) (.cons (by repeat (first | exact if_pos rfl | refine (if_neg (by decide +kernel)).trans ?_ | with_unfolding_all rfl)) (.cons (by repeat (first | exact if_pos rfl | refine (if_neg (by decide +kernel)).trans ?_ | with_unfolding_all rfl)) (.cons (by repeat (first | exact if_pos rfl | refine (if_neg (by decide +kernel)).trans ?_ | with_unfolding_all rfl)) .nil))))) (fun p hp => NX p (.tail _ hp))))
theorem fr_over {h₀ h : Heap} {L : Addr} {m : Str → Option Value} {V : List (Str × Value)} (F : Fr h₀ L h m) (v : AgreeV m V) : Fr h₀ L h (over V m) := by rw [over_eq v]; exact F
theorem word_rest {sts : List Stmt} (hst : sts = (fbody 26).drop 2) (n : Nat) (t : Tok) (hn : n < 4096) {O NT : Addr} {nv refs : List Value} {kn c : Nat} {led : Led} {dp un : Nat} {gd : Option (List Code)} {cd : Value} {outer : List Env} {A₀ : Around} {base g : Heap} {L : Addr} {s : Shared} {m : Str → Option Value} {Q : Flow → Shared → Prop}
    (B : Below A₀ base outer g) (GG : G w mg mb loose ad g) (hd : dp + 9 < recursionLimit) (hu : un + 9 < cLine) (KX : Frag.In [] g) (IN : IntsAre nv (173 :: 847 :: 6150 :: 6155 :: 6156 :: 6157 :: 8203 :: 8204 :: 8205 :: 8288 :: 65279 :: rangeInts 65024 1 ((65040 : Int) - 65024).toNat)) (hO : (O, W.listOf (List.toArray refs) c) ∈ led) (hR : OthAt led refs) (hNT : (NT, W.listOf (List.toArray nv) kn) ∈ led) (hsub : ∀ p ∈ news, p ∈ led)
    (F1 : Fr g L s.heap (over [("nothing", .ref NT), ("others", .ref O), ("n", .int n t)] m)) (N1 : News g L s.heap led)
    (ret : ∀ v tl h' tk' m', Fr g L h' m' → News g L h' (tl ++ news) → (∀ q ∈ news, ∀ p ∈ tl, q.1 < p.1) → (∃ p t1 t2 c, v = .ref p ∧ tl = [(p, W.listOf #[.str (wtN n) t1, .str (wwN n) t2] c)]) → Q (.ret v) { s with heap := h', toks := tk' }) :
    wpAny (model prog w) (ktrTop dp un gd (fname 26) (fscope 26) L (ad (fname 26)) cd [] outer) (execs sts (envX (fname 26) (fscope 26) L (ad (fname 26)) cd [])) Q (fun _ _ => False) s := by
  subst hst
  conv in (fbody 26).drop 2 => dsimp only [fbody, stm, prog, PySem.Challenge.pw_il0214_01, List.getElem?_cons_succ, List.getElem?_cons_zero, Option.getD_some, List.drop_succ_cons, List.drop_zero]
  have h0 := WS.Inv.start n hn
  generalize wtN n = FT at *
  generalize wwN n = FW at *
  k_steps
  refine ⟨?_⟩
  refine While_k (α := WS) (fun a => [("n", .int a.n a.t1), ("typed", .str a.T a.t2), ("word", .str a.W a.t3)]) [("others", .ref O), ("nothing", .ref NT)] (WS.Inv FT FW) (fun a => a.n.toNat) ⟨n, "", "", t, _, _⟩ (by k_asm) (by k_asm) (h0 _ _ _) (.cons (by repeat (first | exact if_pos rfl | refine (if_neg (by decide +kernel)).trans ?_ | with_unfolding_all rfl)) (.cons (by repeat (first | exact if_pos rfl | refine (if_neg (by decide +kernel)).trans ?_ | with_unfolding_all rfl)) (.cons (by repeat (first | exact if_pos rfl | refine (if_neg (by decide +kernel)).trans ?_ | with_unfolding_all rfl)) (.cons (by repeat (first | exact if_pos rfl | refine (if_neg (by decide +kernel)).trans ?_ | with_unfolding_all rfl)) (.cons (by repeat (first | exact if_pos rfl | refine (if_neg (by decide +kernel)).trans ?_ | with_unfolding_all rfl)) .nil))))) ?_
  intro a m1 h1 tk1 Q' hQ' hI F' N'
  have hl := hI.len
  have hn0 := hI.1
  have hk : 0 ≤ Int.fmod a.n 64 ∧ Int.fmod a.n 64 < 64 := ⟨Int.fmod_nonneg_of_pos _ (by decide), Int.fmod_lt_of_pos _ (by decide)⟩
  k_steps
  · refine ⟨?_⟩
    rename Fr _ _ _ _ => FX
    rename News _ _ _ _ => NX
    have hq0 : 0 ≤ Int.fdiv a.n 64 := Int.fdiv_nonneg hn0 (by decide)
    have FY := fr_over FX (V := [("n", .int (Int.fdiv a.n 64) _), ("which", .int (Int.fmod a.n 64) _), ("typed", .str a.T a.t2), ("word", .str a.W a.t3), ("others", .ref O), ("nothing", .ref NT)]) (.cons (by repeat (first | exact if_pos rfl | refine (if_neg (by decide +kernel)).trans ?_ | with_unfolding_all rfl)) (.cons (by repeat (first | exact if_pos rfl | refine (if_neg (by decide +kernel)).trans ?_ | with_unfolding_all rfl)) (.cons (by repeat (first | exact if_pos rfl | refine (if_neg (by decide +kernel)).trans ?_ | with_unfolding_all rfl)) (.cons (by repeat (first | exact if_pos rfl | refine (if_neg (by decide +kernel)).trans ?_ | with_unfolding_all rfl)) (.cons (by repeat (first | exact if_pos rfl | refine (if_neg (by decide +kernel)).trans ?_ | with_unfolding_all rfl)) (.cons (by repeat (first | exact if_pos rfl | refine (if_neg (by decide +kernel)).trans ?_ | with_unfolding_all rfl)) .nil))))))
    clear FX
    refine wpAny_mono (word_if (by kernel_rfl) B GG hd hu KX hk hq0 (by omega) (by omega) IN hO hR hNT FY NX) (fun f s2 hq => ?_) fun _ _ h => h
    obtain ⟨h2, tk2, m2, t1', t2', F3, V3, N3⟩ := hq
    rw [← over_eq V3] at F3
    clear FY NX V3
    dsimp only
    k_steps
    refine hQ' _ _ ?_
    refine ⟨rfl, _, _, _, _, ⟨a.n.fdiv 64, _, _, _, _, _⟩, rfl, by k_asm, by k_asm, fun _ h => h, ?_, (hI.step (by assumption) rfl rfl a.t1 a.t1 a.t1).2, .cons (by repeat (first | exact if_pos rfl | refine (if_neg (by decide +kernel)).trans ?_ | with_unfolding_all rfl)) (.cons (by repeat (first | exact if_pos rfl | refine (if_neg (by decide +kernel)).trans ?_ | with_unfolding_all rfl)) (.cons (by repeat (first | exact if_pos rfl | refine (if_neg (by decide +kernel)).trans ?_ | with_unfolding_all rfl)) (.cons (by repeat (first | exact if_pos rfl | refine (if_neg (by decide +kernel)).trans ?_ | with_unfolding_all rfl)) (.cons (by repeat (first | exact if_pos rfl | refine (if_neg (by decide +kernel)).trans ?_ | with_unfolding_all rfl)) .nil))))⟩; exact (hI.step (by assumption) rfl rfl _ _ _).1
  · obtain ⟨e1, e2⟩ := hI.done (by assumption)
    subst e1; subst e2
    rename Fr _ _ _ _ => FX
    rename News _ _ _ _ => NX
    refine ret _ [_] _ _ _ FX (cb_drop NX (List.forall_mem_cons.mpr ⟨.head _, fun p hp => .tail _ (hsub p hp)⟩)) (fun q hq p hp => ?_) ⟨_, _, _, _, rfl, rfl⟩
    rw [List.mem_singleton.mp hp]
    exact (fun {d : Addr} (h : ∀ p ∈ led, p.1 < d) => h q (hsub q hq)) (by assumption)
theorem word_body (n : Nat) (t : Tok) (hn : n < 4096) : Body w mg mb loose ad 26 9 9 [.int n t] news (fun v tl => ∃ p t1 t2 c, v = .ref p ∧ tl = [(p, W.listOf #[.str (wtN n) t1, .str (wwN n) t2] c)]) := by
  refine ⟨?_⟩
  intro dp un gd cd outer A₀ base g L s Q B F GG N lt hd hu ret
  have KX := noIn g
  change Fr g L s.heap (fun y : Str => List.lookup y [("n", Value.int n t)]) at F
  have V0 : AgreeV (fun y : Str => List.lookup y [("n", Value.int n t)]) [("n", .int n t)] := .cons (by repeat (first | exact if_pos rfl | refine (if_neg (by decide +kernel)).trans ?_ | with_unfolding_all rfl)) .nil
  rw [← over_eq V0] at F
  clear V0
  generalize (fun y : Str => List.lookup y [("n", Value.int n t)]) = m0 at F
  rw [body26_eq]
  have X := @word_st0 w mg mb loose ad news (st26 0) rfl n t dp un gd cd outer A₀ base g L s m0 B GG hd hu KX F N
  refine wpAny_execs_cons ?_
  refine @wpAny_mono _ _ _ _ _ _ _ _ _ (by assumption) (fun f s2 hq => ?_) (fun _ _ h => h)
  clear X
  obtain ⟨h1, tk1, m1, O, refs, c, led, F2, V2, N2, hsub, hO, hR⟩ := hq
  rw [← over_eq V2] at F2
  clear V2
  dsimp only
  have X := @word_st1 w mg mb loose ad _ (st26 1) rfl O n t dp un gd cd outer A₀ base g L { s with heap := h1, toks := tk1 } _ B GG hd hu KX F2 N2
  refine wpAny_execs_cons ?_
  refine @wpAny_mono _ _ _ _ _ _ _ _ _ (by assumption) (fun f s2 hq => ?_) (fun _ _ h => h)
  clear X
  obtain ⟨h3, tk3, m3, NT, nv, kn, F3, V3, N3, IN⟩ := hq
  rw [← over_eq V3] at F3
  clear V3
  dsimp only
  exact word_rest rfl n t hn B GG hd hu KX IN (.tail _ hO) (hR.mono fun p hp => .tail _ hp) (.head _) (fun p hp => .tail _ (hsub p hp)) F3 N3 ret
theorem word_says (n : Nat) (t : Tok) (hn : n < 4096) : Says w mg mb loose ad "_law_word" 10 12 [.int n t] news (fun v tl => ∃ p t1 t2 c, v = .ref p ∧ tl = [(p, W.listOf #[.str (wtN n) t1, .str (wwN n) t2] c)]) :=
  says_of_body (i := 26) rfl rfl (fun _ _ _ => BindsTo.of_eq rfl) (locs rfl) (by decide +kernel) (by kernel_rfl) (by kernel_rfl) (by kernel_rfl) (word_body n t hn)
end
theorem fl_1 {M : Model} {A : Around} {E : Value → Shared → Prop} {s : Shared} {Q : Bool → Shared → Prop} {v : Value} (h : wpAny M A (truthy v) Q E s) : wpAny M A (truthy v) Q E s := by
  first
    | (walk1; done)
    | exact h
noncomputable def figs : Int → List Int → List Int
  | _, [] => []
  | n, s :: r => n.fmod s :: figs (n.fdiv s) r
noncomputable def sizeL : List Int := [4, 4096, 5, 4096, 4, 4096, 8, 195]
structure FS where
  n : Int
  t : Tok
  vs : List Value
  fs : List Int
  c : Nat
noncomputable def FS.Inv (n : Int) (i : Nat) (a : FS) : Prop := a.fs ++ figs a.n (sizeL.drop i) = figs n sizeL ∧ IntsAre a.vs a.fs
theorem figs_length (n : Int) (l : List Int) : (figs n l).length = l.length := by
  induction l generalizing n with
  | nil => rfl
  | cons s r ih => simp only [figs, List.length_cons, ih]
theorem FS.Inv.size {n : Int} {i : Nat} {a : FS} (h : FS.Inv n i a) : a.vs.toArray.size ≤ 8 := by
  have e := congrArg List.length h.1
  rw [List.length_append, figs_length n] at e
  have e2 : sizeL.length = 8 := rfl
  have e3 := h.2.length
  have e4 : a.vs.toArray.size = a.vs.length := List.size_toArray
  omega
theorem sizeL_pos {i : Nat} {z : Int} (hz : sizeL[i]? = some z) : 0 < z ∧ z.natAbs.log2 < 9000 := (by decide +kernel : ∀ z ∈ sizeL, 0 < z ∧ z.natAbs.log2 < 9000) z (List.mem_of_getElem? hz)
theorem FS.Inv.step {n : Int} {i : Nat} {a : FS} {z : Int} (h : FS.Inv n i a) (hz : sizeL[i]? = some z) (t t' : Tok) (c : Nat) : FS.Inv n (i + 1) ⟨a.n.fdiv z, t, a.vs ++ [.int (a.n.fmod z) t'], a.fs ++ [a.n.fmod z], c⟩ := by
  refine ⟨?_, h.2.append (.cons _ _ .nil)⟩
  have e : sizeL.drop i = z :: sizeL.drop (i + 1) := by
    obtain ⟨hi, hz'⟩ := List.getElem?_eq_some_iff.mp hz
    rw [List.drop_eq_getElem_cons hi, hz']
  rw [← h.1, e]
  simp only [figs, List.append_assoc, List.singleton_append]
section
variable {w : World} {mg mb : Str → Option Value} {loose : List Str} {ad : Str → Addr} {news : Led}
local macro_rules | `(tactic| walk_at $s) => ml s "
 binaryOp FloorDiv int int => R floordiv_int ?a ?_ ( Or.inl ( PyProof.noPylong_of_log2 ?b ) ); c a lia b assumption"
theorem fig_body (n : Int) (t : Tok) : Body w mg mb loose ad 28 9 9 [.int n t] news (fun v tl => ∃ p vs c, v = .ref p ∧ tl = [(p, W.listOf vs.toArray c)] ∧ IntsAre vs (figs n sizeL)) := by
  refine ⟨?_⟩
  intro dp un gd cd outer A₀ base g L s Q B F GG N lt hd hu ret
  have KX := noIn g
  conv in fbody _ => dsimp only [fbody, stm, prog, PySem.Challenge.pw_il0214_01, List.getElem?_cons_succ, List.getElem?_cons_zero, Option.getD_some]
  dsimp only [fargs, stm, prog, PySem.Challenge.pw_il0214_01, List.getElem?_cons_succ, List.getElem?_cons_zero, Option.getD_some, List.map, List.zip, List.zipWith, List.reverse, List.reverseAux] at F
  k_steps
  refine' iter_k (α := FS) (fun _ a => [("n", .int a.n a.t)]) [("figures", .ref ?D)] [?D] (fun _ a => [W.listOf a.vs.toArray a.c]) ((_, W.listOf ?its ?c) :: news) (FS.Inv n) ⟨n, _, [], [], 0⟩ rfl ?F ?N (.head _) (fun _ _ _ o h => by rw [List.mem_singleton.mp h]; exact listOf_off _ _)
    (List.forall_mem_cons.mpr ⟨.inr (listOf_off _ _), fun p hp => .inl (lt p hp)⟩) ?hn ⟨rfl, .nil⟩ ?hV ?turn ?done
  case F => k_asm
  case N => k_asm
  case hV => exact (.cons (by repeat (first | exact if_pos rfl | refine (if_neg (by decide +kernel)).trans ?_ | with_unfolding_all rfl)) (.cons (by repeat (first | exact if_pos rfl | refine (if_neg (by decide +kernel)).trans ?_ | with_unfolding_all rfl)) .nil))
  case hn => exact List.forall_mem_cons.mpr ⟨by k_mem, List.forall_mem_cons.mpr ⟨by k_mem, by show ∀ p ∈ news, _; kcj_all⟩⟩
  case turn =>
    intro i a v I io m1 h1 tk1 hi hI hv hio hlt F' N'
    obtain ⟨z, tz, rfl, hz⟩ : ∃ z tz, v = .int z tz ∧ sizeL[i]? = some z := by
      refine IntsAre.get (vs := _) (ns := sizeL) ?_ (i := i) (v := v) (by rw [← Array.getElem?_toList] at hv; exact hv)
      exact .cons _ _ (.cons _ _ (.cons _ _ (.cons _ _ (.cons _ _ (.cons _ _ (.cons _ _ (.cons _ _ .nil)))))))
    have hsz := hI.size
    have hz0 := sizeL_pos hz
    obtain ⟨hz1, hz2⟩ := hz0
    dsimp only [List.zip, List.zipWith, List.cons_append, List.nil_append] at N'
    k_lt hlt
    k_steps
    rename News _ _ _ _ => N'
    simp only [List.push_toArray] at N'
    refine ⟨_, _, _, _, ⟨_, _, _, _, a.c + 1⟩, rfl, by k_asm, by k_asm, by k_mem, List.forall_mem_cons.mpr ⟨by k_mem, List.forall_mem_cons.mpr ⟨by k_mem, by show ∀ p ∈ news, _; kcj_all⟩⟩, hI.step hz _ tk1 _, .cons (by repeat (first | exact if_pos rfl | refine (if_neg (by decide +kernel)).trans ?_ | with_unfolding_all rfl)) (.cons (by repeat (first | exact if_pos rfl | refine (if_neg (by decide +kernel)).trans ?_ | with_unfolding_all rfl)) .nil)⟩
  case done =>
    intro a m1 h1 tk1 hI F' N'
    dsimp only [List.zip, List.zipWith, List.cons_append, List.nil_append] at N'
    k_steps
    (try dsimp only); refine ret _ [_] _ _ _ (by k_asm) (cb_drop (by assumption) (List.forall_mem_cons.mpr ⟨by k_mem, by show ∀ p ∈ news, _; (first | (intro p hp; (repeat (first | exact hp | apply List.mem_cons_of_mem)); done) | kcj_all)⟩)) (by show ∀ q ∈ news, _; intro q hq p hp; obtain rfl := List.mem_singleton.mp hp; exact ord_of (by assumption) hq (by (try dsimp only); omega)) ?_
    refine ⟨_, _, _, rfl, rfl, ?_⟩
    have h := hI.1
    have h2 := hI.2
    simp only [List.size_toArray, List.length_cons, List.length_nil] at h h2
    have e : sizeL.drop 8 = [] := rfl
    rw [show (0 + 1 + 1 + 1 + 1 + 1 + 1 + 1 + 1) = 8 from rfl, e, figs, List.append_nil] at h
    rw [← h]; exact h2
theorem fig_says (n : Int) (t : Tok) : Says w mg mb loose ad "_law_figures" 10 12 [.int n t] news (fun v tl => ∃ p vs c, v = .ref p ∧ tl = [(p, W.listOf vs.toArray c)] ∧ IntsAre vs (figs n sizeL)) :=
  says_of_body (i := 28) rfl rfl (fun _ _ _ => BindsTo.of_eq rfl) (locs rfl) (by decide +kernel) (by kernel_rfl) (by kernel_rfl) (by kernel_rfl) (fig_body n t)
end
theorem fl_2 {M : Model} {A : Around} {E : Value → Shared → Prop} {s : Shared} {Q : Bool → Shared → Prop} {v : Value} (h : wpAny M A (truthy v) Q E s) : wpAny M A (truthy v) Q E s := by
  first
    | (walk1; done)
    | exact h
noncomputable def barT : List (List Int) := [rangeInts 64976 1 ((65008 : Int) - 64976).toNat ++ List.map (fun k' : Int => 65536 * k'.fdiv 2 + 65534 + k'.fmod 2) (rangeKs 0 ((34 : Int) - 0).toNat),
  rangeInts 65529 1 ((65534 : Int) - 65529).toNat, rangeInts 12272 1 ((12284 : Int) - 12272).toNat,
  [832, 833, 8206, 8207] ++ rangeInts 8234 1 ((8239 : Int) - 8234).toNat ++ rangeInts 8298 1 ((8304 : Int) - 8298).toNat,
  [917505] ++ rangeInts 917536 1 ((917632 : Int) - 917536).toNat]
noncomputable def barS (n : Nat) : Nat := ((barT.flatten).getD n 0).toNat
noncomputable def barW (n : Nat) : Int := if n < 66 then 0 else if n < 71 then 1 else if n < 83 then 2 else if n < 98 then 3 else 4
theorem bar_0 (i : Nat) (h : i < 66) : (0 ≤ ((rangeInts 64976 1 ((65008 : Int) - 64976).toNat ++ List.map (fun k' : Int => 65536 * k'.fdiv 2 + 65534 + k'.fmod 2) (rangeKs 0 ((34 : Int) - 0).toNat)) : List Int).getD i 0 ∧ ((rangeInts 64976 1 ((65008 : Int) - 64976).toNat ++ List.map (fun k' : Int => 65536 * k'.fdiv 2 + 65534 + k'.fmod 2) (rangeKs 0 ((34 : Int) - 0).toNat)) : List Int).getD i 0 ≤ 1114111) ∧ barS (i + 0) = (((rangeInts 64976 1 ((65008 : Int) - 64976).toNat ++ List.map (fun k' : Int => 65536 * k'.fdiv 2 + 65534 + k'.fmod 2) (rangeKs 0 ((34 : Int) - 0).toNat)) : List Int).getD i 0).toNat ∧ barW (i + 0) = 0 := (by decide +kernel : ∀ i : Fin 66, (0 ≤ ((rangeInts 64976 1 ((65008 : Int) - 64976).toNat ++ List.map (fun k' : Int => 65536 * k'.fdiv 2 + 65534 + k'.fmod 2) (rangeKs 0 ((34 : Int) - 0).toNat)) : List Int).getD i 0 ∧ ((rangeInts 64976 1 ((65008 : Int) - 64976).toNat ++ List.map (fun k' : Int => 65536 * k'.fdiv 2 + 65534 + k'.fmod 2) (rangeKs 0 ((34 : Int) - 0).toNat)) : List Int).getD i 0 ≤ 1114111) ∧ barS (i + 0) = (((rangeInts 64976 1 ((65008 : Int) - 64976).toNat ++ List.map (fun k' : Int => 65536 * k'.fdiv 2 + 65534 + k'.fmod 2) (rangeKs 0 ((34 : Int) - 0).toNat)) : List Int).getD i 0).toNat ∧ barW (i + 0) = 0) ⟨i, h⟩
theorem bar_1 (i : Nat) (h : i < 5) : (0 ≤ ((rangeInts 65529 1 ((65534 : Int) - 65529).toNat) : List Int).getD i 0 ∧ ((rangeInts 65529 1 ((65534 : Int) - 65529).toNat) : List Int).getD i 0 ≤ 1114111) ∧ barS (i + 66) = (((rangeInts 65529 1 ((65534 : Int) - 65529).toNat) : List Int).getD i 0).toNat ∧ barW (i + 66) = 1 := (by decide +kernel : ∀ i : Fin 5, (0 ≤ ((rangeInts 65529 1 ((65534 : Int) - 65529).toNat) : List Int).getD i 0 ∧ ((rangeInts 65529 1 ((65534 : Int) - 65529).toNat) : List Int).getD i 0 ≤ 1114111) ∧ barS (i + 66) = (((rangeInts 65529 1 ((65534 : Int) - 65529).toNat) : List Int).getD i 0).toNat ∧ barW (i + 66) = 1) ⟨i, h⟩
theorem bar_2 (i : Nat) (h : i < 12) : (0 ≤ ((rangeInts 12272 1 ((12284 : Int) - 12272).toNat) : List Int).getD i 0 ∧ ((rangeInts 12272 1 ((12284 : Int) - 12272).toNat) : List Int).getD i 0 ≤ 1114111) ∧ barS (i + 71) = (((rangeInts 12272 1 ((12284 : Int) - 12272).toNat) : List Int).getD i 0).toNat ∧ barW (i + 71) = 2 := (by decide +kernel : ∀ i : Fin 12, (0 ≤ ((rangeInts 12272 1 ((12284 : Int) - 12272).toNat) : List Int).getD i 0 ∧ ((rangeInts 12272 1 ((12284 : Int) - 12272).toNat) : List Int).getD i 0 ≤ 1114111) ∧ barS (i + 71) = (((rangeInts 12272 1 ((12284 : Int) - 12272).toNat) : List Int).getD i 0).toNat ∧ barW (i + 71) = 2) ⟨i, h⟩
theorem bar_3 (i : Nat) (h : i < 15) : (0 ≤ ((832 :: 833 :: 8206 :: 8207 :: (rangeInts 8234 1 ((8239 : Int) - 8234).toNat ++ rangeInts 8298 1 ((8304 : Int) - 8298).toNat)) : List Int).getD i 0 ∧ ((832 :: 833 :: 8206 :: 8207 :: (rangeInts 8234 1 ((8239 : Int) - 8234).toNat ++ rangeInts 8298 1 ((8304 : Int) - 8298).toNat)) : List Int).getD i 0 ≤ 1114111) ∧ barS (i + 83) = (((832 :: 833 :: 8206 :: 8207 :: (rangeInts 8234 1 ((8239 : Int) - 8234).toNat ++ rangeInts 8298 1 ((8304 : Int) - 8298).toNat)) : List Int).getD i 0).toNat ∧ barW (i + 83) = 3 := (by decide +kernel : ∀ i : Fin 15, (0 ≤ ((832 :: 833 :: 8206 :: 8207 :: (rangeInts 8234 1 ((8239 : Int) - 8234).toNat ++ rangeInts 8298 1 ((8304 : Int) - 8298).toNat)) : List Int).getD i 0 ∧ ((832 :: 833 :: 8206 :: 8207 :: (rangeInts 8234 1 ((8239 : Int) - 8234).toNat ++ rangeInts 8298 1 ((8304 : Int) - 8298).toNat)) : List Int).getD i 0 ≤ 1114111) ∧ barS (i + 83) = (((832 :: 833 :: 8206 :: 8207 :: (rangeInts 8234 1 ((8239 : Int) - 8234).toNat ++ rangeInts 8298 1 ((8304 : Int) - 8298).toNat)) : List Int).getD i 0).toNat ∧ barW (i + 83) = 3) ⟨i, h⟩
theorem bar_4 (i : Nat) (h : i < 97) : (0 ≤ ((917505 :: rangeInts 917536 1 ((917632 : Int) - 917536).toNat) : List Int).getD i 0 ∧ ((917505 :: rangeInts 917536 1 ((917632 : Int) - 917536).toNat) : List Int).getD i 0 ≤ 1114111) ∧ barS (i + 98) = (((917505 :: rangeInts 917536 1 ((917632 : Int) - 917536).toNat) : List Int).getD i 0).toNat ∧ barW (i + 98) = 4 := (by decide +kernel : ∀ i : Fin 97, (0 ≤ ((917505 :: rangeInts 917536 1 ((917632 : Int) - 917536).toNat) : List Int).getD i 0 ∧ ((917505 :: rangeInts 917536 1 ((917632 : Int) - 917536).toNat) : List Int).getD i 0 ≤ 1114111) ∧ barS (i + 98) = (((917505 :: rangeInts 917536 1 ((917632 : Int) - 917536).toNat) : List Int).getD i 0).toNat ∧ barW (i + 98) = 4) ⟨i, h⟩
structure BS where
  n : Int
  k : Int
  t1 : Tok
  t2 : Tok
noncomputable def barZ (j : Nat) : Nat := ([66, 5, 12, 15, 97] : List Nat).getD j 0
noncomputable def barO (j : Nat) : Nat := ([0, 66, 71, 83, 98] : List Nat).getD j 195
theorem bar_z (j : Nat) (h : j < 5) : 0 < barZ j ∧ barZ j ≤ 97 ∧ barO (j + 1) = barO j + barZ j ∧ (j < 4 ∨ barO (j + 1) = 195) :=
  (by decide +kernel : ∀ j : Fin 5, 0 < barZ j ∧ barZ j ≤ 97 ∧ barO (j + 1) = barO j + barZ j ∧ (j.1 < 4 ∨ barO (j + 1) = 195)) ⟨j, h⟩
noncomputable def BS.Inv (n : Nat) (a : BS) : Prop := 0 ≤ a.n ∧ ∃ j : Nat, j < 5 ∧ a.k = (j : Int) ∧ a.n + (barO j : Int) = n
noncomputable def st27 (i : Nat) : Stmt := ((fbody 27)[i]?).getD (.Pass ⟨0, 0, 0, 0⟩)
theorem body27_eq : fbody 27 = st27 0 :: (fbody 27).drop 1 := by kernel_rfl
structure TabOk (l : List Int) (j : Nat) : Prop where
  len : l.length = barZ j
  bd : ∀ i, 0 ≤ l.getD i 0 ∧ l.getD i 0 ≤ 1114111
  at_ : ∀ i, i < barZ j → barS (i + barO j) = (l.getD i 0).toNat ∧ barW (i + barO j) = (j : Int)
theorem tabOk_of {l : List Int} {j : Nat} (h1 : l.length = barZ j) (h2 : ∀ i, i < barZ j → (0 ≤ l.getD i 0 ∧ l.getD i 0 ≤ 1114111) ∧ barS (i + barO j) = (l.getD i 0).toNat ∧ barW (i + barO j) = (j : Int)) : TabOk l j :=
  ⟨h1, fun i => by
    by_cases h : i < barZ j
    · exact (h2 i h).1
    · rw [List.getD_eq_getElem?_getD, List.getElem?_eq_none (by omega)]; decide, fun i h => (h2 i h).2⟩
noncomputable def TabsAt (led : Led) (refs : List Value) : Prop := ∀ j, j < 5 → ∃ D v k L, refs[j]? = some (.ref D) ∧ (D, W.listOf (List.toArray v) k) ∈ led ∧ IntsAre v L ∧ TabOk L j
theorem tabs_of {led : Led} {D0 D1 D2 D3 D4 : Addr} {v0 v1 v2 v3 v4 : List Value} {k0 k1 k2 k3 k4 : Nat} {L0 L1 L2 L3 L4 : List Int} (T0 : TabOk L0 0) (T1 : TabOk L1 1) (T2 : TabOk L2 2) (T3 : TabOk L3 3) (T4 : TabOk L4 4)
    (I0 : IntsAre v0 L0) (I1 : IntsAre v1 L1) (I2 : IntsAre v2 L2) (I3 : IntsAre v3 L3) (I4 : IntsAre v4 L4) (h0 : (D0, W.listOf (List.toArray v0) k0) ∈ led) (h1 : (D1, W.listOf (List.toArray v1) k1) ∈ led) (h2 : (D2, W.listOf (List.toArray v2) k2) ∈ led) (h3 : (D3, W.listOf (List.toArray v3) k3) ∈ led) (h4 : (D4, W.listOf (List.toArray v4) k4) ∈ led) :
    TabsAt led [.ref D0, .ref D1, .ref D2, .ref D3, .ref D4] := by
  intro j hj
  match j, hj with
  | 0, _ => exact ⟨_, _, _, _, rfl, h0, I0, T0⟩
  | 1, _ => exact ⟨_, _, _, _, rfl, h1, I1, T1⟩
  | 2, _ => exact ⟨_, _, _, _, rfl, h2, I2, T2⟩
  | 3, _ => exact ⟨_, _, _, _, rfl, h3, I3, T3⟩
  | 4, _ => exact ⟨_, _, _, _, rfl, h4, I4, T4⟩
  | n + 5, h => exact absurd h (by omega)
section
variable {w : World} {mg mb : Str → Option Value} {loose : List Str} {ad : Str → Addr} {news : Led}
inductive BarT (g : Heap) (L : Addr) (s₁ : Shared) (n : Int) (t : Tok) (news : Led) : Flow → Shared → Prop
  | mk (h' : Heap) (tk : Nat) (m' : Str → Option Value) (T : Addr) (refs : List Value) (c : Nat) (led : Led) (hF : Fr g L h' m') (hV : AgreeV m' [("tables", .ref T), ("n", .int n t)]) (hN : News g L h' led) (hsub : ∀ p ∈ news, p ∈ led) (hT : (T, W.listOf (List.toArray refs) c) ∈ led) (hR : TabsAt led refs) : BarT g L s₁ n t news .next { s₁ with heap := h', toks := tk }
theorem bar_tabs {st : Stmt} (hst : st = st27 0) {n : Int} {t : Tok} {dp un : Nat} {gd : Option (List Code)} {cd : Value} {outer : List Env} {A₀ : Around} {base g : Heap} {L : Addr} {s : Shared} {m : Str → Option Value}
    (B : Below A₀ base outer g) (GG : G w mg mb loose ad g) (hd : dp + 9 < recursionLimit) (hu : un + 9 < cLine) (KX : Frag.In [] g)
    (F1 : Fr g L s.heap (over [("n", .int n t)] m)) (N1 : News g L s.heap news) :
    wpAny (model prog w) (ktrTop dp un gd (fname 27) (fscope 27) L (ad (fname 27)) cd [] outer) (exec st (envX (fname 27) (fscope 27) L (ad (fname 27)) cd [])) (BarT g L s n t news) (fun _ _ => False) s := by
  subst hst
  conv in st27 0 => dsimp only [st27, fbody, stm, prog, PySem.Challenge.pw_il0214_01, List.getElem?_cons_succ, List.getElem?_cons_zero, Option.getD_some]
  refine @gq _ _ _ _ _ _ _ fun Q' hQ' => ?_
  k_steps
  rename Fr _ _ _ _ => FX
  rename News _ _ _ _ => NX
  refine hQ' _ _ ?_; exact .mk _ _ _ _ [_, _, _, _, _] _ _ FX (.cons (by repeat (first | exact if_pos rfl | refine (if_neg (by decide +kernel)).trans ?_ | with_unfolding_all rfl)) (.cons (by repeat (first | exact if_pos rfl | refine (if_neg (by decide +kernel)).trans ?_ | with_unfolding_all rfl)) .nil)) NX (by first | (intro p hp; (repeat (first | exact hp | apply List.mem_cons_of_mem)); done) | kcj_all) (by k_mem)
    (tabs_of (tabOk_of (by decide +kernel) bar_0) (tabOk_of (by decide +kernel) bar_1) (tabOk_of (by decide +kernel) bar_2) (tabOk_of (by decide +kernel) bar_3) (tabOk_of (by decide +kernel) bar_4)
      (by assumption) (by assumption) (by assumption) (by assumption) (by assumption) (by k_mem) (by k_mem) (by k_mem) (by k_mem) (by k_mem))
local macro_rules | `(tactic| walk_at $s) => ml s "
 exec While Compare cons nil => r Stop.out @p=_ ?_
 subscriptTail Name Name ref int => R item_valE ?N ?m ?v ?x ?j ?_ ?s; c N k_asm m hyp v hyp x rfl j lia s wu
 call builtin:len => R ilen_ints ?N ?m ?I ?n ?z ?_; c N k_asm m k_mem I assumption n assumption z lia"
theorem bar_rest {sts : List Stmt} (hst : sts = (fbody 27).drop 1) (n : Nat) (t : Tok) (hn : n < 195) {T : Addr} {refs : List Value} {c : Nat} {led : Led} {dp un : Nat} {gd : Option (List Code)} {cd : Value} {outer : List Env} {A₀ : Around} {base g : Heap} {L : Addr} {s : Shared} {m : Str → Option Value} {Q : Flow → Shared → Prop}
    (B : Below A₀ base outer g) (GG : G w mg mb loose ad g) (hd : dp + 9 < recursionLimit) (hu : un + 9 < cLine) (KX : Frag.In [] g) (hsub : ∀ p ∈ news, p ∈ led) (hT : (T, W.listOf (List.toArray refs) c) ∈ led) (hR : TabsAt led refs)
    (F1 : Fr g L s.heap (over [("tables", .ref T), ("n", .int n t)] m)) (N1 : News g L s.heap led)
    (ret : ∀ v tl h' tk' m', Fr g L h' m' → News g L h' (tl ++ news) → (∀ q ∈ news, ∀ p ∈ tl, q.1 < p.1) → (∃ p t1 t2 c, v = .ref p ∧ tl = [(p, W.listOf #[.str ⟨#[barS n]⟩ t1, .int (barW n) t2] c)]) → Q (.ret v) { s with heap := h', toks := tk' }) :
    wpAny (model prog w) (ktrTop dp un gd (fname 27) (fscope 27) L (ad (fname 27)) cd [] outer) (execs sts (envX (fname 27) (fscope 27) L (ad (fname 27)) cd [])) Q (fun _ _ => False) s := by
  subst hst
  conv in (fbody 27).drop 1 => dsimp only [fbody, stm, prog, PySem.Challenge.pw_il0214_01, List.getElem?_cons_succ, List.getElem?_cons_zero, Option.getD_some, List.drop_succ_cons, List.drop_zero]
  k_steps
  refine ⟨?_⟩
  refine While_k (α := BS) (fun a => [("n", .int a.n a.t1), ("which", .int a.k a.t2)]) [("tables", .ref T)] (BS.Inv n) (fun a => a.n.toNat) ⟨n, 0, t, _⟩ (by k_asm) (by k_asm) ⟨Int.natCast_nonneg n, 0, by decide, rfl, Int.add_zero _⟩ (.cons (by repeat (first | exact if_pos rfl | refine (if_neg (by decide +kernel)).trans ?_ | with_unfolding_all rfl)) (.cons (by repeat (first | exact if_pos rfl | refine (if_neg (by decide +kernel)).trans ?_ | with_unfolding_all rfl)) (.cons (by repeat (first | exact if_pos rfl | refine (if_neg (by decide +kernel)).trans ?_ | with_unfolding_all rfl)) .nil))) ?_
  intro a m1 h1 tk1 Q' hQ' hI F' N'
  obtain ⟨an, ak, at1, at2⟩ := a
  obtain ⟨h0, j, hj, e, hn1⟩ := hI
  simp only at h0 e hn1
  subst e
  obtain ⟨D, v, k, Lx, hv, hm, hi, hl, hb, hs⟩ := hR j hj
  replace N' := news_2 N' hm
  replace hT := List.mem_cons_of_mem (D, W.listOf (List.toArray v) k) hT
  obtain ⟨z1, z2, z3, z4⟩ := bar_z j hj
  replace hb := hb an.toNat
  replace hs := hs an.toNat
  clear hR
  generalize barZ j = z at *
  k_steps
  · rename Fr _ _ _ _ => FX
    rename News _ _ _ _ => NX
    refine hQ' _ _ ?_
    refine ⟨rfl, _, _, _, _, ⟨_, _, _, _⟩, rfl, FX, fun p hp => NX p (.tail _ hp), fun _ h => h, ⟨by show (0 : Int) ≤ an - z; omega, j + 1, by omega, rfl, by show an - z + (barO (j + 1) : Int) = n; omega⟩, by show (an - z).toNat < an.toNat; omega, .cons (by repeat (first | exact if_pos rfl | refine (if_neg (by decide +kernel)).trans ?_ | with_unfolding_all rfl)) (.cons (by repeat (first | exact if_pos rfl | refine (if_neg (by decide +kernel)).trans ?_ | with_unfolding_all rfl)) (.cons (by repeat (first | exact if_pos rfl | refine (if_neg (by decide +kernel)).trans ?_ | with_unfolding_all rfl)) .nil))⟩
  · obtain ⟨e1, e2⟩ := hs (by omega)
    rw [show an.toNat + barO j = n by omega] at e1 e2
    rw [e1, e2] at ret
    rename Fr _ _ _ _ => FX
    rename News _ _ _ _ => NX
    refine ret _ [_] _ _ _ FX (cb_drop NX (List.forall_mem_cons.mpr ⟨by k_mem, fun p hp => by first | exact .tail _ (.tail _ (hsub p hp)) | exact .tail _ (.tail _ (.tail _ (hsub p hp)))⟩)) (fun q hq p hp => ?_) ⟨_, _, _, _, rfl, rfl⟩
    rw [List.mem_singleton.mp hp]
    exact (fun {d d' : Addr} (h : d < d' ∧ AllLt d' led) => ktn_ltOf h.2 q (hsub q hq)) (by assumption)
theorem bar_body (n : Nat) (t : Tok) (hn : n < 195) : Body w mg mb loose ad 27 9 9 [.int n t] news (fun v tl => ∃ p t1 t2 c, v = .ref p ∧ tl = [(p, W.listOf #[.str ⟨#[barS n]⟩ t1, .int (barW n) t2] c)]) := by
  refine ⟨?_⟩
  intro dp un gd cd outer A₀ base g L s Q B F GG N lt hd hu ret
  have KX := noIn g
  change Fr g L s.heap (fun y : Str => List.lookup y [("n", Value.int n t)]) at F
  have V0 : AgreeV (fun y : Str => List.lookup y [("n", Value.int n t)]) [("n", .int n t)] := .cons (by repeat (first | exact if_pos rfl | refine (if_neg (by decide +kernel)).trans ?_ | with_unfolding_all rfl)) .nil
  rw [← over_eq V0] at F
  clear V0
  generalize (fun y : Str => List.lookup y [("n", Value.int n t)]) = m0 at F
  rw [body27_eq]
  have X := @bar_tabs w mg mb loose ad news (st27 0) rfl n t dp un gd cd outer A₀ base g L s m0 B GG hd hu KX F N
  refine wpAny_execs_cons ?_
  refine @wpAny_mono _ _ _ _ _ _ _ _ _ (by assumption) (fun f s2 hq => ?_) (fun _ _ h => h)
  clear X
  obtain ⟨h1, tk1, m1, T, refs, c, led, F2, V2, N2, hsub, hT, hR⟩ := hq
  rw [← over_eq V2] at F2
  clear V2
  dsimp only
  exact bar_rest rfl n t hn B GG hd hu KX hsub hT hR F2 N2 ret
theorem bar_says (n : Nat) (t : Tok) (hn : n < 195) : Says w mg mb loose ad "_law_barred" 10 12 [.int n t] news (fun v tl => ∃ p t1 t2 c, v = .ref p ∧ tl = [(p, W.listOf #[.str ⟨#[barS n]⟩ t1, .int (barW n) t2] c)]) :=
  says_of_body (i := 27) rfl rfl (fun _ _ _ => BindsTo.of_eq rfl) (locs rfl) (by decide +kernel) (by kernel_rfl) (by kernel_rfl) (by kernel_rfl) (bar_body n t hn)
end
theorem fl_3 {M : Model} {A : Around} {E : Value → Shared → Prop} {s : Shared} {Q : Bool → Shared → Prop} {v : Value} (h : wpAny M A (truthy v) Q E s) : wpAny M A (truthy v) Q E s := by
  first
    | (walk1; done)
    | exact h
/-- None, or a text -/
noncomputable def vo (o : Option Str) (t : Tok) : Value := match o with | none => .none | some x => .str x t
noncomputable def setE (e m : Option Str) : Option Str := match m with
  | none => e
  | some x => if (x == "euro") = true then (match e with | none => some "ISO8859-15" | some y => some y) else e
noncomputable def setM (e m : Option Str) : Option Str := match m with
  | none => none
  | some x => if (x == "euro") = true then (match e with | none => none | some y => if ([Str.ofString "ISO8859-15", Str.ofString "UTF-8"].any fun z => z == y) = true then none else some x) else some x
noncomputable def app (b d : Str) (o : Option Str) : Str := match o with | none => b | some x => b ++ d ++ x
noncomputable def wri (l e m : Option Str) : Str := app (app (l.getD "C") "." e) "@" m
noncomputable def numF (x : Str) : Nat → Int
  | 0 => 0
  | i + 1 => if 0 + (i : Int) < x.length then 27 * numF x i + ((Txt.item x (0 + (i : Int))).cps.getD 0 0 : Nat) - 96 else 27 * numF x i
structure NS where
  n : Int
  t : Tok
section
variable {w : World} {mg mb : Str → Option Value} {loose : List Str} {ad : Str → Addr} {news : Led}
theorem set_body (l : Value) (e m : Option Str) (p : Addr) (t u : Tok) (c : Nat) (hp : (p, W.listOf #[l, vo e t, vo m u] c) ∈ news) : Body w mg mb loose ad 31 9 9 [.ref p] news (fun v tl => ∃ q t' u' c', v = .ref q ∧ tl = [(q, W.listOf #[l, vo (setE e m) t', vo (setM e m) u'] c')]) := by
  refine ⟨?_⟩
  intro dp un gd cd outer A₀ base g L s Q B F GG N lt hd hu ret
  have KX := noIn g
  conv in fbody _ => dsimp only [fbody, stm, prog, PySem.Challenge.pw_il0214_01, List.getElem?_cons_succ, List.getElem?_cons_zero, Option.getD_some]
  dsimp only [fargs, stm, prog, PySem.Challenge.pw_il0214_01, List.getElem?_cons_succ, List.getElem?_cons_zero, Option.getD_some, List.map, List.zip, List.zipWith, List.reverse, List.reverseAux] at F
  cases m with
  | none =>
    cases e with
    | none =>
      dsimp only [vo] at hp
      k_steps
      (try dsimp only); refine ret _ [_] _ _ _ (by k_asm) (cb_drop (by assumption) (List.forall_mem_cons.mpr ⟨by k_mem, by show ∀ p ∈ news, _; (first | (intro p hp; (repeat (first | exact hp | apply List.mem_cons_of_mem)); done) | kcj_all)⟩)) (by show ∀ q ∈ news, _; intro q hq p hp; obtain rfl := List.mem_singleton.mp hp; exact ord_of (by assumption) hq (by (try dsimp only); omega)) ?_; exact ⟨_, t, u, _, rfl, rfl⟩
    | some e =>
      dsimp only [vo] at hp
      k_steps
      (try dsimp only); refine ret _ [_] _ _ _ (by k_asm) (cb_drop (by assumption) (List.forall_mem_cons.mpr ⟨by k_mem, by show ∀ p ∈ news, _; (first | (intro p hp; (repeat (first | exact hp | apply List.mem_cons_of_mem)); done) | kcj_all)⟩)) (by show ∀ q ∈ news, _; intro q hq p hp; obtain rfl := List.mem_singleton.mp hp; exact ord_of (by assumption) hq (by (try dsimp only); omega)) ?_; exact ⟨_, t, u, _, rfl, rfl⟩
  | some m =>
    cases e with
    | none =>
      dsimp only [vo] at hp
      k_steps
      · dsimp only [setE, setM] at ret
        rw [if_pos (by assumption)] at ret
        rw [if_pos (by assumption)] at ret
        (try dsimp only); refine ret _ [_] _ _ _ (by k_asm) (cb_drop (by assumption) (List.forall_mem_cons.mpr ⟨by k_mem, by show ∀ p ∈ news, _; (first | (intro p hp; (repeat (first | exact hp | apply List.mem_cons_of_mem)); done) | kcj_all)⟩)) (by show ∀ q ∈ news, _; intro q hq p hp; obtain rfl := List.mem_singleton.mp hp; exact ord_of (by assumption) hq (by (try dsimp only); omega)) ?_; exact ⟨_, _, u, _, rfl, rfl⟩
      · dsimp only [setE, setM] at ret
        rw [if_neg (ne_true_of_eq_false (by assumption))] at ret
        rw [if_neg (ne_true_of_eq_false (by assumption))] at ret
        (try dsimp only); refine ret _ [_] _ _ _ (by k_asm) (cb_drop (by assumption) (List.forall_mem_cons.mpr ⟨by k_mem, by show ∀ p ∈ news, _; (first | (intro p hp; (repeat (first | exact hp | apply List.mem_cons_of_mem)); done) | kcj_all)⟩)) (by show ∀ q ∈ news, _; intro q hq p hp; obtain rfl := List.mem_singleton.mp hp; exact ord_of (by assumption) hq (by (try dsimp only); omega)) ?_; exact ⟨_, t, u, _, rfl, rfl⟩
    | some e =>
      dsimp only [vo] at hp
      k_steps
      · dsimp only [setE, setM] at ret
        rw [if_pos (by assumption)] at ret
        rw [if_pos (by assumption)] at ret
        rw [if_pos (by assumption)] at ret
        (try dsimp only); refine ret _ [_] _ _ _ (by k_asm) (cb_drop (by assumption) (List.forall_mem_cons.mpr ⟨by k_mem, by show ∀ p ∈ news, _; (first | (intro p hp; (repeat (first | exact hp | apply List.mem_cons_of_mem)); done) | kcj_all)⟩)) (by show ∀ q ∈ news, _; intro q hq p hp; obtain rfl := List.mem_singleton.mp hp; exact ord_of (by assumption) hq (by (try dsimp only); omega)) ?_; exact ⟨_, t, u, _, rfl, rfl⟩
      · dsimp only [setE, setM] at ret
        rw [if_pos (by assumption)] at ret
        rw [if_pos (by assumption)] at ret
        rw [if_neg (ne_true_of_eq_false (by assumption))] at ret
        (try dsimp only); refine ret _ [_] _ _ _ (by k_asm) (cb_drop (by assumption) (List.forall_mem_cons.mpr ⟨by k_mem, by show ∀ p ∈ news, _; (first | (intro p hp; (repeat (first | exact hp | apply List.mem_cons_of_mem)); done) | kcj_all)⟩)) (by show ∀ q ∈ news, _; intro q hq p hp; obtain rfl := List.mem_singleton.mp hp; exact ord_of (by assumption) hq (by (try dsimp only); omega)) ?_; exact ⟨_, t, u, _, rfl, rfl⟩
      · dsimp only [setE, setM] at ret
        rw [if_neg (ne_true_of_eq_false (by assumption))] at ret
        rw [if_neg (ne_true_of_eq_false (by assumption))] at ret
        (try dsimp only); refine ret _ [_] _ _ _ (by k_asm) (cb_drop (by assumption) (List.forall_mem_cons.mpr ⟨by k_mem, by show ∀ p ∈ news, _; (first | (intro p hp; (repeat (first | exact hp | apply List.mem_cons_of_mem)); done) | kcj_all)⟩)) (by show ∀ q ∈ news, _; intro q hq p hp; obtain rfl := List.mem_singleton.mp hp; exact ord_of (by assumption) hq (by (try dsimp only); omega)) ?_; exact ⟨_, t, u, _, rfl, rfl⟩
theorem set_says (l : Value) (e m : Option Str) (p : Addr) (t u : Tok) (c : Nat) (hp : (p, W.listOf #[l, vo e t, vo m u] c) ∈ news) : Says w mg mb loose ad "_law_settled" 10 12 [.ref p] news (fun v tl => ∃ q t' u' c', v = .ref q ∧ tl = [(q, W.listOf #[l, vo (setE e m) t', vo (setM e m) u'] c')]) :=
  says_of_body (i := 31) rfl rfl (fun _ _ _ => BindsTo.of_eq rfl) (locs rfl) (by decide +kernel) (by kernel_rfl) (by kernel_rfl) (by kernel_rfl) (set_body l e m p t u c hp)
noncomputable def st32 (i : Nat) : Stmt := ((fbody 32)[i]?).getD (.Pass ⟨0, 0, 0, 0⟩)
theorem body32_eq : fbody 32 = [st32 0, st32 1, st32 2, st32 3] := by kernel_rfl
inductive WrP (g : Heap) (L : Addr) (s₁ : Shared) (x : Str) (V : List (Str × Value)) (news : Led) : Flow → Shared → Prop
  | mk (h' : Heap) (tk : Nat) (m' : Str → Option Value) (t : Tok) (hF : Fr g L h' m') (hV : AgreeV m' (("text", .str x t) :: V)) (hN : News g L h' news) : WrP g L s₁ x V news .next { s₁ with heap := h', toks := tk }
theorem app_len {b d : Str} {o : Option Str} {n : Nat} (hb : b.length + d.length + 1000 ≤ n) (ho : ∀ x, o = some x → x.length ≤ 1000) : (app b d o).length ≤ n := by
  cases o with
  | none => show b.length ≤ n; omega
  | some x =>
    have := ho x rfl
    show (b ++ d ++ x).length ≤ n
    rw [PySem.Str.length_append, PySem.Str.length_append]; omega
theorem wri_s0 {st : Stmt} (hst : st = st32 0) (o : Option Str) (t2 : Tok) {v1 v2 : Value} {dp un : Nat} {gd : Option (List Code)} {cd : Value} {outer : List Env} {A₀ : Around} {base g : Heap} {L : Addr} {s : Shared} {mm : Str → Option Value}
    (B : Below A₀ base outer g) (GG : G w mg mb loose ad g) (hd : dp + 9 < recursionLimit) (hu : un + 9 < cLine) (KX : Frag.In [] g) (F : Fr g L s.heap (over [("language", vo o t2), ("encoding", v1), ("modifier", v2)] mm)) (N : News g L s.heap news) :
    wpAny (model prog w) (ktrTop dp un gd (fname 32) (fscope 32) L (ad (fname 32)) cd [] outer) (exec st (envX (fname 32) (fscope 32) L (ad (fname 32)) cd [])) (WrP g L s (o.getD "C") [("encoding", v1), ("modifier", v2)] news) (fun _ _ => False) s := by
  subst hst
  conv in st32 0 => dsimp only [st32, fbody, stm, prog, PySem.Challenge.pw_il0214_01, List.getElem?_cons_succ, List.getElem?_cons_zero, Option.getD_some]
  cases o with
  | none =>
    conv at F => rw [show ∀ t, vo none t = .none from fun _ => rfl]
    k_steps
    rename Fr _ _ _ _ => FX
    rename News _ _ _ _ => NX
    exact .mk _ _ _ _ FX (.cons (by repeat (first | exact if_pos rfl | refine (if_neg (by decide +kernel)).trans ?_ | with_unfolding_all rfl)) (.cons (by repeat (first | exact if_pos rfl | refine (if_neg (by decide +kernel)).trans ?_ | with_unfolding_all rfl)) (.cons (by repeat (first | exact if_pos rfl | refine (if_neg (by decide +kernel)).trans ?_ | with_unfolding_all rfl)) .nil))) NX
  | some x =>
    conv at F => rw [show ∀ t, vo (some x) t = .str x t from fun _ => rfl]
    k_steps
    rename Fr _ _ _ _ => FX
    rename News _ _ _ _ => NX
    exact .mk _ _ _ _ FX (.cons (by repeat (first | exact if_pos rfl | refine (if_neg (by decide +kernel)).trans ?_ | with_unfolding_all rfl)) (.cons (by repeat (first | exact if_pos rfl | refine (if_neg (by decide +kernel)).trans ?_ | with_unfolding_all rfl)) (.cons (by repeat (first | exact if_pos rfl | refine (if_neg (by decide +kernel)).trans ?_ | with_unfolding_all rfl)) .nil))) NX
theorem wri_s1 {st : Stmt} (hst : st = st32 1) (o : Option Str) (t2 : Tok) (ho : ∀ x, o = some x → x.length ≤ 1000) {b : Str} {t : Tok} (hb : b.length ≤ 3000) {v : Value} {dp un : Nat} {gd : Option (List Code)} {cd : Value} {outer : List Env} {A₀ : Around} {base g : Heap} {L : Addr} {s : Shared} {mm : Str → Option Value}
    (B : Below A₀ base outer g) (GG : G w mg mb loose ad g) (hd : dp + 9 < recursionLimit) (hu : un + 9 < cLine) (KX : Frag.In [] g) (F : Fr g L s.heap (over [("text", .str b t), ("encoding", vo o t2), ("modifier", v)] mm)) (N : News g L s.heap news) :
    wpAny (model prog w) (ktrTop dp un gd (fname 32) (fscope 32) L (ad (fname 32)) cd [] outer) (exec st (envX (fname 32) (fscope 32) L (ad (fname 32)) cd [])) (WrP g L s (app b "." o) [("modifier", v)] news) (fun _ _ => False) s := by
  subst hst
  conv in st32 1 => dsimp only [st32, fbody, stm, prog, PySem.Challenge.pw_il0214_01, List.getElem?_cons_succ, List.getElem?_cons_zero, Option.getD_some]
  cases o with
  | none =>
    conv at F => rw [show ∀ t, vo none t = .none from fun _ => rfl]
    k_steps
    rename Fr _ _ _ _ => FX
    rename News _ _ _ _ => NX
    exact .mk _ _ _ _ FX (.cons (by repeat (first | exact if_pos rfl | refine (if_neg (by decide +kernel)).trans ?_ | with_unfolding_all rfl)) (.cons (by repeat (first | exact if_pos rfl | refine (if_neg (by decide +kernel)).trans ?_ | with_unfolding_all rfl)) .nil)) NX
  | some x =>
    have ho' := ho x rfl
    conv at F => rw [show ∀ t, vo (some x) t = .str x t from fun _ => rfl]
    k_steps
    rename Fr _ _ _ _ => FX
    rename News _ _ _ _ => NX
    exact .mk _ _ _ _ FX (.cons (by repeat (first | exact if_pos rfl | refine (if_neg (by decide +kernel)).trans ?_ | with_unfolding_all rfl)) (.cons (by repeat (first | exact if_pos rfl | refine (if_neg (by decide +kernel)).trans ?_ | with_unfolding_all rfl)) .nil)) NX
theorem wri_s2 {st : Stmt} (hst : st = st32 2) (o : Option Str) (t2 : Tok) (ho : ∀ x, o = some x → x.length ≤ 1000) {b : Str} {t : Tok} (hb : b.length ≤ 3000) {dp un : Nat} {gd : Option (List Code)} {cd : Value} {outer : List Env} {A₀ : Around} {base g : Heap} {L : Addr} {s : Shared} {mm : Str → Option Value}
    (B : Below A₀ base outer g) (GG : G w mg mb loose ad g) (hd : dp + 9 < recursionLimit) (hu : un + 9 < cLine) (KX : Frag.In [] g) (F : Fr g L s.heap (over [("text", .str b t), ("modifier", vo o t2)] mm)) (N : News g L s.heap news) :
    wpAny (model prog w) (ktrTop dp un gd (fname 32) (fscope 32) L (ad (fname 32)) cd [] outer) (exec st (envX (fname 32) (fscope 32) L (ad (fname 32)) cd [])) (WrP g L s (app b "@" o) [] news) (fun _ _ => False) s := by
  subst hst
  conv in st32 2 => dsimp only [st32, fbody, stm, prog, PySem.Challenge.pw_il0214_01, List.getElem?_cons_succ, List.getElem?_cons_zero, Option.getD_some]
  cases o with
  | none =>
    conv at F => rw [show ∀ t, vo none t = .none from fun _ => rfl]
    k_steps
    rename Fr _ _ _ _ => FX
    rename News _ _ _ _ => NX
    exact .mk _ _ _ _ FX (.cons (by repeat (first | exact if_pos rfl | refine (if_neg (by decide +kernel)).trans ?_ | with_unfolding_all rfl)) .nil) NX
  | some x =>
    have ho' := ho x rfl
    conv at F => rw [show ∀ t, vo (some x) t = .str x t from fun _ => rfl]
    k_steps
    rename Fr _ _ _ _ => FX
    rename News _ _ _ _ => NX
    exact .mk _ _ _ _ FX (.cons (by repeat (first | exact if_pos rfl | refine (if_neg (by decide +kernel)).trans ?_ | with_unfolding_all rfl)) .nil) NX
theorem wri_body (l e m : Option Str) (t1 t2 t3 : Tok) (hl : ∀ x, l = some x → x.length ≤ 1000) (he : ∀ x, e = some x → x.length ≤ 1000) (hm : ∀ x, m = some x → x.length ≤ 1000) : Body w mg mb loose ad 32 9 9 [vo l t1, vo e t2, vo m t3] news (RetS (wri l e m)) := by
  refine ⟨?_⟩
  intro dp un gd cd outer A₀ base g L s Q B F GG N lt hd hu ret
  have KX := noIn g
  change Fr g L s.heap (fun y : Str => List.lookup y [("modifier", vo m t3), ("encoding", vo e t2), ("language", vo l t1)]) at F
  have V0 : AgreeV (fun y : Str => List.lookup y [("modifier", vo m t3), ("encoding", vo e t2), ("language", vo l t1)]) [("language", vo l t1), ("encoding", vo e t2), ("modifier", vo m t3)] := .cons (by repeat (first | exact if_pos rfl | refine (if_neg (by decide +kernel)).trans ?_ | with_unfolding_all rfl)) (.cons (by repeat (first | exact if_pos rfl | refine (if_neg (by decide +kernel)).trans ?_ | with_unfolding_all rfl)) (.cons (by repeat (first | exact if_pos rfl | refine (if_neg (by decide +kernel)).trans ?_ | with_unfolding_all rfl)) .nil))
  rw [← over_eq V0] at F
  clear V0
  generalize (fun y : Str => List.lookup y [("modifier", vo m t3), ("encoding", vo e t2), ("language", vo l t1)]) = m0 at F
  have hl0 : (l.getD "C").length ≤ 1000 := by
    cases l with
    | none => decide
    | some x => exact hl x rfl
  unfold wri at ret
  rw [body32_eq]
  refine wpAny_execs_cons (wpAny_mono (wri_s0 rfl l t1 B GG hd hu KX F N) (fun f s2 hq => ?_) fun _ _ h => h)
  obtain ⟨h1, tk1, m1, u1, F1, V1, N1⟩ := hq
  rw [← over_eq V1] at F1
  dsimp only
  generalize l.getD "C" = b0 at *
  have hb1 : (app b0 "." e).length ≤ 2001 := app_len (by show b0.length + 1 + 1000 ≤ 2001; omega) he
  refine wpAny_execs_cons (wpAny_mono (wri_s1 rfl e t2 he (by omega) B GG hd hu KX F1 N1) (fun f s2 hq => ?_) fun _ _ h => h)
  obtain ⟨h2, tk2, m2, u2, F2, V2, N2⟩ := hq
  rw [← over_eq V2] at F2
  dsimp only
  generalize app b0 "." e = b1 at *
  refine wpAny_execs_cons (wpAny_mono (wri_s2 rfl m t3 hm (by omega) B GG hd hu KX F2 N2) (fun f s2 hq => ?_) fun _ _ h => h)
  obtain ⟨h3, tk3, m3, u3, F3, V3, N3⟩ := hq
  rw [← over_eq V3] at F3
  dsimp only
  clear F F1 F2 N N1 N2 V1 V2 V3
  conv in st32 3 => dsimp only [st32, fbody, stm, prog, PySem.Challenge.pw_il0214_01, List.getElem?_cons_succ, List.getElem?_cons_zero, Option.getD_some]
  k_steps
  (try dsimp only); refine ret _ [] _ _ _ (by k_asm) (by first | k_asm | exact cb_drop (by assumption) (by show ∀ p ∈ news, _; (first | (intro p hp; (repeat (first | exact hp | apply List.mem_cons_of_mem)); done) | kcj_all))) (fun _ _ _ h => nomatch h) ?_; exact ⟨⟨_, rfl⟩, rfl⟩
theorem wri_says (l e m : Option Str) (t1 t2 t3 : Tok) (hl : ∀ x, l = some x → x.length ≤ 1000) (he : ∀ x, e = some x → x.length ≤ 1000) (hm : ∀ x, m = some x → x.length ≤ 1000) : Says w mg mb loose ad "_law_written" 10 12 [vo l t1, vo e t2, vo m t3] news (RetS (wri l e m)) :=
  says_of_body (i := 32) rfl rfl (fun _ _ _ => BindsTo.of_eq rfl) (locs rfl) (by decide +kernel) (by kernel_rfl) (by kernel_rfl) (by kernel_rfl) (wri_body l e m t1 t2 t3 hl he hm)
local macro_rules | `(tactic| walk_at $s) => ml s "
 pyIter ref => r Stop.out @p=_ ?_"
theorem num_body (x : Str) (t1 : Tok) (hl : x.length ≤ 1000) : Body w mg mb loose ad 33 9 9 [.str x t1] news (RetI (numF x 6)) := by
  refine ⟨?_⟩
  intro dp un gd cd outer A₀ base g L s Q B F GG N lt hd hu ret
  have KX := noIn g
  conv in fbody _ => dsimp only [fbody, stm, prog, PySem.Challenge.pw_il0214_01, List.getElem?_cons_succ, List.getElem?_cons_zero, Option.getD_some]
  dsimp only [fargs, stm, prog, PySem.Challenge.pw_il0214_01, List.getElem?_cons_succ, List.getElem?_cons_zero, Option.getD_some, List.map, List.zip, List.zipWith, List.reverse, List.reverseAux] at F
  k_steps
  refine ⟨?_⟩
  rename IsRange _ _ _ _ _ _ _ _ => R'
  refine' iter_range_k (α := NS) (n := 6) rfl R' (by decide) (by decide) (fun _ a => [("number", .int a.n a.t)]) [("word", .str x t1)] [] (fun _ _ => []) news (fun i a => a.n = numF x i) ⟨0, _⟩ ?F ?N (fun _ _ _ o h => nomatch h) (fun p hp => .inl (lt p hp)) ?hn rfl ?hV ?turn ?done
  case F => k_asm
  case N => k_asm
  case hV => exact (.cons (by repeat (first | exact if_pos rfl | refine (if_neg (by decide +kernel)).trans ?_ | with_unfolding_all rfl)) (.cons (by repeat (first | exact if_pos rfl | refine (if_neg (by decide +kernel)).trans ?_ | with_unfolding_all rfl)) .nil))
  case hn => show ∀ p ∈ news, _; kcj_all
  case turn =>
    intro i a t' I io m1 h1 tk1 hi hI hio hlt F' N'
    dsimp only [List.zip, List.zipWith, List.cons_append, List.nil_append] at N'
    (try k_lt hlt)
    k_steps
    · refine ⟨_, _, _, _, ⟨27 * a.n + ((Txt.item x (0 + (i : Int))).cps.getD 0 0 : Nat) - 96, _⟩, rfl, by k_asm, by k_asm, by k_mem, by show ∀ p ∈ news, _; kcj_all, ?_, .cons (by repeat (first | exact if_pos rfl | refine (if_neg (by decide +kernel)).trans ?_ | with_unfolding_all rfl)) (.cons (by repeat (first | exact if_pos rfl | refine (if_neg (by decide +kernel)).trans ?_ | with_unfolding_all rfl)) .nil)⟩
      show _ = numF x (i + 1)
      rw [numF, if_pos (by assumption), ← hI]
    · refine ⟨_, _, _, _, ⟨27 * a.n, _⟩, rfl, by k_asm, by k_asm, by k_mem, by show ∀ p ∈ news, _; kcj_all, ?_, .cons (by repeat (first | exact if_pos rfl | refine (if_neg (by decide +kernel)).trans ?_ | with_unfolding_all rfl)) (.cons (by repeat (first | exact if_pos rfl | refine (if_neg (by decide +kernel)).trans ?_ | with_unfolding_all rfl)) .nil)⟩
      show _ = numF x (i + 1)
      rw [numF, if_neg (by assumption), ← hI]
  case done =>
    intro a m1 h1 tk1 hI F' N'
    dsimp only [List.zip, List.zipWith, List.cons_append, List.nil_append] at N'
    rw [← hI] at ret
    k_steps
    (try dsimp only); refine ret _ [] _ _ _ (by k_asm) (by first | k_asm | exact cb_drop (by assumption) (by show ∀ p ∈ news, _; (first | (intro p hp; (repeat (first | exact hp | apply List.mem_cons_of_mem)); done) | kcj_all))) (fun _ _ _ h => nomatch h) ?_; exact ⟨⟨_, rfl⟩, rfl⟩
theorem num_says (x : Str) (t1 : Tok) (hl : x.length ≤ 1000) : Says w mg mb loose ad "_law_number" 10 12 [.str x t1] news (RetI (numF x 6)) :=
  says_of_body (i := 33) rfl rfl (fun _ _ _ => BindsTo.of_eq rfl) (locs rfl) (by decide +kernel) (by kernel_rfl) (by kernel_rfl) (by kernel_rfl) (num_body x t1 hl)
end
theorem fl_4 {M : Model} {A : Around} {E : Value → Shared → Prop} {s : Shared} {Q : Bool → Shared → Prop} {v : Value} (h : wpAny M A (truthy v) Q E s) : wpAny M A (truthy v) Q E s := by
  first
    | (walk1; done)
    | exact h
noncomputable def rowL (l e m : Option Str) : List Int :=
  [match l with | none => 1 | some x => 2 * numF x 6] ++
  (match e with
    | none => [match m with | none => 0 | some _ => 2, 0]
    | some y => if (y == "ISO8859-15") = true then [1, 1] else if (y == "UTF-8") = true then [1, 2] else [1, 3 * numF y 6]) ++
  [match m with | none => 0 | some x => 1 + numF x 6]
noncomputable def rlF (l : Option Str) : Int := match l with | none => 1 | some x => 2 * numF x 6
noncomputable def mnF (m : Option Str) : Int := match m with | none => 0 | some x => 1 + numF x 6
noncomputable def er1 (e m : Option Str) : Int := match e with | none => (match m with | none => 0 | some _ => 2) | some _ => 1
noncomputable def er2 (e : Option Str) : Int := match e with | none => 0 | some y => if (y == "ISO8859-15") = true then 1 else if (y == "UTF-8") = true then 2 else 3 * numF y 6
theorem rowL_eq (l e m : Option Str) : rowL l e m = [rlF l, er1 e m, er2 e, mnF m] := by
  unfold rowL rlF er1 er2 mnF
  cases e with
  | none => rfl
  | some y =>
    dsimp only
    by_cases h1 : (y == "ISO8859-15") = true
    · rw [if_pos h1, if_pos h1]; rfl
    · rw [if_neg h1, if_neg h1]
      by_cases h2 : (y == "UTF-8") = true
      · rw [if_pos h2, if_pos h2]; rfl
      · rw [if_neg h2, if_neg h2]; rfl
noncomputable def st34 (i : Nat) : Stmt := ((fbody 34)[i]?).getD (.Pass ⟨0, 0, 0, 0⟩)
theorem body34_eq : fbody 34 = [st34 0, st34 1, st34 2] := by kernel_rfl
inductive RowP (g : Heap) (L : Addr) (s₁ : Shared) (V : List (Str × Value)) (ns : List Int) (news : Led) : Flow → Shared → Prop
  | mk (h' : Heap) (tk : Nat) (m' : Str → Option Value) (r : Addr) (vs : List Value) (c : Nat) (hF : Fr g L h' m') (hV : AgreeV m' (("row", .ref r) :: V)) (hN : News g L h' ((r, W.listOf (List.toArray vs) c) :: news)) (hI : IntsAre vs ns) (ho : ∀ q ∈ news, q.1 < r) : RowP g L s₁ V ns news .next { s₁ with heap := h', toks := tk }
section
variable {w : World} {mg mb : Str → Option Value} {loose : List Str} {ad : Str → Addr} {news : Led}
local macro_rules | `(tactic| walk_at $s) => ml s "
 call ref => r Says.useS {@pre} ( num_says _ _ {assumption} ) ?_ ! i k' h' tk' F' N'; sw"
theorem row_s0 {st : Stmt} (hst : st = st34 0) (l : Option Str) (ve vm : Value) (t1 : Tok) (hl : ∀ x, l = some x → x.length ≤ 1000) {dp un : Nat} {gd : Option (List Code)} {cd : Value} {outer : List Env} {A₀ : Around} {base g : Heap} {L : Addr} {s : Shared} {mm : Str → Option Value}
    (B : Below A₀ base outer g) (GG : G w mg mb loose ad g) (hd : dp + 19 < recursionLimit) (hu : un + 19 < cLine) (KX : Frag.In [] g)
    (F1 : Fr g L s.heap (over [("language", vo l t1), ("encoding", ve), ("modifier", vm)] mm)) (N1 : News g L s.heap news) :
    wpAny (model prog w) (ktrTop dp un gd (fname 34) (fscope 34) L (ad (fname 34)) cd [] outer) (exec st (envX (fname 34) (fscope 34) L (ad (fname 34)) cd [])) (RowP g L s [("encoding", ve), ("modifier", vm)] [rlF l] news) (fun _ _ => False) s := by
  subst hst
  conv in st34 0 => dsimp only [st34, fbody, stm, prog, PySem.Challenge.pw_il0214_01, List.getElem?_cons_succ, List.getElem?_cons_zero, Option.getD_some]
  cases l with
  | none =>
    dsimp only [vo] at F1
    k_steps
    rename Fr _ _ _ _ => FX
    rename News _ _ _ _ => NX
    exact .mk _ _ _ _ [.int 1 _] _ FX (.cons (by repeat (first | exact if_pos rfl | refine (if_neg (by decide +kernel)).trans ?_ | with_unfolding_all rfl)) (.cons (by repeat (first | exact if_pos rfl | refine (if_neg (by decide +kernel)).trans ?_ | with_unfolding_all rfl)) (.cons (by repeat (first | exact if_pos rfl | refine (if_neg (by decide +kernel)).trans ?_ | with_unfolding_all rfl)) .nil))) NX (.cons _ _ .nil) (fun q hq => ord_of (by assumption) hq (by omega))
  | some x =>
    dsimp only [vo] at F1
    have hl' := hl x rfl
    k_steps
    rename Fr _ _ _ _ => FX
    rename News _ _ _ _ => NX
    exact .mk _ _ _ _ [.int (2 * numF x 6) _] _ FX (.cons (by repeat (first | exact if_pos rfl | refine (if_neg (by decide +kernel)).trans ?_ | with_unfolding_all rfl)) (.cons (by repeat (first | exact if_pos rfl | refine (if_neg (by decide +kernel)).trans ?_ | with_unfolding_all rfl)) (.cons (by repeat (first | exact if_pos rfl | refine (if_neg (by decide +kernel)).trans ?_ | with_unfolding_all rfl)) .nil))) NX (.cons _ _ .nil) (fun q hq => ord_of (by assumption) hq (by omega))
theorem row_s1 {st : Stmt} (hst : st = st34 1) (e m : Option Str) (a : Int) (r : Addr) (u t2 t3 : Tok) (c : Nat) (he : ∀ x, e = some x → x.length ≤ 1000) (lr : ∀ q ∈ news, q.1 < r) {dp un : Nat} {gd : Option (List Code)} {cd : Value} {outer : List Env} {A₀ : Around} {base g : Heap} {L : Addr} {s : Shared} {mm : Str → Option Value}
    (B : Below A₀ base outer g) (GG : G w mg mb loose ad g) (hd : dp + 19 < recursionLimit) (hu : un + 19 < cLine) (KX : Frag.In [] g)
    (F1 : Fr g L s.heap (over [("row", .ref r), ("encoding", vo e t2), ("modifier", vo m t3)] mm)) (N1 : News g L s.heap ((r, W.listOf #[.int a u] c) :: news)) :
    wpAny (model prog w) (ktrTop dp un gd (fname 34) (fscope 34) L (ad (fname 34)) cd [] outer) (exec st (envX (fname 34) (fscope 34) L (ad (fname 34)) cd [])) (RowP g L s [("modifier", vo m t3)] [a, er1 e m, er2 e] news) (fun _ _ => False) s := by
  subst hst
  conv in st34 1 => dsimp only [st34, fbody, stm, prog, PySem.Challenge.pw_il0214_01, List.getElem?_cons_succ, List.getElem?_cons_zero, Option.getD_some]
  have fin : ∀ {h' : Heap} {tk : Nat} {m' : Str → Option Value} {r' : Addr} {a' b' d' : Int} {x y z : Tok} {c' : Nat} {led : Led}, Fr g L h' m' → AgreeV m' [("row", .ref r'), ("modifier", vo m t3)] → News g L h' led → (r', W.listOf #[.int a' x, .int b' y, .int d' z] c') ∈ led → (∀ p ∈ news, p ∈ led) → @LE.le Nat _ r r' → a' = a → b' = er1 e m → d' = er2 e →
      RowP g L s [("modifier", vo m t3)] [a, er1 e m, er2 e] news .next { s with heap := h', toks := tk } := by
    intro h' tk m' r' a' b' d' x y z c' led F V N hm k hr e1 e2 e3
    subst e1 e2 e3
    exact .mk h' tk m' r' [.int _ x, .int _ y, .int _ z] c' F V (cb_drop N (List.forall_mem_cons.mpr ⟨hm, k⟩)) (.cons _ _ (.cons _ _ (.cons _ _ .nil))) (fun q hq => Nat.lt_of_lt_of_le (lr q hq) hr)
  cases e with
  | none =>
    cases m with
    | none =>
      dsimp only [vo] at F1 fin ⊢
      refine @gq _ _ _ _ _ _ _ fun Q' hQ' => ?_
      k_steps
      rename Fr _ _ _ _ => FX
      rename News _ _ _ _ => NX
      exact hQ' _ _ (fin FX (.cons (by repeat (first | exact if_pos rfl | refine (if_neg (by decide +kernel)).trans ?_ | with_unfolding_all rfl)) (.cons (by repeat (first | exact if_pos rfl | refine (if_neg (by decide +kernel)).trans ?_ | with_unfolding_all rfl)) .nil)) NX (by k_mem) (by first | (intro p hp; (repeat (first | exact hp | apply List.mem_cons_of_mem)); done) | kcj_all) (by omega) rfl rfl rfl)
    | some y =>
      dsimp only [vo] at F1 fin ⊢
      refine @gq _ _ _ _ _ _ _ fun Q' hQ' => ?_
      k_steps
      rename Fr _ _ _ _ => FX
      rename News _ _ _ _ => NX
      exact hQ' _ _ (fin FX (.cons (by repeat (first | exact if_pos rfl | refine (if_neg (by decide +kernel)).trans ?_ | with_unfolding_all rfl)) (.cons (by repeat (first | exact if_pos rfl | refine (if_neg (by decide +kernel)).trans ?_ | with_unfolding_all rfl)) .nil)) NX (by k_mem) (by first | (intro p hp; (repeat (first | exact hp | apply List.mem_cons_of_mem)); done) | kcj_all) (by omega) rfl rfl rfl)
  | some y =>
    have he' := he y rfl
    have vm : ∃ v, v = vo m t3 := ⟨_, rfl⟩
    obtain ⟨v, hv⟩ := vm
    rw [← hv] at F1 fin ⊢
    clear hv
    dsimp only [vo, er1, er2] at F1 fin ⊢
    refine @gq _ _ _ _ _ _ _ fun Q' hQ' => ?_
    k_steps
    · rename Fr _ _ _ _ => FX
      rename News _ _ _ _ => NX
      exact hQ' _ _ (fin FX (.cons (by repeat (first | exact if_pos rfl | refine (if_neg (by decide +kernel)).trans ?_ | with_unfolding_all rfl)) (.cons (by repeat (first | exact if_pos rfl | refine (if_neg (by decide +kernel)).trans ?_ | with_unfolding_all rfl)) .nil)) NX (by k_mem) (by first | (intro p hp; (repeat (first | exact hp | apply List.mem_cons_of_mem)); done) | kcj_all) (by omega) rfl rfl (by rw [if_pos (by assumption)]))
    · rename Fr _ _ _ _ => FX
      rename News _ _ _ _ => NX
      exact hQ' _ _ (fin FX (.cons (by repeat (first | exact if_pos rfl | refine (if_neg (by decide +kernel)).trans ?_ | with_unfolding_all rfl)) (.cons (by repeat (first | exact if_pos rfl | refine (if_neg (by decide +kernel)).trans ?_ | with_unfolding_all rfl)) .nil)) NX (by k_mem) (by first | (intro p hp; (repeat (first | exact hp | apply List.mem_cons_of_mem)); done) | kcj_all) (by omega) rfl rfl (by rw [if_neg (ne_true_of_eq_false (by assumption)), if_pos (by assumption)]))
    · rename Fr _ _ _ _ => FX
      rename News _ _ _ _ => NX
      exact hQ' _ _ (fin FX (.cons (by repeat (first | exact if_pos rfl | refine (if_neg (by decide +kernel)).trans ?_ | with_unfolding_all rfl)) (.cons (by repeat (first | exact if_pos rfl | refine (if_neg (by decide +kernel)).trans ?_ | with_unfolding_all rfl)) .nil)) NX (by k_mem) (by first | (intro p hp; (repeat (first | exact hp | apply List.mem_cons_of_mem)); done) | kcj_all) (by omega) rfl rfl (by rw [if_neg (ne_true_of_eq_false (by assumption)), if_neg (ne_true_of_eq_false (by assumption))]))
inductive RowR (g : Heap) (L : Addr) (s₁ : Shared) (ns : List Int) (news : Led) : Flow → Shared → Prop
  | mk (h' : Heap) (tk : Nat) (m' : Str → Option Value) (r : Addr) (vs : List Value) (c : Nat) (hF : Fr g L h' m') (hN : News g L h' ((r, W.listOf (List.toArray vs) c) :: news)) (hI : IntsAre vs ns) (ho : ∀ q ∈ news, q.1 < r) : RowR g L s₁ ns news (.ret (.ref r)) { s₁ with heap := h', toks := tk }
theorem row_s2 {st : Stmt} (hst : st = st34 2) (m : Option Str) (a b d : Int) (r : Addr) (x y z t3 : Tok) (c : Nat) (hm : ∀ x, m = some x → x.length ≤ 1000) (lr : ∀ q ∈ news, q.1 < r) {dp un : Nat} {gd : Option (List Code)} {cd : Value} {outer : List Env} {A₀ : Around} {base g : Heap} {L : Addr} {s : Shared} {mm : Str → Option Value}
    (B : Below A₀ base outer g) (GG : G w mg mb loose ad g) (hd : dp + 19 < recursionLimit) (hu : un + 19 < cLine) (KX : Frag.In [] g)
    (F1 : Fr g L s.heap (over [("row", .ref r), ("modifier", vo m t3)] mm)) (N1 : News g L s.heap ((r, W.listOf #[.int a x, .int b y, .int d z] c) :: news)) :
    wpAny (model prog w) (ktrTop dp un gd (fname 34) (fscope 34) L (ad (fname 34)) cd [] outer) (exec st (envX (fname 34) (fscope 34) L (ad (fname 34)) cd [])) (RowR g L s [a, b, d, mnF m] news) (fun _ _ => False) s := by
  subst hst
  conv in st34 2 => dsimp only [st34, fbody, stm, prog, PySem.Challenge.pw_il0214_01, List.getElem?_cons_succ, List.getElem?_cons_zero, Option.getD_some]
  refine @gq _ _ _ _ _ _ _ fun Q' hQ' => ?_
  cases m with
  | none =>
    dsimp only [vo] at F1
    k_steps
    rename Fr _ _ _ _ => FX
    rename News _ _ _ _ => NX
    refine hQ' _ _ ?_; exact .mk _ _ _ _ [.int a _, .int b _, .int d _, .int 0 _] _ FX (cb_drop NX (List.forall_mem_cons.mpr ⟨by k_mem, by show ∀ p ∈ news, _; (first | (intro p hp; (repeat (first | exact hp | apply List.mem_cons_of_mem)); done) | kcj_all)⟩)) (.cons _ _ (.cons _ _ (.cons _ _ (.cons _ _ .nil)))) (fun q hq => ord_of lr hq (by omega))
  | some w =>
    dsimp only [vo] at F1
    have hm' := hm w rfl
    k_steps
    rename Fr _ _ _ _ => FX
    rename News _ _ _ _ => NX
    refine hQ' _ _ ?_; exact .mk _ _ _ _ [.int a _, .int b _, .int d _, .int (1 + numF w 6) _] _ FX (cb_drop NX (List.forall_mem_cons.mpr ⟨by k_mem, by show ∀ p ∈ news, _; (first | (intro p hp; (repeat (first | exact hp | apply List.mem_cons_of_mem)); done) | kcj_all)⟩)) (.cons _ _ (.cons _ _ (.cons _ _ (.cons _ _ .nil)))) (fun q hq => ord_of lr hq (by omega))
theorem ints_1 {vs : List Value} {a : Int} (h : IntsAre vs [a]) : ∃ t, vs = [.int a t] := by
  cases h with | cons _ t h => cases h; exact ⟨t, rfl⟩
theorem ints_3 {vs : List Value} {a b c : Int} (h : IntsAre vs [a, b, c]) : ∃ t u v, vs = [.int a t, .int b u, .int c v] := by
  cases h with | cons _ t h => cases h with | cons _ u h => cases h with | cons _ v h => cases h; exact ⟨t, u, v, rfl⟩
theorem row_body (l e m : Option Str) (t1 t2 t3 : Tok) (hl : ∀ x, l = some x → x.length ≤ 1000) (he : ∀ x, e = some x → x.length ≤ 1000) (hm : ∀ x, m = some x → x.length ≤ 1000) :
    Body w mg mb loose ad 34 19 19 [vo l t1, vo e t2, vo m t3] news (fun v tl => ∃ p vs c, v = .ref p ∧ tl = [(p, W.listOf vs.toArray c)] ∧ IntsAre vs (rowL l e m)) := by
  refine ⟨?_⟩
  intro dp un gd cd outer A₀ base g L s Q B F GG N lt hd hu ret
  have KX := noIn g
  change Fr g L s.heap (fun y : Str => List.lookup y [("modifier", vo m t3), ("encoding", vo e t2), ("language", vo l t1)]) at F
  have V0 : AgreeV (fun y : Str => List.lookup y [("modifier", vo m t3), ("encoding", vo e t2), ("language", vo l t1)]) [("language", vo l t1), ("encoding", vo e t2), ("modifier", vo m t3)] := .cons (by repeat (first | exact if_pos rfl | refine (if_neg (by decide +kernel)).trans ?_ | with_unfolding_all rfl)) (.cons (by repeat (first | exact if_pos rfl | refine (if_neg (by decide +kernel)).trans ?_ | with_unfolding_all rfl)) (.cons (by repeat (first | exact if_pos rfl | refine (if_neg (by decide +kernel)).trans ?_ | with_unfolding_all rfl)) .nil))
  rw [← over_eq V0] at F
  clear V0
  generalize (fun y : Str => List.lookup y [("modifier", vo m t3), ("encoding", vo e t2), ("language", vo l t1)]) = m0 at F
  rw [rowL_eq] at ret
  rw [body34_eq]
  refine wpAny_execs_cons (wpAny_mono (row_s0 rfl l (vo e t2) (vo m t3) t1 hl B GG hd hu KX F N) (fun f s2 hq => ?_) fun _ _ h => h)
  obtain ⟨h1, tk1, m1, r, vs, c, F2, V2, N2, hI, lr⟩ := hq
  rw [← over_eq V2] at F2
  dsimp only
  obtain ⟨u, rfl⟩ := ints_1 hI
  refine wpAny_execs_cons (wpAny_mono (row_s1 rfl e m (rlF l) r u t2 t3 c he lr B GG hd hu KX F2 N2) (fun f s2 hq => ?_) fun _ _ h => h)
  obtain ⟨h2, tk2, m2, r2, vs2, c2, F3, V3, N3, hI3, lr3⟩ := hq
  rw [← over_eq V3] at F3
  dsimp only
  obtain ⟨x, y, z, rfl⟩ := ints_3 hI3
  refine wpAny_execs_cons (wpAny_mono (row_s2 rfl m (rlF l) (er1 e m) (er2 e) r2 x y z t3 c2 hm lr3 B GG hd hu KX F3 N3) (fun f s2 hq => ?_) fun _ _ h => h)
  obtain ⟨h3, tk3, m3, r3, vs3, c3, F4, N4, hI4, lr4⟩ := hq
  exact ret _ [(r3, W.listOf (List.toArray vs3) c3)] h3 tk3 m3 F4 N4 (fun q hq p hp => by rw [List.mem_singleton.mp hp]; exact lr4 q hq) ⟨r3, vs3, c3, rfl, rfl, hI4⟩
theorem row_says (l e m : Option Str) (t1 t2 t3 : Tok) (hl : ∀ x, l = some x → x.length ≤ 1000) (he : ∀ x, e = some x → x.length ≤ 1000) (hm : ∀ x, m = some x → x.length ≤ 1000) :
    Says w mg mb loose ad "_law_row" 20 22 [vo l t1, vo e t2, vo m t3] news (fun v tl => ∃ p vs c, v = .ref p ∧ tl = [(p, W.listOf vs.toArray c)] ∧ IntsAre vs (rowL l e m)) :=
  says_of_body (i := 34) rfl rfl (fun _ _ _ => BindsTo.of_eq rfl) (locs rfl) (by decide +kernel) (by kernel_rfl) (by kernel_rfl) (by kernel_rfl) (row_body l e m t1 t2 t3 hl he hm)
end
theorem fl_5 {M : Model} {A : Around} {E : Value → Shared → Prop} {s : Shared} {Q : Bool → Shared → Prop} {v : Value} (h : wpAny M A (truthy v) Q E s) : wpAny M A (truthy v) Q E s := by
  first
    | (walk1; done)
    | exact h
noncomputable def apm (code m : Str) : Str :=
  if (m == Str.ofString "euro") = true then
    if (Builtin.Str.occurrences code (Str.ofString ".") 0 code.length 1).isEmpty = true then code ++ Str.ofString ".ISO8859-15"
    else if ([Str.ofString "ISO8859-15", Str.ofString "UTF-8"].any fun x => x == (Txt.partition code (Str.ofString ".")).snd.snd) = true then code
    else code ++ Str.ofString "@" ++ m
  else code ++ Str.ofString "@" ++ m
section
variable {w : World} {mg mb : Str → Option Value} {loose : List Str} {ad : Str → Addr} {news : Led}
local macro_rules | `(tactic| walk_at $s) => ml s "
 exec Try => r wpAny_Try_except ?_"
theorem bln_body (l e : Option Str) (t1 t2 : Tok) (p : Addr) (c : Nat) (hp : (p, ({ cls := .type "tuple", data := .seq #[vo l t1, vo e t2] c } : Obj)) ∈ news) (hl : ∀ x, l = some x → x.length ≤ 1000) (he : ∀ x, e = some x → x.length ≤ 1000) :
    Body w mg mb loose ad 6 9 9 [.ref p] news (RetS (app (l.getD "C") "." e)) := by
  refine ⟨?_⟩
  intro dp un gd cd outer A₀ base g L s Q B F GG N lt hd hu ret
  have KX := noIn g
  conv in fbody _ => dsimp only [fbody, stm, prog, PySem.Challenge.pw_il0214_01, List.getElem?_cons_succ, List.getElem?_cons_zero, Option.getD_some]
  dsimp only [fargs, stm, prog, PySem.Challenge.pw_il0214_01, List.getElem?_cons_succ, List.getElem?_cons_zero, Option.getD_some, List.map, List.zip, List.zipWith, List.reverse, List.reverseAux] at F
  cases l <;> cases e
  all_goals
    have hl' := fun x h => hl x h
    have he' := fun x h => he x h
    simp only [Option.some.injEq, forall_eq', reduceCtorEq, false_implies, implies_true] at hl' he'
    dsimp only [vo] at hp
    dsimp only [app, Option.getD] at ret
    k_steps
  all_goals ((try dsimp only); refine ret _ [] _ _ _ (by k_asm) (by first | k_asm | exact cb_drop (by assumption) (by show ∀ p ∈ news, _; (first | (intro p hp; (repeat (first | exact hp | apply List.mem_cons_of_mem)); done) | kcj_all))) (fun _ _ _ h => nomatch h) ?_; exact ⟨⟨_, rfl⟩, rfl⟩)
theorem bln_says (l e : Option Str) (t1 t2 : Tok) (p : Addr) (c : Nat) (hp : (p, ({ cls := .type "tuple", data := .seq #[vo l t1, vo e t2] c } : Obj)) ∈ news) (hl : ∀ x, l = some x → x.length ≤ 1000) (he : ∀ x, e = some x → x.length ≤ 1000) :
    Says w mg mb loose ad "_build_localename" 10 12 [.ref p] news (RetS (app (l.getD "C") "." e)) :=
  says_of_body (i := 6) rfl rfl (fun _ _ _ => BindsTo.of_eq rfl) (locs rfl) (by decide +kernel) (by kernel_rfl) (by kernel_rfl) (by kernel_rfl) (bln_body l e t1 t2 p c hp hl he)
theorem apm_body (code m : Str) (t1 t2 : Tok) (hl : code.length ≤ 1000) (hm : m.length ≤ 1000) (hb : ((Txt.partition code (Str.ofString ".")).snd.snd == Str.ofString "ISO8859-1") = false) :
    Body w mg mb loose ad 5 9 9 [.str code t1, .str m t2] news (RetS (apm code m)) := by
  refine ⟨?_⟩
  intro dp un gd cd outer A₀ base g L s Q B F GG N lt hd hu ret
  have KX := noIn g
  conv in fbody _ => dsimp only [fbody, stm, prog, PySem.Challenge.pw_il0214_01, List.getElem?_cons_succ, List.getElem?_cons_zero, Option.getD_some]
  dsimp only [fargs, stm, prog, PySem.Challenge.pw_il0214_01, List.getElem?_cons_succ, List.getElem?_cons_zero, Option.getD_some, List.map, List.zip, List.zipWith, List.reverse, List.reverseAux] at F
  k_steps
  · rw [apm, if_pos (by assumption), if_pos (by assumption)] at ret
    (try dsimp only); refine ret _ [] _ _ _ (by k_asm) (by first | k_asm | exact cb_drop (by assumption) (by show ∀ p ∈ news, _; (first | (intro p hp; (repeat (first | exact hp | apply List.mem_cons_of_mem)); done) | kcj_all))) (fun _ _ _ h => nomatch h) ?_; exact ⟨⟨_, rfl⟩, rfl⟩
  · rw [apm, if_pos (by assumption), if_neg (ne_true_of_eq_false (by assumption)), if_pos (by assumption)] at ret
    (try dsimp only); refine ret _ [] _ _ _ (by k_asm) (by first | k_asm | exact cb_drop (by assumption) (by show ∀ p ∈ news, _; (first | (intro p hp; (repeat (first | exact hp | apply List.mem_cons_of_mem)); done) | kcj_all))) (fun _ _ _ h => nomatch h) ?_; exact ⟨⟨_, rfl⟩, rfl⟩
  · rw [apm, if_pos (by assumption), if_neg (ne_true_of_eq_false (by assumption)), if_neg (ne_true_of_eq_false (by assumption))] at ret
    (try dsimp only); refine ret _ [] _ _ _ (by k_asm) (by first | k_asm | exact cb_drop (by assumption) (by show ∀ p ∈ news, _; (first | (intro p hp; (repeat (first | exact hp | apply List.mem_cons_of_mem)); done) | kcj_all))) (fun _ _ _ h => nomatch h) ?_; exact ⟨⟨_, rfl⟩, rfl⟩
  · rw [apm, if_neg (ne_true_of_eq_false (by assumption))] at ret
    (try dsimp only); refine ret _ [] _ _ _ (by k_asm) (by first | k_asm | exact cb_drop (by assumption) (by show ∀ p ∈ news, _; (first | (intro p hp; (repeat (first | exact hp | apply List.mem_cons_of_mem)); done) | kcj_all))) (fun _ _ _ h => nomatch h) ?_; exact ⟨⟨_, rfl⟩, rfl⟩
theorem apm_says (code m : Str) (t1 t2 : Tok) (hl : code.length ≤ 1000) (hm : m.length ≤ 1000) (hb : ((Txt.partition code (Str.ofString ".")).snd.snd == Str.ofString "ISO8859-1") = false) :
    Says w mg mb loose ad "_append_modifier" 10 12 [.str code t1, .str m t2] news (RetS (apm code m)) :=
  says_of_body (i := 5) rfl rfl (fun _ _ _ => BindsTo.of_eq rfl) (locs rfl) (by decide +kernel) (by kernel_rfl) (by kernel_rfl) (by kernel_rfl) (apm_body code m t1 t2 hl hm hb)
end
theorem fl_6 {M : Model} {A : Around} {E : Value → Shared → Prop} {s : Shared} {Q : Bool → Shared → Prop} {v : Value} (h : wpAny M A (truthy v) Q E s) : wpAny M A (truthy v) Q E s := by
  first
    | (walk1; done)
    | exact h
local macro_rules | `(tactic| walk_at $s) => ml s "
 eval Name => s wpAny _ _ ( eval ( Expr.Name _ _ ) ( compEnvC _ _ _ _ ) ) _ _ _ & R name_topC ?F ?g ?hx ?_ ?hg ?a ?b ?c; c b rfl F k_asm g assumption hx deck hg rfl a rfl c decide | R name_biC ?F ?g ?hx ?hv ?hn ?_ ?hg ?hb ?a ?b ?c; c b rfl F k_asm g assumption hx deck hv boot_fast hn decide hg rfl hb rfl a rfl c decide"
noncomputable def keepL (l : List Nat) : List Str := (l.filter fun (c : Nat) => !b1L.contains (c : Int)).map b3fold
theorem keepL_snoc (l : List Nat) (c : Nat) : keepL (l ++ [c]) = keepL l ++ (if b1L.contains (c : Int) then [] else [b3fold c]) := by
  unfold keepL
  rw [List.filter_append, List.map_append]
  congr 1
  cases h : b1L.contains (c : Int)
  · rw [List.filter_cons_of_pos (by rw [h]; rfl)]; rfl
  · rw [List.filter_cons_of_neg (by rw [h]; decide)]; rfl
theorem take_snoc {x : Str} {i c : Nat} (h : x.cps[i]? = some c) : x.cps.toList.take (i + 1) = x.cps.toList.take i ++ [c] := by
  rw [List.take_add_one, Array.getElem?_toList, h]; rfl
noncomputable def heldL (H : Nat → Bool) (c : Nat) : List Bool := [H c, c6L.contains (c : Int), c7L.contains (c : Int), c8L.contains (c : Int), c9L.contains (c : Int)]
noncomputable def refTo (H : Nat → Bool) (c n : Nat) : List Int := ((List.range n).filter fun k => (heldL H c).getD k false).map fun (k : Nat) => (k : Int)
noncomputable def refOf (H : Nat → Bool) (c : Nat) : List Int := refTo H c 5
theorem refTo_succ (H : Nat → Bool) (c n : Nat) : refTo H c (n + 1) = refTo H c n ++ (if (heldL H c).getD n false = true then [(n : Int)] else []) := by
  unfold refTo
  rw [List.range_succ, List.filter_append, List.map_append]
  congr 1
  by_cases h : (heldL H c).getD n false = true
  · have e : List.filter (fun k => (heldL H c).getD k false) [n] = [n] := List.filter_cons_of_pos (p := fun k => (heldL H c).getD k false) h
    rw [e, if_pos h]; rfl
  · have e : List.filter (fun k => (heldL H c).getD k false) [n] = [] := List.filter_cons_of_neg (p := fun k => (heldL H c).getD k false) h
    rw [e, if_neg h]; rfl
theorem refTo_zero (H : Nat → Bool) (c : Nat) : refTo H c 0 = [] := rfl
theorem refTo_len (H : Nat → Bool) (c n : Nat) : (refTo H c n).length ≤ n := by
  unfold refTo
  rw [List.length_map]
  exact Nat.le_trans (List.length_filter_le _ _) (Nat.le_of_eq List.length_range)
noncomputable def refL (H : Nat → Bool) (l : List Nat) : List Int := l.flatMap (refOf H)
theorem refL_snoc (H : Nat → Bool) (l : List Nat) (c : Nat) : refL H (l ++ [c]) = refL H l ++ refOf H c := by
  unfold refL; rw [List.flatMap_append]; simp
theorem refL_len (H : Nat → Bool) (l : List Nat) : (refL H l).length ≤ 5 * l.length := by
  induction l with
  | nil => exact Nat.le_refl _
  | cons c r ih =>
    have h : refL H (c :: r) = refOf H c ++ refL H r := by unfold refL; rw [List.flatMap_cons]
    have := refTo_len H c 5
    rw [h, List.length_append, List.length_cons]
    show (refTo H c 5).length + _ ≤ _
    omega
noncomputable def prep (x : Str) : Str := Txt.join (Str.ofString "") (keepL x.cps.toList)
noncomputable def PrepIs (H : Nat → Bool) (x : Str) (v : Value) (tl : Led) : Prop :=
  (refL H (prep x).cps.toList = [] ∧ RetS (prep x) v tl) ∨ (refL H (prep x).cps.toList ≠ [] ∧ ∃ p vs c, v = .ref p ∧ tl = [(p, W.listOf vs.toArray c)] ∧ IntsAre vs (refL H (prep x).cps.toList))
structure RS where
  vs : List Value
  c : Nat
  o : Obj
section
variable {w : World} {mg mb : Str → Option Value} {loose : List Str} {ad : Str → Addr} {news : Led}
theorem in_c4_saysH {H : Nat → Bool} (hH : ∀ c, H c = inC4 c) (c : Nat) (t : Tok) : Says w mg mb loose ad "in_table_c4" 1 3 [.str ⟨#[c]⟩ t] news (RetB (H c)) := by
  rw [hH]; exact in_c4_says c t
local macro_rules | `(tactic| walk_at $s) => ml s "
 eval ListComp => s wpAny _ _ ( eval ( Expr.ListComp ( Expr.Call _ _ _ _ ) _ _ _ ) _ ) _ _ _ & r Stop.out @p=_ ?_"
local macro_rules | `(tactic| walk_at $s) => ml s "
 eval ListComp => s wpAny _ _ ( eval ( Expr.ListComp ( Expr.Name _ _ ) _ _ _ ) _ ) _ _ _ & r Stop.out @p=_ ?_
 call builtin:list.extend => R iextend ?F ?N ?U ?b ?z ?_; c F k_asm N k_asm U k_updF b k_mem z lia ! i h' n' F' N'; sw
 compareOp Eq ref ref => R ieq ?N ?a ?i ?b ?j ?u ?_; c N k_asm a k_mem i assumption b k_mem j =IntsAre.nil u lia"
local macro_rules | `(tactic| walk_at $s) => ml s "
 exec For Name Name cons nil => R For_invVF ?F ?hx ?hp ?_ {iwu} PassesOwn.never; c F k_asm hx rfl hp rfl"
local macro_rules | `(tactic| walk_at $s) => ml s "
 pyIter str => r Stop.out @p=_ ?_
 call builtin:str.join => R ijoin ?N ?m ?I ?w {decide} ?_; c N k_asm m k_mem I assumption w assumption ! i _ _
 call ref => r Says.useB {@pre} ( in_b1_says _ _ ) ?_; i h' tk' F' N'; sw | r Says.useB {@pre} ( in_c4_saysH {hyp} _ _ ) ?_; i h' tk' F' N'; sw | r Says.useB {@pre} ( in_c6_says _ _ ) ?_; i h' tk' F' N'; sw | r Says.useB {@pre} ( in_c7_says _ _ ) ?_; i h' tk' F' N'; sw | r Says.useB {@pre} ( in_c8_says _ _ ) ?_; i h' tk' F' N'; sw | r Says.useB {@pre} ( in_c9_says _ _ ) ?_; i h' tk' F' N'; sw | r Says.useS {@pre} ( map_b3_says _ _ ) ?_; i k' h' tk' F' N'; sw"
theorem held_at (H : Nat → Bool) (c j : Nat) (h : j < 5) : ([.bool (H c), .bool (c6L.contains (c : Int)), .bool (c7L.contains (c : Int)), .bool (c8L.contains (c : Int)), .bool (c9L.contains (c : Int))] : List Value)[j]? = some (.bool ((heldL H c).getD j false)) := by
  match j, h with
  | 0, _ | 1, _ | 2, _ | 3, _ | 4, _ => rfl
  | n + 5, h => exact absurd h (Nat.not_lt.mpr (Nat.le_add_left 5 n))
local macro_rules | `(tactic| walk_at $s) => ml s "
 subscriptTail Name Name ref int => R item_valE ?N ?m ?v ?x ?j ?_ ?s; c N k_asm v hyp m k_mem x rfl j lia s wu"
theorem prep_body (H : Nat → Bool) (hH : ∀ c, H c = inC4 c) (x : Str) (t : Tok) (hl : x.length ≤ 1000) (hw : ((keepL x.cps.toList).map (·.length)).sum + (keepL x.cps.toList).length ≤ 1000) (hk : (Txt.join (Str.ofString "") (keepL x.cps.toList)).length ≤ 1000) : BodyC w mg mb loose ad 30 19 99 [.str x t] news (PrepIs H x) := by
  refine ⟨?_⟩
  intro dp un gd cd outer A₀ base g L cells s Q B F CA GG N lt hd hu ret
  have KX := noIn g
  conv in fbody _ => dsimp only [fbody, stm, prog, PySem.Challenge.pw_il0214_01, List.getElem?_cons_succ, List.getElem?_cons_zero, Option.getD_some]
  have eC : cellsFrom (L + 1) (fscope 30).names [] = ([("held", L + 1)] : List (Str × Addr)) := by with_unfolding_all rfl
  rw [eC] at CA ⊢
  obtain ⟨oh, rfl, dh⟩ := CA.one
  dsimp only [List.cons_append, List.nil_append] at N
  change Fr g L s.heap (fun y => if y = "typed" then some (.str x t) else none) at F
  k_steps
  refine ⟨?_⟩
  refine comp_strT (by k_asm) (fun y i ys => StrsAre ys (keepL (y.cps.toList.take i))) rfl (by decide) rfl (by decide) rfl ?_ (fun _ => rfl)
  k_steps
  refine ⟨⟨_, _, _, rfl, rfl, by k_asm, by k_asm, Nat.le_trans hl (by decide), .nil, ?step, ?fin⟩⟩
  case step =>
    intro i ys c t' I oI C oC D m2 h tk E' hi hI hc hC hx F' N'
    k_steps
    · refine ⟨_, _, rfl, by k_asm, by k_asm, ?_⟩
      rw [take_snoc hc, keepL_snoc, if_pos (by assumption), List.append_nil]; exact hI
    · refine ⟨_, _, rfl, by k_asm, by k_asm, ?_⟩
      rw [take_snoc hc, keepL_snoc, if_neg (ne_true_of_eq_false (by assumption))]; exact StrsAre.snoc hI _ _
  case fin =>
    intro D ys h tk hI F' N'
    rw [List.take_of_length_le (by simp)] at hI
    k_steps
    generalize hK : Txt.join (Str.ofString "") (keepL x.cps.toList) = kept at *
    refine ⟨?_⟩
    refine' iter_str_0 (α := RS) rfl (fun _ a => []) [("kept", .str kept _), ("refused", .ref ?D)] [?D, L + 1] (fun _ a => [W.listOf a.vs.toArray a.c, a.o]) news (fun i a => IntsAre a.vs (refL H (kept.cps.toList.take i)) ∧ ∃ v₀, a.o.data = .cell v₀) ⟨[], 0, oh⟩ ?F ?N (Nat.le_refl _) ?hn ⟨.nil, _, dh⟩ ?hV ?turn ?done
    case F => k_asm
    case N => k_asm
    case hV => exact (.cons (by repeat (first | exact if_pos rfl | refine (if_neg (by decide +kernel)).trans ?_ | with_unfolding_all rfl)) (.cons (by repeat (first | exact if_pos rfl | refine (if_neg (by decide +kernel)).trans ?_ | with_unfolding_all rfl)) .nil))
    case hn => exact List.forall_mem_cons.mpr ⟨by k_mem, List.forall_mem_cons.mpr ⟨by k_mem, by show ∀ p ∈ news, _; kcj_all⟩⟩
    case turn =>
      intro i a c t' I io m1 h1 tk1 hi hI hc hlt F' N'
      obtain ⟨hI, v0, hv0⟩ := hI
      dsimp only [List.zip, List.zipWith, List.cons_append, List.nil_append] at N'
      (try k_lt hlt)
      have hsz : a.vs.length ≤ 5000 := by
        have h1 := hI.length
        have h2 := refL_len H (kept.cps.toList.take i)
        have h3 : (kept.cps.toList.take i).length ≤ i := by rw [List.length_take]; exact Nat.min_le_left _ _
        have h4 : kept.cps.size ≤ 1000 := hk
        omega
      refine @gq _ _ _ _ _ _ _ fun Q2 hQ2 => ?_
      k_steps
      refine ⟨?_⟩
      refine comp_rangeT (by k_asm) rfl 5 (fun i ys => IntsAre ys (refTo H c i)) rfl (by decide) rfl (by decide) rfl ?_ (fun _ => rfl)
      k_steps
      rename IsRange _ _ _ _ _ _ _ _ => R'
      refine' ⟨⟨_, _, _, _, _, _, _, rfl, R', ?sm, ?rs, ?F2, ?N2, ?le, ?z2, ?step2, ?fin2⟩⟩
      case sm => decide
      case rs => decide
      case F2 => k_asm
      case N2 => k_asm
      case le => decide
      case z2 => rw [refTo_zero]; exact .nil
      case step2 =>
        intro j zs tj I2 oI2 C2 oC2 D2 m3 h3 tk3 E3 hj hJ hC2 hx2 F' N'
        have hv := held_at H c j hj
        rw [Int.zero_add] at hx2
        k_steps
        · refine ⟨_, _, rfl, by k_asm, by k_asm, ?_⟩
          rw [refTo_succ, if_pos (by assumption)]
          exact hJ.append (.cons _ _ .nil)
        · refine ⟨_, _, rfl, by k_asm, by k_asm, ?_⟩
          rw [refTo_succ, if_neg (ne_true_of_eq_false (by assumption)), List.append_nil]
          exact hJ
      case fin2 =>
        intro D2 zs h3 tk3 hJ F' N' off2
        have hzl := hJ.length
        have hzl2 := refTo_len H c 5
        have hzz : zs.length ≤ 5 := by omega
        clear hzl hzl2
        simp only [LCg.Off1] at off2
        k_steps
        rename News _ _ _ _ => N'
        refine hQ2 _ _ ⟨_, _, _, _, ⟨_, _, _⟩, rfl, by k_asm, by k_asm, by k_mem, List.forall_mem_cons.mpr ⟨by k_mem, List.forall_mem_cons.mpr ⟨by k_mem, by show ∀ p ∈ news, _; kcj_all⟩⟩, ⟨?_, _, by assumption⟩, .cons (by repeat (first | exact if_pos rfl | refine (if_neg (by decide +kernel)).trans ?_ | with_unfolding_all rfl)) (.cons (by repeat (first | exact if_pos rfl | refine (if_neg (by decide +kernel)).trans ?_ | with_unfolding_all rfl)) .nil)⟩
        show IntsAre (a.vs ++ zs) _
        rw [take_snoc hc, refL_snoc]
        exact hI.append hJ
    case done =>
      intro a m1 h1 tk1 hI F' N'
      obtain ⟨hI, v0, hv0⟩ := hI
      rw [List.take_of_length_le (by simp)] at hI
      dsimp only [List.zip, List.zipWith, List.cons_append, List.nil_append] at N'
      k_steps
      · (try dsimp only); refine ret _ [] _ _ _ (by k_asm) (by first | k_asm | exact cb_drop (by assumption) (by show ∀ p ∈ news, _; (first | (intro p hp; (repeat (first | exact hp | apply List.mem_cons_of_mem)); done) | kcj_all))) (fun _ _ _ h => nomatch h) ?_
        refine .inl ⟨?_, ?_⟩
        · rw [prep, hK]; exact of_decide_eq_true (by assumption)
        · rw [prep, hK]; exact ⟨⟨_, rfl⟩, rfl⟩
      · (try dsimp only); refine ret _ [(_, W.listOf (List.toArray a.vs) a.c)] _ _ _ (by k_asm) (cb_drop (by assumption) (List.forall_mem_cons.mpr ⟨by k_mem, by show ∀ p ∈ news, _; kcj_all⟩)) (by show ∀ q ∈ news, _; intro q hq p hp; obtain rfl := List.mem_singleton.mp hp; exact ord_of (by assumption) hq (by (try dsimp only); omega)) ?_
        refine .inr ⟨?_, ?_⟩
        · rw [prep, hK]; exact of_decide_eq_false (by assumption)
        · rw [prep, hK]; exact ⟨_, _, _, rfl, rfl, hI⟩
theorem prep_says (H : Nat → Bool) (hH : ∀ c, H c = inC4 c) (x : Str) (t : Tok) (hl : x.length ≤ 1000) (hw : ((keepL x.cps.toList).map (·.length)).sum + (keepL x.cps.toList).length ≤ 1000) (hk : (Txt.join (Str.ofString "") (keepL x.cps.toList)).length ≤ 1000) :
    Says w mg mb loose ad "_law_prepared" 20 102 [.str x t] news (PrepIs H x) :=
  says_of_bodyC (i := 30) rfl rfl (fun _ _ _ => BindsTo.of_eq rfl) (fun n y hy => .inl (locs rfl y hy)) (by decide +kernel) (by kernel_rfl) (by kernel_rfl) (by kernel_rfl) (prep_body H hH x t hl hw hk)
end
theorem fl_7 {M : Model} {A : Around} {E : Value → Shared → Prop} {s : Shared} {Q : Bool → Shared → Prop} {v : Value} (h : wpAny M A (truthy v) Q E s) : wpAny M A (truthy v) Q E s := by
  first
    | (walk1; done)
    | exact h
theorem news_again {h₀ h : Heap} {L : Addr} {news : Led} {p : Addr × Obj} (N : News h₀ L h news) (hp : p ∈ news) : News h₀ L h (p :: news) := fun q hq => by
  rcases List.mem_cons.mp hq with rfl | hq
  · exact N _ hp
  · exact N _ hq
structure Go : Prop where
inductive PMid (h₀ : Heap) (L : Addr) (m : Str → Option Value) (s₁ : Shared) (P : Addr) (W₀ : Led) (p0 p1 p2 : Option Str × Option Str) : Flow → Shared → Prop
  | mk (h' : Heap) (tk : Nat) (aq bq dq : Addr) (c ac bc dc : Nat) (at1 au bt bu dt du : Tok) (F : Fr h₀ L h' m) (N : News h₀ L h' ((P, W.listOf #[.ref aq, .ref bq, .ref dq] c) :: (aq, W.listOf #[vo p0.1 at1, vo p0.2 au] ac) :: (bq, W.listOf #[vo p1.1 bt, vo p1.2 bu] bc) :: (dq, W.listOf #[vo p2.1 dt, vo p2.2 du] dc) :: W₀))
      (ne : (@Ne Nat aq P ∧ @Ne Nat bq P ∧ @Ne Nat dq P) ∧ @LT.lt Nat _ L aq ∧ @LT.lt Nat _ L bq ∧ @LT.lt Nat _ L dq) : PMid h₀ L m s₁ P W₀ p0 p1 p2 .next { s₁ with heap := h', toks := tk }
theorem PMid.mk' {h₀ : Heap} {L : Addr} {m : Str → Option Value} {s₁ : Shared} {P : Addr} {W₀ full : Led} {p0 p1 p2 : Option Str × Option Str} {h' : Heap} {tk : Nat} {qa qb qd : Addr} {c ca cb cd : Nat} {ta ua tb ub td ud : Tok}
    (F : Fr h₀ L h' m) (N : News h₀ L h' full) (hP : (P, W.listOf #[.ref qa, .ref qb, .ref qd] c) ∈ full)
    (ha : (qa, W.listOf #[vo p0.1 ta, vo p0.2 ua] ca) ∈ full) (hb : (qb, W.listOf #[vo p1.1 tb, vo p1.2 ub] cb) ∈ full) (hd : (qd, W.listOf #[vo p2.1 td, vo p2.2 ud] cd) ∈ full)
    (hW : ∀ p ∈ W₀, p ∈ full) (ne : (@Ne Nat qa P ∧ @Ne Nat qb P ∧ @Ne Nat qd P) ∧ @LT.lt Nat _ L qa ∧ @LT.lt Nat _ L qb ∧ @LT.lt Nat _ L qd) : PMid h₀ L m s₁ P W₀ p0 p1 p2 .next { s₁ with heap := h', toks := tk } :=
  .mk h' tk qa qb qd c ca cb cd ta ua tb ub td ud F (fun p hp => N p (by
    rcases List.mem_cons.mp hp with rfl | hp
    · exact hP
    · rcases List.mem_cons.mp hp with rfl | hp
      · exact ha
      · rcases List.mem_cons.mp hp with rfl | hp
        · exact hb
        · rcases List.mem_cons.mp hp with rfl | hp
          · exact hd
          · exact hW p hp)) ne
noncomputable def FigAt (fo : Obj) (x : Int) (v : Value) : Prop := ∃ vs c j, fo = W.listOf (List.toArray vs) c ∧ x = ((j : Nat) : Int) ∧ j < 1000 ∧ vs[j]? = some v
theorem fig_val {w : World} {news : Led} {A : Around} {E : Value → Shared → Prop} {s : Shared} {h₀ : Heap} {L : Addr} {value slice : PySem.Expr} {l : Addr} {fo : Obj} {x : Int} {v : Value} {u : Tok} {Q : Value → Shared → Prop} (N : News h₀ L s.heap news) (hm : (l, fo) ∈ news) (hf : FigAt fo x v) (h : Q v s)
    (hs : subscripted slice false (.ref l) (.int x u) = operate [.ref l, .int x u] (getItem (.ref l) (.int x u))) : wpAny (model prog w) A (subscriptTail value slice (.ref l) (.int x u)) Q E s := by
  obtain ⟨vs, c, j, rfl, e, hj, hv⟩ := hf
  exact item_valE N hm hv e hj h hs
noncomputable def noP : Option Str × Option Str := (none, none)
noncomputable def p0Of (f0 f1 : Nat) : Option Str × Option Str := if (f0 : Int) > 0 then (some (wtN f1), some (wwN f1)) else noP
noncomputable def p1Of (f2 f3 : Nat) : Option Str × Option Str := if (f2 : Int) = 1 then (none, some "UTF-8") else if (f2 : Int) = 2 then (none, some "ISO8859-15") else if (f2 : Int) > 2 then (some (wtN f3), some (wwN f3)) else noP
noncomputable def euC (i : Nat) : Nat := ([101, 117, 114, 111] : List Nat).getD i 101
noncomputable def euS (f5 i : Nat) : Str := ⟨#[ltr (euC i) ((Int.fdiv (f5 : Int) (8 ^ i)).fmod 8)]⟩
noncomputable def euL (f5 n : Nat) : List Str := (List.range n).map (euS f5)
noncomputable def euT (f5 : Nat) : Str := Txt.join (Str.ofString "") (euL f5 4)
noncomputable def p2Of (f4 f5 : Nat) : Option Str × Option Str := if (f4 : Int) = 1 then (some (euT f5), some "euro") else if (f4 : Int) > 1 then (some (wtN f5), some (wwN f5)) else noP
theorem euL_succ (f5 n : Nat) : euL f5 (n + 1) = euL f5 n ++ [euS f5 n] := by
  unfold euL; rw [List.range_succ, List.map_append]; rfl
noncomputable def brd (ty : Str) (n : Nat) : Str := Txt.slice ty none (some 1) ++ ⟨#[barS n]⟩ ++ Txt.slice ty (some 1) none
inductive PartsU (p0 p1 p2 : Option Str × Option Str) : Value → Led → Prop
  | mk (P qa qb qd : Addr) (c ca cb cd : Nat) (ta ua tb ub td ud : Tok) : PartsU p0 p1 p2 (.ref P) [(P, W.listOf #[.ref qa, .ref qb, .ref qd] c), (qa, W.listOf #[vo p0.1 ta, vo p0.2 ua] ca), (qb, W.listOf #[vo p1.1 tb, vo p1.2 ub] cb), (qd, W.listOf #[vo p2.1 td, vo p2.2 ud] cd)]
inductive PartsB : Nat → Str → Int → Option Str × Option Str → Option Str × Option Str → Option Str × Option Str → Value → Led → Prop
  | mk0 {x : Str} {n : Int} {p0 p1 p2 : Option Str × Option Str} {P qa qb qd r : Addr} {c ca cb cd cr : Nat} {ta tb td ur ub ud : Tok} : PartsB 0 x n p0 p1 p2 (.ref P) [(P, W.listOf #[.ref qa, .ref qb, .ref qd] c), (r, W.listOf #[.int n ur] cr), (qa, W.listOf #[.str x ta, .ref r] ca), (qb, W.listOf #[vo p1.1 tb, vo p1.2 ub] cb), (qd, W.listOf #[vo p2.1 td, vo p2.2 ud] cd)]
  | mk1 {x : Str} {n : Int} {p0 p1 p2 : Option Str × Option Str} {P qa qb qd r : Addr} {c ca cb cd cr : Nat} {ta tb td ur ua ud : Tok} : PartsB 1 x n p0 p1 p2 (.ref P) [(P, W.listOf #[.ref qa, .ref qb, .ref qd] c), (r, W.listOf #[.int n ur] cr), (qa, W.listOf #[vo p0.1 ta, vo p0.2 ua] ca), (qb, W.listOf #[.str x tb, .ref r] cb), (qd, W.listOf #[vo p2.1 td, vo p2.2 ud] cd)]
  | mk2 {x : Str} {n : Int} {p0 p1 p2 : Option Str × Option Str} {P qa qb qd r : Addr} {c ca cb cd cr : Nat} {ta tb td ur ua ub : Tok} : PartsB 2 x n p0 p1 p2 (.ref P) [(P, W.listOf #[.ref qa, .ref qb, .ref qd] c), (r, W.listOf #[.int n ur] cr), (qa, W.listOf #[vo p0.1 ta, vo p0.2 ua] ca), (qb, W.listOf #[vo p1.1 tb, vo p1.2 ub] cb), (qd, W.listOf #[.str x td, .ref r] cd)]
noncomputable def PartsIs (f6 f7 : Nat) (p0 p1 p2 : Option Str × Option Str) (v : Value) (tl : Led) : Prop :=
  (∃ k x, f6 = k + 5 ∧ (k = 0 ∧ p0.1 = some x ∨ k = 1 ∧ p1.1 = some x ∨ k = 2 ∧ p2.1 = some x) ∧ PartsB k (brd x f7) (barW f7) p0 p1 p2 v tl) ∨
  ((f6 < 5 ∨ f6 = 5 ∧ p0.1 = none ∨ f6 = 6 ∧ p1.1 = none ∨ f6 = 7 ∧ p2.1 = none) ∧ PartsU p0 p1 p2 v tl)
inductive PFin (h₀ : Heap) (L : Addr) (s₁ : Shared) (P : Addr) (news : Led) (R : Led → Prop) : Flow → Shared → Prop
  | mk (h' : Heap) (tk : Nat) (m : Str → Option Value) (tl : Led) (F : Fr h₀ L h' m) (V : AgreeV m [("parts", .ref P)]) (N : News h₀ L h' (tl ++ news)) (hL : ∀ p ∈ tl, @LT.lt Nat _ L p.1) (hR : R tl) : PFin h₀ L s₁ P news R .next { s₁ with heap := h', toks := tk }
noncomputable def st29 (i : Nat) : Stmt := ((fbody 29)[i]?).getD (.Pass ⟨0, 0, 0, 0⟩)
section
variable {w : World} {mg mb : Str → Option Value} {loose : List Str} {ad : Str → Addr} {news : Led}
local macro_rules | `(tactic| walk_at $s) => ml s "
 exec If Compare cons nil => no Go & r Stop.out @p=_ ?_
 exec If Compare cons cons => no Go & r Stop.out @p=_ ?_
 exec If BoolOp cons nil => no Go & r Stop.out @p=_ ?_"
theorem letter_saysC {x : Str} {c : Nat} {wr : Int} {t u : Tok} (hx : x = ⟨#[c]⟩) (h : 97 ≤ c ∧ c ≤ 122) (h3 : 0 ≤ wr) (h4 : wr < 12) : Says w mg mb loose ad "_law_letter" 1 3 [.str x t, .int wr u] news (RetS ⟨#[ltr c wr]⟩) := by
  subst hx; exact letter_says c wr t u h.1 h.2 h3 h4
local macro_rules | `(tactic| walk_at $s) => ml s "
 eval ListComp => r Stop.out @p=_ ?_
 call ref => r Says.use2 {@pre} ( word_says _ _ {lia} ) ?_ ! i p' t1' t2' c' h' tk' l1 F' N'; l l1; sw"
theorem mod8 (x : Int) : 0 ≤ Int.fmod x 8 ∧ Int.fmod x 8 < 12 := by
  have h1 := Int.fmod_nonneg_of_pos x (b := 8) (by decide)
  have h2 := Int.fmod_lt_of_pos x (b := 8) (by decide)
  omega
local macro_rules | `(tactic| walk_at $s) => ml s "
 call ref => r Says.useS {@pre} ( letter_saysC rfl {decide} ( And.left ( mod8 _ ) ) ( And.right ( mod8 _ ) ) ) ?_ ! i k' h' tk' F' N'; sw"

local macro_rules | `(tactic| walk_at $s) => ml s "
 subscriptTail Name Constant ref int => R fig_val ?N ?m ?f ?_ ?s; c N k_asm f hyp m k_mem s wu"
theorem cut_to {A : Around} {E : Value → Shared → Prop} {s : Shared} {h₀ : Heap} {L : Addr} {m : Str → Option Value} {x : Str} {t : Tok} {j : Int} {uj : Tok} {value slice : PySem.Expr} {Q : Value → Shared → Prop} (F : Fr h₀ L s.heap m) (N : News h₀ L s.heap news) (hx : x.length ≤ 1000)
    (h : ∀ h' t' k, Fr h₀ L h' m → News h₀ L h' news → (Txt.slice x none (some j)).length ≤ 1000 → Q (.str (Txt.slice x none (some j)) t') { s with heap := h', toks := k })
    (hs : subscripted slice false (.str x t) (.ref s.heap.objs.size) = operate [.str x t, .ref s.heap.objs.size] (getItem (.str x t) (.ref s.heap.objs.size))) (ht : ∀ r, letTemporaryGo value (.str x t) r = pure ()) :
    wpAny (model prog w) A (subscriptTail value slice (.str x t) (.ref s.heap.objs.size)) Q E { s with heap := s.heap.push { cls := .type "slice", data := .fields #[.none, .int j uj, .none] } } :=
  subscriptTail_ops (T := "str") (typeIs_str _ _ _) PySem.F.slot_str_getitem.lookup
    (wpAny_getItem_str_slice (l := none) (u := some (j, uj)) (st := none) ⟨_, Heap.get?_push_size _ rfl, rfl, rfl⟩ rfl
      (post_val_or_str ⟨Nat.le_trans (Txt.slice_le x _ _) (Nat.le_trans hx (by decide)), fun t' k => h _ t' k (F.push _) (N.grown fun _ _ e => Heap.get?_push_of_some _ e) (Nat.le_trans (Txt.slice_le x _ _) hx)⟩)) hs ht
theorem cut_from {A : Around} {E : Value → Shared → Prop} {s : Shared} {h₀ : Heap} {L : Addr} {m : Str → Option Value} {x : Str} {t : Tok} {j : Int} {uj : Tok} {value slice : PySem.Expr} {Q : Value → Shared → Prop} (F : Fr h₀ L s.heap m) (N : News h₀ L s.heap news) (hx : x.length ≤ 1000)
    (h : ∀ h' t' k, Fr h₀ L h' m → News h₀ L h' news → (Txt.slice x (some j) none).length ≤ 1000 → Q (.str (Txt.slice x (some j) none) t') { s with heap := h', toks := k })
    (hs : subscripted slice false (.str x t) (.ref s.heap.objs.size) = operate [.str x t, .ref s.heap.objs.size] (getItem (.str x t) (.ref s.heap.objs.size))) (ht : ∀ r, letTemporaryGo value (.str x t) r = pure ()) :
    wpAny (model prog w) A (subscriptTail value slice (.str x t) (.ref s.heap.objs.size)) Q E { s with heap := s.heap.push { cls := .type "slice", data := .fields #[.int j uj, .none, .none] } } :=
  subscriptTail_ops (T := "str") (typeIs_str _ _ _) PySem.F.slot_str_getitem.lookup
    (wpAny_getItem_str_slice (l := some (j, uj)) (u := none) (st := none) ⟨_, Heap.get?_push_size _ rfl, rfl, rfl⟩ rfl
      (post_val_or_str ⟨Nat.le_trans (Txt.slice_le x _ _) (Nat.le_trans hx (by decide)), fun t' k => h _ t' k (F.push _) (N.grown fun _ _ e => Heap.get?_push_of_some _ e) (Nat.le_trans (Txt.slice_le x _ _) hx)⟩)) hs ht
local macro_rules | `(tactic| walk_at $s) => ml s "
 subscriptTail Name Slice str ref => R cut_to ?F ?N ?x ?_ ?s ?t; c F k_asm N k_asm x assumption s wu t iwu | R cut_from ?F ?N ?x ?_ ?s ?t; c F k_asm N k_asm x assumption s wu t iwu ! i h' t' k' F' N' hl'; sw"
theorem bar_saysE {x : Int} {n : Nat} {t : Tok} (hx : x = (n : Int)) (hn : n < 195) : Says w mg mb loose ad "_law_barred" 10 12 [.int x t] news (fun v tl => ∃ p t1 t2 c, v = .ref p ∧ tl = [(p, W.listOf #[.str ⟨#[barS n]⟩ t1, .int (barW n) t2] c)]) := by
  subst hx; exact bar_says n t hn
local macro_rules | `(tactic| walk_at $s) => ml s "
 call ref => r Says.use2 {@pre} ( bar_saysE rfl {hyp} ) ?_ ! i p' t1' t2' c' h' tk' l1 F' N'; l l1; sw"
theorem parts_st40 {st : Stmt} (hst : st = st29 5) {fo : Obj} {f7 : Nat} {t7 : Tok} {fg : Addr} {dp un : Nat} {gd : Option (List Code)} {cd : Value} {outer : List Env} {A₀ : Around} {base g : Heap} {L : Addr} {s : Shared} {oh : Obj} {P aq bq dq : Addr} {c' ac bc dc : Nat} {x0 y0 x1 y1 x2 y2 : Option Str} {at1 au bt bu dt du t : Tok}
   (g7 : FigAt fo 7 (.int f7 t7)) (h7 : f7 < 195) (hx0 : ∀ x, x0 = some x → x.length ≤ 1000) (B : Below A₀ base outer g) (GG : G w mg mb loose ad g) (lt : ∀ q ∈ news, q.1 < L) (hd : dp + 99 < recursionLimit) (hu : un + 99 < cLine) (KX : Frag.In [] g)
   (dh : oh.data = .cell (some (.ref fg))) (hfl : fg < L) (hne : (@Ne Nat aq P ∧ @Ne Nat bq P ∧ @Ne Nat dq P) ∧ @LT.lt Nat _ L aq ∧ @LT.lt Nat _ L bq ∧ @LT.lt Nat _ L dq) (hP : @LT.lt Nat _ fg P ∧ @LT.lt Nat _ (L + 1) P ∧ AllLt P news)
   (F1 : Fr g L s.heap (fun y => if y = "place" then some (.int 0 t) else if y = "parts" then some (.ref P) else none))
   (N1 : News g L s.heap ((P, W.listOf #[.ref aq, .ref bq, .ref dq] c') :: (aq, W.listOf #[vo x0 at1, vo y0 au] ac) :: (bq, W.listOf #[vo x1 bt, vo y1 bu] bc) :: (dq, W.listOf #[vo x2 dt, vo y2 du] dc) :: (fg, fo) :: (L + 1, oh) :: news)) :
   wpAny (model prog w) (ktrTop dp un gd (fname 29) (fscope 29) L (ad (fname 29)) cd [("figures", L + 1)] outer) (exec st (envX (fname 29) (fscope 29) L (ad (fname 29)) cd [("figures", L + 1)])) (PFin g L s P news (PartsIs 5 f7 (x0, y0) (x1, y1) (x2, y2) (.ref P))) (fun _ _ => False) s := by
  subst hst
  conv in st29 5 => dsimp only [st29, fbody, stm, prog, PySem.Challenge.pw_il0214_01, List.getElem?_cons_succ, List.getElem?_cons_zero, Option.getD_some]
  have go := Go.mk
  obtain ⟨⟨na, nb, nd⟩, La, Lb, Ld⟩ := hne
  have hP' := hP
  obtain ⟨p1, p2, p3⟩ := hP'
  rcases x0 with _ | x0
  · simp only [show ∀ t, vo none t = .none from fun _ => rfl] at N1
    refine @gq _ _ _ _ _ _ _ fun Q' hQ' => ?_
    k_steps
    refine hQ' _ _ ?_
    refine .mk _ _ _ [(P, _), (aq, _), (bq, _), (dq, _)] (by k_asm) (.cons (by repeat (first | exact if_pos rfl | refine (if_neg (by decide +kernel)).trans ?_ | with_unfolding_all rfl)) .nil) (cb_drop (by assumption) (List.forall_mem_cons.mpr ⟨by k_mem, (List.forall_mem_cons.mpr ⟨by k_mem, (List.forall_mem_cons.mpr ⟨by k_mem, (List.forall_mem_cons.mpr ⟨by k_mem, (by show ∀ p ∈ news, _; kcj_all)⟩)⟩)⟩)⟩)) (List.forall_mem_cons.mpr ⟨by (try dsimp only); omega, (List.forall_mem_cons.mpr ⟨by (try dsimp only); omega, (List.forall_mem_cons.mpr ⟨by (try dsimp only); omega, (List.forall_mem_cons.mpr ⟨by (try dsimp only); omega, (fun _ h => nomatch h)⟩)⟩)⟩)⟩) (.inr ⟨.inr (.inl ⟨rfl, rfl⟩), .mk P aq bq dq c' ac bc dc at1 au bt bu dt du⟩)
  · simp only [show ∀ x t, vo (some x) t = .str x t from fun _ _ => rfl] at N1
    have hx0' := hx0 _ rfl
    refine @gq _ _ _ _ _ _ _ fun Q' hQ' => ?_
    k_steps
    refine hQ' _ _ ?_
    refine .mk _ _ _ [(P, _), (_, W.listOf #[.int _ _] _), (_, _), (bq, _), (dq, _)] (by k_asm) (.cons (by repeat (first | exact if_pos rfl | refine (if_neg (by decide +kernel)).trans ?_ | with_unfolding_all rfl)) .nil) (cb_drop (by assumption) (List.forall_mem_cons.mpr ⟨by k_mem, (List.forall_mem_cons.mpr ⟨by k_mem, (List.forall_mem_cons.mpr ⟨by k_mem, (List.forall_mem_cons.mpr ⟨by k_mem, (List.forall_mem_cons.mpr ⟨by k_mem, (by show ∀ p ∈ news, _; kcj_all)⟩)⟩)⟩)⟩)⟩)) (List.forall_mem_cons.mpr ⟨by (try dsimp only); omega, (List.forall_mem_cons.mpr ⟨by (try dsimp only); omega, (List.forall_mem_cons.mpr ⟨by (try dsimp only); omega, (List.forall_mem_cons.mpr ⟨by (try dsimp only); omega, (List.forall_mem_cons.mpr ⟨by (try dsimp only); omega, (fun _ h => nomatch h)⟩)⟩)⟩)⟩)⟩) (.inl ⟨0, x0, rfl, .inl ⟨rfl, rfl⟩, .mk0⟩)
theorem parts_st41 {st : Stmt} (hst : st = st29 5) {fo : Obj} {f7 : Nat} {t7 : Tok} {fg : Addr} {dp un : Nat} {gd : Option (List Code)} {cd : Value} {outer : List Env} {A₀ : Around} {base g : Heap} {L : Addr} {s : Shared} {oh : Obj} {P aq bq dq : Addr} {c' ac bc dc : Nat} {x0 y0 x1 y1 x2 y2 : Option Str} {at1 au bt bu dt du t : Tok}
   (g7 : FigAt fo 7 (.int f7 t7)) (h7 : f7 < 195) (hx0 : ∀ x, x1 = some x → x.length ≤ 1000) (B : Below A₀ base outer g) (GG : G w mg mb loose ad g) (lt : ∀ q ∈ news, q.1 < L) (hd : dp + 99 < recursionLimit) (hu : un + 99 < cLine) (KX : Frag.In [] g)
   (dh : oh.data = .cell (some (.ref fg))) (hfl : fg < L) (hne : (@Ne Nat aq P ∧ @Ne Nat bq P ∧ @Ne Nat dq P) ∧ @LT.lt Nat _ L aq ∧ @LT.lt Nat _ L bq ∧ @LT.lt Nat _ L dq) (hP : @LT.lt Nat _ fg P ∧ @LT.lt Nat _ (L + 1) P ∧ AllLt P news)
   (F1 : Fr g L s.heap (fun y => if y = "place" then some (.int 1 t) else if y = "parts" then some (.ref P) else none))
   (N1 : News g L s.heap ((P, W.listOf #[.ref aq, .ref bq, .ref dq] c') :: (aq, W.listOf #[vo x0 at1, vo y0 au] ac) :: (bq, W.listOf #[vo x1 bt, vo y1 bu] bc) :: (dq, W.listOf #[vo x2 dt, vo y2 du] dc) :: (fg, fo) :: (L + 1, oh) :: news)) :
   wpAny (model prog w) (ktrTop dp un gd (fname 29) (fscope 29) L (ad (fname 29)) cd [("figures", L + 1)] outer) (exec st (envX (fname 29) (fscope 29) L (ad (fname 29)) cd [("figures", L + 1)])) (PFin g L s P news (PartsIs 6 f7 (x0, y0) (x1, y1) (x2, y2) (.ref P))) (fun _ _ => False) s := by
  subst hst
  conv in st29 5 => dsimp only [st29, fbody, stm, prog, PySem.Challenge.pw_il0214_01, List.getElem?_cons_succ, List.getElem?_cons_zero, Option.getD_some]
  have go := Go.mk
  obtain ⟨⟨na, nb, nd⟩, La, Lb, Ld⟩ := hne
  have hP' := hP
  obtain ⟨p1, p2, p3⟩ := hP'
  rcases x1 with _ | x1
  · simp only [show ∀ t, vo none t = .none from fun _ => rfl] at N1
    refine @gq _ _ _ _ _ _ _ fun Q' hQ' => ?_
    k_steps
    refine hQ' _ _ ?_
    refine .mk _ _ _ [(P, _), (aq, _), (bq, _), (dq, _)] (by k_asm) (.cons (by repeat (first | exact if_pos rfl | refine (if_neg (by decide +kernel)).trans ?_ | with_unfolding_all rfl)) .nil) (cb_drop (by assumption) (List.forall_mem_cons.mpr ⟨by k_mem, (List.forall_mem_cons.mpr ⟨by k_mem, (List.forall_mem_cons.mpr ⟨by k_mem, (List.forall_mem_cons.mpr ⟨by k_mem, (by show ∀ p ∈ news, _; kcj_all)⟩)⟩)⟩)⟩)) (List.forall_mem_cons.mpr ⟨by (try dsimp only); omega, (List.forall_mem_cons.mpr ⟨by (try dsimp only); omega, (List.forall_mem_cons.mpr ⟨by (try dsimp only); omega, (List.forall_mem_cons.mpr ⟨by (try dsimp only); omega, (fun _ h => nomatch h)⟩)⟩)⟩)⟩) (.inr ⟨.inr (.inr (.inl ⟨rfl, rfl⟩)), .mk P aq bq dq c' ac bc dc at1 au bt bu dt du⟩)
  · simp only [show ∀ x t, vo (some x) t = .str x t from fun _ _ => rfl] at N1
    have hx0' := hx0 _ rfl
    refine @gq _ _ _ _ _ _ _ fun Q' hQ' => ?_
    k_steps
    refine hQ' _ _ ?_
    refine .mk _ _ _ [(P, _), (_, W.listOf #[.int _ _] _), (aq, _), (_, _), (dq, _)] (by k_asm) (.cons (by repeat (first | exact if_pos rfl | refine (if_neg (by decide +kernel)).trans ?_ | with_unfolding_all rfl)) .nil) (cb_drop (by assumption) (List.forall_mem_cons.mpr ⟨by k_mem, (List.forall_mem_cons.mpr ⟨by k_mem, (List.forall_mem_cons.mpr ⟨by k_mem, (List.forall_mem_cons.mpr ⟨by k_mem, (List.forall_mem_cons.mpr ⟨by k_mem, (by show ∀ p ∈ news, _; kcj_all)⟩)⟩)⟩)⟩)⟩)) (List.forall_mem_cons.mpr ⟨by (try dsimp only); omega, (List.forall_mem_cons.mpr ⟨by (try dsimp only); omega, (List.forall_mem_cons.mpr ⟨by (try dsimp only); omega, (List.forall_mem_cons.mpr ⟨by (try dsimp only); omega, (List.forall_mem_cons.mpr ⟨by (try dsimp only); omega, (fun _ h => nomatch h)⟩)⟩)⟩)⟩)⟩) (.inl ⟨1, x1, rfl, .inr (.inl ⟨rfl, rfl⟩), .mk1⟩)
theorem parts_st42 {st : Stmt} (hst : st = st29 5) {fo : Obj} {f7 : Nat} {t7 : Tok} {fg : Addr} {dp un : Nat} {gd : Option (List Code)} {cd : Value} {outer : List Env} {A₀ : Around} {base g : Heap} {L : Addr} {s : Shared} {oh : Obj} {P aq bq dq : Addr} {c' ac bc dc : Nat} {x0 y0 x1 y1 x2 y2 : Option Str} {at1 au bt bu dt du t : Tok}
   (g7 : FigAt fo 7 (.int f7 t7)) (h7 : f7 < 195) (hx0 : ∀ x, x2 = some x → x.length ≤ 1000) (B : Below A₀ base outer g) (GG : G w mg mb loose ad g) (lt : ∀ q ∈ news, q.1 < L) (hd : dp + 99 < recursionLimit) (hu : un + 99 < cLine) (KX : Frag.In [] g)
   (dh : oh.data = .cell (some (.ref fg))) (hfl : fg < L) (hne : (@Ne Nat aq P ∧ @Ne Nat bq P ∧ @Ne Nat dq P) ∧ @LT.lt Nat _ L aq ∧ @LT.lt Nat _ L bq ∧ @LT.lt Nat _ L dq) (hP : @LT.lt Nat _ fg P ∧ @LT.lt Nat _ (L + 1) P ∧ AllLt P news)
   (F1 : Fr g L s.heap (fun y => if y = "place" then some (.int 2 t) else if y = "parts" then some (.ref P) else none))
   (N1 : News g L s.heap ((P, W.listOf #[.ref aq, .ref bq, .ref dq] c') :: (aq, W.listOf #[vo x0 at1, vo y0 au] ac) :: (bq, W.listOf #[vo x1 bt, vo y1 bu] bc) :: (dq, W.listOf #[vo x2 dt, vo y2 du] dc) :: (fg, fo) :: (L + 1, oh) :: news)) :
   wpAny (model prog w) (ktrTop dp un gd (fname 29) (fscope 29) L (ad (fname 29)) cd [("figures", L + 1)] outer) (exec st (envX (fname 29) (fscope 29) L (ad (fname 29)) cd [("figures", L + 1)])) (PFin g L s P news (PartsIs 7 f7 (x0, y0) (x1, y1) (x2, y2) (.ref P))) (fun _ _ => False) s := by
  subst hst
  conv in st29 5 => dsimp only [st29, fbody, stm, prog, PySem.Challenge.pw_il0214_01, List.getElem?_cons_succ, List.getElem?_cons_zero, Option.getD_some]
  have go := Go.mk
  obtain ⟨⟨na, nb, nd⟩, La, Lb, Ld⟩ := hne
  have hP' := hP
  obtain ⟨p1, p2, p3⟩ := hP'
  rcases x2 with _ | x2
  · simp only [show ∀ t, vo none t = .none from fun _ => rfl] at N1
    refine @gq _ _ _ _ _ _ _ fun Q' hQ' => ?_
    k_steps
    refine hQ' _ _ ?_
    refine .mk _ _ _ [(P, _), (aq, _), (bq, _), (dq, _)] (by k_asm) (.cons (by repeat (first | exact if_pos rfl | refine (if_neg (by decide +kernel)).trans ?_ | with_unfolding_all rfl)) .nil) (cb_drop (by assumption) (List.forall_mem_cons.mpr ⟨by k_mem, (List.forall_mem_cons.mpr ⟨by k_mem, (List.forall_mem_cons.mpr ⟨by k_mem, (List.forall_mem_cons.mpr ⟨by k_mem, (by show ∀ p ∈ news, _; kcj_all)⟩)⟩)⟩)⟩)) (List.forall_mem_cons.mpr ⟨by (try dsimp only); omega, (List.forall_mem_cons.mpr ⟨by (try dsimp only); omega, (List.forall_mem_cons.mpr ⟨by (try dsimp only); omega, (List.forall_mem_cons.mpr ⟨by (try dsimp only); omega, (fun _ h => nomatch h)⟩)⟩)⟩)⟩) (.inr ⟨.inr (.inr (.inr ⟨rfl, rfl⟩)), .mk P aq bq dq c' ac bc dc at1 au bt bu dt du⟩)
  · simp only [show ∀ x t, vo (some x) t = .str x t from fun _ _ => rfl] at N1
    have hx0' := hx0 _ rfl
    refine @gq _ _ _ _ _ _ _ fun Q' hQ' => ?_
    k_steps
    refine hQ' _ _ ?_
    refine .mk _ _ _ [(P, _), (_, W.listOf #[.int _ _] _), (aq, _), (bq, _), (_, _)] (by k_asm) (.cons (by repeat (first | exact if_pos rfl | refine (if_neg (by decide +kernel)).trans ?_ | with_unfolding_all rfl)) .nil) (cb_drop (by assumption) (List.forall_mem_cons.mpr ⟨by k_mem, (List.forall_mem_cons.mpr ⟨by k_mem, (List.forall_mem_cons.mpr ⟨by k_mem, (List.forall_mem_cons.mpr ⟨by k_mem, (List.forall_mem_cons.mpr ⟨by k_mem, (by show ∀ p ∈ news, _; kcj_all)⟩)⟩)⟩)⟩)⟩)) (List.forall_mem_cons.mpr ⟨by (try dsimp only); omega, (List.forall_mem_cons.mpr ⟨by (try dsimp only); omega, (List.forall_mem_cons.mpr ⟨by (try dsimp only); omega, (List.forall_mem_cons.mpr ⟨by (try dsimp only); omega, (List.forall_mem_cons.mpr ⟨by (try dsimp only); omega, (fun _ h => nomatch h)⟩)⟩)⟩)⟩)⟩) (.inl ⟨2, x2, rfl, .inr (.inr ⟨rfl, rfl⟩), .mk2⟩)
theorem parts_st4n {st : Stmt} (hst : st = st29 5) {fo : Obj} {f6 f7 : Nat} {t7 : Tok} {fg : Addr} {dp un : Nat} {gd : Option (List Code)} {cd : Value} {outer : List Env} {A₀ : Around} {base g : Heap} {L : Addr} {s : Shared} {oh : Obj} {P aq bq dq : Addr} {c' ac bc dc : Nat} {x0 y0 x1 y1 x2 y2 : Option Str} {at1 au bt bu dt du t : Tok} {z : Int}
   (g7 : FigAt fo 7 (.int f7 t7)) (h7 : f7 < 195) (hz : z < 0) (h6 : f6 < 5) (B : Below A₀ base outer g) (GG : G w mg mb loose ad g) (lt : ∀ q ∈ news, q.1 < L) (hd : dp + 99 < recursionLimit) (hu : un + 99 < cLine) (KX : Frag.In [] g)
   (dh : oh.data = .cell (some (.ref fg))) (hfl : fg < L) (hne : (@Ne Nat aq P ∧ @Ne Nat bq P ∧ @Ne Nat dq P) ∧ @LT.lt Nat _ L aq ∧ @LT.lt Nat _ L bq ∧ @LT.lt Nat _ L dq) (hP : @LT.lt Nat _ fg P ∧ @LT.lt Nat _ (L + 1) P ∧ AllLt P news)
   (F1 : Fr g L s.heap (fun y => if y = "place" then some (.int z t) else if y = "parts" then some (.ref P) else none))
   (N1 : News g L s.heap ((P, W.listOf #[.ref aq, .ref bq, .ref dq] c') :: (aq, W.listOf #[vo x0 at1, vo y0 au] ac) :: (bq, W.listOf #[vo x1 bt, vo y1 bu] bc) :: (dq, W.listOf #[vo x2 dt, vo y2 du] dc) :: (fg, fo) :: (L + 1, oh) :: news)) :
   wpAny (model prog w) (ktrTop dp un gd (fname 29) (fscope 29) L (ad (fname 29)) cd [("figures", L + 1)] outer) (exec st (envX (fname 29) (fscope 29) L (ad (fname 29)) cd [("figures", L + 1)])) (PFin g L s P news (PartsIs f6 f7 (x0, y0) (x1, y1) (x2, y2) (.ref P))) (fun _ _ => False) s := by
  subst hst
  conv in st29 5 => dsimp only [st29, fbody, stm, prog, PySem.Challenge.pw_il0214_01, List.getElem?_cons_succ, List.getElem?_cons_zero, Option.getD_some]
  have go := Go.mk
  obtain ⟨⟨na, nb, nd⟩, La, Lb, Ld⟩ := hne
  have hP' := hP
  obtain ⟨p1, p2, p3⟩ := hP'
  refine @gq _ _ _ _ _ _ _ fun Q' hQ' => ?_
  k_steps
  · refine hQ' _ _ ?_
    refine .mk _ _ _ [(P, _), (aq, _), (bq, _), (dq, _)] (by k_asm) (.cons (by repeat (first | exact if_pos rfl | refine (if_neg (by decide +kernel)).trans ?_ | with_unfolding_all rfl)) .nil) (cb_drop (by assumption) (List.forall_mem_cons.mpr ⟨by k_mem, (List.forall_mem_cons.mpr ⟨by k_mem, (List.forall_mem_cons.mpr ⟨by k_mem, (List.forall_mem_cons.mpr ⟨by k_mem, (by show ∀ p ∈ news, _; kcj_all)⟩)⟩)⟩)⟩)) (List.forall_mem_cons.mpr ⟨by (try dsimp only); omega, (List.forall_mem_cons.mpr ⟨by (try dsimp only); omega, (List.forall_mem_cons.mpr ⟨by (try dsimp only); omega, (List.forall_mem_cons.mpr ⟨by (try dsimp only); omega, (fun _ h => nomatch h)⟩)⟩)⟩)⟩) (.inr ⟨.inl h6, .mk P aq bq dq c' ac bc dc at1 au bt bu dt du⟩)
end
theorem fl_8 {M : Model} {A : Around} {E : Value → Shared → Prop} {s : Shared} {Q : Bool → Shared → Prop} {v : Value} (h : wpAny M A (truthy v) Q E s) : wpAny M A (truthy v) Q E s := by
  first
    | (walk1; done)
    | exact h
section
variable {w : World} {mg mb : Str → Option Value} {loose : List Str} {ad : Str → Addr} {news : Led}
local macro_rules | `(tactic| walk_at $s) => ml s "
 exec If Compare cons nil => no Go & r Stop.out @p=_ ?_
 exec If Compare cons cons => no Go & r Stop.out @p=_ ?_
 exec If BoolOp cons nil => no Go & r Stop.out @p=_ ?_"
theorem letter_saysD {x : Str} {c : Nat} {wr : Int} {t u : Tok} (hx : x = ⟨#[c]⟩) (h : 97 ≤ c ∧ c ≤ 122) (h3 : 0 ≤ wr) (h4 : wr < 12) : Says w mg mb loose ad "_law_letter" 1 3 [.str x t, .int wr u] news (RetS ⟨#[ltr c wr]⟩) := by
  subst hx; exact letter_says c wr t u h.1 h.2 h3 h4
local macro_rules | `(tactic| walk_at $s) => ml s "
 eval ListComp => r Stop.out @p=_ ?_
 call ref => r Says.use2 {@pre} ( word_says _ _ {lia} ) ?_ ! i p' t1' t2' c' h' tk' l1 F' N'; l l1; sw
 subscriptTail Name Constant ref int => R fig_val ?N ?m ?f ?_ ?s; c N k_asm f hyp m k_mem s wu"
theorem parts_st1 {st : Stmt} (hst : st = st29 1) {fo : Obj} {fa fb : Nat} {ta tb : Tok} {fg : Addr} {dp un : Nat} {gd : Option (List Code)} {cd : Value} {outer : List Env} {A₀ : Around} {base g : Heap} {L : Addr} {s s₀ : Shared} {oh : Obj} {P aq bq dq : Addr} {c' ac bc dc : Nat} {at1 au bt bu dt du : Tok} {h' : Heap} {tk' : Nat}
   (ga : FigAt fo 0 (.int fa ta)) (gb : FigAt fo 1 (.int fb tb)) (hb : fb < 4096) (B : Below A₀ base outer g) (GG : G w mg mb loose ad g) (lt : ∀ q ∈ news, q.1 < L) (hd : dp + 99 < recursionLimit) (hu : un + 99 < cLine) (KX : Frag.In [] g) (es : s = { s₀ with heap := h', toks := tk' })
   (dh : oh.data = .cell (some (.ref fg))) (hfl : fg < L) (hne : (@Ne Nat aq P ∧ @Ne Nat bq P ∧ @Ne Nat dq P) ∧ @LT.lt Nat _ L aq ∧ @LT.lt Nat _ L bq ∧ @LT.lt Nat _ L dq) (hP : @LT.lt Nat _ fg P ∧ @LT.lt Nat _ (L + 1) P ∧ AllLt P news)
   (F1 : Fr g L s.heap (fun y => if y = "parts" then some (.ref P) else none))
   (N1 : News g L s.heap ((P, W.listOf #[.ref aq, .ref bq, .ref dq] c') :: (aq, W.listOf #[vo noP.1 at1, vo noP.2 au] ac) :: (bq, W.listOf #[vo noP.1 bt, vo noP.2 bu] bc) :: (dq, W.listOf #[vo noP.1 dt, vo noP.2 du] dc) :: (fg, fo) :: (L + 1, oh) :: news)) :
   wpAny (model prog w) (ktrTop dp un gd (fname 29) (fscope 29) L (ad (fname 29)) cd [("figures", L + 1)] outer) (exec st (envX (fname 29) (fscope 29) L (ad (fname 29)) cd [("figures", L + 1)])) (PMid g L (fun y => if y = "parts" then some (.ref P) else none) s₀ P ((fg, fo) :: (L + 1, oh) :: news) (p0Of fa fb) noP noP) (fun _ _ => False) s := by
  subst hst
  subst es
  conv in st29 1 => dsimp only [st29, fbody, stm, prog, PySem.Challenge.pw_il0214_01, List.getElem?_cons_succ, List.getElem?_cons_zero, Option.getD_some]
  dsimp only at F1 N1
  have go := Go.mk
  obtain ⟨⟨na, nb, nd⟩, La, Lb, Ld⟩ := hne
  have hP' := hP
  obtain ⟨q1, q2, q3⟩ := hP'
  refine @gq _ _ _ _ _ _ _ fun Q' hQ' => ?_
  k_steps
  · refine hQ' _ _ ?_
    rw [p0Of, if_pos (by assumption)]
    exact PMid.mk' (ta := _) (ua := _) (tb := bt) (ub := bu) (td := dt) (ud := du) (by k_asm) (by k_asm) (by k_mem) (by k_mem) (by k_mem) (by k_mem) (List.forall_mem_cons.mpr ⟨by k_mem, List.forall_mem_cons.mpr ⟨by k_mem, by show ∀ p ∈ news, _; kcj_all⟩⟩) ⟨⟨by omega, by omega, by omega⟩, by omega, by omega, by omega⟩
  · refine hQ' _ _ ?_
    rw [p0Of, if_neg (by assumption)]
    exact PMid.mk' (ta := at1) (ua := au) (tb := bt) (ub := bu) (td := dt) (ud := du) (by k_asm) (by k_asm) (by k_mem) (by k_mem) (by k_mem) (by k_mem) (List.forall_mem_cons.mpr ⟨by k_mem, List.forall_mem_cons.mpr ⟨by k_mem, by show ∀ p ∈ news, _; kcj_all⟩⟩) ⟨⟨by omega, by omega, by omega⟩, by omega, by omega, by omega⟩
theorem parts_st2 {st : Stmt} (hst : st = st29 2) {fo : Obj} {fa fb : Nat} {ta tb : Tok} {fg : Addr} {dp un : Nat} {gd : Option (List Code)} {cd : Value} {outer : List Env} {A₀ : Around} {base g : Heap} {L : Addr} {s s₀ : Shared} {oh : Obj} {P aq bq dq : Addr} {c' ac bc dc : Nat} {p0 : Option Str × Option Str} {at1 au bt bu dt du : Tok} {h' : Heap} {tk' : Nat}
   (ga : FigAt fo 2 (.int fa ta)) (gb : FigAt fo 3 (.int fb tb)) (hb : fb < 4096) (B : Below A₀ base outer g) (GG : G w mg mb loose ad g) (lt : ∀ q ∈ news, q.1 < L) (hd : dp + 99 < recursionLimit) (hu : un + 99 < cLine) (KX : Frag.In [] g) (es : s = { s₀ with heap := h', toks := tk' })
   (dh : oh.data = .cell (some (.ref fg))) (hfl : fg < L) (hne : (@Ne Nat aq P ∧ @Ne Nat bq P ∧ @Ne Nat dq P) ∧ @LT.lt Nat _ L aq ∧ @LT.lt Nat _ L bq ∧ @LT.lt Nat _ L dq) (hP : @LT.lt Nat _ fg P ∧ @LT.lt Nat _ (L + 1) P ∧ AllLt P news)
   (F1 : Fr g L s.heap (fun y => if y = "parts" then some (.ref P) else none))
   (N1 : News g L s.heap ((P, W.listOf #[.ref aq, .ref bq, .ref dq] c') :: (aq, W.listOf #[vo p0.1 at1, vo p0.2 au] ac) :: (bq, W.listOf #[vo noP.1 bt, vo noP.2 bu] bc) :: (dq, W.listOf #[vo noP.1 dt, vo noP.2 du] dc) :: (fg, fo) :: (L + 1, oh) :: news)) :
   wpAny (model prog w) (ktrTop dp un gd (fname 29) (fscope 29) L (ad (fname 29)) cd [("figures", L + 1)] outer) (exec st (envX (fname 29) (fscope 29) L (ad (fname 29)) cd [("figures", L + 1)])) (PMid g L (fun y => if y = "parts" then some (.ref P) else none) s₀ P ((fg, fo) :: (L + 1, oh) :: news) p0 (p1Of fa fb) noP) (fun _ _ => False) s := by
  subst hst
  subst es
  conv in st29 2 => dsimp only [st29, fbody, stm, prog, PySem.Challenge.pw_il0214_01, List.getElem?_cons_succ, List.getElem?_cons_zero, Option.getD_some]
  dsimp only at F1 N1
  have go := Go.mk
  obtain ⟨⟨na, nb, nd⟩, La, Lb, Ld⟩ := hne
  have hP' := hP
  obtain ⟨q1, q2, q3⟩ := hP'
  refine @gq _ _ _ _ _ _ _ fun Q' hQ' => ?_
  k_steps
  · refine hQ' _ _ ?_
    rw [p1Of, if_pos (by assumption)]
    exact PMid.mk' (ta := at1) (ua := au) (tb := 0) (ub := _) (td := dt) (ud := du) (by k_asm) (by k_asm) (by k_mem) (by k_mem) (by k_mem) (by k_mem) (List.forall_mem_cons.mpr ⟨by k_mem, List.forall_mem_cons.mpr ⟨by k_mem, by show ∀ p ∈ news, _; kcj_all⟩⟩) ⟨⟨by omega, by omega, by omega⟩, by omega, by omega, by omega⟩
  · refine hQ' _ _ ?_
    rw [p1Of, if_neg (by assumption), if_pos (by assumption)]
    exact PMid.mk' (ta := at1) (ua := au) (tb := 0) (ub := _) (td := dt) (ud := du) (by k_asm) (by k_asm) (by k_mem) (by k_mem) (by k_mem) (by k_mem) (List.forall_mem_cons.mpr ⟨by k_mem, List.forall_mem_cons.mpr ⟨by k_mem, by show ∀ p ∈ news, _; kcj_all⟩⟩) ⟨⟨by omega, by omega, by omega⟩, by omega, by omega, by omega⟩
  · refine hQ' _ _ ?_
    rw [p1Of, if_neg (by assumption), if_neg (by assumption), if_pos (by assumption)]
    exact PMid.mk' (ta := at1) (ua := au) (tb := _) (ub := _) (td := dt) (ud := du) (by k_asm) (by k_asm) (by k_mem) (by k_mem) (by k_mem) (by k_mem) (List.forall_mem_cons.mpr ⟨by k_mem, List.forall_mem_cons.mpr ⟨by k_mem, by show ∀ p ∈ news, _; kcj_all⟩⟩) ⟨⟨by omega, by omega, by omega⟩, by omega, by omega, by omega⟩
  · refine hQ' _ _ ?_
    rw [p1Of, if_neg (by assumption), if_neg (by assumption), if_neg (by assumption)]
    exact PMid.mk' (ta := at1) (ua := au) (tb := bt) (ub := bu) (td := dt) (ud := du) (by k_asm) (by k_asm) (by k_mem) (by k_mem) (by k_mem) (by k_mem) (List.forall_mem_cons.mpr ⟨by k_mem, List.forall_mem_cons.mpr ⟨by k_mem, by show ∀ p ∈ news, _; kcj_all⟩⟩) ⟨⟨by omega, by omega, by omega⟩, by omega, by omega, by omega⟩
theorem mod8v (x : Int) : 0 ≤ Int.fmod x 8 ∧ Int.fmod x 8 < 12 := by
  have h1 := Int.fmod_nonneg_of_pos x (b := 8) (by decide)
  have h2 := Int.fmod_lt_of_pos x (b := 8) (by decide)
  omega
local macro_rules | `(tactic| walk_at $s) => ml s "
 call ref => r Says.useS {@pre} ( letter_saysD rfl {decide} ( And.left ( mod8v _ ) ) ( And.right ( mod8v _ ) ) ) ?_ ! i k' h' tk' F' N'; sw
 call builtin:str.join => R ijoin ?N ?m ?I ?w {decide} ?_; c N k_asm m k_mem I assumption w assumption ! i _ _"
theorem euL_one (f5 n : Nat) : (euL f5 n).map (·.length) = List.replicate n 1 := by
  induction n with
  | zero => rfl
  | succ n ih => rw [euL_succ, List.map_append, ih, List.replicate_succ']; rfl
theorem parts_st3 {st : Stmt} (hst : st = st29 3) {fo : Obj} {f4 f5 : Nat} {t4 t5 : Tok} {fg : Addr} {dp un : Nat} {gd : Option (List Code)} {cd : Value} {outer : List Env} {A₀ : Around} {base g : Heap} {L : Addr} {s s₀ : Shared} {oh : Obj} {P aq bq dq : Addr} {c' ac bc dc : Nat} {p0 p1 : Option Str × Option Str} {at1 au bt bu dt du : Tok} {h' : Heap} {tk' : Nat}
   (g4 : FigAt fo 4 (.int f4 t4)) (g5 : FigAt fo 5 (.int f5 t5)) (h5 : f5 < 4096) (B : Below A₀ base outer g) (GG : G w mg mb loose ad g) (lt : ∀ q ∈ news, q.1 < L) (hd : dp + 99 < recursionLimit) (hu : un + 99 < cLine) (KX : Frag.In [] g) (es : s = { s₀ with heap := h', toks := tk' })
   (dh : oh.data = .cell (some (.ref fg))) (hfl : fg < L) (hne : (@Ne Nat aq P ∧ @Ne Nat bq P ∧ @Ne Nat dq P) ∧ @LT.lt Nat _ L aq ∧ @LT.lt Nat _ L bq ∧ @LT.lt Nat _ L dq) (hP : @LT.lt Nat _ fg P ∧ @LT.lt Nat _ (L + 1) P ∧ AllLt P news)
   (F1 : Fr g L s.heap (fun y => if y = "parts" then some (.ref P) else none))
   (N1 : News g L s.heap ((P, W.listOf #[.ref aq, .ref bq, .ref dq] c') :: (aq, W.listOf #[vo p0.1 at1, vo p0.2 au] ac) :: (bq, W.listOf #[vo p1.1 bt, vo p1.2 bu] bc) :: (dq, W.listOf #[vo noP.1 dt, vo noP.2 du] dc) :: (fg, fo) :: (L + 1, oh) :: news)) :
   wpAny (model prog w) (ktrTop dp un gd (fname 29) (fscope 29) L (ad (fname 29)) cd [("figures", L + 1)] outer) (exec st (envX (fname 29) (fscope 29) L (ad (fname 29)) cd [("figures", L + 1)])) (PMid g L (fun y => if y = "parts" then some (.ref P) else none) s₀ P ((fg, fo) :: (L + 1, oh) :: news) p0 p1 (p2Of f4 f5)) (fun _ _ => False) s := by
  subst hst
  subst es
  conv in st29 3 => dsimp only [st29, fbody, stm, prog, PySem.Challenge.pw_il0214_01, List.getElem?_cons_succ, List.getElem?_cons_zero, Option.getD_some]
  dsimp only at F1 N1
  have go := Go.mk
  obtain ⟨⟨na, nb, nd⟩, La, Lb, Ld⟩ := hne
  have hP' := hP
  obtain ⟨q1, q2, q3⟩ := hP'
  refine @gq _ _ _ _ _ _ _ fun Q' hQ' => ?_
  k_steps
  · refine ⟨?_⟩
    refine comp_rangeU (by k_asm) rfl 4 (fun i ys => StrsAre ys (euL f5 i)) rfl (by decide) rfl (by decide) rfl ?_ (fun _ => rfl)
    k_steps
    rename IsRange _ _ _ _ _ _ _ _ => R'
    refine' ⟨⟨_, _, _, _, _, _, _, rfl, R', ?sm, ?rs, ?F2, ?N2, ?le, .nil, ?step2, ?fin2⟩⟩
    case sm => decide
    case rs => decide
    case F2 => k_asm
    case N2 => k_asm
    case le => decide
    case step2 =>
      intro j zs tj I2 oI2 C2 oC2 D2 m3 hh3 tk3 E3 hj hJ hC2 hx2 F' N'
      have hj5 : j = 0 ∨ j = 1 ∨ j = 2 ∨ j = 3 := by omega
      clear hj
      rcases hj5 with rfl | rfl | rfl | rfl
      all_goals
        refine @gq _ _ _ _ _ _ _ fun Q3 hQ3 => ?_
        k_steps
        refine hQ3 _ _ ⟨_, _, rfl, by k_asm, by k_asm, ?_⟩
        rw [euL_succ]
        exact StrsAre.snoc hJ _ _
    case fin2 =>
      intro D2 zs hh3 tk3 hJ F' N' off2
      simp only [LCg.Off1] at off2
      have hw : ((euL f5 4).map (·.length)).sum + (euL f5 4).length ≤ 1000 := by rw [euL_one]; unfold euL; rw [List.length_map, List.length_range]; decide
      k_steps
      refine hQ' _ _ ?_
      rw [p2Of, if_pos (by assumption)]
      exact PMid.mk' (ta := at1) (ua := au) (tb := bt) (ub := bu) (td := _) (ud := _) (by k_asm) (by k_asm) (by k_mem) (by k_mem) (by k_mem) (by k_mem) (List.forall_mem_cons.mpr ⟨by k_mem, List.forall_mem_cons.mpr ⟨by k_mem, by show ∀ p ∈ news, _; kcj_all⟩⟩) ⟨⟨by omega, by omega, by omega⟩, by omega, by omega, by omega⟩
  · refine hQ' _ _ ?_
    rw [p2Of, if_neg (by assumption), if_pos (by assumption)]
    exact PMid.mk' (ta := at1) (ua := au) (tb := bt) (ub := bu) (td := _) (ud := _) (by k_asm) (by k_asm) (by k_mem) (by k_mem) (by k_mem) (by k_mem) (List.forall_mem_cons.mpr ⟨by k_mem, List.forall_mem_cons.mpr ⟨by k_mem, by show ∀ p ∈ news, _; kcj_all⟩⟩) ⟨⟨by omega, by omega, by omega⟩, by omega, by omega, by omega⟩
  · refine hQ' _ _ ?_
    rw [p2Of, if_neg (by assumption), if_neg (by assumption)]
    exact PMid.mk' (ta := at1) (ua := au) (tb := bt) (ub := bu) (td := dt) (ud := du) (by k_asm) (by k_asm) (by k_mem) (by k_mem) (by k_mem) (by k_mem) (List.forall_mem_cons.mpr ⟨by k_mem, List.forall_mem_cons.mpr ⟨by k_mem, by show ∀ p ∈ news, _; kcj_all⟩⟩) ⟨⟨by omega, by omega, by omega⟩, by omega, by omega, by omega⟩
end
theorem fl_9 {M : Model} {A : Around} {E : Value → Shared → Prop} {s : Shared} {Q : Bool → Shared → Prop} {v : Value} (h : wpAny M A (truthy v) Q E s) : wpAny M A (truthy v) Q E s := by
  first
    | (walk1; done)
    | exact h
section
variable {w : World} {mg mb : Str → Option Value} {loose : List Str} {ad : Str → Addr} {news : Led}
local macro_rules | `(tactic| walk_at $s) => ml s "
 exec If Compare cons nil => r Stop.out @p=_ ?_
 exec If Compare cons cons => r Stop.out @p=_ ?_
 exec If BoolOp cons nil => r Stop.out @p=_ ?_
 subscriptTail Name Constant ref int => R fig_val ?N ?m ?f ?_ ?s; c N k_asm f hyp m k_mem s wu"
theorem PFin.lift {h₀ : Heap} {L : Addr} {s₁ : Shared} {P : Addr} {news : Led} {R : Led → Prop} {f : Flow} {s₂ : Shared} {a : Heap} {b : Nat} (h : PFin h₀ L { s₁ with heap := a, toks := b } P news R f s₂) : PFin h₀ L s₁ P news R f s₂ := by
  obtain ⟨h', tk, m, tl, F, V, N, hL, hR⟩ := h
  exact .mk h' tk m tl F V N hL hR
theorem figAt_of {vs : List Value} {c : Nat} (j : Nat) {v : Value} (hv : vs[j]? = some v) (hj : j < 1000) : FigAt (W.listOf (List.toArray vs) c) (j : Int) v := ⟨vs, c, j, rfl, rfl, hj, hv⟩
theorem parts_body (f0 f1 f2 f3 f4 f5 f6 f7 : Nat) (t0 t1 t2 t3 t4 t5 t6 t7 : Tok) (fg : Addr) (c : Nat)
    (hfg : (fg, W.listOf #[.int f0 t0, .int f1 t1, .int f2 t2, .int f3 t3, .int f4 t4, .int f5 t5, .int f6 t6, .int f7 t7] c) ∈ news) (h1 : f1 < 4096) (h3 : f3 < 4096) (h5 : f5 < 4096) (h6 : f6 < 8) (h7 : f7 < 195)
    (hw0 : ∀ x, (p0Of f0 f1).1 = some x → x.length ≤ 1000) (hw1 : ∀ x, (p1Of f2 f3).1 = some x → x.length ≤ 1000) (hw2 : ∀ x, (p2Of f4 f5).1 = some x → x.length ≤ 1000) :
    BodyC w mg mb loose ad 29 99 99 [.ref fg] news (PartsIs f6 f7 (p0Of f0 f1) (p1Of f2 f3) (p2Of f4 f5)) := by
  refine ⟨?_⟩
  intro dp un gd cd outer A₀ base g L cells s Q B F CA GG N lt hd hu ret
  have KX := noIn g
  conv in fbody _ => dsimp only [fbody, stm, prog, PySem.Challenge.pw_il0214_01, List.getElem?_cons_succ, List.getElem?_cons_zero, Option.getD_some]
  have eC : cellsFrom (L + 1) (fscope 29).names [] = ([("figures", L + 1)] : List (Str × Addr)) := by with_unfolding_all rfl
  rw [eC] at CA ⊢
  obtain ⟨oh, rfl, dh⟩ := CA.one
  dsimp only [List.cons_append, List.nil_append] at N
  change Fr g L s.heap (fun y => none) at F
  change oh.data = .cell (some (.ref fg)) at dh
  have g0 : FigAt (W.listOf #[.int f0 t0, .int f1 t1, .int f2 t2, .int f3 t3, .int f4 t4, .int f5 t5, .int f6 t6, .int f7 t7] c) 0 (.int f0 t0) := figAt_of 0 rfl (by decide)
  have g1 : FigAt (W.listOf #[.int f0 t0, .int f1 t1, .int f2 t2, .int f3 t3, .int f4 t4, .int f5 t5, .int f6 t6, .int f7 t7] c) 1 (.int f1 t1) := figAt_of 1 rfl (by decide)
  have g2 : FigAt (W.listOf #[.int f0 t0, .int f1 t1, .int f2 t2, .int f3 t3, .int f4 t4, .int f5 t5, .int f6 t6, .int f7 t7] c) 2 (.int f2 t2) := figAt_of 2 rfl (by decide)
  have g3 : FigAt (W.listOf #[.int f0 t0, .int f1 t1, .int f2 t2, .int f3 t3, .int f4 t4, .int f5 t5, .int f6 t6, .int f7 t7] c) 3 (.int f3 t3) := figAt_of 3 rfl (by decide)
  have g4 : FigAt (W.listOf #[.int f0 t0, .int f1 t1, .int f2 t2, .int f3 t3, .int f4 t4, .int f5 t5, .int f6 t6, .int f7 t7] c) 4 (.int f4 t4) := figAt_of 4 rfl (by decide)
  have g5 : FigAt (W.listOf #[.int f0 t0, .int f1 t1, .int f2 t2, .int f3 t3, .int f4 t4, .int f5 t5, .int f6 t6, .int f7 t7] c) 5 (.int f5 t5) := figAt_of 5 rfl (by decide)
  have g6 : FigAt (W.listOf #[.int f0 t0, .int f1 t1, .int f2 t2, .int f3 t3, .int f4 t4, .int f5 t5, .int f6 t6, .int f7 t7] c) 6 (.int f6 t6) := figAt_of 6 rfl (by decide)
  have g7 : FigAt (W.listOf #[.int f0 t0, .int f1 t1, .int f2 t2, .int f3 t3, .int f4 t4, .int f5 t5, .int f6 t6, .int f7 t7] c) 7 (.int f7 t7) := figAt_of 7 rfl (by decide)
  generalize W.listOf #[.int f0 t0, .int f1 t1, .int f2 t2, .int f3 t3, .int f4 t4, .int f5 t5, .int f6 t6, .int f7 t7] c = fo at *
  have hfl := lt _ hfg
  replace N := news_again N (List.mem_cons_of_mem _ hfg)
  k_steps
  refine ⟨?_⟩
  rename Fr _ _ _ _ => F1
  rename News _ _ _ _ => N1
  rename_i P hP lP hQ
  refine' @wpAny_mono _ _ _ _ _ _ _ _ _ (parts_st1 (s₀ := s) (at1 := 0) (au := 0) (bt := 0) (bu := 0) (dt := 0) (du := 0) (by kernel_rfl) g0 g1 h1 B GG lt hd hu KX rfl dh hfl ?ne lP.2.2.2 F1 (cb_drop N1 ?mem)) ?cont (fun _ _ h => h)
  case mem => exact List.forall_mem_cons.mpr ⟨by k_mem, List.forall_mem_cons.mpr ⟨by k_mem, List.forall_mem_cons.mpr ⟨by k_mem, List.forall_mem_cons.mpr ⟨by k_mem, List.forall_mem_cons.mpr ⟨by k_mem, List.forall_mem_cons.mpr ⟨by k_mem, by show ∀ p ∈ news, _; kcj_all⟩⟩⟩⟩⟩⟩
  case ne => exact ⟨⟨by omega, by omega, by omega⟩, by omega, by omega, by omega⟩
  case cont =>
  clear F1 N1 g0 g1
  generalize p0Of f0 f1 = p0 at *
  rintro _ _ ⟨h', tk', aq, bq, dq, c', ac, bc, dc, at1, au, bt, bu, dt, du, F1, N1, hne⟩
  dsimp only
  k_steps
  refine ⟨?_⟩
  refine @wpAny_mono _ _ _ _ _ _ _ _ _ (parts_st2 (s₀ := s) (by kernel_rfl) g2 g3 h3 B GG lt hd hu KX rfl dh hfl hne lP.2.2.2 F1 N1) ?cont2 (fun _ _ h => h)
  case cont2 =>
  clear F1 N1 g2 g3 hne
  generalize p1Of f2 f3 = p1 at *
  rintro _ _ ⟨h', tk', aq, bq, dq, c', ac, bc, dc, at1, au, bt, bu, dt, du, F1, N1, hne⟩
  dsimp only
  k_steps
  refine ⟨?_⟩
  refine @wpAny_mono _ _ _ _ _ _ _ _ _ (parts_st3 (s₀ := s) (by kernel_rfl) g4 g5 h5 B GG lt hd hu KX rfl dh hfl hne lP.2.2.2 F1 N1) ?cont3 (fun _ _ h => h)
  case cont3 =>
  clear F1 N1 g4 g5 hne
  generalize p2Of f4 f5 = p2 at *
  rintro _ _ ⟨h', tk', aq, bq, dq, c', ac, bc, dc, at1, au, bt, bu, dt, du, F1, N1, hne⟩
  dsimp only
  obtain ⟨x0, y0⟩ := p0
  obtain ⟨x1, y1⟩ := p1
  obtain ⟨x2, y2⟩ := p2
  dsimp only at N1 hw0 hw1 hw2
  k_steps
  refine ⟨?_⟩
  rename Fr _ _ _ _ => F1
  rename News _ _ _ _ => N1
  refine wpAny_mono (Q := PFin g L s P news (PartsIs f6 f7 (x0, y0) (x1, y1) (x2, y2) (.ref P))) ?stage4 ?cont4 (fun _ _ h => h)
  case stage4 =>
    rcases (by omega : f6 < 5 ∨ f6 = 5 ∨ f6 = 6 ∨ f6 = 7) with h6' | rfl | rfl | rfl
    · exact @wpAny_mono _ _ _ _ _ _ _ _ _ (parts_st4n (by kernel_rfl) g7 h7 (by show (f6 : Int) - 5 < 0; omega) h6' (by assumption) (by assumption) lt hd hu KX dh hfl hne lP.2.2.2 F1 N1) (fun _ _ h => h.lift) (fun _ _ h => h)
    · exact @wpAny_mono _ _ _ _ _ _ _ _ _ (parts_st40 (by kernel_rfl) g7 h7 hw0 (by assumption) (by assumption) lt hd hu KX dh hfl hne lP.2.2.2 F1 N1) (fun _ _ h => h.lift) (fun _ _ h => h)
    · exact @wpAny_mono _ _ _ _ _ _ _ _ _ (parts_st41 (by kernel_rfl) g7 h7 hw1 (by assumption) (by assumption) lt hd hu KX dh hfl hne lP.2.2.2 F1 N1) (fun _ _ h => h.lift) (fun _ _ h => h)
    · exact @wpAny_mono _ _ _ _ _ _ _ _ _ (parts_st42 (by kernel_rfl) g7 h7 hw2 (by assumption) (by assumption) lt hd hu KX dh hfl hne lP.2.2.2 F1 N1) (fun _ _ h => h.lift) (fun _ _ h => h)
  case cont4 =>
    clear F1 N1 hw0 hw1 hw2 g6 g7
    rintro _ _ ⟨h', tk', m', tl, F3, V3, N3, hL, R⟩
    rw [← over_eq V3] at F3
    clear V3
    k_steps
    exact ret _ tl _ _ _ F3 N3 (fun q hq p hp => Nat.lt_trans (lt q hq) (hL p hp)) R
theorem parts_says (f0 f1 f2 f3 f4 f5 f6 f7 : Nat) (t0 t1 t2 t3 t4 t5 t6 t7 : Tok) (fg : Addr) (c : Nat)
    (hfg : (fg, W.listOf #[.int f0 t0, .int f1 t1, .int f2 t2, .int f3 t3, .int f4 t4, .int f5 t5, .int f6 t6, .int f7 t7] c) ∈ news) (h1 : f1 < 4096) (h3 : f3 < 4096) (h5 : f5 < 4096) (h6 : f6 < 8) (h7 : f7 < 195)
    (hw0 : ∀ x, (p0Of f0 f1).1 = some x → x.length ≤ 1000) (hw1 : ∀ x, (p1Of f2 f3).1 = some x → x.length ≤ 1000) (hw2 : ∀ x, (p2Of f4 f5).1 = some x → x.length ≤ 1000) :
    Says w mg mb loose ad "_law_parts" 100 102 [.ref fg] news (PartsIs f6 f7 (p0Of f0 f1) (p1Of f2 f3) (p2Of f4 f5)) :=
  says_of_bodyC (i := 29) rfl rfl (fun _ _ _ => BindsTo.of_eq rfl) (fun n y hy => .inr (by
    have e : ((fargs 29).args.map (·.arg)).zip [Value.ref fg] = [(("figures" : Str), Value.ref fg)] := rfl
    rw [e] at hy
    obtain rfl := List.mem_singleton.mp hy
    exact ⟨by (show (fscope 29).names.lookup (Str.ofString "figures") = some NameKind.cell); decide +kernel, rfl⟩)) (by decide +kernel) (by kernel_rfl) (by kernel_rfl) (by kernel_rfl) (parts_body f0 f1 f2 f3 f4 f5 f6 f7 t0 t1 t2 t3 t4 t5 t6 t7 fg c hfg h1 h3 h5 h6 h7 hw0 hw1 hw2)
end
theorem fl_10 {M : Model} {A : Around} {E : Value → Shared → Prop} {s : Shared} {Q : Bool → Shared → Prop} {v : Value} (h : wpAny M A (truthy v) Q E s) : wpAny M A (truthy v) Q E s := by
  first
    | (walk1; done)
    | exact h
theorem sub_range_set : isSubtype (.type "range") (.type "set") = pure false := by rw [isSubtype_type]; kernel_rfl
theorem sub_range_frozenset : isSubtype (.type "range") (.type "frozenset") = pure false := by rw [isSubtype_type]; kernel_rfl
noncomputable def rngSet (a : Int) (n : Nat) : List Int := firstMet (fun i => a + ((i : Nat) : Int) * 1) n
section
variable {w : World} {A : Around} {E : Value → Shared → Prop} {s : Shared} {h₀ : Heap} {news : Led} {Q : Value → Shared → Prop}
theorem call_set_rng {r : Addr} {a b : Int} {t u v : Tok} {n : Nat} (hh : A.handled = none) (hr : IsRange s.heap r a b 1 t u v) (hsm : Builtin.Range.small a b 1 = true) (hn : Builtin.Range.rangeSize a b 1 = (n : Int)) (hb : n + 1 < scanBound)
    (h : ∀ (h' : Heap) (tk : Nat), h'.SetOf (intKind prog w) s.heap.objs.size (fun k' => (rngSet a n).any (· == k')) (rngSet a n).length →
      (∀ b o, b < s.heap.objs.size → s.heap.get? b = some o → h'.get? b = some o) → Q (.ref s.heap.objs.size) { s with heap := h', toks := tk }) :
    wpAny (model prog w) A (call (.type "set") [.ref r]) Q E s := by
  obtain ⟨c, tl, hmro⟩ := PySem.F.called_set.mro
  have hmade := PySem.F.called_set.made
  have hsub := PySem.F.called_set.sub
  refine wpAny_call (codeAny_of_tree ?_)
  show wpAny _ _ (callAny (.type "set") _) _ _ _
  refine wpAny_pure ⟨Code.quiet_builtin _ (by decide +kernel), codeAny_builtin PySem.F.entry_type_call ?_⟩
  rw [Around.under_plain (weight_type_call_type "set" [.ref r] []) rfl]
  have h1 := PySem.F.called_set.notType
  have h2 := PySem.F.called_set.canCreate
  have hct := PySem.F.typeCall_set_1 (.ref r)
  repeat (any_goals (first | assumption | wp_step))
  have hlt : r < s.heap.objs.size := Heap.lt_size hr
  refine codeAny_mono (code_set_new_1 (.ref r) (E := E) (Q₁ := fun obj s₁ => ∃ led : Bool, obj = .ref s.heap.objs.size ∧ s₁ = { s with heap := s.heap.push { cls := .type "set", dict := none, data := .set #[] 0 (.fresh 0 0 led) } }) fun led => ⟨led, rfl, rfl⟩) fun res s₁ hr₁ => ?_
  match res, hr₁ with
  | .error _, hr₁ => exact hr₁
  | .ok .next, hr₁ => exact hr₁.elim
  | .ok .brk, hr₁ => exact hr₁.elim
  | .ok .cont, hr₁ => exact hr₁.elim
  | .ok (.ret obj), hr₁ =>
    obtain ⟨led, rfl, rfl⟩ := hr₁
    have hS : (s.heap.push { cls := .type "set", dict := none, data := .set #[] 0 (.fresh 0 0 led) }).get? s.heap.objs.size = some { cls := .type "set", dict := none, data := .set #[] 0 (.fresh 0 0 led) } := Heap.get?_push_size _ rfl
    have hT : Shared.TypeIs { s with heap := s.heap.push { cls := .type "set", dict := none, data := .set #[] 0 (.fresh 0 0 led) } } (.ref s.heap.objs.size) "set" := ⟨_, hS, rfl⟩
    have hli := PySem.F.called_set.init.lookup
    have hbi := PySem.F.called_set.init.bind (.ref s.heap.objs.size)
    repeat (any_goals (first | assumption | wp_step))
    refine codeAny_mono (codeAny_call_builtin (R := wants (fun r₂ s₂ => r₂ = .none ∧ ∃ h' tk, s₂ = { s with heap := h', toks := tk } ∧
        h'.SetOf (intKind prog w) s.heap.objs.size (fun k' => (rngSet a n).any (· == k')) (rngSet a n).length ∧
        (∀ b o, b < s.heap.objs.size → s.heap.get? b = some o → h'.get? b = some o)) E) PySem.F.called_set.init.plain PySem.F.entry_set_init (check_set_init_1 hT ?_)) fun r₂ s₂ hr₂ => ?_
    · have hr' : IsRange (s.heap.push { cls := .type "set", dict := none, data := .set #[] 0 (.fresh 0 0 led) }) r a b 1 t u v := Heap.get?_push_of_some _ hr
      have hTr : Shared.TypeIs { s with heap := s.heap.push { cls := .type "set", dict := none, data := .set #[] 0 (.fresh 0 0 led) } } (.ref r) "range" := ⟨_, hr', rfl⟩
      have hsls := sub_range_set
      have hslf := sub_range_frozenset
      have hne : (Value.type "range" == Value.type "dict") = false := by decide
      unfold Builtin.«set.__init__» noKeywords Builtin.Frozenset.updateFrom
      generalize hPI : pyIter = PI
      wp_walk
      subst hPI
      refine wpAny_pyIter_range hr' hsm ?_
      refine wpAny_bind (wpAny_runValue ?_)
      have hh3 : A.in1.in1.in1.handled = none := by simp [hh]
      have hSf : s.heap.objs.size ∉ [(s.heap.push { cls := .type "set", dict := none, data := .set #[] 0 (.fresh 0 0 led) }).objs.size] := by
        rw [Heap.size_push, List.mem_singleton]; omega
      refine codeAny_set_update_loopS ((Walks.range hh3 _ a 1 n).toS) s.heap.objs.size
        hSf (fun i => a + ((i : Nat) : Int) * 1) (fun i v hv => hv) hb (n - 0) 0 _ (by omega) (Nat.zero_le _) ?hI ?hS0 ?hR
      case hI =>
        have q : IsRangeIter ((s.heap.push { cls := .type "set", dict := none, data := .set #[] 0 (.fresh 0 0 led) }).push { cls := .type "range_iterator", data := .fields #[rawInt a, rawInt (Builtin.Range.rangeSize a b 1), rawInt 1] }) (s.heap.push { cls := .type "set", dict := none, data := .set #[] 0 (.fresh 0 0 led) }).objs.size a (Builtin.Range.rangeSize a b 1) 1 := Heap.get?_push_size _ rfl
        show IsRangeIter _ _ _ _ _
        simpa [hn] using q
      case hS0 =>
        have hget : ((s.heap.push { cls := .type "set", dict := none, data := .set #[] 0 (.fresh 0 0 led) }).push { cls := .type "range_iterator", data := .fields #[rawInt a, rawInt (Builtin.Range.rangeSize a b 1), rawInt 1] }).get? s.heap.objs.size
            = some { cls := .type "set", dict := none, data := .set #[] 0 (.fresh 0 0 led) } := Heap.get?_push_of_some _ hS
        exact SetOf_congr ((setObjOf_fresh (knd := intKind prog w) led).setOf hget (by unfold scanBound; omega)) (fun _ => rfl) rfl
      case hR =>
        intro s' hm hS'
        obtain ⟨h', g', d', tk', os'⟩ := s'
        have eg : g' = s.gens := hm.gens
        have ed : d' = s.drawn := hm.drawn
        have eo : os' = s.os := hm.os
        subst eg; subst ed; subst eo
        show wpAny _ _ _ _ _ _
        refine wpAny_pure ?_
        show wpAny _ _ (ret Value.none) _ _ _
        refine wpAny_pure ⟨rfl, h', tk', rfl, hS', fun b o hb e => hm.heap b o ?_ (Heap.get?_push_of_some _ (Heap.get?_push_of_some _ e))⟩
        rw [Heap.size_push]
        simp only [List.mem_cons, List.not_mem_nil, or_false, not_or]
        exact ⟨Nat.ne_of_lt hb, Nat.ne_of_lt (Nat.lt_succ_of_lt hb)⟩
    · match r₂, hr₂ with
      | .error _, hr₂ => exact hr₂
      | .ok .next, hr₂ => exact hr₂.elim
      | .ok .brk, hr₂ => exact hr₂.elim
      | .ok .cont, hr₂ => exact hr₂.elim
      | .ok (.ret r), hr₂ =>
        obtain ⟨rfl, h', tk, rfl, hS', hk'⟩ := hr₂
        repeat (any_goals (first | assumption | wp_step))
        exact h _ _ hS' hk'
theorem iset_rng {r : Addr} {a b : Int} {t u v : Tok} {n : Nat} {L : Addr} {m : Str → Option Value} (hh : A.handled = none) (F : Fr h₀ L s.heap m) (N : News h₀ L s.heap news) (hr : IsRange s.heap r a b 1 t u v) (hsm : Builtin.Range.small a b 1 = true) (hn : Builtin.Range.rangeSize a b 1 = (n : Int)) (hb : n + 1 < scanBound)
    (h : ∀ a' h' tk o, Fr h₀ L h' m → News h₀ L h' ((a', o) :: news) → (∀ p ∈ news, p.1 < a') → o.SetObjOf (intKind prog w) (fun k' => (rngSet a n).any (· == k')) (rngSet a n).length → Q (.ref a') { s with heap := h', toks := tk }) :
    wpAny (model prog w) A (call (.type "set") [.ref r]) Q E s := by
  refine call_set_rng hh hr hsm hn hb fun h' tk hS hk => ?_
  obtain ⟨o, ho, hso⟩ := hS.objOf
  obtain ⟨oL, _, _, hL, _⟩ := F.ns
  have hLlt : L < s.heap.objs.size := Heap.lt_size hL
  refine h _ h' tk o ⟨F.ns.at' fun o' e => hk L o' hLlt e, fun b o' e => hk b o' (Heap.lt_size (F.keep b o' e)) (F.keep b o' e), F.above⟩ (fun p hp => ?_) (fun p hp => Heap.lt_size (N p hp).1) hso
  rcases List.mem_cons.mp hp with rfl | hp
  · refine ⟨ho, Nat.ne_of_gt hLlt, ?_⟩
    cases hq : h₀.get? s.heap.objs.size with
    | none => rfl
    | some o' => exact absurd (Heap.lt_size (F.keep _ _ hq)) (Nat.lt_irrefl _)
  · exact ⟨hk _ _ (Heap.lt_size (N p hp).1) (N p hp).1, (N p hp).2.1, (N p hp).2.2⟩
end
noncomputable def valOf (i : Nat) : PySem.Expr := match stm i with | .Assign _ e _ => e | _ => .Constant .none 0 ⟨0, 0, 0, 0⟩
noncomputable abbrev mEnv (c F : Addr) : Env := mainEnv prog c F
noncomputable abbrev tA (c F : Addr) : Around := callerA.deeper (mainEnv prog c F)
section
variable {w : World} {A : Around} {E : Value → Shared → Prop} {s : Shared} {h₀ : Heap} {mg mb : Str → Option Value} {c F0 : Addr} {news : Led} {Q : Value → Shared → Prop}
structure TG (h₀ : Heap) (mb mg : Str → Option Value) : Prop where
  b : h₀.Ns builtinsNs mb
  builtins : ∀ x : Str, x ≠ "__name__" → mb x = bootBuiltins x
  free : ∀ x, biNames.contains x = true → mg x = none
theorem tname_bi {x : Str} {pos : Pos} {v : Value} (F : Fr h₀ mainGlobals s.heap mg) (g : TG h₀ mb mg) (hx : biNames.contains x = true) (hv : bootBuiltins x = some v) (hn : x ≠ "__name__") (h : Q v s) (hd : (x == ("__debug__" : Str)) = false) :
    wpAny (model prog w) A (eval (.Name x pos) (mEnv c F0)) Q E s :=
  Name_module (env := mEnv c F0) rfl rfl (loadGlobal_builtin (env := mEnv c F0) F.ns (g.free x hx) (Heap.Ns.keeps g.b F.keep) ((g.builtins x hn).trans hv) h) hd
theorem iset {D : Addr} {vs : List Value} {ns : List Int} {k : Nat} {L : Addr} {m : Str → Option Value} (F : Fr h₀ L s.heap m) (N : News h₀ L s.heap news) (hm : (D, W.listOf vs.toArray k) ∈ news) (hi : IntsAre vs ns) (hh : A.handled = none) (hb : ns.length + 1 < scanBound)
    (h : ∀ a h' tk o, Fr h₀ L h' m → News h₀ L h' ((a, o) :: news) → (∀ p ∈ news, p.1 < a) → o.SetObjOf (intKind prog w) (fun k' => (firstMet (fun i => ns.getD i 0) ns.length).any (· == k')) (firstMet (fun i => ns.getD i 0) ns.length).length → Q (.ref a) { s with heap := h', toks := tk }) :
    wpAny (model prog w) A (call (.type "set") [.ref D]) Q E s := by
  have hvn : vs.length = ns.length := IntsAre.length hi
  have hsz : vs.toArray.size = vs.length := List.size_toArray
  refine PySem.call_set_list (items := vs.toArray) (ns := ns) hh ⟨_, (N _ hm).1, rfl, _, rfl⟩ (by simpa using hi) (by rw [hsz, hvn]; exact hb) fun h' tk hS hk => ?_
  rw [hsz, hvn] at hS
  obtain ⟨o, ho, hso⟩ := hS.objOf
  obtain ⟨oL, _, _, hL, _⟩ := F.ns
  have hLlt : L < s.heap.objs.size := Heap.lt_size hL
  refine h _ h' tk o ⟨F.ns.at' fun o' e => hk L o' hLlt e, fun b o' e => hk b o' (Heap.lt_size (F.keep b o' e)) (F.keep b o' e), F.above⟩ (fun p hp => ?_) (fun p hp => Heap.lt_size (N p hp).1) hso
  rcases List.mem_cons.mp hp with rfl | hp
  · refine ⟨ho, Nat.ne_of_gt hLlt, ?_⟩
    cases hq : h₀.get? s.heap.objs.size with
    | none => rfl
    | some o' => exact absurd (Heap.lt_size (F.keep _ _ hq)) (Nat.lt_irrefl _)
  · exact ⟨hk _ _ (Heap.lt_size (N p hp).1) (N p hp).1, (N p hp).2.1, (N p hp).2.2⟩
local macro_rules | `(tactic| walk_at $s) => ml s "
 eval Name => R tname_bi ?F ?g ?hx ?hv ?hn ?_ ?hd; c hd decide F k_asm g assumption hx deck hv boot_fast hn decide
 call type:set => s wpAny _ _ ( call ( Value.type _ ) ( List.cons ( Value.ref _ ) List.nil ) ) _ _ _ & R iset ?F ?N ?m ?i rfl ?b ?_; c F k_asm N k_asm m k_mem i assumption b deck ; i a' h' tk' o' F' N' l1 hS' | R iset_rng rfl ?F ?N ?R ?s ( rangeSize_nat _ _ ) ?b ?_; c F k_asm N k_asm R assumption s =small_one~{decide}~{decide}~{decide}~{decide} b deck; i a' h' tk' o' F' N' l1 hS'"
theorem any_contains (l : List Int) : (fun k' => l.any (· == k')) = fun k => l.contains k := funext fun k => by
  rw [List.contains_eq_any_beq]; congr 1; funext x; exact Bool.beq_comm
theorem set_11 (F : Fr h₀ mainGlobals s.heap mg) (N : News h₀ mainGlobals s.heap news) (g : TG h₀ mb mg)
    (h : ∀ a h' tk o, Fr h₀ mainGlobals h' mg → News h₀ mainGlobals h' ((a, o) :: news) → (∀ p ∈ news, p.1 < a) → o.SetObjOf (intKind prog w) (fun k => b1L.contains k) b1L.length → Q (.ref a) { s with heap := h', toks := tk }) :
    wpAny (model prog w) (tA c F0) (eval (valOf 11) (mEnv c F0)) Q E s := by
  conv in valOf 11 => dsimp only [valOf, stm, prog, PySem.Challenge.pw_il0214_01, List.getElem?_cons_succ, List.getElem?_cons_zero, Option.getD_some]
  have KX := noIn h₀
  k_steps
  rename Obj.SetObjOf _ _ _ _ => hS
  refine h _ _ _ _ (by k_asm) (cb_drop (by assumption) (List.forall_mem_cons.mpr ⟨by k_mem, by show ∀ p ∈ news, _; kcj_all⟩)) ?_ ?_
  · rename (∀ (p : Addr × Obj), p ∈ _ → p.1 < _) => l1
    exact fun p hp => l1 p (by simp [hp])
  rw [show (firstMet _ _ : List Int) = b1L by decide +kernel, any_contains] at hS
  exact hS
theorem set_16 (F : Fr h₀ mainGlobals s.heap mg) (N : News h₀ mainGlobals s.heap news) (g : TG h₀ mb mg)
    (h : ∀ a h' tk o, Fr h₀ mainGlobals h' mg → News h₀ mainGlobals h' ((a, o) :: news) → (∀ p ∈ news, p.1 < a) → o.SetObjOf (intKind prog w) (fun k => c6L.contains k) c6L.length → Q (.ref a) { s with heap := h', toks := tk }) :
    wpAny (model prog w) (tA c F0) (eval (valOf 16) (mEnv c F0)) Q E s := by
  conv in valOf 16 => dsimp only [valOf, stm, prog, PySem.Challenge.pw_il0214_01, List.getElem?_cons_succ, List.getElem?_cons_zero, Option.getD_some]
  have KX := noIn h₀
  k_steps
  rename Obj.SetObjOf _ _ _ _ => hS
  refine h _ _ _ _ (by k_asm) (cb_drop (by assumption) (List.forall_mem_cons.mpr ⟨by k_mem, by show ∀ p ∈ news, _; kcj_all⟩)) ?_ ?_
  · rename (∀ (p : Addr × Obj), p ∈ _ → p.1 < _) => l1
    exact fun p hp => l1 p (by simp [hp])
  rw [show (rngSet _ _ : List Int) = c6L by decide +kernel, any_contains] at hS
  exact hS
theorem set_18 (F : Fr h₀ mainGlobals s.heap mg) (N : News h₀ mainGlobals s.heap news) (g : TG h₀ mb mg)
    (h : ∀ a h' tk o, Fr h₀ mainGlobals h' mg → News h₀ mainGlobals h' ((a, o) :: news) → (∀ p ∈ news, p.1 < a) → o.SetObjOf (intKind prog w) (fun k => c7L.contains k) c7L.length → Q (.ref a) { s with heap := h', toks := tk }) :
    wpAny (model prog w) (tA c F0) (eval (valOf 18) (mEnv c F0)) Q E s := by
  conv in valOf 18 => dsimp only [valOf, stm, prog, PySem.Challenge.pw_il0214_01, List.getElem?_cons_succ, List.getElem?_cons_zero, Option.getD_some]
  have KX := noIn h₀
  k_steps
  rename Obj.SetObjOf _ _ _ _ => hS
  refine h _ _ _ _ (by k_asm) (cb_drop (by assumption) (List.forall_mem_cons.mpr ⟨by k_mem, by show ∀ p ∈ news, _; kcj_all⟩)) ?_ ?_
  · rename (∀ (p : Addr × Obj), p ∈ _ → p.1 < _) => l1
    exact fun p hp => l1 p (by simp [hp])
  rw [show (rngSet _ _ : List Int) = c7L by decide +kernel, any_contains] at hS
  exact hS
theorem set_20 (F : Fr h₀ mainGlobals s.heap mg) (N : News h₀ mainGlobals s.heap news) (g : TG h₀ mb mg)
    (h : ∀ a h' tk o, Fr h₀ mainGlobals h' mg → News h₀ mainGlobals h' ((a, o) :: news) → (∀ p ∈ news, p.1 < a) → o.SetObjOf (intKind prog w) (fun k => c8L.contains k) c8L.length → Q (.ref a) { s with heap := h', toks := tk }) :
    wpAny (model prog w) (tA c F0) (eval (valOf 20) (mEnv c F0)) Q E s := by
  conv in valOf 20 => dsimp only [valOf, stm, prog, PySem.Challenge.pw_il0214_01, List.getElem?_cons_succ, List.getElem?_cons_zero, Option.getD_some]
  have KX := noIn h₀
  k_steps
  rename Obj.SetObjOf _ _ _ _ => hS
  refine h _ _ _ _ (by k_asm) (cb_drop (by assumption) (List.forall_mem_cons.mpr ⟨by k_mem, by show ∀ p ∈ news, _; kcj_all⟩)) ?_ ?_
  · rename (∀ (p : Addr × Obj), p ∈ _ → p.1 < _) => l1
    exact fun p hp => l1 p (by simp [hp])
  rw [show (firstMet _ _ : List Int) = c8L by decide +kernel, any_contains] at hS
  exact hS
theorem set_22 (F : Fr h₀ mainGlobals s.heap mg) (N : News h₀ mainGlobals s.heap news) (g : TG h₀ mb mg)
    (h : ∀ a h' tk o, Fr h₀ mainGlobals h' mg → News h₀ mainGlobals h' ((a, o) :: news) → (∀ p ∈ news, p.1 < a) → o.SetObjOf (intKind prog w) (fun k => c9L.contains k) c9L.length → Q (.ref a) { s with heap := h', toks := tk }) :
    wpAny (model prog w) (tA c F0) (eval (valOf 22) (mEnv c F0)) Q E s := by
  conv in valOf 22 => dsimp only [valOf, stm, prog, PySem.Challenge.pw_il0214_01, List.getElem?_cons_succ, List.getElem?_cons_zero, Option.getD_some]
  have KX := noIn h₀
  k_steps
  rename Obj.SetObjOf _ _ _ _ => hS
  refine h _ _ _ _ (by k_asm) (cb_drop (by assumption) (List.forall_mem_cons.mpr ⟨by k_mem, by show ∀ p ∈ news, _; kcj_all⟩)) ?_ ?_
  · rename (∀ (p : Addr × Obj), p ∈ _ → p.1 < _) => l1
    exact fun p hp => l1 p (by simp [hp])
  rw [show (firstMet _ _ : List Int) = c9L by decide +kernel, any_contains] at hS
  exact hS
end
theorem fl_11 {M : Model} {A : Around} {E : Value → Shared → Prop} {s : Shared} {Q : Bool → Shared → Prop} {v : Value} (h : wpAny M A (truthy v) Q E s) : wpAny M A (truthy v) Q E s := by
  first
    | (walk1; done)
    | exact h
noncomputable abbrev tupO (a b : Value) : Obj := { cls := .type "tuple", data := .seq #[a, b] }
theorem kdx_all {lo : Addr} {news : Led} {C : List Value → Led → Prop} : ∀ (ps : List ((Tok → Value) × Value)) (vs : List Value) (tups : Led), (∀ q ∈ tups, ∀ n ∈ news, n.1 < q.1) →
    (∀ (vs' : List Value) (tups' : Led), vs'.length = ps.length → (∀ (j : Nat) (p : (Tok → Value) × Value), ps[j]? = some p → ∃ a t, vs'[j]? = some (Value.ref a) ∧ (a, tupO (p.1 t) p.2) ∈ tups') → (∀ q ∈ tups, q ∈ tups') → (∀ q ∈ tups', ∀ n ∈ news, n.1 < q.1) → C (vs ++ vs') tups') → KdxOpen lo news ps vs tups C
  | [], vs, tups, ho, h => KdxOpen.nil (by simpa using h [] tups rfl (fun j p e => by simp at e) (fun _ e => e) ho)
  | p :: ps, vs, tups, ho, h => KdxOpen.cons fun a t _ b2 _ => by
    refine kdx_all ps _ _ (fun q hq n hn => ?_) fun vs' tups' hl hm hs ho' => ?_
    · rcases List.mem_cons.mp hq with rfl | hq
      · exact b2 n hn
      · exact ho q hq n hn
    · rw [List.append_assoc]
      refine h _ tups' (by simp [hl]) (fun j p' e => ?_) (fun q hq => hs q (List.mem_cons_of_mem _ hq)) ho'
      cases j with
      | zero =>
        have e' : p = p' := by simpa using e
        subst e'
        exact ⟨a, t, rfl, hs _ (List.mem_cons_self ..)⟩
      | succ j => simpa using hm j p' (by simpa using e)
noncomputable def strKeyAt (kvs : List (Str × Value)) (i : Nat) : List Nat := ((kvs.map (fun x => x.1)).getD i (⟨#[]⟩ : Str)).cps.toList
noncomputable def ltAt (kvs : List (Str × Value)) (i j : Nat) : Bool := decide (strKeyAt kvs i < strKeyAt kvs j)
section
variable {w : World} {A : Around} {E : Value → Shared → Prop} {s : Shared} {h₀ : Heap} {L : Addr} {m : Str → Option Value} {news : Led} {Q : Value → Shared → Prop}
theorem tup_lt {a b : Addr} {x y : Str} {p q : Str} {t u t' u' : Tok} {C : Bool → Shared → Prop} {E : Value → Shared → Prop} (ha : s.heap.get? a = some (tupO (.str x t) (.str p t'))) (hb : s.heap.get? b = some (tupO (.str y u) (.str q u'))) (hx : x = y → p = q)
    (h : C (decide (x.cps.toList < y.cps.toList)) s) : wpAny (model prog w) A (keyLt' (tuples' true) (.ref a) (.ref b)) C E s := by
  refine kat_lt ha rfl hb rfl ?_
  show KatLex prog w A true _ C [(Value.str x t, Value.str y u), (Value.str p t', Value.str q u')] 0 s
  refine kat_cons (wpAny_eqBool_str ?_)
  by_cases e : x = y
  · subst e
    obtain rfl := hx rfl
    rw [decide_eq_true rfl]
    refine kat_yes (kat_cons (wpAny_eqBool_str ?_))
    rw [decide_eq_true rfl]
    refine kat_yes (kat_nil ?_)
    have e2 : decide (x.cps.toList < x.cps.toList) = false := decide_eq_false (List.lt_irrefl _)
    rw [e2] at h
    exact h
  · rw [decide_eq_false e]
    exact kat_no (oneLt_str h)
theorem isorted_items {v d : Addr} {od : Obj} {kvs : List (Str × Value)} (hh : A.handled = none) (F : Fr h₀ L s.heap m) (N : News h₀ L s.heap news) (hvw : (v, { cls := .type "dict_items", data := .fields #[.ref d] }) ∈ news) (hmd : (d, od) ∈ news) (hod : od.IsDictOf (PySem.strKind prog w) kvs)
    (hv : ∀ p ∈ kvs, ∃ x u, p.2 = Value.str x u) (h2 : 2 ≤ kvs.length) (h64 : kvs.length < 64)
    (h : ∀ B tups c out h' tk, Fr h₀ L h' m → News h₀ L h' ((B, W.listOf (List.toArray out) c) :: (tups ++ news)) → (∀ q ∈ tups, ∀ n ∈ news, n.1 < q.1) → (∀ q ∈ tups ++ news, q.1 < B) → out.length = kvs.length →
      (∀ x ∈ out, ∃ a k y t u, x = Value.ref a ∧ k ∈ kvs.map (·.1) ∧ (a, tupO (.str k t) (.str y u)) ∈ tups) → Q (.ref B) { s with heap := h', toks := tk }) :
    wpAny (model prog w) A (call (.builtin "sorted") [.ref v]) Q E s := by
  have hnd : (kvs.map (·.1)).Nodup := let ⟨_, _, _, _, _, _, r⟩ := hod; r
  refine kdx_sortedN (knd := PySem.strKind prog w) (enc := PyData.str) hh F N hvw hmd hod (by omega) (fun _ _ h => Value.isStrOf_shape h) rfl fun lo hlo => kdx_all _ [] [] (fun _ h => nomatch h) fun vs tups hl hm _ ho => ?_
  intro B h' tk hB F' N'
  rw [List.nil_append] at N'
  rw [List.length_map] at hl
  have N₀ : News h₀ L h' (tups ++ news) := fun p hp => N' p (List.mem_cons_of_mem _ hp)
  have hm' : ∀ j, j < kvs.length → ∃ a t y u, vs[j]? = some (Value.ref a) ∧ (kvs[j]?).map (·.2) = some (.str y u) ∧ (a, tupO (.str ((kvs.map (·.1)).getD j ⟨#[]⟩) t) (.str y u)) ∈ tups := by
    intro j hj
    have e : kvs[j]? = some kvs[j] := List.getElem?_eq_getElem hj
    obtain ⟨y, u, ey⟩ := hv _ (List.getElem_mem hj)
    obtain ⟨a, t, h1, h2⟩ := hm j (kyVal (PyData.str kvs[j].1), kvs[j].2) (by rw [List.getElem?_map, e]; rfl)
    refine ⟨a, t, y, u, h1, by rw [e, ← ey]; rfl, ?_⟩
    rw [show (kvs.map (·.1)).getD j ⟨#[]⟩ = kvs[j].1 by simp [List.getD, e], ← ey]
    exact h2
  refine kat_lsort (vs := vs) (its := vs.toArray) F' N' (.head fun p hp => Nat.ne_of_lt (hB p hp)) (by simp) (by omega) (by omega) fun e1 h1 F1 N1 => ?_
  have hfs : ∀ (l : List Value) (ks : List Str), l.length = ks.length → (∀ j (x : Value), l[j]? = some x → ∃ a t y, x = .ref a ∧ h1.get? a = some (tupO (.str (ks.getD j ⟨#[]⟩) t) y)) → ∃ fs, KatTups h1 l fs ∧ fs.length = ks.length ∧ ∀ f ∈ fs, ∃ x t, f = Value.str x t := by
    intro l
    induction l with
    | nil =>
      intro ks hk _
      exact ⟨[], trivial, hk, fun _ h => nomatch h⟩
    | cons x l ih =>
      intro ks hk hx
      match ks, hk with
      | k :: ks, hk =>
        obtain ⟨a, t, y, rfl, ho⟩ := hx 0 x rfl
        obtain ⟨fs, r1, r2, r3⟩ := ih ks (by simpa using hk) fun j x' hj => by simpa using hx (j + 1) x' (by simpa using hj)
        refine ⟨.str k t :: fs, KatTups.cons ho rfl rfl rfl r1, by simp [r2], fun f hf => ?_⟩
        rcases List.mem_cons.mp hf with rfl | hf
        · exact ⟨_, _, rfl⟩
        · exact r3 f hf
  obtain ⟨fs, k1, k2, k3⟩ := hfs vs (kvs.map (·.1)) (by rw [List.length_map]; exact hl) fun j x hj => by
    have hj' : j < kvs.length := by rw [← hl]; exact (List.getElem?_eq_some_iff.mp hj).1
    obtain ⟨a, t, y, u, g1, _, g3⟩ := hm' j hj'
    rw [hj] at g1
    exact ⟨a, t, _, Option.some.inj g1, (N1 _ (List.mem_cons_of_mem _ (List.mem_append_left _ g3))).1⟩
  refine kat_kind (s := { s with heap := h1, toks := tk }) (fs := fs) (T := .type "str") k1 (by rw [k2, List.length_map]; omega) (fun f hf => ?_) (by decide) ?_
  · obtain ⟨x, t, rfl⟩ := k3 f hf
    exact .now
  · have hn : 0 < vs.length := by omega
    refine kas_pure (St := fun s' => ∃ tk', s' = { s with heap := h1, toks := tk' }) (lt := ltAt kvs) (fun i j C s' hi hj hs hc => ?_) (kas_sort vs.length) _ (asks_sort hn) ⟨_, rfl⟩ ?_
    · obtain ⟨tk', rfl⟩ := hs
      obtain ⟨a, t, y, u, g1, g2, g3⟩ := hm' i (by omega)
      obtain ⟨a', t', y', u', g1', g2', g3'⟩ := hm' j (by omega)
      show wpAny _ _ (keyLt' _ (vs.getD i Value.none) (vs.getD j Value.none)) _ _ _
      rw [show vs.getD i Value.none = .ref a by simp [List.getD, g1], show vs.getD j Value.none = .ref a' by simp [List.getD, g1']]
      refine tup_lt (s := { s with heap := h1, toks := tk' }) (N1 _ (List.mem_cons_of_mem _ (List.mem_append_left _ g3))).1 (N1 _ (List.mem_cons_of_mem _ (List.mem_append_left _ g3'))).1 (fun e => ?_) (hc _ ⟨tk', rfl⟩)
      have hij : i = j := by
        have e1 : (kvs.map (·.1))[i]? = some ((kvs.map (·.1)).getD i ⟨#[]⟩) := by rw [List.getD_eq_getElem?_getD, List.getElem?_eq_getElem (by rw [List.length_map]; omega)]; rfl
        have e2 : (kvs.map (·.1))[j]? = some ((kvs.map (·.1)).getD j ⟨#[]⟩) := by rw [List.getD_eq_getElem?_getD, List.getElem?_eq_getElem (by rw [List.length_map]; omega)]; rfl
        rw [e, ← e2] at e1
        exact (List.getElem?_inj (l := kvs.map (fun x => x.1)) (i := i) (j := j) (by rw [List.length_map]; omega) hnd).mp e1
      subst hij
      rw [g2] at g2'
      cases g2'
      rfl
    · rintro s' ⟨tk', rfl⟩
      refine KasFin.intro (s := { s with heap := h1, toks := tk' }) F1 N1 (.head fun p hp => Nat.ne_of_lt (hB p hp)) fun h2 c F2 N2 => ?_
      refine h B tups c _ h2 tk' F2 N2 ho hB ?_ fun x hx => ?_
      · have hp := ksorted_perm hn (ltAt kvs)
        have := hp.length_eq
        rw [List.length_map]
        unfold ksorted at this
        rw [this, List.length_range, hl]
      · obtain ⟨i, hi, rfl⟩ := List.mem_map.mp hx
        have hp := (ksorted_perm hn (ltAt kvs)).mem_iff.mp hi
        rw [List.mem_range] at hp
        obtain ⟨a, t, y, u, g1, _, g3⟩ := hm' i (by omega)
        refine ⟨a, _, y, t, u, by simp [List.getD, g1], ?_, g3⟩
        have hi2 : i < (kvs.map (·.1)).length := by rw [List.length_map]; omega
        rw [List.getD_eq_getElem?_getD, List.getElem?_eq_getElem hi2]
        exact List.getElem_mem hi2
end
section
variable {w : World} {A : Around} {s : Shared} {h₀ : Heap} {m : Str → Option Value} {news : Led} {c F0 : Addr}
theorem store_m {x : Str} {v : Value} {E : Value → Shared → Prop} {Q : Unit → Shared → Prop} (F : Fr h₀ mainGlobals s.heap m) (N : News h₀ mainGlobals s.heap news) (hl : prog.main.scope.names.lookup x = some .local)
    (h : ∀ h', Fr h₀ mainGlobals h' (fun y => if y = x then some v else m y) → News h₀ mainGlobals h' news → Q () { s with heap := h', toks := s.toks + 1 }) : wpAny (model prog w) A (storeName (mainEnv prog c F0) x v) Q E s :=
  wpAny_storeName_local (env := mainEnv prog c F0) hl F.ns (fun h' hg hs => h h' (F.set hg hs) (N.set hs)) rfl
theorem del_m {x : Str} {pos : Pos} {v : Value} {E : Value → Shared → Prop} {Q : Unit → Shared → Prop} (F : Fr h₀ mainGlobals s.heap m) (N : News h₀ mainGlobals s.heap news) (hl : prog.main.scope.names.lookup x = some .local) (hv : m x = some v)
    (h : ∀ h' u, Fr h₀ mainGlobals h' (fun y => if y = x then u else m y) → News h₀ mainGlobals h' news → Q () { s with heap := h' }) : wpAny (model prog w) A (delete (.Name x pos) (mainEnv prog c F0)) Q E s :=
  wpAny_delete_Name (wpAny_unbindName_local (env := mainEnv prog c F0) hl F.ns hv rfl (fun h' u hg hs => h h' u (F.set hg hs) (N.set hs)))
noncomputable def TStep (h₀ : Heap) (s : Shared) (d : Addr) (pre rest : Led) (J : (Str → Option Value) → Obj → Prop) (f : Flow) (s' : Shared) : Prop :=
  f = .next ∧ ∃ h tk m od, s' = { s with heap := h, toks := tk } ∧ Fr h₀ mainGlobals h m ∧ News h₀ mainGlobals h (pre ++ (d, od) :: rest) ∧ J m od
inductive ForI (h₀ : Heap) (s : Shared) (I B d : Addr) (cB : Nat) (out : List Value) (rest : Led) (J : Nat → (Str → Option Value) → Obj → Prop) (n : Nat) : Shared → Prop
  | mk (i : Nat) (h : Heap) (tk : Nat) (m' : Str → Option Value) (od' io : Obj) (hn : n = out.length + 1 - i) (hi : i ≤ out.length) (ht : 1 ≤ tk) (F : Fr h₀ mainGlobals h m') (hit : h.IsListIter I B i) (N : News h₀ mainGlobals h ((I, io) :: (B, W.listOf (List.toArray out) cB) :: (d, od') :: rest)) (hJ : J i m' od') : ForI h₀ s I B d cB out rest J n { s with heap := h, toks := tk }
theorem for_tups {xk xv : Str} {pk pv pt : Pos} {x1 : Nat} {body : List Stmt} {B d : Addr} {cB : Nat} {out : List Value} {od : Obj} {rest : Led} {Q : Flow → Shared → Prop} (J : Nat → (Str → Option Value) → Obj → Prop) (hh : A.handled = none)
    (hk : prog.main.scope.names.lookup xk = some .local) (hv : prog.main.scope.names.lookup xv = some .local)
    (F : Fr h₀ mainGlobals s.heap m) (N : News h₀ mainGlobals s.heap ((B, W.listOf (List.toArray out) cB) :: (d, od) :: rest)) (hdB : ∀ p ∈ (d, od) :: rest, p.1 ≠ B)
    (Pk : Str → Prop) (hout : ∀ x ∈ out, ∃ a k y t u, x = Value.ref a ∧ Pk k ∧ (a, tupO (.str k t) (.str y u)) ∈ rest) (ht : 1 ≤ s.toks) (h0 : J 0 m od)
    (step : ∀ i I io m₁ od₁ k y t u h₁ tk₁, i < out.length → 1 ≤ tk₁ → J i m₁ od₁ → Pk k → Fr h₀ mainGlobals h₁ (fun z => if z = xv then some (.str y u) else if z = xk then some (.str k t) else m₁ z) →
      News h₀ mainGlobals h₁ ((I, io) :: (B, W.listOf (List.toArray out) cB) :: (d, od₁) :: rest) → (∀ p ∈ (B, W.listOf (List.toArray out) cB) :: (d, od₁) :: rest, p.1 < I) →
      wpAny (model prog w) A (execs body (mainEnv prog c F0)) (TStep h₀ s d [(I, io), (B, W.listOf (List.toArray out) cB)] rest (J (i + 1))) (fun _ _ => False) { s with heap := h₁, toks := tk₁ })
    (fin : ∀ h' tk m' od', 1 ≤ tk → Fr h₀ mainGlobals h' m' → News h₀ mainGlobals h' ((d, od') :: rest) → J out.length m' od' → Q .next { s with heap := h', toks := tk }) :
    wpAny (model prog w) A (pyIter (.ref B)) (fun it s₂ => codeAny (model prog w) A (.forLoop (.Tuple [.Name xk pk, .Name xv pv] x1 pt) it body [] (mainEnv prog c F0)) (fun r s' => match r with | .ok f => Q f s' | .error _ => False) s₂) (fun _ _ => False) s := by
  have hB := (N _ (List.mem_cons_self ..)).1
  have hlB : s.heap.IsList B (List.toArray out) := ⟨_, hB, rfl, _, rfl⟩
  refine wpAny_pyIter_list hlB ?_
  have hI0 : h₀.get? s.heap.objs.size = none := by
    cases hq : h₀.get? s.heap.objs.size with
    | none => rfl
    | some o' => exact absurd (Heap.lt_size (F.keep _ _ hq)) (Nat.lt_irrefl _)
  have hIL : s.heap.objs.size ≠ mainGlobals := Nat.ne_of_gt F.ns.lt
  have hord : ∀ p ∈ (B, W.listOf (List.toArray out) cB) :: (d, od) :: rest, p.1 < s.heap.objs.size := fun p hp => Heap.lt_size (N p hp).1
  generalize hI : s.heap.objs.size = I at *
  have hBI : B ≠ I := Nat.ne_of_lt (hord _ (List.mem_cons_self ..))
  refine codeAny_forLoop_any (ForI h₀ s I B d cB out rest J) ?_ (out.length + 1) ?_
  · rintro n _ ⟨i, h, tk, m', od', io, rfl, hi, htk, F', hit, N', hJ⟩
    have hl : h.IsList B (List.toArray out) := ⟨_, (N' _ (List.mem_cons_of_mem _ (List.mem_cons_self ..))).1, rfl, _, rfl⟩
    have Nr : News h₀ mainGlobals h ((B, W.listOf (List.toArray out) cB) :: (d, od') :: rest) := fun p hp => N' p (List.mem_cons_of_mem _ hp)
    have hne : ∀ p ∈ (B, W.listOf (List.toArray out) cB) :: (d, od') :: rest, p.1 ≠ I := by
      intro p hp
      rcases List.mem_cons.mp hp with rfl | hp
      · exact hBI
      · rcases List.mem_cons.mp hp with rfl | hp
        · exact Nat.ne_of_lt (hord (d, od) (List.mem_cons_of_mem _ (List.mem_cons_self ..)))
        · exact Nat.ne_of_lt (hord p (List.mem_cons_of_mem _ (List.mem_cons_of_mem _ hp)))
    have hltI : ∀ p ∈ (B, W.listOf (List.toArray out) cB) :: (d, od') :: rest, p.1 < I := by
      intro p hp
      rcases List.mem_cons.mp hp with rfl | hp
      · exact hord _ (List.mem_cons_self ..)
      · rcases List.mem_cons.mp hp with rfl | hp
        · exact hord (d, od) (List.mem_cons_of_mem _ (List.mem_cons_self ..))
        · exact hord p (List.mem_cons_of_mem _ (List.mem_cons_of_mem _ hp))
    by_cases hlt : i < out.length
    · have hx : (List.toArray out)[i]? = some out[i] := by simp [hlt]
      obtain ⟨a, k, y, t, u, e, hpk, hm⟩ := hout _ (List.getElem_mem hlt)
      refine wpAny_with_toks (n := 1) htk (wpAny_pyNext_list_item hit hl hx fun h₁ hit₁ hs₁ htk₁ => ?_)
      rw [e]
      have F₁ : Fr h₀ mainGlobals h₁ m' := ⟨F'.ns.sameBut hs₁ (Ne.symm hIL), fun b o q => (hs₁.2 b (fun q' => by rw [q', hI0] at q; cases q)).trans (F'.keep b o q), F'.above⟩
      have N₁ : News h₀ mainGlobals h₁ ((B, W.listOf (List.toArray out) cB) :: (d, od') :: rest) := fun p hp => ⟨(hs₁.2 _ (hne p hp)).trans (Nr p hp).1, (Nr p hp).2⟩
      refine wpAny_letOwnedTupleGo_listiter hit₁ ?_
      have ha := N₁ _ (List.mem_cons_of_mem _ (List.mem_cons_of_mem _ hm))
      refine wpAny_assign_Tuple (items := #[.str k t, .str y u]) hh ⟨_, ha.1, rfl, _, rfl⟩ rfl rfl fun h₂ hx₂ => ?_
      replace hx₂ : Heap.ExtBut h₁.objs.size h₁ h₂ := hx₂
      have up₂ : ∀ b o, h₁.get? b = some o → h₂.get? b = some o := fun b o x => hx₂ b o (Nat.ne_of_lt (Heap.lt_size x)) x
      have F₂ := F₁.keeps up₂
      have N₂ := N₁.grown up₂
      show wpAny _ A (do holding [.str y u] (assign (.Name xk pk) (mainEnv prog c F0) (.str k t)); do holding [] (assign (.Name xv pv) (mainEnv prog c F0) (.str y u)); pure ()) _ _ _
      obtain ⟨oi, hoi, hci, hdi⟩ := hit₁
      have N₂' : News h₀ mainGlobals h₂ ((I, oi) :: (B, W.listOf (List.toArray out) cB) :: (d, od') :: rest) := fun p hp => by
        rcases List.mem_cons.mp hp with rfl | hp
        · exact ⟨up₂ _ _ hoi, hIL, hI0⟩
        · exact N₂ p hp
      refine wpAny_bind (wpAny_holding (wpAny_assign_Name (store_m F₂ N₂' hk fun h₃ F₃ N₃ => ?_)))
      refine wpAny_bind (wpAny_holding (wpAny_assign_Name (store_m F₃ N₃ hv fun h₄ F₄ N₄ => wpAny_pure ?_)))
      refine wpAny_mono (wpAny_toks_of (n := 1) (by show 1 ≤ tk + 1 + 1; omega) (step i I oi m' od' k y t u h₄ _ hlt (by show 1 ≤ tk + 1 + 1; omega) hJ hpk F₄ N₄ hltI)) (fun f s₃ h₃ => ?_) fun _ _ x => x.2.elim
      obtain ⟨htk3, rfl, h₅, tk₅, m₅, od₅, rfl, F₅, N₅, hJ₅⟩ := h₃
      refine ⟨out.length + 1 - (i + 1), by omega, .mk (i + 1) h₅ tk₅ m₅ od₅ oi rfl hlt htk3 F₅ ⟨oi, (N₅ (I, oi) (List.mem_cons_self ..)).1, hci, hdi⟩ N₅ hJ₅⟩
    · have hx : (List.toArray out)[i]? = none := by simp; omega
      refine wpAny_with_toks (n := 1) htk (wpAny_pyNext_list_end hh hit hl hx fun h₁ hs₁ htk₁ => ?_)
      refine wpAny_execs_nil ?_
      have ei : i = out.length := by omega
      subst ei
      refine fin h₁ tk m' od' htk ⟨F'.ns.extBut hs₁ (Ne.symm hIL), fun b o q => hs₁ b o (fun q' => by rw [q', hI0] at q; cases q) (F'.keep b o q), F'.above⟩ (fun p hp => ?_) hJ
      exact ⟨hs₁ _ _ (hne p (List.mem_cons_of_mem _ hp)) (Nr p (List.mem_cons_of_mem _ hp)).1, (Nr p (List.mem_cons_of_mem _ hp)).2⟩
  · refine .mk 0 _ s.toks m od { cls := .type "list_iterator", data := .fields #[.ref B, .int 0 0] } rfl (Nat.zero_le _) ht (F.push _) ⟨_, by rw [← hI]; exact Heap.get?_push_size _ rfl, rfl, rfl⟩ (fun p hp => ?_) h0
    rcases List.mem_cons.mp hp with rfl | hp
    · exact ⟨by rw [← hI]; exact Heap.get?_push_size _ rfl, hIL, hI0⟩
    · exact N.grown (fun _ _ e => Heap.get?_push_of_some _ e) p hp
end
section
variable {w : World} {A : Around} {E : Value → Shared → Prop} {s : Shared} {h₀ : Heap} {L : Addr} {m : Str → Option Value} {news : Led} {c F0 : Addr} {Q : Value → Shared → Prop}
theorem name_m {x : Str} {pos : Pos} {v : Value} (F : Fr h₀ mainGlobals s.heap m) (hv : m x = some v) (h : Q v s) (hd : (x == ("__debug__" : Str)) = false) : wpAny (model prog w) A (eval (.Name x pos) (mainEnv prog c F0)) Q E s :=
  Name_module (env := mainEnv prog c F0) rfl rfl (loadGlobal_global (env := mainEnv prog c F0) F.ns hv h) hd
theorem setd_method {pl : Sem Bool} {Q : Value × List Value → Shared → Prop} {d : Addr} {od : Obj} {kvs : List (Str × Value)} (N : News h₀ L s.heap news) (hm : (d, od) ∈ news) (hod : od.IsDictOf (PySem.strKind prog w) kvs) (h : Q (.builtin "dict.setdefault", [.ref d]) s) :
    wpAny (model prog w) A (getMethod (.ref d) "setdefault" pl) Q E s := by
  have hD : s.heap.DictOf (PySem.strKind prog w) d kvs := Heap.dictOf_iff.mpr ⟨od, (N _ hm).1, hod⟩
  exact getMethod_builtin hD.typeIs PySem.F.plainAttrs_dict PySem.F.slot_dict_setdefault PySem.F.type_dict_setdefault hD.mapOf.noDict h
theorem isetd {d : Addr} {od : Obj} {kvs : List (Str × Value)} {k : Str} {t : Tok} {v : Value} {g : Obj → Led} (F : Fr h₀ L s.heap m) (N : News h₀ L s.heap news) (U : UpdF d od news g) (hod : od.IsDictOf (PySem.strKind prog w) kvs) (hS : (d == sysModules) = false) (hz : kvs.length ≤ 1000)
    (h : ∀ r h' od' kvs', Fr h₀ L h' m → News h₀ L h' (g od') → od'.IsDictOf (PySem.strKind prog w) kvs' → kvs'.length ≤ kvs.length + 1 → Q r { s with heap := h', toks := s.toks + 1 }) :
    wpAny (model prog w) A (call (.builtin "dict.setdefault") [.ref d, .str k t, v]) Q E s := by
  obtain ⟨pre, post, e0, hg, x1, x2⟩ := U.split
  have hmem : (d, od) ∈ news := by rw [e0]; exact List.mem_append_right _ (List.mem_cons_self ..)
  have nd := N _ hmem
  have hD : s.heap.DictOf (PySem.strKind prog w) d kvs := Heap.dictOf_iff.mpr ⟨od, nd.1, hod⟩
  refine call_meetsIn PySem.F.slot_dict_setdefault hD.typeIs PySem.F.entry_dict_setdefault (PySem.F.args_dict_setdefault_3 _ _ _) (PySem.kt_meets_setdefault (PySem.strKind prog w) d (strKind_is _ _ k t) hS v) ⟨kvs, hD, Nat.le_trans hz (by decide), fun r _ => ?_, fun _ h' hd' hs' => ?_⟩
  · refine h r s.heap od kvs F ?_ hod (Nat.le_succ _)
    rw [hg, ← e0]; exact N
  · obtain ⟨od', ho', hod'⟩ := Heap.dictOf_iff.mp hd'
    refine h v h' od' _ ⟨F.ns.sameBut hs' (Ne.symm nd.2.1), fun b o e => (hs'.2 b (fun q => by rw [q, nd.2.2] at e; cases e)).trans (F.keep b o e), F.above⟩ ?_ hod' (stored_length_le _ _ _)
    rw [hg]
    intro p hp
    rw [e0] at N
    rcases List.mem_append.mp hp with hp | hp
    · have n := N p (List.mem_append_left _ hp)
      exact ⟨(hs'.2 _ (x1 p hp)).trans n.1, n.2⟩
    · rcases List.mem_cons.mp hp with rfl | hp
      · exact ⟨ho', nd.2⟩
      · have n := N p (List.mem_append_right _ (List.mem_cons_of_mem _ hp))
        exact ⟨(hs'.2 _ (x2 p hp)).trans n.1, n.2⟩
noncomputable def forIter : Stmt → PySem.Expr | .For _ e _ _ _ => e | _ => .Constant .none 0 ⟨0, 0, 0, 0⟩
noncomputable def forBody : Stmt → List Stmt | .For _ _ b _ _ => b | _ => []
local macro_rules | `(tactic| walk_at "eval Name") => `(tactic| (k_here; k_dflt (
  (refine' name_m ?F ?hv ?_ ?hd; (case F => k_asm); (case hv => first | exact if_pos rfl | exact (if_neg (by decide)).trans (if_pos rfl) | assumption | exact (if_neg (by decide)).trans ((if_neg (by decide)).trans (by assumption)) | exact (if_neg (by decide)).trans ((if_neg (by decide)).trans ((if_neg (by decide)).trans (by assumption)))); (case hd => decide)))))
local macro_rules | `(tactic| walk_at $s) => ml s "
 storeName => R store_m ?F ?N ?hl ?_; c F k_asm N k_asm hl rfl ! i h' F' N'; sw
 getMethod ref => R setd_method ?N ?m ?o ?_; c N k_asm m k_mem o assumption
 call builtin:dict.setdefault => R isetd ?F ?N ?U ?o ?S ?z ?_; c F k_asm N k_asm U =UpdF.tail~{assumption}~(~UpdF.tail~{assumption}~(~UpdF.head~{assumption}~)~) o assumption S assumption z lia ! i r' h' od' kvs' F' N' o' z'; sw"
local macro_rules | `(tactic| walk_at "call builtin:str.replace") => `(tactic| (k_here; k_dflt (refine' SC.replaceW ?u ?v ?uv (by decide) ?x (by decide) ?_; (case u => (show @Ne Nat _ _; omega)); (case v => exact Nat.succ_ne_zero _); (case uv => exact Nat.ne_of_lt (Nat.lt_succ_self _)); (case x => assumption)); intro t' k'))
theorem loop_body {d B I : Addr} {io od : Obj} {cB : Nat} {out : List Value} {rest : Led} {m₁ : Str → Option Value} {k y : Str} {t u : Tok} {kvs : List (Str × Value)} {s0 : Shared} {h₁ : Heap} {tk₁ : Nat} {J : (Str → Option Value) → Obj → Prop}
    (htk : 1 ≤ tk₁) (hk : k.length ≤ 1048576) (hal : m₁ "locale_encoding_alias" = some (.ref d)) (hod : od.IsDictOf (PySem.strKind prog w) kvs) (hz : kvs.length ≤ 1000) (hS : (d == sysModules) = false)
    (F : Fr h₀ mainGlobals h₁ (fun z => if z = "v" then some (.str y u) else if z = "k" then some (.str k t) else m₁ z)) (N : News h₀ mainGlobals h₁ ((I, io) :: (B, W.listOf (List.toArray out) cB) :: (d, od) :: rest))
    (hI : ∀ p ∈ (B, W.listOf (List.toArray out) cB) :: (d, od) :: rest, p.1 < I) (hd : ∀ p ∈ rest, p.1 ≠ d) (hBd : @Ne Nat B d)
    (hJ : ∀ m' od' kvs', (m' "k").isSome = true → (m' "v").isSome = true → (∀ z : Str, z ≠ "k" → z ≠ "v" → m' z = m₁ z) → od'.IsDictOf (PySem.strKind prog w) kvs' → kvs'.length ≤ kvs.length + 1 → J m' od') :
    wpAny (model prog w) (tA c F0) (execs (forBody (stm 8)) (mainEnv prog c F0)) (TStep h₀ s0 d [(I, io), (B, W.listOf (List.toArray out) cB)] rest J) (fun _ _ => False) { s0 with heap := h₁, toks := tk₁ } := by
  conv in forBody (stm 8) => dsimp only [forBody, stm, prog, PySem.Challenge.pw_il0214_01, List.getElem?_cons_succ, List.getElem?_cons_zero, Option.getD_some]
  have KX := noIn h₀
  have hId : @Ne Nat I d := Nat.ne_of_gt (hI (d, od) (List.mem_cons_of_mem _ (List.mem_cons_self ..)))
  k_steps
  rename Obj.IsDictOf _ _ _ => ho'
  refine ⟨rfl, _, _, _, _, rfl, by k_asm, by k_asm, hJ _ _ _ rfl rfl (fun z h1 h2 => ?_) ho' (by assumption)⟩
  rw [if_neg h1, if_neg h2, if_neg h1]
end
theorem fl_12 {M : Model} {A : Around} {E : Value → Shared → Prop} {s : Shared} {Q : Bool → Shared → Prop} {v : Value} (h : wpAny M A (truthy v) Q E s) : wpAny M A (truthy v) Q E s := by
  first
    | (walk1; done)
    | exact h
noncomputable def fpos (i : Nat) : Pos := match stm i with | .FunctionDef _ _ _ _ _ _ _ _ _ p => p | _ => ⟨0, 0, 0, 0⟩
noncomputable def dItem (i : Nat) : DefItem := ⟨fname i, fargs i, fbody i, fscope i, fpos i⟩
section
variable {h₀ : Heap} {mg₀ mg mg' : Str → Option Value} {c Pl : Addr} {h h' : Heap} {ps : Array Value} {defs : List DefItem} {consts : List (Str × PyData)} {objs : List (Str × (Obj → Prop))} {names : List Str}
theorem main_jump (X : h.Main mg c Pl ps) (hx : Heap.ExtBut mainGlobals h h') (hg : h'.Ns mainGlobals mg') (hb : mg' "__builtins__" = mg "__builtins__") : h'.Main mg' c Pl ps := by
  obtain ⟨bm, o, hbm, hne0, hneG, hneP, hbo, r⟩ := X.bmod
  exact ⟨hg, X.code.extBut hx (Nat.ne_of_gt X.low.1) (Nat.ne_of_gt X.low.2), X.low, ⟨bm, o, hb.trans hbm, hne0, hneG, hneP, hx _ _ hneG hbo, r⟩⟩
theorem mod_jump (X : Mod h₀ mg₀ c Pl h mg ps defs consts objs names) (hx : Heap.ExtBut mainGlobals h h') (hsz : h₀.objs.size ≤ h'.objs.size) (hg : h'.Ns mainGlobals mg') (xs : List Str)
    (hag : ∀ y, y ∉ xs → mg' y = mg y) (hd : ∀ d ∈ defs, d.name ∉ xs) (hc : ∀ p ∈ consts, p.1 ∉ xs) (ho : ∀ p ∈ objs, p.1 ∉ xs) (hb : ("__builtins__" : Str) ∉ xs) : Mod h₀ mg₀ c Pl h' mg' ps defs consts objs (xs ++ names) := by
  have up : ∀ b o, h₀.objs.size ≤ b → h.get? b = some o → h'.get? b = some o := fun b o hb e => hx b o (Nat.ne_of_gt (Nat.lt_of_lt_of_le X.lowG hb)) e
  refine ⟨main_jump X.main hx hg (hag _ hb), fun b o hP hG e => hx b o hG (X.keep b o hP hG e), ?_, ?_, ?_, fun d hd => List.mem_append_right _ (X.dnames d hd), fun p hp => List.mem_append_right _ (X.cnames p hp), ?_,
    fun p hp => List.mem_append_right _ (X.onames p hp), hsz, X.lowP, X.lowG, ?_⟩
  · intro d hd'
    obtain ⟨a, c', o, pm, doc, dV, h1, h2, h3, h4, h5, h6, h7⟩ := X.made d hd'
    exact ⟨a, c', o, pm, doc, dV, h1, h2, (hag _ (hd d hd')).trans h3, up _ _ h1 h4, h5, h6.at fun o => up _ o h2, h7.above up⟩
  · intro p hp
    obtain ⟨v, hv, hd⟩ := X.bound p hp
    exact ⟨v, (hag _ (hc p hp)).trans hv, hd⟩
  · intro y hy
    rw [List.mem_append, not_or] at hy
    exact (hag y hy.1).trans (X.others y hy.2)
  · intro p hp
    obtain ⟨a, o, hN, hb, ho', hq⟩ := X.held p hp
    exact ⟨a, o, hN, (hag _ (ho p hp)).trans hb, up _ _ hN ho', hq⟩
  · intro d hd'
    obtain ⟨a, o, fd, c', P', h1, r⟩ := (X.tabs d hd').above (h' := h') up
    exact ⟨a, o, fd, c', P', (hag _ (hd d hd')).trans h1, r⟩
theorem size_of_def (X : Mod h₀ mg₀ c Pl h mg ps defs consts objs names) (hne : defs ≠ []) : ∃ a o, h₀.objs.size ≤ a ∧ h.get? a = some o ∧ @LT.lt Nat _ 3 a := by
  cases defs with
  | nil => exact absurd rfl hne
  | cons d ds =>
    obtain ⟨a, _, o, _, _, _, h1, _, _, h4, _⟩ := X.made d (List.mem_cons_self ..)
    exact ⟨a, o, h1, h4, Nat.lt_of_lt_of_le X.lowG h1⟩
theorem mod_obj {x : Str} {P : Obj → Prop} {a : Addr} {o : Obj} (X : Mod h₀ mg₀ c Pl h mg ps defs consts objs names) (hx : x ∈ names) (ha : h₀.objs.size ≤ a) (hg : mg x = some (.ref a)) (hget : h.get? a = some o) (hP : P o) :
    Mod h₀ mg₀ c Pl h mg ps defs consts ((x, P) :: objs) names :=
  ⟨X.main, X.keep, X.made, X.bound, X.others, X.dnames, X.cnames, fun p hp => by
    rcases List.mem_cons.mp hp with rfl | hp
    · exact ⟨a, o, ha, hg, hget, hP⟩
    · exact X.held p hp, fun p hp => by
    rcases List.mem_cons.mp hp with rfl | hp
    · exact hx
    · exact X.onames p hp, X.grows, X.lowP, X.lowG, X.tabs⟩
end
noncomputable def base3 (h : Heap) : Heap := { h with objs := h.objs.extract 0 3 }
noncomputable def olds (h : Heap) : Led := (List.range h.objs.size).filterMap fun b => if b ≤ 3 then none else (h.get? b).map (b, ·)
theorem get_congr {h h' : Heap} {b : Addr} (e : h.objs[b]? = h'.objs[b]?) : h.get? b = h'.get? b := by unfold Heap.get?; rw [e]
theorem base3_objs (h : Heap) {b : Nat} (hb : b < 3) (hl : b < h.objs.size) : (base3 h).objs[b]? = h.objs[b]? := by
  show (h.objs.extract 0 3)[b]? = _
  rw [Array.getElem?_extract, if_pos (by omega), Nat.zero_add]
theorem base3_size (h : Heap) : (base3 h).objs.size ≤ 3 := by
  show (h.objs.extract 0 3).size ≤ 3
  rw [Array.size_extract]; omega
theorem base3_le (h : Heap) : (base3 h).objs.size ≤ h.objs.size := by
  show (h.objs.extract 0 3).size ≤ _
  rw [Array.size_extract]; omega
theorem base3_get {h : Heap} {b : Addr} {o : Obj} (e : (base3 h).get? b = some o) : h.get? b = some o ∧ @LT.lt Nat _ b 3 := by
  have hl : @LT.lt Nat _ b (base3 h).objs.size := Heap.lt_size e
  have h3 := base3_size h
  have h4 := base3_le h
  have hb : @LT.lt Nat _ b 3 := Nat.lt_of_lt_of_le hl h3
  exact ⟨(get_congr (base3_objs h hb (Nat.lt_of_lt_of_le hl h4))).symm.trans e, hb⟩
theorem base3_of {h : Heap} {b : Addr} {o : Obj} (e : h.get? b = some o) (hb : @LT.lt Nat _ b 3) : (base3 h).get? b = some o :=
  (get_congr (base3_objs h hb (Heap.lt_size e))).trans e
theorem olds_mem {h : Heap} {p : Addr × Obj} : p ∈ olds h ↔ h.get? p.1 = some p.2 ∧ @LT.lt Nat _ 3 p.1 := by
  obtain ⟨a, o⟩ := p
  unfold olds
  rw [List.mem_filterMap]
  constructor
  · rintro ⟨b, hb, e⟩
    split at e
    · cases e
    · rename_i hb3
      obtain ⟨o', e1, e2⟩ := Option.map_eq_some_iff.mp e
      cases e2
      exact ⟨e1, Nat.lt_of_not_le hb3⟩
  · rintro ⟨e, h3⟩
    refine ⟨a, List.mem_range.mpr (Heap.lt_size e), ?_⟩
    rw [if_neg (Nat.not_le_of_gt h3)]
    show Option.map _ (h.get? a) = _
    rw [show h.get? a = some o from e]; rfl
theorem fr_start {h : Heap} {mg : Str → Option Value} (hg : h.Ns mainGlobals mg) : Fr (base3 h) mainGlobals h mg ∧ News (base3 h) mainGlobals h (olds h) := by
  refine ⟨⟨hg, fun b o e => (base3_get e).1, base3_size h⟩, fun p hp => ?_⟩
  obtain ⟨e, h3⟩ := olds_mem.mp hp
  refine ⟨e, Nat.ne_of_gt h3, ?_⟩
  cases hq : (base3 h).get? p.1 with
  | none => rfl
  | some o => exact absurd (base3_get hq).2 (Nat.not_lt.mpr (Nat.le_of_lt h3))
theorem back_ext {h h' : Heap} {mg' : Str → Option Value} {l : Led} (F : Fr (base3 h) mainGlobals h' mg') (N : News (base3 h) mainGlobals h' l) (hs : ∀ p ∈ olds h, p ∈ l) : Heap.ExtBut mainGlobals h h' := by
  intro b o hb e
  rcases Nat.lt_or_ge b 3 with h3 | h3
  · exact F.keep _ _ (base3_of e h3)
  · have hb' : @Ne Nat b 3 := hb
    exact (N (b, o) (hs (b, o) (olds_mem.mpr ⟨e, Nat.lt_of_le_of_ne h3 (Ne.symm hb')⟩))).1
noncomputable def dKeys : Stmt → List (Option PySem.Expr) | .Assign _ (.Dict ks _ _) _ => ks | _ => []
noncomputable def dVals : Stmt → List PySem.Expr | .Assign _ (.Dict _ vs _) _ => vs | _ => []
noncomputable def tgts : Stmt → List PySem.Expr | .Assign ts _ _ => ts | _ => []
noncomputable def tpos (i : Nat) : Pos := (((tgts (stm i))[0]?).map PySem.Expr.pos).getD ⟨0, 0, 0, 0⟩
noncomputable def aD0 : List (PyData × PyData) := (litPairs (dKeys (stm 7)) (dVals (stm 7))).getD []
noncomputable def aD : List (Str × PyData) := (litsS aD0).getD []
theorem some_of {α : Type} {o : Option (List α)} (h : o.isSome = true) : o = some (o.getD []) := by cases o with | none => cases h | some _ => rfl
theorem aD0_eq : litPairs (dKeys (stm 7)) (dVals (stm 7)) = some aD0 := some_of (by kernel_rfl)
theorem aD_eq : litsS aD0 = some aD := some_of (by kernel_rfl)
theorem swaps_dict (ks : List (Option PySem.Expr)) (vs : List PySem.Expr) (p : Pos) (t : Option PySem.Expr) (l : Nat) (env : Env) : swapsWith (.Dict ks vs p) t l env = pure false := rfl
theorem stm7_eq : stm 7 = .Assign [.Name "locale_encoding_alias" (tpos 7)] (.Dict (dKeys (stm 7)) (dVals (stm 7)) (valOf 7).pos) (stm 7).pos := by kernel_rfl
theorem stm8_eq : ∃ pk pv x1 pt pos, stm 8 = .For (.Tuple [.Name "k" pk, .Name "v" pv] x1 pt) (forIter (stm 8)) (forBody (stm 8)) [] pos := ⟨_, _, _, _, _, by with_unfolding_all rfl⟩
theorem stm9_eq : ∃ pk pv pos, stm 9 = .Delete [.Name "k" pk, .Name "v" pv] pos := ⟨_, _, _, by with_unfolding_all rfl⟩
noncomputable def AJ (w : World) (a : Addr) (mg : Str → Option Value) (i : Nat) (m : Str → Option Value) (od : Obj) : Prop :=
  m "locale_encoding_alias" = some (.ref a) ∧ (∀ y, y ∉ (["locale_encoding_alias", "k", "v"] : List Str) → m y = mg y) ∧ (∃ kvs, od.IsDictOf (PySem.strKind prog w) kvs ∧ kvs.length ≤ 44 + i) ∧ (0 < i → (m "k").isSome = true ∧ (m "v").isSome = true)
noncomputable def isStrD : PyData → Bool | .str _ => true | _ => false
theorem aD_str : (aD.all fun p => isStrD p.2) = true := by kernel_rfl
theorem aD_all : (dKeys (stm 7)).all (·.isSome) = true := by kernel_rfl
theorem aD_lens : (dKeys (stm 7)).length = (dVals (stm 7)).length := by kernel_rfl
theorem aD_len : aD.length = 44 := by kernel_rfl
theorem aD_ne : aD ≠ [] := fun q => by
  have h := aD_len
  rw [q, List.length_nil] at h
  omega
theorem aD_short : (aD.all fun p => decide (p.1.length ≤ 100)) = true := by kernel_rfl
theorem aD_nodup : (aD.map (·.1)).Nodup := by decide +kernel
theorem FV.strs {K : Type} {kvs : List (K × Value)} {D : List (K × PyData)} (h : FV kvs D) (hs : (D.all fun p => isStrD p.2) = true) : ∀ p ∈ kvs, ∃ x u, p.2 = Value.str x u := by
  induction h with
  | nil => intro p hp; cases hp
  | @cons k v d kvs D hv _ ih =>
    rw [List.all_cons, Bool.and_eq_true] at hs
    intro p hp
    rcases List.mem_cons.mp hp with rfl | hp
    · cases d with
      | str x => obtain ⟨t, e⟩ := PyProof.V.Flat.str_inv hv; exact ⟨x, t, e⟩
      | _ => cases hs.1
    · exact ih hs.2 p hp
theorem base3_ns {h : Heap} {mb : Str → Option Value} (x : h.Ns builtinsNs mb) : (base3 h).Ns builtinsNs mb :=
  let ⟨o, es, ep, e, r⟩ := x; ⟨o, es, ep, base3_of e (by decide), r⟩
section
variable {w : World} {s : Shared} {c F0 Pl : Addr} {hs : Heap} {mg₀ mg mb : Str → Option Value} {ps : Array Value} {defs : List DefItem} {consts : List (Str × PyData)} {objs : List (Str × (Obj → Prop))} {names : List Str} {Q : Flow → Shared → Prop}
local macro_rules | `(tactic| walk_at $s) => ml s "
 eval Name => R tname_bi ?F ?g ?hx ?hv ?hn ?_ ?hd; c hd decide F k_asm g assumption hx deck hv boot_fast hn decide"
local macro_rules | `(tactic| walk_at $s) => ml s "
 eval Name => R name_m ?F ?hv ?_ ?hd; c F k_asm hv =if_pos~rfl hd decide
 call builtin:sorted => s wpAny _ _ ( call ( Value.builtin $sorted ) ( List.cons ( Value.ref _ ) List.nil ) ) _ _ _ & r Stop.out @p=_ ?_"
theorem alias_stmts {rest : List Stmt} {s7 s8 s9 : Stmt} (h7 : stm 7 = s7) (h8 : stm 8 = s8) (h9 : stm 9 = s9) (X : Mod hs mg₀ c Pl s.heap mg ps defs consts objs names) (hne : defs ≠ []) (hmb : s.heap.Ns builtinsNs mb) (hB : ∀ x : Str, x ≠ "__name__" → mb x = bootBuiltins x) (hf : ∀ x, biNames.contains x = true → mg x = none) (htk : 1 ≤ s.toks)
    (hd : ∀ d ∈ defs, d.name ∉ (["locale_encoding_alias", "k", "v"] : List Str)) (hc : ∀ p ∈ consts, p.1 ∉ (["locale_encoding_alias", "k", "v"] : List Str)) (ho : ∀ p ∈ objs, p.1 ∉ (["locale_encoding_alias", "k", "v"] : List Str))
    (k : ∀ h' mg' tk, 1 ≤ tk → Mod hs mg₀ c Pl h' mg' ps defs consts objs ((["locale_encoding_alias", "k", "v"] : List Str) ++ names) → (∀ y, y ∉ (["locale_encoding_alias", "k", "v"] : List Str) → mg' y = mg y) → Heap.ExtBut mainGlobals s.heap h' →
      wpAny (model prog w) (tA c F0) (execs rest (mainEnv prog c F0)) Q (fun _ _ => False) { s with heap := h', toks := tk }) :
    wpAny (model prog w) (tA c F0) (execs (s7 :: s8 :: s9 :: rest) (mainEnv prog c F0)) Q (fun _ _ => False) s := by
  subst h7; subst h8; subst h9
  have hbig : sysModules < s.heap.objs.size := Nat.lt_trans (by decide) X.main.g.lt
  obtain ⟨F, N⟩ := fr_start X.main.g
  have e7 := stm7_eq
  generalize tpos 7 = px, (valOf 7).pos = dp, (stm 7).pos = pos at e7
  refine wpAny_execs_cons ?_
  have a1 := aD0_eq
  have a2 := aD_all
  have a3 := aD_lens
  generalize dKeys (stm 7) = KS at *
  generalize dVals (stm 7) = VS at *
  rw [e7]
  refine wpAny_mono (Q := fun f s' => 1 ≤ s'.toks ∧ f = .next ∧ ∃ h' tk' a od kvs, s' = { s with heap := h', toks := tk' } ∧ Fr (base3 s.heap) mainGlobals h' (fun y => if y = "locale_encoding_alias" then some (.ref a) else mg y) ∧ News (base3 s.heap) mainGlobals h' ((a, od) :: olds s.heap) ∧ od.IsDictOf (PySem.strKind prog w) kvs ∧ FV kvs aD ∧ (∀ p ∈ olds s.heap, p.1 < a)) (E := fun _ _ => False) ?first ?second (fun _ _ x => x)
  case first =>
    refine wpAny_mono (wpAny_toks_of (n := 1) htk (Q := fun f s' => f = .next ∧ ∃ h' tk' a od kvs, s' = { s with heap := h', toks := tk' } ∧ Fr (base3 s.heap) mainGlobals h' (fun y => if y = "locale_encoding_alias" then some (.ref a) else mg y) ∧ News (base3 s.heap) mainGlobals h' ((a, od) :: olds s.heap) ∧ od.IsDictOf (PySem.strKind prog w) kvs ∧ FV kvs aD ∧ (∀ p ∈ olds s.heap, p.1 < a)) (E := fun _ _ => False) ?_) (fun _ _ x => x) (fun _ _ x => x.2)
    refine wpAny_Assign_Name ?_ (swaps_dict _ _ _ _ _ _)
    refine Dict_str hbig a1 aD_eq aD_nodup a2 a3 aD_ne (by rw [aD_len]; decide) fun a h1 kvs tk hfv hdk hge keep => ?_
    have F1 := F.keeps keep
    obtain ⟨od, hod, hio⟩ := Heap.dictOf_iff.mp hdk
    have N1 : News (base3 s.heap) mainGlobals h1 ((a, od) :: olds s.heap) := fun p hp => by
      rcases List.mem_cons.mp hp with rfl | hp
      · exact ⟨hod, Nat.ne_of_gt (Nat.lt_of_lt_of_le X.main.g.lt hge), Heap.get?_none_of_le (Nat.le_trans (base3_le _) hge)⟩
      · exact N.grown keep p hp
    have hlt : ∀ p ∈ olds s.heap, p.1 < a := fun p hp => Nat.lt_of_lt_of_le (Heap.lt_size (N p hp).1) hge
    exact store_m F1 N1 rfl fun h2 F2 N2 => ⟨rfl, h2, _, a, od, kvs, rfl, F2, N2, hio, hfv, hlt⟩
  case second =>
    rintro _ _ ⟨htk2, rfl, h2, tk2, a, od, kvs, rfl, F2, N2, hio, hfv, hlt⟩
    dsimp only at htk2 ⊢
    clear F N
    refine wpAny_execs_cons ?_
    obtain ⟨pk, pv, x1, pt, pos8, e8⟩ := stm8_eq
    have ga : @LT.lt Nat _ 3 a := by
      obtain ⟨x, o, _, e, h3⟩ := size_of_def X hne
      exact Nat.lt_trans h3 (hlt (x, o) (olds_mem.mpr ⟨e, h3⟩))
    have hS : (a == sysModules) = false := beq_eq_false_iff_ne.mpr (Nat.ne_of_gt (Nat.lt_trans (by decide) ga))
    have g2 : TG (base3 s.heap) mb (fun y => if y = "locale_encoding_alias" then some (.ref a) else mg y) := ⟨base3_ns hmb, hB, fun x hx => by
      rw [if_neg]
      · exact hf x hx
      · rintro rfl; revert hx; decide +kernel⟩
    have hlen : kvs.length = 44 := by rw [hfv.length, aD_len]
    refine wpAny_mono (Q := fun f s' => f = .next ∧ ∃ h' tk' m' od', s' = { s with heap := h', toks := tk' } ∧ 1 ≤ tk' ∧ Fr (base3 s.heap) mainGlobals h' m' ∧ News (base3 s.heap) mainGlobals h' ((a, od') :: olds s.heap) ∧ AJ w a mg 44 m' od') (E := fun _ _ => False) ?loop ?after (fun _ _ x => x)
    case loop =>
      generalize hb8 : forBody (stm 8) = body8 at *
      rw [e8]
      refine wpAny_For ?_ (fun _ => rfl)
      conv in forIter (stm 8) => dsimp only [forIter, stm, prog, PySem.Challenge.pw_il0214_01, List.getElem?_cons_succ, List.getElem?_cons_zero, Option.getD_some]
      have KX := noIn (base3 s.heap)
      k_steps
      refine ⟨?_⟩
      rename Fr _ _ _ _ => F3
      rename News _ _ _ _ => N3
      rename_i D h3 lD
      have hshort : ∀ x, x ∈ kvs.map (·.1) → x.length ≤ 1048576 := fun x hx => by
        rw [hfv.keys] at hx
        obtain ⟨p, hp, rfl⟩ := List.mem_map.mp hx
        have := List.all_eq_true.mp aD_short p hp
        exact Nat.le_trans (of_decide_eq_true this) (by decide)
      refine wpAny_with_toks (n := 1) htk2 (isorted_items (od := od) (kvs := kvs) rfl F3 N3 (by k_mem) (by k_mem) hio (hfv.strs aD_str) (by omega) (by omega) fun B tups cB out h4 tk4 F4 N4 o1 o2 hlo hout htk4 => ?_)
      have hda : ∀ p ∈ tups ++ (D, ({ cls := .type "dict_items", data := .fields #[.ref a] } : Obj)) :: olds s.heap, p.1 ≠ a := by
        intro p hp
        rcases List.mem_append.mp hp with hp | hp
        · exact Nat.ne_of_gt (o1 p hp (a, od) (List.mem_cons_of_mem _ (List.mem_cons_self ..)))
        · rcases List.mem_cons.mp hp with rfl | hp
          · exact Nat.ne_of_gt lD.1
          · exact Nat.ne_of_lt (hlt p hp)
      have hB : ∀ p ∈ (a, od) :: (tups ++ (D, ({ cls := .type "dict_items", data := .fields #[.ref a] } : Obj)) :: olds s.heap), p.1 < B := by
        intro p hp
        apply o2
        rcases List.mem_cons.mp hp with rfl | hp
        · exact List.mem_append_right _ (List.mem_cons_of_mem _ (List.mem_cons_self ..))
        · rcases List.mem_append.mp hp with hp | hp
          · exact List.mem_append_left _ hp
          · rcases List.mem_cons.mp hp with rfl | hp
            · exact List.mem_append_right _ (List.mem_cons_self ..)
            · exact List.mem_append_right _ (List.mem_cons_of_mem _ (List.mem_cons_of_mem _ hp))
      have N5 : News (base3 s.heap) mainGlobals h4 ((B, W.listOf (List.toArray out) cB) :: (a, od) :: (tups ++ (D, ({ cls := .type "dict_items", data := .fields #[.ref a] } : Obj)) :: olds s.heap)) := by
        intro p hp
        apply N4
        rcases List.mem_cons.mp hp with rfl | hp
        · exact List.mem_cons_self ..
        · refine List.mem_cons_of_mem _ ?_
          rcases List.mem_cons.mp hp with rfl | hp
          · exact List.mem_append_right _ (List.mem_cons_of_mem _ (List.mem_cons_self ..))
          · rcases List.mem_append.mp hp with hp | hp
            · exact List.mem_append_left _ hp
            · rcases List.mem_cons.mp hp with rfl | hp
              · exact List.mem_append_right _ (List.mem_cons_self ..)
              · exact List.mem_append_right _ (List.mem_cons_of_mem _ (List.mem_cons_of_mem _ hp))
      refine wpAny_mono (for_tups (s := { s with heap := h4, toks := tk4 }) (pk := pk) (pv := pv) (pt := pt) (x1 := x1) (body := body8)
        (Q := fun f s' => f = .next ∧ ∃ h' tk' m' od', s' = { s with heap := h', toks := tk' } ∧ 1 ≤ tk' ∧ Fr (base3 s.heap) mainGlobals h' m' ∧ News (base3 s.heap) mainGlobals h' ((a, od') :: olds s.heap) ∧ AJ w a mg 44 m' od')
        (AJ w a mg) rfl rfl rfl F4 N5 (fun p hp => Nat.ne_of_lt (hB p hp)) (fun x => x ∈ kvs.map (·.1)) (fun x hx => ?_) htk4 ?_ ?_ ?_) (fun it s₂ h => codeAny_mono h fun r s' hr => ?_) (fun _ _ x => x)
      · obtain ⟨a', k', y', t', u', e1, e2, e3⟩ := hout x hx
        exact ⟨a', k', y', t', u', e1, e2, List.mem_append_left _ e3⟩
      · exact ⟨if_pos rfl, fun y hy => if_neg (fun q => hy (by rw [q]; exact List.mem_cons_self ..)), ⟨kvs, hio, by omega⟩, fun q => absurd q (by omega)⟩
      · intro i I io m₁ od₁ k' y' t' u' h5 tk5 hi htk5 hJ hpk F5 N6 hI
        obtain ⟨j1, j2, ⟨kvs1, j3, j4⟩, j5⟩ := hJ
        rw [← hb8]
        refine loop_body (s0 := { s with heap := h4, toks := tk4 }) htk5 (hshort k' hpk) j1 j3 (by omega) hS F5 N6 hI hda (Nat.ne_of_gt (hB (a, od) (List.mem_cons_self ..))) fun m' od' kvs' hk' hv' hm' hd' hl' => ?_
        refine ⟨(hm' _ (by decide) (by decide)).trans j1, fun y hy => ?_, ⟨kvs', hd', by omega⟩, fun _ => ⟨hk', hv'⟩⟩
        refine (hm' y ?_ ?_).trans (j2 y hy)
        · rintro rfl; exact hy (by decide)
        · rintro rfl; exact hy (by decide)
      · intro h' tk' m' od' htk' F' N' hJ
        rw [hlo, hlen] at hJ
        refine ⟨rfl, h', tk', m', od', rfl, htk', F', fun p hp => ?_, hJ⟩
        apply N'
        rcases List.mem_cons.mp hp with rfl | hp
        · exact List.mem_cons_self ..
        · exact List.mem_cons_of_mem _ (List.mem_append_right _ (List.mem_cons_of_mem _ hp))
      · cases r with
        | ok f => exact hr
        | error e => exact hr.elim
    case after =>
      rintro _ _ ⟨rfl, h5, tk5, m5, od5, rfl, htk5, F5, N5, j1, j2, _, j4⟩
      obtain ⟨jk, jv⟩ := j4 (by decide)
      obtain ⟨vk, ek⟩ := Option.isSome_iff_exists.mp jk
      obtain ⟨vv, ev⟩ := Option.isSome_iff_exists.mp jv
      dsimp only
      refine wpAny_execs_cons ?_
      obtain ⟨qk, qv, pos9, e9⟩ := stm9_eq
      rw [e9]
      refine wpAny_Delete (wpAny_deleteEach_cons (del_m F5 N5 rfl ek fun h6 u6 F6 N6 => wpAny_deleteEach_cons (del_m F6 N6 rfl ((if_neg (by decide)).trans ev) fun h7 u7 F7 N7 => wpAny_deleteEach_nil ?_)))
      have hx : Heap.ExtBut mainGlobals s.heap h7 := back_ext F7 N7 fun p hp => List.mem_cons_of_mem _ hp
      have hag : ∀ y, y ∉ (["locale_encoding_alias", "k", "v"] : List Str) → (fun y => if y = ("v" : Str) then u7 else if y = ("k" : Str) then u6 else m5 y) y = mg y := fun y hy => by
        show (if _ then _ else if _ then _ else _) = _
        rw [if_neg, if_neg]
        · exact j2 y hy
        · rintro rfl; exact hy (by decide)
        · rintro rfl; exact hy (by decide)
      refine k h7 _ tk5 htk5 (mod_jump X hx ?_ F7.ns _ hag hd hc ho (by decide)) hag hx
      obtain ⟨x, o, hx1, e, h3⟩ := size_of_def X hne
      exact Nat.le_of_lt (Nat.lt_of_le_of_lt hx1 (Heap.lt_size (hx x o (Nat.ne_of_gt h3) e)))
end
theorem fl_13 {M : Model} {A : Around} {E : Value → Shared → Prop} {s : Shared} {Q : Bool → Shared → Prop} {v : Value} (h : wpAny M A (truthy v) Q E s) : wpAny M A (truthy v) Q E s := by
  first
    | (walk1; done)
    | exact h
theorem body_eq : prog.main.body = [stm 0, stm 1, stm 2, stm 3, stm 4, stm 5, stm 6, stm 7, stm 8, stm 9, stm 10, stm 11, stm 12, stm 13, stm 14, stm 15, stm 16, stm 17, stm 18, stm 19, stm 20, stm 21, stm 22, stm 23, stm 24, stm 25, stm 26, stm 27, stm 28, stm 29, stm 30, stm 31, stm 32, stm 33, stm 34, stm 35] := by kernel_rfl
noncomputable def setP (w : World) (l : List Int) (o : Obj) : Prop := o.SetObjOf (intKind prog w) (fun k => l.contains k) l.length
noncomputable def bD0 : List (PyData × PyData) := (litPairs (dKeys (stm 13)) (dVals (stm 13))).getD []
noncomputable def bD : List (Int × PyData) := (litsI bD0).getD []
theorem bD0_eq : litPairs (dKeys (stm 13)) (dVals (stm 13)) = some bD0 := some_of (by kernel_rfl)
theorem bD_eq : litsI bD0 = some bD := some_of (by kernel_rfl)
theorem bD_len : bD.length = 650 := by kernel_rfl
theorem bD_ne : bD ≠ [] := fun q => by
  have h := bD_len
  rw [q, List.length_nil] at h
  omega
theorem bD_all : (dKeys (stm 13)).all (·.isSome) = true := by kernel_rfl
theorem bD_lens : (dKeys (stm 13)).length = (dVals (stm 13)).length := by kernel_rfl
noncomputable def incr : List Int → Bool
  | a :: b :: r => decide (a < b) && incr (b :: r)
  | _ => true
theorem incr_lt : ∀ {l : List Int} {a : Int}, incr (a :: l) = true → ∀ b ∈ l, a < b
  | b :: r, a, h, c, hc => by
    simp only [incr, Bool.and_eq_true, decide_eq_true_eq] at h
    rcases List.mem_cons.mp hc with rfl | hc
    · exact h.1
    · exact Int.lt_trans h.1 (incr_lt h.2 c hc)
theorem incr_nodup : ∀ {l : List Int}, incr l = true → l.Nodup
  | [], _ => List.nodup_nil
  | [_], _ => List.pairwise_singleton _ _
  | a :: b :: r, h => List.nodup_cons.mpr ⟨fun q => absurd (incr_lt h a q) (Int.lt_irrefl _), incr_nodup (by simp only [incr, Bool.and_eq_true] at h; exact h.2)⟩
theorem bD_nodup : (bD.map (·.1)).Nodup := incr_nodup (by kernel_rfl)
noncomputable def b3P (w : World) (o : Obj) : Prop := ∃ kvs, o.IsDictOf (intKind prog w) kvs ∧ FV kvs bD
noncomputable def NmAt (st : Stmt) : Prop := ∃ px v k p pos, st = .Assign [.Name "__name__" px] (.Constant (.str v) k p) pos
structure SetAt (x : Str) (i : Nat) : Prop where
  eq : stm i = .Assign [.Name x (tpos i)] (valOf i) (stm i).pos
  swaps : ∀ t l env, swapsWith (valOf i) t l env = pure false
structure DefAt (i : Nat) : Prop where
  eq : stm i = .FunctionDef (fname i) (fargs i) (fbody i) [] none [] (fscope i) none (fname i) (fpos i)
  dflt : (fargs i).defaults = []
section
variable {w : World} {s : Shared} {c F0 Pl : Addr} {hs : Heap} {mg₀ mg mb : Str → Option Value} {ps : Array Value} {defs : List DefItem} {consts : List (Str × PyData)} {objs : List (Str × (Obj → Prop))} {names : List Str} {Q : Flow → Shared → Prop} {rest : List Stmt}
noncomputable def fnP (i : Nat) (o : Obj) : Prop := ∃ pm c', o = { cls := .type "function", data := .func (fnX (fname i) (fname i) (fargs i) (fbody i) (fscope i) [] .none .none .none pm none (.ref c') .none) }
theorem def_step {st : Stmt} (i : Nat) (hst : stm i = st) (hp : DefAt i) (hex : PlainDefTree (fname i) (fargs i) (fbody i) (fscope i) (fpos i)) (X : Mod hs mg₀ c Pl s.heap mg ps defs consts objs names) (htk : 1 ≤ s.toks)
    (hfree : ∀ x ∈ (fscope i).names, x.2 ≠ .free) (hdoc : docOf (fbody i) = none) (hloc : prog.main.scope.names.lookup (fname i) = some .local)
    (hq : qualnameIn { scope := prog.main.scope, locals := mainGlobals, globals := mainGlobals, cells := [] } (fname i) (fname i) = fname i) (hnew : fname i ∉ names) (hnb : fname i ≠ "__builtins__") (hnf : codeAmong (fpos i) ps.toList = none)
    (k : ∀ h' mg' c' tk, 1 ≤ tk → Mod hs mg₀ c Pl h' mg' (ps ++ #[rawInt (fpos i).line, rawInt (fpos i).col, .ref c']) (dItem i :: defs) consts ((fname i, fnP i) :: objs) (fname i :: names) →
      wpAny (model prog w) (tA c F0) (execs rest (mainEnv prog c F0)) Q (fun _ _ => False) { s with heap := h', toks := tk }) :
    wpAny (model prog w) (tA c F0) (execs (st :: rest) (mainEnv prog c F0)) Q (fun _ _ => False) s := by
  subst hst
  obtain ⟨e, hnd⟩ := hp
  refine wpAny_execs_cons ?_
  refine wpAny_mono (Q := fun f s' => 1 ≤ s'.toks ∧ f = .next ∧ ∃ h' mg' c' tk, s' = { s with heap := h', toks := tk } ∧ Mod hs mg₀ c Pl h' mg' (ps ++ #[rawInt (fpos i).line, rawInt (fpos i).col, .ref c']) (dItem i :: defs) consts ((fname i, fnP i) :: objs) (fname i :: names)) (E := fun _ _ => False) ?first ?second (fun _ _ x => x)
  case first =>
    refine wpAny_mono (wpAny_toks_of (n := 1) htk (Q := fun f s' => f = .next ∧ ∃ h' mg' c' tk, s' = { s with heap := h', toks := tk } ∧ Mod hs mg₀ c Pl h' mg' (ps ++ #[rawInt (fpos i).line, rawInt (fpos i).col, .ref c']) (dItem i :: defs) consts ((fname i, fnP i) :: objs) (fname i :: names)) (E := fun _ _ => False) ?_) (fun _ _ x => x) (fun _ _ x => x.2)
    unfold dItem fnP
    generalize fname i = n at *
    generalize fargs i = ar at *
    generalize fbody i = b at *
    generalize fscope i = sc at *
    generalize fpos i = po at *
    rw [e]
    refine wpAny_plainDefN (prog := prog) hex hfree hdoc hloc hq X.main (fun a c' h' tk ha hm hf hcd htb keep => ?_) hnb rfl hnf
    have haN : hs.objs.size ≤ a := Nat.le_trans X.grows ha
    have Y := X.rebind hnew hm keep (Nat.le_trans haN (Nat.le_of_lt (Heap.lt_size hf)))
    have Z : Mod hs mg₀ c Pl h' (fun x => if x = n then some (.ref a) else mg x) (ps ++ #[rawInt po.line, rawInt po.col, .ref c']) (⟨n, ar, b, sc, po⟩ :: defs) consts objs (n :: names) := by
      refine ⟨Y.main, Y.keep, fun d hd => ?_, Y.bound, Y.others, fun d hd => ?_, Y.cnames, Y.held, Y.onames, Y.grows, Y.lowP, Y.lowG, fun d hd => ?_⟩
      · rcases List.mem_cons.mp hd with rfl | hd
        · exact ⟨a, c', _, _, .none, .none, haN, Nat.le_trans X.grows hcd.1, if_pos rfl, hf, rfl, hcd.2, .inl ⟨hnd, rfl⟩⟩
        · exact Y.made d hd
      · rcases List.mem_cons.mp hd with rfl | hd
        · exact List.mem_cons_self
        · exact Y.dnames d hd
      · rcases List.mem_cons.mp hd with rfl | hd
        · obtain ⟨P', hP', hi, ht⟩ := htb
          exact ⟨a, _, _, c', P', if_pos rfl, hf, rfl, rfl, haN, Nat.le_trans X.grows hcd.1, Nat.le_trans X.grows hP', hi, ht⟩
        · exact Y.tabs d hd
    exact ⟨rfl, h', _, c', tk, rfl, mod_obj Z (List.mem_cons_self ..) haN (if_pos rfl) hf ⟨_, c', rfl⟩⟩
  case second =>
    rintro _ _ ⟨h1, rfl, h', mg', c', tk, rfl, Y⟩
    exact k h' mg' c' tk h1 Y
theorem name_step {st : Stmt} (hp : NmAt st) (X : Mod hs mg₀ c Pl s.heap mg ps defs consts objs names) (htk : 1 ≤ s.toks) (hne : defs ≠ []) (hd : ∀ d ∈ defs, d.name ∉ (["__name__"] : List Str)) (hc : ∀ p ∈ consts, p.1 ∉ (["__name__"] : List Str)) (ho : ∀ p ∈ objs, p.1 ∉ (["__name__"] : List Str))
    (k : ∀ h' mg' tk, 1 ≤ tk → Mod hs mg₀ c Pl h' mg' ps defs consts objs ("__name__" :: names) → wpAny (model prog w) (tA c F0) (execs rest (mainEnv prog c F0)) Q (fun _ _ => False) { s with heap := h', toks := tk }) :
    wpAny (model prog w) (tA c F0) (execs (st :: rest) (mainEnv prog c F0)) Q (fun _ _ => False) s := by
  obtain ⟨px, v, kk, p, pos, e⟩ := hp
  refine wpAny_execs_cons ?_
  rw [e]
  obtain ⟨F, N⟩ := fr_start X.main.g
  refine wpAny_Assign_Name (wpAny_Constant_str (store_m F N rfl fun h' F' N' => ?_)) rfl
  have hx : Heap.ExtBut mainGlobals s.heap h' := back_ext F' N' fun p hp => hp
  obtain ⟨x, o, hx1, e1, h3⟩ := size_of_def X hne
  exact k h' _ _ (by show 1 ≤ s.toks + 1 + 1; omega) (mod_jump X hx (Nat.le_of_lt (Nat.lt_of_le_of_lt hx1 (Heap.lt_size (hx x o (Nat.ne_of_gt h3) e1)))) F'.ns ["__name__"] (fun y hy => if_neg (fun q => hy (by rw [q]; exact List.mem_cons_self ..))) hd hc ho (by decide))
theorem obj_step {st : Stmt} (x : Str) {e : PySem.Expr} {px pos : Pos} {P : Obj → Prop} (hst : st = .Assign [.Name x px] e pos) (hsw : ∀ t l env, swapsWith e t l env = pure false) (hloc : prog.main.scope.names.lookup x = some .local) (hnb : x ≠ "__builtins__") (X : Mod hs mg₀ c Pl s.heap mg ps defs consts objs names) (htk : 1 ≤ s.toks) (hne : defs ≠ []) (hd : ∀ d ∈ defs, d.name ∉ ([x] : List Str)) (hc : ∀ p ∈ consts, p.1 ∉ ([x] : List Str)) (ho : ∀ p ∈ objs, p.1 ∉ ([x] : List Str))
    (he : ∀ (Q' : Value → Shared → Prop), (∀ a h' tk o, Fr (base3 s.heap) mainGlobals h' mg → News (base3 s.heap) mainGlobals h' ((a, o) :: olds s.heap) → (∀ p ∈ olds s.heap, p.1 < a) → P o → Q' (.ref a) { s with heap := h', toks := tk }) → wpAny (model prog w) (tA c F0) (eval e (mainEnv prog c F0)) Q' (fun _ _ => False) s)
    (k : ∀ h' mg' tk, 1 ≤ tk → Mod hs mg₀ c Pl h' mg' ps defs consts ((x, P) :: objs) (x :: names) → wpAny (model prog w) (tA c F0) (execs rest (mainEnv prog c F0)) Q (fun _ _ => False) { s with heap := h', toks := tk }) :
    wpAny (model prog w) (tA c F0) (execs (st :: rest) (mainEnv prog c F0)) Q (fun _ _ => False) s := by
  refine wpAny_execs_cons ?_
  rw [hst]
  refine wpAny_mono (Q := fun f s' => 1 ≤ s'.toks ∧ f = .next ∧ ∃ h' mg' tk, s' = { s with heap := h', toks := tk } ∧ Mod hs mg₀ c Pl h' mg' ps defs consts ((x, P) :: objs) (x :: names)) (E := fun _ _ => False) ?first ?second (fun _ _ x => x)
  case first =>
    refine wpAny_mono (wpAny_toks_of (n := 1) htk (Q := fun f s' => f = .next ∧ ∃ h' mg' tk, s' = { s with heap := h', toks := tk } ∧ Mod hs mg₀ c Pl h' mg' ps defs consts ((x, P) :: objs) (x :: names)) (E := fun _ _ => False) ?_) (fun _ _ x => x) (fun _ _ x => x.2)
    refine wpAny_Assign_Name (he _ fun a h1 tk o F1 N1 o1 hP => ?_) (hsw _ _ _)
    refine store_m F1 N1 hloc fun h2 F2 N2 => ?_
    have hx : Heap.ExtBut mainGlobals s.heap h2 := back_ext F2 N2 fun p hp => List.mem_cons_of_mem _ hp
    obtain ⟨y, oy, hx1, e1, h3⟩ := size_of_def X hne
    have hlt : y < a := o1 (y, oy) (olds_mem.mpr ⟨e1, h3⟩)
    have Y := mod_jump X hx (Nat.le_of_lt (Nat.lt_of_le_of_lt hx1 (Heap.lt_size (hx y oy (Nat.ne_of_gt h3) e1)))) F2.ns [x] (fun y hy => if_neg (fun q => hy (by rw [q]; exact List.mem_cons_self ..))) hd hc ho (fun q => hnb (List.mem_singleton.mp q).symm)
    exact ⟨rfl, h2, _, _, rfl, mod_obj Y (List.mem_cons_self ..) (Nat.le_trans hx1 (Nat.le_of_lt hlt)) (if_pos rfl) (N2 (a, o) (List.mem_cons_self ..)).1 hP⟩
  case second =>
    rintro _ _ ⟨h1, rfl, h', mg', tk, rfl, Y⟩
    exact k h' mg' tk h1 Y
end
theorem hex0 : PlainDefTree (fname 0) (fargs 0) (fbody 0) (fscope 0) (fpos 0) := fun _ => rfl
theorem hex5 : PlainDefTree (fname 5) (fargs 5) (fbody 5) (fscope 5) (fpos 5) := fun _ => rfl
theorem objs_ok {objs : List (Str × (Obj → Prop))} {xs : List Str} (h : ((objs.map (·.1)).all fun x => !xs.contains x) = true) : ∀ p ∈ objs, p.1 ∉ xs := fun p hp q => by
  have h1 := List.all_eq_true.mp h p.1 (List.mem_map_of_mem hp)
  have h2 : xs.contains p.1 = true := List.contains_iff_mem.mpr q
  rw [h2] at h1
  cases h1
noncomputable def topNames : List Str := (((List.range 36).filterMap fun i => if isDef i || i == 0 || i == 4 then some (fname i) else none) ++ (["__name__", "locale_encoding_alias", "k", "v", "b1_set", "b3_exceptions", "c6_set", "c7_set", "c8_set", "c9_set"] : List Str))
section
variable {w : World} {s : Shared} {c F0 Pl : Addr} {hs : Heap} {mg₀ mg mb : Str → Option Value} {ps : Array Value} {defs : List DefItem} {consts : List (Str × PyData)} {objs : List (Str × (Obj → Prop))} {names : List Str} {Q : Flow → Shared → Prop} {rest : List Stmt}
theorem b3_step {st : Stmt} {KS : List (Option PySem.Expr)} {VS : List PySem.Expr} {px dp pos : Pos} (hst : st = .Assign [.Name "b3_exceptions" px] (.Dict KS VS dp) pos) (b1 : litPairs KS VS = some bD0) (b2 : KS.all (·.isSome) = true) (b3 : KS.length = VS.length)
    (X : Mod hs mg₀ c Pl s.heap mg ps defs consts objs names) (htk : 1 ≤ s.toks) (hne : defs ≠ []) (hd : ∀ d ∈ defs, d.name ∉ (["b3_exceptions"] : List Str)) (hc : ∀ p ∈ consts, p.1 ∉ (["b3_exceptions"] : List Str)) (ho : ∀ p ∈ objs, p.1 ∉ (["b3_exceptions"] : List Str))
    (k : ∀ h' mg' tk, 1 ≤ tk → Mod hs mg₀ c Pl h' mg' ps defs consts (("b3_exceptions", b3P w) :: objs) ("b3_exceptions" :: names) → wpAny (model prog w) (tA c F0) (execs rest (mainEnv prog c F0)) Q (fun _ _ => False) { s with heap := h', toks := tk }) :
    wpAny (model prog w) (tA c F0) (execs (st :: rest) (mainEnv prog c F0)) Q (fun _ _ => False) s := by
  refine obj_step "b3_exceptions" (P := b3P w) hst (fun t l env => swaps_dict _ _ _ _ _ _) (by kernel_rfl) (by decide) X htk hne hd hc ho (fun Q' hq => ?_) k
  have hbig : sysModules < s.heap.objs.size := Nat.lt_trans (by decide) X.main.g.lt
  obtain ⟨F, N⟩ := fr_start X.main.g
  refine Dict_int hbig b1 bD_eq bD_nodup b2 b3 bD_ne (by rw [bD_len]; decide) fun a h' kvs tk hf hd hge keep => ?_
  obtain ⟨o, ho', hi⟩ := Heap.dictOf_iff.mp hd
  refine hq a h' tk o (F.keeps keep) (fun p hp => ?_) (fun p hp => Nat.lt_of_lt_of_le (Heap.lt_size (N p hp).1) hge) ⟨kvs, hi, hf⟩
  rcases List.mem_cons.mp hp with rfl | hp
  · exact ⟨ho', Nat.ne_of_gt (Nat.lt_of_lt_of_le X.main.g.lt hge), Heap.get?_none_of_le (Nat.le_trans (base3_le _) hge)⟩
  · exact N.grown keep p hp
end
theorem names_off {xs : List Str} (h : (biNames.all fun x => !xs.contains x) = true) : ∀ x, biNames.contains x = true → x ∉ xs := fun x hx q => by
  have h1 := List.all_eq_true.mp h x (List.contains_iff_mem.mp hx)
  rw [List.contains_iff_mem.mpr q] at h1
  cases h1
theorem bname_ok : ∀ x, biNames.contains x = true → x ∉ bootMainNames := names_off (by decide +kernel)
/-- the places of the defs so far -/
inductive Trip (q : Pos) : List Value → Prop
  | nil : Trip q []
  | cons {a b : Int} {t u : Tok} {c : Value} {r : List Value} (h : (a == (q.line : Int) && b == (q.col : Int)) = false) : Trip q r → Trip q (.int a t :: .int b u :: c :: r)
theorem Trip.none {q : Pos} {l : List Value} (h : Trip q l) : codeAmong q l = none := by
  induction h with
  | nil => rfl
  | cons h _ ih => unfold codeAmong; rw [h]; exact ih
theorem Trip.app {q : Pos} {l r : List Value} (h : Trip q l) (k : Trip q r) : Trip q (l ++ r) := by
  induction h with
  | nil => exact k
  | cons h _ ih => exact .cons h ih
noncomputable def posIn (q : Pos) (L : List Pos) : Bool := L.any fun p => (p.line : Int) == (q.line : Int) && (p.col : Int) == (q.col : Int)
structure Ps (ps : Array Value) (L : List Pos) : Prop where
  free : ∀ q, posIn q L = false → Trip q ps.toList
theorem Ps.snoc {ps : Array Value} {L : List Pos} (h : Ps ps L) (p : Pos) (v : Value) : Ps (ps ++ #[rawInt p.line, rawInt p.col, v]) (p :: L) := ⟨fun q e => by
  have e1 : ((p.line : Int) == (q.line : Int) && (p.col : Int) == (q.col : Int)) = false ∧ posIn q L = false := Bool.or_eq_false_iff.mp e
  rw [Array.toList_append]
  exact (h.free q e1.2).app (.cons e1.1 .nil)⟩
/-- what is left to walk from a place of the top, whatever heap stands there -/
structure Tp (w : World) (c F0 Pl : Addr) (s0 : Shared) (mg₀ mb : Str → Option Value) (Q : Flow → Shared → Prop) (rest : List Stmt) (defs : List DefItem) (objs : List (Str × (Obj → Prop))) (names : List Str) (L : List Pos) : Prop where
  run : ∀ h mg ps tk, 1 ≤ tk → Mod s0.heap mg₀ c Pl h mg ps defs [] objs names → Ps ps L → wpAny (model prog w) (tA c F0) (execs rest (mainEnv prog c F0)) Q (fun _ _ => False) { s0 with heap := h, toks := tk }
noncomputable def offAll (x : List Str) (defs : List DefItem) (objs : List (Str × (Obj → Prop))) : Bool := !defs.isEmpty && (defs.all fun d => !x.contains d.name) && ((objs.map (·.1)).all fun y => !x.contains y)
theorem off_out {x : List Str} {defs : List DefItem} {objs : List (Str × (Obj → Prop))} (h : offAll x defs objs = true) : defs ≠ [] ∧ (∀ d ∈ defs, d.name ∉ x) ∧ ∀ p ∈ objs, p.1 ∉ x := by
  unfold offAll at h
  rw [Bool.and_eq_true, Bool.and_eq_true] at h
  obtain ⟨⟨a, b⟩, d⟩ := h
  refine ⟨fun q => ?_, fun y hy q => ?_, objs_ok d⟩
  · rw [q] at a; cases a
  · have h1 := List.all_eq_true.mp b y hy
    rw [List.contains_iff_mem.mpr q] at h1
    cases h1
section
variable {c F0 Pl : Addr} {s0 : Shared} {mg₀ mb : Str → Option Value} {defs : List DefItem} {objs : List (Str × (Obj → Prop))} {names : List Str} {L : List Pos} {Q : Flow → Shared → Prop} {rest : List Stmt}
theorem Tp.def {w : World} (i : Nat) (hp : DefAt i) (hex : PlainDefTree (fname i) (fargs i) (fbody i) (fscope i) (fpos i))
    (hfree : ((fscope i).names.all fun x => decide (x.2 ≠ .free)) = true) (hdoc : docOf (fbody i) = none) (hloc : prog.main.scope.names.lookup (fname i) = some .local)
    (hq : qualnameIn { scope := prog.main.scope, locals := mainGlobals, globals := mainGlobals, cells := [] } (fname i) (fname i) = fname i) (hnew : names.contains (fname i) = false) (hnb : (fname i == "__builtins__") = false) (hnf : posIn (fpos i) L = false)
    (k : Tp w c F0 Pl s0 mg₀ mb Q rest (dItem i :: defs) ((fname i, fnP i) :: objs) (fname i :: names) (fpos i :: L)) : Tp w c F0 Pl s0 mg₀ mb Q (stm i :: rest) defs objs names L :=
  ⟨fun h mg ps tk htk X P => def_step i rfl hp hex X htk (fun x hx => of_decide_eq_true (List.all_eq_true.mp hfree x hx)) hdoc hloc hq (fun q => by rw [List.contains_iff_mem.mpr q] at hnew; cases hnew) (fun q => by rw [q] at hnb; cases hnb) (P.free _ hnf).none
    fun h' mg' c' tk' htk' X' => k.run h' mg' _ tk' htk' X' (P.snoc _ _)⟩
theorem Tp.name {w : World} (i : Nat) (hp : NmAt (stm i)) (ho : offAll ["__name__"] defs objs = true) (k : Tp w c F0 Pl s0 mg₀ mb Q rest defs objs ("__name__" :: names) L) : Tp w c F0 Pl s0 mg₀ mb Q (stm i :: rest) defs objs names L :=
  ⟨fun h mg ps tk htk X P => name_step hp X htk (off_out ho).1 (off_out ho).2.1 (fun _ q => nomatch q) (off_out ho).2.2 fun h' mg' tk' htk' X' => k.run h' mg' _ tk' htk' X' P⟩
/-- what the top stands on -/
structure TT0 (s0 : Shared) (Pl : Addr) (mg₀ mb : Str → Option Value) : Prop where
  hmb : s0.heap.Ns builtinsNs mb
  hB : ∀ x : Str, x ≠ "__name__" → mb x = bootBuiltins x
  hfr : ∀ x, x ∉ bootMainNames → mg₀ x = none
  hPl : @LT.lt Nat _ 3 Pl
theorem TT0.keep (T : TT0 s0 Pl mg₀ mb) {h : Heap} {mg : Str → Option Value} {ps : Array Value} {consts : List (Str × PyData)} (Y : Mod s0.heap mg₀ c Pl h mg ps defs consts objs names) : h.Ns builtinsNs mb :=
  let ⟨o, es, ep, e, r⟩ := T.hmb; ⟨o, es, ep, Y.keep _ _ (Nat.ne_of_lt (Nat.lt_trans (by decide) T.hPl)) (by decide) e, r⟩
theorem TT0.off (T : TT0 s0 Pl mg₀ mb) {h : Heap} {mg : Str → Option Value} {ps : Array Value} {consts : List (Str × PyData)} (Y : Mod s0.heap mg₀ c Pl h mg ps defs consts objs names) (hn : (biNames.all fun x => !names.contains x) = true) : ∀ x, biNames.contains x = true → mg x = none := fun x hx =>
  (Y.others x (names_off hn x hx)).trans (T.hfr x (bname_ok x hx))
/-- the value of a set's statement -/
structure SetVal (w : World) (c F0 : Addr) (i : Nat) (l : List Int) : Prop where
  run : ∀ {s : Shared} {mg mb : Str → Option Value} {h₀ : Heap} {news : Led} {Q : Value → Shared → Prop}, Fr h₀ mainGlobals s.heap mg → News h₀ mainGlobals s.heap news → TG h₀ mb mg →
    (∀ a h' tk o, Fr h₀ mainGlobals h' mg → News h₀ mainGlobals h' ((a, o) :: news) → (∀ p ∈ news, p.1 < a) → o.SetObjOf (intKind prog w) (fun k => l.contains k) l.length → Q (.ref a) { s with heap := h', toks := tk }) →
    wpAny (model prog w) (tA c F0) (eval (valOf i) (mEnv c F0)) Q (fun _ _ => False) s
theorem Tp.set {w : World} (T : TT0 s0 Pl mg₀ mb) (i : Nat) (x : Str) {l : List Int} (hi : SetAt x i) (hv : SetVal w c F0 i l) (hloc : prog.main.scope.names.lookup x = some .local) (hnb : x ≠ "__builtins__") (ho : offAll [x] defs objs = true) (hn : (biNames.all fun x => !names.contains x) = true)
    (k : Tp w c F0 Pl s0 mg₀ mb Q rest defs ((x, setP w l) :: objs) (x :: names) L) : Tp w c F0 Pl s0 mg₀ mb Q (stm i :: rest) defs objs names L := by
  exact ⟨fun h mg ps tk htk X P => obj_step x (P := setP w l) hi.eq hi.swaps hloc hnb X htk (off_out ho).1 (off_out ho).2.1 (fun _ q => nomatch q) (off_out ho).2.2 (fun Q' hq => hv.run (fr_start X.main.g).1 (fr_start X.main.g).2 ⟨base3_ns (T.keep X), T.hB, T.off X hn⟩ fun a h' tk o F' N' l1 hS => hq a h' tk o F' N' l1 hS)
    fun h' mg' tk' htk' X' => k.run h' mg' _ tk' htk' X' P⟩
theorem Tp.b3 {w : World} (ho : offAll ["b3_exceptions"] defs objs = true) (k : Tp w c F0 Pl s0 mg₀ mb Q rest defs (("b3_exceptions", b3P w) :: objs) ("b3_exceptions" :: names) L) : Tp w c F0 Pl s0 mg₀ mb Q (stm 13 :: rest) defs objs names L := by
  have e : stm 13 = .Assign [.Name "b3_exceptions" (tpos 13)] (.Dict (dKeys (stm 13)) (dVals (stm 13)) (valOf 13).pos) (stm 13).pos := by kernel_rfl
  generalize tpos 13 = px, (valOf 13).pos = dp, (stm 13).pos = pos at e
  have b1 := bD0_eq
  have b2 := bD_all
  have b3 := bD_lens
  generalize dKeys (stm 13) = KS at *
  generalize dVals (stm 13) = VS at *
  generalize stm 13 = st at *
  obtain ⟨o1, o2, o3⟩ := off_out ho
  refine ⟨fun h mg ps tk htk X P => ?_⟩
  refine b3_step e b1 b2 b3 X htk o1 o2 (fun _ q => nomatch q) o3 fun h' mg' tk' htk' X' => ?_
  exact k.run h' mg' _ tk' htk' X' P
theorem Tp.seven {w : World} {s7 s8 s9 : Stmt} (T : TT0 s0 Pl mg₀ mb) (h7 : stm 7 = s7) (h8 : stm 8 = s8) (h9 : stm 9 = s9) (ho : offAll ["locale_encoding_alias", "k", "v"] defs objs = true) (hn : (biNames.all fun x => !names.contains x) = true) (k : Tp w c F0 Pl s0 mg₀ mb Q rest defs objs ((["locale_encoding_alias", "k", "v"] : List Str) ++ names) L) : Tp w c F0 Pl s0 mg₀ mb Q (s7 :: s8 :: s9 :: rest) defs objs names L := by
  obtain ⟨o1, o2, o3⟩ := off_out ho
  refine ⟨fun h mg ps tk htk X P => ?_⟩
  refine alias_stmts h7 h8 h9 X o1 (T.keep X) T.hB (T.off X hn) htk o2 (fun _ q => nomatch q) o3 fun h' mg' tk' htk' X' _ _ => ?_
  exact k.run h' mg' _ tk' htk' X' P
end
section
variable {w : World}
noncomputable def allD : List DefItem := [35, 34, 33, 32, 31, 30, 29, 28, 27, 26, 25, 23, 21, 19, 17, 15, 14, 12, 6, 5, 4, 3, 2, 0].map dItem
noncomputable def allO (w : World) : List (Str × (Obj → Prop)) := [(fname 35, fnP 35), (fname 34, fnP 34), (fname 33, fnP 33), (fname 32, fnP 32), (fname 31, fnP 31), (fname 30, fnP 30), (fname 29, fnP 29), (fname 28, fnP 28), (fname 27, fnP 27), (fname 26, fnP 26), (fname 25, fnP 25),
  (fname 23, fnP 23), ("c9_set", setP w c9L), (fname 21, fnP 21), ("c8_set", setP w c8L), (fname 19, fnP 19), ("c7_set", setP w c7L), (fname 17, fnP 17), ("c6_set", setP w c6L), (fname 15, fnP 15), (fname 14, fnP 14), ("b3_exceptions", b3P w), (fname 12, fnP 12), ("b1_set", setP w b1L), (fname 6, fnP 6), (fname 5, fnP 5), (fname 4, fnP 4), (fname 3, fnP 3), (fname 2, fnP 2), (fname 0, fnP 0)]
theorem mem_ok {a b : List Str} (h : (a.all fun x => b.contains x) = true) : ∀ x ∈ a, x ∈ b := fun x hx => List.contains_iff_mem.mp (List.all_eq_true.mp h x hx)
theorem top_walk {s : Shared} {c F0 Pl : Addr} {mg mb : Str → Option Value} {Q : Flow → Shared → Prop} (X : Mod s.heap mg c Pl s.heap mg #[] [] [] [] []) (htk : 1 ≤ s.toks)
    (hmb : s.heap.Ns builtinsNs mb) (hB : ∀ x : Str, x ≠ "__name__" → mb x = bootBuiltins x) (hfr : ∀ x, x ∉ bootMainNames → mg x = none) (hPl : @LT.lt Nat _ 3 Pl)
    (k : ∀ h' mg' ps' tk names, Mod s.heap mg c Pl h' mg' ps' allD [] (allO w) names → (∀ x, biNames.contains x = true → mg' x = none) → (∀ x ∈ names, x ∈ topNames) → Q .next { s with heap := h', toks := tk }) :
    wpAny (model prog w) (tA c F0) (execs prog.main.body (mainEnv prog c F0)) Q (fun _ _ => False) s := by
  have T : TT0 s Pl mg mb := ⟨hmb, hB, hfr, hPl⟩
  suffices H : Tp w c F0 Pl s mg mb Q prog.main.body [] [] [] [] from H.run _ _ _ _ htk X ⟨fun _ _ => .nil⟩
  rw [body_eq]
  refine Tp.def 0 ⟨by kernel_rfl, by kernel_rfl⟩ (fun _ => rfl) (by kernel_rfl) (by kernel_rfl) (by kernel_rfl) (by kernel_rfl) (by kernel_rfl) (by kernel_rfl) (by kernel_rfl) ?_
  refine Tp.name 1 ⟨_, _, _, _, _, by with_unfolding_all rfl⟩ (by kernel_rfl) ?_
  refine Tp.def 2 ⟨by kernel_rfl, by kernel_rfl⟩ (fun _ => rfl) (by kernel_rfl) (by kernel_rfl) (by kernel_rfl) (by kernel_rfl) (by kernel_rfl) (by kernel_rfl) (by kernel_rfl) ?_
  refine Tp.def 3 ⟨by kernel_rfl, by kernel_rfl⟩ (fun _ => rfl) (by kernel_rfl) (by kernel_rfl) (by kernel_rfl) (by kernel_rfl) (by kernel_rfl) (by kernel_rfl) (by kernel_rfl) ?_
  refine Tp.def 4 ⟨by kernel_rfl, by kernel_rfl⟩ (fun _ => rfl) (by kernel_rfl) (by kernel_rfl) (by kernel_rfl) (by kernel_rfl) (by kernel_rfl) (by kernel_rfl) (by kernel_rfl) ?_
  refine Tp.def 5 ⟨by kernel_rfl, by kernel_rfl⟩ (fun _ => rfl) (by kernel_rfl) (by kernel_rfl) (by kernel_rfl) (by kernel_rfl) (by kernel_rfl) (by kernel_rfl) (by kernel_rfl) ?_
  refine Tp.def 6 ⟨by kernel_rfl, by kernel_rfl⟩ (fun _ => rfl) (by kernel_rfl) (by kernel_rfl) (by kernel_rfl) (by kernel_rfl) (by kernel_rfl) (by kernel_rfl) (by kernel_rfl) ?_
  refine Tp.seven T rfl rfl rfl (by kernel_rfl) (by kernel_rfl) ?_
  refine Tp.name 10 ⟨_, _, _, _, _, by with_unfolding_all rfl⟩ (by kernel_rfl) ?_
  refine Tp.set T 11 "b1_set" ⟨by kernel_rfl, fun _ _ _ => by kernel_rfl⟩ ⟨set_11⟩ (by kernel_rfl) (by decide) (by kernel_rfl) (by kernel_rfl) ?_
  refine Tp.def 12 ⟨by kernel_rfl, by kernel_rfl⟩ (fun _ => rfl) (by kernel_rfl) (by kernel_rfl) (by kernel_rfl) (by kernel_rfl) (by kernel_rfl) (by kernel_rfl) (by kernel_rfl) ?_
  refine Tp.b3 (by kernel_rfl) ?_
  refine Tp.def 14 ⟨by kernel_rfl, by kernel_rfl⟩ (fun _ => rfl) (by kernel_rfl) (by kernel_rfl) (by kernel_rfl) (by kernel_rfl) (by kernel_rfl) (by kernel_rfl) (by kernel_rfl) ?_
  refine Tp.def 15 ⟨by kernel_rfl, by kernel_rfl⟩ (fun _ => rfl) (by kernel_rfl) (by kernel_rfl) (by kernel_rfl) (by kernel_rfl) (by kernel_rfl) (by kernel_rfl) (by kernel_rfl) ?_
  refine Tp.set T 16 "c6_set" ⟨by kernel_rfl, fun _ _ _ => by kernel_rfl⟩ ⟨set_16⟩ (by kernel_rfl) (by decide) (by kernel_rfl) (by kernel_rfl) ?_
  refine Tp.def 17 ⟨by kernel_rfl, by kernel_rfl⟩ (fun _ => rfl) (by kernel_rfl) (by kernel_rfl) (by kernel_rfl) (by kernel_rfl) (by kernel_rfl) (by kernel_rfl) (by kernel_rfl) ?_
  refine Tp.set T 18 "c7_set" ⟨by kernel_rfl, fun _ _ _ => by kernel_rfl⟩ ⟨set_18⟩ (by kernel_rfl) (by decide) (by kernel_rfl) (by kernel_rfl) ?_
  refine Tp.def 19 ⟨by kernel_rfl, by kernel_rfl⟩ (fun _ => rfl) (by kernel_rfl) (by kernel_rfl) (by kernel_rfl) (by kernel_rfl) (by kernel_rfl) (by kernel_rfl) (by kernel_rfl) ?_
  refine Tp.set T 20 "c8_set" ⟨by kernel_rfl, fun _ _ _ => by kernel_rfl⟩ ⟨set_20⟩ (by kernel_rfl) (by decide) (by kernel_rfl) (by kernel_rfl) ?_
  refine Tp.def 21 ⟨by kernel_rfl, by kernel_rfl⟩ (fun _ => rfl) (by kernel_rfl) (by kernel_rfl) (by kernel_rfl) (by kernel_rfl) (by kernel_rfl) (by kernel_rfl) (by kernel_rfl) ?_
  refine Tp.set T 22 "c9_set" ⟨by kernel_rfl, fun _ _ _ => by kernel_rfl⟩ ⟨set_22⟩ (by kernel_rfl) (by decide) (by kernel_rfl) (by kernel_rfl) ?_
  refine Tp.def 23 ⟨by kernel_rfl, by kernel_rfl⟩ (fun _ => rfl) (by kernel_rfl) (by kernel_rfl) (by kernel_rfl) (by kernel_rfl) (by kernel_rfl) (by kernel_rfl) (by kernel_rfl) ?_
  refine Tp.name 24 ⟨_, _, _, _, _, by with_unfolding_all rfl⟩ (by kernel_rfl) ?_
  refine Tp.def 25 ⟨by kernel_rfl, by kernel_rfl⟩ (fun _ => rfl) (by kernel_rfl) (by kernel_rfl) (by kernel_rfl) (by kernel_rfl) (by kernel_rfl) (by kernel_rfl) (by kernel_rfl) ?_
  refine Tp.def 26 ⟨by kernel_rfl, by kernel_rfl⟩ (fun _ => rfl) (by kernel_rfl) (by kernel_rfl) (by kernel_rfl) (by kernel_rfl) (by kernel_rfl) (by kernel_rfl) (by kernel_rfl) ?_
  refine Tp.def 27 ⟨by kernel_rfl, by kernel_rfl⟩ (fun _ => rfl) (by kernel_rfl) (by kernel_rfl) (by kernel_rfl) (by kernel_rfl) (by kernel_rfl) (by kernel_rfl) (by kernel_rfl) ?_
  refine Tp.def 28 ⟨by kernel_rfl, by kernel_rfl⟩ (fun _ => rfl) (by kernel_rfl) (by kernel_rfl) (by kernel_rfl) (by kernel_rfl) (by kernel_rfl) (by kernel_rfl) (by kernel_rfl) ?_
  refine Tp.def 29 ⟨by kernel_rfl, by kernel_rfl⟩ (fun _ => rfl) (by kernel_rfl) (by kernel_rfl) (by kernel_rfl) (by kernel_rfl) (by kernel_rfl) (by kernel_rfl) (by kernel_rfl) ?_
  refine Tp.def 30 ⟨by kernel_rfl, by kernel_rfl⟩ (fun _ => rfl) (by kernel_rfl) (by kernel_rfl) (by kernel_rfl) (by kernel_rfl) (by kernel_rfl) (by kernel_rfl) (by kernel_rfl) ?_
  refine Tp.def 31 ⟨by kernel_rfl, by kernel_rfl⟩ (fun _ => rfl) (by kernel_rfl) (by kernel_rfl) (by kernel_rfl) (by kernel_rfl) (by kernel_rfl) (by kernel_rfl) (by kernel_rfl) ?_
  refine Tp.def 32 ⟨by kernel_rfl, by kernel_rfl⟩ (fun _ => rfl) (by kernel_rfl) (by kernel_rfl) (by kernel_rfl) (by kernel_rfl) (by kernel_rfl) (by kernel_rfl) (by kernel_rfl) ?_
  refine Tp.def 33 ⟨by kernel_rfl, by kernel_rfl⟩ (fun _ => rfl) (by kernel_rfl) (by kernel_rfl) (by kernel_rfl) (by kernel_rfl) (by kernel_rfl) (by kernel_rfl) (by kernel_rfl) ?_
  refine Tp.def 34 ⟨by kernel_rfl, by kernel_rfl⟩ (fun _ => rfl) (by kernel_rfl) (by kernel_rfl) (by kernel_rfl) (by kernel_rfl) (by kernel_rfl) (by kernel_rfl) (by kernel_rfl) ?_
  refine Tp.def 35 ⟨by kernel_rfl, by kernel_rfl⟩ (fun _ => rfl) (by kernel_rfl) (by kernel_rfl) (by kernel_rfl) (by kernel_rfl) (by kernel_rfl) (by kernel_rfl) (by kernel_rfl) ?_
  exact ⟨fun h' mg' ps' tk' _ X' _ => wpAny_execs_nil (k _ _ _ _ _ X' (T.off X' (by kernel_rfl)) (mem_ok (by kernel_rfl)))⟩
end
structure BF (h : Heap) (mb mg : Str → Option Value) : Prop where
  b : h.Ns builtinsNs mb
  builtins : ∀ x : Str, x ≠ "__name__" → mb x = bootBuiltins x
  statics : h.Ns cStatics (fun _ => none)
  others : ∀ x, x ∉ bootMainNames → mg x = none
  noPylong : ∃ mm, h.Ns sysModules mm ∧ mm "_pylong" = none
noncomputable def adOf (mg : Str → Option Value) (x : Str) : Addr := match mg x with | some (.ref a) => a | _ => 0
theorem adOf_eq {mg : Str → Option Value} {x : Str} {a : Addr} (h : mg x = some (.ref a)) : adOf mg x = a := by unfold adOf; rw [h]
theorem boundAll (w : World) : ((defNames ++ objNames).all fun x => ((allO w).map (·.1)).contains x) = true := by rfl
theorem bD_b3 : bD = b3L.map fun p => (p.1, PyData.str p.2) := by kernel_rfl
theorem fv_find : ∀ {l : List (Int × Str)} {kvs : List (Int × Value)}, FV kvs (l.map fun p => (p.1, PyData.str p.2)) → ∀ c : Int, match (l.find? fun p => p.1 = c).map (·.2) with | some s => ∃ t, valueAt kvs c = some (.str s t) | none => valueAt kvs c = none
  | [], _, h, c => by cases h; rfl
  | (k, x) :: l, _, h, c => by
    cases h with
    | @cons _ v _ kvs _ hv hr =>
      have ih := fv_find hr c
      unfold valueAt at ih ⊢
      by_cases e : k = c
      · subst e
        simp only [List.find?_cons, decide_true, Option.map_some]
        obtain ⟨t, rfl⟩ := PyProof.V.Flat.str_inv hv
        exact ⟨t, rfl⟩
      · simp only [List.find?_cons, decide_eq_false e]
        exact ih
noncomputable def defIdx : List Nat := [35, 34, 33, 32, 31, 30, 29, 28, 27, 26, 25, 23, 21, 19, 17, 15, 14, 12, 6, 5, 4, 3, 2, 0]
theorem def_idx : ∀ i, isDef i = true → i ∈ defIdx := fun i hi => (by decide : ∀ i ∈ ([2, 3, 5, 6, 12, 14, 15, 17, 19, 21, 23, 25, 26, 27, 28, 29, 30, 31, 32, 33, 34, 35] : List Nat), i ∈ defIdx) i (List.contains_iff_mem.mp hi)
theorem fn_sub (w : World) : (defIdx.map fun i => (fname i, fnP i)).Sublist (allO w) := by
  unfold allO defIdx
  simp only [List.map_cons, List.map_nil]
  repeat (first | exact .slnil | (with_reducible refine .cons_cons _ ?_) | refine .cons _ ?_)
theorem fn_mem (w : World) : ∀ i, isDef i = true → (fname i, fnP i) ∈ allO w := fun i hi => (fn_sub w).subset (List.mem_map_of_mem (f := fun i => (fname i, fnP i)) (def_idx i hi))
theorem dItem_mem : ∀ i, isDef i = true → dItem i ∈ allD := fun i hi => List.mem_map_of_mem (def_idx i hi)
section
variable {w : World} {hs h : Heap} {mg₀ mg mb : Str → Option Value} {c Pl : Addr} {ps : Array Value} {names : List Str}
theorem top_of_mod (BT : BF hs mb mg₀) (X : Mod hs mg₀ c Pl h mg ps allD [] (allO w) names) (hPl : @LT.lt Nat _ 3 Pl) (hn : ∀ x ∈ names, x ∈ topNames) : Top noProg topNames noMean mg mb h := by
  have k0 : ∀ b o, @LT.lt Nat _ b 3 → hs.get? b = some o → h.get? b = some o := fun b o hb e => X.keep b o (Nat.ne_of_lt (Nat.lt_trans hb hPl)) (Nat.ne_of_lt hb) e
  have hb : h.Ns builtinsNs mb := let ⟨o, es, ep, e, r⟩ := BT.b; ⟨o, es, ep, k0 _ _ (by decide) e, r⟩
  have hst : h.Ns cStatics (fun _ => none) := let ⟨o, es, ep, e, r⟩ := BT.statics; ⟨o, es, ep, k0 _ _ (by decide) e, r⟩
  obtain ⟨mm, hm, hp⟩ := BT.noPylong
  have hmm : h.Ns sysModules mm := let ⟨o, es, ep, e, r⟩ := hm; ⟨o, es, ep, k0 _ _ (by decide) e, r⟩
  obtain ⟨bm, o, hbm, hne0, _, _, hbo, hc, hd, hda⟩ := X.main.bmod
  exact ⟨X.main.g, hb, ⟨_, hst, rfl⟩, ⟨_, hst, rfl⟩, (fun _ hd => nomatch hd), (fun _ ho => nomatch ho), (fun _ _ hv => nomatch hv),
    fun x h1 h2 _ _ _ => (X.others x fun q => h2 (hn x q)).trans (BT.others x h1), BT.builtins, (fun _ hd => nomatch hd), ⟨bm, o, hbm, hne0, hbo, hc, hd, hda⟩,
    fun _ => ⟨⟨_, hst, rfl, rfl⟩, ⟨mm, hmm, hp⟩, ⟨mb, hb, BT.builtins⟩, ⟨mg, bm, o, X.main.g, hbm, hbo, hc, hd⟩⟩⟩
theorem held_in (X : Mod hs mg₀ c Pl h mg ps allD [] (allO w) names) {x : Str} {P : Obj → Prop} (hm : (x, P) ∈ allO w) : ∃ a o, hs.objs.size ≤ a ∧ mg x = some (.ref a) ∧ h.get? a = some o ∧ P o := X.held _ hm
theorem set_of {x : Str} {l : List Int} (X : Mod hs mg₀ c Pl h mg ps allD [] (allO w) names) (hm : (x, setP w l) ∈ allO w) (hl : l.length < scanBound) : h.SetOf (intKind prog w) (adOf mg x) (fun k => l.contains k) l.length := by
  obtain ⟨a, o, _, hb, ho, hP⟩ := held_in X hm
  rw [adOf_eq hb]
  exact Obj.SetObjOf.setOf hP ho hl
theorem G_of_mod (BT : BF hs mb mg₀) (X : Mod hs mg₀ c Pl h mg ps allD [] (allO w) names) (hPl : @LT.lt Nat _ 3 Pl) (hn : ∀ x ∈ names, x ∈ topNames) (hfree : ∀ x, biNames.contains x = true → mg x = none) : G w mg mb topNames (adOf mg) h := by
  refine ⟨top_of_mod BT X hPl hn, fun x hx => ?_, hfree, fun i hi => ⟨?_⟩, fun x hx => ?_, ?_, ?_⟩
  · have h1 := List.all_eq_true.mp (boundAll w) x (List.contains_iff_mem.mp hx)
    obtain ⟨p, hp, rfl⟩ := List.mem_map.mp (List.contains_iff_mem.mp h1)
    obtain ⟨a, o, _, hb, _⟩ := X.held p hp
    rw [adOf_eq hb]; exact hb
  · obtain ⟨a, o, _, hb, ho, pm, c', rfl⟩ := held_in X (fn_mem w i hi)
    obtain ⟨a', c2, o', pm', doc, dV, _, _, hb', ho', hd', hcr, _⟩ := X.made _ (dItem_mem i hi)
    have hb2 : mg (fname i) = some (.ref a') := hb'
    rw [hb] at hb2
    cases hb2
    rw [ho] at ho'
    cases ho'
    have hc : Value.ref c' = Value.ref c2 := by
      have := Data.func.inj hd'
      exact congrArg FuncData.code this
    rw [adOf_eq hb]
    refine ⟨pm, .ref c', ho, ?_⟩
    rw [hc]; exact hcr
  · have hx' : x ∈ setNames := List.contains_iff_mem.mp hx
    unfold setNames at hx'
    simp only [List.mem_cons, List.not_mem_nil, or_false] at hx'
    rcases hx' with rfl | rfl | rfl | rfl | rfl
    · rw [show setData "b1_set" = b1L from rfl]; exact set_of X (by unfold allO; repeat (first | (with_reducible exact List.mem_cons_self) | refine List.mem_cons_of_mem _ ?_)) (by decide)
    · rw [show setData "c6_set" = c6L from rfl]; exact set_of X (by unfold allO; repeat (first | (with_reducible exact List.mem_cons_self) | refine List.mem_cons_of_mem _ ?_)) (by decide)
    · rw [show setData "c7_set" = c7L from rfl]; exact set_of X (by unfold allO; repeat (first | (with_reducible exact List.mem_cons_self) | refine List.mem_cons_of_mem _ ?_)) (by decide)
    · rw [show setData "c8_set" = c8L from rfl]; exact set_of X (by unfold allO; repeat (first | (with_reducible exact List.mem_cons_self) | refine List.mem_cons_of_mem _ ?_)) (by decide)
    · rw [show setData "c9_set" = c9L from rfl]; exact set_of X (by unfold allO; repeat (first | (with_reducible exact List.mem_cons_self) | refine List.mem_cons_of_mem _ ?_)) (by decide)
  · obtain ⟨a, o, _, hb, ho, kvs, hk, hf⟩ := held_in X (x := "b3_exceptions") (P := b3P w) (by unfold allO; repeat (first | (with_reducible exact List.mem_cons_self) | refine List.mem_cons_of_mem _ ?_))
    rw [adOf_eq hb]
    refine ⟨valueAt kvs, (Heap.dictOf_iff.mpr ⟨o, ho, hk⟩).mapOf, fun c => ?_⟩
    rw [bD_b3] at hf
    exact fv_find hf c
  · obtain ⟨a, o, ha, hb, _⟩ := held_in X (x := "b3_exceptions") (P := b3P w) (by unfold allO; repeat (first | (with_reducible exact List.mem_cons_self) | refine List.mem_cons_of_mem _ ?_))
    rw [adOf_eq hb]
    exact beq_eq_false_iff_ne.mpr (Nat.ne_of_gt (Nat.lt_of_lt_of_le (Nat.lt_trans (by decide) X.lowG) ha))
theorem tab_of_mod (X : Mod hs mg₀ c Pl h mg ps allD [] (allO w) names) (i : Nat) (hi : isDef i = true) : ∃ o fd c' P', h.get? (adOf mg (fname i)) = some o ∧ o.data = .func fd ∧ fd.code = .ref c' ∧ hs.objs.size ≤ P' ∧ h.IsCode c' P' #[] ∧ h.TableAt c' P' #[] := by
  obtain ⟨a, o, fd, c', P', h1, h2, h3, h4, _, _, h7, h8, h9⟩ := X.tabs _ (dItem_mem i hi)
  have h1' : mg (fname i) = some (.ref a) := h1
  exact ⟨o, fd, c', P', by rw [adOf_eq h1']; exact h2, h3, h4, h7, h8, h9⟩
end
noncomputable def TopPost (w : World) (s₀ s₁ : Shared) : Prop := ∃ hs mg₀ mb c Pl mg ps names, BF hs mb mg₀ ∧ Mod hs mg₀ c Pl s₁.heap mg ps allD [] (allO w) names ∧ @LT.lt Nat _ 3 Pl ∧ (∀ x ∈ names, x ∈ topNames) ∧ (∀ x, biNames.contains x = true → mg x = none) ∧
  (∀ b o, s₀.heap.get? b = some o → hs.get? b = some o) ∧ s₀.heap.objs.size ≤ Pl ∧ s₁.os = s₀.os ∧ s₀.heap.Ns mainGlobals mg₀
theorem behind_eq : behindTheImports prog = prog.main.body := by kernel_rfl
theorem open_eq : (opening prog).main.body = [] := by kernel_rfl
theorem ann_eq : hasAnns prog.main.body = false := by kernel_rfl
theorem doc_eq : docOf prog.main.body = none := by kernel_rfl
theorem mods_eq : importedModules prog.main.body = [] := by kernel_rfl
theorem fence_eq (s : Shared) : fenceModules? prog s = some s := by
  unfold fenceModules?
  rw [mods_eq, show prog.main.body.any namesNumpy = false by kernel_rfl]
  rfl
theorem mod_start {h : Heap} {mg : Str → Option Value} {c Pl : Addr} (m : h.Main mg c Pl #[]) : Mod h mg c Pl h mg #[] [] [] [] [] :=
  ⟨m, fun _ _ _ _ e => e, (fun _ hd => nomatch hd), (fun _ hp => nomatch hp), fun _ _ => rfl, (fun _ hd => nomatch hd), (fun _ hp => nomatch hp), (fun _ hp => nomatch hp), (fun _ hp => nomatch hp), Nat.le_refl _, m.code.lt.2, m.g.lt, (fun _ hd => nomatch hd)⟩
theorem boot_body (w : World) : BodyOk (opening prog) w (fun s => (∃ mb mg c Pl, BootLeft s.heap mb mg c Pl) ∧ s.gens = #[]) := by
  intro hp tk mb mg c Pl F hB
  rw [open_eq]
  exact codeAny_body rfl rfl (wpAny_execs_nil ⟨⟨_, rfl⟩, .of hB (fun _ _ _ _ e => e) hB.g, ⟨⟨mb, mg, c, Pl, hB⟩, rfl⟩, rfl⟩)
theorem boot_facts (w : World) : (∃ s, AfterRun (opening prog) w s) ∧ ∀ s, AfterRun (opening prog) w s → (∃ mb mg c Pl, BootLeft s.heap mb mg c Pl) ∧ s.gens = #[] ∧ 1 ≤ s.toks := by
  have h := AfterImport.of_body (boot_body w) rfl
  exact ⟨h.1, fun s hs => ⟨(h.2 s hs).1, (h.2 s hs).2, AfterImport.toks_pos hs⟩⟩
theorem top_wp {w : World} {s₀ : Shared} {mb mg : Str → Option Value} {c₀ Pl₀ : Addr} (hB : BootLeft s₀.heap mb mg c₀ Pl₀) (hg : s₀.gens = #[]) (ht : 1 ≤ s₀.toks) :
    wpAny (model prog w) callerA (topStub prog).cur (fun fin s' => ∃ f, fin = .done f ∧ TopPost w s₀ s' ∧ s'.gens = #[]) (fun _ _ => False) s₀ := by
  unfold topStub
  dsimp only
  rw [behind_eq]
  refine wpAny_bind (wpAny_with_toks (n := 1) ht (wpAny_moduleCode fun c Pl h₁ tk₁ hk hc hPl hcode htk₁ => ?_))
  have hglt : @LT.lt Nat _ 3 s₀.heap.objs.size := hB.g.lt
  have g1 := hB.g.keeps hk
  unfold newBodyFrame
  refine wpAny_bind (wpAny_bind (wpAny_nsGet g1 (wpAny_alloc ?_)))
  generalize (⟨_, _, _, _⟩ : Obj) = fo
  dsimp only
  obtain ⟨bm, ob, hbm, hne0, hneG, _, hbo, hrest⟩ := hB.bmod
  have up : ∀ b o, s₀.heap.get? b = some o → (h₁.push fo).get? b = some o := fun b o e => Heap.get?_push_of_some _ (hk b o e)
  have hm : (h₁.push fo).Main mg c Pl #[] := ⟨g1.push _, hcode.push _, ⟨Nat.lt_of_lt_of_le hglt hc, Nat.lt_of_lt_of_le hglt hPl⟩, ⟨bm, ob, hbm, hne0, hneG, Nat.ne_of_lt (Nat.lt_of_lt_of_le (Heap.lt_size hbo) hPl), up _ _ hbo, hrest⟩⟩
  have bt : BF (h₁.push fo) mb mg := ⟨hB.b.keeps up, hB.builtins, hB.statics.keeps up, hB.others, let ⟨mm, a, b⟩ := hB.noPylong; ⟨mm, a.keeps up, b⟩⟩
  refine wpAny_bind (wpAny_run (codeAny_body ann_eq doc_eq ?_))
  refine wpAny_mono (E := fun _ _ => False) (top_walk (s := { s₀ with heap := h₁.push fo, toks := tk₁ }) (mb := mb) (mod_start hm) htk₁ bt.b hB.builtins hB.others (Nat.lt_of_lt_of_le hglt hPl)
    (Q := fun f s' => f = .next ∧ TopPost w s₀ s' ∧ s'.gens = #[]) fun h' mg' ps' tk names X hf hn => ⟨rfl, ⟨h₁.push fo, mg, mb, c, Pl, mg', ps', names, bt, X, Nat.lt_of_lt_of_le hglt hPl, hn, hf, up, hPl, rfl, hB.g⟩, hg⟩) (fun f s' hh => ?_) fun _ _ x => x.elim
  obtain ⟨rfl, hh⟩ := hh
  exact wpAny_pure ⟨_, rfl, hh⟩
abbrev theRow : OpenLaw := PySem.Challenge.rw_il0214_01
structure TabAtLaw (mg : Str → Option Value) (h : Heap) (c' P' : Addr) : Prop where
  fn : ∃ o fd, h.get? (adOf mg "law") = some o ∧ o.data = .func fd ∧ fd.code = .ref c'
  code : h.IsCode c' P' #[]
  tab : h.TableAt c' P' #[]
  high : @LT.lt Nat _ 3 P'
theorem TabAtLaw.keeps {mg : Str → Option Value} {h h' : Heap} {c' P' : Addr} (x : TabAtLaw mg h c' P') (k : ∀ b o, h.get? b = some o → h'.get? b = some o) : TabAtLaw mg h' c' P' :=
  ⟨let ⟨o, fd, a, r⟩ := x.fn; ⟨o, fd, k _ _ a, r⟩, x.code.keeps k, x.tab.keeps k, x.high⟩
noncomputable def LawOk : Prop := ∀ (w : World) (s : Shared) (mg mb : Str → Option Value) (c' P' sc : Addr) (o : Obj) (vs : List Value) (ns : List Int) (k : Nat), G w mg mb topNames (adOf mg) s.heap → TabAtLaw mg s.heap c' P' → s.gens = #[] → s.heap.get? sc = some o → o.cls = .type "list" → o.data = .seq vs.toArray k → IntsAre vs ns → ns.length ≤ 63 → sc ≠ P' →
  wpAny (model prog w) callerA (call (.ref (adOf mg "law")) [.ref sc]) (fun v s' => v = .bool true ∧ OldK s.heap s'.heap ∧ s'.os = s.os ∧ s'.gens = #[]) (fun _ _ => False) s
theorem globalOf_of_ns {h : Heap} {m : Str → Option Value} (hn : h.Ns mainGlobals m) (name : Str) : globalOf h name = m name := by
  obtain ⟨o, es, ep, ho, hd, _, hf⟩ := hn
  have ho' : h.get? mainNs = some o := ho
  simp only [globalOf, ho', hd]
  exact hf name
theorem keysAreStrs_of_ns {h : Heap} {m : Str → Option Value} {a : Addr} (hn : h.Ns a m) : keysAreStrs h a :=
  let ⟨o, es, ep, ho, hd, hk, _⟩ := hn; ⟨o, es, ep, ho, hd, hk⟩
theorem static_ns {h : Heap} {m : Str → Option Value} (hn : h.Ns cStatics m) (key : Str) : staticOf h key = m key := by
  obtain ⟨o, es, ep, ho, hd, _, hf⟩ := hn
  simp only [staticOf, ho, hd]
  exact hf key
theorem builtin_ns {h : Heap} {m : Str → Option Value} (hn : h.Ns builtinsNs m) (key : Str) : builtinOf h key = m key := by
  obtain ⟨o, es, ep, ho, hd, _, hf⟩ := hn
  simp only [builtinOf, ho, hd]
  exact hf key
theorem bound_top : (topNames.all fun x => prog.boundNames.contains x) = true := by kernel_rfl
theorem laid_top : (laidNames.all fun x => !topNames.contains x) = true := by kernel_rfl
theorem law_name : fname 35 = "law" := by kernel_rfl
theorem law_def : prog.theDef "law" = some (fargs 35, fbody 35, fscope 35) := by kernel_rfl
theorem law_kw : kwWritten? (fargs 35).kwonlyargs (fargs 35).kw_defaults = some [] := by kernel_rfl
theorem law_dflt : (fargs 35).defaults = [] := by kernel_rfl
section
variable {w : World}
theorem behind_top (s₀ : Shared) (hs₀ : AfterRun (opening prog) w s₀) : ∃ s₁, TopRan prog w s₀ s₁ ∧ s₁.asleep ∧ s₁.gens = #[] ∧ isTheDefsW prog s₁.heap "law" ∧ ∃ mg mb c' P', G w mg mb topNames (adOf mg) s₁.heap ∧ TabAtLaw mg s₁.heap c' P' := by
  obtain ⟨⟨mb₀, mg₀, c₀, Pl₀, hB⟩, hg, ht⟩ := (boot_facts w).2 s₀ hs₀
  have hz : s₀.asleep := AfterImport.life hs₀
  obtain ⟨s₁, hrun, hpost, hg1, hlife⟩ := top_ran hz (top_wp hB hg ht)
  obtain ⟨hs, mg1, mb, c, Pl, mg, ps, names, bt, X, hPl, hn, hf, up, hPls, hos, hns⟩ := hpost
  have T := top_of_mod bt X hPl hn
  have kst : s₁.heap.Ns cStatics (fun _ => none) := let ⟨o, es, ep, e, r⟩ := bt.statics; ⟨o, es, ep, X.keep _ _ (Nat.ne_of_lt (Nat.lt_trans (by decide) hPl)) (by decide) e, r⟩
  have gN := G_of_mod bt X hPl hn hf
  refine ⟨s₁, ⟨hrun, hlife, Shared.rest_eq hos, fun b o e hno => ?_, fun key v hv => ?_, fun key => .inl ?_, keysAreStrs_of_ns X.main.g, fun x hx => ?_, ?_, ?_, fun x v hv => ?_, fun x hx => ?_⟩, Shared.asleep_of_life hlife hz, hg1, ?_, mg, mb, ?_⟩
  · exact X.keep b o (Nat.ne_of_lt (Nat.lt_of_lt_of_le (Heap.lt_size e) hPls)) (fun q => hno (.inl q)) (up _ _ e)
  · rw [static_ns kst] at hv; cases hv
  · rw [static_ns kst, static_ns hB.statics]
  · rw [builtin_ns T.b]; exact T.builtins x hx
  · obtain ⟨bm, o, hbm, _, _, _, hbo, h1, h2, _⟩ := X.main.bmod
    exact ⟨bm, o, (globalOf_of_ns X.main.g _).trans hbm, hbo, h1, h2⟩
  · rw [hg1]; intro g hgm; simp at hgm
  · rw [globalOf_of_ns X.main.g] at hv
    by_cases h1 : x ∈ startupNames
    · exact .inl h1
    · by_cases h2 : x ∈ names
      · exact .inr (List.contains_iff_mem.mp (List.all_eq_true.mp bound_top x (hn x h2)))
      · rw [X.others x h2, bt.others x h1] at hv; cases hv
  · rw [globalOf_of_ns X.main.g, globalOf_of_ns hns]
    refine X.others x fun q => ?_
    have := List.all_eq_true.mp laid_top x hx
    rw [List.contains_iff_mem.mpr (hn x q)] at this
    cases this
  · obtain ⟨pm, cd, ho, _⟩ := (gN.fn 35 rfl).made
    rw [law_name] at ho
    refine ⟨adOf mg "law", _, _, fargs 35, fbody 35, fscope 35, (globalOf_of_ns X.main.g _).trans (gN.bound "law" (by decide +kernel)), ho, rfl, law_def, law_name, law_name, rfl, rfl, rfl, rfl, rfl, rfl, .inl ⟨law_dflt, rfl⟩, [], law_kw, .inl ⟨rfl, rfl⟩⟩
  · obtain ⟨o, fd, c', P', h1, h2, h3, h4, h5, h6⟩ := tab_of_mod X 35 rfl
    rw [law_name] at h1
    exact ⟨c', P', gN, ⟨o, fd, h1, h2, h3⟩, h5, h6, Nat.lt_of_lt_of_le X.lowG h4⟩
end
theorem args_of {args : List WData} (hpre : theRow.row.toRowW.claim.pre args = true) : ∃ ns : List Int, args = [.list (ns.map .int)] ∧ ns.length ≤ 63 := by
  have hsh := (pre_splitW hpre).1
  have hcond := (pre_splitW hpre).2
  obtain ⟨d, r, rfl, hx, hr⟩ := hasAllW_cons hsh
  obtain ⟨xs, rfl, hi⟩ := hasW_list hx
  obtain ⟨ns, rfl⟩ := items_int hi
  have hr' : r = [] := by cases r with | nil => rfl | cons _ _ => cases hr
  subst hr'
  refine ⟨ns, rfl, ?_⟩
  clear hx hr hsh hpre hi
  w_cond hcond
  rename ¬ _ < _ => hc
  rw [List.length_map] at hc
  omega
theorem ints_reads {R : WRecords} {cl : Str → Option Addr} {h : Heap} : ∀ {vs : List Value} {ns : List Int} {as : List Addr}, ReadsAllW R cl h vs (ns.map .int) as → IntsAre vs ns
  | _, [], _, x => by cases x; exact .nil
  | _, n :: ns, _, x => by
    cases x with
    | cons h1 h2 =>
      cases h1
      exact .cons _ _ (ints_reads h2)
theorem said_looks : looksOpen theRow.row.prog = true := by
  unfold looksOpen
  repeat' (with_reducible refine look_both ?_ ?_)
  all_goals (as_aux_lemma => kernel_rfl!)
theorem said_part : theRow.row.partSaid = true := by
  unfold OpenRow.partSaid
  repeat' (with_reducible refine look_both ?_ ?_)
  all_goals first | with_reducible exact said_looks | (as_aux_lemma => kernel_rfl!)
theorem said_row : theRow.row.wellSaid = true := by
  unfold OpenRow.wellSaid
  repeat' (with_reducible refine look_both ?_ ?_)
  all_goals first | with_reducible exact said_part | (as_aux_lemma => kernel_rfl!)
theorem said_law : theRow.wellSaid = true := by
  unfold OpenLaw.wellSaid
  repeat' (with_reducible refine look_both ?_ ?_)
  all_goals first | with_reducible exact said_row | (as_aux_lemma => kernel_rfl!)
inductive OneList (h : Heap) (ns : List Int) : List Value → Prop
  | mk (sc : Addr) (o : Obj) (items : Array Value) (k : Nat) (ho : h.get? sc = some o) (hc : o.cls = .type "list") (hd : o.data = .seq items k) (hi : IntsAre items.toList ns) : OneList h ns [.ref sc]
theorem one_list {R : WRecords} {cl : Str → Option Addr} {h : Heap} {vs : List Value} {ns : List Int} {as : List Addr} (x : ReadsAllW R cl h vs [.list (ns.map .int)] as) : OneList h ns vs := by
  cases x with
  | cons h1 h2 =>
    cases h2
    cases h1 with
    | list ho hc hd hall => exact .mk _ _ _ _ ho hc hd (ints_reads hall)
theorem holds_of (H : LawOk) : PySem.Challenge.rw_il0214_01.Holds := by
  w_on
  refine holds_law said_law fun said => ?_
  have hw : theRow.row.toRowW.promised := by w_witness2
  refine ⟨by assumption, hw, ⟨⟨⟨rfl, rfl, rfl, rfl, rfl, by decide +kernel⟩, by kernel_rfl, rfl⟩, hw.witness, fun w => ⟨(boot_facts w).1, fun s hs => ?_⟩⟩⟩
  obtain ⟨s₁, T, hz, hg, hdef, mg, mb, c', P', g, tb⟩ := behind_top s hs
  refine ⟨s, fence_eq s, ((boot_facts w).2 s hs).2.1, s₁, T, fun n hn => ?_, (fun x hx => nomatch hx), (fun x hx => nomatch hx), ?_⟩
  · have e : n = "law" := by
      have h1 : n ∈ ([("law" : Str)] : List Str) := hn
      simpa using h1
    subst e
    exact hdef
  · refine ClaimW.callFrom_of_specG (c := theRow.row.toRowW.claim) hz hg fun args hpre hlay ord hord => ?_
    obtain ⟨⟨vs, s₂⟩, hlaid⟩ := Option.isSome_iff_exists.mp (layAllW_isSome (R := []) (cl := classAt s₁.heap) (P := w.params) (ord := ord) (fun c hc => nomatch hc) args theRow.row.args s₁ (pre_splitW hpre).1)
    have keeps := layAllW_keeps _ _ _ hlaid
    have hal := layAllW_rest _ _ _ hlaid
    obtain ⟨as, hrd, hin, hold⟩ := reads_layAllW hord _ _ _ hlaid hlay s₂.heap (fun _ _ e => e)
    have L : Laid [] w s₁ s₂ args vs as := ⟨⟨ord, hord, hlaid⟩, hrd, hin, hold, keeps, hal.1.trans hg, hal.2.2.1⟩
    refine ⟨vs, s₂, hlaid, ?_⟩
    obtain ⟨ns, rfl, hl⟩ := args_of hpre
    have hrd2 : ReadsAllW [] (classAt s₁.heap) s₂.heap vs [.list (ns.map .int)] as := hrd
    clear hlaid
    have g2 := g.keeps (h' := s₂.heap) keeps
    have tb2 := tb.keeps (h' := s₂.heap) keeps
    obtain ⟨sc, o, items, k, ho, hc, hd, hi⟩ := one_list hrd2
    have hsc : sc ≠ P' := by
      intro q
      have e := tb2.tab.2
      rw [← q, ho] at e
      cases e
      cases hc
    refine wpAny_bind (wpAny_nsGet g2.T.g ?_)
    rw [show mg theRow.row.name = some (.ref (adOf mg "law")) from g2.bound "law" (by decide +kernel)]
    refine wpAny_bind (wpAny_mono (H w s₂ mg mb c' P' sc o items.toList ns k g2 tb2 L.gens ho hc (by simpa using hd) hi hl hsc) (fun v s' hv => ?_) fun _ _ x => x.elim)
    obtain ⟨rfl, hO, hos, hg'⟩ := hv
    have good : GoodWG theRow.row.toRowW.claim (classAt s₁.heap) (ExcName.means s₁.heap) [.list (ns.map .int)] s₂ (.ok (.ret (.bool true))) s' :=
      ⟨.inl ⟨_, .bool true, [], rfl, (fun _ => rfl),   .bool true, by wrow_post, fun _ => ⟨List.nodup_nil, fun _ h => nomatch h⟩⟩, hO, hos, .of_eq hg'⟩
    obtain ⟨z1, z2, z3⟩ := GoodWG.laid (c := theRow.row.toRowW.claim) rfl rfl (ident_freeW (r := theRow.row.toRowW) rfl rfl rfl) L good
    exact wpAny_pure ⟨_, rfl, z1, z2, z3, fun q => nomatch q⟩
structure LawRun (nm : Str) (S : Scope) (AR : Arguments) (B : List Stmt) : Prop where
  run : ∀ (w : World) (mg mb : Str → Option Value) (ad : Str → Addr) (vs : List Value) (ns : List Int) (k : Nat) (sc P' c' : Addr) (o : Obj) (dp un : Nat) (gd : Option (List Code)) (A₀ : Around) (base g : Heap) (L : Addr) (cells : Led) (s : Shared) (Q : Flow → Shared → Prop),
    Below A₀ base [] g → Fr g L s.heap (bindL (envOfC nm S L (ad "law") (.ref c')).kindOf ((AR.args.map (·.arg)).zip [Value.ref sc]) fun _ => none) →
    CellsAre (bindC (envOfC nm S L (ad "law") (.ref c')).kindOf ((AR.args.map (·.arg)).zip [Value.ref sc]) fun _ => none) (cellsFrom (L + 1) S.names []) cells →
    G w mg mb topNames ad g → CodeHd g c' P' → News g L s.heap (cells ++ [(P', tabObj #[]), (sc, o)]) → (@LT.lt Nat _ P' L ∧ @LT.lt Nat _ sc L) → o.cls = .type "list" → o.data = .seq vs.toArray k → IntsAre vs ns → ns.length ≤ 63 → dp + 300 < recursionLimit → un + 300 < cLine →
    (∀ h' tk m' ps, Fr g L h' m' → News g L h' [(P', tabObj ps), (sc, o)] → Q (.ret (.bool true)) { s with heap := h', toks := tk }) →
    wpAny (model prog w) (ktrTop dp un gd nm S L (ad "law") (.ref c') (cellsFrom (L + 1) S.names []) []) (execs B (envX nm S L (ad "law") (.ref c') (cellsFrom (L + 1) S.names []))) Q (fun _ _ => False) s
noncomputable abbrev LawC : Prop := LawRun (fname 35) (fscope 35) (fargs 35) (fbody 35)
noncomputable def BadObj (o : Obj) : Prop := o.data = .fields #[] ∨ ∃ vs k, o.data = .seq vs k
section
variable {w : World} {mg mb : Str → Option Value} {ad : Str → Addr} {h h' : Heap} {bad : Addr → Prop}
theorem ns_hide {a : Addr} {m : Str → Option Value} (hb : ∀ b o, bad b → h.get? b = some o → BadObj o) (k : ∀ b o, ¬ bad b → h.get? b = some o → h'.get? b = some o) (x : h.Ns a m) : h'.Ns a m := by
  obtain ⟨o, es, ep, e, hd, r⟩ := x
  refine ⟨o, es, ep, k _ _ (fun q => ?_) e, hd, r⟩
  rcases hb _ _ q e with q | ⟨_, _, q⟩ <;> (rw [hd] at q; cases q)
theorem G_hide (hb : ∀ b o, bad b → h.get? b = some o → BadObj o) (k : ∀ b o, ¬ bad b → h.get? b = some o → h'.get? b = some o) (g : G w mg mb topNames ad h) : G w mg mb topNames ad h' := by
  obtain ⟨mc, hc1, hc2⟩ := g.T.nolimit
  obtain ⟨md, hd1, hd2⟩ := g.T.nodigits
  obtain ⟨bm, ob, b1, b2, b3, b4, b5, b6⟩ := g.T.bmain
  have kb : h'.get? bm = some ob := k _ _ (fun q => by rcases hb _ _ q b3 with q | ⟨_, _, q⟩ <;> (rw [b6] at q; cases q)) b3
  have N := fun {a m} (x : h.Ns a m) => ns_hide hb k x
  obtain ⟨⟨mc2, s1, s2, s3⟩, ⟨mm, s4, s5⟩, ⟨mb2, s6, s7⟩, ⟨mg2, bm2, ob2, s8, s9, s10, s11, s12⟩⟩ := g.T.seer rfl
  refine ⟨⟨N g.T.g, N g.T.b, ⟨mc, N hc1, hc2⟩, ⟨md, N hd1, hd2⟩, (fun _ hd => nomatch hd), (fun _ ho => nomatch ho), (fun _ _ hv => nomatch hv), g.T.free, g.T.builtins, (fun _ hd => nomatch hd), ⟨bm, ob, b1, b2, kb, b4, b5, b6⟩,
    fun _ => ⟨⟨mc2, N s1, s2, s3⟩, ⟨mm, N s4, s5⟩, ⟨mb2, N s6, s7⟩, ⟨mg, bm, ob, N g.T.g, b1, kb, b4, b5⟩⟩⟩, g.bound, g.free, fun i hi => ⟨?_⟩, fun x hx => ?_, ?_, g.b3ne⟩
  · obtain ⟨pm, cd, ho, c, o, vs, t, e1, e2, e3, e4⟩ := (g.fn i hi).made
    refine ⟨pm, cd, k _ _ (fun q => ?_) ho, c, o, vs, t, e1, k _ _ (fun q => ?_) e2, e3, e4⟩
    · rcases hb _ _ q ho with q | ⟨_, _, q⟩ <;> cases q
    · rcases hb _ _ q e2 with q | ⟨_, _, q⟩
      · rw [e3] at q; cases q; cases e4
      · rw [e3] at q; cases q
  · obtain ⟨o, es, ep, t, e, h1, h2, r⟩ := g.sets x hx
    refine ⟨o, es, ep, t, k _ _ (fun q => ?_) e, h1, h2, r⟩
    rcases hb _ _ q e with q | ⟨_, _, q⟩ <;> (rw [h2] at q; cases q)
  · obtain ⟨f, ⟨o, es, ep, e, h1, h2, r⟩, hf⟩ := g.b3
    refine ⟨f, ⟨o, es, ep, k _ _ (fun q => ?_) e, h1, h2, r⟩, hf⟩
    rcases hb _ _ q e with q | ⟨_, _, q⟩ <;> (rw [h2] at q; cases q)
end
theorem law_bind : ∀ (s : Shared) (pm cd : Value) (v : Value), BindsTo s (fnX (fname 35) (fname 35) (fargs 35) (fbody 35) (fscope 35) [] .none .none .none pm none cd .none) ⟨[v], []⟩ (((fargs 35).args.map (·.arg)).zip [v]) := fun _ _ _ _ => BindsTo.of_eq rfl
section
variable {w : World} {s : Shared} {name : Str} {params : Arguments} {body : List Stmt} {scope : Scope} {pm cdv : Value} {fo : Obj} {f : Addr} {args : Args} {binds : List (Str × Value)} {R : Result → Shared → Prop}
theorem call_outer (hlim : s.heap.NoLimit) (ho : s.heap.get? f = some fo) (hd : fo.data = .func (fnX name name params body scope [] .none .none .none pm none cdv .none)) (hcd : s.heap.CodeRec cdv name)
    (hbind : BindsTo s (fnX name name params body scope [] .none .none .none pm none cdv .none) args binds)
    (hkind : ∀ n, ∀ x ∈ binds, scope.names.lookup x.1 = some .local ∨ (scope.names.lookup x.1 = some .cell ∧ ((cellsFrom n scope.names []).lookup x.1).isSome = true))
    (hnd : ((cellsFrom 0 scope.names []).map (·.1)).Nodup) (hco : scope.isCoroutine = false) (hgen : scope.isGenerator = false) (hk : scope.kind = .function)
    (h : ∀ L h₁ tk cells, L = s.heap.objs.size → h₁.Ns L (bindL (envOfC name scope L f cdv).kindOf binds fun _ => none) → (∀ b o, s.heap.get? b = some o → h₁.get? b = some o) →
      CellsAre (bindC (envOfC name scope L f cdv).kindOf binds fun _ => none) (cellsFrom (L + 1) scope.names []) cells → (∀ p ∈ cells, h₁.get? p.1 = some p.2 ∧ p.1 ≠ L ∧ s.heap.get? p.1 = none) →
      wpAny (model prog w) (callerA.deeper (envOfC name scope L f cdv)) (execs body (envOfC name scope L f cdv)) (fun fl s' => R (.ok (.ret (match fl with | .ret v => v | _ => .none))) s') (fun _ _ => False) { s with heap := h₁, toks := tk }) :
    codeAny (model prog w) callerA (.call (.ref f) args) R s := by
  refine codeAny_call_function (by decide) ho hd hco hgen rfl hcd (hbind _ _ _ _ ?_)
  refine wpAny_newFunctionEnv_cells hk (hkind _) fun env' he s' x => ?_
  subst he
  refine ⟨hlim.keeps x.toInCall.keep, codeAny_func ?_⟩
  obtain ⟨h₁, tk, rfl, _⟩ := x.done
  have hk₁ := x.toInCall.keep
  obtain ⟨cells, NC, Y⟩ := Cl.news (h₀ := s.heap) (Nat.le_refl _) fun n c hm => ⟨x.cell n c (lookup_of_mem_nodup (cellsFrom_names scope.names 0 (s.heap.objs.size + 1) [] [] rfl ▸ hnd) hm), x.above n c hm⟩
  exact wpAny_mono (h _ h₁ tk cells rfl x.toInCall.ns hk₁ Y NC) (fun _ _ q => q) fun _ _ q => q.elim
end
theorem law_core {nm : Str} {S : Scope} {AR : Arguments} {B : List Stmt} (H : LawRun nm S AR B) {w : World} {s : Shared} {mg mb : Str → Option Value} {ad : Str → Addr} {c' P' sc : Addr} {o : Obj} {vs : List Value} {ns : List Int} {k : Nat} {fo : Obj} {f : Addr} {pm : Value} {R : Result → Shared → Prop}
    (g2 : G w mg mb topNames ad (hideAll s.heap [P', sc])) (hlim : s.heap.NoLimit) (ho : s.heap.get? f = some fo) (hfd : fo.data = .func (fnX nm nm AR B S [] .none .none .none pm none (.ref c') .none)) (ead : ad "law" = f)
    (hcr : s.heap.CodeRec (.ref c') nm) (hbd : BindsTo s (fnX nm nm AR B S [] .none .none .none pm none (.ref c') .none) ⟨[.ref sc], []⟩ ((AR.args.map (·.arg)).zip [Value.ref sc]))
    (hkind : ∀ n, ∀ x ∈ (AR.args.map (·.arg)).zip [Value.ref sc], S.names.lookup x.1 = some .local ∨ (S.names.lookup x.1 = some .cell ∧ ((cellsFrom n S.names []).lookup x.1).isSome = true))
    (hnd : ((cellsFrom 0 S.names []).map (·.1)).Nodup) (hco35 : S.isCoroutine = false) (hg35 : S.isGenerator = false) (hk35 : S.kind = .function)
    (hgens : s.gens = #[]) (hP : s.heap.get? P' = some (tabObj #[])) (htc : s.heap.TableAt c' P' #[]) (hsc : s.heap.get? sc = some o) (hcls : o.cls = .type "list") (hdat : o.data = .seq vs.toArray k) (hi : IntsAre vs ns) (hl : ns.length ≤ 63)
    (hc2 : CodeHd (hideAll s.heap [P', sc]) c' P') (hPl : P' < s.heap.objs.size) (hsl : sc < s.heap.objs.size)
    (kh : ∀ b o', ¬ (b = P' ∨ b = sc) → s.heap.get? b = some o' → (hideAll s.heap [P', sc]).get? b = some o')
    (hR : ∀ v s', v = Value.bool true → OldK s.heap s'.heap → s'.os = s.os → s'.gens = #[] → R (.ok (.ret v)) s') :
    codeAny (model prog w) callerA (.call (.ref f) ⟨[.ref sc], []⟩) R s := by
  subst ead
  have hrun := H.run w mg mb ad vs ns k sc P' c' o
  clear H
  generalize ((AR.args.map (·.arg)).zip [Value.ref sc]) = binds at *
  refine call_outer hlim ho hfd hcr hbd hkind hnd hco35 hg35 hk35 fun L h₁ tk cells eL hns hk₁ Y NC => ?_
  subst eL
  refine wpAny_mono (hrun _ _ _ callerA (hideAll s.heap [P', sc]) (hideAll s.heap [P', sc]) s.heap.objs.size cells { s with heap := h₁, toks := tk } (fun fl s' => ∃ v, fl = .ret v ∧ v = .bool true ∧ OldK s.heap s'.heap ∧ s'.os = s.os ∧ s'.gens = #[]) (below_caller _)
    ⟨hns, fun b o e => hk₁ b o (of_hideAll _ e), Nat.le_of_eq (hideAll_size _ _)⟩ Y g2 hc2 (fun p hp => ?_) ⟨hPl, hsl⟩ hcls hdat hi hl (by show callerA.depth + 1 + 300 < recursionLimit; decide) (by show callerA.units + 3 + 300 < cLine; decide) fun h' tk' m' ps F' N' => ?_) (fun fl s' hh => ?_) fun _ _ x => x.elim
  · rcases List.mem_append.mp hp with hp | hp
    · refine ⟨(NC p hp).1, (NC p hp).2.1, ?_⟩
      cases q : (hideAll s.heap [P', sc]).get? p.1 with
      | none => rfl
      | some o => have := of_hideAll _ q; rw [(NC p hp).2.2] at this; cases this
    · rcases List.mem_cons.mp hp with rfl | hp
      · exact ⟨hk₁ _ _ hP, Nat.ne_of_lt hPl, hideAll_none _ (List.mem_cons_self ..)⟩
      · obtain rfl := List.mem_singleton.mp hp
        exact ⟨hk₁ _ _ hsc, Nat.ne_of_lt hsl, hideAll_none _ (List.mem_cons_of_mem _ (List.mem_cons_self ..))⟩
  · refine ⟨_, rfl, rfl, ⟨fun b o' e => ?_, fun b o' e => ?_⟩, rfl, hgens⟩
    · by_cases hb : b = P'
      · subst hb
        rw [hP] at e
        cases e
        exact .inr (.inl ⟨htc.isCodeTable, rfl, #[], ps, rfl, by rw [Array.empty_append]; exact (N' (b, tabObj ps) (List.mem_cons_self ..)).1⟩)
      · by_cases hb2 : b = sc
        · subst hb2
          rw [hsc] at e
          cases e
          exact .inl (N' (b, o) (List.mem_cons_of_mem _ (List.mem_cons_self ..))).1
        · exact .inl (F'.keep _ _ (kh b o' (fun q => q.elim hb hb2) e))
    · by_cases hb : b = P'
      · subst hb
        exact ⟨_, (N' (b, tabObj ps) (List.mem_cons_self ..)).1⟩
      · by_cases hb2 : b = sc
        · subst hb2
          exact ⟨_, (N' (b, o) (List.mem_cons_of_mem _ (List.mem_cons_self ..))).1⟩
        · exact ⟨_, F'.keep _ _ (kh b o' (fun q => q.elim hb hb2) e)⟩
  · obtain ⟨v, rfl, hv, a, b, c⟩ := hh
    exact hR v s' hv a b c
theorem law_ok (H : LawC) : LawOk := by
  intro w s mg mb c' P' sc o vs ns k g tb hgens hsc hcls hdat hi hl hne
  obtain ⟨pm, cd, ho, hcr⟩ := (g.fn 35 rfl).made
  have hn := law_name
  obtain ⟨o1, fd, h1, h2, h3⟩ := tb.fn
  have ho' := ho
  rw [hn] at ho'
  rw [ho'] at h1
  cases h1
  cases h2
  have ecd : cd = .ref c' := h3
  subst ecd
  clear h3 ho'
  have hP := tb.tab.2
  have hcd := CodeHd.of tb.code tb.tab
  have hbad : ∀ b o', (b = P' ∨ b = sc) → s.heap.get? b = some o' → BadObj o' := by
    rintro b o' (rfl | rfl) e
    · rw [hP] at e; cases e; exact .inl rfl
    · rw [hsc] at e; cases e; exact .inr ⟨_, _, hdat⟩
  have kh : ∀ b o', ¬ (b = P' ∨ b = sc) → s.heap.get? b = some o' → (hideAll s.heap [P', sc]).get? b = some o' := fun b o' hn e => hideAll_get _ e (by simp only [List.mem_cons, List.not_mem_nil, or_false]; exact hn)
  have g2 := G_hide hbad kh g
  have hc2 : CodeHd (hideAll s.heap [P', sc]) c' P' := by
    obtain ⟨oc, vs', a1, a2, a3, a4, a5, a6, a7, e1, e2, e3, e4, r⟩ := hcd
    refine ⟨oc, vs', a1, a2, a3, a4, a5, a6, a7, kh _ _ (fun q => ?_) e1, e2, e3, e4, r⟩
    rcases hbad _ _ q e1 with q | ⟨_, _, q⟩
    · rw [e3] at q; cases q; cases e4
    · rw [e3] at q; cases q
  have hPl : P' < s.heap.objs.size := Heap.lt_size hP
  have hsl : sc < s.heap.objs.size := Heap.lt_size hsc
  have hnd : ((cellsFrom 0 (fscope 35).names []).map (·.1)).Nodup := by decide +kernel
  have hk35 : (fscope 35).kind = .function := by kernel_rfl
  have hco35 : (fscope 35).isCoroutine = false := by kernel_rfl
  have hg35 : (fscope 35).isGenerator = false := by kernel_rfl
  have hbd := law_bind s pm (.ref c') (.ref sc)
  have hkind : ∀ n, ∀ x ∈ ((fargs 35).args.map (·.arg)).zip [Value.ref sc], (fscope 35).names.lookup x.1 = some .local ∨ ((fscope 35).names.lookup x.1 = some .cell ∧ ((cellsFrom n (fscope 35).names []).lookup x.1).isSome = true) := fun n x hx => .inl (locs rfl x hx)
  clear hcd
  have hlim := g.T.nolimit
  rw [← hn]
  exact wpAny_call (law_core H g2 hlim ho rfl rfl hcr hbd hkind hnd hco35 hg35 hk35 hgens hP tb.tab hsc hcls hdat hi hl hc2 hPl hsl kh fun v s' a b c d => ⟨a, b, c, d⟩)
section
open PyProof.Rows.LCg PyProof.Rows.LCt PyProof.Rows.LCp
section
variable {w : World} {A : Around} {E : Value → Shared → Prop} {s : Shared} {h₀ : Heap} {L : Addr} {m : Str → Option Value} {env : Env}
noncomputable def JEnd (h₀ : Heap) (L : Addr) (m : Str → Option Value) (s₁ : Shared) (I C D : Addr) (oI oC oD : Obj) (R : Value → Led → Prop) (y : Value) (s₂ : Shared) : Prop :=
  ∃ h' tk nw, s₂ = { s₁ with heap := h', toks := tk } ∧ Fr h₀ L h' m ∧ News h₀ L h' ((I, oI) :: (C, oC) :: (D, oD) :: nw) ∧ Off3 I C D nw ∧ R y nw
/-- a comprehension over a list of the ledger, the ledger growing -/
theorem comp_listJ {elt iter : Expr} {x : Str} {px : Pos} {scope : Scope} {cl : List (Str × Addr)} {pos : Pos} {Q : Value → Shared → Prop} (_F₀ : Fr h₀ L s.heap m) (hh : A.handled = none) (J : Addr → Array Value → Nat → List Value → Led → Prop)
    (hclos : closureFor scope env = pure cl) (hcell : ∀ y ∈ scope.names, y.2 ≠ .cell) (hkind : scope.kind = .function)
    (hnames : ∀ y ∈ scope.names, y.2 = .local → scope.names.lookup y.1 = some .local) (hx : scope.names.lookup x = some .local)
    (h : wpAny (model prog w) A (eval iter env) (fun xv s₁ => Stop (∃ ax its k news, xv = .ref ax ∧ Fr h₀ L s₁.heap m ∧ News h₀ L s₁.heap news ∧ its.size ≤ 1000 ∧ J ax its 0 [] news ∧ (∀ i ys nw, J ax its i ys nw → (ax, W.listOf its k) ∈ nw) ∧
      (∀ i ys nw v I oI C oC D m₂ h tk (E' : Value → Shared → Prop), i < its.size → J ax its i ys nw → its[i]? = some v → NsObj oC m₂ → m₂ x = some v → Fr h₀ L h m → News h₀ L h ((I, oI) :: (C, oC) :: (D, lst ys) :: nw) → Off3 I C D nw →
        wpAny (model prog w) A (eval elt (compEnvC scope cl C env)) (JEnd h₀ L m { s₁ with heap := h, toks := tk } I C D oI oC (lst ys) (fun y nw' => J ax its (i + 1) (ys ++ [y]) nw')) E' { s₁ with heap := h, toks := tk }) ∧
      (∀ D ys nw h tk, J ax its its.size ys nw → Fr h₀ L h m → News h₀ L h ((D, lst ys) :: nw) → Off1 D nw → Q (.ref D) { s₁ with heap := h, toks := tk }))) E s)
    (hs : ∀ x, foldedSetIterable iter env x = pure x) :
    wpAny (model prog w) A (eval (.ListComp elt [⟨.Name x px, iter, [], 0⟩] scope pos) env) Q E s := by
  refine ListComp_U (_F₀) hclos hcell hkind hnames hx (wpAny_mono h (fun xv s₁ h₁ => ?_) fun _ _ e => e) hs
  obtain ⟨ax, its, k, news, rfl, F, N, hsz, hJ, src, step, fin⟩ := h₁.out
  refine CompSrc.ledger hh F N (src _ _ _ hJ) (Nat.le_trans hsz (by rw [sizeLine_eq]; decide)) fun g => ?_
  have R : ∀ (k i : Nat) (ys : List Value) (nw : Led), i + k = its.size → J ax its i ys nw → CompRest prog w A h₀ L m env elt x scope cl { s₁ with heap := g } (SrcAt h₀ ax its) (fun i v => its[i]? = some v) (FinE h₀ L m { s₁ with heap := g } Q) k i ys nw := by
    intro k
    induction k with
    | zero =>
      intro i ys nw e hJ
      obtain rfl : i = its.size := by omega
      exact CompRest.zero fun D h tk F N o => fin D ys nw h tk hJ F N o
    | succ k ih =>
      intro i ys nw e hJ
      refine CompRest.succ fun v I oI C oC D m₂ h tk E' hv hC hx F N off ne => ?_
      refine wpAny_mono (step i ys nw v I oI C oC D m₂ h tk E' (by omega) hJ hv hC hx F N off) (fun y s'' h₂ => ?_) fun _ _ e => e
      obtain ⟨h', tk', nw', rfl, F', N', off', hJ'⟩ := h₂
      exact ⟨h', tk', nw', rfl, F', N', off', .inr ⟨_, src _ _ _ hJ', rfl, _, rfl⟩, ih (i + 1) _ nw' (by omega) hJ'⟩
  exact R its.size 0 [] news (Nat.zero_add _) hJ
theorem comp_listT {ct elt iter : Expr} {x : Str} {px : Pos} {scope : Scope} {cl : List (Str × Addr)} {pos : Pos} {Q : Value → Shared → Prop} (_F₀ : Fr h₀ L s.heap m) (hh : A.handled = none) (Inv : Array Value → Nat → List Value → Prop)
    (hclos : closureFor scope env = pure cl) (hcell : ∀ y ∈ scope.names, y.2 ≠ .cell) (hkind : scope.kind = .function)
    (hnames : ∀ y ∈ scope.names, y.2 = .local → scope.names.lookup y.1 = some .local) (hx : scope.names.lookup x = some .local)
    (h : wpAny (model prog w) A (eval iter env) (fun xv s₁ => Stop (∃ ax its k news, xv = .ref ax ∧ Fr h₀ L s₁.heap m ∧ News h₀ L s₁.heap news ∧ its.size ≤ 1000 ∧ Inv its 0 [] ∧ (ax, W.listOf its k) ∈ news ∧
      (∀ i ys v I oI C oC D m₂ h tk (E' : Value → Shared → Prop), i < its.size → Inv its i ys → its[i]? = some v → NsObj oC m₂ → m₂ x = some v → Fr h₀ L h m → News h₀ L h ((I, oI) :: (C, oC) :: (D, lst ys) :: news) →
        wpAny (model prog w) A (isTrue ct (compEnvC scope cl C env) (eval ct (compEnvC scope cl C env))) (fun ok s' => if ok = true then
          wpAny (model prog w) A (eval elt (compEnvC scope cl C env)) (fun y' s'' => CEnd h₀ L m { s₁ with heap := h, toks := tk } ((I, oI) :: (C, oC) :: (D, lst ys) :: news) (Inv its (i + 1) (ys ++ [y'])) s'') E' s'
          else CEnd h₀ L m { s₁ with heap := h, toks := tk } ((I, oI) :: (C, oC) :: (D, lst ys) :: news) (Inv its (i + 1) ys) s') E' { s₁ with heap := h, toks := tk }) ∧
      (∀ D ys h tk, Inv its its.size ys → Fr h₀ L h m → News h₀ L h ((D, lst ys) :: news) → Off1 D news → Q (.ref D) { s₁ with heap := h, toks := tk }))) E s)
    (hs : ∀ x, foldedSetIterable iter env x = pure x) :
    wpAny (model prog w) A (eval (.ListComp elt [⟨.Name x px, iter, [ct], 0⟩] scope pos) env) Q E s := by
  refine ListComp_T (_F₀) hclos hcell hkind hnames hx (wpAny_mono h (fun xv s₁ h₁ => ?_) fun _ _ e => e) hs
  obtain ⟨ax, its, k, news, rfl, F, N, hsz, hI, src, step, fin⟩ := h₁.out
  refine CompSrcT.ledger hh F N src (Nat.le_trans hsz (by rw [sizeLine_eq]; decide)) fun g => ?_
  refine restT_const (Inv its) (.inr ⟨_, src, rfl, _, rfl⟩) ?_ ?_ _ 0 [] (Nat.zero_add _) hI
  · exact fun i ys v I oI C oC D m₂ h tk E' hi hI hv hC hx F N => step i ys v I oI C oC D m₂ h tk E' hi hI hv hC hx F N
  · intro ys hI D h tk F N o
    exact fin D ys h tk hI F N o
theorem unpack2 {a b : Str} {pa pb tp : Pos} {kk} {q : Addr} {v₁ v₂ : Value} {Q : Unit → Shared → Prop} {mc : Str → Option Value} (hh : A.handled = none) (ht : s.heap.IsList q #[v₁, v₂])
    (ha : env.kindOf a = some .local) (hb : env.kindOf b = some .local) (hp : (env.scope.kind == .class || (env.scope.kind == .module && env.locals != env.globals)) = false) (hn : s.heap.Ns env.locals mc)
    (h : ∀ (h' : Heap) (tk : Nat), h'.Ns env.locals (fun z => if z = b then some v₂ else if z = a then some v₁ else mc z) → (∀ c o, c ≠ env.locals → s.heap.get? c = some o → h'.get? c = some o) → Q () { s with heap := h', toks := tk }) :
    wpAny (model prog w) A (assign (.Tuple [.Name a pa, .Name b pb] kk tp) env (.ref q)) Q E s := by
  rw [assign_Tuple]
  refine wpAny_bind (wpAny_standAt ?_)
  have hn2 : (assignEach [.Name a pa, .Name b pb] env).length = (#[v₁, v₂] : Array Value).size := rfl
  have hst2 : (assignEach [.Name a pa, .Name b pb] env).findIdx? (·.1) = none := rfl
  unfold unpack
  rw [hn2, hst2]
  refine wpAny_bind (wpAny_holding (kun_itemsOf hh ht fun h₁ he => ?_))
  have up : ∀ c o, s.heap.get? c = some o → h₁.get? c = some o := fun c o e => he c o (Nat.ne_of_lt (Heap.lt_size e)) e
  refine assignInOrder_cons (wpAny_assign_Name (wpAny_storeName_local ha (hn.at' fun o e => up _ o e) (fun h₂ hn₂ hs₂ => ?_) hp))
  refine assignInOrder_cons (wpAny_assign_Name (wpAny_storeName_local hb hn₂ (fun h₃ hn₃ hs₃ => ?_) hp))
  refine assignInOrder_nil ?_
  exact h h₃ _ hn₃ fun c o hc e => hs₃.extBut c o hc (hs₂.extBut c o hc (up c o e))
section
variable {elt iter : Expr} {x x₂ : Str} {px px₂ tp : Pos} {tk0 : Nat} {scope : Scope} {cl : List (Str × Addr)} {pos : Pos}
inductive PairI (h₀ : Heap) (L : Addr) (m : Str → Option Value) (s₂ : Shared) (I C D ax : Addr) (its : Array Value) (J : Nat → List Value → Led → Prop) (k : Nat) : Shared → Prop
  | mk (h' : Heap) (tk i : Nat) (ys : List Value) (m' : Str → Option Value) (nw : Led) (hi : i ≤ its.size) (hk : k = its.size + 1 - i) (hy : ys.length = i) (hit : h'.IsListIter I ax i) (F : Fr h₀ L h' m) (hn : h'.Ns C m') (N : News h₀ L h' ((D, lst ys) :: nw)) (off : Off3 I C D nw) (hJ : J i ys nw) : PairI h₀ L m s₂ I C D ax its J k { s₂ with heap := h', toks := tk }
theorem pair_turn {RR : Result → Shared → Prop} {s₂ : Shared} {I C D ax : Addr} {its : Array Value} {k : Nat} (hh : A.handled = none) (J : Nat → List Value → Led → Prop) (hkind : scope.kind = .function) (hx : scope.names.lookup x = some .local) (hx₂ : scope.names.lookup x₂ = some .local) (hxx : x ≠ x₂)
    (hax : ax ≠ I) (hsz : its.size ≤ sizeLine) (ne : @Ne Nat I C ∧ @Ne Nat I D ∧ @Ne Nat C D ∧ @Ne Nat L I ∧ @Ne Nat C L ∧ @Ne Nat D L) (hI₀ : h₀.get? I = none) (hC₀ : h₀.get? C = none) (hD₀ : h₀.get? D = none)
    (src : ∀ i ys nw, J i ys nw → (ax, W.listOf its k) ∈ nw)
    (step : ∀ i ys nw v, i < its.size → J i ys nw → its[i]? = some v → ∃ q a b c, v = .ref q ∧ (q, W.listOf #[a, b] c) ∈ nw ∧
        ∀ I oI C oC D m₂ h tk (E' : Value → Shared → Prop), NsObj oC m₂ → m₂ x = some a → m₂ x₂ = some b → Fr h₀ L h m → News h₀ L h ((I, oI) :: (C, oC) :: (D, lst ys) :: nw) → Off3 I C D nw →
        wpAny (model prog w) A (eval elt (compEnvC scope cl C env)) (JEnd h₀ L m { s₂ with heap := h, toks := tk } I C D oI oC (lst ys) (fun y nw' => J (i + 1) (ys ++ [y]) nw')) E' { s₂ with heap := h, toks := tk })
    (fin : ∀ h tk m' ys nw, J its.size ys nw → Fr h₀ L h m → News h₀ L h ((D, lst ys) :: nw) → Off1 D nw → h.Ns C m' → (∀ p ∈ nw, p.1 ≠ C) → RR (.ok .next) { s₂ with heap := h, toks := tk })
    {h₁ : Heap} {tk₁ : Nat} {m' : Str → Option Value} {nw : Led} (hJ : J 0 [] nw) (hit : h₁.IsListIter I ax 0) (F : Fr h₀ L h₁ m) (hn : h₁.Ns C m') (N : News h₀ L h₁ ((D, lst []) :: nw)) (off : Off3 I C D nw) :
    codeAny (model prog w) A (.compLoop (.ListComp elt [⟨.Tuple [.Name x px, .Name x₂ px₂] tk0 tp, iter, [], 0⟩] scope pos) 0 (.ref I) (.ref D) (compEnvC scope cl C env)) RR { s₂ with heap := h₁, toks := tk₁ } := by
  obtain ⟨hIC, hID, hCD, hLI, hCL, hDL⟩ := ne
  have Wk := Walks.list (prog := prog) (w := w) (A := A) hh I ax hax its
  refine codeAny_compLoop_pair
    (PairI h₀ L m s₂ I C D ax its J) ?_ (its.size + 1)
    (.mk h₁ _ 0 [] _ nw (Nat.zero_le _) rfl rfl hit F hn N off hJ)
  rintro k _ ⟨h', tk, i, ys, m', nw, hi, rfl, hyl, hst', F', hn', N', off', hJ'⟩
  have off3 := off'.mem
  have hl' : h'.IsList ax its := ⟨_, (N' _ (List.mem_cons_of_mem _ (src _ _ _ hJ'))).1, rfl, _, rfl⟩
  by_cases hlt : i < its.size
  · refine Wk.item i _ _ _ hlt ⟨hst', hl'⟩ fun v h₂ tk₂ hPv hst₂ hk₂ => ?_
    obtain ⟨q, a, b, c, rfl, hq, R⟩ := step i ys nw v hlt hJ' hPv
    have N₂ : News h₀ L h₂ ((D, lst ys) :: nw) := news_but N' hk₂ fun p hp => by
      rcases List.mem_cons.mp hp with rfl | hp
      · exact Ne.symm hID
      · exact (off3 p hp).1
    have hq₂ : h₂.IsList q #[a, b] := ⟨_, (N₂ _ (List.mem_cons_of_mem _ hq)).1, rfl, _, rfl⟩
    refine wpAny_letOwnedTupleGo_listiter hst₂.1 ?_
    refine unpack2 (env := compEnvC scope cl C env) hh hq₂ (lookup_relabel_local hx) (lookup_relabel_local hx₂) (by simp [compEnvC, relabel, hkind]) (hn'.at' fun o e => hk₂ _ o (by simpa using Ne.symm hIC) e) fun h₃ tk₃ hn₃ k₃ => ?_
    have k₃' : ∀ c o, c ≠ C → h₂.get? c = some o → h₃.get? c = some o := k₃
    have hst₃ : h₃.IsListIter I ax (i + 1) := by obtain ⟨o, e, r⟩ := hst₂.1; exact ⟨o, k₃' _ _ hIC e, r⟩
    obtain ⟨oI, heI, _⟩ := id hst₃
    obtain ⟨oC, heC, hoC⟩ := ns_obj hn₃
    have F₂ := fr_but F' hk₂ hLI hI₀
    have F₃ : Fr h₀ L h₃ m := ⟨F₂.ns.at' fun o e => k₃' _ _ (Ne.symm hCL) e, fun b o e => k₃' b o (fun z => by rw [z, hC₀] at e; cases e) (F₂.keep b o e), F₂.above⟩
    have N₃ : News h₀ L h₃ ((I, oI) :: (C, oC) :: (D, lst ys) :: nw) := fun p hp => by
      rcases List.mem_cons.mp hp with rfl | hp
      · exact ⟨heI, Ne.symm hLI, hI₀⟩
      · rcases List.mem_cons.mp hp with rfl | hp
        · exact ⟨heC, hCL, hC₀⟩
        · have z := N₂ p hp
          refine ⟨k₃' _ _ ?_ z.1, z.2⟩
          rcases List.mem_cons.mp hp with rfl | hp
          · exact Ne.symm hCD
          · exact (off3 p hp).2.1
    refine wpAny_mono (R I oI C oC D _ h₃ _ _ hoC (by simp [hxx]) (by simp) F₃ N₃ off') (fun y s₄ h₄ => ?_) fun _ _ e => e
    obtain ⟨h₄, tk₄, nw₄, rfl, F₄, N₄, off₄, J₄⟩ := h₄
    have zI := (N₄ (I, oI) List.mem_cons_self).1
    have zC := (N₄ (C, oC) (List.mem_cons_of_mem _ List.mem_cons_self)).1
    have zD := (N₄ (D, lst ys) (List.mem_cons_of_mem _ (List.mem_cons_of_mem _ List.mem_cons_self))).1
    have hst₄ : h₄.IsListIter I ax (i + 1) := by obtain ⟨o', e, r⟩ := hst₃; rw [heI] at e; cases e; exact ⟨oI, zI, r⟩
    refine append_at (hsz := by show ys.toArray.size ≤ sizeLine; rw [List.size_toArray, hyl]; exact Nat.le_trans hi hsz) zD fun h₅ hs₅ hD₅ => ?_
    have off4 := off₄.mem
    refine ⟨its.size + 1 - (i + 1), by omega, .mk h₅ tk₄ (i + 1) (ys ++ [y]) _ nw₄ hlt rfl (by rw [List.length_append, List.length_singleton, hyl]) ?_ (F₄.change hs₅ hDL hD₀) ((hoC.ns zC).sameBut hs₅ hCD) (fun p hp => ?_) off₄ J₄⟩
    · obtain ⟨o', e, r⟩ := hst₄; exact ⟨o', hs₅.extBut _ _ hID e, r⟩
    · rcases List.mem_cons.mp hp with rfl | hp
      · exact ⟨hD₅.trans (congrArg some (lst_snoc ys y)), hDL, hD₀⟩
      · exact ⟨hs₅.extBut _ _ (off4 p hp).2.2 (N₄ p (List.mem_cons_of_mem _ (List.mem_cons_of_mem _ (List.mem_cons_of_mem _ hp)))).1, (N₄ p (List.mem_cons_of_mem _ (List.mem_cons_of_mem _ (List.mem_cons_of_mem _ hp)))).2⟩
  · obtain rfl : i = its.size := Nat.le_antisymm hi (Nat.not_lt.mp hlt)
    refine Wk.done _ _ _ ⟨hst', hl'⟩ fun h₂ tk₂ hk₂ => ?_
    exact fin h₂ tk₂ _ ys nw hJ' (fr_but F' hk₂ hLI hI₀) (news_but N' hk₂ fun p hp => by
      rcases List.mem_cons.mp hp with rfl | hp
      · exact Ne.symm hID
      · exact (off3 p hp).1) off'.one (hn'.at' fun o e => hk₂ _ o (by simpa using Ne.symm hIC) e) fun p hp => (off3 p hp).2.1
theorem pair_core {RR : Value → Addr → Result → Shared → Prop} {s₁ : Shared} (hh : A.handled = none) (J : Nat → List Value → Led → Prop) (hcell : ∀ y ∈ scope.names, y.2 ≠ .cell) (hkind : scope.kind = .function) (hx : scope.names.lookup x = some .local) (hx₂ : scope.names.lookup x₂ = some .local) (hxx : x ≠ x₂)
    {ax : Addr} {its : Array Value} {k : Nat} {news : Led} (F : Fr h₀ L s₁.heap m) (N : News h₀ L s₁.heap news) (hsz : its.size ≤ 1000) (hJ : J 0 [] news) (src : ∀ i ys nw, J i ys nw → (ax, W.listOf its k) ∈ nw)
    (step : ∀ i ys nw v, i < its.size → J i ys nw → its[i]? = some v → ∃ q a b c, v = .ref q ∧ (q, W.listOf #[a, b] c) ∈ nw ∧
        ∀ I oI C oC D m₂ h tk (E' : Value → Shared → Prop), NsObj oC m₂ → m₂ x = some a → m₂ x₂ = some b → Fr h₀ L h m → News h₀ L h ((I, oI) :: (C, oC) :: (D, lst ys) :: nw) → Off3 I C D nw →
        wpAny (model prog w) A (eval elt (compEnvC scope cl C env)) (JEnd h₀ L m { s₁ with heap := h, toks := tk } I C D oI oC (lst ys) (fun y nw' => J (i + 1) (ys ++ [y]) nw')) E' { s₁ with heap := h, toks := tk })
    (hRR : ∀ D C h tk m' ys nw, J its.size ys nw → Fr h₀ L h m → News h₀ L h ((D, lst ys) :: nw) → Off1 D nw → h.Ns C m' → h₀.get? C = none → C ≠ L → D ≠ C → (∀ p ∈ nw, p.1 ≠ C) → RR (.ref D) C (.ok .next) { s₁ with heap := h, toks := tk }) :
    wpAny (model prog w) A (pyIter (.ref ax)) (fun it s₂ => wpAny (model prog w) A (newList []) (fun acc s₃ => wpAny (model prog w) A (newFunctionEnv scope env.globals cl [] env.qual none .none (some env)) (fun cenv s₄ =>
      codeAny (model prog w) A (.compStart (.ListComp elt [⟨.Tuple [.Name x px, .Name x₂ px₂] tk0 tp, iter, [], 0⟩] scope pos) 0 it acc { cenv with scope := relabel scope env }) (RR acc cenv.locals) s₄) E s₃) E s₂) E s₁ := by
  have hsz' : its.size ≤ sizeLine := Nat.le_trans hsz (by rw [sizeLine_eq]; decide)
  have hl : s₁.heap.IsList ax its := ⟨_, (N _ (src _ _ _ hJ)).1, rfl, _, rfl⟩
  have hlt : ax < s₁.heap.objs.size := by obtain ⟨_, e, _⟩ := hl; exact Heap.lt_size e
  refine wpAny_pyIter_list hl ?_
  have fresh₀ : ∀ a, s₁.heap.objs.size ≤ a → h₀.get? a = none := fun a ha => by
    cases e : h₀.get? a with
    | none => rfl
    | some o' => exact absurd (Heap.lt_size (F.keep a o' e)) (Nat.not_lt.mpr ha)
  have hLlt : @LT.lt Nat _ L s₁.heap.objs.size := F.ns.lt
  refine wpAny_newObj_type (wpAny_newFunctionEnv hcell (by intro y hy; simp at hy) (fun h₁ hns₁ hsb₁ => ?_) hkind)
  dsimp only at hns₁ hsb₁ ⊢
  generalize hg : s₁.heap.push { cls := .type "list_iterator", data := .fields #[.ref ax, .int 0 0] } = g at hns₁ hsb₁ ⊢
  have hgs : g.objs.size = s₁.heap.objs.size + 1 := by rw [← hg, Heap.size_push]
  have up : ∀ b o, s₁.heap.get? b = some o → g.get? b = some o := fun b o e => hg ▸ Heap.get?_push_of_some _ e
  have hgI : g.IsListIter s₁.heap.objs.size ax 0 := by rw [← hg]; exact ⟨_, Heap.get?_push_size _ rfl, rfl, rfl⟩
  generalize hH2 : g.push { cls := .type "list", dict := none, data := .seq ([] : List Value).toArray } = H2 at hns₁ hsb₁ ⊢
  have hC : H2.objs.size = s₁.heap.objs.size + 2 := by rw [← hH2, Heap.size_push, hgs]
  have old : ∀ b o, g.get? b = some o → h₁.get? b = some o := fun b o e => hsb₁.extBut b o (Nat.ne_of_lt (by have := Heap.lt_size e; show b < H2.objs.size; rw [hC]; rw [hgs] at this; exact Nat.lt_succ_of_lt this)) (Heap.get?_push_of_some _ (hH2 ▸ Heap.get?_push_of_some _ e))
  have hacc : h₁.get? g.objs.size = some (lst []) := hsb₁.extBut _ _ (Nat.ne_of_lt (by show g.objs.size < H2.objs.size; rw [hC, hgs]; exact Nat.lt_succ_self _)) (Heap.get?_push_of_some _ (hH2 ▸ Heap.get?_push_size _ rfl))
  have hst₁ : h₁.IsListIter s₁.heap.objs.size ax 0 := by obtain ⟨o, e, r⟩ := hgI; exact ⟨o, old _ _ e, r⟩
  have hl₁ : h₁.IsList ax its := ⟨_, old _ _ (up _ _ (N _ (src _ _ _ hJ)).1), rfl, _, rfl⟩
  have hCLx : @Ne Nat H2.objs.size L := by rw [hC]; omega
  have hC0x := fresh₀ H2.objs.size (by rw [hC]; omega)
  refine (fun loop => codeAny_compStart_list loop ((Walks.list (prog := prog) (w := w) (A := A) hh s₁.heap.objs.size ax (Nat.ne_of_lt hlt) its).self 0 _ _ _ ⟨hst₁, hl₁⟩ loop)) ?_
  refine pair_turn (s₂ := s₁) (h₁ := h₁) (I := s₁.heap.objs.size) (C := H2.objs.size) (D := g.objs.size) (ax := ax) (its := its) (k := k) hh J hkind hx hx₂ hxx (Nat.ne_of_lt hlt) hsz' (by rw [hC, hgs]; exact ⟨by omega, by omega, by omega, by omega, by omega, by omega⟩) (fresh₀ _ (Nat.le_refl _)) (fresh₀ _ (by rw [hC]; omega)) (fresh₀ _ (by rw [hgs]; omega)) src step
    (fun h tk m' ys nw a b c d e f => hRR _ _ h tk m' ys nw a b c d e hC0x hCLx (by show @Ne Nat g.objs.size H2.objs.size; rw [hC, hgs]; omega) f) hJ hst₁ (F.keeps fun b o e => old _ _ (up _ _ e)) hns₁ (fun p hp => by
      rcases List.mem_cons.mp hp with rfl | hp
      · exact ⟨hacc, by show @Ne Nat g.objs.size L; rw [hgs]; omega, fresh₀ _ (by show _ ≤ g.objs.size; rw [hgs]; omega)⟩
      · exact ⟨old _ _ (up _ _ (N p hp).1), (N p hp).2⟩)
    (Off3.of fun p hp => by
      have : @LT.lt Nat _ p.1 s₁.heap.objs.size := Heap.lt_size (N p hp).1
      rw [hC, hgs]
      exact ⟨Nat.ne_of_lt this, @Nat.ne_of_lt p.1 _ (by omega), @Nat.ne_of_lt p.1 _ (by omega)⟩)
/-- a comprehension with two names over a list of lists of two, the ledger growing -/
theorem comp_pairL {Q : Value → Shared → Prop} (_F₀ : Fr h₀ L s.heap m) (hh : A.handled = none) (J : Nat → List Value → Led → Prop)
    (hclos : closureFor scope env = pure cl) (hcell : ∀ y ∈ scope.names, y.2 ≠ .cell) (hkind : scope.kind = .function)
    (hnames : ∀ y ∈ scope.names, y.2 = .local → scope.names.lookup y.1 = some .local) (hx : scope.names.lookup x = some .local) (hx₂ : scope.names.lookup x₂ = some .local) (hxx : x ≠ x₂)
    (h : wpAny (model prog w) A (eval iter env) (fun xv s₁ => Stop (∃ (ax : Addr) (its : Array Value) (k : Nat) (news : Led), xv = .ref ax ∧ Fr h₀ L s₁.heap m ∧ News h₀ L s₁.heap news ∧ its.size ≤ 1000 ∧ J 0 [] news ∧ (∀ i ys nw, J i ys nw → (ax, W.listOf its k) ∈ nw) ∧
      (∀ i ys nw v, i < its.size → J i ys nw → its[i]? = some v → ∃ q a b c, v = .ref q ∧ (q, W.listOf #[a, b] c) ∈ nw ∧
        ∀ I oI C oC D m₂ h tk (E' : Value → Shared → Prop), NsObj oC m₂ → m₂ x = some a → m₂ x₂ = some b → Fr h₀ L h m → News h₀ L h ((I, oI) :: (C, oC) :: (D, lst ys) :: nw) → Off3 I C D nw →
        wpAny (model prog w) A (eval elt (compEnvC scope cl C env)) (JEnd h₀ L m { s₁ with heap := h, toks := tk } I C D oI oC (lst ys) (fun y nw' => J (i + 1) (ys ++ [y]) nw')) E' { s₁ with heap := h, toks := tk }) ∧
      (∀ D ys nw h tk, J its.size ys nw → Fr h₀ L h m → News h₀ L h ((D, lst ys) :: nw) → Off1 D nw → Q (.ref D) { s₁ with heap := h, toks := tk }))) E s)
    (hs : ∀ x, foldedSetIterable iter env x = pure x) :
    wpAny (model prog w) A (eval (.ListComp elt [⟨.Tuple [.Name x px, .Name x₂ px₂] tk0 tp, iter, [], 0⟩] scope pos) env) Q E s := by
  rw [eval_ListComp]
  refine wpAny_comprehension_free (use := none) rfl hs hclos hkind hnames (wpAny_mono h (fun xv s₁ h₁ => ?_) fun _ _ e => e)
  obtain ⟨ax, its, k, news, rfl, F, N, hsz, hJ, src, step, fin⟩ := h₁.out
  refine pair_core hh J hcell hkind hx hx₂ hxx F N hsz hJ src step fun D C h tk m' ys nw a b c d e f1 f2 f3 f4 => ⟨m', e, fun h'' hs'' => fin _ _ nw h'' tk a (b.change hs'' f2 f1) (fun p hp => ?_) d⟩
  refine ⟨hs''.extBut _ _ ?_ (c p hp).1, (c p hp).2⟩
  rcases List.mem_cons.mp hp with rfl | hp
  · exact f3
  · exact f4 p hp
theorem acomp_pairL {y : Str} {py spos : Pos} {Q : Flow → Shared → Prop} (hLe : env.locals = L) (hsw : swapsWith (.ListComp elt [⟨.Tuple [.Name x px, .Name x₂ px₂] tk0 tp, iter, [], 0⟩] scope pos) (some (.Name y py)) spos.line env = pure true) (hy : env.kindOf y = some .local) (hp : (env.scope.kind == .class || (env.scope.kind == .module && env.locals != env.globals)) = false) (_F₀ : Fr h₀ L s.heap m) (hh : A.handled = none) (J : Nat → List Value → Led → Prop)
    (hclos : closureFor scope env = pure cl) (hcell : ∀ y ∈ scope.names, y.2 ≠ .cell) (hkind : scope.kind = .function)
    (hnames : ∀ y ∈ scope.names, y.2 = .local → scope.names.lookup y.1 = some .local) (hx : scope.names.lookup x = some .local) (hx₂ : scope.names.lookup x₂ = some .local) (hxx : x ≠ x₂)
    (h : wpAny (model prog w) A (eval iter env) (fun xv s₁ => Stop (∃ (ax : Addr) (its : Array Value) (k : Nat) (news : Led), xv = .ref ax ∧ Fr h₀ L s₁.heap m ∧ News h₀ L s₁.heap news ∧ its.size ≤ 1000 ∧ J 0 [] news ∧ (∀ i ys nw, J i ys nw → (ax, W.listOf its k) ∈ nw) ∧
      (∀ i ys nw v, i < its.size → J i ys nw → its[i]? = some v → ∃ q a b c, v = .ref q ∧ (q, W.listOf #[a, b] c) ∈ nw ∧
        ∀ I oI C oC D m₂ h tk (E' : Value → Shared → Prop), NsObj oC m₂ → m₂ x = some a → m₂ x₂ = some b → Fr h₀ L h m → News h₀ L h ((I, oI) :: (C, oC) :: (D, lst ys) :: nw) → Off3 I C D nw →
        wpAny (model prog w) A (eval elt (compEnvC scope cl C env)) (JEnd h₀ L m { s₁ with heap := h, toks := tk } I C D oI oC (lst ys) (fun y nw' => J (i + 1) (ys ++ [y]) nw')) E' { s₁ with heap := h, toks := tk }) ∧
      (∀ D ys nw h tk, J its.size ys nw → Fr h₀ L h (fun z => if z = y then some (.ref D) else m z) → News h₀ L h ((D, lst ys) :: nw) → Off1 D nw → Q .next { s₁ with heap := h, toks := tk }))) E s)
    (hs : ∀ x, foldedSetIterable iter env x = pure x) :
    wpAny (model prog w) A (exec (.Assign [.Name y py] (.ListComp elt [⟨.Tuple [.Name x px, .Name x₂ px₂] tk0 tp, iter, [], 0⟩] scope pos) spos) env) Q E s := by
  subst hLe
  rw [exec_Assign_Name_used _ _ _ _ hsw]
  refine wpAny_bind (wpAny_standAt (wpAny_bind ?_))
  show wpAny _ A (do let _ ← comprehension (.ListComp elt [⟨.Tuple [.Name x px, .Name x₂ px₂] tk0 tp, iter, [], 0⟩] scope pos) scope env _ (newList []) false (eval iter env) (some (assign (.Name y py) env))) _ _ s
  refine wpAny_bind (wpAny_mono (wpAny_comprehension_free (use := some (assign (.Name y py) env)) (Q := fun _ s' => Q .next s') rfl hs hclos hkind hnames
    (wpAny_mono h (fun xv s₁ h₁ => ?_) fun _ _ e => e)) (fun _ s' hq => wpAny_pure (wpAny_pure hq)) fun _ _ e => e)
  obtain ⟨ax, its, k, news, rfl, F, N, hsz, hJ, src, step, fin⟩ := h₁.out
  refine pair_core hh J hcell hkind hx hx₂ hxx F N hsz hJ src step fun D C h tk m' ys nw a b c d e f1 f2 f3 f4 => ?_
  show wpAny _ A (assign (.Name y py) env (.ref D)) _ _ _
  refine wpAny_assign_Name (wpAny_storeName_local hy b.ns (fun h₂ hn₂ hs₂ => ?_) hp)
  have hL₀ : h₀.get? env.locals = none := Heap.get?_none_of_le b.above
  have F₂ : Fr h₀ env.locals h₂ (fun z => if z = y then some (.ref D) else m z) := ⟨hn₂, fun b' o e => hs₂.extBut b' o (fun q => by rw [q, hL₀] at e; cases e) (b.keep b' o e), b.above⟩
  refine ⟨m', e.sameBut hs₂ f2, fun h'' hs'' => fin D _ nw h'' _ a (F₂.change hs'' f2 f1) (fun p hp => ?_) d⟩
  have z : h₂.get? p.1 = some p.2 := hs₂.extBut _ _ (c p hp).2.1 (c p hp).1
  refine ⟨hs''.extBut _ _ ?_ z, (c p hp).2⟩
  rcases List.mem_cons.mp hp with rfl | hp
  · exact f3
  · exact f4 p hp
end
end
end
section
open PyProof.Rows.LCg PyProof.Rows.LCt PyProof.Rows.LCp
inductive TW where
  | no
  | tx (y : Str)
  | ns (n : Int)
noncomputable def TW.dat : TW → PyData
  | .no => .none
  | .tx y => .str y
  | .ns n => .list [.int n]
noncomputable def TVal (led : Led) : TW → Value → Prop
  | .no, v => v = .none
  | .tx y, v => ∃ t, v = .str y t
  | .ns n, v => ∃ r t c, v = .ref r ∧ (r, W.listOf #[.int n t] c) ∈ led
theorem TVal.mono {led led' : Led} {x : TW} {v : Value} (k : ∀ p ∈ led, p ∈ led') (h : TVal led x v) : TVal led' x v := by
  cases x with
  | no => exact h
  | tx y => exact h
  | ns n => obtain ⟨r, t, c, e, hm⟩ := h; exact ⟨r, t, c, e, k _ hm⟩
theorem TVal.reads {led : Led} {h₀ h : Heap} {L : Addr} {x : TW} {v : Value} (N : News h₀ L h led) (q : TVal led x v) : ∃ as, Reads h v x.dat as := by
  cases x with
  | no => cases q; exact ⟨_, .none⟩
  | tx y => obtain ⟨t, rfl⟩ := q; exact ⟨_, .str y t⟩
  | ns n => obtain ⟨r, t, c, rfl, hm⟩ := q; exact ⟨_, .list (N _ hm).1 rfl rfl (.cons (.int n t) .nil)⟩
noncomputable def TW.ok (x : TW) : Bool := x.dat.canLay0
theorem eqv_same (a : TW) : PyData.eqv a.dat a.dat = true := by
  cases a with
  | no => rfl
  | tx y => show (y == y) = true; simp
  | ns n => show ((n == n) && true) = true; simp
noncomputable def wOf : Option Str → TW
  | none => .no
  | some y => .tx y
theorem TVal.vo {led : Led} (o : Option Str) (t : Tok) : TVal led (wOf o) (vo o t) := by
  cases o with
  | none => rfl
  | some y => exact ⟨t, rfl⟩
theorem TVal.vo_of {led : Led} {o : Option Str} {v : Value} (h : TVal led (wOf o) v) : ∃ t, v = Il.vo o t := by
  cases o with
  | none => exact ⟨0, h⟩
  | some y => exact h
structure PT where
  ty : Option Str
  w : TW
noncomputable def ptOf (k f6 f7 : Nat) (p : Option Str × Option Str) : PT :=
  match p.1 with
  | some x => if f6 = k + 5 then ⟨some (brd x f7), .ns (barW f7)⟩ else ⟨some x, wOf p.2⟩
  | none => ⟨none, wOf p.2⟩
inductive PartsT (a b d : PT) : Value → Led → Prop
  | mk (tl : Led) (P q0 q1 q2 : Addr) (c c0 c1 c2 : Nat) (t0 t1 t2 : Tok) (b0 b1 b2 : Value) (m0 : (P, W.listOf #[.ref q0, .ref q1, .ref q2] c) ∈ tl) (m1 : (q0, W.listOf #[vo a.ty t0, b0] c0) ∈ tl) (m2 : (q1, W.listOf #[vo b.ty t1, b1] c1) ∈ tl) (m3 : (q2, W.listOf #[vo d.ty t2, b2] c2) ∈ tl)
      (T0 : TVal tl a.w b0) (T1 : TVal tl b.w b1) (T2 : TVal tl d.w b2) : PartsT a b d (.ref P) tl
theorem pt_plain {k f6 f7 : Nat} {p : Option Str × Option Str} (h : f6 ≠ k + 5 ∨ p.1 = none) : ptOf k f6 f7 p = ⟨p.1, wOf p.2⟩ := by
  unfold ptOf
  rcases p with ⟨x, y⟩
  cases x with
  | none => rfl
  | some x =>
    rcases h with h | h
    · simp only [if_neg h]
    · cases h
theorem pt_bar {k f6 f7 : Nat} {p : Option Str × Option Str} {x : Str} (h : f6 = k + 5) (hx : p.1 = some x) : ptOf k f6 f7 p = ⟨some (brd x f7), .ns (barW f7)⟩ := by
  unfold ptOf
  rw [hx]
  simp only [if_pos h]
theorem parts_T {f6 f7 : Nat} {p0 p1 p2 : Option Str × Option Str} {v : Value} {tl : Led} (h : PartsIs f6 f7 p0 p1 p2 v tl) : PartsT (ptOf 0 f6 f7 p0) (ptOf 1 f6 f7 p1) (ptOf 2 f6 f7 p2) v tl := by
  rcases h with ⟨k, x, e, hk, hB⟩ | ⟨e, hU⟩
  · cases hB with
    | mk0 =>
      have hx : p0.1 = some x := by rcases hk with ⟨_, h⟩ | ⟨h, _⟩ | ⟨h, _⟩ <;> first | exact h | cases h
      rw [pt_bar (k := 0) e hx, pt_plain (k := 1) (.inl (by rw [e]; decide)), pt_plain (k := 2) (.inl (by rw [e]; decide))]
      exact .mk _ _ _ _ _ _ _ _ _ _ _ _ _ _ _ (.head _) (.tail _ (.tail _ (.head _))) (.tail _ (.tail _ (.tail _ (.head _)))) (.tail _ (.tail _ (.tail _ (.tail _ (.head _))))) ⟨_, _, _, rfl, .tail _ (.head _)⟩ (.vo _ _) (.vo _ _)
    | mk1 =>
      have hx : p1.1 = some x := by rcases hk with ⟨h, _⟩ | ⟨_, h⟩ | ⟨h, _⟩ <;> first | exact h | cases h
      rw [pt_bar (k := 1) e hx, pt_plain (k := 0) (.inl (by rw [e]; decide)), pt_plain (k := 2) (.inl (by rw [e]; decide))]
      exact .mk _ _ _ _ _ _ _ _ _ _ _ _ _ _ _ (.head _) (.tail _ (.tail _ (.head _))) (.tail _ (.tail _ (.tail _ (.head _)))) (.tail _ (.tail _ (.tail _ (.tail _ (.head _))))) (.vo _ _) ⟨_, _, _, rfl, .tail _ (.head _)⟩ (.vo _ _)
    | mk2 =>
      have hx : p2.1 = some x := by rcases hk with ⟨h, _⟩ | ⟨h, _⟩ | ⟨_, h⟩ <;> first | exact h | cases h
      rw [pt_bar (k := 2) e hx, pt_plain (k := 0) (.inl (by rw [e]; decide)), pt_plain (k := 1) (.inl (by rw [e]; decide))]
      exact .mk _ _ _ _ _ _ _ _ _ _ _ _ _ _ _ (.head _) (.tail _ (.tail _ (.head _))) (.tail _ (.tail _ (.tail _ (.head _)))) (.tail _ (.tail _ (.tail _ (.tail _ (.head _))))) (.vo _ _) (.vo _ _) ⟨_, _, _, rfl, .tail _ (.head _)⟩
  · have ne : ∀ {k : Nat}, f6 < 5 → f6 ≠ k + 5 := fun h e => absurd h (by omega)
    have ee : ∀ {j k : Nat}, f6 = j + 5 → j ≠ k → f6 ≠ k + 5 := fun h g e => g (by omega)
    have e0 : f6 ≠ 0 + 5 ∨ p0.1 = none := by rcases e with e | ⟨_, h⟩ | ⟨e, _⟩ | ⟨e, _⟩ <;> first | exact .inr h | exact .inl (ne e) | exact .inl (ee (j := 1) e (by decide)) | exact .inl (ee (j := 2) e (by decide))
    have e1 : f6 ≠ 1 + 5 ∨ p1.1 = none := by rcases e with e | ⟨e, _⟩ | ⟨_, h⟩ | ⟨e, _⟩ <;> first | exact .inr h | exact .inl (ne e) | exact .inl (ee (j := 0) e (by decide)) | exact .inl (ee (j := 2) e (by decide))
    have e2 : f6 ≠ 2 + 5 ∨ p2.1 = none := by rcases e with e | ⟨e, _⟩ | ⟨e, _⟩ | ⟨_, h⟩ <;> first | exact .inr h | exact .inl (ne e) | exact .inl (ee (j := 0) e (by decide)) | exact .inl (ee (j := 1) e (by decide))
    rw [pt_plain e0, pt_plain e1, pt_plain e2]
    cases hU with
    | mk => exact .mk _ _ _ _ _ _ _ _ _ _ _ _ _ _ _ (.head _) (.tail _ (.head _)) (.tail _ (.tail _ (.head _))) (.tail _ (.tail _ (.tail _ (.head _)))) (.vo _ _) (.vo _ _) (.vo _ _)
theorem Says.mono {w : World} {mg mb : Str → Option Value} {loose : List Str} {ad : Str → Addr} {x : Str} {d u : Nat} {vs : List Value} {news : Led} {p p' : Value → Led → Prop} (h : Says w mg mb loose ad x d u vs news p) (k : ∀ v tl, p v tl → p' v tl) : Says w mg mb loose ad x d u vs news p' :=
  ⟨fun dp un gd cn cs a ccd cl outer A₀ base h₀ L m s Q E B F g N hk hd hu ret => h.run dp un gd cn cs a ccd cl outer A₀ base h₀ L m s Q E B F g N hk hd hu fun r tl h' tk' F' N' o hp => ret r tl h' tk' F' N' o (k _ _ hp)⟩
noncomputable def PartOk (H : Nat → Bool) (p : PT) : Prop := p.w.ok = true ∧ ∀ x, p.ty = some x → x.length ≤ 1000 ∧ ((keepL x.cps.toList).map (·.length)).sum + (keepL x.cps.toList).length ≤ 1000 ∧ (Txt.join (Str.ofString "") (keepL x.cps.toList)).length ≤ 1000 ∧
  (refL H (prep x).cps.toList = [] ∧ p.w = .tx (prep x) ∨ ∃ n, refL H (prep x).cps.toList = [n] ∧ p.w = .ns n)
theorem prep_T {H : Nat → Bool} {p : PT} {x : Str} {v : Value} {tl : Led} (hp : PartOk H p) (hx : p.ty = some x) (h : PrepIs H x v tl) : TVal tl p.w v := by
  obtain ⟨_, _, _, h4⟩ := hp.2 x hx
  rcases h4 with ⟨e, hw⟩ | ⟨n, e, hw⟩
  · rcases h with ⟨_, ⟨k, rfl⟩, _⟩ | ⟨ne, _⟩
    · rw [hw]; exact ⟨k, rfl⟩
    · exact absurd e ne
  · rcases h with ⟨e', _⟩ | ⟨_, q, vs, c, rfl, rfl, hi⟩
    · rw [e] at e'; cases e'
    · rw [hw]
      rw [e] at hi
      cases hi with
      | cons n t r => cases r; exact ⟨q, t, c, rfl, List.mem_singleton.mpr rfl⟩
noncomputable def forB : List Stmt := match ((fbody 35)[3]?).getD (.Pass ⟨0, 0, 0, 0⟩) with | Stmt.For _ _ b _ _ => b | _ => []
noncomputable def stL (i : Nat) : Stmt := (forB[i]?).getD (.Pass ⟨0, 0, 0, 0⟩)
section
variable {w : World} {mg mb : Str → Option Value} {loose : List Str} {ad : Str → Addr} {led : Led}
theorem Fin3 {P : Nat → Prop} (h0 : P 0) (h1 : P 1) (h2 : P 2) : ∀ i, i < 3 → P i := by
  intro i hi
  rcases (by omega : i = 0 ∨ i = 1 ∨ i = 2) with rfl | rfl | rfl
  · exact h0
  · exact h1
  · exact h2
theorem off1_mem {D : Addr} : ∀ {l : Led}, Off1 D l → ∀ p ∈ l, @Ne Nat p.1 D
  | [], _, _, h => nomatch h
  | _ :: _, h, p, hp => by
    rcases List.mem_cons.mp hp with rfl | hp
    · exact h.1
    · exact off1_mem h.2 p hp
inductive S1 (g : Heap) (L : Addr) (s₁ : Shared) (K : List (Str × Value)) (a b d : PT) (led : Led) : Flow → Shared → Prop
  | mk (h' : Heap) (tk : Nat) (m' : Str → Option Value) (led1 : Led) (P q0 q1 q2 : Addr) (c c0 c1 c2 : Nat) (t0 t1 t2 : Tok) (b0 b1 b2 : Value) (hF : Fr g L h' m') (hV : AgreeV m' (("parts", .ref P) :: K))
      (hN : News g L h' led1) (hP : (P, W.listOf #[.ref q0, .ref q1, .ref q2] c) ∈ led1) (i0 : (q0, W.listOf #[vo a.ty t0, b0] c0) ∈ led1) (i1 : (q1, W.listOf #[vo b.ty t1, b1] c1) ∈ led1) (i2 : (q2, W.listOf #[vo d.ty t2, b2] c2) ∈ led1) (sub : ∀ p ∈ led, p ∈ led1)
      (T0 : TVal led1 a.w b0) (T1 : TVal led1 b.w b1) (T2 : TVal led1 d.w b2) : S1 g L s₁ K a b d led .next { s₁ with heap := h', toks := tk }
local macro_rules | `(tactic| walk_at $s) => ml s "
 call ref => R Says.use ?h ?B ?F ?g ?N rfl ?hd ?hu ?_; c h assumption B assumption F k_asm g assumption N k_asm hd @lim hu @lim"
theorem law_st0 {st : Stmt} (hst : st = stL 0) {a b d : PT} {fg RL : Addr} {dp un : Nat} {gd : Option (List Code)} {cd : Value} {A₀ : Around} {base g : Heap} {L : Addr} {s : Shared} {m : Str → Option Value}
    (HP : Says w mg mb loose ad "_law_parts" 100 102 [.ref fg] led (PartsT a b d)) (B : Below A₀ base [] g) (GG : G w mg mb loose ad g) (hd : dp + 300 < recursionLimit) (hu : un + 300 < cLine) (KX : Frag.In [] g)
    (F1 : Fr g L s.heap (over [("figures", .ref fg), ("rows", .ref RL)] m)) (N1 : News g L s.heap led) :
    wpAny (model prog w) (ktrTop dp un gd (fname 35) (fscope 35) L (ad "law") cd [("places", L + 3), ("names", L + 2), ("order", L + 1)] []) (exec st (envX (fname 35) (fscope 35) L (ad "law") cd [("places", L + 3), ("names", L + 2), ("order", L + 1)])) (S1 g L s [("rows", .ref RL)] a b d led) (fun _ _ => False) s := by
  subst hst
  conv in stL 0 => dsimp only [stL, forB, fbody, stm, prog, PySem.Challenge.pw_il0214_01, List.getElem?_cons_succ, List.getElem?_cons_zero, Option.getD_some]
  refine @gq _ _ _ _ _ _ _ fun Q' hQ' => ?_
  k_steps
  rename_i r tl h1 tk1 o1 hp h2 F' N'
  obtain ⟨tl, P, q0, q1, q2, c, c0, c1, c2, t0, t1, t2, b0, b1, b2, m0, m1, m2, m3, T0, T1, T2⟩ := hp
  have M := fun p hp => List.mem_append_left led (as := tl) (a := p) hp
  refine hQ' _ _ ?_; exact .mk _ _ _ (tl ++ led) P q0 q1 q2 c c0 c1 c2 t0 t1 t2 b0 b1 b2 F' (.cons (by repeat (first | exact if_pos rfl | refine (if_neg (by decide +kernel)).trans ?_ | with_unfolding_all rfl)) (.cons (by repeat (first | exact if_pos rfl | refine (if_neg (by decide +kernel)).trans ?_ | with_unfolding_all rfl)) .nil)) N' (M _ m0) (M _ m1) (M _ m2) (M _ m3) (fun p hp => List.mem_append_right _ hp) (T0.mono M) (T1.mono M) (T2.mono M)
inductive S2 (g : Heap) (L : Addr) (s₁ : Shared) (K : List (Str × Value)) (b0 b1 b2 : Value) (led : Led) : Flow → Shared → Prop
  | mk (h' : Heap) (tk : Nat) (m' : Str → Option Value) (led2 : Led) (WA : Addr) (hF : Fr g L h' m') (hV : AgreeV m' (("words", .ref WA) :: K)) (hN : News g L h' led2) (iW : (WA, W.listOf #[b0, b1, b2] 3) ∈ led2) (sub : ∀ p ∈ led, p ∈ led2) (ho : ∀ p ∈ led, @Ne Nat p.1 WA) : S2 g L s₁ K b0 b1 b2 led .next { s₁ with heap := h', toks := tk }
theorem law_st1 {st : Stmt} (hst : st = stL 1) {P q0 q1 q2 RL : Addr} {c c0 c1 c2 : Nat} {a0 a1 a2 b0 b1 b2 : Value} {dp un : Nat} {gd : Option (List Code)} {cd : Value} {A₀ : Around} {base g : Heap} {L : Addr} {s : Shared} {m : Str → Option Value}
    (B : Below A₀ base [] g) (GG : G w mg mb loose ad g) (KX : Frag.In [] g)
    (hP : (P, W.listOf #[.ref q0, .ref q1, .ref q2] c) ∈ led) (h0 : (q0, W.listOf #[a0, b0] c0) ∈ led) (h1 : (q1, W.listOf #[a1, b1] c1) ∈ led) (h2 : (q2, W.listOf #[a2, b2] c2) ∈ led)
    (F1 : Fr g L s.heap (over [("parts", .ref P), ("rows", .ref RL)] m)) (N1 : News g L s.heap led) :
    wpAny (model prog w) (ktrTop dp un gd (fname 35) (fscope 35) L (ad "law") cd [("places", L + 3), ("names", L + 2), ("order", L + 1)] []) (exec st (envX (fname 35) (fscope 35) L (ad "law") cd [("places", L + 3), ("names", L + 2), ("order", L + 1)])) (S2 g L s [("parts", .ref P), ("rows", .ref RL)] b0 b1 b2 led) (fun _ _ => False) s := by
  subst hst
  conv in stL 1 => dsimp only [stL, forB, fbody, stm, prog, PySem.Challenge.pw_il0214_01, List.getElem?_cons_succ, List.getElem?_cons_zero, Option.getD_some]
  refine @gq _ _ _ _ _ _ _ fun Q' hQ' => ?_
  refine acomp_pairL (L := L) rfl (by with_unfolding_all rfl) (by rfl) (by rfl) F1 rfl (fun i ys nw => nw = led ∧ ys = [b0, b1, b2].take i) rfl (by decide) rfl (by decide) rfl rfl (by decide) ?_ (fun _ => rfl)
  k_steps
  refine ⟨⟨P, #[.ref q0, .ref q1, .ref q2], c, led, rfl, F1, N1, (by show 3 ≤ 1000; decide), ⟨rfl, rfl⟩, (fun i ys nw h => h.1 ▸ hP), ?_, ?_⟩⟩
  · rintro i ys nw v hi ⟨e1, rfl⟩ hv
    subst e1
    rcases (by have : i < 3 := hi; omega : i = 0 ∨ i = 1 ∨ i = 2) with rfl | rfl | rfl
    · cases hv
      refine ⟨q0, a0, b0, c0, rfl, h0, ?_⟩
      intro I oI C oC D m₂ h tk E' hC hx hy F N off
      k_steps
      exact ⟨_, _, _, rfl, by k_asm, by k_asm, off, rfl, rfl⟩
    · cases hv
      refine ⟨q1, a1, b1, c1, rfl, h1, ?_⟩
      intro I oI C oC D m₂ h tk E' hC hx hy F N off
      k_steps
      exact ⟨_, _, _, rfl, by k_asm, by k_asm, off, rfl, rfl⟩
    · cases hv
      refine ⟨q2, a2, b2, c2, rfl, h2, ?_⟩
      intro I oI C oC D m₂ h tk E' hC hx hy F N off
      k_steps
      exact ⟨_, _, _, rfl, by k_asm, by k_asm, off, rfl, rfl⟩
  · rintro D ys nw h tk ⟨e1, rfl⟩ F N o
    subst e1
    refine hQ' _ _ ?_; exact .mk _ _ _ _ D F (.cons (by repeat (first | exact if_pos rfl | refine (if_neg (by decide +kernel)).trans ?_ | with_unfolding_all rfl)) (.cons (by repeat (first | exact if_pos rfl | refine (if_neg (by decide +kernel)).trans ?_ | with_unfolding_all rfl)) (.cons (by repeat (first | exact if_pos rfl | refine (if_neg (by decide +kernel)).trans ?_ | with_unfolding_all rfl)) .nil))) N (.head _) (fun p hp => .tail _ hp) (off1_mem o)
inductive TVals (led : Led) : List TW → List Value → Prop
  | nil : TVals led [] []
  | cons {x : TW} {v : Value} {xs : List TW} {vs : List Value} : TVal led x v → TVals led xs vs → TVals led (x :: xs) (v :: vs)
theorem TVals.mono {led led' : Led} (k : ∀ p ∈ led, p ∈ led') {xs : List TW} {vs : List Value} (h : TVals led xs vs) : TVals led' xs vs := by
  induction h with
  | nil => exact .nil
  | cons a _ ih => exact .cons (a.mono k) ih
theorem TVals.snoc {led : Led} {xs : List TW} {vs : List Value} {x : TW} {v : Value} (h : TVals led xs vs) (a : TVal led x v) : TVals led (xs ++ [x]) (vs ++ [v]) := by
  induction h with
  | nil => exact .cons a .nil
  | cons b _ ih => exact .cons b ih
theorem TVals.three {led : Led} {x y z : TW} {vs : List Value} (h : TVals led [x, y, z] vs) : ∃ a b c, vs = [a, b, c] ∧ TVal led x a ∧ TVal led y b ∧ TVal led z c := by
  cases h with
  | cons a h => cases h with
    | cons b h => cases h with
      | cons c h => cases h; exact ⟨_, _, _, rfl, a, b, c⟩
inductive S3 (g : Heap) (L : Addr) (s₁ : Shared) (K : List (Str × Value)) (a b d : PT) (led : Led) : Flow → Shared → Prop
  | mk (h' : Heap) (tk : Nat) (m' : Str → Option Value) (led3 : Led) (D : Addr) (t0 t1 t2 : Value) (hF : Fr g L h' m') (hV : AgreeV m' (("told", .ref D) :: K)) (hN : News g L h' led3) (iD : (D, W.listOf #[t0, t1, t2] 3) ∈ led3) (sub : ∀ p ∈ led, p ∈ led3) (ho : ∀ p ∈ led, @Ne Nat p.1 D) (T0 : TVal led3 a.w t0) (T1 : TVal led3 b.w t1) (T2 : TVal led3 d.w t2) : S3 g L s₁ K a b d led .next { s₁ with heap := h', toks := tk }
local macro_rules | `(tactic| walk_at $s) => ml s "
 call ref => R Says.use ( prep_says ?H ?h _ _ ?h1 ?h2 ?h3 ) ?B ?F ?g ?N rfl ?hd ?hu ?_; c h hyp h1 assumption h2 assumption h3 assumption B assumption F k_asm g assumption N k_asm hd @lim hu @lim"
theorem off_app {I C D : Addr} {nw tl : Led} (o : Off3 I C D nw) (h : ∀ p ∈ tl, (@LT.lt Nat _ I p.1) ∧ (@LT.lt Nat _ C p.1) ∧ @LT.lt Nat _ D p.1) : Off3 I C D (tl ++ nw) :=
  Off3.of fun p hp => by
    rcases List.mem_append.mp hp with hp | hp
    · obtain ⟨a, b, c⟩ := h p hp
      exact ⟨@Nat.ne_of_gt p.1 _ a, @Nat.ne_of_gt p.1 _ b, @Nat.ne_of_gt p.1 _ c⟩
    · exact o.mem p hp
theorem told_step {H : Nat → Bool} (hH : ∀ c, H c = inC4 c) {p : PT} (hp : PartOk H p) {t : Tok} {bv : Value} {P RL WA : Addr} {dp un : Nat} {gd : Option (List Code)} {cd : Value} {A₀ : Around} {base g : Heap} {L : Addr} {s : Shared} {m : Str → Option Value} {nw : Led} {ws : List TW} {elt : Expr} {scope : Scope}
    (he : elt = match stL 2 with | .Assign _ (.ListComp e _ _ _) _ => e | _ => .Constant .none 0 ⟨0, 0, 0, 0⟩) (hs : scope = match stL 2 with | .Assign _ (.ListComp _ _ s _) _ => s | _ => fscope 0)
    (B : Below A₀ base [] g) (GG : G w mg mb loose ad g) (hd : dp + 300 < recursionLimit) (hu : un + 300 < cLine) (KX : Frag.In [] g)
    {ys : List Value} (T : TVals (nw ++ led) ws ys) (hb : TVal (nw ++ led) p.w bv)
    {I : Addr} {oI : Obj} {C : Addr} {oC : Obj} {D : Addr} {m₂ : Str → Option Value} {h : Heap} {tk : Nat} {E' : Value → Shared → Prop} (hC : NsObj oC m₂) (hx : m₂ "typed" = some (vo p.ty t)) (hy : m₂ "word" = some bv) (F : Fr g L h (over [("words", .ref WA), ("parts", .ref P), ("rows", .ref RL)] m)) (N : News g L h ((I, oI) :: (C, oC) :: (D, lst ys) :: (nw ++ led))) (off : Off3 I C D (nw ++ led)) :
    wpAny (model prog w) (ktrTop dp un gd (fname 35) (fscope 35) L (ad "law") cd [("places", L + 3), ("names", L + 2), ("order", L + 1)] []) (eval elt (compEnvC scope [] C (envX (fname 35) (fscope 35) L (ad "law") cd [("places", L + 3), ("names", L + 2), ("order", L + 1)])))
      (JEnd g L (over [("words", .ref WA), ("parts", .ref P), ("rows", .ref RL)] m) { s with heap := h, toks := tk } I C D oI oC (lst ys) (fun y nw' => ∃ tl, nw' = tl ++ led ∧ TVals (tl ++ led) (ws ++ [p.w]) (ys ++ [y]))) E' { s with heap := h, toks := tk } := by
  subst he
  subst hs
  conv in stL 2 => dsimp only [stL, forB, fbody, stm, prog, PySem.Challenge.pw_il0214_01, List.getElem?_cons_succ, List.getElem?_cons_zero, Option.getD_some]
  conv in stL 2 => dsimp only [stL, forB, fbody, stm, prog, PySem.Challenge.pw_il0214_01, List.getElem?_cons_succ, List.getElem?_cons_zero, Option.getD_some]
  dsimp only
  generalize hl : nw ++ led = LL at *
  obtain ⟨ty, tw⟩ := p
  cases ty with
  | none =>
    dsimp only [vo] at hx
    k_steps
    exact ⟨_, _, _, rfl, by k_asm, by k_asm, off, nw, hl.symm, hl ▸ T.snoc hb⟩
  | some x =>
    dsimp only [vo] at hx
    obtain ⟨x1, x2, x3, _⟩ := hp.2 x rfl
    k_steps
    rename_i r tl h1 tk1 F' N' o1 hp'
    have T1 := prep_T hp rfl hp'
    have sub : ∀ q ∈ LL, q ∈ tl ++ LL := fun q hq => List.mem_append_right _ hq
    refine ⟨_, _, tl ++ LL, rfl, F', fun q hq => N' q ?_, off_app off fun q hq => ⟨o1 _ (.head _) q hq, o1 _ (.tail _ (.head _)) q hq, o1 _ (.tail _ (.tail _ (.head _))) q hq⟩, tl ++ nw, by rw [← hl, List.append_assoc], ?_⟩
    · revert hq; revert q
      exact all_cons (List.mem_append_right _ (.head _)) (all_cons (List.mem_append_right _ (.tail _ (.head _))) (all_cons (List.mem_append_right _ (.tail _ (.tail _ (.head _)))) (all_app (fun q h => List.mem_append_left _ h) fun q h => List.mem_append_right _ (.tail _ (.tail _ (.tail _ h))))))
    · rw [List.append_assoc, hl]
      exact (T.mono sub).snoc (T1.mono fun q hq => List.mem_append_left _ hq)
theorem law_st2 {st : Stmt} (hst : st = stL 2) {H : Nat → Bool} (hH : ∀ c, H c = inC4 c) {P q0 q1 q2 RL WA : Addr} {c c0 c1 c2 : Nat} {a b d : PT} {u0 u1 u2 : Tok} {b0 b1 b2 : Value} {dp un : Nat} {gd : Option (List Code)} {cd : Value} {A₀ : Around} {base g : Heap} {L : Addr} {s : Shared} {m : Str → Option Value}
    (pa : PartOk H a) (pb : PartOk H b) (pd : PartOk H d) (B : Below A₀ base [] g) (GG : G w mg mb loose ad g) (hd : dp + 300 < recursionLimit) (hu : un + 300 < cLine) (KX : Frag.In [] g)
    (hP : (P, W.listOf #[.ref q0, .ref q1, .ref q2] c) ∈ led) (h0 : (q0, W.listOf #[vo a.ty u0, b0] c0) ∈ led) (h1 : (q1, W.listOf #[vo b.ty u1, b1] c1) ∈ led) (h2 : (q2, W.listOf #[vo d.ty u2, b2] c2) ∈ led)
    (T0 : TVal led a.w b0) (T1 : TVal led b.w b1) (T2 : TVal led d.w b2)
    (F1 : Fr g L s.heap (over [("words", .ref WA), ("parts", .ref P), ("rows", .ref RL)] m)) (N1 : News g L s.heap led) :
    wpAny (model prog w) (ktrTop dp un gd (fname 35) (fscope 35) L (ad "law") cd [("places", L + 3), ("names", L + 2), ("order", L + 1)] []) (exec st (envX (fname 35) (fscope 35) L (ad "law") cd [("places", L + 3), ("names", L + 2), ("order", L + 1)])) (S3 g L s [("words", .ref WA), ("rows", .ref RL)] a b d led) (fun _ _ => False) s := by
  subst hst
  have stp := @told_step w mg mb loose ad led H hH
  have e1 : stL 2 = stL 2 := rfl
  conv at e1 => rhs; dsimp only [stL, forB, fbody, stm, prog, PySem.Challenge.pw_il0214_01, List.getElem?_cons_succ, List.getElem?_cons_zero, Option.getD_some]
  rw [e1]
  refine acomp_pairL (L := L) rfl (by with_unfolding_all rfl) (by rfl) (by rfl) F1 rfl (fun i ys nw => ∃ tl, nw = tl ++ led ∧ TVals (tl ++ led) ([a.w, b.w, d.w].take i) ys) rfl (by decide) rfl (by decide) rfl rfl (by decide) ?_ (fun _ => rfl)
  k_steps
  refine ⟨⟨P, #[.ref q0, .ref q1, .ref q2], c, led, rfl, F1, N1, (by show 3 ≤ 1000; decide), ⟨[], rfl, .nil⟩, (fun i ys nw h => by obtain ⟨tl, rfl, _⟩ := h; exact List.mem_append_right _ hP), ?_, ?_⟩⟩
  · rintro i ys nw v hi ⟨tl, rfl, T⟩ hv
    rcases (by have : i < 3 := hi; omega : i = 0 ∨ i = 1 ∨ i = 2) with rfl | rfl | rfl
    · cases hv
      refine ⟨q0, _, b0, c0, rfl, List.mem_append_right _ h0, ?_⟩
      intro I oI C oC D m₂ h tk E' hC hx hy F N off
      exact stp pa (by rw [e1]) (by rw [e1]) B GG hd hu KX T (T0.mono fun q hq => List.mem_append_right _ hq) hC hx hy F N off
    · cases hv
      refine ⟨q1, _, b1, c1, rfl, List.mem_append_right _ h1, ?_⟩
      intro I oI C oC D m₂ h tk E' hC hx hy F N off
      exact stp pb (by rw [e1]) (by rw [e1]) B GG hd hu KX T (T1.mono fun q hq => List.mem_append_right _ hq) hC hx hy F N off
    · cases hv
      refine ⟨q2, _, b2, c2, rfl, List.mem_append_right _ h2, ?_⟩
      intro I oI C oC D m₂ h tk E' hC hx hy F N off
      exact stp pd (by rw [e1]) (by rw [e1]) B GG hd hu KX T (T2.mono fun q hq => List.mem_append_right _ hq) hC hx hy F N off
  · rintro D ys nw h tk ⟨tl, rfl, T⟩ F N o
    obtain ⟨t0, t1, t2, rfl, x0, x1, x2⟩ := TVals.three T
    exact .mk _ _ _ _ D t0 t1 t2 F (.cons (by repeat (first | exact if_pos rfl | refine (if_neg (by decide +kernel)).trans ?_ | with_unfolding_all rfl)) (.cons (by repeat (first | exact if_pos rfl | refine (if_neg (by decide +kernel)).trans ?_ | with_unfolding_all rfl)) (.cons (by repeat (first | exact if_pos rfl | refine (if_neg (by decide +kernel)).trans ?_ | with_unfolding_all rfl)) .nil))) N (.head _) (fun p hp => .tail _ (List.mem_append_right _ hp)) (fun p hp => off1_mem o p (List.mem_append_right _ hp)) (x0.mono fun p hp => .tail _ hp) (x1.mono fun p hp => .tail _ hp) (x2.mono fun p hp => .tail _ hp)
end
end
theorem fl_14 {M : Model} {A : Around} {E : Value → Shared → Prop} {s : Shared} {Q : Bool → Shared → Prop} {v : Value} (h : wpAny M A (truthy v) Q E s) : wpAny M A (truthy v) Q E s := by
  first
    | (walk1; done)
    | exact h
section
open PyProof.Rows.LCg PyProof.Rows.LCt PyProof.Rows.LCp
noncomputable def TW.isNs : TW → Bool
  | .ns _ => true
  | _ => false
section
variable {w : World} {mg mb : Str → Option Value} {loose : List Str} {ad : Str → Addr} {led : Led}
theorem TVals.reads {h₀ h : Heap} {L : Addr} (N : News h₀ L h led) {xs : List TW} {vs : List Value} (T : TVals led xs vs) : ∃ as, ReadsAll h vs (xs.map TW.dat) as := by
  induction T with
  | nil => exact ⟨_, .nil⟩
  | cons a _ ih =>
    obtain ⟨as, r⟩ := a.reads N
    obtain ⟨bs, r'⟩ := ih
    exact ⟨_, .cons r r'⟩
theorem lay_all : ∀ {xs : List TW}, (∀ x ∈ xs, x.ok = true) → PyData.canLayAll0 (xs.map TW.dat) = true
  | [], _ => rfl
  | x :: xs, h => by
    show (x.dat.canLay0 && PyData.canLayAll0 (xs.map TW.dat)) = true
    rw [show x.dat.canLay0 = true from h x (.head _), lay_all fun y hy => h y (.tail _ hy)]
    rfl
theorem dat_depth (x : TW) : x.dat.depth ≤ 1 := by
  cases x with
  | no => decide
  | tx y => exact Nat.zero_le _
  | ns n => exact Nat.le_refl _
theorem dat_depths : ∀ (xs : List TW), PyData.depthAll (xs.map TW.dat) ≤ 1
  | [] => Nat.zero_le _
  | x :: xs => Nat.max_le.mpr ⟨dat_depth x, dat_depths xs⟩
theorem shaped_tw {xs : List TW} (h : ∀ x ∈ xs, x.ok = true) : SeqAt.shaped (.list (xs.map TW.dat)) = true := by
  have h1 := lay_all h
  have h2 := dat_depths xs
  have h3 : (PyData.list (xs.map TW.dat)).depth ≤ 64 := by
    show PyData.depthAll (xs.map TW.dat) + 1 ≤ 64
    omega
  show ((PyData.canLayAll0 (xs.map TW.dat)) && decide _) = true
  rw [h1, decide_eq_true h3]; rfl
theorem eqvAll_same : ∀ (xs : List TW), PyData.eqvAll (xs.map TW.dat) (xs.map TW.dat) = true
  | [] => rfl
  | x :: xs => by
    show (PyData.eqv x.dat x.dat && PyData.eqvAll (xs.map TW.dat) (xs.map TW.dat)) = true
    rw [eqv_same, eqvAll_same xs]; rfl
theorem u64 {un : Nat} (h : un + 300 < cLine) : un + 64 < cLine := by omega
theorem ne_told {A : Around} {E : Value → Shared → Prop} {s : Shared} {h₀ : Heap} {L : Addr} {D WA : Addr} {ts bs : List Value} {k k' : Nat} {xs : List TW} {Q : Value → Shared → Prop} (N : News h₀ L s.heap led) (hD : (D, W.listOf ts.toArray k) ∈ led) (hW : (WA, W.listOf bs.toArray k') ∈ led)
    (T : TVals led xs ts) (T' : TVals led xs bs) (ok : ∀ x ∈ xs, x.ok = true) (hu : A.units + 64 < cLine) (h : Q (.bool false) s) : wpAny (model prog w) A (compareOp .NotEq (.ref D) (.ref WA)) Q E s := by
  obtain ⟨as, r⟩ := T.reads N
  obtain ⟨as', r'⟩ := T'.reads N
  refine ne_dataH (.list (N _ hD).1 rfl rfl r) (.list (N _ hW).1 rfl rfl r') (shaped_tw ok) (shaped_tw ok) hu ?_
  have e : PyData.eqv (.list (xs.map TW.dat)) (.list (xs.map TW.dat)) = true := eqvAll_same xs
  rw [e]; exact h
theorem ne_nil {A : Around} {E : Value → Shared → Prop} {s : Shared} {h₀ : Heap} {L : Addr} {D WA : Addr} {ts : List Value} {k k' : Nat} {xs : List TW} {news : Led} {Q : Value → Shared → Prop} (N : News h₀ L s.heap news) (hD : (D, W.listOf ts.toArray k) ∈ news) (hW : (WA, W.listOf #[] k') ∈ news)
    (T : TVals led xs ts) (sub : ∀ p ∈ led, p ∈ news) (ok : ∀ x ∈ xs, x.ok = true) (hu : A.units + 64 < cLine) (h : Q (.bool (!xs.isEmpty)) s) : wpAny (model prog w) A (compareOp .NotEq (.ref D) (.ref WA)) Q E s := by
  obtain ⟨as, r⟩ := (T.mono sub).reads N
  refine ne_dataH (.list (N _ hD).1 rfl rfl r) (.list (xs := []) (N _ hW).1 rfl rfl .nil) (shaped_tw ok) (by decide) hu ?_
  cases xs with
  | nil => exact h
  | cons x xs => exact h
inductive S4 (g : Heap) (L : Addr) (s₁ : Shared) (V : List (Str × Value)) (led : Led) : Flow → Shared → Prop
  | mk (h' : Heap) (tk : Nat) (m' : Str → Option Value) (hF : Fr g L h' m') (hV : AgreeV m' V) (hN : News g L h' led) : S4 g L s₁ V led .next { s₁ with heap := h', toks := tk }
local macro_rules | `(tactic| walk_at $s) => ml s "
 compareOp NotEq ref ref => R ne_told ?N ?a ?b ?T ?S ?o ?u ?_; c N k_asm a hyp b hyp T hyp S hyp o hyp u =u64~{assumption}"
theorem law_st3 {st : Stmt} (hst : st = stL 3) {RL WA D : Addr} {k k' : Nat} {xs : List TW} {ts bs : List Value} {dp un : Nat} {gd : Option (List Code)} {cd : Value} {A₀ : Around} {base g : Heap} {L : Addr} {s : Shared} {m : Str → Option Value}
    (B : Below A₀ base [] g) (GG : G w mg mb loose ad g) (hd : dp + 300 < recursionLimit) (hu : un + 300 < cLine) (KX : Frag.In [] g)
    (hD : (D, W.listOf ts.toArray k) ∈ led) (hW : (WA, W.listOf bs.toArray k') ∈ led) (T : TVals led xs ts) (T' : TVals led xs bs) (ok : ∀ x ∈ xs, x.ok = true)
    (F1 : Fr g L s.heap (over [("told", .ref D), ("words", .ref WA), ("rows", .ref RL)] m)) (N1 : News g L s.heap led) :
    wpAny (model prog w) (ktrTop dp un gd (fname 35) (fscope 35) L (ad "law") cd [("places", L + 3), ("names", L + 2), ("order", L + 1)] []) (exec st (envX (fname 35) (fscope 35) L (ad "law") cd [("places", L + 3), ("names", L + 2), ("order", L + 1)])) (S4 g L s [("told", .ref D), ("words", .ref WA), ("rows", .ref RL)] led) (fun _ _ => False) s := by
  subst hst
  conv in stL 3 => dsimp only [stL, forB, fbody, stm, prog, PySem.Challenge.pw_il0214_01, List.getElem?_cons_succ, List.getElem?_cons_zero, Option.getD_some]
  refine @gq _ _ _ _ _ _ _ fun Q' hQ' => ?_
  k_steps
  refine hQ' _ _ ?_; exact .mk _ _ _ F1 (.cons (by repeat (first | exact if_pos rfl | refine (if_neg (by decide +kernel)).trans ?_ | with_unfolding_all rfl)) (.cons (by repeat (first | exact if_pos rfl | refine (if_neg (by decide +kernel)).trans ?_ | with_unfolding_all rfl)) (.cons (by repeat (first | exact if_pos rfl | refine (if_neg (by decide +kernel)).trans ?_ | with_unfolding_all rfl)) .nil))) N1
inductive S5 (g : Heap) (L : Addr) (s₁ : Shared) (V : List (Str × Value)) (xs : List TW) (led : Led) : Flow → Shared → Prop
  | no (h' : Heap) (tk : Nat) (m' : Str → Option Value) (e : xs.any TW.isNs = false) (hF : Fr g L h' m') (hV : AgreeV m' V) (hN : News g L h' led) : S5 g L s₁ V xs led .next { s₁ with heap := h', toks := tk }
  | yes (h' : Heap) (tk : Nat) (m' : Str → Option Value) (e : xs.any TW.isNs = true) (hF : Fr g L h' m') (hV : AgreeV m' V) (hN : News g L h' led) : S5 g L s₁ V xs led .cont { s₁ with heap := h', toks := tk }
theorem isi_tw {A : Around} {E : Value → Shared → Prop} {s : Shared} {h₀ : Heap} {L : Addr} {x : TW} {v : Value} {news : Led} {Q : Value → Shared → Prop} (T : TVal led x v) (N : News h₀ L s.heap news) (k : ∀ p ∈ led, p ∈ news) (h : ∀ t, Q (.bool x.isNs) { s with toks := t }) :
    wpAny (model prog w) A (call (.builtin "isinstance") [v, .type "list"]) Q E s := by
  cases x with
  | no => cases T; exact IsiPair.NoneType_list (h _)
  | tx y => obtain ⟨t, rfl⟩ := T; exact IsiPair.str_list (h _)
  | ns n => obtain ⟨r, t, c, rfl, hm⟩ := T; exact IsiPair.list_list (N _ (k _ hm)).1 rfl (h _)
theorem any_filter {xs : List TW} : xs.any TW.isNs = !(xs.filter TW.isNs).isEmpty := by
  induction xs with
  | nil => rfl
  | cons x xs ih =>
    rw [List.any_cons, List.filter_cons]
    cases e : x.isNs with
    | true => rfl
    | false => simpa using ih
theorem filt_ok {xs : List TW} (ok : ∀ x ∈ xs, x.ok = true) : ∀ x ∈ xs.filter TW.isNs, x.ok = true := fun x hx => ok x (List.mem_filter.mp hx).1
local macro_rules | `(tactic| walk_at $s) => ml s "
 compareOp NotEq ref ref => R ne_nil ?N ?a ?b ?T ?k ?o ?u ?_; c N k_asm a k_mem b k_mem T hyp k sub o hyp u =u64~{assumption}
 call builtin:isinstance => R isi_tw ?T ?N ?k ?_; c T hyp N k_asm k hyp; i _
 eval ListComp => r Stop.out @p=_ ?_"
theorem law_st4 {st : Stmt} (hst : st = stL 4) {RL WA D : Addr} {k' : Nat} {x0 x1 x2 : TW} {b0 b1 b2 : Value} {dp un : Nat} {gd : Option (List Code)} {cd : Value} {A₀ : Around} {base g : Heap} {L : Addr} {s : Shared} {m : Str → Option Value}
    (B : Below A₀ base [] g) (GG : G w mg mb loose ad g) (hd : dp + 300 < recursionLimit) (hu : un + 300 < cLine) (KX : Frag.In [] g)
    (hW : (WA, W.listOf #[b0, b1, b2] k') ∈ led) (T0 : TVal led x0 b0) (T1 : TVal led x1 b1) (T2 : TVal led x2 b2) (ok : ∀ x ∈ [x0, x1, x2], x.ok = true)
    (F1 : Fr g L s.heap (over [("told", .ref D), ("words", .ref WA), ("rows", .ref RL)] m)) (N1 : News g L s.heap led) :
    wpAny (model prog w) (ktrTop dp un gd (fname 35) (fscope 35) L (ad "law") cd [("places", L + 3), ("names", L + 2), ("order", L + 1)] []) (exec st (envX (fname 35) (fscope 35) L (ad "law") cd [("places", L + 3), ("names", L + 2), ("order", L + 1)])) (S5 g L s [("told", .ref D), ("words", .ref WA), ("rows", .ref RL)] [x0, x1, x2] led) (fun _ _ => False) s := by
  subst hst
  conv in stL 4 => dsimp only [stL, forB, fbody, stm, prog, PySem.Challenge.pw_il0214_01, List.getElem?_cons_succ, List.getElem?_cons_zero, Option.getD_some]
  k_steps
  refine ⟨?_⟩
  refine comp_listT (L := L) F1 rfl (fun its i ys => TVals led (([x0, x1, x2].take i).filter TW.isNs) ys) rfl (by decide) rfl (by decide) rfl ?_ (fun _ => rfl)
  k_steps
  refine ⟨⟨WA, #[b0, b1, b2], k', led, rfl, F1, N1, (by show 3 ≤ 1000; decide), .nil, hW, ?_, ?_⟩⟩
  · intro i ys v I oI C oC D m₂ h tk E' hi T hv hC hx F N
    have sub : ∀ p ∈ led, p ∈ (I, oI) :: (C, oC) :: (D, lst ys) :: led := fun p hp => .tail _ (.tail _ (.tail _ hp))
    obtain ⟨x, Tx, hx'⟩ : ∃ x, TVal led x v ∧ [x0, x1, x2].take (i + 1) = [x0, x1, x2].take i ++ [x] := by
      rcases (by have : i < 3 := hi; omega : i = 0 ∨ i = 1 ∨ i = 2) with rfl | rfl | rfl
      · cases hv; exact ⟨x0, T0, rfl⟩
      · cases hv; exact ⟨x1, T1, rfl⟩
      · cases hv; exact ⟨x2, T2, rfl⟩
    clear hv hi
    k_steps
    · refine ⟨_, _, rfl, by k_asm, by k_asm, ?_⟩
      rw [hx', List.filter_append, List.filter_cons, if_pos (by assumption)]
      exact T.snoc Tx
    · refine ⟨_, _, rfl, by k_asm, by k_asm, ?_⟩
      rw [hx', List.filter_append, List.filter_cons, if_neg (by first | assumption | (rw [show x.isNs = false by assumption]; decide)), List.filter_nil, List.append_nil]
      exact T
  · intro D ys h tk T F N o
    have ok' := filt_ok ok
    have ha := any_filter (xs := [x0, x1, x2])
    have T' : TVals led ([x0, x1, x2].filter TW.isNs) ys := T
    clear T
    generalize [x0, x1, x2].filter TW.isNs = zs at *
    k_steps
    · exact .no _ _ _ (by rw [ha, (by assumption : zs.isEmpty = true)]; rfl) (by k_asm) (.cons (by repeat (first | exact if_pos rfl | refine (if_neg (by decide +kernel)).trans ?_ | with_unfolding_all rfl)) (.cons (by repeat (first | exact if_pos rfl | refine (if_neg (by decide +kernel)).trans ?_ | with_unfolding_all rfl)) (.cons (by repeat (first | exact if_pos rfl | refine (if_neg (by decide +kernel)).trans ?_ | with_unfolding_all rfl)) .nil))) (cb_drop (by assumption) (by show ∀ p ∈ led, _; kcj_all))
    · exact .yes _ _ _ (by rw [ha, (by assumption : zs.isEmpty = false)]; rfl) (by k_asm) (.cons (by repeat (first | exact if_pos rfl | refine (if_neg (by decide +kernel)).trans ?_ | with_unfolding_all rfl)) (.cons (by repeat (first | exact if_pos rfl | refine (if_neg (by decide +kernel)).trans ?_ | with_unfolding_all rfl)) (.cons (by repeat (first | exact if_pos rfl | refine (if_neg (by decide +kernel)).trans ?_ | with_unfolding_all rfl)) .nil))) (cb_drop (by assumption) (by show ∀ p ∈ led, _; kcj_all))
end
end
theorem fl_15 {M : Model} {A : Around} {E : Value → Shared → Prop} {s : Shared} {Q : Bool → Shared → Prop} {v : Value} (h : wpAny M A (truthy v) Q E s) : wpAny M A (truthy v) Q E s := by
  first
    | (walk1; done)
    | exact h
section
open PyProof.Rows.LCg PyProof.Rows.LCt PyProof.Rows.LCp
noncomputable def nameOf (l e m : Option Str) : Str := match m with | none => app (l.getD "C") "." e | some m => apm (app (l.getD "C") "." e) m
section
variable {w : World} {mg mb : Str → Option Value} {loose : List Str} {ad : Str → Addr} {news : Led}
inductive TurnTo (g : Heap) (L NL RL : Addr) (s₁ : Shared) (on : Obj) (nv rv : List Value) (news : Led) (nm : Str) (row : List Int) : Flow → Shared → Prop
  | mk (h' : Heap) (tk : Nat) (m' : Str → Option Value) (t : Tok) (nc rc : Nat) (p : Addr) (vs : List Value) (c : Nat) (hF : Fr g L h' m') (hV : AgreeV m' [("rows", .ref RL)]) (hI : IntsAre vs row) (hp : ∀ q ∈ news, q.1 < p)
      (hN : News g L h' ((NL, W.listOf (nv ++ [Value.str nm t]).toArray nc) :: (RL, W.listOf (rv ++ [Value.ref p]).toArray rc) :: (L + 2, on) :: (p, W.listOf vs.toArray c) :: news)) : TurnTo g L NL RL s₁ on nv rv news nm row .next { s₁ with heap := h', toks := tk }
local macro_rules | `(tactic| walk_at $s) => ml s "
 call ref => r Says.useS {@pre} ( bln_says _ _ _ _ _ _ {k_mem} {hyp} {hyp} ) ?_; i k' h' tk' F' N'; sw | r Says.useS {@pre} ( apm_says _ _ _ _ {hyp} {hyp} {hyp} ) ?_; i k' h' tk' F' N'; sw | r Says.useS {@pre} ( wri_says _ _ _ _ _ _ {hyp} {hyp} {hyp} ) ?_; i k' h' tk' F' N'; sw | r Says.use2 {@pre} ( set_says _ _ _ _ _ _ _ {k_mem} ) ?_; i p' t1' t2' c' h' tk' l1 F' N'; l l1; sw | r Says.useR {@pre} ( row_says _ _ _ _ _ _ {hyp} {hyp} {hyp} ) ?_; i p' vs' c' h' tk' hI' l1 F' N'; l l1; sw"
theorem of_allLt {d : Addr} : ∀ {l : Led}, AllLt d l → ∀ q ∈ l, q.1 < d
  | [], _, _, h => nomatch h
  | _ :: _, h, q, hq => by
    rcases List.mem_cons.mp hq with rfl | hq
    · exact h.1
    · exact of_allLt h.2 q hq
inductive NameTo (g : Heap) (L D WA RL : Addr) (s₁ : Shared) (led : Led) (nm : Str) : Flow → Shared → Prop
  | mk (h' : Heap) (tk : Nat) (m' : Str → Option Value) (t : Tok) (hF : Fr g L h' m') (hV : AgreeV m' [("name", .str nm t), ("told", .ref D), ("words", .ref WA), ("rows", .ref RL)]) (hN : News g L h' led) : NameTo g L D WA RL s₁ led nm .next { s₁ with heap := h', toks := tk }
theorem law_st5 {st : Stmt} (hst : st = stL 5) {RL WA D : Addr} {kd : Nat} {o0 o1 : Option Str} {v : Value} {u0 u1 : Tok} {dp un : Nat} {gd : Option (List Code)} {cd : Value} {A₀ : Around} {base g : Heap} {L : Addr} {s : Shared} {m : Str → Option Value}
    (B : Below A₀ base [] g) (GG : G w mg mb loose ad g) (hd : dp + 300 < recursionLimit) (hu : un + 300 < cLine) (KX : Frag.In [] g) (l0 : ∀ x, o0 = some x → x.length ≤ 1000) (l1 : ∀ x, o1 = some x → x.length ≤ 1000)
    (F1 : Fr g L s.heap (over [("told", .ref D), ("words", .ref WA), ("rows", .ref RL)] m)) (N1 : News g L s.heap ((D, W.listOf #[vo o0 u0, vo o1 u1, v] kd) :: news)) :
    wpAny (model prog w) (ktrTop dp un gd (fname 35) (fscope 35) L (ad "law") cd [("places", L + 3), ("names", L + 2), ("order", L + 1)] []) (exec st (envX (fname 35) (fscope 35) L (ad "law") cd [("places", L + 3), ("names", L + 2), ("order", L + 1)])) (NameTo g L D WA RL s ((D, W.listOf #[vo o0 u0, vo o1 u1, v] kd) :: news) (app (o0.getD "C") "." o1)) (fun _ _ => False) s := by
  subst hst
  conv in stL 5 => dsimp only [stL, forB, fbody, stm, prog, PySem.Challenge.pw_il0214_01, List.getElem?_cons_succ, List.getElem?_cons_zero, Option.getD_some]
  k_steps
  rename Fr _ _ _ _ => FX
  rename News _ _ _ _ => NX
  exact .mk _ _ _ _ FX (.cons (by repeat (first | exact if_pos rfl | refine (if_neg (by decide +kernel)).trans ?_ | with_unfolding_all rfl)) (.cons (by repeat (first | exact if_pos rfl | refine (if_neg (by decide +kernel)).trans ?_ | with_unfolding_all rfl)) (.cons (by repeat (first | exact if_pos rfl | refine (if_neg (by decide +kernel)).trans ?_ | with_unfolding_all rfl)) (.cons (by repeat (first | exact if_pos rfl | refine (if_neg (by decide +kernel)).trans ?_ | with_unfolding_all rfl)) .nil)))) (cb_drop NX (List.forall_mem_cons.mpr ⟨by k_mem, by show ∀ p ∈ news, _; kcj_all⟩))
theorem law_st6 {st : Stmt} (hst : st = stL 6) {RL WA D : Addr} {kd : Nat} {o0 o1 o2 : Option Str} {v0 v1 : Value} {u2 tn : Tok} {dp un : Nat} {gd : Option (List Code)} {cd : Value} {A₀ : Around} {base g : Heap} {L : Addr} {s : Shared} {m : Str → Option Value}
    (B : Below A₀ base [] g) (GG : G w mg mb loose ad g) (hd : dp + 300 < recursionLimit) (hu : un + 300 < cLine) (KX : Frag.In [] g) (l2 : ∀ x, o2 = some x → x.length ≤ 1000) (hc : (app (o0.getD "C") "." o1).length ≤ 1000) (hb : ((Txt.partition (app (o0.getD "C") "." o1) (Str.ofString ".")).snd.snd == Str.ofString "ISO8859-1") = false)
    (F1 : Fr g L s.heap (over [("name", .str (app (o0.getD "C") "." o1) tn), ("told", .ref D), ("words", .ref WA), ("rows", .ref RL)] m)) (N1 : News g L s.heap ((D, W.listOf #[v0, v1, vo o2 u2] kd) :: news)) :
    wpAny (model prog w) (ktrTop dp un gd (fname 35) (fscope 35) L (ad "law") cd [("places", L + 3), ("names", L + 2), ("order", L + 1)] []) (exec st (envX (fname 35) (fscope 35) L (ad "law") cd [("places", L + 3), ("names", L + 2), ("order", L + 1)])) (NameTo g L D WA RL s ((D, W.listOf #[v0, v1, vo o2 u2] kd) :: news) (nameOf o0 o1 o2)) (fun _ _ => False) s := by
  subst hst
  conv in stL 6 => dsimp only [stL, forB, fbody, stm, prog, PySem.Challenge.pw_il0214_01, List.getElem?_cons_succ, List.getElem?_cons_zero, Option.getD_some]
  unfold nameOf
  generalize app (o0.getD "C") "." o1 = nm at *
  cases o2 with
  | none =>
    conv at N1 => rw [show ∀ t, vo none t = .none from fun _ => rfl]
    k_steps
    rename Fr _ _ _ _ => FX
    rename News _ _ _ _ => NX
    exact .mk _ _ _ _ FX (.cons (by repeat (first | exact if_pos rfl | refine (if_neg (by decide +kernel)).trans ?_ | with_unfolding_all rfl)) (.cons (by repeat (first | exact if_pos rfl | refine (if_neg (by decide +kernel)).trans ?_ | with_unfolding_all rfl)) (.cons (by repeat (first | exact if_pos rfl | refine (if_neg (by decide +kernel)).trans ?_ | with_unfolding_all rfl)) (.cons (by repeat (first | exact if_pos rfl | refine (if_neg (by decide +kernel)).trans ?_ | with_unfolding_all rfl)) .nil)))) NX
  | some x =>
    have l2' := l2 x rfl
    conv at N1 => rw [show ∀ t, vo (some x) t = .str x t from fun _ => rfl]
    k_steps
    rename Fr _ _ _ _ => FX
    rename News _ _ _ _ => NX
    exact .mk _ _ _ _ FX (.cons (by repeat (first | exact if_pos rfl | refine (if_neg (by decide +kernel)).trans ?_ | with_unfolding_all rfl)) (.cons (by repeat (first | exact if_pos rfl | refine (if_neg (by decide +kernel)).trans ?_ | with_unfolding_all rfl)) (.cons (by repeat (first | exact if_pos rfl | refine (if_neg (by decide +kernel)).trans ?_ | with_unfolding_all rfl)) (.cons (by repeat (first | exact if_pos rfl | refine (if_neg (by decide +kernel)).trans ?_ | with_unfolding_all rfl)) .nil)))) NX
theorem law_st7 {sts : List Stmt} (hst : sts = forB.drop 7) {RL NL WA D : Addr} {kw nc rc : Nat} {on : Obj} {nv rv : List Value} {o0 o1 o2 : Option Str} {v0 v1 v2 tn : Tok} {nm : Str} {dp un : Nat} {gd : Option (List Code)} {cd : Value} {A₀ : Around} {base g : Heap} {L : Addr} {s : Shared} {m : Str → Option Value}
    (B : Below A₀ base [] g) (GG : G w mg mb loose ad g) (hd : dp + 300 < recursionLimit) (hu : un + 300 < cLine) (KX : Frag.In [] g) (dn : on.data = .cell (some (.ref NL)))
    (hne : @LT.lt Nat _ (L + 3) NL ∧ @LT.lt Nat _ NL RL ∧ @Ne Nat WA NL ∧ @Ne Nat WA RL) (hN : ∀ p ∈ news, p.1 ≠ NL) (hR : ∀ p ∈ news, p.1 ≠ RL) (hnv : nv.length ≤ 1000) (hrv : rv.length ≤ 1000)
    (l0 : ∀ x, o0 = some x → x.length ≤ 1000) (l3 : ∀ x, setE o1 o2 = some x → x.length ≤ 1000) (l4 : ∀ x, setM o1 o2 = some x → x.length ≤ 1000) (hname : nm = wri o0 (setE o1 o2) (setM o1 o2))
    (F1 : Fr g L s.heap (over [("name", .str nm tn), ("told", .ref D), ("words", .ref WA), ("rows", .ref RL)] m)) (N1 : News g L s.heap ((WA, W.listOf #[vo o0 v0, vo o1 v1, vo o2 v2] kw) :: (NL, W.listOf nv.toArray nc) :: (RL, W.listOf rv.toArray rc) :: (L + 2, on) :: news)) :
    wpAny (model prog w) (ktrTop dp un gd (fname 35) (fscope 35) L (ad "law") cd [("places", L + 3), ("names", L + 2), ("order", L + 1)] []) (execs sts (envX (fname 35) (fscope 35) L (ad "law") cd [("places", L + 3), ("names", L + 2), ("order", L + 1)])) (TurnTo g L NL RL s on nv rv news nm (rowL o0 (setE o1 o2) (setM o1 o2))) (fun _ _ => False) s := by
  subst hst
  conv in List.drop 7 forB => dsimp only [stL, forB, fbody, stm, prog, PySem.Challenge.pw_il0214_01, List.getElem?_cons_succ, List.getElem?_cons_zero, Option.getD_some, List.drop_succ_cons, List.drop_zero]
  refine @gq _ _ _ _ _ _ _ fun Q' hQ' => ?_
  obtain ⟨n1, n2, n5, n6⟩ := hne
  k_steps
  all_goals first | (rename (_ != _) = true => hq; rw [hname] at hq; simp at hq; done) | skip
  · rename IntsAre _ _ => hI
    rename News _ _ _ _ => NN
    simp only [List.push_toArray] at NN
    refine hQ' _ _ ?_; refine .mk _ _ _ _ _ _ _ _ _ (by k_asm) (.cons (by repeat (first | exact if_pos rfl | refine (if_neg (by decide +kernel)).trans ?_ | with_unfolding_all rfl)) .nil) hI ?_ (cb_drop NN (List.forall_mem_cons.mpr ⟨by k_mem, List.forall_mem_cons.mpr ⟨by k_mem, List.forall_mem_cons.mpr ⟨by k_mem, List.forall_mem_cons.mpr ⟨by k_mem, by show ∀ p ∈ news, _; kcj_all⟩⟩⟩⟩))
    exact of_allLt (by assumption : _ ∧ _ ∧ _ ∧ _ ∧ _ ∧ AllLt _ news).2.2.2.2.2
theorem drop5_eq : forB.drop 5 = stL 5 :: stL 6 :: forB.drop 7 := by kernel_rfl
theorem law_st57 {sts : List Stmt} (hst : sts = forB.drop 5) {RL NL WA D : Addr} {kd kw nc rc : Nat} {on : Obj} {nv rv : List Value} {o0 o1 o2 : Option Str} {u0 u1 u2 v0 v1 v2 : Tok} {dp un : Nat} {gd : Option (List Code)} {cd : Value} {A₀ : Around} {base g : Heap} {L : Addr} {s : Shared} {m : Str → Option Value}
    (B : Below A₀ base [] g) (GG : G w mg mb loose ad g) (hd : dp + 300 < recursionLimit) (hu : un + 300 < cLine) (KX : Frag.In [] g) (dn : on.data = .cell (some (.ref NL)))
    (hne : @LT.lt Nat _ (L + 3) NL ∧ @LT.lt Nat _ NL RL ∧ @Ne Nat D NL ∧ @Ne Nat D RL ∧ @Ne Nat WA NL ∧ @Ne Nat WA RL) (hN : ∀ p ∈ news, p.1 ≠ NL) (hR : ∀ p ∈ news, p.1 ≠ RL) (hnv : nv.length ≤ 1000) (hrv : rv.length ≤ 1000)
    (l0 : ∀ x, o0 = some x → x.length ≤ 1000) (l1 : ∀ x, o1 = some x → x.length ≤ 1000) (l3 : ∀ x, setE o1 o2 = some x → x.length ≤ 1000) (l4 : ∀ x, setM o1 o2 = some x → x.length ≤ 1000)
    (l2 : ∀ x, o2 = some x → x.length ≤ 1000) (hc : (app (o0.getD "C") "." o1).length ≤ 1000) (hb : ((Txt.partition (app (o0.getD "C") "." o1) (Str.ofString ".")).snd.snd == Str.ofString "ISO8859-1") = false)
    (hname : nameOf o0 o1 o2 = wri o0 (setE o1 o2) (setM o1 o2))
    (F1 : Fr g L s.heap (over [("told", .ref D), ("words", .ref WA), ("rows", .ref RL)] m)) (N1 : News g L s.heap ((D, W.listOf #[vo o0 u0, vo o1 u1, vo o2 u2] kd) :: (WA, W.listOf #[vo o0 v0, vo o1 v1, vo o2 v2] kw) :: (NL, W.listOf nv.toArray nc) :: (RL, W.listOf rv.toArray rc) :: (L + 2, on) :: news)) :
    wpAny (model prog w) (ktrTop dp un gd (fname 35) (fscope 35) L (ad "law") cd [("places", L + 3), ("names", L + 2), ("order", L + 1)] []) (execs sts (envX (fname 35) (fscope 35) L (ad "law") cd [("places", L + 3), ("names", L + 2), ("order", L + 1)])) (TurnTo g L NL RL s on nv rv news (nameOf o0 o1 o2) (rowL o0 (setE o1 o2) (setM o1 o2))) (fun _ _ => False) s := by
  subst hst
  obtain ⟨n1, n2, n3, n4, n5, n6⟩ := hne
  rw [drop5_eq]
  refine @wpAny_execs_cons _ _ _ _ _ _ _ _ ?_
  refine @wpAny_mono _ _ _ _ _ _ _ _ _ (law_st5 rfl B GG hd hu KX l0 l1 F1 N1) (fun f s2 hq => ?_) fun _ _ h => h
  obtain ⟨h1, tk1, m1, t1, F2, V2, N2⟩ := hq
  rw [← over_eq V2] at F2
  clear F1 N1 V2
  dsimp only
  refine @wpAny_execs_cons _ _ _ _ _ _ _ _ ?_
  refine @wpAny_mono _ _ _ _ _ _ _ _ _ (law_st6 rfl B GG hd hu KX l2 hc hb F2 N2) (fun f s2 hq => ?_) fun _ _ h => h
  obtain ⟨h2, tk2, m2, t2, F3, V3, N3⟩ := hq
  rw [← over_eq V3] at F3
  clear F2 N2 V3
  dsimp only
  refine @wpAny_mono _ _ _ _ _ _ _ _ _ (law_st7 (s := { s with heap := h2, toks := tk2 }) rfl B GG hd hu KX dn ⟨n1, n2, n5, n6⟩ hN hR hnv hrv l0 l3 l4 hname F3 (fun p hp => N3 p (.tail _ hp))) (fun f s2 hq => ?_) fun _ _ h => h
  obtain ⟨h', tk, m', t, nc', rc', p, vs, c, a1, a2, a3, a4, a5⟩ := hq
  exact .mk h' tk m' t nc' rc' p vs c a1 a2 a3 a4 a5
end
end
theorem fl_16 {M : Model} {A : Around} {E : Value → Shared → Prop} {s : Shared} {Q : Bool → Shared → Prop} {v : Value} (h : wpAny M A (truthy v) Q E s) : wpAny M A (truthy v) Q E s := by
  first
    | (walk1; done)
    | exact h
section
open PyProof.Rows.LCg PyProof.Rows.LCt PyProof.Rows.LCp
structure NameOk (o0 o1 o2 : Option Str) : Prop where
  l0 : ∀ x, o0 = some x → x.length ≤ 1000
  l1 : ∀ x, o1 = some x → x.length ≤ 1000
  l2 : ∀ x, o2 = some x → x.length ≤ 1000
  l3 : ∀ x, setE o1 o2 = some x → x.length ≤ 1000
  l4 : ∀ x, setM o1 o2 = some x → x.length ≤ 1000
  hc : (app (o0.getD "C") "." o1).length ≤ 1000
  hb : ((Txt.partition (app (o0.getD "C") "." o1) (Str.ofString ".")).snd.snd == Str.ofString "ISO8859-1") = false
  hname : nameOf o0 o1 o2 = wri o0 (setE o1 o2) (setM o1 o2)
theorem forB_eq : forB = stL 0 :: stL 1 :: stL 2 :: stL 3 :: stL 4 :: forB.drop 5 := by kernel_rfl
theorem any_no {a b d : TW} (h : [a, b, d].any TW.isNs = false) : ∃ o0 o1 o2, a = wOf o0 ∧ b = wOf o1 ∧ d = wOf o2 := by
  have one : ∀ x : TW, x.isNs = false → ∃ o, x = wOf o := fun x e => by
    cases x with
    | no => exact ⟨none, rfl⟩
    | tx y => exact ⟨some y, rfl⟩
    | ns n => cases e
  simp only [List.any_cons, List.any_nil, Bool.or_false, Bool.or_eq_false_iff] at h
  obtain ⟨o0, e0⟩ := one _ h.1
  obtain ⟨o1, e1⟩ := one _ h.2.1
  obtain ⟨o2, e2⟩ := one _ h.2.2
  exact ⟨o0, o1, o2, e0, e1, e2⟩
section
variable {w : World} {mg mb : Str → Option Value} {loose : List Str} {ad : Str → Addr} {news : Led}
inductive TurnPost (g : Heap) (L NL RL : Addr) (s₁ : Shared) (on : Obj) (nv rv : List Value) (nc rc : Nat) (news : Led) (a b d : PT) : Flow → Shared → Prop
  | row {f : Flow} {s₂ : Shared} (o0 o1 o2 : Option Str) (e0 : a.w = wOf o0) (e1 : b.w = wOf o1) (e2 : d.w = wOf o2) (h : TurnTo g L NL RL s₁ on nv rv news (nameOf o0 o1 o2) (rowL o0 (setE o1 o2) (setM o1 o2)) f s₂) : TurnPost g L NL RL s₁ on nv rv nc rc news a b d f s₂
  | skip (h' : Heap) (tk : Nat) (m' : Str → Option Value) (e : [a.w, b.w, d.w].any TW.isNs = true) (hF : Fr g L h' m') (hV : AgreeV m' [("rows", .ref RL)]) (hN : News g L h' ((NL, W.listOf nv.toArray nc) :: (RL, W.listOf rv.toArray rc) :: (L + 2, on) :: news)) : TurnPost g L NL RL s₁ on nv rv nc rc news a b d .cont { s₁ with heap := h', toks := tk }
theorem TurnTo.lift {g : Heap} {L NL RL : Addr} {s₁ : Shared} {on : Obj} {nv rv : List Value} {news : Led} {nm : Str} {row : List Int} {f : Flow} {s₂ : Shared} {a : Heap} {b : Nat} (h : TurnTo g L NL RL { s₁ with heap := a, toks := b } on nv rv news nm row f s₂) : TurnTo g L NL RL s₁ on nv rv news nm row f s₂ := by
  obtain ⟨h', tk, m', t, nc, rc, p, vs, c, hF, hV, hI, hp, hN⟩ := h
  exact .mk h' tk m' t nc rc p vs c hF hV hI hp hN
theorem law_turn {a b d : PT} {fg RL NL : Addr} {fo on : Obj} {nc rc : Nat} {nv rv : List Value} {H : Nat → Bool} (hH : ∀ c, H c = inC4 c) {dp un : Nat} {gd : Option (List Code)} {cd : Value} {A₀ : Around} {base g : Heap} {L : Addr} {s : Shared} {m : Str → Option Value}
    (HP : ∀ led, (fg, fo) ∈ led → Says w mg mb loose ad "_law_parts" 100 102 [.ref fg] led (PartsT a b d)) (hfg : (fg, fo) ∈ news) (pa : PartOk H a) (pb : PartOk H b) (pd : PartOk H d)
    (nok : ∀ o0 o1 o2, a.w = wOf o0 → b.w = wOf o1 → d.w = wOf o2 → NameOk o0 o1 o2)
    (B : Below A₀ base [] g) (GG : G w mg mb loose ad g) (hd : dp + 300 < recursionLimit) (hu : un + 300 < cLine) (dn : on.data = .cell (some (.ref NL)))
    (hne : @LT.lt Nat _ (L + 3) NL ∧ @LT.lt Nat _ NL RL) (hN : ∀ p ∈ news, p.1 ≠ NL) (hR : ∀ p ∈ news, p.1 ≠ RL) (hnv : nv.length ≤ 1000) (hrv : rv.length ≤ 1000)
    (F1 : Fr g L s.heap (over [("figures", .ref fg), ("rows", .ref RL)] m)) (N1 : News g L s.heap ((NL, W.listOf nv.toArray nc) :: (RL, W.listOf rv.toArray rc) :: (L + 2, on) :: news)) :
    wpAny (model prog w) (ktrTop dp un gd (fname 35) (fscope 35) L (ad "law") cd [("places", L + 3), ("names", L + 2), ("order", L + 1)] []) (execs forB (envX (fname 35) (fscope 35) L (ad "law") cd [("places", L + 3), ("names", L + 2), ("order", L + 1)])) (TurnPost g L NL RL s on nv rv nc rc news a b d) (fun _ _ => False) s := by
  have KX := noIn g
  rw [forB_eq]
  have L0 := HP _ (.tail _ (.tail _ (.tail _ hfg)) : (fg, fo) ∈ (NL, W.listOf nv.toArray nc) :: (RL, W.listOf rv.toArray rc) :: (L + 2, on) :: news)
  refine wpAny_execs_cons ?_
  refine @wpAny_mono _ _ _ _ _ _ _ _ _ (law_st0 (gd := gd) (cd := cd) rfl L0 B GG hd hu KX F1 N1) (fun f s2 hq => ?_) (fun _ _ h => h)
  obtain ⟨h', tk, m', led1, P, q0, q1, q2, c, c0, c1, c2, t0, t1, t2, b0, b1, b2, F2, V2, N2, hP, i0, i1, i2, sub1, T0, T1, T2⟩ := hq
  rw [← over_eq V2] at F2
  clear F1 N1 V2 L0
  dsimp only
  refine wpAny_execs_cons ?_
  refine @wpAny_mono _ _ _ _ _ _ _ _ _ (law_st1 (gd := gd) (cd := cd) rfl B GG KX hP i0 i1 i2 F2 N2) (fun f s2 hq => ?_) (fun _ _ h => h)
  obtain ⟨h2, tk2, m2, led2, WA, F3, V3, N3, iW, sub2, oW⟩ := hq
  rw [← over_eq V3] at F3
  clear F2 N2 V3
  dsimp only
  refine wpAny_execs_cons ?_
  refine @wpAny_mono _ _ _ _ _ _ _ _ _ (law_st2 (gd := gd) (cd := cd) rfl hH pa pb pd B GG hd hu KX (sub2 _ hP) (sub2 _ i0) (sub2 _ i1) (sub2 _ i2) (T0.mono sub2) (T1.mono sub2) (T2.mono sub2) F3 N3) (fun f s2 hq => ?_) (fun _ _ h => h)
  clear hP i0 i1 i2
  obtain ⟨h3, tk3, m3, led3, D, x0, x1, x2, F4, V4, N4, iD, sub3, oD, Z0, Z1, Z2⟩ := hq
  rw [← over_eq V4] at F4
  clear F3 N3 V4
  dsimp only
  have ok : ∀ x ∈ [a.w, b.w, d.w], x.ok = true := fun x hx => by
    rcases List.mem_cons.mp hx with rfl | hx
    · exact pa.1
    · rcases List.mem_cons.mp hx with rfl | hx
      · exact pb.1
      · rw [List.mem_singleton.mp hx]; exact pd.1
  have Y0 := T0.mono fun p hp => sub3 _ (sub2 _ hp)
  have Y1 := T1.mono fun p hp => sub3 _ (sub2 _ hp)
  have Y2 := T2.mono fun p hp => sub3 _ (sub2 _ hp)
  replace iW := sub3 _ iW
  replace oW := fun p hp => oW p (sub1 p hp)
  replace oD := fun p hp => oD p (sub2 p (sub1 p hp))
  replace sub1 := fun p hp => sub3 p (sub2 p (sub1 p hp))
  clear T0 T1 T2 sub2 sub3 pa pb pd hH
  refine wpAny_execs_cons ?_
  refine @wpAny_mono _ _ _ _ _ _ _ _ _ (law_st3 (gd := gd) (cd := cd) (ts := [x0, x1, x2]) (bs := [b0, b1, b2]) rfl B GG hd hu KX iD iW (.cons Z0 (.cons Z1 (.cons Z2 .nil))) (.cons Y0 (.cons Y1 (.cons Y2 .nil))) ok F4 N4) (fun f s2 hq => ?_) (fun _ _ h => h)
  obtain ⟨h4, tk4, m4, F5, V5, N5⟩ := hq
  rw [← over_eq V5] at F5
  clear F4 N4 V5
  dsimp only
  refine wpAny_execs_cons ?_
  refine @wpAny_mono _ _ _ _ _ _ _ _ _ (law_st4 (gd := gd) (cd := cd) rfl B GG hd hu KX iW Y0 Y1 Y2 ok F5 N5) (fun f s2 hq => ?_) (fun _ _ h => h)
  clear F5 N5 ok
  cases hq with
  | yes h5 tk5 m5 hyes F6 V6 N6 => exact .skip h5 tk5 m5 hyes F6 (fun p hp => V6 p (.tail _ (.tail _ hp))) (fun p hp => N6 p (sub1 p hp))
  | no h5 tk5 m5 hno F6 V6 N6 =>
    dsimp only
    obtain ⟨o0, o1, o2, e0, e1, e2⟩ := any_no hno
    have nk := nok o0 o1 o2 e0 e1 e2
    rw [e0] at Y0 Z0
    rw [e1] at Y1 Z1
    rw [e2] at Y2 Z2
    clear nok hno
    obtain ⟨v0, rfl⟩ := Y0.vo_of
    obtain ⟨v1, rfl⟩ := Y1.vo_of
    obtain ⟨v2, rfl⟩ := Y2.vo_of
    obtain ⟨u0, rfl⟩ := Z0.vo_of
    obtain ⟨u1, rfl⟩ := Z1.vo_of
    obtain ⟨u2, rfl⟩ := Z2.vo_of
    rw [← over_eq V6] at F6
    refine @wpAny_mono _ _ _ _ _ _ _ _ _ (law_st57 (gd := gd) (cd := cd) (u0 := u0) (u1 := u1) (u2 := u2) (v0 := v0) (v1 := v1) (v2 := v2) (kd := 3) (kw := 3) (nc := nc) (rc := rc) rfl B GG hd hu KX dn ⟨hne.1, hne.2, Ne.symm (oD _ (.head _)), Ne.symm (oD _ (.tail _ (.head _))), Ne.symm (oW _ (.head _)), Ne.symm (oW _ (.tail _ (.head _)))⟩ hN hR hnv hrv nk.l0 nk.l1 nk.l3 nk.l4 nk.l2 nk.hc nk.hb nk.hname F6 (fun p hp => N6 p (by
      rcases List.mem_cons.mp hp with rfl | hp
      · exact iD
      · rcases List.mem_cons.mp hp with rfl | hp
        · exact iW
        · exact sub1 _ hp))) (fun f s2 hq => ?_) (fun _ _ h => h)
    exact .row o0 o1 o2 e0 e1 e2 hq.lift
end
end
section
open PyProof.Rows.LCg PyProof.Rows.LCt PyProof.Rows.LCp
structure FF where
  f0 : Nat
  f1 : Nat
  f2 : Nat
  f3 : Nat
  f4 : Nat
  f5 : Nat
  f6 : Nat
  f7 : Nat
noncomputable def FF.ints (x : FF) : List Int := [x.f0, x.f1, x.f2, x.f3, x.f4, x.f5, x.f6, x.f7]
structure FF.Ok (x : FF) : Prop where
  h1 : x.f1 < 4096
  h3 : x.f3 < 4096
  h5 : x.f5 < 4096
  h6 : x.f6 < 8
  h7 : x.f7 < 195
noncomputable def FF.a (x : FF) : PT := ptOf 0 x.f6 x.f7 (p0Of x.f0 x.f1)
noncomputable def FF.b (x : FF) : PT := ptOf 1 x.f6 x.f7 (p1Of x.f2 x.f3)
noncomputable def FF.d (x : FF) : PT := ptOf 2 x.f6 x.f7 (p2Of x.f4 x.f5)
noncomputable def TW.opt : TW → Option Str
  | .tx y => some y
  | _ => none
theorem opt_wOf (o : Option Str) : (wOf o).opt = o := by cases o <;> rfl
noncomputable def FF.res (x : FF) : Option (Str × List Int) :=
  if [x.a.w, x.b.w, x.d.w].any TW.isNs = true then none
  else some (nameOf x.a.w.opt x.b.w.opt x.d.w.opt, rowL x.a.w.opt (setE x.b.w.opt x.d.w.opt) (setM x.b.w.opt x.d.w.opt))
structure FF.Good (H : Nat → Bool) (x : FF) : Prop where
  ok : x.Ok
  a : PartOk H x.a
  b : PartOk H x.b
  d : PartOk H x.d
  w0 : ∀ y, (p0Of x.f0 x.f1).1 = some y → y.length ≤ 1000
  w1 : ∀ y, (p1Of x.f2 x.f3).1 = some y → y.length ≤ 1000
  w2 : ∀ y, (p2Of x.f4 x.f5).1 = some y → y.length ≤ 1000
  nm : ∀ o0 o1 o2, x.a.w = wOf o0 → x.b.w = wOf o1 → x.d.w = wOf o2 → NameOk o0 o1 o2
noncomputable def kept (l : List FF) : List (Str × List Int) := l.filterMap FF.res
theorem kept_snoc (l : List FF) (x : FF) : kept (l ++ [x]) = kept l ++ (match x.res with | none => [] | some p => [p]) := by
  unfold kept
  rw [List.filterMap_append]
  congr 1
  cases h : x.res with
  | none => simp [h]
  | some p => simp [h]
inductive RowsAre (led : Led) : List Value → List (List Int) → Prop
  | nil : RowsAre led [] []
  | cons {p : Addr} {vs : List Value} {c : Nat} {row : List Int} {rv : List Value} {rows : List (List Int)} : (p, W.listOf vs.toArray c) ∈ led → IntsAre vs row → RowsAre led rv rows → RowsAre led (.ref p :: rv) (row :: rows)
theorem RowsAre.mono {led led' : Led} (k : ∀ p ∈ led, p ∈ led') {rv : List Value} {rows : List (List Int)} (h : RowsAre led rv rows) : RowsAre led' rv rows := by
  induction h with
  | nil => exact .nil
  | cons a b _ ih => exact .cons (k _ a) b ih
theorem RowsAre.mono' {led led' : Led} {rv : List Value} {rows : List (List Int)} (h : RowsAre led rv rows) (k : ∀ p ∈ led, p ∈ led') : RowsAre led' rv rows := h.mono k
theorem RowsAre.snoc {led : Led} {rv : List Value} {rows : List (List Int)} (h : RowsAre led rv rows) {p : Addr} {vs : List Value} {c : Nat} {row : List Int} (hm : (p, W.listOf vs.toArray c) ∈ led) (hi : IntsAre vs row) : RowsAre led (rv ++ [.ref p]) (rows ++ [row]) := by
  induction h with
  | nil => exact .cons hm hi .nil
  | cons a b _ ih => exact .cons a b ih
theorem RowsAre.length {led : Led} {rv : List Value} {rows : List (List Int)} (h : RowsAre led rv rows) : rv.length = rows.length := by
  induction h with
  | nil => rfl
  | cons _ _ _ ih => exact congrArg (· + 1) ih
structure LSt where
  nv : List Value
  rv : List Value
  nc : Nat
  rc : Nat
  ob : Led
noncomputable def LSt.Inv (I : Addr) (FL : List FF) (i : Nat) (a : LSt) : Prop :=
  StrsAre a.nv ((kept (FL.take i)).map (·.1)) ∧ RowsAre a.ob a.rv ((kept (FL.take i)).map (·.2)) ∧ ∀ q ∈ a.ob, @LT.lt Nat _ I q.1
noncomputable def LSt.led (L NL RL : Addr) (on : Obj) (W₀ : Led) (a : LSt) : Led := (NL, W.listOf a.nv.toArray a.nc) :: (RL, W.listOf a.rv.toArray a.rc) :: (L + 2, on) :: (a.ob ++ W₀)
theorem kept_length (l : List FF) : (kept l).length ≤ l.length := List.length_filterMap_le ..
theorem strs_len {vs : List Value} {ts : List Str} (h : StrsAre vs ts) : vs.length = ts.length := by
  induction h with
  | nil => rfl
  | cons n t _ ih => exact congrArg (· + 1) ih
section
variable {w : World} {mg mb : Str → Option Value} {loose : List Str} {ad : Str → Addr}
theorem ints_toks {vs : List Value} {ns : List Int} (h : IntsAre vs ns) : ∃ f : Nat → Tok, vs = ns.mapIdx fun i n => .int n (f i) := by
  induction h with
  | nil => exact ⟨fun _ => 0, rfl⟩
  | cons n t _ ih =>
    obtain ⟨f, e⟩ := ih
    exact ⟨fun i => Nat.casesOn i t f, by rw [List.mapIdx_cons, e]; rfl⟩
theorem ints8 {vs : List Value} {x : FF} (h : IntsAre vs x.ints) : ∃ f : Nat → Tok, vs = [.int x.f0 (f 0), .int x.f1 (f 1), .int x.f2 (f 2), .int x.f3 (f 3), .int x.f4 (f 4), .int x.f5 (f 5), .int x.f6 (f 6), .int x.f7 (f 7)] := ints_toks h
theorem law_iter {FL : List FF} {XL RL NL : Addr} {its : Array Value} {k : Nat} {on : Obj} {H : Nat → Bool} (hH : ∀ c, H c = inC4 c) {dp un : Nat} {gd : Option (List Code)} {cd : Value} {A₀ : Around} {base g : Heap} {L : Addr} {s : Shared} {m : Str → Option Value} {W₀ : Led} {Q : Flow → Shared → Prop}
    (good : ∀ x ∈ FL, x.Good H) (hlen : its.size = FL.length) (h20 : FL.length ≤ 20)
    (hits : ∀ (i : Nat) (x : FF), FL[i]? = some x → ∃ (fg : Addr) (vs : List Value) (c : Nat), its[i]? = some (Value.ref fg) ∧ (fg, W.listOf vs.toArray c) ∈ W₀ ∧ IntsAre vs x.ints)
    (hXL : (XL, W.listOf its k) ∈ W₀)
    (B : Below A₀ base [] g) (GG : G w mg mb loose ad g) (hd : dp + 300 < recursionLimit) (hu : un + 300 < cLine) (dn : on.data = .cell (some (.ref NL)))
    (hne : @LT.lt Nat _ (L + 3) NL ∧ @LT.lt Nat _ NL RL) (hN : ∀ p ∈ W₀, p.1 ≠ NL) (hR : ∀ p ∈ W₀, p.1 ≠ RL)
    (F : Fr g L s.heap m) (V : AgreeV m [("rows", .ref RL)]) (N : News g L s.heap (LSt.led L NL RL on W₀ ⟨[], [], 0, 0, []⟩))
    (done : ∀ a m₁ h₁ tk₁, StrsAre a.nv ((kept FL).map (·.1)) → RowsAre a.ob a.rv ((kept FL).map (·.2)) → (∀ q ∈ a.ob, @LT.lt Nat _ RL q.1) → Fr g L h₁ (over [("rows", .ref RL)] m₁) → News g L h₁ (LSt.led L NL RL on W₀ a) → Q .next { s with heap := h₁, toks := tk₁ }) :
    wpAny (model prog w) (ktrTop dp un gd (fname 35) (fscope 35) L (ad "law") cd [("places", L + 3), ("names", L + 2), ("order", L + 1)] []) (pyIter (.ref XL)) (fun it s₂ => LoopAtV prog w (ktrTop dp un gd (fname 35) (fscope 35) L (ad "law") cd [("places", L + 3), ("names", L + 2), ("order", L + 1)] []) g (envX (fname 35) (fscope 35) L (ad "law") cd [("places", L + 3), ("names", L + 2), ("order", L + 1)]) "figures" forB Q (fun _ _ => False) it s₂) (fun _ _ => False) s := by
  have mW : ∀ {p} {a : LSt}, p ∈ W₀ → p ∈ LSt.led L NL RL on W₀ a := fun h => .tail _ (.tail _ (.tail _ (List.mem_append_right _ h)))
  have hl : s.heap.IsList XL its := ⟨_, (N _ (mW hXL)).1, rfl, _, rfl⟩
  have hlt : @LT.lt Nat _ XL s.heap.objs.size := Heap.lt_size (N _ (mW hXL)).1
  have hRI : @LT.lt Nat _ RL s.heap.objs.size := Heap.lt_size (N _ (.tail _ (.head _))).1
  have hXLL : XL ≠ L := (N _ (mW hXL)).2.1
  refine wpAny_pyIter_list hl ?_
  have lowW : ∀ p ∈ W₀, @LT.lt Nat _ p.1 s.heap.objs.size := fun p hp => Heap.lt_size (N p (mW hp)).1
  refine iter_W0 (α := LSt) (s := { s with heap := s.heap.push _ }) (env := envX (fname 35) (fscope 35) L (ad "law") cd [("places", L + 3), ("names", L + 2), ("order", L + 1)]) (h₀ := g) (m := m) (Walks.list (prog := prog) (w := w) rfl s.heap.objs.size XL (Nat.ne_of_lt hlt) its) (fun _ _ => [("rows", .ref RL)]) (fun _ a => LSt.led L NL RL on W₀ a) (LSt.Inv s.heap.objs.size FL) ⟨[], [], 0, 0, []⟩ (fun b hb => ?_) F.ns.lt (next_is_new F) (fun i h st => by obtain ⟨o, e, _⟩ := st.1; exact ⟨o, e⟩)
    (fun i a hI p hp => ?_) ⟨⟨_, Heap.get?_push_size _ rfl, rfl, rfl⟩, hl.push _⟩ (F.push _) (News.grown N fun _ _ e => Heap.get?_push_of_some _ e) (fun p hp => hp) ⟨.nil, .nil, fun _ h => nomatch h⟩ V ?turn ?done
  · rcases List.mem_cons.mp hb with rfl | hb
    · exact .inl rfl
    · rw [List.mem_singleton.mp hb]
      exact .inr ⟨hXLL, W.listOf its k, fun i a _ => mW hXL⟩
  · show @Ne Nat p.1 s.heap.objs.size
    have h3 := hne.1
    have h4 := hne.2
    rcases List.mem_cons.mp hp with rfl | hp
    · show @Ne Nat NL _; omega
    · rcases List.mem_cons.mp hp with rfl | hp
      · show @Ne Nat RL _; omega
      · rcases List.mem_cons.mp hp with rfl | hp
        · show @Ne Nat (L + 2) _; omega
        · rcases List.mem_append.mp hp with hp | hp
          · have := hI.2.2 _ hp; omega
          · have := lowW _ hp; omega
  case turn =>
    intro i a v io m₁ h₁ tk₁ hi hI hv F₁ N₁
    obtain ⟨hS, hRo, hob⟩ := hI
    rw [hlen] at hi
    have ex : FL[i]? = some FL[i] := List.getElem?_eq_getElem hi
    generalize hx : FL[i] = x at ex
    have gx := good x (hx ▸ List.getElem_mem hi)
    have htk : FL.take (i + 1) = FL.take i ++ [x] := by rw [List.take_add_one, ex]; rfl
    obtain ⟨fg, vs, c, e1, hfg, hiv⟩ := hits i x ex
    have ev : v = .ref fg := by rw [e1] at hv; exact (Option.some.inj hv).symm
    subst ev
    obtain ⟨f, rfl⟩ := ints8 hiv
    generalize f 0 = t0, f 1 = t1, f 2 = t2, f 3 = t3, f 4 = t4, f 5 = t5, f 6 = t6, f 7 = t7 at *
    have HP : ∀ led, (fg, W.listOf #[.int x.f0 t0, .int x.f1 t1, .int x.f2 t2, .int x.f3 t3, .int x.f4 t4, .int x.f5 t5, .int x.f6 t6, .int x.f7 t7] c) ∈ led → Says w mg mb loose ad "_law_parts" 100 102 [.ref fg] led (PartsT x.a x.b x.d) := fun led hm =>
      (parts_says x.f0 x.f1 x.f2 x.f3 x.f4 x.f5 x.f6 x.f7 t0 t1 t2 t3 t4 t5 t6 t7 fg c hm gx.ok.h1 gx.ok.h3 gx.ok.h5 gx.ok.h6 gx.ok.h7 gx.w0 gx.w1 gx.w2).mono fun _ _ h => parts_T h
    have kl := kept_length (FL.take i)
    have kl2 : (FL.take i).length ≤ 20 := Nat.le_trans (List.length_take_le' ..) h20
    have AV : AgreeV (fun y => if y = "figures" then some (.ref fg) else over [("rows", .ref RL)] m₁ y) [("figures", .ref fg), ("rows", .ref RL)] := .cons (by repeat (first | exact if_pos rfl | refine (if_neg (by decide +kernel)).trans ?_ | with_unfolding_all rfl)) (.cons (by repeat (first | exact if_pos rfl | refine (if_neg (by decide +kernel)).trans ?_ | with_unfolding_all rfl)) .nil)
    rw [← over_eq AV] at F₁
    have h3 := hne.1
    have h4 := hne.2
    refine wpAny_mono (law_turn (news := (s.heap.objs.size, io) :: (a.ob ++ W₀)) (nv := a.nv) (rv := a.rv) (nc := a.nc) (rc := a.rc) hH HP (.tail _ (List.mem_append_right _ hfg)) gx.a gx.b gx.d gx.nm B GG hd hu dn hne (fun p hp => ?_) (fun p hp => ?_) (by rw [strs_len hS, List.length_map]; omega) (by rw [hRo.length, List.length_map]; omega) F₁ (fun p hp => N₁ p ?_)) (fun f s₂ hq => ?_) fun _ _ h => h
    · show @Ne Nat p.1 NL
      rcases List.mem_cons.mp hp with rfl | hp
      · show @Ne Nat s.heap.objs.size NL; omega
      · rcases List.mem_append.mp hp with hp | hp
        · have := hob _ hp; omega
        · exact hN _ hp
    · show @Ne Nat p.1 RL
      rcases List.mem_cons.mp hp with rfl | hp
      · show @Ne Nat s.heap.objs.size RL; omega
      · rcases List.mem_append.mp hp with hp | hp
        · have := hob _ hp; omega
        · exact hR _ hp
    · unfold LSt.led
      revert hp; revert p
      exact all_cons (.tail _ (.head _)) (all_cons (.tail _ (.tail _ (.head _))) (all_cons (.tail _ (.tail _ (.tail _ (.head _)))) (all_cons (.head _) fun q h => .tail _ (.tail _ (.tail _ (.tail _ h))))))
    · rcases hq with ⟨o0, o1, o2, e0, e1', e2, ⟨h', tk, m', t, nc, rc, p, vs, c', F', V', hI', hp', N'⟩⟩ | ⟨h', tk, m', hany, F', V', N'⟩
      · have er : x.res = some (nameOf o0 o1 o2, rowL o0 (setE o1 o2) (setM o1 o2)) := by
          unfold FF.res
          have n0 : ∀ o, (wOf o).isNs = false := fun o => by cases o <;> rfl
          rw [e0, e1', e2, opt_wOf, opt_wOf, opt_wOf]
          simp [n0]
        refine ⟨h', tk, m', _, ⟨a.nv ++ [.str (nameOf o0 o1 o2) t], a.rv ++ [.ref p], nc, rc, (p, W.listOf vs.toArray c') :: a.ob⟩, rfl, F', N', .tail _ (.tail _ (.tail _ (.tail _ (.head _)))), fun q hq => ?_, ⟨?_, ?_, fun q hq => ?_⟩, V'⟩
        · unfold LSt.led at hq
          revert hq; revert q
          exact all_cons (.head _) (all_cons (.tail _ (.head _)) (all_cons (.tail _ (.tail _ (.head _))) (all_cons (.tail _ (.tail _ (.tail _ (.head _)))) fun q h => .tail _ (.tail _ (.tail _ (.tail _ (.tail _ h)))))))
        · rw [htk, kept_snoc, er, List.map_append]
          exact StrsAre.snoc hS _ _
        · rw [htk, kept_snoc, er, List.map_append]
          exact (hRo.mono fun q hq => .tail _ hq).snoc (.head _) hI'
        · rcases List.mem_cons.mp hq with rfl | hq
          · exact hp' (s.heap.objs.size, io) (.head _)
          · exact hob _ hq
      · have er : x.res = none := by unfold FF.res; rw [if_pos hany]
        refine ⟨h', tk, m', (s.heap.objs.size, io) :: LSt.led L NL RL on W₀ a, a, rfl, F', fun q hq => N' q ?_, .head _, fun q hq => .tail _ hq, ⟨?_, ?_, hob⟩, V'⟩
        · unfold LSt.led at hq
          revert hq; revert q
          exact all_cons (.tail _ (.tail _ (.tail _ (.head _)))) (all_cons (.head _) (all_cons (.tail _ (.head _)) (all_cons (.tail _ (.tail _ (.head _))) fun q h => .tail _ (.tail _ (.tail _ (.tail _ h))))))
        · rw [htk, kept_snoc, er, List.append_nil]; exact hS
        · rw [htk, kept_snoc, er, List.append_nil]; exact hRo
  case done =>
    intro a m₁ h₁ tk₁ hI F₁ N₁
    rw [hlen] at hI
    obtain ⟨hS, hRo, hob⟩ := hI
    rw [List.take_length] at hS hRo
    exact done a m₁ h₁ tk₁ hS hRo (fun q hq => Nat.lt_trans hRI (hob q hq)) F₁ N₁
end
end
section
open PyProof.Rows.LCg PyProof.Rows.LCt PyProof.Rows.LCp
noncomputable def ownF : List FF := [⟨1, 6, 0, 0, 1, 10, 0, 0⟩, ⟨1, 3842, 2, 0, 0, 0, 0, 0⟩, ⟨2, 2, 0, 0, 2, 3, 0, 0⟩, ⟨0, 0, 1, 0, 1, 0, 0, 0⟩, ⟨3, 48, 3, 50, 2, 0, 0, 0⟩, ⟨1, 2, 4, 0, 1, 0, 0, 0⟩, ⟨1, 2, 0, 0, 0, 0, 5, 70⟩]
noncomputable def FigsAt (led : Led) (its : List Value) (FL : List FF) : Prop := its.length = FL.length ∧ ∀ (i : Nat) (x : FF), FL[i]? = some x → ∃ (fg : Addr) (vs : List Value) (c : Nat), its[i]? = some (Value.ref fg) ∧ (fg, W.listOf vs.toArray c) ∈ led ∧ IntsAre vs x.ints
theorem FigsAt.nil {led : Led} : FigsAt led [] [] := ⟨rfl, fun i x h => by simp at h⟩
theorem FigsAt.cons {led : Led} {its : List Value} {FL : List FF} {x : FF} {fg : Addr} {vs : List Value} {c : Nat} (hm : (fg, W.listOf vs.toArray c) ∈ led) (hi : IntsAre vs x.ints) (h : FigsAt led its FL) : FigsAt led (.ref fg :: its) (x :: FL) := by
  refine ⟨congrArg (· + 1) h.1, fun i y e => ?_⟩
  cases i with
  | zero => cases e; exact ⟨fg, vs, c, rfl, hm, hi⟩
  | succ i => exact h.2 i y e
theorem FigsAt.mono {led led' : Led} {its : List Value} {FL : List FF} (k : ∀ p ∈ led, p ∈ led') (h : FigsAt led its FL) : FigsAt led' its FL :=
  ⟨h.1, fun i x e => let ⟨fg, vs, c, a, b, d⟩ := h.2 i x e; ⟨fg, vs, c, a, k _ b, d⟩⟩
theorem FigsAt.append {led : Led} {its its' : List Value} {FL FL' : List FF} (h : FigsAt led its FL) (h' : FigsAt led its' FL') : FigsAt led (its ++ its') (FL ++ FL') := by
  refine ⟨by rw [List.length_append, List.length_append, h.1, h'.1], fun i x e => ?_⟩
  by_cases hi : i < FL.length
  · rw [List.getElem?_append_left hi] at e
    obtain ⟨fg, vs, c, a, r⟩ := h.2 i x e
    exact ⟨fg, vs, c, by rw [List.getElem?_append_left (by rw [h.1]; exact hi)]; exact a, r⟩
  · rw [List.getElem?_append_right (by omega)] at e
    obtain ⟨fg, vs, c, a, r⟩ := h'.2 _ x e
    exact ⟨fg, vs, c, by rw [List.getElem?_append_right (by rw [h.1]; omega), h.1]; exact a, r⟩
noncomputable def stB (i : Nat) : Stmt := ((fbody 35)[i]?).getD (.Pass ⟨0, 0, 0, 0⟩)
section
variable {w : World} {mg mb : Str → Option Value} {loose : List Str} {ad : Str → Addr} {led : Led}
inductive B0P (g : Heap) (L : Addr) (s₁ : Shared) (sc : Addr) (led : Led) : Flow → Shared → Prop
  | mk (h' : Heap) (tk : Nat) (m' : Str → Option Value) (OL : Addr) (its : List Value) (c : Nat) (tl : Led) (hF : Fr g L h' m') (hV : AgreeV m' [("own", .ref OL), ("script", .ref sc)]) (hN : News g L h' ((OL, W.listOf (List.toArray its) c) :: (tl ++ led))) (hT : FigsAt tl its ownF) : B0P g L s₁ sc led .next { s₁ with heap := h', toks := tk }
noncomputable abbrev ConI := Int × Nat × Pos
noncomputable def intC : PySem.Expr → ConI | .Constant (.int n) k p => (n, k, p) | _ => (0, 0, ⟨0, 0, 0, 0⟩)
noncomputable def mkC (q : ConI) : PySem.Expr := .Constant (.int q.1) q.2.1 q.2.2
noncomputable def lstE : PySem.Expr → List PySem.Expr × Pos | .List es p => (es, p) | _ => ([], ⟨0, 0, 0, 0⟩)
noncomputable def mkL (q : List ConI × Pos) : PySem.Expr := .List (q.1.map mkC) q.2
theorem ints_lit {A : Around} {E : Value → Shared → Prop} {env : Env} {pos : Pos} : ∀ {ts : List ConI} {s : Shared} {Q : List Value → Shared → Prop}, (∀ vs tk, IntsAre vs (ts.map (·.1)) → Q vs { s with toks := tk }) → wpAny (model prog w) A (spliced (backTo pos (starEach (ts.map mkC) env))) Q E s
  | [], _, _, h => args_nil (h [] _ .nil)
  | q :: ts, s, Q, h => args_cons (wpAny_Constant_int (ints_lit fun vs tk hi => h (.int q.1 s.toks :: vs) tk (.cons _ _ hi)))
theorem lists_lit {A : Around} {E : Value → Shared → Prop} {env : Env} {pos : Pos} {h₀ : Heap} {L : Addr} {m : Str → Option Value} : ∀ {es : List (List ConI × Pos)} {FL : List FF} {s : Shared} {Q : List Value → Shared → Prop} {news : Led}, (es.map fun q => q.1.map (·.1)) = FL.map FF.ints → (es.all fun q => decide (q.1.length ≤ 8)) = true → Fr h₀ L s.heap m → News h₀ L s.heap news →
    (∀ its tl h' tk, Fr h₀ L h' m → News h₀ L h' (tl ++ news) → FigsAt tl its FL → its.length = FL.length → Q its { s with heap := h', toks := tk }) → wpAny (model prog w) A (spliced (backTo pos (starEach (es.map mkL) env))) Q E s
  | [], [], _, _, _, _, _, F, N, h => args_nil (h [] [] _ _ F N .nil rfl)
  | [], _ :: _, _, _, _, e, _, _, _, _ => nomatch e
  | _ :: _, [], _, _, _, e, _, _, _, _ => nomatch e
  | q :: es, x :: FL, s, Q, news, e, hl, F, N, h => by
    injection e with e1 e2
    rw [List.all_cons, Bool.and_eq_true, decide_eq_true_eq] at hl
    refine args_cons (wpAny_List (ints_lit fun vs tk hi => ?_))
    have e1 : q.1.map (·.1) = x.ints := e1
    rw [e1] at hi
    have hv : vs.length ≤ sizeLine := by
      rw [hi.length, ← e1, List.length_map]
      exact Nat.le_trans hl.1 (by decide)
    refine ⟨hv, lists_lit e2 hl.2 (F.push _) (N.push F _) fun its tl h' tk' F' N' T hn => ?_⟩
    refine h _ (tl ++ [(s.heap.objs.size, W.listOf vs.toArray 0)]) _ _ F' (by rw [List.append_assoc]; exact N') (.cons (List.mem_append_right _ (.head _)) hi (T.mono fun p hp => List.mem_append_left _ hp)) (congrArg (· + 1) hn)
noncomputable def ownE : PySem.Expr := match stB 0 with | .Assign _ e _ => e | _ => .Constant .none 0 ⟨0, 0, 0, 0⟩
noncomputable def ownL : List (List ConI × Pos) := (lstE ownE).1.map fun e => ((lstE e).1.map intC, (lstE e).2)
theorem ownE_eq : ownE = .List (ownL.map mkL) (lstE ownE).2 := by kernel_rfl
theorem own_stm : ∃ px pos, stB 0 = .Assign [.Name "own" px] ownE pos := ⟨_, _, by with_unfolding_all rfl⟩
theorem own_ints : (ownL.map fun q => q.1.map (·.1)) = ownF.map FF.ints := by kernel_rfl
theorem own_short : (ownL.all fun q => decide (q.1.length ≤ 8)) = true := by kernel_rfl
theorem own_list {A : Around} {E : Value → Shared → Prop} {env : Env} {h₀ : Heap} {L : Addr} {m : Str → Option Value} {s : Shared} {Q : Value → Shared → Prop} {news : Led} {e : PySem.Expr} (he : ownE = e) (F : Fr h₀ L s.heap m) (N : News h₀ L s.heap news)
    (h : ∀ OL its tl h' tk, Fr h₀ L h' m → News h₀ L h' ((OL, W.listOf (List.toArray its) 0) :: (tl ++ news)) → FigsAt tl its ownF → Q (.ref OL) { s with heap := h', toks := tk }) : wpAny (model prog w) A (eval e env) Q E s := by
  rw [← he, ownE_eq]
  have h1 := own_ints
  have h2 := own_short
  have h3 : ownF.length ≤ sizeLine := by decide
  generalize ownL = es at *
  generalize ownF = FL at *
  generalize (lstE ownE).2 = p
  refine wpAny_List (lists_lit h1 h2 F N fun its tl h' tk F' N' T hn => ⟨by rw [hn]; exact h3, ?_⟩)
  exact h _ _ _ _ _ (F'.push _) (N'.push F' _) T
theorem law_b0 {st : Stmt} (hst : st = stB 0) {sc : Addr} {dp un : Nat} {gd : Option (List Code)} {cd : Value} {A₀ : Around} {base g : Heap} {L : Addr} {s : Shared} {m : Str → Option Value}
    (B : Below A₀ base [] g) (GG : G w mg mb loose ad g) (hd : dp + 300 < recursionLimit) (hu : un + 300 < cLine) (KX : Frag.In [] g)
    (F1 : Fr g L s.heap (over [("script", .ref sc)] m)) (N1 : News g L s.heap led) :
    wpAny (model prog w) (ktrTop dp un gd (fname 35) (fscope 35) L (ad "law") cd [("places", L + 3), ("names", L + 2), ("order", L + 1)] []) (exec st (envX (fname 35) (fscope 35) L (ad "law") cd [("places", L + 3), ("names", L + 2), ("order", L + 1)])) (B0P g L s sc led) (fun _ _ => False) s := by
  subst hst
  obtain ⟨px, pos, e⟩ := own_stm
  rw [e]
  have sw : ∀ t l env, swapsWith ownE t l env = pure false := fun _ _ _ => by kernel_rfl
  generalize ho : ownE = oe at *
  refine wpAny_Assign_Name (own_list ho F1 N1 fun OL its tl h' tk F' N' T => ?_) (sw _ _ _)
  k_steps
  rename News _ _ _ _ => NN
  rename Fr _ _ _ _ => FF
  exact .mk _ _ _ _ _ _ _ FF (.cons (by repeat (first | exact if_pos rfl | refine (if_neg (by decide +kernel)).trans ?_ | with_unfolding_all rfl)) (.cons (by repeat (first | exact if_pos rfl | refine (if_neg (by decide +kernel)).trans ?_ | with_unfolding_all rfl)) .nil)) NN T
theorem three_cells {L : Addr} {cells : Led} {cm : Str → Option Value} (h : CellsAre cm [("places", L + 3), ("names", L + 2), ("order", L + 1)] cells) : ∃ op on oo, cells = [(L + 3, op), (L + 2, on), (L + 1, oo)] ∧ op.data = .cell (cm "places") ∧ on.data = .cell (cm "names") ∧ oo.data = .cell (cm "order") := by
  cases h with | cons a h => cases h with | cons b h => cases h with | cons c h => cases h; exact ⟨_, _, _, rfl, a, b, c⟩
inductive B1P (g : Heap) (L : Addr) (s₁ : Shared) (sc OL : Addr) (news : Led) : Flow → Shared → Prop
  | mk (h' : Heap) (tk : Nat) (m' : Str → Option Value) (NL : Addr) (on' : Obj) (x0 : Fr g L h' m') (x1 : AgreeV m' [("own", .ref OL), ("script", .ref sc)]) (x2 : News g L h' ((NL, W.listOf #[] 0) :: (L + 2, on') :: news)) (x3 : on'.data = .cell (some (.ref NL))) (x4 : @LT.lt Nat _ (L + 2) NL) (x5 : ∀ q ∈ news, @LT.lt Nat _ q.1 NL) : B1P g L s₁ sc OL news (.next) { s₁ with heap := h', toks := tk }
theorem law_b1 {st : Stmt} (hst : st = stB 1) {sc OL : Addr} {on : Obj} {v₀ : Option Value} {dp un : Nat} {gd : Option (List Code)} {cd : Value} {A₀ : Around} {base g : Heap} {L : Addr} {s : Shared} {m : Str → Option Value} {news : Led}
    (B : Below A₀ base [] g) (GG : G w mg mb loose ad g) (hd : dp + 300 < recursionLimit) (hu : un + 300 < cLine) (KX : Frag.In [] g) (dn : on.data = .cell v₀) (hn : ∀ p ∈ news, p.1 ≠ L + 2)
    (F1 : Fr g L s.heap (over [("own", .ref OL), ("script", .ref sc)] m)) (N1 : News g L s.heap ((L + 2, on) :: news)) :
    wpAny (model prog w) (ktrTop dp un gd (fname 35) (fscope 35) L (ad "law") cd [("places", L + 3), ("names", L + 2), ("order", L + 1)] []) (exec st (envX (fname 35) (fscope 35) L (ad "law") cd [("places", L + 3), ("names", L + 2), ("order", L + 1)])) (B1P g L s sc OL news) (fun _ _ => False) s := by
  subst hst
  conv in stB 1 => dsimp only [stB, fbody, stm, prog, PySem.Challenge.pw_il0214_01, List.getElem?_cons_succ, List.getElem?_cons_zero, Option.getD_some]
  k_steps
  rename News _ _ _ _ => NN
  rename Fr _ _ _ _ => FF
  exact .mk _ _ _ _ _ FF (.cons (by repeat (first | exact if_pos rfl | refine (if_neg (by decide +kernel)).trans ?_ | with_unfolding_all rfl)) (.cons (by repeat (first | exact if_pos rfl | refine (if_neg (by decide +kernel)).trans ?_ | with_unfolding_all rfl)) .nil)) NN (by assumption) (by assumption : @LT.lt Nat _ (L + 2) _ ∧ _).1 (of_allLt (by assumption : @LT.lt Nat _ (L + 2) _ ∧ AllLt _ news).2)
inductive B2P (g : Heap) (L : Addr) (s₁ : Shared) (sc OL : Addr) (news : Led) : Flow → Shared → Prop
  | mk (h' : Heap) (tk : Nat) (m' : Str → Option Value) (RL : Addr) (x0 : Fr g L h' m') (x1 : AgreeV m' [("rows", .ref RL), ("own", .ref OL), ("script", .ref sc)]) (x2 : News g L h' ((RL, W.listOf #[] 0) :: news)) (x3 : ∀ q ∈ news, @LT.lt Nat _ q.1 RL) : B2P g L s₁ sc OL news (.next) { s₁ with heap := h', toks := tk }
theorem law_b2 {st : Stmt} (hst : st = stB 2) {sc OL : Addr} {dp un : Nat} {gd : Option (List Code)} {cd : Value} {A₀ : Around} {base g : Heap} {L : Addr} {s : Shared} {m : Str → Option Value} {news : Led}
    (B : Below A₀ base [] g) (GG : G w mg mb loose ad g) (hd : dp + 300 < recursionLimit) (hu : un + 300 < cLine) (KX : Frag.In [] g)
    (F1 : Fr g L s.heap (over [("own", .ref OL), ("script", .ref sc)] m)) (N1 : News g L s.heap news) :
    wpAny (model prog w) (ktrTop dp un gd (fname 35) (fscope 35) L (ad "law") cd [("places", L + 3), ("names", L + 2), ("order", L + 1)] []) (exec st (envX (fname 35) (fscope 35) L (ad "law") cd [("places", L + 3), ("names", L + 2), ("order", L + 1)])) (B2P g L s sc OL news) (fun _ _ => False) s := by
  subst hst
  conv in stB 2 => dsimp only [stB, fbody, stm, prog, PySem.Challenge.pw_il0214_01, List.getElem?_cons_succ, List.getElem?_cons_zero, Option.getD_some]
  k_steps
  rename News _ _ _ _ => NN
  rename Fr _ _ _ _ => FF
  exact .mk _ _ _ _ FF (.cons (by repeat (first | exact if_pos rfl | refine (if_neg (by decide +kernel)).trans ?_ | with_unfolding_all rfl)) (.cons (by repeat (first | exact if_pos rfl | refine (if_neg (by decide +kernel)).trans ?_ | with_unfolding_all rfl)) (.cons (by repeat (first | exact if_pos rfl | refine (if_neg (by decide +kernel)).trans ?_ | with_unfolding_all rfl)) .nil))) NN (by first | exact of_allLt (by assumption) | assumption)
noncomputable def figF (n : Int) : FF :=
  let m := n.fmod 10000000000000000
  ⟨(m.fmod 4).toNat, ((m.fdiv 4).fmod 4096).toNat, (((m.fdiv 4).fdiv 4096).fmod 5).toNat, ((((m.fdiv 4).fdiv 4096).fdiv 5).fmod 4096).toNat, (((((m.fdiv 4).fdiv 4096).fdiv 5).fdiv 4096).fmod 4).toNat, ((((((m.fdiv 4).fdiv 4096).fdiv 5).fdiv 4096).fdiv 4).fmod 4096).toNat,
    (((((((m.fdiv 4).fdiv 4096).fdiv 5).fdiv 4096).fdiv 4).fdiv 4096).fmod 8).toNat, ((((((((m.fdiv 4).fdiv 4096).fdiv 5).fdiv 4096).fdiv 4).fdiv 4096).fdiv 8).fmod 195).toNat⟩
theorem toNat_fmod (a b : Int) (hb : 0 < b) : (((a.fmod b).toNat : Nat) : Int) = a.fmod b := Int.toNat_of_nonneg (Int.fmod_nonneg_of_pos a hb)
theorem figF_ints (n : Int) : (figF n).ints = figs (n.fmod 10000000000000000) sizeL := by
  simp only [figF, FF.ints, figs, sizeL, toNat_fmod _ 4 (by decide), toNat_fmod _ 4096 (by decide), toNat_fmod _ 5 (by decide), toNat_fmod _ 8 (by decide), toNat_fmod _ 195 (by decide)]
theorem figF_ok (n : Int) : (figF n).Ok := by
  have t : ∀ (a b : Int) (k : Nat), b = (k : Int) → 0 < b → (a.fmod b).toNat < k := fun a b k e hb => by
    have h1 := Int.fmod_nonneg_of_pos a hb
    have h2 := Int.fmod_lt_of_pos a hb
    omega
  exact ⟨t _ 4096 4096 rfl (by decide), t _ 4096 4096 rfl (by decide), t _ 4096 4096 rfl (by decide), t _ 8 8 rfl (by decide), t _ 195 195 rfl (by decide)⟩
theorem take3 {A : Around} {E : Value → Shared → Prop} {s : Shared} {h₀ : Heap} {L : Addr} {m : Str → Option Value} {news : Led} {sc : Addr} {o : Obj} {vs : List Value} {ns : List Int} {k : Nat} {u : Tok} {value slice : PySem.Expr} {Q : Value → Shared → Prop}
    (hcls : o.cls = .type "list") (hdat : o.data = .seq vs.toArray k) (hi : IntsAre vs ns) (hl : ns.length ≤ 63) (F : Fr h₀ L s.heap m) (N : News h₀ L s.heap news) (hm : (sc, o) ∈ news)
    (h : ∀ D ws h', Fr h₀ L h' m → News h₀ L h' ((D, W.listOf (List.toArray ws) 0) :: news) → (∀ p ∈ news, p.1 < D) → IntsAre ws (ns.take 3) → Q (.ref D) { s with heap := h' })
    (hs : subscripted slice false (.ref sc) (.ref s.heap.objs.size) = operate [.ref s.heap.objs.size, .ref sc] (getItem (.ref sc) (.ref s.heap.objs.size))) (ht : ∀ r, letTemporaryGo value (.ref sc) r = pure ()) :
    wpAny (model prog w) A (subscriptTail value slice (.ref sc) (.ref s.heap.objs.size)) Q E { s with heap := s.heap.push { cls := .type "slice", data := .fields #[.none, .int 3 u, .none] } } :=
  kmk_slice_ints (ms := ns.take 3) F N ⟨o, (N _ hm).1, hcls, k, hdat⟩ .none (.int _ _) hi (kmk_upto hi (by decide)) rfl (fun D ws h' F' N' l1 hI _ _ => h D ws h' F' N' l1 hI) hs ht (by rw [kmk_size_eq hi, sizeLine_eq]; omega)
local macro_rules | `(tactic| walk_at $s) => ml s "
 eval ListComp => r Stop.out @p=_ ?_
 subscriptTail Name Slice ref ref => R take3 ?c ?d ?i ?z ?F ?N ?m ?_ ?s ?t; c c hyp d hyp i hyp z hyp F k_asm N k_asm m hyp s wu t iwu ! i D' ws' h' F' N' l1 hI'; l l1; sw
 call ref => R Says.use ( fig_says _ _ ) ?B ?F ?g ?N rfl ?hd ?hu ?_; c B assumption F k_asm g assumption N k_asm hd @lim hu @lim"
noncomputable def forIt : Expr := match stB 3 with | Stmt.For _ e _ _ _ => e | _ => .Constant .none 0 ⟨0, 0, 0, 0⟩
noncomputable def forLc : Expr := match forIt with | .BinOp e _ _ _ => e | _ => .Constant .none 0 ⟨0, 0, 0, 0⟩
noncomputable def forElt : Expr := match forLc with | .ListComp e _ _ _ => e | _ => .Constant .none 0 ⟨0, 0, 0, 0⟩
noncomputable def forSc : Scope := match forLc with | .ListComp _ _ s _ => s | _ => fscope 0
theorem law_figs {elt : Expr} {RL SL : Addr} {ws : List Value} {ns : List Int} {st0 : Expr} {dp un : Nat} {gd : Option (List Code)} {cd : Value} {A₀ : Around} {base g : Heap} {L : Addr} {s : Shared} {m : Str → Option Value} {scope : Scope}
    (he : elt = forElt)
    (hs : scope = forSc)
    (B : Below A₀ base [] g) (GG : G w mg mb loose ad g) (hd : dp + 300 < recursionLimit) (hu : un + 300 < cLine) (KX : Frag.In [] g)
    {I : Addr} {oI : Obj} {C : Addr} {oC : Obj} {D : Addr} {m₂ : Str → Option Value} {h : Heap} {tk : Nat} {E' : Value → Shared → Prop} {x : Int} {t : Tok} {ys : List Value} {nw : Led} {l : List Int}
    (hC : NsObj oC m₂) (hx : m₂ "x" = some (.int x t)) (F : Fr g L h m) (N : News g L h ((I, oI) :: (C, oC) :: (D, lst ys) :: (nw ++ led))) (off : Off3 I C D (nw ++ led)) (T : FigsAt (nw ++ led) ys (l.map figF)) (hnw : ∀ p ∈ nw, @LT.lt Nat _ RL p.1) {oR : Obj} (hRL : (RL, oR) ∈ led) :
    wpAny (model prog w) (ktrTop dp un gd (fname 35) (fscope 35) L (ad "law") cd [("places", L + 3), ("names", L + 2), ("order", L + 1)] []) (eval elt (compEnvC scope [] C (envX (fname 35) (fscope 35) L (ad "law") cd [("places", L + 3), ("names", L + 2), ("order", L + 1)])))
      (JEnd g L m { s with heap := h, toks := tk } I C D oI oC (lst ys) (fun y nw' => ∃ tl, nw' = tl ++ led ∧ (∀ p ∈ tl, @LT.lt Nat _ RL p.1) ∧ FigsAt (tl ++ led) (ys ++ [y]) ((l ++ [x]).map figF))) E' { s with heap := h, toks := tk } := by
  subst he
  subst hs
  conv in forElt => whnf
  conv in forSc => whnf
  generalize hl : nw ++ led = LL at *
  k_steps
  rename_i r tl h1 tk1 F' N' o1 hp'
  obtain ⟨p, vs, c, rfl, rfl, hI⟩ := hp'
  have hI' : IntsAre vs (figF x).ints := by rw [figF_ints]; exact hI
  have sub : ∀ q ∈ LL, q ∈ (p, W.listOf vs.toArray c) :: LL := fun q hq => .tail _ hq
  refine ⟨_, _, (p, W.listOf vs.toArray c) :: LL, rfl, F', fun q hq => N' q ?_, off_app (tl := [(p, W.listOf vs.toArray c)]) off fun q hq => ⟨o1 _ (.head _) q hq, o1 _ (.tail _ (.head _)) q hq, o1 _ (.tail _ (.tail _ (.head _))) q hq⟩, (p, W.listOf vs.toArray c) :: nw, by rw [← hl]; rfl, fun q hq => ?_, ?_⟩
  · revert hq; revert q
    exact all_cons (.tail _ (.head _)) (all_cons (.tail _ (.tail _ (.head _))) (all_cons (.tail _ (.tail _ (.tail _ (.head _)))) (all_cons (.head _) fun q h => .tail _ (.tail _ (.tail _ (.tail _ h))))))
  · rcases List.mem_cons.mp hq with rfl | hq
    · exact o1 (RL, oR) (.tail _ (.tail _ (.tail _ (hl ▸ List.mem_append_right _ hRL)))) _ (.head _)
    · exact hnw _ hq
  · rw [List.cons_append, hl, List.map_append]
    exact (T.mono sub).append (.cons (.head _) hI' .nil)
theorem addl {A : Around} {E : Value → Shared → Prop} {s : Shared} {h₀ : Heap} {L a b : Addr} {m : Str → Option Value} {news : Led} {xs ys : List Value} {k c : Nat} {Q : Value → Shared → Prop} (F : Fr h₀ L s.heap m) (N : News h₀ L s.heap news) (ha : (a, W.listOf xs.toArray k) ∈ news) (hb : (b, W.listOf ys.toArray c) ∈ news)
    (hz : xs.length + ys.length ≤ 1000) (h : ∀ D h', Fr h₀ L h' m → News h₀ L h' ((D, W.listOf (xs ++ ys).toArray 0) :: news) → (∀ p ∈ news, p.1 < D) → Q (.ref D) { s with heap := h' }) : wpAny (model prog w) A (binaryOp .Add (.ref a) (.ref b)) Q E s :=
  kmk_add_lit F N ⟨_, (N _ ha).1, rfl, _, rfl⟩ ⟨_, (N _ hb).1, rfl, _, rfl⟩ rfl h (by rw [sizeLine_eq]; show xs.length + ys.length ≤ _; omega)
local macro_rules | `(tactic| walk_at $s) => ml s "
 binaryOp Add ref ref => R addl ?F ?N ?a ?b ?z ?_; c F k_asm N k_asm a k_mem b hyp z hyp ! i D' h' F' N' l1; l l1; sw"
theorem ints_at {vs : List Value} {ns : List Int} (h : IntsAre vs ns) : ∀ {i : Nat} {x : Int} {v : Value}, ns[i]? = some x → vs[i]? = some v → ∃ t, v = .int x t := by
  induction h with
  | nil => intro i x v e _; simp at e
  | cons n t _ ih =>
    intro i x v e1 e2
    cases i with
    | zero => cases e1; cases e2; exact ⟨t, rfl⟩
    | succ i => exact ih (by simpa using e1) (by simpa using e2)
inductive ItPost (g : Heap) (L : Addr) (s₁ : Shared) (m : Str → Option Value) (RL : Addr) (FL : List FF) (led : Led) : Value → Shared → Prop
  | mk (h' : Heap) (tk : Nat) (tl : Led) (XL : Addr) (its : List Value) (k : Nat) (hF : Fr g L h' m) (hN : News g L h' ((XL, W.listOf (List.toArray its) k) :: (tl ++ led))) (hl : ∀ p ∈ (XL, W.listOf (List.toArray its) k) :: tl, @LT.lt Nat _ RL p.1) (hT : FigsAt (tl ++ led) its FL) : ItPost g L s₁ m RL FL led (.ref XL) { s₁ with heap := h', toks := tk }
theorem law_it {it : Expr} (hit : it = forIt) {OL RL sc : Addr} {o oR : Obj} {its : List Value} {c k : Nat} {vs : List Value} {ns : List Int} {dp un : Nat} {gd : Option (List Code)} {cd : Value} {A₀ : Around} {base g : Heap} {L : Addr} {s : Shared} {m : Str → Option Value}
    (hcls : o.cls = .type "list") (hdat : o.data = .seq vs.toArray k) (hi : IntsAre vs ns) (hl : ns.length ≤ 63) (hsc : (sc, o) ∈ led) (hRL : (RL, oR) ∈ led) (hOL : (OL, W.listOf (List.toArray its) c) ∈ led) (hO : FigsAt led its ownF)
    (B : Below A₀ base [] g) (GG : G w mg mb loose ad g) (hd : dp + 300 < recursionLimit) (hu : un + 300 < cLine) (KX : Frag.In [] g)
    (F1 : Fr g L s.heap (over [("rows", .ref RL), ("own", .ref OL), ("script", .ref sc)] m)) (N1 : News g L s.heap led) :
    wpAny (model prog w) (ktrTop dp un gd (fname 35) (fscope 35) L (ad "law") cd [("places", L + 3), ("names", L + 2), ("order", L + 1)] []) (eval it (envX (fname 35) (fscope 35) L (ad "law") cd [("places", L + 3), ("names", L + 2), ("order", L + 1)])) (ItPost g L s (over [("rows", .ref RL), ("own", .ref OL), ("script", .ref sc)] m) RL ((ns.take 3).map figF ++ ownF) led) (fun _ _ => False) s := by
  subst hit
  have fg := @law_figs w mg mb loose ad
  have eB : stB 3 = stB 3 := rfl
  conv at eB => rhs; dsimp only [stB, fbody, stm, prog, PySem.Challenge.pw_il0214_01, List.getElem?_cons_succ, List.getElem?_cons_zero, Option.getD_some]
  unfold forIt
  rw [eB]
  dsimp only
  k_steps
  refine ⟨?_⟩
  refine comp_listJ (L := L) F1 rfl (fun SL its i ys nw => ∃ ws tl, its = ws.toArray ∧ IntsAre ws (ns.take 3) ∧ @LT.lt Nat _ RL SL ∧ nw = tl ++ ((SL, W.listOf its 0) :: led) ∧ (∀ p ∈ tl, @LT.lt Nat _ RL p.1) ∧ FigsAt nw ys (((ns.take 3).take i).map figF)) rfl (by decide) rfl (by decide) rfl ?_ (fun _ => rfl)
  k_steps
  rename_i SL ws h1 F' N' l1 hI
  refine ⟨SL, ws.toArray, 0, (SL, W.listOf ws.toArray 0) :: led, rfl, F', N', ?_, ⟨ws, [], rfl, hI, l1 _ hRL, rfl, (fun _ h => nomatch h), .nil⟩, ?_, ?_, ?_⟩
  · rw [List.size_toArray, hI.length, List.length_take]; omega
  · rintro i ys nw ⟨ws', tl, e1, e2, e3, e4, e5, e6⟩
    rw [e4]; exact List.mem_append_right _ (.head _)
  · rintro i ys nw v I oI C oC D m₂ h tk E' hi' ⟨ws', tl, e1, e2, e3, rfl, e5, e6⟩ hv hC hx F N off
    have hw : ws' = ws := by
      have := congrArg Array.toList e1
      exact this.symm
    subst hw
    have hlen : ws'.length = (ns.take 3).length := hI.length
    have hi2 : i < (ns.take 3).length := by rw [← hlen]; exact hi'
    have ex : (ns.take 3)[i]? = some (ns.take 3)[i] := List.getElem?_eq_getElem hi2
    generalize (ns.take 3)[i] = x at ex
    obtain ⟨t, ev⟩ : ∃ t, v = .int x t := by
      have hv' : ws'[i]? = some v := by simpa using hv
      exact ints_at hI ex hv'
    subst ev
    have htk : (ns.take 3).take (i + 1) = (ns.take 3).take i ++ [x] := by rw [List.take_add_one, ex]; rfl
    refine wpAny_mono (fg (led := (SL, W.listOf ws'.toArray 0) :: led) (nw := tl) (RL := RL) (SL := SL) (ws := ws') (ns := ns) (st0 := forIt) (by with_unfolding_all rfl) (by with_unfolding_all rfl) B GG hd hu KX hC hx F N off e6 e5 (.tail _ hRL)) (fun y s'' hq => ?_) fun _ _ h => h
    obtain ⟨h', tk', nw', rfl, F'', N'', off'', tl', rfl, o', T'⟩ := hq
    exact ⟨h', tk', _, rfl, F'', N'', off'', ws', tl', rfl, hI, l1 _ hRL, rfl, o', by rw [htk]; exact T'⟩
  · rintro D ys nw h tk ⟨ws', tl, e1, e2, e3, rfl, e5, e6⟩ F N o
    have hlen : ws.toArray.size = (ns.take 3).length := by rw [List.size_toArray, hI.length]
    rw [hlen, List.take_length] at e6
    have hz : ys.length + its.length ≤ 1000 := by
      rw [e6.1, hO.1, List.length_map, List.length_take]
      show _ + 7 ≤ 1000
      omega
    have hOL' : (OL, W.listOf its.toArray c) ∈ (D, lst ys) :: (tl ++ (SL, W.listOf ws.toArray 0) :: led) := .tail _ (List.mem_append_right _ (.tail _ hOL))
    have hRL' : (RL, oR) ∈ (D, lst ys) :: (tl ++ (SL, W.listOf ws.toArray 0) :: led) := .tail _ (List.mem_append_right _ (.tail _ hRL))
    generalize hg : tl ++ (SL, W.listOf ws.toArray 0) :: led = LL at *
    k_steps
    rename Fr _ _ _ _ => FX
    rename News _ _ _ _ => NX
    rename_i l1'
    refine .mk _ _ (tl ++ [(SL, W.listOf ws.toArray 0)]) _ (ys ++ its) 0 FX (fun q hq => NX q ?_) (fun q hq => ?_) ?_
    · rcases List.mem_cons.mp hq with rfl | hq
      · exact .head _
      · rw [List.append_assoc] at hq
        exact .tail _ (.tail _ (hg ▸ hq))
    · rcases List.mem_cons.mp hq with rfl | hq
      · exact of_allLt (l := (D, lst ys) :: LL) l1' (RL, oR) hRL'
      · rcases List.mem_append.mp hq with hq | hq
        · exact e5 _ hq
        · rw [List.mem_singleton.mp hq]; exact e3
    · rw [List.append_assoc]
      exact (hg ▸ e6 : FigsAt (tl ++ (SL, W.listOf ws.toArray 0) :: led) _ _).append (hO.mono fun q hq => List.mem_append_right _ (.tail _ hq))
end
end
theorem fl_17 {M : Model} {A : Around} {E : Value → Shared → Prop} {s : Shared} {Q : Bool → Shared → Prop} {v : Value} (h : wpAny M A (truthy v) Q E s) : wpAny M A (truthy v) Q E s := by
  first
    | (walk1; done)
    | exact h
section
open AutoSeq1 (wpAny_loadPart')
open MeetsSeq MeetsSeq3
theorem ints_get {vs : List Value} {ns : List Int} (h : IntsAre vs ns) : ∀ {i : Nat} {x : Int}, ns[i]? = some x → ∃ t, vs[i]? = some (.int x t) := by
  induction h with
  | nil => intro i x e; simp at e
  | cons n t _ ih =>
    intro i x e1
    cases i with
    | zero => cases e1; exact ⟨t, rfl⟩
    | succ i => exact ih (by simpa using e1)
theorem lt_loop (l b : Addr) (items items2 : Array Value) (n n2 : Nat) (ns ms : List Int) (h1 : IntsAre items.toList ns) (h2 : IntsAre items2.toList ms) (hsz : ns.length = ms.length) (k : Nat) :
    ∀ i : Nat, ns.length - i = k → Meets (Builtin.«list.__eq__.loop» ⟨[.ref l, .ref b, rawInt i, rawInt 0], []⟩)
      (fun _ R s => s.heap.get? l = some { cls := .type "list", dict := none, data := .seq items n, slots := #[] } ∧ s.heap.get? b = some { cls := .type "list", dict := none, data := .seq items2 n2, slots := #[] } ∧
        R (.ok (.ret (.bool (decide (ns.drop i < ms.drop i))))) s) := by
  have hs1 : items.size = ns.length := by rw [← h1.length]; simp
  have hs2 : items2.size = ms.length := by rw [← h2.length]; simp
  induction k with
  | zero =>
    intro i hk prog w A R s h
    obtain ⟨hp, g, d, tk, os⟩ := s; obtain ⟨hl, hb, h⟩ := h
    wp_walk using wpAny_loadPart' hl, wpAny_loadPart' hb
    have hi1 : items[((i : Nat) : Int).toNat]? = none := by simp; omega
    have hi2 : items2[((i : Nat) : Int).toNat]? = none := by simp; omega
    have d1 : ns.drop i = [] := by simp; omega
    have d2 : ms.drop i = [] := by simp; omega
    rw [d1, d2] at h
    rw [hi1, hi2]
    wp_walk using wpAny_loadPart' hl, wpAny_loadPart' hb
    show R (.ok (.ret (.bool (decide (items.size < items2.size))))) _
    have e : decide (items.size < items2.size) = decide (([] : List Int) < []) := by
      rw [decide_eq_false (by omega : ¬ items.size < items2.size)]; rfl
    rw [e]
    exact h
  | succ k ih =>
    intro i hk prog w A R s h
    obtain ⟨hp, g, d, tk, os⟩ := s; obtain ⟨hl, hb, h⟩ := h
    wp_walk using wpAny_loadPart' hl, wpAny_loadPart' hb
    have hlt : i < ns.length := by omega
    have hlt2 : i < ms.length := by omega
    obtain ⟨t1, e1⟩ := ints_get h1 (List.getElem?_eq_getElem hlt)
    obtain ⟨t2, e2⟩ := ints_get h2 (List.getElem?_eq_getElem hlt2)
    have hi1 : items[((i : Nat) : Int).toNat]? = some (.int ns[i] t1) := by simpa using e1
    have hi2 : items2[((i : Nat) : Int).toNat]? = some (.int ms[i] t2) := by simpa using e2
    have d1 : ns.drop i = ns[i] :: ns.drop (i + 1) := List.drop_eq_getElem_cons hlt
    have d2 : ms.drop i = ms[i] :: ms.drop (i + 1) := List.drop_eq_getElem_cons hlt2
    have hc : ((i : Int) + 1) = ((i + 1 : Nat) : Int) := by push_cast; rfl
    rw [d1, d2] at h
    rw [hi1, hi2]
    refine wpAny_bind (EqGives.int ns[i] ms[i] t1 t2 prog w _ _ _ _ ?_)
    cases hb' : (ns[i] == ms[i]) with
    | true =>
      have he : ns[i] = ms[i] := by simpa using hb'
      have ed : decide (ns[i] :: ns.drop (i + 1) < ms[i] :: ms.drop (i + 1)) = decide (ns.drop (i + 1) < ms.drop (i + 1)) := by
        rw [he]
        exact decide_eq_decide.mpr (by rw [List.cons_lt_cons_iff]; simp)
      rw [ed] at h
      wp_walk
      rw [hc]
      exact ⟨plainId_quiet plain_eq_loop _, codeAny_builtin entry_eq_loop (by
        rw [Around.under_plainId plain_eq_loop _]
        exact ih (i + 1) (by omega) prog w A R _ ⟨hl, hb, h⟩)⟩
    | false =>
      have he : ns[i] ≠ ms[i] := by simpa using hb'
      have ed : decide (ns[i] :: ns.drop (i + 1) < ms[i] :: ms.drop (i + 1)) = decide (ns[i] < ms[i]) := by
        exact decide_eq_decide.mpr (by rw [List.cons_lt_cons_iff]; simp [he])
      rw [ed] at h
      wp_walk using wpAny_loadPart' hl, wpAny_loadPart' hb
      rw [hi1, hi2]
      dsimp only
      refine wpAny_bind (lt_int (show wpAny _ _ _ _ _ _ from wpAny_pure h))
theorem list_lt (l b : Addr) (items items2 : Array Value) (n n2 : Nat) (ns ms : List Int) (h1 : IntsAre items.toList ns) (h2 : IntsAre items2.toList ms) (hsz : ns.length = ms.length) :
    Meets (Builtin.«list.__lt__» ⟨[.ref l, .ref b], []⟩)
      (fun _ R s => s.heap.get? l = some { cls := .type "list", dict := none, data := .seq items n, slots := #[] } ∧ s.heap.get? b = some { cls := .type "list", dict := none, data := .seq items2 n2, slots := #[] } ∧
        R (.ok (.ret (.bool (decide (ns < ms))))) s) := by
  intro prog w A R s h
  obtain ⟨hp, g, d, tk, os⟩ := s; obtain ⟨hl, hb, h⟩ := h
  have f3 := AutoSeq1.sub_list_list
  wp_walk using wpAny_loadPart' hl, wpAny_loadPart' hb
  exact ⟨plainId_quiet plain_eq_loop _, codeAny_builtin entry_eq_loop (by
    rw [Around.under_plainId plain_eq_loop _]
    exact lt_loop l b items items2 n n2 ns ms h1 h2 hsz _ 0 rfl prog w A R _ ⟨hl, hb, by simpa using h⟩)⟩
section
variable {w : World} {A : Around} {E : Value → Shared → Prop} {s : Shared}
theorem ask_lists {p q : Addr} {vs us : List Value} {ns ms : List Int} {c c' : Nat} {Q : Bool → Shared → Prop} (hp : s.heap.get? p = some (W.listOf vs.toArray c)) (hq : s.heap.get? q = some (W.listOf us.toArray c')) (h1 : IntsAre vs ns) (h2 : IntsAre us ms) (hsz : ns.length = ms.length) (hu : A.units < cLine)
    (h : Q (decide (ns < ms)) s) : wpAny (model prog w) A (keyLt' oneType' (.ref p) (.ref q)) Q E s := by
  rw [keyLt'_oneType, oneLt'_eq]
  simp only [if_true]
  refine wpAny_bind (wpAny_cRoomFor hu ?_)
  refine wpAny_bind (wpAny_callSpecialIfBound?_slot ⟨_, hp, rfl⟩ PySem.F.slot_list_lt (call_meetsIn PySem.F.slot_list_lt ⟨_, hp, rfl⟩ PySem.F.entry_list_lt (PySem.F.args_list_lt_2 _ _) (fun A R s h => list_lt p q vs.toArray us.toArray c c' ns ms h1 h2 hsz prog w A R s h) ⟨hp, hq, ?_⟩))
  exact wpAny_truthy_bool h
end
end
section
open PyProof.Rows.LCg PyProof.Rows.LCt PyProof.Rows.LCp
noncomputable def ltRows (rows : List (List Int)) (i j : Nat) : Bool := decide (rows.getD i [] < rows.getD j [])
noncomputable def sortRows (rows : List (List Int)) : List (List Int) := (ksorted rows.length (ltRows rows)).map fun i => rows.getD i []
theorem RowsAre.at {led : Led} {rv : List Value} {rows : List (List Int)} (h : RowsAre led rv rows) : ∀ {i : Nat}, i < rows.length → ∃ p vs c, rv.getD i Value.none = .ref p ∧ (p, W.listOf vs.toArray c) ∈ led ∧ IntsAre vs (rows.getD i []) := by
  induction h with
  | nil => intro i h; cases h
  | cons a b _ ih =>
    intro i hi
    cases i with
    | zero => exact ⟨_, _, _, rfl, a, b⟩
    | succ i => exact ih (Nat.lt_of_succ_lt_succ hi)
theorem RowsAre.map {led : Led} {rv : List Value} {rows : List (List Int)} (h : RowsAre led rv rows) : ∀ {l : List Nat}, (∀ i ∈ l, i < rows.length) → RowsAre led (l.map fun i => rv.getD i Value.none) (l.map fun i => rows.getD i [])
  | [], _ => .nil
  | i :: l, hl => by
    obtain ⟨p, vs, c, e, hm, hi⟩ := h.at (hl i (.head _))
    rw [List.map_cons, List.map_cons, e]
    exact .cons hm hi (h.map fun j hj => hl j (.tail _ hj))
theorem ksorted_lt {n : Nat} (hn : 0 < n) (lt : Nat → Nat → Bool) : ∀ i ∈ ksorted n lt, i < n := fun i hi => List.mem_range.mp ((ksorted_perm hn lt).mem_iff.mp hi)
theorem idxOf_first {a : List Int} : ∀ {l : List (List Int)} {i : Nat} (hi : i < l.length), i < l.idxOf a → l[i] ≠ a
  | b :: l, i, hi, h => by
    rw [List.idxOf_cons] at h
    cases e : (b == a) with
    | true => rw [e] at h; simp at h
    | false =>
      rw [e] at h
      cases i with
      | zero => exact fun x => by have : b = a := x; rw [this] at e; simp at e
      | succ i => exact idxOf_first (l := l) (Nat.lt_of_succ_lt_succ hi) (by simpa using h)
theorem ints_inj {vs : List Value} {ns : List Int} (h : IntsAre vs ns) : ∀ {ms : List Int}, IntsAre vs ms → ns = ms := by
  induction h with
  | nil => intro ms h; cases h; rfl
  | cons n t _ ih => intro ms h; cases h with | cons n t r => rw [ih r]
section
variable {w : World} {A : Around} {E : Value → Shared → Prop} {s : Shared} {h₀ : Heap} {L : Addr} {m : Str → Option Value} {news : Led} {Q : Value → Shared → Prop}
theorem isorted_rows {RL : Addr} {rv : List Value} {rc : Nat} {rows : List (List Int)} (F : Fr h₀ L s.heap m) (N : News h₀ L s.heap news) (hRL : (RL, W.listOf rv.toArray rc) ∈ news) (hR : RowsAre news rv rows) (h4 : ∀ r ∈ rows, r.length = 4) (h2 : 2 ≤ rows.length) (h64 : rows.length < 64) (hu' : A.units + 66 < cLine)
    (h : ∀ D c h' tk, Fr h₀ L h' m → News h₀ L h' ((D, W.listOf (List.toArray ((ksorted rows.length (ltRows rows)).map fun i => rv.getD i Value.none)) c) :: news) → (∀ q ∈ news, q.1 < D) → Q (.ref D) { s with heap := h', toks := tk }) :
    wpAny (model prog w) A (call (.builtin "sorted") [.ref RL]) Q E s := by
  have hl := hR.length
  have hu : A.in1.in1.units < cLine := by show A.units + 1 + 1 < cLine; omega
  refine kas_sorted (vs := rv) (T := .type "list") F N ⟨_, (N _ hRL).1, rfl, _, rfl⟩ (by omega) (by omega) (fun h F' N' v hv => ?_) (by decide) fun D e1 h' F' N' o => ?_
  · obtain ⟨i, hi, rfl⟩ := List.getElem_of_mem hv
    obtain ⟨p, vs, c, e, hm, _⟩ := hR.at (i := i) (by omega)
    have e' : rv[i] = .ref p := by rw [← e]; simp [List.getD, hi]
    rw [e']
    exact (show Looks (model prog w) h (typeOf (.ref p)) (W.listOf vs.toArray c).cls from (Looks.ld (N' _ hm).1).andThen .now)
  · rw [hl]
    refine kas_pure (St := fun s' => s' = { s with heap := h' }) (lt := ltRows rows) (fun i j C s' hi hj hs hc => ?_) (kas_sort rows.length) _ (asks_sort (by omega)) rfl ?_
    · subst hs
      obtain ⟨p, vs, c, e, hm, hI⟩ := hR.at hi
      obtain ⟨p', vs', c', e', hm', hI'⟩ := hR.at hj
      show wpAny _ _ (keyLt' _ (rv.getD i Value.none) (rv.getD j Value.none)) _ _ _
      rw [e, e']
      have l4 : ∀ k, k < rows.length → (rows.getD k []).length = 4 := fun k hk => h4 _ (by rw [List.getD_eq_getElem?_getD, List.getElem?_eq_getElem hk]; exact List.getElem_mem hk)
      exact ask_lists (s := { s with heap := h' }) (N' _ (.tail _ hm)).1 (N' _ (.tail _ hm')).1 hI hI' (by rw [l4 i hi, l4 j hj]) hu (hc _ rfl)
    · rintro s' rfl
      exact KasFin.intro (s := { s with heap := h' }) F' N' (.head fun p hp => Nat.ne_of_lt (o p hp)) fun h2 c F2 N2 => h D c h2 s.toks F2 N2 o
theorem idx_rows {D p : Addr} {sv : List Value} {c : Nat} {srows : List (List Int)} {vs : List Value} {cp : Nat} {row : List Int} (N : News h₀ L s.heap news) (hD : (D, W.listOf sv.toArray c) ∈ news) (hS : RowsAre news sv srows) (hp : (p, W.listOf vs.toArray cp) ∈ news) (hI : IntsAre vs row) (hm : row ∈ srows) (h64 : srows.length < 64)
    (hu' : A.units + 66 < cLine) (h : ∀ t k, Q (.int (srows.idxOf row : Nat) t) { s with toks := k }) : wpAny (model prog w) A (call (.builtin "list.index") [.ref D, .ref p]) Q E s := by
  classical
  have hu : A.in1.units + 64 < cLine := by show A.units + 1 + 64 < cLine; omega
  let e : Value → Bool := fun v => decide (∃ q us c, v = .ref q ∧ (q, W.listOf us.toArray c) ∈ news ∧ IntsAre us row)
  have eAt : ∀ i, (hi : i < srows.length) → ∃ q us c, sv.getD i Value.none = .ref q ∧ (q, W.listOf us.toArray c) ∈ news ∧ IntsAre us srows[i] ∧ e (.ref q) = decide (srows[i] = row) := by
    intro i hi
    obtain ⟨q, us, c, e1, hm, hI'⟩ := hS.at hi
    have e2 : srows.getD i [] = srows[i] := by simp [List.getD, hi]
    rw [e2] at hI'
    refine ⟨q, us, c, e1, hm, hI', ?_⟩
    show decide _ = decide _
    refine decide_eq_decide.mpr ⟨?_, fun hr => ⟨q, us, c, rfl, hm, hr ▸ hI'⟩⟩
    rintro ⟨q', us', c', eq, hm', hI2⟩
    obtain rfl : q = q' := by injection eq
    have a := (N _ hm).1
    have b := (N _ hm').1
    rw [a] at b
    have d : us.toArray = us'.toArray := by
      have := congrArg (fun o : Option Obj => o.map (·.data)) b
      simp only [Option.map_some, Option.some.injEq] at this
      have t : Data.seq us.toArray c = Data.seq us'.toArray c' := this
      injection t
    have d' : us = us' := by simpa using congrArg Array.toList d
    subst d'
    exact ints_inj hI' hI2
  have hlen : sv.length = srows.length := hS.length
  have hj : srows.idxOf row < srows.length := List.idxOf_lt_length_iff.mpr hm
  have getE : ∀ i, (hi : i < sv.toArray.size) → ∃ q us c, sv.toArray[i] = .ref q ∧ (q, W.listOf us.toArray c) ∈ news ∧ IntsAre us (srows[i]'(by simpa [hlen] using hi)) ∧ e sv.toArray[i] = decide (srows[i]'(by simpa [hlen] using hi) = row) := by
    intro i hi
    have hi' : i < srows.length := by simpa [hlen] using hi
    obtain ⟨q, us, c, e1, r1, r2, r3⟩ := eAt i hi'
    have e2 : sv.toArray[i] = .ref q := by
      rw [← e1]
      have hi2 : i < sv.length := by omega
      simp [List.getD, hi2]
    refine ⟨q, us, c, e2, r1, r2, ?_⟩
    rw [e2]; exact r3
  have hjs : srows.idxOf row < sv.toArray.size := by rw [List.size_toArray]; omega
  refine call_meetsIn PySem.F.slot_list_index ⟨_, (N _ hD).1, rfl⟩ PySem.F.entry_list_index (PySem.F.args_list_index_2 _ _)
    (fun A R s h => SeqAt.list_indexAt D sv.toArray c none #[] (.ref p) e (srows.idxOf row) hjs (by omega) ?_ ?_ prog w A R s h) ⟨(N _ hD).1, fun y hy => ?_, h _ _⟩
  · obtain ⟨q, us, c, _, _, _, r⟩ := getE _ hjs
    rw [r]
    exact decide_eq_true (List.getElem_idxOf hj)
  · intro i hi hlt
    obtain ⟨q, us, c, _, _, _, r⟩ := getE _ hi
    rw [r]
    refine decide_eq_false fun heq => ?_
    exact idxOf_first _ hlt heq
  · obtain ⟨i, hi, rfl⟩ := Array.getElem_of_mem hy
    obtain ⟨q, us, c, e1, hm', hI', r⟩ := getE _ hi
    rw [r, e1]
    exact keq_ints ⟨_, (N _ hm').1, rfl, _, rfl⟩ hI' ⟨_, (N _ hp).1, rfl, _, rfl⟩ hI hu
end
end
section
open PyProof.Rows.LCg PyProof.Rows.LCt PyProof.Rows.LCp
section
variable {w : World} {mg mb : Str → Option Value} {loose : List Str} {ad : Str → Addr} {news : Led}
theorem u66 {un : Nat} (h : un + 300 < cLine) : un + 66 < cLine := by omega
local macro_rules | `(tactic| walk_at $s) => ml s "
 call builtin:sorted => R isorted_rows ?F ?N ?m ?R ?l ?a ?b ?u ?_; c F k_asm N k_asm m k_mem R =RowsAre.mono'~{hyp}~{sub} l hyp a hyp b hyp u =u66~{assumption} ! i D' c' h' tk' F' N' l1; l l1; sw"
inductive B4P (g : Heap) (L RL : Addr) (s₁ : Shared) (rv sv : List Value) (rc : Nat) (news : Led) : Flow → Shared → Prop
  | mk (h' : Heap) (tk : Nat) (m' : Str → Option Value) (D : Addr) (c : Nat) (oo' : Obj) (x0 : Fr g L h' m') (x1 : AgreeV m' [("rows", .ref RL)]) (x2 : News g L h' ((D, W.listOf sv.toArray c) :: (L + 1, oo') :: (RL, W.listOf rv.toArray rc) :: news)) (x3 : oo'.data = .cell (some (.ref D))) (x4 : (@LT.lt Nat _ RL D)) : B4P g L RL s₁ rv sv rc news (.next) { s₁ with heap := h', toks := tk }
theorem law_b4 {st : Stmt} (hst : st = stB 4) {RL : Addr} {oo : Obj} {v₀ : Option Value} {rv : List Value} {rc : Nat} {rows : List (List Int)} {dp un : Nat} {gd : Option (List Code)} {cd : Value} {A₀ : Around} {base g : Heap} {L : Addr} {s : Shared} {m : Str → Option Value}
    (B : Below A₀ base [] g) (GG : G w mg mb loose ad g) (hd : dp + 300 < recursionLimit) (hu : un + 300 < cLine) (KX : Frag.In [] g) (d0 : oo.data = .cell v₀)
    (hn : ∀ p ∈ news, p.1 ≠ L + 1) (hRL : @LT.lt Nat _ (L + 1) RL) (hR : RowsAre news rv rows) (h4 : ∀ r ∈ rows, r.length = 4) (h2 : 2 ≤ rows.length) (h64 : rows.length < 64)
    (F1 : Fr g L s.heap (over [("rows", .ref RL)] m)) (N1 : News g L s.heap ((L + 1, oo) :: (RL, W.listOf rv.toArray rc) :: news)) :
    wpAny (model prog w) (ktrTop dp un gd (fname 35) (fscope 35) L (ad "law") cd [("places", L + 3), ("names", L + 2), ("order", L + 1)] []) (exec st (envX (fname 35) (fscope 35) L (ad "law") cd [("places", L + 3), ("names", L + 2), ("order", L + 1)])) (B4P g L RL s rv ((ksorted rows.length (ltRows rows)).map fun i => rv.getD i Value.none) rc news) (fun _ _ => False) s := by
  subst hst
  conv in stB 4 => dsimp only [stB, fbody, stm, prog, PySem.Challenge.pw_il0214_01, List.getElem?_cons_succ, List.getElem?_cons_zero, Option.getD_some]
  k_steps
  rename News _ _ _ _ => NN
  rename Fr _ _ _ _ => FF
  exact .mk _ _ _ _ _ _ FF (.cons (by repeat (first | exact if_pos rfl | refine (if_neg (by decide +kernel)).trans ?_ | with_unfolding_all rfl)) .nil) NN (by assumption) (by assumption : @LT.lt Nat _ (L + 1) _ ∧ @LT.lt Nat _ RL _ ∧ _).2.1
noncomputable def placesOf (rows : List (List Int)) : List Int := rows.map fun r => (((sortRows rows).idxOf r : Nat) : Int)
local macro_rules | `(tactic| walk_at $s) => ml s "
 eval ListComp => r Stop.out @p=_ ?_
 call builtin:list.index => R idx_rows ?N ?D ?S ?p ?I ?m ?l ?u ?_; c N k_asm D k_mem S =RowsAre.mono'~{hyp}~{sub} p memh I hyp m hyp l hyp u =u66~{assumption} ! i t' k'"
inductive B5P (g : Heap) (L RL D : Addr) (s₁ : Shared) (rows : List (List Int)) (led : Led) : Flow → Shared → Prop
  | mk (h' : Heap) (tk : Nat) (m' : Str → Option Value) (PL : Addr) (pv : List Value) (c : Nat) (op' : Obj) (x0 : Fr g L h' m') (x1 : AgreeV m' [("rows", .ref RL)]) (x2 : News g L h' ((PL, W.listOf (List.toArray pv) c) :: (L + 3, op') :: led)) (x3 : op'.data = .cell (some (.ref PL))) (x4 : IntsAre pv (placesOf rows)) : B5P g L RL D s₁ rows led (.next) { s₁ with heap := h', toks := tk }
theorem law_b5 {st : Stmt} (hst : st = stB 5) {RL D : Addr} {oo op : Obj} {v₀ : Option Value} {rv sv : List Value} {rc c : Nat} {rows : List (List Int)} {dp un : Nat} {gd : Option (List Code)} {cd : Value} {A₀ : Around} {base g : Heap} {L : Addr} {s : Shared} {m : Str → Option Value}
    (B : Below A₀ base [] g) (GG : G w mg mb loose ad g) (hd : dp + 300 < recursionLimit) (hu : un + 300 < cLine) (KX : Frag.In [] g) (d0 : op.data = .cell v₀) (d1 : oo.data = .cell (some (.ref D)))
    (hn : ∀ p ∈ news, p.1 ≠ L + 3) (hRL : @LT.lt Nat _ (L + 3) RL ∧ @LT.lt Nat _ (L + 3) D) (hR : RowsAre news rv rows) (hS : RowsAre news sv (sortRows rows)) (h0 : 0 < rows.length) (h64 : rows.length < 64)
    (F1 : Fr g L s.heap (over [("rows", .ref RL)] m)) (N1 : News g L s.heap ((L + 3, op) :: (D, W.listOf sv.toArray c) :: (L + 1, oo) :: (RL, W.listOf rv.toArray rc) :: news)) :
    wpAny (model prog w) (ktrTop dp un gd (fname 35) (fscope 35) L (ad "law") cd [("places", L + 3), ("names", L + 2), ("order", L + 1)] []) (exec st (envX (fname 35) (fscope 35) L (ad "law") cd [("places", L + 3), ("names", L + 2), ("order", L + 1)])) (B5P g L RL D s rows ((D, W.listOf sv.toArray c) :: (L + 1, oo) :: (RL, W.listOf rv.toArray rc) :: news)) (fun _ _ => False) s := by
  subst hst
  conv in stB 5 => dsimp only [stB, fbody, stm, prog, PySem.Challenge.pw_il0214_01, List.getElem?_cons_succ, List.getElem?_cons_zero, Option.getD_some]
  have hs64 : (sortRows rows).length < 64 := by
    have := (ksorted_perm h0 (ltRows rows)).length_eq
    rw [List.length_range] at this
    unfold sortRows
    rw [List.length_map, this]; exact h64
  obtain ⟨n1, n2⟩ := hRL
  k_steps
  refine ⟨?_⟩
  refine comp_listJ (L := L) F1 rfl (fun ax its i ys nw => its = rv.toArray ∧ ax = RL ∧ nw = (L + 3, op) :: (D, W.listOf sv.toArray c) :: (L + 1, oo) :: (RL, W.listOf rv.toArray rc) :: news ∧ IntsAre ys ((placesOf rows).take i)) rfl (by decide) rfl (by decide) rfl ?_ (fun _ => rfl)
  k_steps
  refine ⟨⟨RL, rv.toArray, rc, _, rfl, F1, N1, (by rw [List.size_toArray, hR.length]; omega), ⟨rfl, rfl, rfl, .nil⟩, ?_, ?_, ?_⟩⟩
  · rintro i ys nw ⟨-, -, rfl, -⟩
    exact .tail _ (.tail _ (.tail _ (.head _)))
  · rintro i ys nw v I oI C oC D₂ m₂ h tk E' hi ⟨-, -, rfl, hI⟩ hv hC hx F N off
    have hi' : i < rows.length := by rw [← hR.length]; simpa using hi
    obtain ⟨p, vs, cp, e1, hm, hIr⟩ := hR.at hi'
    have ev : v = .ref p := by
      have hi2 : i < rv.length := by rw [hR.length]; exact hi'
      have hv' : rv[i]? = some v := by simpa using hv
      rw [List.getElem?_eq_getElem hi2] at hv'
      rw [← Option.some.inj hv', ← e1]
      simp [List.getD, hi2]
    subst ev
    have hrow : rows.getD i [] ∈ sortRows rows := by
      have : i ∈ ksorted rows.length (ltRows rows) := (ksorted_perm h0 (ltRows rows)).mem_iff.mpr (List.mem_range.mpr hi')
      exact List.mem_map.mpr ⟨i, this, rfl⟩
    have htk : (placesOf rows).take (i + 1) = (placesOf rows).take i ++ [(((sortRows rows).idxOf (rows.getD i []) : Nat) : Int)] := by
      rw [List.take_add_one]
      unfold placesOf
      rw [List.getElem?_map, List.getElem?_eq_getElem hi']
      simp [List.getD, hi']
    generalize rows.getD i [] = row at *
    k_steps
    refine ⟨_, _, _, rfl, by k_asm, by k_asm, off, rfl, rfl, rfl, ?_⟩
    rw [htk]
    exact hI.append (.cons _ _ .nil)
  · rintro D₂ ys nw h tk ⟨-, -, rfl, hI⟩ F N o
    have hlen : rv.toArray.size = (placesOf rows).length := by rw [List.size_toArray, hR.length]; unfold placesOf; rw [List.length_map]
    rw [hlen, List.take_length] at hI
    have n3 : @Ne Nat (L + 3) D₂ := o.1
    k_steps
    rename News _ _ _ _ => NN
    rename Fr _ _ _ _ => FF
    exact .mk _ _ _ _ _ _ _ FF (.cons (by repeat (first | exact if_pos rfl | refine (if_neg (by decide +kernel)).trans ?_ | with_unfolding_all rfl)) .nil) NN (by assumption) hI
end
end
theorem fl_18 {M : Model} {A : Around} {E : Value → Shared → Prop} {s : Shared} {Q : Bool → Shared → Prop} {v : Value} (h : wpAny M A (truthy v) Q E s) : wpAny M A (truthy v) Q E s := by
  first
    | (walk1; done)
    | exact h
section
open PyProof.Rows.LCg PyProof.Rows.LCt PyProof.Rows.LCp
section
variable {w : World} {mg mb : Str → Option Value} {loose : List Str} {ad : Str → Addr} {news : Led}
theorem nm_item {A : Around} {E : Value → Shared → Prop} {s : Shared} {h₀ : Heap} {L NL : Addr} {nv : List Value} {nc : Nat} {names : List Str} {i : Nat} {u : Tok} {value slice : PySem.Expr} {Q : Value → Shared → Prop} (N : News h₀ L s.heap news) (hm : (NL, W.listOf nv.toArray nc) ∈ news) (hS : StrsAre nv names) (hi : i < names.length) (h64 : names.length < 64)
    (h : ∀ t', Q (.str (names.getD i PySem.Str.empty) t') s) (hs : subscripted slice false (.ref NL) (.int (0 + (i : Int)) u) = operate [.ref NL, .int (0 + (i : Int)) u] (getItem (.ref NL) (.int (0 + (i : Int)) u))) :
    wpAny (model prog w) A (subscriptTail value slice (.ref NL) (.int (0 + (i : Int)) u)) Q E s :=
  KTb.item_list ⟨_, (N _ hm).1, rfl, _, rfl⟩ hS (by omega) (by omega) (by omega) (fun t' _ => by rw [show (0 + (i : Int)).toNat = i by omega]; exact h t') hs
theorem pl_item {A : Around} {E : Value → Shared → Prop} {s : Shared} {h₀ : Heap} {L NL : Addr} {nv : List Value} {nc : Nat} {names : List Int} {i : Nat} {u : Tok} {value slice : PySem.Expr} {Q : Value → Shared → Prop} (N : News h₀ L s.heap news) (hm : (NL, W.listOf nv.toArray nc) ∈ news) (hS : IntsAre nv names) (hi : i < names.length) (h64 : names.length < 64)
    (h : ∀ t', Q (.int (names.getD i 0) t') s) (hs : subscripted slice false (.ref NL) (.int (0 + (i : Int)) u) = operate [.ref NL, .int (0 + (i : Int)) u] (getItem (.ref NL) (.int (0 + (i : Int)) u))) :
    wpAny (model prog w) A (subscriptTail value slice (.ref NL) (.int (0 + (i : Int)) u)) Q E s :=
  item_anyK ⟨_, (N _ hm).1, rfl, _, rfl⟩ hS (by omega) (by omega) (by omega) (fun t' => by rw [show (0 + (i : Int)).toNat = i by omega]; exact h t') hs
local macro_rules | `(tactic| walk_at $s) => ml s "
 pyIter ref => r Stop.out @p=_ ?_
 call ref => r Says.useS {@pre} ( strcoll_says _ _ _ _ ) ?_ ! i k' h' tk' F' N'; sw
 subscriptTail Name Name ref int => R nm_item ?N ?m ?S ?i ?l ?_ ?s; c N k_asm S hyp m k_mem i hyp l hyp s wu; i _ | R pl_item ?N ?m ?S ?i ?l ?_ ?s; c N k_asm S hyp m k_mem i hyp l hyp s wu; i _"
theorem rangeSize_n (n : Nat) : Builtin.Range.rangeSize 0 (n : Int) 1 = (n : Int) := by
  have := rangeSize_nat 0 (n : Int)
  rw [this]; omega
theorem clamp_if (d : Int) : max (-1) (min 1 d) = if (if d < 1 then d else 1) > -1 then (if d < 1 then d else 1) else -1 := by
  by_cases h : d < 1
  · rw [if_pos h]; split <;> omega
  · rw [if_neg h]; split <;> omega
noncomputable def cmpS (a b : Str) : Int := b2i (decide (b.cps.toList < a.cps.toList)) - b2i (decide (a.cps.toList < b.cps.toList))
inductive B6P (g : Heap) (L : Addr) (s₁ : Shared) (led : Led) : Flow → Shared → Prop
  | mk (h' : Heap) (tk : Nat) (m' : Str → Option Value) (x0 : Fr g L h' m') (x1 : News g L h' led) : B6P g L s₁ led (.next) { s₁ with heap := h', toks := tk }
theorem law_b6 {st : Stmt} (hst : st = stB 6) {NL PL : Addr} {on op : Obj} {nv pv : List Value} {nc pc : Nat} {names : List Str} {places : List Int} {dp un : Nat} {gd : Option (List Code)} {cd : Value} {A₀ : Around} {base g : Heap} {L : Addr} {s : Shared} {m : Str → Option Value}
    (B : Below A₀ base [] g) (GG : G w mg mb loose ad g) (hd : dp + 300 < recursionLimit) (hu : un + 300 < cLine) (KX : Frag.In [] g) (dn : on.data = .cell (some (.ref NL))) (dp' : op.data = .cell (some (.ref PL)))
    (hS : StrsAre nv names) (hP : IntsAre pv places) (hlen : places.length = names.length) (h64 : names.length < 64) (h64' : places.length < 64)
    (hcmp : ∀ i j, i < names.length → j < names.length → cmpS (names.getD i PySem.Str.empty) (names.getD j PySem.Str.empty) = max (-1) (min 1 (places.getD i 0 - places.getD j 0)))
    (F1 : Fr g L s.heap m) (N1 : News g L s.heap ((NL, W.listOf nv.toArray nc) :: (L + 2, on) :: (PL, W.listOf pv.toArray pc) :: (L + 3, op) :: news)) :
    wpAny (model prog w) (ktrTop dp un gd (fname 35) (fscope 35) L (ad "law") cd [("places", L + 3), ("names", L + 2), ("order", L + 1)] []) (exec st (envX (fname 35) (fscope 35) L (ad "law") cd [("places", L + 3), ("names", L + 2), ("order", L + 1)])) (B6P g L s ((NL, W.listOf nv.toArray nc) :: (L + 2, on) :: (PL, W.listOf pv.toArray pc) :: (L + 3, op) :: news)) (fun _ _ => False) s := by
  subst hst
  conv in stB 6 => dsimp only [stB, fbody, stm, prog, PySem.Challenge.pw_il0214_01, List.getElem?_cons_succ, List.getElem?_cons_zero, Option.getD_some]
  have hnl : nv.length = names.length := strs_len hS
  k_steps
  refine ⟨?_⟩
  rename IsRange _ _ _ _ _ _ _ _ => R1
  refine' iter_range_0 (α := Unit) (n := names.length) rfl R1 ?sm ?rs (fun _ _ => []) [] [] (fun _ _ => []) ((NL, W.listOf nv.toArray nc) :: (L + 2, on) :: (PL, W.listOf pv.toArray pc) :: (L + 3, op) :: news) (fun _ _ => True) () ?F ?N (Nat.le_refl _) (fun p hp => hp) trivial (fun _ h => nomatch h) ?turn ?done
  case sm => exact small_one (by omega) (by omega) (by omega) (by omega)
  case rs => exact rangeSize_n _
  case F => k_asm
  case N => k_asm
  case done =>
    intro a m1 h1 tk1 _ F' N'
    exact .mk _ _ _ F' N'
  case turn =>
    intro i a ti I io m1 h1 tk1 hi _ hlt F' N'
    dsimp only [List.zip, List.zipWith, List.cons_append, List.nil_append] at N'
    refine @gq _ _ _ _ _ _ _ fun Q1 hQ1 => ?_
    k_steps
    refine ⟨?_⟩
    rename IsRange _ _ _ _ _ _ _ _ => R2
    refine' iter_range_0 (α := Unit) (n := names.length) rfl R2 ?sm2 ?rs2 (fun _ _ => []) [("i", .int (0 + (i : Int)) ti)] [] (fun _ _ => []) ((I, io) :: (NL, W.listOf nv.toArray nc) :: (L + 2, on) :: (PL, W.listOf pv.toArray pc) :: (L + 3, op) :: news) (fun _ _ => True) () ?F2 ?N2 (Nat.le_refl _) (fun p hp => hp) trivial ?V2 ?turn2 ?done2
    case sm2 => exact small_one (by omega) (by omega) (by omega) (by omega)
    case rs2 => exact rangeSize_n _
    case F2 => k_asm
    case N2 => k_asm
    case V2 => exact .cons (by repeat (first | exact if_pos rfl | refine (if_neg (by decide +kernel)).trans ?_ | with_unfolding_all rfl)) .nil
    case done2 =>
      intro a2 m2 h2 tk2 _ F'' N''
      dsimp only [List.zip, List.zipWith, List.cons_append, List.nil_append] at N''
      k_steps
      exact hQ1 .next _ ⟨_, _, _, _, (), rfl, by k_asm, by k_asm, .head _, fun p hp => .tail _ hp, trivial, fun _ h => nomatch h⟩
    case turn2 =>
      intro j a2 tj J jo m2 h2 tk2 hj _ hlt2 F'' N''
      dsimp only [List.zip, List.zipWith, List.cons_append, List.nil_append] at N''
      have hc := hcmp i j hi hj
      have hi2 : i < places.length := by rw [hlen]; exact hi
      have hj2 : j < places.length := by rw [hlen]; exact hj
      rw [clamp_if] at hc
      unfold cmpS at hc
      refine @gq _ _ _ _ _ _ _ fun Q2 hQ2 => ?_
      k_steps
      all_goals first
        | exact absurd hc (by assumption)
        | exact hQ2 .next _ ⟨_, _, _, _, (), rfl, by k_asm, by k_asm, .head _, fun p hp => .tail _ hp, trivial, .cons (by repeat (first | exact if_pos rfl | refine (if_neg (by decide +kernel)).trans ?_ | with_unfolding_all rfl)) .nil⟩
end
end
theorem fl_19 {M : Model} {A : Around} {E : Value → Shared → Prop} {s : Shared} {Q : Bool → Shared → Prop} {v : Value} (h : wpAny M A (truthy v) Q E s) : wpAny M A (truthy v) Q E s := by
  first
    | (walk1; done)
    | exact h
section
open PyProof.Rows.LCg PyProof.Rows.LCt PyProof.Rows.LCp
section
variable {w : World} {A : Around} {E : Value → Shared → Prop} {s : Shared} {h₀ : Heap} {L : Addr} {m : Str → Option Value} {news : Led}
theorem code_iadd_rng {R : Result → Shared → Prop} {r S : Addr} {b : Int} {t u v : Tok} {n : Nat} (hh : A.handled = none) (hr : IsRange s.heap r 0 b 1 t u v) (hsm : Builtin.Range.small 0 b 1 = true) (hn : Builtin.Range.rangeSize 0 b 1 = (n : Int)) (hz : n ≤ 64) (hS : s.heap.get? S = some (seqObj "list" #[] 0))
    (hR : ∀ h' tk acc' c', (∀ b o, b ≠ S → s.heap.get? b = some o → h'.get? b = some o) → h'.get? S = some { cls := .type "list", dict := none, data := .seq acc' c', slots := #[] } →
      ItemsOf (fun i v => ∃ t, v = .int (0 + i * 1) t) acc' n → R (.ok (.ret (.ref S))) { s with heap := h', toks := tk }) : codeAny (model prog w) A (.builtin "list.__iadd__" ⟨[.ref S, .ref r], []⟩) R s := by
  refine codeAny_builtin entry_list_iadd' ?_
  rw [Around.under_plainId PySem.F.plain_list_iadd _]
  show wpAny _ _ (Builtin.List.listExtendWith (.ref S) (.ref r) (.ref S)) _ _ s
  exact wpAny_extend_range hh hr hsm hn (by omega) S (.ref S) 0 hS hR
theorem collect_rng {r : Addr} {b : Int} {t u v : Tok} {n : Nat} {Q : List Value → Shared → Prop} (hh : A.handled = none) (hr : IsRange s.heap r 0 b 1 t u v) (hsm : Builtin.Range.small 0 b 1 = true) (hn : Builtin.Range.rangeSize 0 b 1 = (n : Int)) (hz : n ≤ 64)
    (h : ∀ vs h' tk, IntsAre vs (rangeInts 0 1 n) → (∀ c o, s.heap.get? c = some o → h'.get? c = some o) → Q vs { s with heap := h', toks := tk }) : wpAny (model prog w) A (collect (.ref r)) Q E s := by
  unfold collect
  refine wpAny_bind (wpAny_runValue (codeAny_builtin entry_proto_collect' ?_))
  show wpAny _ _ (do again (.builtin "list.__iadd__" ⟨[← newList [], .ref r], []⟩)) _ _ s
  have hS : (s.heap.push (seqObj "list" #[] 0)).get? s.heap.objs.size = some (seqObj "list" #[] 0) := Heap.get?_push_size _ rfl
  refine wpAny_bind (wpAny_newList (wpAny_pure ⟨Code.quiet_builtin _ (by decide +kernel), code_iadd_rng (S := s.heap.objs.size) (s := { s with heap := s.heap.push (seqObj "list" #[] 0) }) hh (Heap.get?_push_of_some _ hr) hsm hn hz hS fun h' tk acc' c' hk hS' hacc => ?_⟩))
  show wpAny (model prog w) A (do
      let o ← load s.heap.objs.size
      match o.data with
      | .seq xs _ => pure xs.toList
      | _ => unsupported "internal:collect") Q E { s with heap := h', toks := tk }
  refine wpAny_bind (wpAny_load hS' ?_)
  show wpAny _ _ (pure acc'.toList) Q E _
  refine wpAny_pure (h _ _ _ (ints_of_carried (carriedAll_of_get _ _ (by simp [hacc.1, rangeInts_length]) fun j v hv => ?_)) fun c o e => hk c o (Nat.ne_of_lt (Heap.lt_size e)) (Heap.get?_push_of_some _ e))
  have hv' : acc'[j]? = some v := by simpa using hv
  obtain ⟨tk, rfl⟩ := hacc.2 j v hv'
  have hj : j < n := by
    have := (Array.getElem?_eq_some_iff.mp hv').1
    rw [hacc.1] at this; exact this
  exact ⟨.int (0 + (j : Nat) * 1), by simp [rangeInts_get hj], .int _ _⟩
theorem sortedK_rng {r q : Addr} {b : Int} {t u v : Tok} {n : Nat} {Q : Value → Shared → Prop} (hh : A.handled = none) (F : Fr h₀ L s.heap m) (N : News h₀ L s.heap news) (hr : IsRange s.heap r 0 b 1 t u v) (hsm : Builtin.Range.small 0 b 1 = true) (hn : Builtin.Range.rangeSize 0 b 1 = (n : Int)) (h2 : 2 ≤ n) (h64 : n < 64)
    (h : ∀ D kS e1 h' tk vs, IntsAre vs (rangeInts 0 1 n) → Fr h₀ L h' m → News h₀ L h' ((kS, seqObj "list" #[] 0) :: (D, seqObj "list" #[] e1) :: news) → D < kS → (∀ q ∈ news, q.1 < D) →
      KatKeys prog w A.in1.in1 h₀ L m kS (.ref q) (fun ks e s' => wpAny (model prog w) A.in1.in1 (keyKind' (List.toArray ks)) (fun κ s'' => (kas_sort n).kasWp (kas_ask prog w A.in1.in1 κ ks) (fun p s3 => KatFin h₀ L m kS D ks e e1 (p.toList.map fun i => vs.getD i Value.none) (fun s4 => Q (.ref D) s4) s3) s'') (fun _ _ => False) s') vs [] 0 { s with heap := h', toks := tk }) :
    wpAny (model prog w) A (call (.builtin "sorted") [.ref r] [(PySem.Str.ofString "key", .ref q)]) Q E s := by
  refine call_function_entry_kw kind_sorted plain_sorted entry_sorted (by ksk_a1) ?_
  unfold Builtin.«sorted»
  refine wpAny_bind (m := checkCount "sorted" 1 1 _) (wpAny_pure ?_)
  refine wpAny_bind (collect_rng hh hr hsm hn (by omega) fun vs h1 tk1 hI k1 => ?_)
  have hvl : vs.length = n := by rw [hI.length, rangeInts_length]
  subst hvl
  refine wpAny_bind (wpAny_newList ?_ (by rw [sizeLine_eq]; omega))
  have keep : ∀ b o, s.heap.get? b = some o → (h1.push (seqObj "list" vs.toArray 0)).get? b = some o := fun b o e => Heap.get?_push_of_some _ (k1 b o e)
  have hoL : (h1.push (seqObj "list" vs.toArray 0)).get? h1.objs.size = some (seqObj "list" vs.toArray 0) := Heap.get?_push_size _ rfl
  have F1 : Fr h₀ L h1 m := F.kept k1
  have hL : L < h1.objs.size := F1.ns.lt
  show wpAny _ _ _ _ _ { s with heap := h1.push (seqObj "list" vs.toArray 0), toks := tk1 }
  refine wpAny_bind (wpAny_holding (wpAny_call_entry_kw slot_list_sort ⟨_, hoL, rfl⟩ entry_list_sort ?body (by ksk_a2)))
  case body =>
    show wpAny (model prog w) A.in1.in1 (Builtin.«list.sort» ⟨[.ref h1.objs.size], [(PySem.Str.ofString "key", .ref q)]⟩) _ _ _
    rw [ksk_t1]
    refine kat_keyed (b := false) (s := { s with heap := h1.push (seqObj "list" vs.toArray 0), toks := tk1 })
      (F.kept keep) (N.grown keep) hoL (Nat.ne_of_gt hL) (Heap.get?_none_of_le (Nat.le_trans F.above (Nat.le_of_lt hL)))
      (fun p hp => Nat.ne_of_lt (Heap.lt_size (N.grown k1 p hp).1)) h2 h64 fun kS e1 h' F' N' l0 l1 => ?_
    refine kat_keys_mono (h _ kS e1 h' tk1 vs hI F' N' l0 fun q hq => Heap.lt_size (N.grown k1 q hq).1) fun ks e s' hl' hd => ?_
    have hl2 : ks.length = vs.length := by simpa using hl'
    refine wpAny_mono hd (fun κ s'' hk => ?_) fun _ _ x => x
    show (kas_sort vs.length).kasWp (kas_ask prog w A.in1.in1 κ ks) _ _
    rw [kat_ask_eq (vs := vs) hl2] at hk ⊢
    exact kas_wp_mono hk fun p s3 hk' => hk'.mono fun s4 hq => ⟨_, rfl, wpAny_pure ⟨_, rfl, hq⟩⟩
end
end
section
open PyProof.Rows.LCg PyProof.Rows.LCt PyProof.Rows.LCp
noncomputable def fragOf (h : Heap) (l : List Addr) : Frag := l.filterMap fun a => (h.get? a).map fun o => (a, o)
theorem frag_sound {h : Heap} {a : Addr} {o : Obj} : ∀ {l : List Addr}, (fragOf h l).lookup a = some o → h.get? a = some o
  | [], e => by cases e
  | b :: l, e => by
    unfold fragOf at e
    rw [List.filterMap_cons] at e
    cases hb : h.get? b with
    | none => rw [hb] at e; exact frag_sound (l := l) e
    | some x =>
      rw [hb] at e
      simp only [Option.map_some, List.lookup] at e
      split at e
      · rename_i q
        cases e
        rw [beq_iff_eq.mp q]; exact hb
      · exact frag_sound (l := l) e
theorem frag_complete {h : Heap} {a : Addr} {o : Obj} (ho : h.get? a = some o) : ∀ {l : List Addr}, a ∈ l → (fragOf h l).lookup a = some o
  | b :: l, hm => by
    unfold fragOf
    rw [List.filterMap_cons]
    by_cases hab : a = b
    · subst hab
      rw [ho]
      simp [List.lookup]
    · have hm' : a ∈ l := by
        rcases List.mem_cons.mp hm with e | e
        · exact absurd e hab
        · exact e
      cases hb : h.get? b with
      | none => exact frag_complete ho hm'
      | some x =>
        simp only [Option.map_some, List.lookup]
        have : (a == b) = false := by simpa using hab
        rw [this]
        exact frag_complete ho hm'
noncomputable def allFrag (h : Heap) : Frag := fragOf h (List.range h.objs.size)
theorem allFrag_in (h : Heap) : Frag.In (allFrag h) h := fun a o e => frag_sound e
theorem allFrag_keep {h g : Heap} (x : Frag.In (allFrag h) g) : ∀ b o, h.get? b = some o → g.get? b = some o := fun b o e => x b o (frag_complete e (List.mem_range.mpr (Heap.lt_size e)))
section
variable {w : World} {A : Around} {E : Value → Shared → Prop} {s : Shared} {h₀ : Heap} {L : Addr} {m : Str → Option Value} {news : Led}
noncomputable def KeysP (P : Nat → Value → Prop) (ks : List Value) : Prop := ∀ j, j < ks.length → P j (ks.getD j Value.none)
theorem KeysP.snoc {P : Nat → Value → Prop} {ks : List Value} {k : Value} (h : KeysP P ks) (hk : P ks.length k) : KeysP P (ks ++ [k]) := by
  intro j hj
  rw [List.length_append, List.length_singleton] at hj
  by_cases h1 : j < ks.length
  · have := h j h1
    rwa [List.getD_eq_getElem?_getD, List.getElem?_append_left h1, ← List.getD_eq_getElem?_getD]
  · obtain rfl : j = ks.length := by omega
    simpa [List.getD_eq_getElem?_getD] using hk
theorem keys_run {kS : Addr} {f : Value} {Fin : List Value → Nat → Shared → Prop} {led : Led} {P : Nat → Value → Prop} {n : Nat} (hne : ∀ p ∈ led, p.1 ≠ kS)
    (hcall : ∀ i t ks e h tk (Q : Value → Shared → Prop), i < n → Fr h₀ L h m → News h₀ L h ((kS, seqObj "list" (List.toArray ks) e) :: led) →
      (∀ k h' tk', P i k → Fr h₀ L h' m → News h₀ L h' ((kS, seqObj "list" (List.toArray ks) e) :: led) → Q k { s with heap := h', toks := tk' }) → wpAny (model prog w) A (call f [.int (i : Nat) t]) Q (fun _ _ => False) { s with heap := h, toks := tk })
    (fin : ∀ ks e h tk, KeysP P ks → ks.length = n → Fr h₀ L h m → News h₀ L h ((kS, seqObj "list" (List.toArray ks) e) :: led) → Fin ks e { s with heap := h, toks := tk }) :
    ∀ (r : List Value) (ks : List Value) (e : Nat) (h : Heap) (tk : Nat), (∀ j, j < r.length → ∃ t, r[j]? = some (.int ((ks.length + j : Nat) : Int) t)) → ks.length + r.length = n → KeysP P ks → Fr h₀ L h m → News h₀ L h ((kS, seqObj "list" (List.toArray ks) e) :: led) →
      KatKeys prog w A h₀ L m kS f Fin r ks e { s with heap := h, toks := tk }
  | [], ks, e, h, tk, _, hl, hP, F, N => KatKeys.nil (fin ks e h tk hP (by simpa using hl) F N)
  | v :: r, ks, e, h, tk, hr, hl, hP, F, N => by
    obtain ⟨t, e0⟩ := hr 0 (Nat.zero_lt_succ _)
    have ev : v = .int (ks.length : Nat) t := by simpa using e0
    subst ev
    rw [List.length_cons] at hl
    refine KatKeys.cons (hcall ks.length t ks e h tk _ (by omega) F N fun k h' tk' hk F' N' => ?_)
    refine KatBack.intro F' N' (.head hne) fun h2 c F2 N2 => ?_
    refine keys_run hne hcall fin r (ks ++ [k]) c h2 tk' (fun j hj => ?_) (by rw [List.length_append, List.length_singleton]; omega) (hP.snoc hk) F2 N2
    obtain ⟨t', e'⟩ := hr (j + 1) (Nat.succ_lt_succ hj)
    refine ⟨t', ?_⟩
    rw [List.getElem?_cons_succ] at e'
    rw [e', List.length_append, List.length_singleton]
    congr 3
    omega
theorem ints_map_getD {vs : List Value} {n : Nat} (hI : IntsAre vs (rangeInts 0 1 n)) : ∀ {l : List Nat}, (∀ i ∈ l, i < n) → IntsAre (l.map fun i => vs.getD i Value.none) (l.map fun i => ((i : Nat) : Int))
  | [], _ => .nil
  | i :: l, hl => by
    have hi := hl i (.head _)
    have ex : (rangeInts 0 1 n)[i]? = some ((i : Nat) : Int) := by rw [rangeInts_get hi]; simp
    obtain ⟨t, et⟩ := ints_get hI ex
    have ev : vs.getD i Value.none = .int (i : Nat) t := by rw [List.getD_eq_getElem?_getD, et]; rfl
    rw [List.map_cons, List.map_cons, ev]
    exact .cons _ _ (ints_map_getD hI fun j hj => hl j (.tail _ hj))
theorem isorted_key {r q : Addr} {b : Int} {t u v : Tok} {n : Nat} {Q : Value → Shared → Prop} (lt : Nat → Nat → Bool) (P : Nat → Value → Prop) (T : Value) (hT1 : (T != Value.type "tuple") = true) (hT2 : (T == T) = true)
    (hT : ∀ i k h, P i k → Looks (model prog w) h (typeOf k) T)
    (hlt : ∀ i j k k' (C : Bool → Shared → Prop) s', P i k → P j k' → C (lt i j) s' → wpAny (model prog w) A.in1.in1 (keyLt' oneType' k k') C (fun _ _ => False) s')
    (hh : A.handled = none) (F : Fr h₀ L s.heap m) (N : News h₀ L s.heap news) (hr : IsRange s.heap r 0 b 1 t u v) (hsm : Builtin.Range.small 0 b 1 = true) (hn : Builtin.Range.rangeSize 0 b 1 = (n : Int)) (h2 : 2 ≤ n) (h64 : n < 64)
    (hcall : ∀ kS D i t ks e e1 h tk (Q : Value → Shared → Prop), i < n → D < kS → (∀ q ∈ news, q.1 < D) → Fr h₀ L h m → News h₀ L h ((kS, seqObj "list" (List.toArray ks) e) :: (D, seqObj "list" #[] e1) :: news) →
      (∀ k h' tk', P i k → Fr h₀ L h' m → News h₀ L h' ((kS, seqObj "list" (List.toArray ks) e) :: (D, seqObj "list" #[] e1) :: news) → Q k { s with heap := h', toks := tk' }) → wpAny (model prog w) A.in1.in1 (call (.ref q) [.int (i : Nat) t]) Q (fun _ _ => False) { s with heap := h, toks := tk })
    (hQ : ∀ D c h' tk out, Fr h₀ L h' m → News h₀ L h' ((D, W.listOf (List.toArray out) c) :: news) → (∀ q ∈ news, q.1 < D) → IntsAre out ((ksorted n lt).map fun i => ((i : Nat) : Int)) → Q (.ref D) { s with heap := h', toks := tk }) :
    wpAny (model prog w) A (call (.builtin "sorted") [.ref r] [(PySem.Str.ofString "key", .ref q)]) Q E s := by
  refine sortedK_rng hh F N hr hsm hn h2 h64 fun D kS e1 h' tk vs hI F' N' l0 l1 => ?_
  have hvl : vs.length = n := by rw [hI.length, rangeInts_length]
  refine keys_run (led := (D, seqObj "list" #[] e1) :: news) (P := P) (n := n) (fun p hp => ?_) (fun i t ks e h tk Q' hi F2 N2 hq => hcall kS D i t ks e e1 h tk Q' hi l0 l1 F2 N2 hq) (fun ks e h tk hP hkl F2 N2 => ?_) vs [] 0 h' tk (fun j hj => ?_) (by simpa using hvl) (fun j hj => by cases hj) F' N'
  · rcases List.mem_cons.mp hp with rfl | hp
    · exact Nat.ne_of_lt l0
    · exact Nat.ne_of_lt (Nat.lt_trans (l1 p hp) l0)
  · refine kas_kind (T := T) (by omega) (fun k hk => ?_) hT1 hT2 ?_
    · obtain ⟨j, hj, rfl⟩ := List.getElem_of_mem hk
      have := hP j hj
      rw [List.getD_eq_getElem?_getD, List.getElem?_eq_getElem hj] at this
      exact hT j _ _ this
    · refine kas_pure (St := fun s' => s' = { s with heap := h, toks := tk }) (lt := lt) (fun i j C s' hi hj hs hc => ?_) (kas_sort n) _ (asks_sort (by omega)) rfl ?_
      · exact hlt i j _ _ C s' (hP i (by omega)) (hP j (by omega)) (hc _ hs)
      · rintro s' rfl
        refine KatFin.intro F2 N2 (.head fun p hp => ?_) fun h3 c F3 N3 => ?_
        · rcases List.mem_cons.mp hp with rfl | hp
          · exact Nat.ne_of_lt l0
          · exact Nat.ne_of_lt (Nat.lt_trans (l1 p hp) l0)
        · refine KasFin.intro (news := (kS, seqObj "list" #[] c) :: (D, seqObj "list" #[] e1) :: news) F3 N3 (.tail (Nat.ne_of_gt l0) (.head fun p hp => Nat.ne_of_lt (l1 p hp))) fun h4 c4 F4 N4 => ?_
          exact hQ D c4 h4 tk _ F4 (fun p hp => N4 p (.tail _ hp)) l1 (ints_map_getD hI (fun i hi => List.mem_range.mp ((ksorted_perm (by omega) lt).mem_iff.mp hi)))
  · obtain ⟨t, e⟩ := ints_get hI (i := j) (x := ((j : Nat) : Int)) (by rw [rangeInts_get (by omega)]; simp)
    exact ⟨t, by simpa using e⟩
end
end
section
open PyProof.Rows.LCg PyProof.Rows.LCt PyProof.Rows.LCp
section
variable {w : World} {mg mb : Str → Option Value} {loose : List Str} {ad : Str → Addr} {news : Led}
noncomputable abbrev rgObj (n : Int) (t u v : Tok) : Obj := { cls := .type "range", dict := none, data := .fields #[.int 0 t, .int n u, .int 1 v], slots := #[] }
theorem r_of {h h₀ : Heap} {L : Addr} {r : Addr} {n : Int} {t u v : Tok} (N : News h₀ L h news) (hm : (r, rgObj n t u v) ∈ news) : IsRange h r 0 n 1 t u v := (N _ hm).1
theorem irange1 {A : Around} {E : Value → Shared → Prop} {s : Shared} {h₀ : Heap} {L : Addr} {m : Str → Option Value} {Q : Value → Shared → Prop} {n : Int} {t : Tok} (F : Fr h₀ L s.heap m) (N : News h₀ L s.heap news)
    (h : ∀ R h' tk t₁ u₁ v₁, Fr h₀ L h' m → News h₀ L h' ((R, rgObj n t₁ u₁ v₁) :: news) → (∀ p ∈ news, p.1 < R) → Q (.ref R) { s with heap := h', toks := tk }) : wpAny (model prog w) A (call (.type "range") [.int n t]) Q E s := by
  refine range1_rows F N fun h' tk t₁ u₁ v₁ hr F' N' k => h s.heap.objs.size h' tk t₁ u₁ v₁ F' (fun p hp => ?_) fun p hp => Heap.lt_size (N p hp).1
  rcases List.mem_cons.mp hp with rfl | hp
  · exact ⟨hr, Nat.ne_of_gt F.ns.lt, Heap.get?_none_of_le (Nat.le_trans F.above (Nat.le_of_lt F.ns.lt))⟩
  · exact N' p hp
local macro_rules | `(tactic| walk_at $s) => ml s "
 call type:range => R irange1 ?F ?N ?_; c F k_asm N k_asm ! i R' h' tk' t1 u1 v1 F' N' l1; l l1; sw
 call builtin:sorted => r Stop.out @p=_ ?_"
theorem nm_item' {A : Around} {E : Value → Shared → Prop} {s : Shared} {h₀ : Heap} {L NL : Addr} {nv : List Value} {nc : Nat} {names : List Str} {i : Nat} {u : Tok} {value slice : PySem.Expr} {Q : Value → Shared → Prop} (N : News h₀ L s.heap news) (hm : (NL, W.listOf nv.toArray nc) ∈ news) (hS : StrsAre nv names) (hi : i < names.length) (h64 : names.length < 64)
    (h : ∀ t', Q (.str (names.getD i PySem.Str.empty) t') s) (hs : subscripted slice false (.ref NL) (.int (i : Int) u) = operate [.ref NL, .int (i : Int) u] (getItem (.ref NL) (.int (i : Int) u))) :
    wpAny (model prog w) A (subscriptTail value slice (.ref NL) (.int (i : Int) u)) Q E s :=
  KTb.item_list ⟨_, (N _ hm).1, rfl, _, rfl⟩ hS (by omega) (by omega) (by omega) (fun t' _ => by rw [Int.toNat_natCast]; exact h t') hs
theorem pl_item' {A : Around} {E : Value → Shared → Prop} {s : Shared} {h₀ : Heap} {L NL : Addr} {nv : List Value} {nc : Nat} {names : List Int} {i : Nat} {u : Tok} {value slice : PySem.Expr} {Q : Value → Shared → Prop} (N : News h₀ L s.heap news) (hm : (NL, W.listOf nv.toArray nc) ∈ news) (hS : IntsAre nv names) (hi : i < names.length) (h64 : names.length < 64)
    (h : ∀ t', Q (.int (names.getD i 0) t') s) (hs : subscripted slice false (.ref NL) (.int (i : Int) u) = operate [.ref NL, .int (i : Int) u] (getItem (.ref NL) (.int (i : Int) u))) :
    wpAny (model prog w) A (subscriptTail value slice (.ref NL) (.int (i : Int) u)) Q E s :=
  item_anyK ⟨_, (N _ hm).1, rfl, _, rfl⟩ hS (by omega) (by omega) (by omega) (fun t' => by rw [Int.toNat_natCast]; exact h t') hs
local macro_rules | `(tactic| walk_at $s) => ml s "
 subscriptTail Name Name ref int => R nm_item' ?N ?m ?S ?i ?l ?_ ?s; c N k_asm S hyp m k_mem i hyp l hyp s wu; i _ | R pl_item' ?N ?m ?S ?i ?l ?_ ?s; c N k_asm S hyp m k_mem i hyp l hyp s wu; i _"
inductive LamP (s : Shared) (g : Heap) (L : Addr) (P : Value → Prop) (led : Led) (v : Value) : Shared → Prop
  | mk (h' : Heap) (tk : Nat) (m : Str → Option Value) (hF : Fr g L h' m) (hN : News g L h' led) (hP : P v) : LamP s g L P led v { s with heap := h', toks := tk }
noncomputable abbrev ledOf {h₀ h : Heap} {L : Addr} {led : Led} (_ : News h₀ L h led) : Led := led
theorem fr_one {h₀ h : Heap} {L : Addr} {x : Str} {v : Value} (F : Fr h₀ L h (fun y => [(x, v)].reverse.lookup y)) : Fr h₀ L h (fun y => if y = x then some v else none) := by
  have e : (fun y => [(x, v)].reverse.lookup y) = fun y => if y = x then some v else none := by
    funext y
    simp only [List.reverse_cons, List.reverse_nil, List.nil_append, List.lookup]
    by_cases h : y = x
    · subst h; simp
    · have : (y == x) = false := by simpa using h
      rw [this, if_neg h]
  rw [← e]; exact F
inductive B7P (g : Heap) (L : Addr) (s₁ : Shared) (P' : Addr) (l : List Nat) (led : Led) : Flow → Shared → Prop
  | mk (h' : Heap) (tk : Nat) (m' : Str → Option Value) (D : Addr) (c : Nat) (out : List Value) (cc : Addr) (x0 : Fr g L h' m') (x1 : AgreeV m' [("due", .ref D)]) (x2 : News g L h' ((D, W.listOf (List.toArray out) c) :: (P', tabObj (#[] ++ #[rawInt ((204 : Nat) : Int), rawInt ((40 : Nat) : Int), .ref cc])) :: led)) (x3 : IntsAre out (l.map fun i => ((i : Nat) : Int))) (x4 : (∀ q ∈ led, @LT.lt Nat _ q.1 D)) : B7P g L s₁ P' l led (.next) { s₁ with heap := h', toks := tk }
theorem law_b7 {st : Stmt} (hst : st = stB 7) {NL PL P' c' : Addr} {on op : Obj} {nv pv : List Value} {nc pc : Nat} {names : List Str} {places : List Int} {dp un : Nat} {gd : Option (List Code)} {A₀ : Around} {base g : Heap} {L : Addr} {s : Shared} {m : Str → Option Value}
    (B : Below A₀ base [] g) (GG : G w mg mb loose ad g) (T : Top noProg loose noMean mg mb g) (C : CodeHd g c' P') (hd : dp + 300 < recursionLimit) (hu : un + 300 < cLine) (dn : on.data = .cell (some (.ref NL))) (dp' : op.data = .cell (some (.ref PL)))
    (hS : StrsAre nv names) (hP : IntsAre pv places) (hlen : places.length = names.length) (h2 : 2 ≤ names.length) (h64 : names.length < 64) (h64' : places.length < 64)
    (hne : @LT.lt Nat _ P' L ∧ @LT.lt Nat _ (L + 3) NL ∧ @Ne Nat PL P') (hnP : ∀ p ∈ news, p.1 ≠ P')
    (F1 : Fr g L s.heap m) (N1 : News g L s.heap ((NL, W.listOf nv.toArray nc) :: (L + 2, on) :: (PL, W.listOf pv.toArray pc) :: (L + 3, op) :: (P', tabObj #[]) :: news)) :
    wpAny (model prog w) (ktrTop dp un gd (fname 35) (fscope 35) L (ad "law") (.ref c') [("places", L + 3), ("names", L + 2), ("order", L + 1)] []) (exec st (envX (fname 35) (fscope 35) L (ad "law") (.ref c') [("places", L + 3), ("names", L + 2), ("order", L + 1)])) (B7P g L s P' (ksorted names.length fun i j => decide (places.getD i 0 < places.getD j 0)) ((NL, W.listOf nv.toArray nc) :: (L + 2, on) :: (PL, W.listOf pv.toArray pc) :: (L + 3, op) :: news)) (fun _ _ => False) s := by
  subst hst
  conv in stB 7 => dsimp only [stB, fbody, stm, prog, PySem.Challenge.pw_il0214_01, List.getElem?_cons_succ, List.getElem?_cons_zero, Option.getD_some]
  have hnl : nv.length = names.length := strs_len hS
  have KX := allFrag_in g
  obtain ⟨n1, n2, n3⟩ := hne
  k_steps
  refine ⟨?_⟩
  rename Fr _ _ _ _ => FF
  rename News _ _ _ _ => NN
  rename_i R' h1 tk1 t1 u1 v1 lR f' cf oc vs tq ct h2' tk2 lc1 lf1 d1 d2
  refine isorted_key (n := names.length) (fun i j => decide (places.getD i 0 < places.getD j 0)) (fun i k => ∃ t, k = .int (places.getD i 0) t) (.type "int") (by decide) (by decide) (fun i k h hk => ?_) (fun i j k k' C s' hk hk' hc => ?_) rfl FF NN (r_of NN (by k_mem)) (small_one (by omega) (by omega) (by omega) (by omega)) (rangeSize_n _) h2 h64 ?call ?fin
  · obtain ⟨t, rfl⟩ := hk
    exact Looks.of_pure rfl
  · obtain ⟨t, rfl⟩ := hk
    obtain ⟨t', rfl⟩ := hk'
    exact kat_lt_int hc
  case fin =>
    intro D c h' tk out F' N' l1 hI
    have sub4 : ∀ p ∈ (NL, W.listOf nv.toArray nc) :: (L + 2, on) :: (PL, W.listOf pv.toArray pc) :: (L + 3, op) :: news, p ∈ (NL, W.listOf nv.toArray nc) :: (L + 2, on) :: (PL, W.listOf pv.toArray pc) :: (L + 3, op) :: (P', tabObj (#[] ++ #[rawInt ((204 : Nat) : Int), rawInt ((40 : Nat) : Int), .ref cf])) :: news := fun p hp => by
      revert hp; revert p
      exact all_cons (.head _) (all_cons (.tail _ (.head _)) (all_cons (.tail _ (.tail _ (.head _))) (all_cons (.tail _ (.tail _ (.tail _ (.head _)))) fun p h => .tail _ (.tail _ (.tail _ (.tail _ (.tail _ h)))))))
    clear FF NN
    k_steps
    rename Fr _ _ _ _ => FX
    rename News _ _ _ _ => NX
    exact .mk _ _ _ D c out cf FX (.cons (by repeat (first | exact if_pos rfl | refine (if_neg (by decide +kernel)).trans ?_ | with_unfolding_all rfl)) .nil) (fun p hp => NX p (by
      rcases List.mem_cons.mp hp with rfl | hp
      · exact .head _
      · rcases List.mem_cons.mp hp with rfl | hp
        · k_mem
        · exact .tail _ (.tail _ (.tail _ (.tail _ (sub4 p hp)))))) hI (fun q hq => l1 q (.tail _ (.tail _ (.tail _ (sub4 q hq)))))
  case call =>
    intro kS D i t ks e e1 h tk Q hi l0 l1 F2 N2 hq
    clear FF NN
    have hi2 : i < places.length := by rw [hlen]; exact hi
    refine wpAny_call (kla_code (K := allFrag g) (binds := [(PySem.Str.ofString "k_v", Value.int (i : Nat) t)]) B F2 KX N2 T rfl rfl rfl (by k_mem) (codeRec_news N2 (by k_mem) lc1 lf1) (by show dp < recursionLimit; omega) rfl (locs rfl) (fun g' L' h₁ FG' F' N' B' X' T' => ?_) rfl rfl rfl (by decide))
    have GG' := GG.keeps (allFrag_keep X')
    refine' wpAny_mono (Q := LamP s g' L' (fun v => ∃ t', v = .int (places.getD i 0) t') (ledOf N')) (E := fun _ _ => False) ?body ?leave ?err
    case err => exact fun _ _ x => x.elim
    case leave =>
      rintro v _ ⟨h', tk', m', F'', N'', t', rfl⟩
      exact leaveK_ F'' N'' fun FF NN => hq _ _ _ ⟨t', rfl⟩ FF NN
    case body =>
      show wpAny (model prog w) (ktrTop (dp + 1) (un + 1 + 1 + 3) gd _ _ L' f' (.ref cf) _ [_]) (eval _ _) _ _ _
      clear F2 N2 FG'
      dsimp only [ledOf]
      replace F' := fr_one F'
      generalize tk + List.length _ = tk9
      k_steps
      rename Fr _ _ _ _ => FX
      rename News _ _ _ _ => NX
      exact .mk _ _ _ FX NX ⟨_, rfl⟩
end
end
theorem fl_20 {M : Model} {A : Around} {E : Value → Shared → Prop} {s : Shared} {Q : Bool → Shared → Prop} {v : Value} (h : wpAny M A (truthy v) Q E s) : wpAny M A (truthy v) Q E s := by
  first
    | (walk1; done)
    | exact h
section
open PyProof.Rows.LCg PyProof.Rows.LCt PyProof.Rows.LCp
section
variable {w : World} {mg mb : Str → Option Value} {loose : List Str} {ad : Str → Addr} {news : Led}
local macro_rules | `(tactic| walk_at $s) => ml s "
 call type:range => R irange1 ?F ?N ?_; c F k_asm N k_asm ! i R' h' tk' t1 u1 v1 F' N' l1; l l1; sw
 call builtin:sorted => r Stop.out @p=_ ?_
 subscriptTail Name Name ref int => R nm_item' ?N ?m ?S ?i ?l ?_ ?s; c N k_asm S hyp m k_mem i hyp l hyp s wu; i _ | R pl_item' ?N ?m ?S ?i ?l ?_ ?s; c N k_asm S hyp m k_mem i hyp l hyp s wu; i _
 call ref => r Says.useS {@pre} ( strxfrm_says _ _ ) ?_ ! i k' h' tk' F' N'; sw
 compareOp Eq ref ref => R ieq ?N ?a ?i ?b ?j ?u ?_; c N k_asm a k_mem i hyp b k_mem j hyp u lia"
inductive B8P (g : Heap) (L : Addr) (s₁ : Shared) (P' : Addr) (led : Led) : Flow → Shared → Prop
  | mk (h' : Heap) (tk : Nat) (m' : Str → Option Value) (ps : Array Value) (x0 : Fr g L h' m') (x1 : News g L h' ((P', tabObj ps) :: led)) : B8P g L s₁ P' led (.ret (.bool true)) { s₁ with heap := h', toks := tk }
theorem law_b8 {st : Stmt} (hst : st = stB 8) {NL P' c' D7 cc : Addr} {on : Obj} {nv dv : List Value} {nc dc : Nat} {names : List Str} {dp un : Nat} {gd : Option (List Code)} {A₀ : Around} {base g : Heap} {L : Addr} {s : Shared} {m : Str → Option Value}
    (B : Below A₀ base [] g) (GG : G w mg mb loose ad g) (T : Top noProg loose noMean mg mb g) (C : CodeHd g c' P') (hd : dp + 300 < recursionLimit) (hu : un + 300 < cLine) (dn : on.data = .cell (some (.ref NL)))
    (hS : StrsAre nv names) (h2 : 2 ≤ names.length) (h64 : names.length < 64) (hDI : IntsAre dv ((ksorted names.length fun i j => decide ((names.getD i PySem.Str.empty).cps.toList < (names.getD j PySem.Str.empty).cps.toList)).map fun i => ((i : Nat) : Int)))
    (hne : @LT.lt Nat _ P' L ∧ @LT.lt Nat _ (L + 3) NL ∧ @LT.lt Nat _ (L + 3) D7) (hnP : ∀ p ∈ news, p.1 ≠ P')
    (F1 : Fr g L s.heap (over [("due", .ref D7)] m)) (N1 : News g L s.heap ((D7, W.listOf dv.toArray dc) :: (NL, W.listOf nv.toArray nc) :: (L + 2, on) :: (P', tabObj (#[] ++ #[rawInt ((204 : Nat) : Int), rawInt ((40 : Nat) : Int), .ref cc])) :: news)) :
    wpAny (model prog w) (ktrTop dp un gd (fname 35) (fscope 35) L (ad "law") (.ref c') [("places", L + 3), ("names", L + 2), ("order", L + 1)] []) (exec st (envX (fname 35) (fscope 35) L (ad "law") (.ref c') [("places", L + 3), ("names", L + 2), ("order", L + 1)])) (B8P g L s P' news) (fun _ _ => False) s := by
  subst hst
  conv in stB 8 => dsimp only [stB, fbody, stm, prog, PySem.Challenge.pw_il0214_01, List.getElem?_cons_succ, List.getElem?_cons_zero, Option.getD_some]
  have hnl : nv.length = names.length := strs_len hS
  have KX := allFrag_in g
  obtain ⟨n1, n2, n3⟩ := hne
  k_steps
  refine ⟨?_⟩
  rename Fr _ _ _ _ => FF
  rename News _ _ _ _ => NN
  rename _ = Data.fields _ => lc1
  rename _ = some (Value.str _ _) => lf1
  refine isorted_key (n := names.length) (fun i j => decide ((names.getD i PySem.Str.empty).cps.toList < (names.getD j PySem.Str.empty).cps.toList)) (fun i k => ∃ t, k = .str (names.getD i PySem.Str.empty) t) (.type "str") (by decide) (by decide) (fun i k h hk => ?_) (fun i j k k' C s' hk hk' hc => ?_) rfl FF NN (r_of NN (by k_mem)) (small_one (by omega) (by omega) (by omega) (by omega)) (rangeSize_n _) h2 h64 ?call ?fin
  · obtain ⟨t, rfl⟩ := hk
    exact Looks.of_pure rfl
  · obtain ⟨t, rfl⟩ := hk
    obtain ⟨t', rfl⟩ := hk'
    rw [keyLt'_oneType]
    exact oneLt_str hc
  case fin =>
    intro D c h' tk out F' N' l1 hI
    clear FF NN
    generalize ((ksorted names.length fun i j => decide ((names.getD i PySem.Str.empty).cps.toList < (names.getD j PySem.Str.empty).cps.toList)).map fun i => ((i : Nat) : Int)) = zs at *
    have ed : decide (zs = zs) = true := decide_eq_true rfl
    k_steps
    (try rw [ed]); exact .mk _ _ _ _ F' (fun p hp => N' p (.tail _ (.tail _ (.tail _ (.tail _ (.tail _ (.tail _ (.tail _ hp))))))))
  case call =>
    intro kS D i t ks e e1 h tk Q hi l0 l1 F2 N2 hq
    clear FF NN
    refine wpAny_call (kla_code (K := allFrag g) (binds := [(PySem.Str.ofString "k_v", Value.int (i : Nat) t)]) B F2 KX N2 T rfl rfl rfl (by k_mem) (codeRec_news N2 (by k_mem) lc1 lf1) (by show dp < recursionLimit; omega) rfl (locs rfl) (fun g' L' h₁ FG' F' N' B' X' T' => ?_) rfl rfl rfl (by decide))
    have GG' := GG.keeps (allFrag_keep X')
    refine' wpAny_mono (Q := LamP s g' L' (fun v => ∃ t', v = .str (names.getD i PySem.Str.empty) t') (ledOf N')) (E := fun _ _ => False) ?body ?leave ?err
    case err => exact fun _ _ x => x.elim
    case leave =>
      rintro v _ ⟨h', tk', m', F'', N'', t', rfl⟩
      exact leaveK_ F'' N'' fun FF NN => hq _ _ _ ⟨t', rfl⟩ FF NN
    case body =>
      show wpAny (model prog w) (ktrTop (dp + 1) (un + 1 + 1 + 3) gd _ _ L' _ (.ref _) _ [_]) (eval _ _) _ _ _
      clear F2 N2 FG'
      dsimp only [ledOf]
      replace F' := fr_one F'
      generalize tk + List.length _ = tk9
      k_steps
      rename Fr _ _ _ _ => FX
      rename News _ _ _ _ => NX
      exact .mk _ _ _ FX NX ⟨_, rfl⟩
end
end
theorem fl_21 {M : Model} {A : Around} {E : Value → Shared → Prop} {s : Shared} {Q : Bool → Shared → Prop} {v : Value} (h : wpAny M A (truthy v) Q E s) : wpAny M A (truthy v) Q E s := by
  first
    | (walk1; done)
    | exact h
section
open PyProof.Rows.LCg PyProof.Rows.LCt PyProof.Rows.LCp
structure Plain (H : Nat → Bool) (FL : List FF) : Prop where
  good : ∀ x ∈ FL, x.Good H
  h4 : ∀ r ∈ (kept FL).map (·.2), r.length = 4
  h2 : 2 ≤ (kept FL).length
  cmp : ∀ i j, i < (kept FL).length → j < (kept FL).length → cmpS (((kept FL).map (·.1)).getD i PySem.Str.empty) (((kept FL).map (·.1)).getD j PySem.Str.empty) = max (-1) (min 1 ((placesOf ((kept FL).map (·.2))).getD i 0 - (placesOf ((kept FL).map (·.2))).getD j 0))
theorem lt_of_cmp {a b : Str} {x y : Int} (h : cmpS a b = max (-1) (min 1 (x - y))) : decide (x < y) = decide (a.cps.toList < b.cps.toList) := by
  unfold cmpS at h
  by_cases h1 : a.cps.toList < b.cps.toList
  · have h2 : ¬ b.cps.toList < a.cps.toList := List.lt_asymm h1
    rw [decide_eq_true h1, decide_eq_false h2] at h
    rw [decide_eq_true h1]
    refine decide_eq_true ?_
    have h : (0 : Int) - 1 = max (-1) (min 1 (x - y)) := h
    omega
  · rw [decide_eq_false h1] at h
    rw [decide_eq_false h1]
    refine decide_eq_false ?_
    by_cases h2 : b.cps.toList < a.cps.toList
    · rw [decide_eq_true h2] at h
      have h : (1 : Int) - 0 = max (-1) (min 1 (x - y)) := h
      omega
    · rw [decide_eq_false h2] at h
      have h : (0 : Int) - 0 = max (-1) (min 1 (x - y)) := h
      omega
section
variable {w : World} {mg mb : Str → Option Value} {loose : List Str} {ad : Str → Addr}
theorem law_tail {sts : List Stmt} (hst : sts = [stB 4, stB 5, stB 6, stB 7, stB 8]) {NL RL P' c' sc : Addr} {oo on op o : Obj} {v₁ v₃ : Option Value} {nv rv : List Value} {nc rc : Nat} {names : List Str} {rows : List (List Int)} {ob : Led} {dp un : Nat} {gd : Option (List Code)} {A₀ : Around} {base g : Heap} {L : Addr} {s : Shared} {m : Str → Option Value}
    (B : Below A₀ base [] g) (GG : G w mg mb loose ad g) (T : Top noProg loose noMean mg mb g) (C : CodeHd g c' P') (hd : dp + 300 < recursionLimit) (hu : un + 300 < cLine)
    (d1 : oo.data = .cell v₁) (d2 : on.data = .cell (some (.ref NL))) (d3 : op.data = .cell v₃)
    (hS : StrsAre nv names) (hR : RowsAre ob rv rows) (hlen : rows.length = names.length) (h4 : ∀ r ∈ rows, r.length = 4) (h2 : 2 ≤ names.length) (h64 : names.length < 64)
    (hcmp : ∀ i j, i < names.length → j < names.length → cmpS (names.getD i PySem.Str.empty) (names.getD j PySem.Str.empty) = max (-1) (min 1 ((placesOf rows).getD i 0 - (placesOf rows).getD j 0)))
    (hne : @LT.lt Nat _ P' L ∧ @LT.lt Nat _ sc L ∧ @LT.lt Nat _ (L + 3) NL ∧ @LT.lt Nat _ (L + 3) RL) (hsP : @Ne Nat sc P') (hob : ∀ q ∈ ob, @LT.lt Nat _ (L + 3) q.1)
    (F1 : Fr g L s.heap (over [("rows", .ref RL)] m)) (N1 : News g L s.heap ((L + 1, oo) :: (RL, W.listOf rv.toArray rc) :: (L + 3, op) :: (NL, W.listOf nv.toArray nc) :: (L + 2, on) :: (P', tabObj #[]) :: (sc, o) :: ob)) :
    wpAny (model prog w) (ktrTop dp un gd (fname 35) (fscope 35) L (ad "law") (.ref c') [("places", L + 3), ("names", L + 2), ("order", L + 1)] []) (execs sts (envX (fname 35) (fscope 35) L (ad "law") (.ref c') [("places", L + 3), ("names", L + 2), ("order", L + 1)])) (B8P g L s P' [(sc, o)]) (fun _ _ => False) s := by
  have KX := noIn g
  subst hst
  obtain ⟨n1, n2, n3, n4⟩ := hne
  refine wpAny_execs_cons (wpAny_mono (law_b4 (news := (L + 3, op) :: (NL, W.listOf nv.toArray nc) :: (L + 2, on) :: (P', tabObj #[]) :: (sc, o) :: ob) rfl B GG hd hu KX d1 ?_ (by show @LT.lt Nat _ (L + 1) RL; omega) (hR.mono fun q hq => .tail _ (.tail _ (.tail _ (.tail _ (.tail _ hq))))) h4 (by omega) (by omega) F1 N1) (fun f s2 hq => ?_) fun _ _ h => h)
  · repeat (refine all_cons (by show @Ne Nat _ _; omega) ?_)
    exact fun p hp => by show @Ne Nat _ _; have := hob _ hp; omega
  obtain ⟨h1, tk1, m1, D, c, oo', F2, V2, N2, e1, hD⟩ := hq
  rw [← over_eq V2] at F2
  clear F1 N1 V2
  dsimp only
  have hSr : RowsAre ob ((ksorted rows.length (ltRows rows)).map fun i => rv.getD i Value.none) (sortRows rows) := hR.map (ksorted_lt (by omega) _)
  refine wpAny_execs_cons (wpAny_mono (law_b5 (news := (NL, W.listOf nv.toArray nc) :: (L + 2, on) :: (P', tabObj #[]) :: (sc, o) :: ob) (rv := rv) (sv := (ksorted rows.length (ltRows rows)).map fun i => rv.getD i Value.none) (rc := rc) (c := c) (op := op) rfl B GG hd hu KX d3 e1 ?_ ⟨n4, Nat.lt_trans n4 hD⟩ (hR.mono fun q hq => .tail _ (.tail _ (.tail _ (.tail _ hq)))) (hSr.mono fun q hq => .tail _ (.tail _ (.tail _ (.tail _ hq)))) (by omega) (by omega) F2 (fun p hp => N2 p ?_)) (fun f s2 hq => ?_) fun _ _ h => h)
  · repeat (refine all_cons (by show @Ne Nat _ _; omega) ?_)
    exact fun p hp => by show @Ne Nat _ _; have := hob _ hp; omega
  · revert p; (repeat (refine all_cons (by k_mem) ?_)); first | exact List.forall_mem_nil _ | (first | (intro p hp; (repeat (first | exact hp | apply List.mem_cons_of_mem)); done) | kcj_all)
  obtain ⟨h2', tk2, m2, PL, pv, c2, op', F3, V3, N3, e3, hP⟩ := hq
  rw [← over_eq V3] at F3
  clear F2 N2 V3
  dsimp only
  have hpl : (placesOf rows).length = names.length := by unfold placesOf; rw [List.length_map, hlen]
  have hPP : @Ne Nat PL P' := by
    intro q
    have a := (N3 (PL, _) (.head _)).1
    have b := (N3 (P', tabObj #[]) (.tail _ (.tail _ (.tail _ (.tail _ (.tail _ (.tail _ (.tail _ (.head _))))))))).1
    have q' : PL = P' := q
    rw [q', b] at a
    cases a
  refine wpAny_execs_cons (wpAny_mono (law_b6 (news := [(P', tabObj #[]), (sc, o)]) (nc := nc) (pc := c2) (on := on) (op := op') rfl B GG hd hu KX d2 e3 hS hP hpl h64 (by omega) hcmp F3 (fun p hp => N3 p ?_)) (fun f s2 hq => ?_) fun _ _ h => h)
  · revert p; (repeat (refine all_cons (by k_mem) ?_)); first | exact List.forall_mem_nil _ | (first | (intro p hp; (repeat (first | exact hp | apply List.mem_cons_of_mem)); done) | kcj_all)
  obtain ⟨h3, tk3, m3, F4, N4⟩ := hq
  clear F3 N3
  dsimp only
  refine wpAny_execs_cons (wpAny_mono (law_b7 (news := [(sc, o)]) (nc := nc) (pc := c2) (on := on) (op := op') rfl B GG T C hd hu d2 e3 hS hP hpl h2 h64 (by omega) ⟨n1, n3, hPP⟩ (fun p hp => by rw [List.mem_singleton.mp hp]; exact hsP) F4 N4) (fun f s2 hq => ?_) fun _ _ h => h)
  obtain ⟨h4', tk4, m4, D7, c7, out, cc, F5, V5, N5, hI, hD7⟩ := hq
  rw [← over_eq V5] at F5
  clear F4 N4 V5
  dsimp only
  have esort : (ksorted names.length fun i j => decide ((placesOf rows).getD i 0 < (placesOf rows).getD j 0)) = ksorted names.length fun i j => decide ((names.getD i PySem.Str.empty).cps.toList < (names.getD j PySem.Str.empty).cps.toList) := by
    unfold ksorted
    rw [krun_congr (fun i j hi hj => lt_of_cmp (hcmp i j hi hj)) (asks_sort (n := names.length) (by omega))]
  rw [esort] at hI
  refine wpAny_execs_cons (wpAny_mono (law_b8 (news := [(sc, o)]) (nc := nc) (dc := c7) (on := on) (cc := cc) rfl B GG T C hd hu d2 hS h2 h64 hI ⟨n1, n3, ?_⟩ (fun p hp => by rw [List.mem_singleton.mp hp]; exact hsP) F5 (fun p hp => N5 p ?_)) (fun f s2 hq => ?_) fun _ _ h => h)
  · exact hD7 (L + 3, op') (.tail _ (.tail _ (.tail _ (.head _))))
  · revert p; (repeat (refine all_cons (by k_mem) ?_)); first | exact List.forall_mem_nil _ | (first | (intro p hp; (repeat (first | exact hp | apply List.mem_cons_of_mem)); done) | kcj_all)
  obtain ⟨h5, tk5, m5, ps, F6, N6⟩ := hq
  exact .mk h5 tk5 m5 ps F6 N6
end
end
section
open PyProof.Rows.LCg PyProof.Rows.LCt PyProof.Rows.LCp
theorem body35_eq : fbody 35 = stB 0 :: stB 1 :: stB 2 :: stB 3 :: [stB 4, stB 5, stB 6, stB 7, stB 8] := by kernel_rfl
noncomputable def forPx : Pos := match stB 3 with | .For (.Name _ p) _ _ _ _ => p | _ => ⟨0, 0, 0, 0⟩
noncomputable def forPos : Pos := match stB 3 with | .For _ _ _ _ q => q | _ => ⟨0, 0, 0, 0⟩
theorem stB3_eq : stB 3 = .For (.Name "figures" forPx) forIt forB [] forPos := by kernel_rfl
theorem FigsAt.sub {led led' : Led} {its : List Value} {FL : List FF} (k : ∀ q vs c, (q, W.listOf (List.toArray vs) c) ∈ led → vs.length = 8 → (q, W.listOf (List.toArray vs) c) ∈ led') (h : FigsAt led its FL) : FigsAt led' its FL :=
  ⟨h.1, fun i x e => let ⟨fg, vs, c, a, b, d⟩ := h.2 i x e; ⟨fg, vs, c, a, k _ _ _ b d.length, d⟩⟩
theorem listOf_ne {vs : List Value} {c d : Nat} (h : vs.length = 8) (e : W.listOf (List.toArray vs) c = W.listOf #[] d) : False := by
  have := congrArg (fun o : Obj => o.data) e
  have t : Data.seq vs.toArray c = Data.seq #[] d := this
  injection t with t1
  have t2 : vs = [] := by simpa using congrArg Array.toList t1
  rw [t2] at h; cases h
theorem listOf_cell {vs : List Value} {c : Nat} {o : Obj} {v : Option Value} (ho : o.data = .cell v) (e : W.listOf (List.toArray vs) c = o) : False := by
  rw [← e] at ho; cases ho
theorem FigsAt.clean {led : Led} {its : List Value} {FL : List FF} (h : FigsAt led its FL) : ∃ led' : Led, (∀ p ∈ led', p ∈ led ∧ ∃ vs c, p.2 = W.listOf (List.toArray vs) c ∧ vs.length = 8) ∧ FigsAt led' its FL := by
  classical
  refine ⟨led.filter fun p => decide (∃ vs c, p.2 = W.listOf (List.toArray vs) c ∧ vs.length = 8), fun p hp => ?_, h.sub fun q vs c hm hl => List.mem_filter.mpr ⟨hm, decide_eq_true ⟨vs, c, rfl, hl⟩⟩⟩
  obtain ⟨x, y⟩ := List.mem_filter.mp hp
  exact ⟨x, of_decide_eq_true y⟩
theorem ne_of_obj {g h : Heap} {L : Addr} {led : Led} (N : News g L h led) {p q : Addr × Obj} (hp : p ∈ led) (hq : q ∈ led) (ho : p.2 ≠ q.2) : @Ne Nat p.1 q.1 := fun e => by
  have e' : p.1 = q.1 := e
  have a := (N p hp).1
  have b := (N q hq).1
  rw [e', b] at a
  exact ho (Option.some.inj a).symm
section
variable {w : World} {mg mb : Str → Option Value} {ad : Str → Addr}
theorem law_runs (plain : ∀ (ns : List Int) (H : Nat → Bool), (∀ c, H c = inC4 c) → Plain H ((ns.take 3).map figF ++ ownF)) : LawC := by
  refine ⟨?_⟩
  intro w mg mb ad vs ns k sc P' c' o dp un gd A₀ base g L cells s Q B F CA GG C N hlt hcls hdat hi hl hd hu ret
  obtain ⟨H, hH⟩ : ∃ H : Nat → Bool, ∀ c, H c = inC4 c := ⟨_, fun _ => rfl⟩
  have pl := plain ns H hH
  clear plain
  have KX := noIn g
  have T := GG.T
  have eC : cellsFrom (L + 1) (fscope 35).names [] = ([("places", L + 3), ("names", L + 2), ("order", L + 1)] : List (Str × Addr)) := by with_unfolding_all rfl
  rw [eC] at CA ⊢
  obtain ⟨op, on, oo, ecell, d3, d2, d1⟩ := three_cells CA
  clear CA
  subst ecell
  replace d1 : ∃ v, oo.data = .cell v := ⟨_, d1⟩
  replace d2 : ∃ v, on.data = .cell v := ⟨_, d2⟩
  replace d3 : ∃ v, op.data = .cell v := ⟨_, d3⟩
  obtain ⟨v1, d1⟩ := d1
  obtain ⟨v2, d2⟩ := d2
  obtain ⟨v3, d3⟩ := d3
  change Fr g L s.heap (fun y : Str => if y = "script" then some (.ref sc) else none) at F
  have V0 : AgreeV (fun y : Str => if y = "script" then some (Value.ref sc) else none) [("script", .ref sc)] := .cons (by repeat (first | exact if_pos rfl | refine (if_neg (by decide +kernel)).trans ?_ | with_unfolding_all rfl)) .nil
  rw [← over_eq V0] at F
  clear V0
  generalize (fun y : Str => if y = "script" then some (Value.ref sc) else none) = m0 at F
  obtain ⟨n1, n2⟩ := hlt
  have hsP : @Ne Nat sc P' := by
    intro q
    have q' : sc = P' := q
    have a := (N (sc, o) (List.mem_append_right _ (.tail _ (.head _)))).1
    have b := (N (P', tabObj #[]) (List.mem_append_right _ (.head _))).1
    rw [q', b] at a
    cases a
    cases hdat
  rw [body35_eq]

  have N0 : News g L s.heap [(L + 3, op), (L + 2, on), (L + 1, oo), (P', tabObj #[]), (sc, o)] := N
  have X := @law_b0 w mg mb topNames ad _ (stB 0) rfl _ dp un gd (.ref c') A₀ base g L s _ B GG hd hu KX F N0
  refine wpAny_execs_cons ?_
  refine @wpAny_mono _ _ _ _ _ _ _ _ _ (by assumption) (fun f s2 hq => ?_) (fun _ _ h => h)
  clear X
  obtain ⟨h1, tk1, m1, OL, own, oc, tl0, F1, V1, N1, hO⟩ := hq
  rw [← over_eq V1] at F1
  clear F N N0 V1
  dsimp only
  obtain ⟨tl1, ht1, hO1⟩ := hO.clean
  refine wpAny_execs_cons (wpAny_mono (@law_b1 w mg mb topNames ad _ rfl _ _ on v2 dp un gd (.ref c') A₀ base g L { s with heap := h1, toks := tk1 } _ ((OL, W.listOf (List.toArray own) oc) :: (tl1 ++ [(L + 3, op), (L + 1, oo), (P', tabObj #[]), (sc, o)])) B GG hd hu KX d2 ?b1 F1 (fun p hp => N1 p ?b1m)) (fun f s2 hq => ?_) fun _ _ h => h)
  case b1 =>
    intro p hp
    have onm : (L + 2, on) ∈ (OL, W.listOf (List.toArray own) oc) :: (tl0 ++ [(L + 3, op), (L + 2, on), (L + 1, oo), (P', tabObj #[]), (sc, o)]) := .tail _ (List.mem_append_right _ (.tail _ (.head _)))
    revert hp; revert p
    refine all_cons (ne_of_obj N1 (.head _) onm fun e => listOf_cell d2 e) (all_app (fun p hp => ?_) ?_)
    · obtain ⟨hp1, vs', c1, e1, l8⟩ := ht1 p hp
      exact ne_of_obj N1 (.tail _ (List.mem_append_left _ hp1)) onm fun e => listOf_cell d2 (e1.symm.trans e)
    · repeat (refine all_cons (by show @Ne Nat _ _; omega) ?_)
      exact fun _ h => nomatch h
  case b1m =>
    revert hp; revert p
    refine all_cons (.tail _ (List.mem_append_right _ (.tail _ (.head _)))) (all_cons (.head _) (all_app (fun p h => .tail _ (List.mem_append_left _ (ht1 p h).1)) (all_cons (.tail _ (List.mem_append_right _ (.head _))) fun p h => .tail _ (List.mem_append_right _ (.tail _ (.tail _ h))))))
  obtain ⟨h2, tk2, m2, NL, on', F2, V2, N2, dn, hL2, hNL⟩ := hq
  rw [← over_eq V2] at F2
  clear F1 N1 V2 hO d2
  dsimp only
  have hL3 : @LT.lt Nat _ (L + 3) NL := hNL (L + 3, op) (.tail _ (List.mem_append_right _ (.head _)))
  refine wpAny_execs_cons (wpAny_mono (@law_b2 w mg mb topNames ad _ rfl _ _ dp un gd (.ref c') A₀ base g L { s with heap := h2, toks := tk2 } _ _ B GG hd hu KX F2 N2) (fun f s2 hq => ?_) fun _ _ h => h)
  obtain ⟨h3, tk3, m3, RL, F3, V3, N3, hRL⟩ := hq
  rw [← over_eq V3] at F3
  clear F2 N2 V3
  dsimp only
  have hNR : @LT.lt Nat _ NL RL := hRL (NL, W.listOf #[] 0) (.head _)
  have hRLs : ∀ q ∈ (OL, W.listOf (List.toArray own) oc) :: (tl1 ++ [(L + 3, op), (L + 1, oo), (P', tabObj #[]), (sc, o)]), @LT.lt Nat _ q.1 RL := fun q hq => hRL q (.tail _ (.tail _ hq))
  rw [stB3_eq]
  refine wpAny_execs_cons (For_invVF F3 rfl rfl ?_ (fun _ => rfl) PassesOwn.never)
  generalize hled : (RL, W.listOf #[] 0) :: (NL, W.listOf #[] 0) :: (L + 2, on') :: (OL, W.listOf (List.toArray own) oc) :: (tl1 ++ [(L + 3, op), (L + 1, oo), (P', tabObj #[]), (sc, o)]) = led at N3
  have iRL : (RL, W.listOf #[] 0) ∈ led := hled ▸ .head _
  have iNL : (NL, W.listOf #[] 0) ∈ led := hled ▸ .tail _ (.head _)
  have iON : (L + 2, on') ∈ led := hled ▸ .tail _ (.tail _ (.head _))
  have iOL : (OL, W.listOf (List.toArray own) oc) ∈ led := hled ▸ .tail _ (.tail _ (.tail _ (.head _)))
  have iT1 : ∀ p ∈ tl1, p ∈ led := fun p hp => hled ▸ .tail _ (.tail _ (.tail _ (.tail _ (List.mem_append_left _ hp))))
  have iRs : ∀ p ∈ [(L + 3, op), (L + 1, oo), (P', tabObj #[]), (sc, o)], p ∈ led := fun p hp => hled ▸ .tail _ (.tail _ (.tail _ (.tail _ (List.mem_append_right _ hp))))
  refine wpAny_mono (@law_it w mg mb topNames ad led _ rfl OL RL sc o (W.listOf #[] 0) own oc k vs ns dp un gd (.ref c') A₀ base g L { s with heap := h3, toks := tk3 } _ hcls hdat hi hl (iRs _ (.tail _ (.tail _ (.tail _ (.head _))))) iRL iOL (hO1.mono iT1) B GG hd hu KX F3 N3) (fun xv s2 hq => ?_) fun _ _ h => h
  obtain ⟨h4, tk4, tl, XL, its, k4, F4, N4, hlow, hF⟩ := hq
  clear F3 N3
  dsimp only
  obtain ⟨tl2, ht2, hF2⟩ := hF.clean
  have low : ∀ p ∈ [(L + 3, op), (L + 1, oo), (P', tabObj #[]), (sc, o)], @LT.lt Nat _ p.1 NL := fun p hp => by
    revert hp; revert p
    refine all_cons hL3 ?_
    repeat (refine all_cons (by show @LT.lt Nat _ _ NL; omega) ?_)
    exact fun _ h => nomatch h
  have iT2 : ∀ p ∈ tl2, p ∈ (XL, W.listOf (List.toArray its) k4) :: (tl ++ led) := fun p hp => .tail _ (ht2 p hp).1
  have mled : ∀ p ∈ led, p ∈ (XL, W.listOf (List.toArray its) k4) :: (tl ++ led) := fun p hp => .tail _ (List.mem_append_right _ hp)
  have hXR : @LT.lt Nat _ RL XL := hlow (XL, _) (.head _)
  have neT : ∀ (q : Addr), (q, W.listOf #[] 0) ∈ led → ∀ p ∈ tl2, @Ne Nat p.1 q := fun q hq p hp => by
    obtain ⟨_, vs', c1, e1, l8⟩ := ht2 p hp
    exact ne_of_obj N4 (iT2 p hp) (mled _ hq) fun e => listOf_ne l8 (e1.symm.trans e)
  refine @law_iter w mg mb topNames ad ((ns.take 3).map figF ++ ownF) XL RL NL its.toArray k4 on' H hH dp un gd (.ref c') A₀ base g L { s with heap := h4, toks := tk4 } _ ((XL, W.listOf (List.toArray its) k4) :: (tl2 ++ [(L + 3, op), (L + 1, oo), (P', tabObj #[]), (sc, o)])) _ pl.good (by rw [List.size_toArray]; exact hF2.1) ?h20 ?hits (.head _) B GG hd hu dn ⟨hL3, hNR⟩ ?hN ?hR F4 (.cons (by repeat (first | exact if_pos rfl | refine (if_neg (by decide +kernel)).trans ?_ | with_unfolding_all rfl)) .nil) (fun p hp => N4 p ?hm) ?done
  case h20 =>
    rw [List.length_append, List.length_map, List.length_take]
    show _ + 7 ≤ 20
    omega
  case hits =>
    intro i x e
    obtain ⟨fg, vs', c1, e1, e2, e3⟩ := hF2.2 i x e
    exact ⟨fg, vs', c1, by simpa using e1, .tail _ (List.mem_append_left _ e2), e3⟩
  case hN =>
    intro p hp
    show @Ne Nat p.1 NL
    rcases List.mem_cons.mp hp with rfl | hp
    · show @Ne Nat XL NL; omega
    · rcases List.mem_append.mp hp with hp | hp
      · exact neT NL iNL p hp
      · have := low p hp; omega
  case hR =>
    intro p hp
    show @Ne Nat p.1 RL
    rcases List.mem_cons.mp hp with rfl | hp
    · show @Ne Nat XL RL; omega
    · rcases List.mem_append.mp hp with hp | hp
      · exact neT RL iRL p hp
      · have := low p hp; omega
  case hm =>
    unfold LSt.led at hp
    rcases List.mem_cons.mp hp with rfl | hp
    · exact mled _ iNL
    · rcases List.mem_cons.mp hp with rfl | hp
      · exact mled _ iRL
      · rcases List.mem_cons.mp hp with rfl | hp
        · exact mled _ iON
        · rcases List.mem_cons.mp hp with rfl | hp
          · exact .head _
          · rcases List.mem_append.mp hp with hp | hp
            · exact iT2 p hp
            · exact mled _ (iRs p hp)
  case done =>
    intro a m5 h5 tk5 hS hR hob F5 N5
    dsimp only
    have hlen : ((kept ((ns.take 3).map figF ++ ownF)).map (·.2)).length = ((kept ((ns.take 3).map figF ++ ownF)).map (·.1)).length := by rw [List.length_map, List.length_map]
    have hk := kept_length ((ns.take 3).map figF ++ ownF)
    rw [List.length_append, List.length_map, List.length_take] at hk
    have hk7 : ownF.length = 7 := rfl
    refine wpAny_mono (@law_tail w mg mb topNames ad _ rfl NL RL P' c' sc oo on' op o v1 v3 a.nv a.rv a.nc a.rc _ _ a.ob dp un gd A₀ base g L { s with heap := h5, toks := tk5 } _ B GG T C hd hu d1 dn d3 hS hR hlen pl.h4 (by rw [List.length_map]; exact pl.h2) (by rw [List.length_map]; omega) (fun i j hi hj => pl.cmp i j (by rwa [List.length_map] at hi) (by rwa [List.length_map] at hj)) ⟨n1, n2, hL3, Nat.lt_trans hL3 hNR⟩ hsP (fun q hq => by have := hob q hq; omega) F5 (fun p hp => N5 p ?_)) (fun f s2 hq => ?_) fun _ _ h => h
    · unfold LSt.led
      revert hp; revert p
      refine all_cons (.tail _ (.tail _ (.tail _ (List.mem_append_right _ (.tail _ (List.mem_append_right _ (.tail _ (.head _)))))))) (all_cons (.tail _ (.head _)) (all_cons (.tail _ (.tail _ (.tail _ (List.mem_append_right _ (.tail _ (List.mem_append_right _ (.head _))))))) (all_cons (.head _) (all_cons (.tail _ (.tail _ (.head _))) (all_cons (.tail _ (.tail _ (.tail _ (List.mem_append_right _ (.tail _ (List.mem_append_right _ (.tail _ (.tail _ (.head _))))))))) (all_cons (.tail _ (.tail _ (.tail _ (List.mem_append_right _ (.tail _ (List.mem_append_right _ (.tail _ (.tail _ (.tail _ (.head _)))))))))) fun p h => .tail _ (.tail _ (.tail _ (List.mem_append_left _ h)))))))))
    obtain ⟨h6, tk6, m6, ps, F6, N6⟩ := hq
    exact ret h6 tk6 m6 ps F6 N6
end
end
structure Wd (x : Str) : Prop where
  lo : LowL x.cps.toList
  len : x.length ≤ 6
theorem str_list_append (x y : Str) : (x ++ y).cps.toList = x.cps.toList ++ y.cps.toList := by rw [PySem.Str.cps_append, Array.toList_append]
theorem str_eq {x y : Str} (h : x.cps.toList = y.cps.toList) : x = y := PySem.Str.ext' (Array.toList_inj.mp h)
noncomputable def dig (l : List Nat) (i : Nat) : Int := if i < l.length then ((l.getD i 0 : Nat) : Int) - 96 else 0
theorem item_at {x : Str} {i : Nat} (h : i < x.cps.toList.length) : (Txt.item x (0 + (i : Int))).cps.getD 0 0 = x.cps.toList.getD i 0 := by
  have h' : i < x.cps.size := by simpa using h
  have hz : x.length = x.cps.size := rfl
  have e : (0 + (i : Int)) = (i : Int) := by omega
  rw [e]
  show (Txt.charAt x (i : Int)).getD 0 = _
  have e2 : seqIndex? (i : Int) x.length = some i := by
    unfold seqIndex?
    simp [hz]
    omega
  unfold Txt.charAt
  rw [e2]
  simp [List.getD, h']
theorem numF_succ (x : Str) (i : Nat) : numF x (i + 1) = 27 * numF x i + dig x.cps.toList i := by
  have e : numF x (i + 1) = if 0 + (i : Int) < x.length then 27 * numF x i + ((Txt.item x (0 + (i : Int))).cps.getD 0 0 : Nat) - 96 else 27 * numF x i := rfl
  rw [e]
  unfold dig
  have hl : x.length = x.cps.toList.length := by simp [PySem.Str.length]
  by_cases h : i < x.cps.toList.length
  · rw [if_pos (by omega), if_pos h, item_at h]; omega
  · rw [if_neg (by omega), if_neg h]; omega
theorem numF_val {x : Str} (h : Wd x) : numF x 6 = valW 6 x.cps.toList := by
  have hl : x.cps.toList.length ≤ 6 := by have := h.len; simpa [PySem.Str.length] using this
  have e0 : numF x 0 = 0 := rfl
  rw [numF_succ, numF_succ, numF_succ, numF_succ, numF_succ, numF_succ, e0]
  generalize x.cps.toList = l at *
  match l, hl with
  | [], _ => rfl
  | [a], _ => simp [dig, valW]; omega
  | [a, b], _ => simp [dig, valW]; omega
  | [a, b, c], _ => simp [dig, valW]; omega
  | [a, b, c, d], _ => simp [dig, valW]; omega
  | [a, b, c, d, e], _ => simp [dig, valW]; omega
  | [a, b, c, d, e, f], _ => simp [dig, valW]; omega
  | _ :: _ :: _ :: _ :: _ :: _ :: _ :: _, h => simp at h
theorem cps_dot : (Str.ofString ".").cps.toList = [46] := by decide
theorem cps_at : (Str.ofString "@").cps.toList = [64] := by decide
theorem cps_C : (Str.ofString "C").cps.toList = [67] := by decide
theorem cps_utf : (Str.ofString "UTF-8").cps.toList = [85, 84, 70, 45, 56] := by decide
theorem cps_iso : (Str.ofString "ISO8859-15").cps.toList = [73, 83, 79, 56, 56, 53, 57, 45, 49, 53] := by decide
structure Tri (l e m : Option Str) : Prop where
  l : ∀ x, l = some x → Wd x
  e : ∀ x, e = some x → Wd x ∨ x = Str.ofString "UTF-8" ∨ x = Str.ofString "ISO8859-15"
  m : ∀ x, m = some x → Wd x
noncomputable def LLs : Option Str → List Nat
  | none => [67]
  | some x => x.cps.toList
noncomputable def MMs : Option Str → List Nat
  | none => []
  | some x => 64 :: x.cps.toList
noncomputable def EEs : Option Str → List Nat
  | none => []
  | some x => 46 :: x.cps.toList
theorem wri_list (l e m : Option Str) : (wri l e m).cps.toList = LLs l ++ (EEs e ++ MMs m) := by
  cases l <;> cases e <;> cases m <;>
    simp only [wri, app, Option.getD, str_list_append, cps_dot, cps_at, cps_C, LLs, MMs, EEs, List.append_assoc, List.append_nil, List.nil_append, List.cons_append]
noncomputable def rl : Option Str → Int
  | none => 1
  | some x => 2 * valW 6 x.cps.toList
noncomputable def mn : Option Str → Int
  | none => 0
  | some x => 1 + valW 6 x.cps.toList
theorem Wd.len6 {x : Str} (h : Wd x) : x.cps.toList.length ≤ 6 := by have := h.len; simpa [PySem.Str.length] using this
theorem Wd.bd {x : Str} (h : Wd x) : 0 ≤ valW 6 x.cps.toList := (valW_bd 6 _ h.lo h.len6).1
theorem Wd.cases {x : Str} (h : Wd x) : (x.cps.toList = [] ∧ valW 6 x.cps.toList = 0) ∨ ∃ c r, x.cps.toList = c :: r ∧ 97 ≤ c ∧ 14348907 ≤ valW 6 x.cps.toList := by
  cases e : x.cps.toList with
  | nil => exact .inl ⟨rfl, rfl⟩
  | cons c r =>
    have hlo := h.lo
    have hl := h.len6
    rw [e] at hlo hl
    obtain ⟨c1, c2⟩ := hlo c (.head _)
    obtain ⟨b1, _⟩ := valW_bd 5 r (fun c hc => hlo c (.tail _ hc)) (by simpa using hl)
    refine .inr ⟨c, r, rfl, c1, ?_⟩
    show (14348907 : Int) ≤ ((c : Int) - 96) * 27 ^ 5 + valW 5 r
    have : ((27 : Int) ^ 5) = 14348907 := by decide
    rw [this]; omega
theorem Wd.iso {x : Str} (h : Wd x) : (x == Str.ofString "ISO8859-15") = false := by
  cases q : (x == Str.ofString "ISO8859-15") with
  | false => rfl
  | true =>
    have e : x = Str.ofString "ISO8859-15" := by simpa using q
    have := h.lo 73 (by rw [e, cps_iso]; decide)
    omega
theorem Wd.utf {x : Str} (h : Wd x) : (x == Str.ofString "UTF-8") = false := by
  cases q : (x == Str.ofString "UTF-8") with
  | false => rfl
  | true =>
    have e : x = Str.ofString "UTF-8" := by simpa using q
    have := h.lo 85 (by rw [e, cps_utf]; decide)
    omega
theorem lang_cmp {l l' : Option Str} (h : ∀ x, l = some x → Wd x) (h' : ∀ x, l' = some x → Wd x) : lc (LLs l) (LLs l') = ci (rl l) (rl l') := by
  cases l with
  | none =>
    cases l' with
    | none => rfl
    | some y =>
      have wy := h' y rfl
      show lc [67] y.cps.toList = ci 1 (2 * valW 6 y.cps.toList)
      rcases wy.cases with ⟨e, v⟩ | ⟨c, r, e, hc, v⟩
      · rw [v, e]; rfl
      · rw [ci_lt (by omega), e, lc_cons, if_pos (by omega)]
  | some x =>
    have wx := h x rfl
    cases l' with
    | none =>
      show lc x.cps.toList [67] = ci (2 * valW 6 x.cps.toList) 1
      rcases wx.cases with ⟨e, v⟩ | ⟨c, r, e, hc, v⟩
      · rw [v, e]; rfl
      · rw [ci_gt (by omega), e, lc_cons, if_neg (by omega), if_pos (by omega)]
    | some y =>
      have wy := h' y rfl
      show lc x.cps.toList y.cps.toList = ci (2 * valW 6 x.cps.toList) (2 * valW 6 y.cps.toList)
      rw [lc_val 6 _ _ wx.lo wy.lo wx.len6 wy.len6]
      unfold ci
      generalize valW 6 x.cps.toList = a
      generalize valW 6 y.cps.toList = b
      by_cases h1 : a < b
      · rw [if_pos h1, if_pos (by omega)]
      · by_cases h2 : b < a
        · rw [if_neg h1, if_pos h2, if_neg (by omega), if_pos (by omega)]
        · rw [if_neg h1, if_neg h2, if_neg (by omega), if_neg (by omega)]
theorem mod_cmp {m m' : Option Str} (h : ∀ x, m = some x → Wd x) (h' : ∀ x, m' = some x → Wd x) : lc (MMs m) (MMs m') = ci (mn m) (mn m') := by
  cases m with
  | none =>
    cases m' with
    | none => rfl
    | some y =>
      have := (h' y rfl).bd
      show Ordering.lt = ci 0 (1 + valW 6 y.cps.toList)
      rw [ci_lt (by omega)]
  | some x =>
    have wx := h x rfl
    cases m' with
    | none =>
      have := wx.bd
      show Ordering.gt = ci (1 + valW 6 x.cps.toList) 0
      rw [ci_gt (by omega)]
    | some y =>
      have wy := h' y rfl
      show lc (64 :: x.cps.toList) (64 :: y.cps.toList) = ci (1 + valW 6 x.cps.toList) (1 + valW 6 y.cps.toList)
      rw [lc_cons, if_neg (by omega), if_neg (by omega), lc_val 6 _ _ wx.lo wy.lo wx.len6 wy.len6]
      unfold ci
      generalize valW 6 x.cps.toList = a
      generalize valW 6 y.cps.toList = b
      by_cases h1 : a < b
      · rw [if_pos h1, if_pos (by omega)]
      · by_cases h2 : b < a
        · rw [if_neg h1, if_pos h2, if_neg (by omega), if_pos (by omega)]
        · rw [if_neg h1, if_neg h2, if_neg (by omega), if_neg (by omega)]
theorem lc_prefix : ∀ (u x y : List Nat), lc (u ++ x) (u ++ y) = lc x y
  | [], _, _ => rfl
  | a :: u, x, y => by
    show lc (a :: (u ++ x)) (a :: (u ++ y)) = _
    rw [lc_cons, if_neg (Nat.lt_irrefl _), if_neg (Nat.lt_irrefl _)]
    exact lc_prefix u x y
noncomputable def ecOf (x : Str) : Int := if (x == Str.ofString "ISO8859-15") = true then 1 else if (x == Str.ofString "UTF-8") = true then 2 else 3 * valW 6 x.cps.toList
theorem ec_wd {x : Str} (h : Wd x) : ecOf x = 3 * valW 6 x.cps.toList := by
  unfold ecOf
  rw [if_neg (by rw [h.iso]; decide), if_neg (by rw [h.utf]; decide)]
theorem ec_utf : ecOf (Str.ofString "UTF-8") = 2 := by
  unfold ecOf
  rw [if_neg (by decide), if_pos (by decide)]
theorem ec_iso : ecOf (Str.ofString "ISO8859-15") = 1 := by
  unfold ecOf
  rw [if_pos (by decide)]
theorem mm_hd (m : Option Str) : hd65 (MMs m) = true := by cases m <;> rfl
theorem wd_ge {x : Str} (h : Wd x) : ∀ c ∈ x.cps.toList, 65 ≤ c := fun c hc => by have := h.lo c hc; omega
theorem wd_cap {x : Str} (h : Wd x) {k : Nat} {v : List Nat} (hk : 65 ≤ k ∧ k < 97) (m : Option Str) (n : Int) (hn : 0 < n ∧ n < 3) : lc (x.cps.toList ++ MMs m) (k :: v) = ci (3 * valW 6 x.cps.toList) n ∧ lc (k :: v) (x.cps.toList ++ MMs m) = ci n (3 * valW 6 x.cps.toList) := by
  rcases h.cases with ⟨e, hv⟩ | ⟨c, r, e, hc, hv⟩
  · rw [hv, e, ci_lt (by omega), ci_gt (by omega)]
    cases m with
    | none => exact ⟨rfl, rfl⟩
    | some y =>
      refine ⟨?_, ?_⟩
      · show lc (64 :: y.cps.toList) (k :: v) = _
        rw [lc_cons, if_pos (by omega)]
      · show lc (k :: v) (64 :: y.cps.toList) = _
        rw [lc_cons, if_neg (by omega), if_pos (by omega)]
  · rw [ci_gt (by omega), ci_lt (by omega), e]
    refine ⟨?_, ?_⟩
    · show lc (c :: (r ++ MMs m)) (k :: v) = _
      rw [lc_cons, if_neg (by omega), if_pos (by omega)]
    · show lc (k :: v) (c :: (r ++ MMs m)) = _
      rw [lc_cons, if_pos (by omega)]
theorem enc_cmp {x y : Str} (hx : Wd x ∨ x = Str.ofString "UTF-8" ∨ x = Str.ofString "ISO8859-15") (hy : Wd y ∨ y = Str.ofString "UTF-8" ∨ y = Str.ofString "ISO8859-15") (m m' : Option Str) :
    lc (x.cps.toList ++ MMs m) (y.cps.toList ++ MMs m') = (ci (ecOf x) (ecOf y)).then (lc (MMs m) (MMs m')) := by
  rcases hx with wx | rfl | rfl
  · rcases hy with wy | rfl | rfl
    · rw [lc_split (wd_ge wx) (wd_ge wy) (mm_hd m) (mm_hd m'), ec_wd wx, ec_wd wy, lc_val 6 _ _ wx.lo wy.lo wx.len6 wy.len6]
      congr 1
      unfold ci
      generalize valW 6 x.cps.toList = a
      generalize valW 6 y.cps.toList = b
      by_cases h1 : a < b
      · rw [if_pos h1, if_pos (by omega)]
      · by_cases h2 : b < a
        · rw [if_neg h1, if_pos h2, if_neg (by omega), if_pos (by omega)]
        · rw [if_neg h1, if_neg h2, if_neg (by omega), if_neg (by omega)]
    · rw [ec_wd wx, ec_utf, cps_utf, List.cons_append, (wd_cap wx (by omega) m 2 (by omega)).1]
      rcases wx.cases with ⟨_, hv⟩ | ⟨_, _, _, _, hv⟩
      · rw [ci_lt (by omega)]; rfl
      · rw [ci_gt (by omega)]; rfl
    · rw [ec_wd wx, ec_iso, cps_iso, List.cons_append, (wd_cap wx (by omega) m 1 (by omega)).1]
      rcases wx.cases with ⟨_, hv⟩ | ⟨_, _, _, _, hv⟩
      · rw [ci_lt (by omega)]; rfl
      · rw [ci_gt (by omega)]; rfl
  · rcases hy with wy | rfl | rfl
    · rw [ec_wd wy, ec_utf, cps_utf, List.cons_append, (wd_cap wy (by omega) m' 2 (by omega)).2]
      rcases wy.cases with ⟨_, hv⟩ | ⟨_, _, _, _, hv⟩
      · rw [ci_gt (by omega)]; rfl
      · rw [ci_lt (by omega)]; rfl
    · rw [lc_prefix, ci_self]; rfl
    · rw [ec_utf, ec_iso, cps_utf, cps_iso]; rfl
  · rcases hy with wy | rfl | rfl
    · rw [ec_wd wy, ec_iso, cps_iso, List.cons_append, (wd_cap wy (by omega) m' 1 (by omega)).2]
      rcases wy.cases with ⟨_, hv⟩ | ⟨_, _, _, _, hv⟩
      · rw [ci_gt (by omega)]; rfl
      · rw [ci_lt (by omega)]; rfl
    · rw [ec_utf, ec_iso, cps_utf, cps_iso]; rfl
    · rw [lc_prefix, ci_self]; rfl
noncomputable def erow : Option Str → Option Str → List Int
  | none, m => [match m with | none => 0 | some _ => 2, 0, mn m]
  | some x, m => [1, ecOf x, mn m]
theorem lr3 (a b c a' b' c' : Int) : lr [a, b, c] [a', b', c'] = (ci a a').then ((ci b b').then (ci c c')) := by
  show (ci a a').then ((ci b b').then ((ci c c').then .eq)) = _
  cases ci a a' <;> cases ci b b' <;> cases ci c c' <;> rfl
theorem tail_cmp {l e m l' e' m' : Option Str} (h : Tri l e m) (h' : Tri l' e' m') : lc (EEs e ++ MMs m) (EEs e' ++ MMs m') = lr (erow e m) (erow e' m') := by
  have hm := mod_cmp h.m h'.m
  cases e with
  | none =>
    cases e' with
    | none =>
      show lc (MMs m) (MMs m') = lr [_, 0, mn m] [_, 0, mn m']
      rw [hm, lr3]
      cases m with
      | none =>
        cases m' with
        | none => rfl
        | some y =>
          have := (h'.m y rfl).bd
          show ci 0 (1 + valW 6 y.cps.toList) = _
          rw [ci_lt (by omega)]; rfl
      | some x =>
        cases m' with
        | none =>
          have := (h.m x rfl).bd
          show ci (1 + valW 6 x.cps.toList) 0 = _
          rw [ci_gt (by omega)]; rfl
        | some y => rfl
    | some y =>
      show lc (MMs m) (46 :: (y.cps.toList ++ MMs m')) = lr [_, 0, mn m] [1, ecOf y, mn m']
      rw [lr3]
      cases m with
      | none => rfl
      | some x => rfl
  | some x =>
    cases e' with
    | none =>
      show lc (46 :: (x.cps.toList ++ MMs m)) (MMs m') = lr [1, ecOf x, mn m] [_, 0, mn m']
      rw [lr3]
      cases m' with
      | none => rfl
      | some y => rfl
    | some y =>
      show lc (46 :: (x.cps.toList ++ MMs m)) (46 :: (y.cps.toList ++ MMs m')) = lr [1, ecOf x, mn m] [1, ecOf y, mn m']
      rw [lr3, lc_cons, if_neg (by omega), if_neg (by omega), enc_cmp (h.e x rfl) (h'.e y rfl), hm]
      rfl
noncomputable def erF (e m : Option Str) : List Int := [er1 e m, er2 e]
theorem row_list {l e m : Option Str} (h : Tri l e m) : rowL l e m = rl l :: erow e m := by
  have e0 : rowL l e m = [rlF l] ++ erF e m ++ [mnF m] := rowL_eq l e m
  have e1 : rlF l = rl l := by
    cases l with
    | none => rfl
    | some x => show 2 * numF x 6 = 2 * valW 6 x.cps.toList; rw [numF_val (h.l x rfl)]
  have e3 : mnF m = mn m := by
    cases m with
    | none => rfl
    | some x => show 1 + numF x 6 = 1 + valW 6 x.cps.toList; rw [numF_val (h.m x rfl)]
  rw [e0, e1, e3]
  cases e with
  | none => rfl
  | some y =>
    show [rl l, 1, if (y == "ISO8859-15") = true then 1 else if (y == "UTF-8") = true then 2 else 3 * numF y 6, mn m] = [rl l, 1, ecOf y, mn m]
    rcases h.e y rfl with wy | rfl | rfl
    · have i1 : (y == "ISO8859-15") = false := wy.iso
      have i2 : (y == "UTF-8") = false := wy.utf
      rw [i1, i2, ec_wd wy, numF_val wy]; rfl
    · rw [ec_utf, if_neg (by decide), if_pos (by decide)]
    · rw [ec_iso, if_pos (by decide)]
theorem name_cmp {l e m l' e' m' : Option Str} (h : Tri l e m) (h' : Tri l' e' m') : lc (wri l e m).cps.toList (wri l' e' m').cps.toList = lr (rowL l e m) (rowL l' e' m') := by
  have ge : ∀ {l : Option Str}, (∀ x, l = some x → Wd x) → ∀ c ∈ LLs l, 65 ≤ c := fun {l} h c hc => by
    cases l with
    | none => rw [List.mem_singleton.mp hc]; decide
    | some x => exact wd_ge (h x rfl) c hc
  have hd : ∀ e m : Option Str, hd65 (EEs e ++ MMs m) = true := fun e m => by cases e <;> cases m <;> rfl
  rw [wri_list, wri_list, row_list h, row_list h', lc_split (ge h.l) (ge h'.l) (hd _ _) (hd _ _), lang_cmp h.l h'.l, tail_cmp h h']
  rfl
noncomputable def KF (l : List Nat) : List Nat := (keepL l).flatMap fun t => t.cps.toList
theorem kf_letter : ∀ i : Fin 4, ∀ w : Fin 12, KF [ltr (fistc i) ((w : Nat) : Int)] = [fistc i] := by decide +kernel
theorem kf_oth : ∀ i : Fin 8, KF [(othC.getD i 0).toNat] = (othW.getD i ⟨#[]⟩).cps.toList := by decide +kernel
theorem kf_not : ∀ i : Fin 27, KF [(noth.getD i 0).toNat] = [] := by decide +kernel
theorem kf_eu : ∀ i : Fin 4, ∀ r : Fin 8, KF [ltr (euC i) ((r : Nat) : Int)] = [euC i] := by decide +kernel
noncomputable def isBar (k : Int) : Bool := (decide (64976 ≤ k) && decide (k < 65008)) || (decide (65529 ≤ k) && decide (k < 65534)) || (decide (12272 ≤ k) && decide (k < 12284)) || k == 832 || k == 833 || k == 8206 || k == 8207 || (decide (8234 ≤ k) && decide (k < 8239)) || (decide (8298 ≤ k) && decide (k < 8304)) || k == 917505 || (decide (917536 ≤ k) && decide (k < 917632)) || decide (65534 ≤ k % 65536)
noncomputable def barR : List (Nat × Nat) := [(64976, 65008), (65529, 65536), (12272, 12284), (832, 834), (8206, 8208), (8234, 8239), (8298, 8304)]
noncomputable def barIn (c : Nat) : Bool := (barR.any fun p => Nat.ble p.1 c && Nat.blt c p.2) || Nat.ble 131070 c
noncomputable def offBar (a b : Nat) : Bool := (barR.all fun p => Nat.blt b p.1 || Nat.ble p.2 a) && Nat.blt b 131070
theorem offBar_spec {a b c : Nat} (h : offBar a b = true) (hc : barIn c = true) : c < a ∨ b < c := by
  obtain ⟨h1, h2⟩ := Bool.and_eq_true_iff.mp h
  rcases Bool.or_eq_true_iff.mp hc with hc | hc
  · obtain ⟨p, hp, e⟩ := List.any_eq_true.mp hc
    obtain ⟨e1, e2⟩ := Bool.and_eq_true_iff.mp e
    rcases Bool.or_eq_true_iff.mp (List.all_eq_true.mp h1 p hp) with h | h
    · exact .inr (Nat.lt_of_lt_of_le (Nat.le_of_ble_eq_true h) (Nat.le_of_ble_eq_true e1))
    · exact .inl (Nat.lt_of_lt_of_le (Nat.le_of_ble_eq_true e2) (Nat.le_of_ble_eq_true h))
  · exact .inr (Nat.lt_of_lt_of_le (Nat.le_of_ble_eq_true h2) (Nat.le_of_ble_eq_true hc))
theorem shifted_none {c : Nat} (hc : barIn c = true) : ∀ {one : List (Nat × Nat × Nat)}, (one.all fun p => offBar p.1 p.2.1) = true → Unicode.shifted one c = none
  | [], _ => rfl
  | (a, b, t) :: rest, h => by
    rw [List.all_cons, Bool.and_eq_true] at h
    unfold Unicode.shifted
    by_cases h1 : c < a
    · rw [if_pos h1]
    · rw [if_neg h1, if_neg (by have h2 : c < a ∨ b < c := offBar_spec h.1 hc; omega)]
      exact shifted_none hc h.2
theorem lookup_none {c : Nat} : ∀ {l : List (Nat × List Nat)}, (l.all fun p => !barIn p.1) = true → barIn c = true → l.lookup c = none
  | [], _, _ => rfl
  | (a, t) :: rest, h, hc => by
    rw [List.all_cons, Bool.and_eq_true] at h
    have e : (c == a) = false := by
      cases q : (c == a) with
      | false => rfl
      | true =>
        have : c = a := by simpa using q
        subst this
        have := h.1
        rw [show barIn c = true from hc] at this
        cases this
    simp only [List.lookup, e]
    exact lookup_none h.2 hc
theorem one_off : (UnicodeData.oneLower.all fun p => offBar p.1 p.2.1) = true := by decide +kernel
theorem several_off : (UnicodeData.severalLower.all fun p => !barIn p.1) = true := by decide +kernel
theorem b3_off : b3L.all (fun p => !isBar p.1) = true := by decide +kernel
theorem bar_is : ∀ n : Fin 195, isBar (barS n : Int) = true ∧ barIn (barS n) = true ∧ b1L.contains (barS n : Int) = false := by decide +kernel
theorem ref_bar : ∀ n : Fin 195, refOf inC4 (barS n) = [barW n] := by decide +kernel
theorem lower_bar {c : Nat} (hc : barIn c = true) : (Txt.lower ⟨#[c]⟩).cps.toList = [c] := by
  have e1 : Unicode.lowerOf c = [c] := by
    unfold Unicode.lowerOf Unicode.image
    rw [lookup_none several_off hc, shifted_none hc one_off]
    rfl
  have e2 : Unicode.lowerAt #[c] 0 = Unicode.lowerOf c := by
    unfold Unicode.lowerAt
    show (if (c == 0x3A3 && Unicode.endsWord #[c] 0) = true then _ else _) = _
    have : (c == 0x3A3) = false := by
      cases q : (c == 0x3A3) with
      | false => rfl
      | true =>
        have : c = 931 := by simpa using q
        subst this
        exact absurd hc (by decide)
    rw [this]; rfl
  show (PySem.placed ⟨#[c]⟩ fun i _ => Unicode.lowerAt #[c] i).toList = [c]
  unfold PySem.placed
  show ((#[c].mapIdx fun i c' => (Unicode.lowerAt #[c] i).toArray).flatten).toList = [c]
  simp [e2, e1]
theorem b3_none {c : Nat} (hc : isBar (c : Int) = true) : b3At c = none := by
  unfold b3At
  rw [List.find?_eq_none.mpr (fun p hp => ?_)]
  · rfl
  · have := List.all_eq_true.mp b3_off p hp
    simp only [decide_eq_true_eq]
    intro e
    rw [e, hc] at this
    cases this
theorem kf_one (c : Nat) : KF [c] = if b1L.contains (c : Int) = true then [] else (b3fold c).cps.toList := by
  have h := keepL_snoc [] c
  rw [List.nil_append, show keepL [] = [] from rfl, List.nil_append] at h
  unfold KF
  rw [h]
  split
  · rfl
  · simp
theorem kf_bar (n : Nat) (hn : n < 195) : KF [barS n] = [barS n] := by
  obtain ⟨h1, h2, h3⟩ := bar_is ⟨n, hn⟩
  rw [kf_one, if_neg (by rw [h3]; decide)]
  unfold b3fold
  rw [b3_none h1]
  exact lower_bar h2
theorem ref_low : ∀ c : Fin 26, refOf inC4 (c + 97) = [] := by decide +kernel
theorem kept_own : 2 ≤ (kept ownF).length := by decide +kernel
theorem kf_append (l l' : List Nat) : KF (l ++ l') = KF l ++ KF l' := by
  unfold KF keepL
  rw [List.filter_append, List.map_append, List.flatMap_append]
theorem join_list : ∀ ts : List Str, (Txt.join (Str.ofString "") ts).cps.toList = ts.flatMap fun t => t.cps.toList := by
  have go : ∀ ts : List Str, (PySem.Str.join (Str.ofString "") ts).cps.toList = ts.flatMap fun t => t.cps.toList := by
    intro ts
    induction ts with
    | nil => rfl
    | cons x r ih =>
      cases r with
      | nil => simp [PySem.Str.join]
      | cons y r =>
        show (x ++ Str.ofString "" ++ PySem.Str.join (Str.ofString "") (y :: r)).cps.toList = _
        rw [str_list_append, str_list_append, ih]
        have e : (Str.ofString "").cps.toList = [] := by decide
        rw [e, List.append_nil]
        simp only [List.flatMap_cons]
  intro ts
  show (Builtin.Str.glued (Str.ofString "") ts).cps.toList = _
  rw [StrLaws.glued_eq_join]
  exact go ts
theorem prep_list (x : Str) : (prep x).cps.toList = KF x.cps.toList := join_list _
theorem kf_tpc (k : Nat) (q : Int) (hk : k < 64) : KF (tpc (k : Int) q).cps.toList = (wpc (k : Int)).cps.toList := by
  unfold tpc wpc
  by_cases h1 : (k : Int) < 48
  · rw [if_pos h1, if_pos h1]
    have e1 : ((k : Int).fmod 4).toNat = k % 4 := by
      have : Int.fmod (k : Int) 4 = ((k % 4 : Nat) : Int) := fmod_nat k 4
      rw [this]; rfl
    have e2 : (k : Int).fdiv 4 = ((k / 4 : Nat) : Int) := fdiv_nat k 4
    rw [e1, e2]
    exact kf_letter ⟨k % 4, by omega⟩ ⟨k / 4, by omega⟩
  · rw [if_neg h1, if_neg h1]
    by_cases h2 : (k : Int) < 56
    · rw [if_pos h2, if_pos h2]
      exact kf_oth ⟨((k : Int) - 48).toNat, by omega⟩
    · rw [if_neg h2, if_neg h2]
      have h3 := Int.fmod_nonneg_of_pos ((k : Int) + 8 * q) (show (0 : Int) < 27 by decide)
      have h4 := Int.fmod_lt_of_pos ((k : Int) + 8 * q) (show (0 : Int) < 27 by decide)
      exact kf_not ⟨(((k : Int) + 8 * q).fmod 27).toNat, by omega⟩
theorem low_wpc (k : Nat) : LowL (wpc (k : Int)).cps.toList := by
  intro c hc
  unfold wpc at hc
  by_cases h1 : (k : Int) < 48
  · rw [if_pos h1] at hc
    have hc' : c ∈ [fistc ((k : Int).fmod 4).toNat] := hc
    rw [List.mem_singleton.mp hc']
    exact fistc_bd _
  · rw [if_neg h1] at hc
    by_cases h2 : (k : Int) < 56
    · rw [if_pos h2] at hc
      generalize ((k : Int) - 48).toNat = i at hc
      by_cases h : i < 8
      · exact (by decide +kernel : ∀ i : Fin 8, ∀ c ∈ (othW.getD i ⟨#[]⟩).cps.toList, 97 ≤ c ∧ c ≤ 122) ⟨i, h⟩ c hc
      · rw [List.getD_eq_getElem?_getD, List.getElem?_eq_none (by show 8 ≤ i; omega)] at hc
        cases hc
    · rw [if_neg h2] at hc
      cases hc
theorem wt_pos {n : Nat} (h : n ≠ 0) : wtN n = tpc ((n % 64 : Nat) : Int) ((n / 64 : Nat) : Int) ++ wtN (n / 64) := by rw [wtN, if_neg h]
theorem ww_pos {n : Nat} (h : n ≠ 0) : wwN n = wpc ((n % 64 : Nat) : Int) ++ wwN (n / 64) := by rw [wwN, if_neg h]
theorem wt_zero : wtN 0 = ⟨#[]⟩ := by rw [wtN, if_pos rfl]
theorem ww_zero : wwN 0 = ⟨#[]⟩ := by rw [wwN, if_pos rfl]
theorem kf_wt (n : Nat) : KF (wtN n).cps.toList = (wwN n).cps.toList ∧ LowL (wwN n).cps.toList := by
  induction n using Nat.strongRecOn with
  | ind n ih =>
    by_cases h : n = 0
    · subst h
      rw [wt_zero, ww_zero]
      exact ⟨rfl, fun c hc => nomatch hc⟩
    · obtain ⟨h1, h2⟩ := ih (n / 64) (by omega)
      rw [wt_pos h, ww_pos h, str_list_append, str_list_append, kf_append, h1, kf_tpc _ _ (by omega)]
      refine ⟨rfl, fun c hc => ?_⟩
      rcases List.mem_append.mp hc with hc | hc
      · exact low_wpc _ c hc
      · exact h2 c hc
theorem wt_len64 {n : Nat} (h : n < 64) : (wtN n).length ≤ 1 ∧ (wwN n).length ≤ 3 := by
  by_cases h0 : n = 0
  · subst h0; rw [wt_zero, ww_zero]; exact ⟨by decide, by decide⟩
  · have e : n / 64 = 0 := by omega
    rw [wt_pos h0, ww_pos h0, e, wt_zero, ww_zero, str_append_nil, str_append_nil, tpc_len]
    exact ⟨Nat.le_refl _, wpc_len _⟩
theorem wt_len {n : Nat} (h : n < 4096) : (wtN n).length ≤ 2 ∧ (wwN n).length ≤ 6 := by
  by_cases h0 : n = 0
  · subst h0; rw [wt_zero, ww_zero]; exact ⟨by decide, by decide⟩
  · have l1 := tpc_len ((n % 64 : Nat) : Int) ((n / 64 : Nat) : Int)
    have l2 := wpc_len ((n % 64 : Nat) : Int)
    obtain ⟨a, b⟩ := wt_len64 (n := n / 64) (by omega)
    rw [wt_pos h0, ww_pos h0, PySem.Str.length_append, PySem.Str.length_append]
    omega
theorem wd_ww {n : Nat} (h : n < 4096) : Wd (wwN n) := ⟨(kf_wt n).2, (wt_len h).2⟩
section
variable {H : Nat → Bool} (hH : ∀ c, H c = inC4 c)
include hH
theorem ref_H (c : Nat) : refOf H c = refOf inC4 c := by
  unfold refOf refTo heldL
  rw [hH]
theorem ref_low' {l : List Nat} (h : LowL l) : refL H l = [] := by
  unfold refL
  rw [List.flatMap_eq_nil_iff]
  intro c hc
  obtain ⟨c1, c2⟩ := h c hc
  rw [ref_H hH]
  have := ref_low ⟨c - 97, by omega⟩
  simp only at this
  rwa [show c - 97 + 97 = c by omega] at this
end
theorem flat_len : ∀ (ts : List Str), (ts.flatMap fun t => t.cps.toList).length = (ts.map (·.length)).sum
  | [] => rfl
  | t :: ts => by
    rw [List.flatMap_cons, List.length_append, flat_len ts, List.map_cons, List.sum_cons]
    simp [PySem.Str.length]
theorem part_ok {H : Nat → Bool} {x : Str} {w : TW} (hl : x.length ≤ 10) (hw : w.ok = true) (hk : (KF x.cps.toList).length ≤ 20) (hres : refL H (KF x.cps.toList) = [] ∧ w = .tx (prep x) ∨ ∃ n, refL H (KF x.cps.toList) = [n] ∧ w = .ns n) : PartOk H ⟨some x, w⟩ := by
  refine ⟨hw, fun y hy => ?_⟩
  obtain rfl : x = y := Option.some.inj hy
  have hk2 : ((keepL x.cps.toList).map (·.length)).sum ≤ 20 := by rw [← flat_len]; exact hk
  have hk3 : (keepL x.cps.toList).length ≤ 10 := by
    unfold keepL
    rw [List.length_map]
    refine Nat.le_trans (List.length_filter_le _ _) ?_
    simpa [PySem.Str.length] using hl
  refine ⟨by omega, by omega, ?_, ?_⟩
  · have e : (Txt.join (Str.ofString "") (keepL x.cps.toList)).length = (Txt.join (Str.ofString "") (keepL x.cps.toList)).cps.toList.length := by simp [PySem.Str.length]
    rw [e, join_list, flat_len]; omega
  · rw [prep_list]; exact hres
/-- a typed text and its word -/
structure TyW (x y : Str) : Prop where
  kf : KF x.cps.toList = y.cps.toList
  wd : Wd y
  len : x.length ≤ 4
theorem Wd.ok {x : Str} (h : Wd x) : (TW.tx x).ok = true := by
  show PyData.strOk x = true
  unfold PyData.strOk
  rw [← Array.all_toList]
  refine List.all_eq_true.mpr fun c hc => decide_eq_true ?_
  have := h.lo c hc
  omega
theorem TyW.prep {x y : Str} (h : TyW x y) : prep x = y := str_eq ((prep_list x).trans h.kf)
theorem tyw_wt {n : Nat} (h : n < 4096) : TyW (wtN n) (wwN n) := ⟨(kf_wt n).1, wd_ww h, by have := (wt_len h).1; omega⟩
theorem sl2 : Builtin.Str.strSliceIndices (some 1) none 1 2 = [1] := by decide +kernel
theorem sl3 : Builtin.Str.strSliceIndices (some 1) none 1 3 = [1, 2] := by decide +kernel
theorem sl4 : Builtin.Str.strSliceIndices (some 1) none 1 4 = [1, 2, 3] := by decide +kernel
theorem slice_to (x : Str) (h : x.length ≤ 4) : (Txt.slice x none (some 1)).cps.toList = x.cps.toList.take 1 ∧ (Txt.slice x (some 1) none).cps.toList = x.cps.toList.drop 1 := by
  obtain ⟨⟨l⟩⟩ := x
  have hl : l.length ≤ 4 := h
  match l, hl with
  | [], _ => exact ⟨rfl, rfl⟩
  | [a], _ => exact ⟨rfl, rfl⟩
  | [a, b], _ =>
    refine ⟨rfl, ?_⟩
    have e : (⟨⟨[a, b]⟩⟩ : Str).length = 2 := rfl
    unfold Txt.slice
    rw [e, sl2]
    rfl
  | [a, b, c], _ =>
    refine ⟨rfl, ?_⟩
    have e : (⟨⟨[a, b, c]⟩⟩ : Str).length = 3 := rfl
    unfold Txt.slice
    rw [e, sl3]
    rfl
  | [a, b, c, d], _ =>
    refine ⟨rfl, ?_⟩
    have e : (⟨⟨[a, b, c, d]⟩⟩ : Str).length = 4 := rfl
    unfold Txt.slice
    rw [e, sl4]
    rfl
  | _ :: _ :: _ :: _ :: _ :: _, h => simp at h
theorem brd_list {x : Str} (h : x.length ≤ 4) (n : Nat) : (brd x n).cps.toList = x.cps.toList.take 1 ++ [barS n] ++ x.cps.toList.drop 1 := by
  obtain ⟨a, b⟩ := slice_to x h
  unfold brd
  rw [str_list_append, str_list_append, a, b]
theorem part_pt {H : Nat → Bool} (hH : ∀ c, H c = inC4 c) {x y : Str} (h : TyW x y) (k f6 f7 : Nat) (h7 : f7 < 195) : PartOk H (ptOf k f6 f7 (some x, some y)) := by
  have hlow := h.wd.lo
  have hy6 := h.wd.len6
  unfold ptOf
  show PartOk H (if f6 = k + 5 then ⟨some (brd x f7), .ns (barW f7)⟩ else ⟨some x, wOf (some y)⟩)
  by_cases hb : f6 = k + 5
  · rw [if_pos hb]
    have e1 := brd_list h.len f7
    have e2 : KF (x.cps.toList.take 1) ++ KF (x.cps.toList.drop 1) = y.cps.toList := by rw [← kf_append, List.take_append_drop, h.kf]
    have e3 : KF (brd x f7).cps.toList = KF (x.cps.toList.take 1) ++ [barS f7] ++ KF (x.cps.toList.drop 1) := by rw [e1, kf_append, kf_append, kf_bar f7 h7]
    have l1 : LowL (KF (x.cps.toList.take 1)) := fun c hc => hlow c (e2 ▸ List.mem_append_left _ hc)
    have l2 : LowL (KF (x.cps.toList.drop 1)) := fun c hc => hlow c (e2 ▸ List.mem_append_right _ hc)
    refine part_ok ?_ rfl ?_ (.inr ⟨barW f7, ?_, rfl⟩)
    · have e4 : (brd x f7).length = (brd x f7).cps.toList.length := by simp [PySem.Str.length]
      have e5 : x.cps.toList.length ≤ 4 := by have := h.len; simpa [PySem.Str.length] using this
      rw [e4, e1]
      simp only [List.length_append, List.length_take, List.length_drop, List.length_cons, List.length_nil]
      omega
    · have := congrArg List.length e2
      rw [List.length_append] at this
      rw [e3]
      simp only [List.length_append, List.length_cons, List.length_nil]
      omega
    · rw [e3]
      unfold refL
      rw [List.flatMap_append, List.flatMap_append]
      have r1 := ref_low' hH l1
      have r2 := ref_low' hH l2
      unfold refL at r1 r2
      rw [r1, r2]
      have r3 := ref_bar ⟨f7, h7⟩
      simp only [List.flatMap_cons, List.flatMap_nil, List.nil_append, List.append_nil]
      rw [ref_H hH]; exact r3
  · rw [if_neg hb]
    refine part_ok (by have := h.len; omega) h.wd.ok (by rw [h.kf]; omega) (.inl ⟨by rw [h.kf]; exact ref_low' hH hlow, by rw [h.prep]; rfl⟩)
theorem part_none {H : Nat → Bool} (k f6 f7 : Nat) (o : Option Str) (ho : (wOf o).ok = true) : PartOk H (ptOf k f6 f7 (none, o)) := by
  show PartOk H ⟨none, wOf o⟩
  exact ⟨ho, fun y hy => nomatch hy⟩
theorem eu_list (f5 : Nat) : (euT f5).cps.toList = [ltr (euC 0) ((Int.fdiv (f5 : Int) (8 ^ 0)).fmod 8), ltr (euC 1) ((Int.fdiv (f5 : Int) (8 ^ 1)).fmod 8), ltr (euC 2) ((Int.fdiv (f5 : Int) (8 ^ 2)).fmod 8), ltr (euC 3) ((Int.fdiv (f5 : Int) (8 ^ 3)).fmod 8)] := by
  unfold euT
  rw [join_list]
  rfl
theorem tyw_eu (f5 : Nat) : TyW (euT f5) (Str.ofString "euro") := by
  have one : ∀ (i : Nat) (z : Int), i < 4 → KF [ltr (euC i) (z.fmod 8)] = [euC i] := fun i z hi => by
    have h3 := Int.fmod_nonneg_of_pos z (show (0 : Int) < 8 by decide)
    have h4 := Int.fmod_lt_of_pos z (show (0 : Int) < 8 by decide)
    obtain ⟨r, hr⟩ := Int.eq_ofNat_of_zero_le h3
    rw [hr]
    exact kf_eu ⟨i, hi⟩ ⟨r, by omega⟩
  have e : (Str.ofString "euro").cps.toList = [101, 117, 114, 111] := by decide
  refine ⟨?_, ⟨?_, by decide⟩, ?_⟩
  · rw [eu_list, e]
    have sp : ∀ a b c d : Nat, KF [a, b, c, d] = KF [a] ++ (KF [b] ++ (KF [c] ++ KF [d])) := fun a b c d => by
      rw [← kf_append, ← kf_append, ← kf_append]; rfl
    rw [sp, one 0 _ (by decide), one 1 _ (by decide), one 2 _ (by decide), one 3 _ (by decide)]
    rfl
  · rw [e]
    intro c hc
    simp only [List.mem_cons, List.not_mem_nil, or_false] at hc
    omega
  · have e4 : (euT f5).length = (euT f5).cps.toList.length := by simp [PySem.Str.length]
    rw [e4, eu_list]
    exact Nat.le_refl 4
theorem hdot : Str.ofString "." = ⟨#[46]⟩ := str_eq cps_dot
theorem no_dot {x : Str} (h : Wd x) : 46 ∉ x.cps.toList := fun hc => by have := h.lo 46 hc; omega
theorem lang_dot {l : Option Str} (h : ∀ x, l = some x → Wd x) : 46 ∉ (l.getD (Str.ofString "C")).cps.toList := by
  cases l with
  | none => show 46 ∉ (Str.ofString "C").cps.toList; rw [cps_C]; decide
  | some x => exact no_dot (h x rfl)
theorem dotted (b y : Str) : (b ++ Str.ofString "." ++ y).cps.toList = b.cps.toList ++ 46 :: y.cps.toList := by
  rw [str_list_append, str_list_append, cps_dot, List.append_assoc]; rfl
theorem occ_no {b : Str} (h : 46 ∉ b.cps.toList) : (Builtin.Str.occurrences b (Str.ofString ".") 0 b.length 1).isEmpty = true := by
  rw [hdot, empty_one, decide_eq_false h]; rfl
theorem occ_yes (b y : Str) : (Builtin.Str.occurrences (b ++ Str.ofString "." ++ y) (Str.ofString ".") 0 (b ++ Str.ofString "." ++ y).length 1).isEmpty = false := by
  have h : 46 ∈ (b ++ Str.ofString "." ++ y).cps.toList := by rw [dotted]; simp
  generalize b ++ Str.ofString "." ++ y = z at *
  rw [hdot, empty_one, decide_eq_true h]; rfl
theorem part_no {b : Str} (h : 46 ∉ b.cps.toList) : (Txt.partition b (Str.ofString ".")).2.2 = PySem.Str.empty := by
  have := occ_no h
  unfold Txt.partition
  rw [List.isEmpty_iff.mp this]
theorem drop_dot : ∀ {l r : List Nat}, 46 ∉ l → (l ++ 46 :: r).dropWhile (· != 46) = 46 :: r
  | [], _, _ => by rw [List.nil_append, List.dropWhile_cons_of_neg (by decide)]
  | a :: l, r, h => by
    have ha : a ≠ 46 := fun e => h (by rw [e]; exact .head _)
    rw [List.cons_append, List.dropWhile_cons_of_pos (by simpa using ha)]
    exact drop_dot fun hm => h (.tail _ hm)
theorem part_yes {b y : Str} (h : 46 ∉ b.cps.toList) : (Txt.partition (b ++ Str.ofString "." ++ y) (Str.ofString ".")).2.2 = y := by
  have e := from_first_some (x := b ++ Str.ofString "." ++ y) (y := Str.ofString ".") (z := Str.ofString ".") hdot hdot (occ_yes b y)
  have e2 := congrArg (fun z : Str => z.cps.toList) (beq_iff_eq.mp e)
  simp only at e2
  rw [str_list_append, cps_dot, dotted, drop_dot h] at e2
  exact str_eq (by simpa using e2)
theorem tri_set {l e m : Option Str} (h : Tri l e m) : Tri l (setE e m) (setM e m) := by
  cases m with
  | none => exact h
  | some x =>
    by_cases hx : (x == "euro") = true
    · cases e with
      | none =>
        refine ⟨h.l, fun y hy => ?_, fun y hy => ?_⟩
        · have : setE none (some x) = some (Str.ofString "ISO8859-15") := by unfold setE; exact if_pos hx
          rw [this] at hy
          exact .inr (.inr (Option.some.inj hy).symm)
        · have : setM none (some x) = none := by unfold setM; exact if_pos hx
          rw [this] at hy; cases hy
      | some z =>
        refine ⟨h.l, fun y hy => ?_, fun y hy => ?_⟩
        · have : setE (some z) (some x) = some z := by unfold setE; exact if_pos hx
          rw [this] at hy
          exact h.e y hy
        · have : setM (some z) (some x) = if ([Str.ofString "ISO8859-15", Str.ofString "UTF-8"].any fun z' => z' == z) = true then none else some x := by unfold setM; exact if_pos hx
          rw [this] at hy
          split at hy
          · cases hy
          · exact h.m y hy
    · have e1 : setE e (some x) = e := by unfold setE; exact if_neg hx
      have e2 : setM e (some x) = some x := by unfold setM; exact if_neg hx
      rw [e1, e2]; exact h
theorem Tri.el {l e m : Option Str} (h : Tri l e m) : ∀ x, e = some x → x.length ≤ 10 := fun x hx => by
  rcases h.e x hx with w | rfl | rfl
  · have := w.len; omega
  · decide
  · decide
theorem enc_not {y : Str} (h : Wd y ∨ y = Str.ofString "UTF-8" ∨ y = Str.ofString "ISO8859-15") : (y == Str.ofString "ISO8859-1") = false := by
  rcases h with w | rfl | rfl
  · cases q : (y == Str.ofString "ISO8859-1") with
    | false => rfl
    | true =>
      have e : y = Str.ofString "ISO8859-1" := by simpa using q
      have := w.lo 73 (by rw [e]; decide)
      omega
  · decide
  · decide
theorem app_some (b d x : Str) : app b d (some x) = b ++ d ++ x := rfl
theorem app_none (b d : Str) : app b d none = b := rfl
theorem name_ok {l e m : Option Str} (h : Tri l e m) : NameOk l e m := by
  have hs := tri_set h
  have hd := lang_dot h.l
  have hl : (l.getD (Str.ofString "C")).length ≤ 6 := by
    cases l with
    | none => decide
    | some x => exact (h.l x rfl).len
  refine ⟨fun x hx => by have := (h.l x hx).len; omega, fun x hx => by have := h.el x hx; omega, fun x hx => by have := (h.m x hx).len; omega, fun x hx => by have := hs.el x hx; omega, fun x hx => by have := (hs.m x hx).len; omega, ?_, ?_, ?_⟩
  · cases e with
    | none => show (l.getD (Str.ofString "C")).length ≤ 1000; omega
    | some x =>
      have := h.el x rfl
      show (l.getD (Str.ofString "C") ++ Str.ofString "." ++ x).length ≤ 1000
      rw [PySem.Str.length_append, PySem.Str.length_append]
      have e1 : (Str.ofString ".").length = 1 := by decide
      omega
  · cases e with
    | none =>
      show ((Txt.partition (l.getD (Str.ofString "C")) (Str.ofString ".")).2.2 == Str.ofString "ISO8859-1") = false
      rw [part_no hd]; decide
    | some x =>
      show ((Txt.partition (l.getD (Str.ofString "C") ++ Str.ofString "." ++ x) (Str.ofString ".")).2.2 == Str.ofString "ISO8859-1") = false
      rw [part_yes hd]
      exact enc_not (h.e x rfl)
  · cases m with
    | none => rfl
    | some x =>
      show apm (app (l.getD (Str.ofString "C")) (Str.ofString ".") e) x = app (app (l.getD (Str.ofString "C")) (Str.ofString ".") (setE e (some x))) (Str.ofString "@") (setM e (some x))
      generalize l.getD (Str.ofString "C") = b at *
      by_cases hx : (x == Str.ofString "euro") = true
      · cases e with
        | none =>
          have e1 : setE none (some x) = some (Str.ofString "ISO8859-15") := by unfold setE; exact if_pos hx
          have e2 : setM none (some x) = none := by unfold setM; exact if_pos hx
          rw [e1, e2, app_none, app_none, app_some]
          unfold apm
          rw [if_pos hx, if_pos (occ_no hd)]
          refine str_eq ?_
          rw [str_list_append, dotted]
          have e3 : (Str.ofString ".ISO8859-15").cps.toList = 46 :: (Str.ofString "ISO8859-15").cps.toList := by decide
          rw [e3]
        | some z =>
          have e1 : setE (some z) (some x) = some z := by unfold setE; exact if_pos hx
          have e2 : setM (some z) (some x) = if ([Str.ofString "ISO8859-15", Str.ofString "UTF-8"].any fun z' => z' == z) = true then none else some x := by unfold setM; exact if_pos hx
          rw [e1, e2, app_some]
          unfold apm
          rw [if_pos hx, if_neg (by rw [occ_yes]; decide), part_yes hd]
          split
          · rfl
          · rfl
      · have e1 : setE e (some x) = e := by unfold setE; exact if_neg hx
        have e2 : setM e (some x) = some x := by unfold setM; exact if_neg hx
        rw [e1, e2, app_some]
        unfold apm
        rw [if_neg hx]
noncomputable def PO (Z : Str → Prop) (p : Option Str × Option Str) : Prop := (p.1 = none ∧ ∀ y, p.2 = some y → Z y) ∨ ∃ x y, p = (some x, some y) ∧ TyW x y
noncomputable def ZE (y : Str) : Prop := y = Str.ofString "UTF-8" ∨ y = Str.ofString "ISO8859-15"
theorem po0 {f0 f1 : Nat} (h : f1 < 4096) : PO (fun _ => False) (p0Of f0 f1) := by
  unfold p0Of
  split
  · exact .inr ⟨_, _, rfl, tyw_wt h⟩
  · exact .inl ⟨rfl, fun y hy => nomatch hy⟩
theorem po1 {f2 f3 : Nat} (h : f3 < 4096) : PO ZE (p1Of f2 f3) := by
  unfold p1Of
  split
  · exact .inl ⟨rfl, fun y hy => .inl (Option.some.inj hy).symm⟩
  · split
    · exact .inl ⟨rfl, fun y hy => .inr (Option.some.inj hy).symm⟩
    · split
      · exact .inr ⟨_, _, rfl, tyw_wt h⟩
      · exact .inl ⟨rfl, fun y hy => nomatch hy⟩
theorem po2 {f4 f5 : Nat} (h : f5 < 4096) : PO (fun _ => False) (p2Of f4 f5) := by
  unfold p2Of
  split
  · exact .inr ⟨_, _, rfl, tyw_eu f5⟩
  · split
    · exact .inr ⟨_, _, rfl, tyw_wt h⟩
    · exact .inl ⟨rfl, fun y hy => nomatch hy⟩
theorem po_part {H : Nat → Bool} (hH : ∀ c, H c = inC4 c) {Z : Str → Prop} (hZ : ∀ y, Z y → (TW.tx y).ok = true) {p : Option Str × Option Str} (hp : PO Z p) (k f6 f7 : Nat) (h7 : f7 < 195) : PartOk H (ptOf k f6 f7 p) := by
  rcases hp with ⟨e, hz⟩ | ⟨x, y, rfl, h⟩
  · obtain ⟨a, b⟩ := p
    simp only at e hz
    subst e
    refine part_none k f6 f7 b ?_
    cases b with
    | none => rfl
    | some y => exact hZ y (hz y rfl)
  · exact part_pt hH h k f6 f7 h7
theorem wOf_inj {o o' : Option Str} (h : wOf o = wOf o') : o = o' := by
  have := congrArg TW.opt h
  rwa [opt_wOf, opt_wOf] at this
theorem po_opt {Z : Str → Prop} {p : Option Str × Option Str} (hp : PO Z p) {k f6 f7 : Nat} {o : Option Str} (h : (ptOf k f6 f7 p).w = wOf o) : ∀ y, o = some y → Wd y ∨ Z y := by
  rcases hp with ⟨e, hz⟩ | ⟨x, y, rfl, ht⟩
  · obtain ⟨a, b⟩ := p
    simp only at e hz
    subst e
    have h' : wOf b = wOf o := h
    have := wOf_inj h'
    subst this
    exact fun y hy => .inr (hz y hy)
  · unfold ptOf at h
    have h' : (if f6 = k + 5 then (⟨some (brd x f7), .ns (barW f7)⟩ : PT) else ⟨some x, wOf (some y)⟩).w = wOf o := h
    by_cases hb : f6 = k + 5
    · rw [if_pos hb] at h'
      cases o <;> cases h'
    · rw [if_neg hb] at h'
      have h2 : wOf (some y) = wOf o := h'
      have := wOf_inj h2
      subst this
      intro z hz
      obtain rfl := Option.some.inj hz
      exact .inl ht.wd
theorem po_len {Z : Str → Prop} {p : Option Str × Option Str} (hp : PO Z p) : ∀ y, p.1 = some y → y.length ≤ 1000 := by
  rcases hp with ⟨e, hz⟩ | ⟨x, y, rfl, ht⟩
  · intro y hy; rw [e] at hy; cases hy
  · intro z hz
    obtain rfl := Option.some.inj hz
    have := ht.len; omega
theorem ff_tri {x : FF} (ok : x.Ok) {o0 o1 o2 : Option Str} (h0 : x.a.w = wOf o0) (h1 : x.b.w = wOf o1) (h2 : x.d.w = wOf o2) : Tri o0 o1 o2 :=
  ⟨fun y hy => (po_opt (po0 ok.h1) h0 y hy).resolve_right id, fun y hy => po_opt (po1 ok.h3) h1 y hy, fun y hy => (po_opt (po2 ok.h5) h2 y hy).resolve_right id⟩
theorem ff_good {H : Nat → Bool} (hH : ∀ c, H c = inC4 c) {x : FF} (ok : x.Ok) : x.Good H :=
  ⟨ok, po_part hH (fun _ h => h.elim) (po0 ok.h1) 0 x.f6 x.f7 ok.h7, po_part hH (fun y h => by rcases h with rfl | rfl <;> decide +kernel) (po1 ok.h3) 1 x.f6 x.f7 ok.h7, po_part hH (fun _ h => h.elim) (po2 ok.h5) 2 x.f6 x.f7 ok.h7,
    po_len (po0 ok.h1), po_len (po1 ok.h3), po_len (po2 ok.h5), fun o0 o1 o2 h0 h1 h2 => name_ok (ff_tri ok h0 h1 h2)⟩
theorem own_ok : ∀ x ∈ ownF, x.Ok := by
  intro x hx
  unfold ownF at hx
  simp only [List.mem_cons, List.not_mem_nil, or_false] at hx
  rcases hx with rfl | rfl | rfl | rfl | rfl | rfl | rfl
  all_goals exact ⟨by decide, by decide, by decide, by decide, by decide⟩
theorem kept_tri {FL : List FF} (hF : ∀ x ∈ FL, x.Ok) : ∀ p ∈ kept FL, ∃ l e m, Tri l e m ∧ p.1 = wri l e m ∧ p.2 = rowL l e m := by
  intro p hp
  obtain ⟨x, hx, hr⟩ := List.mem_filterMap.mp hp
  have ok := hF x hx
  unfold FF.res at hr
  by_cases hb : [x.a.w, x.b.w, x.d.w].any TW.isNs = true
  · rw [if_pos hb] at hr; cases hr
  · rw [if_neg hb] at hr
    obtain ⟨o0, o1, o2, e0, e1, e2⟩ := any_no (by simpa using hb)
    rw [e0, e1, e2, opt_wOf, opt_wOf, opt_wOf] at hr
    have t := ff_tri ok e0 e1 e2
    have := Option.some.inj hr
    subst this
    exact ⟨o0, setE o1 o2, setM o1 o2, tri_set t, (name_ok t).hname, rfl⟩
theorem ci_eq {a b : Int} (h : ci a b = .eq) : a = b := by
  unfold ci at h
  by_cases h1 : a < b
  · rw [if_pos h1] at h; cases h
  · by_cases h2 : b < a
    · rw [if_neg h1, if_pos h2] at h; cases h
    · omega
theorem lr_eq : ∀ {u v : List Int}, lr u v = .eq → u = v
  | [], [], _ => rfl
  | [], _ :: _, h => by cases h
  | _ :: _, [], h => by cases h
  | a :: u, b :: v, h => by
    have h' : (ci a b).then (lr u v) = .eq := h
    have h1 : ci a b = .eq := by
      cases q : ci a b with
      | eq => rfl
      | lt => rw [q] at h'; cases h'
      | gt => rw [q] at h'; cases h'
    rw [h1] at h'
    rw [ci_eq h1, lr_eq h']
theorem ci_pair {a b x y B : Int} (hx : 0 ≤ x ∧ x < B) (hy : 0 ≤ y ∧ y < B) : (ci a b).then (ci x y) = ci (a * B + x) (b * B + y) := by
  by_cases h1 : a < b
  · have : (a + 1) * B ≤ b * B := Int.mul_le_mul_of_nonneg_right (by omega) (by omega)
    rw [Int.add_mul] at this
    rw [ci_lt h1, show ci (a * B + x) (b * B + y) = .lt from ci_lt (by omega)]; rfl
  · by_cases h2 : b < a
    · have : (b + 1) * B ≤ a * B := Int.mul_le_mul_of_nonneg_right (by omega) (by omega)
      rw [Int.add_mul] at this
      rw [ci_gt h2, show ci (a * B + x) (b * B + y) = .gt from ci_gt (by omega)]; rfl
    · obtain rfl : a = b := by omega
      rw [ci_self]
      show ci x y = _
      by_cases h3 : x < y
      · rw [ci_lt h3, show ci (a * B + x) (a * B + y) = .lt from ci_lt (by omega)]
      · by_cases h4 : y < x
        · rw [ci_gt h4, show ci (a * B + x) (a * B + y) = .gt from ci_gt (by omega)]
        · obtain rfl : x = y := by omega
          rw [ci_self, ci_self]
noncomputable def BB : Int := 10000000000
noncomputable def codeR (r : List Int) : Int := ((r.getD 0 0 * BB + r.getD 1 0) * BB + r.getD 2 0) * BB + r.getD 3 0
noncomputable def RowOk (r : List Int) : Prop := ∃ a b c d, r = [a, b, c, d] ∧ (0 ≤ b ∧ b < BB) ∧ (0 ≤ c ∧ c < BB) ∧ (0 ≤ d ∧ d < BB)
theorem then_assoc (a b c : Ordering) : a.then (b.then c) = (a.then b).then c := by cases a <;> rfl
theorem lr_code {r s : List Int} (hr : RowOk r) (hs : RowOk s) : lr r s = ci (codeR r) (codeR s) := by
  obtain ⟨a, b, c, d, rfl, h1, h2, h3⟩ := hr
  obtain ⟨a', b', c', d', rfl, g1, g2, g3⟩ := hs
  have e : lr [a, b, c, d] [a', b', c', d'] = (ci a a').then (lr [b, c, d] [b', c', d']) := rfl
  rw [e, lr3, then_assoc, then_assoc, ci_pair h1 g1, ci_pair h2 g2, ci_pair h3 g3]
  rfl
theorem wd_top {x : Str} (h : Wd x) : 0 ≤ valW 6 x.cps.toList ∧ valW 6 x.cps.toList < 387420489 := by
  have := valW_bd 6 _ h.lo h.len6
  rwa [show (27 : Int) ^ 6 = 387420489 by decide] at this
theorem row_ok {l e m : Option Str} (h : Tri l e m) : RowOk (rowL l e m) := by
  have hm : 0 ≤ mn m ∧ mn m < BB := by
    unfold BB
    cases m with
    | none => exact ⟨by decide, by decide⟩
    | some x =>
      have := wd_top (h.m x rfl)
      show 0 ≤ 1 + valW 6 x.cps.toList ∧ 1 + valW 6 x.cps.toList < _
      omega
  rw [row_list h]
  cases e with
  | none =>
    cases m with
    | none => exact ⟨_, _, _, _, rfl, ⟨by decide, by decide⟩, ⟨by decide, by decide⟩, hm⟩
    | some y => exact ⟨_, 2, _, _, rfl, ⟨by decide, by decide⟩, ⟨by decide, by decide⟩, hm⟩
  | some x =>
    refine ⟨_, _, _, _, rfl, ⟨by decide, by decide⟩, ?_, hm⟩
    rcases h.e x rfl with w | rfl | rfl
    · rw [ec_wd w]
      have := wd_top w
      unfold BB
      omega
    · rw [ec_utf]; exact ⟨by decide, by decide⟩
    · rw [ec_iso]; exact ⟨by decide, by decide⟩
theorem idx_order {rows : List (List Int)} (hok : ∀ r ∈ rows, RowOk r) (hn : 1 ≤ rows.length) {r s : List Int} (hr : r ∈ rows) (hs : s ∈ rows) (hlt : codeR r < codeR s) : (sortRows rows).idxOf r < (sortRows rows).idxOf s := by
  have hat : ∀ i, i < rows.length → rows.getD i [] ∈ rows := fun i hi => by
    rw [List.getD_eq_getElem?_getD, List.getElem?_eq_getElem hi]; exact List.getElem_mem hi
  have hk : ksorted rows.length (ltRows rows) = ksorted rows.length (ltf fun i => codeR (rows.getD i [])) := by
    unfold ksorted
    rw [krun_congr (fun i j hi hj => ?_) (asks_sort (n := rows.length) (by omega))]
    have e := lr_code (hok _ (hat i hi)) (hok _ (hat j hj))
    unfold ltRows ltf
    refine decide_eq_decide.mpr ?_
    rw [← (lr_spec _ _).1, e]
    constructor
    · intro h
      by_cases h1 : codeR (rows.getD i []) < codeR (rows.getD j [])
      · exact h1
      · by_cases h2 : codeR (rows.getD j []) < codeR (rows.getD i [])
        · rw [ci_gt h2] at h; cases h
        · have e3 : codeR (rows.getD i []) = codeR (rows.getD j []) := by omega
          rw [e3, ci_self] at h; cases h
    · exact ci_lt
  have hsrt := ksorted_sorted hn (fun i => codeR (rows.getD i []))
  rw [← hk] at hsrt
  have hsrt2 : ((sortRows rows).map codeR).Pairwise (· ≤ ·) := by
    unfold sortRows
    rw [List.map_map]
    exact hsrt
  have hmem : ∀ {x}, x ∈ rows → x ∈ sortRows rows := fun {x} hx => by
    obtain ⟨i, hi, e⟩ := List.getElem_of_mem hx
    refine List.mem_map.mpr ⟨i, (ksorted_perm (by omega) (ltRows rows)).mem_iff.mpr (List.mem_range.mpr hi), ?_⟩
    rw [List.getD_eq_getElem?_getD, List.getElem?_eq_getElem hi]; exact e
  have h1 := List.idxOf_lt_length_iff.mpr (hmem hr)
  have h2 := List.idxOf_lt_length_iff.mpr (hmem hs)
  rcases Nat.lt_trichotomy ((sortRows rows).idxOf r) ((sortRows rows).idxOf s) with h | h | h
  · exact h
  · have a := List.getElem_idxOf h1
    have b := List.getElem_idxOf h2
    have : r = s := by rw [← a, ← b]; simp only [h]
    rw [this] at hlt; omega
  · have hp := List.pairwise_iff_getElem.mp hsrt2 ((sortRows rows).idxOf s) ((sortRows rows).idxOf r) (by rw [List.length_map]; exact h2) (by rw [List.length_map]; exact h1) h
    rw [List.getElem_map, List.getElem_map, List.getElem_idxOf h1, List.getElem_idxOf h2] at hp
    omega
theorem getD_map {α β : Type} (f : α → β) {l : List α} {i : Nat} (hi : i < l.length) (d : β) : (l.map f).getD i d = f l[i] := by
  rw [List.getD_eq_getElem?_getD, List.getElem?_map, List.getElem?_eq_getElem hi]; rfl
theorem plain_law (ns : List Int) (H : Nat → Bool) (hH : ∀ c, H c = inC4 c) : Plain H ((ns.take 3).map figF ++ ownF) := by
  have hF : ∀ x ∈ (ns.take 3).map figF ++ ownF, x.Ok := by
    intro x hx
    rcases List.mem_append.mp hx with hx | hx
    · obtain ⟨n, _, rfl⟩ := List.mem_map.mp hx
      exact figF_ok n
    · exact own_ok x hx
  have h2 : 2 ≤ (kept ((ns.take 3).map figF ++ ownF)).length := by
    unfold kept
    rw [List.filterMap_append, List.length_append]
    have : 2 ≤ (List.filterMap FF.res ownF).length := kept_own
    omega
  generalize (ns.take 3).map figF ++ ownF = FL at *
  have ht := kept_tri hF
  have hok : ∀ r ∈ (kept FL).map (·.2), RowOk r := by
    intro r hr
    obtain ⟨p, hp, rfl⟩ := List.mem_map.mp hr
    obtain ⟨l, e, m, t, _, e2⟩ := ht p hp
    rw [e2]; exact row_ok t
  refine ⟨fun x hx => ff_good hH (hF x hx), fun r hr => ?_, h2, fun i j hi hj => ?_⟩
  · obtain ⟨a, b, c, d, rfl, _⟩ := hok r hr
    rfl
  · have hlen : ((kept FL).map (·.2)).length = (kept FL).length := List.length_map ..
    unfold placesOf
    have g1 := getD_map (fun p : Str × List Int => p.1) hi PySem.Str.empty
    have g2 := getD_map (fun p : Str × List Int => p.1) hj PySem.Str.empty
    have g3 := getD_map (fun r => (((sortRows ((kept FL).map (·.2))).idxOf r : Nat) : Int)) (l := (kept FL).map (·.2)) (i := i) (by rw [hlen]; exact hi) 0
    have g4 := getD_map (fun r => (((sortRows ((kept FL).map (·.2))).idxOf r : Nat) : Int)) (l := (kept FL).map (·.2)) (i := j) (by rw [hlen]; exact hj) 0
    rw [g1, g2, g3, g4]
    simp only [List.getElem_map]
    have mi := List.getElem_mem hi
    have mj := List.getElem_mem hj
    generalize (kept FL)[i] = p at *
    generalize (kept FL)[j] = q at *
    obtain ⟨l, e, m, t, e1, e2⟩ := ht p mi
    obtain ⟨l', e', m', t', e1', e2'⟩ := ht q mj
    have rp : p.2 ∈ (kept FL).map (·.2) := List.mem_map_of_mem mi
    have rq : q.2 ∈ (kept FL).map (·.2) := List.mem_map_of_mem mj
    have key : lc p.1.cps.toList q.1.cps.toList = ci (codeR p.2) (codeR q.2) := by
      rw [e1, e1', name_cmp t t', ← e2, ← e2', lr_code (hok _ rp) (hok _ rq)]
    have sp := lc_spec p.1.cps.toList q.1.cps.toList
    have hn1 : 1 ≤ ((kept FL).map (·.2)).length := by rw [hlen]; omega
    unfold cmpS
    by_cases c1 : codeR p.2 < codeR q.2
    · rw [ci_lt c1] at key
      have a1 := sp.1.mp key
      have a2 : ¬ q.1.cps.toList < p.1.cps.toList := fun h => by
        have := sp.2.mpr h; rw [key] at this; cases this
      have a3 := idx_order hok hn1 rp rq c1
      rw [decide_eq_true a1, decide_eq_false a2]
      show (0 : Int) - 1 = _
      omega
    · by_cases c2 : codeR q.2 < codeR p.2
      · rw [ci_gt c2] at key
        have a1 := sp.2.mp key
        have a2 : ¬ p.1.cps.toList < q.1.cps.toList := fun h => by
          have := sp.1.mpr h; rw [key] at this; cases this
        have a3 := idx_order hok hn1 rq rp c2
        rw [decide_eq_true a1, decide_eq_false a2]
        show (1 : Int) - 0 = _
        omega
      · have c3 : codeR p.2 = codeR q.2 := by omega
        have c4 : p.2 = q.2 := lr_eq (by rw [lr_code (hok _ rp) (hok _ rq), c3, ci_self])
        rw [c3, ci_self] at key
        have a1 : ¬ q.1.cps.toList < p.1.cps.toList := fun h => by
          have := sp.2.mpr h; rw [key] at this; cases this
        have a2 : ¬ p.1.cps.toList < q.1.cps.toList := fun h => by
          have := sp.1.mpr h; rw [key] at this; cases this
        rw [decide_eq_false a1, decide_eq_false a2, c4]
        show (0 : Int) - 0 = _
        omega
end Il
theorem PySem.Challenge.cw_il0214_01_holds : PySem.Challenge.rw_il0214_01.Holds :=
  Il.holds_of (Il.law_ok (Il.law_runs Il.plain_law))
